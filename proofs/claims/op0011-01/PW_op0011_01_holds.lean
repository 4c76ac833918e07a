import PyProof.Rows.All
import Wide.All
import OpenK.AllK
import Wide.FinOn
import PySem.Challenge.RW_op0011_01
set_option Elab.async false
set_option rowWalk.seconds 0
section
open PySem PySem.W PyProof.Rows
set_option Elab.async false
namespace Mine
set_option maxRecDepth 100000 in
set_option maxHeartbeats 8000000 in
open_top hd for PySem.Challenge.rw_op0011_01
end Mine
end
section
open PySem PySem.W PyProof.Rows PySem.Calls PySem.Spec
set_option Elab.async false
set_option maxRecDepth 100000
set_option maxHeartbeats 8000000
namespace Mine

abbrev fsOf (fr : List Env) : List Addr := fr.filterMap (·.frame)
abbrev mkA (dp un : Nat) (gd : Option (List Code)) (fr : List Env) : Around := { handled := none, depth := dp, frames := some fr, guards := gd, units := un }
abbrev PG : Program := Challenge.rw_op0011_01.row.prog
abbrev TP (mean : ExcName → Option Value) (mg mb : Str → Option Value) (h : Heap) : Prop := Top Mine.hd.view_39 (looseW Mine.hd.view_39 []) mean mg mb h

structure Pre (w : World) (mean : ExcName → Option Value) (mg mb : Str → Option Value) (base : Heap) (fr : List Env) (h : Heap) : Prop where
  stays : base.StaysIn h
  frs : h.FunFrames base fr
  dicts : KtsDicts (fsOf fr) h
  kin : (Mine.hd.heap_39 w.params).In base
  top : TP mean mg mb base

structure Kept (fs M : List Addr) (h h' : Heap) : Prop where
  same : ∀ b o, h.get? b = some o → b ∉ M → b ∉ fs → h'.get? b = some o
  up : ∀ b o, h.get? b = some o → b ∉ M → ∃ sl, h'.get? b = some { o with slots := sl }

def At (base : Heap) (fs : List Addr) (h : Heap) (l : List (Addr × Obj)) : Prop := ∀ p ∈ l, h.get? p.1 = some p.2 ∧ base.get? p.1 = none ∧ p.1 ∉ fs

structure Hid (M : List Addr) (h g : Heap) : Prop where
  sub : ∀ b o, g.get? b = some o → h.get? b = some o
  keep : ∀ b o, h.get? b = some o → b ∉ M → g.get? b = some o

/-- what the body's end shows -/
def Done (base : Heap) (fs tf : List Addr) (g : Heap) (h : Heap) (M : List Addr) (R : Value → Shared → Prop) (v : Value) (s' : Shared) : Prop :=
  ∃ g' L' m' news', KtsTurn tf g g' ∧ Fr g' L' s'.heap m' ∧ News g' L' s'.heap news' ∧
    (Kept tf M h s'.heap → At base fs s'.heap news' → (∀ p ∈ news', p.1 ∈ M ∨ h.get? p.1 = none) → R v s')

section
variable {w : World} {mean : ExcName → Option Value} {mg mb : Str → Option Value} {base : Heap} {A : Around} {fr : List Env} {s : Shared} {small : List (Addr × Obj)}

theorem Pre.hide (P : Pre w mean mg mb base fr s.heap) (S : At base (fsOf fr) s.heap small) (hA : A.frames = some fr) :
    Below A base fr (hideAll s.heap (small.map (·.1))) ∧ KtsDicts (fsOf fr) (hideAll s.heap (small.map (·.1))) ∧ base.StaysIn (hideAll s.heap (small.map (·.1))) := by
  have nb : ∀ b o, base.get? b = some o → b ∉ small.map (·.1) := fun b o e q => by
    obtain ⟨p, hp, rfl⟩ := List.mem_map.mp q
    rw [(S p hp).2.1] at e; cases e
  have st : base.StaysIn (hideAll s.heap (small.map (·.1))) := fun b o e => hideAll_get _ (P.stays b o e) (nb b o e)
  have nf : ∀ b ∈ fsOf fr, b ∉ small.map (·.1) := fun b hb q => by
    obtain ⟨p, hp, rfl⟩ := List.mem_map.mp q
    exact (S p hp).2.2 hb
  refine ⟨⟨hA, st, funFrames_hideAll P.frs fun env he b hb hf => ?_⟩, fun b hb => ?_, st⟩
  · exact nf b (List.mem_filterMap.mpr ⟨env, he, hf⟩) hb
  · obtain ⟨o, es, n, ho, hd⟩ := P.dicts b hb
    exact ⟨o, es, n, hideAll_get _ ho (nf b hb), hd⟩

theorem Done.out {R : Value → Shared → Prop} {v : Value} {s' : Shared} {tf : List Addr} (P : Pre w mean mg mb base fr s.heap) (S : At base (fsOf fr) s.heap small)
    (d : Done base (fsOf fr) tf (hideAll s.heap (small.map (·.1))) s.heap (small.map (·.1)) R v s') : R v s' := by
  obtain ⟨_, D, st⟩ := P.hide (A := { frames := some fr }) S rfl
  obtain ⟨g', L', m', news', T, F, N, k⟩ := d
  refine k ⟨fun b o e hm hf => ?_, fun b o e hm => ?_⟩ (fun p hp => ⟨(N p hp).1, ?_, fun hf => ?_⟩) fun p hp => ?_
  · exact F.keep b o (T.other b o (hideAll_get _ e hm) hf)
  · obtain ⟨sl, hs⟩ := T.up (hideAll_get _ e hm)
    exact ⟨sl, F.keep _ _ hs⟩
  · cases q : base.get? p.1 with
    | none => rfl
    | some o =>
      obtain ⟨sl, hs⟩ := T.up (st _ _ q)
      have := (N p hp).2.2
      rw [hs] at this; cases this
  · obtain ⟨o, es, n, ho, hd⟩ := D _ hf
    obtain ⟨sl, hs⟩ := T.up ho
    have := (N p hp).2.2
    rw [hs] at this; cases this
  · by_cases hm : p.1 ∈ small.map (·.1)
    · exact .inl hm
    · right
      cases q : s.heap.get? p.1 with
      | none => rfl
      | some o =>
        obtain ⟨sl, hs⟩ := T.up (hideAll_get _ q hm)
        have := (N p hp).2.2
        rw [hs] at this; cases this

variable {R : Result → Shared → Prop} {name qual : Str} {params : Arguments} {body : List Stmt} {scope : Scope} {dV kV doc pm cdv ct oc : Value} {an od : Option Addr} {osl : Array (Option Value)} {f : Addr} {args : Args} {binds : List (Str × Value)}

theorem enterP (tf : List Addr) (P : Pre w mean mg mb base fr s.heap) (S : At base (fsOf fr) s.heap small) (hA : A.frames = some fr)
    (ho : (Mine.hd.heap_39 w.params).lookup f = some ⟨oc, od, .func (fnOf name qual params body scope dV kV doc pm an cdv ct), osl⟩) (hcd : codeIn (Mine.hd.heap_39 w.params) cdv qual = true) (hroom : A.depth < recursionLimit)
    (hbind : BindsTo s (fnOf name qual params body scope dV kV doc pm an cdv ct) args binds) (hloc : ∀ y ∈ binds, scope.names.lookup y.1 = some .local)
    (h : ∀ g L' h₁, Fr g L' h₁ (fun y => binds.reverse.lookup y) → News g L' h₁ small → Below A base fr g → (Mine.hd.heap_39 w.params).In g → TP mean mg mb g → KtsDicts (fsOf fr) g → (∀ p ∈ small, p.1 < L') → Hid (small.map (·.1)) s.heap g →
      wpAny (model PG w) (A.deeper (envOf qual scope L' f cdv)) (execs body (envOf qual scope L' f cdv))
        (fun fl s' => Done base (fsOf fr) tf g s.heap (small.map (·.1)) (fun v s' => R (.ok (.ret v)) s') (match fl with | .ret v => v | _ => .none) s')
        (fun e s' => wpAny (model PG w) (A.deeper (envOf qual scope L' f cdv)) (leaving (envOf qual scope L' f cdv) e) (fun _ s'' => R (.error e) s'') (fun e' s'' => R (.error e') s'') s')
        { s with heap := h₁, toks := s.toks + binds.length })
    (hco : scope.isCoroutine = false := by rfl) (hgen : scope.isGenerator = false := by rfl) (hk : scope.kind = .function := by rfl)
    (hcell : ∀ x ∈ scope.names, x.2 ≠ .cell := by decide) : codeAny (model PG w) A (.call (.ref f) args) R s := by
  have X := P.kin.keeps P.stays
  have T := P.top.keeps P.stays
  obtain ⟨B, D, st⟩ := P.hide S hA
  refine codeAny_call_def (fd := fnOf name qual params body scope dV kV doc pm an cdv ct) (body := body) (binds := binds) hroom (X _ _ ho) rfl T.nolimit (codeRec_of X hcd) rfl hbind hcell hloc (fun h₁ hns hk₁ => ?_) hco hgen hk
  refine wpAny_mono (h _ s.heap.objs.size h₁ ⟨hns, fun b o e => hk₁ b o (of_hideAll _ e), Nat.le_of_eq (hideAll_size _ _)⟩
    (fun p hp => ⟨hk₁ _ _ (S p hp).1, Nat.ne_of_lt (Heap.lt_size (S p hp).1), hideAll_none _ (List.mem_map_of_mem hp)⟩) B (P.kin.keeps st) (P.top.keeps st) D (fun p hp => Heap.lt_size (S p hp).1) ⟨fun b o e => of_hideAll _ e, fun b o e hm => hideAll_get _ e hm⟩) (fun fl s' hl => Done.out P S hl) fun _ _ y => y
end

section
variable {w : World} {mean : ExcName → Option Value} {mg mb : Str → Option Value} {base g h h' : Heap} {A₀ : Around} {outer : List Env} {L : Addr} {m : Str → Option Value} {M : List Addr}

theorem regain (B : Below A₀ base outer g) (F : Fr g L h m) (D : KtsDicts (fsOf outer) g) (K : Kept (L :: fsOf outer) M h h') (hM : ∀ a ∈ M, g.get? a = none ∧ a ≠ L)
    (XB : (Mine.hd.heap_39 w.params).In base) (TB : TP mean mg mb base) :
    ∃ g', KtsTurn (fsOf outer) g g' ∧ Fr g' L h' m ∧ Below A₀ base outer g' ∧ (Mine.hd.heap_39 w.params).In g' ∧ TP mean mg mb g' ∧ KtsDicts (fsOf outer) g' := by
  have nL := kts_self F
  have nM : ∀ b o, g.get? b = some o → b ∉ M := fun b o e q => by rw [(hM b q).1] at e; cases e
  obtain ⟨T, S⟩ := kts_turn_at (h := h') (fs := fsOf outer) (g := g)
    (fun b hb => by obtain ⟨o, _, _, ho, _⟩ := D b hb; exact ⟨o, ho⟩)
    (fun b o e nm => K.same b o (F.keep b o e) (nM b o e) (fun q => by
      rcases List.mem_cons.mp q with rfl | q
      · rw [nL] at e; cases e
      · exact nm q))
    (fun b o e _ => K.up b o (F.keep b o e) (nM b o e))
  obtain ⟨oL, es, ep, hL, hLd, hLk, hLf⟩ := F.ns
  obtain ⟨sl, hs⟩ := K.up L oL hL (fun q => (hM L q).2 rfl)
  have B' : Below A₀ base outer (ktsHeap h' (fsOf outer) g) := ⟨B.stack, fun b o e => T.other b o (B.stays b o e) (fun hm => by
    rw [(B.frames.mem hm).1] at e; cases e), B.frames.of_keeps fun b o e _ => by
    obtain ⟨sl', hs'⟩ := T.up e
    exact ⟨_, hs', rfl⟩⟩
  exact ⟨_, T, ⟨⟨_, es, ep, hs, hLd, hLk, hLf⟩, S, by rw [T.size]; exact F.above⟩, B', XB.keeps B'.stays, TB.keeps B'.stays, D.turn T⟩

theorem Pre.of (B : Below A₀ base outer g) (F : Fr g L h m) (D : KtsDicts (fsOf outer) g) (XB : (Mine.hd.heap_39 w.params).In base) (TB : TP mean mg mb base) {env : Env} (hf : env.frame = some L) (hk : env.scope.kind = .function) :
    Pre w mean mg mb base (env :: outer) h := by
  have B' := pushX B F hf hk
  refine ⟨B'.stays, B'.frames, fun b hb => ?_, XB, TB⟩
  obtain ⟨env', he, hf'⟩ := List.mem_filterMap.mp hb
  rcases List.mem_cons.mp he with rfl | he
  · have e := Option.some.inj (hf.symm.trans hf'); subst e
    obtain ⟨oL, es, ep, hL, hLd, _⟩ := F.ns
    exact ⟨oL, es, ep, hL, hLd⟩
  · obtain ⟨o, es, n, ho, hd⟩ := D b (List.mem_filterMap.mpr ⟨env', he, hf'⟩)
    exact ⟨o, es, n, F.keep _ _ ho, hd⟩

theorem fsOf_cons {env : Env} (hf : env.frame = some L) : fsOf (env :: outer) = L :: fsOf outer := by
  unfold fsOf; rw [List.filterMap_cons, hf]

theorem At.of {news small : List (Addr × Obj)} (B : Below A₀ base outer g) (D : KtsDicts (fsOf outer) g) (N : News g L h news) (hs : ∀ p ∈ small, p ∈ news) {env : Env} (hf : env.frame = some L) : At base (fsOf (env :: outer)) h small := by
  intro p hp
  obtain ⟨n1, n2, n3⟩ := N p (hs p hp)
  refine ⟨n1, fresh_of_stays B.stays n3, fun q => ?_⟩
  rw [fsOf_cons hf] at q
  rcases List.mem_cons.mp q with q | q
  · exact n2 q
  · obtain ⟨o, _, _, ho, _⟩ := D _ q
    rw [n3] at ho; cases ho
end

abbrev tfs (t : Bool) (fr : List Env) : List Addr := match t with | true => fsOf fr | false => []

/-- a contract; t: it may turn the frames' slots -/
def Spec (t : Bool) (w : World) (mean : ExcName → Option Value) (mg mb : Str → Option Value) (f : Addr) (args : List Value) (dep uni : Nat) (small : List (Addr × Obj)) (Post : Value → List (Addr × Obj) → Prop) : Prop :=
  ∀ (base : Heap) (dp un : Nat) (gd : Option (List Code)) (fr : List Env) (s : Shared) (Q E : Value → Shared → Prop),
    Pre w mean mg mb base fr s.heap → At base (fsOf fr) s.heap small → dp + dep < recursionLimit → un + uni < cLine →
    (∀ v h' tk' small', Kept (tfs t fr) (small.map (·.1)) s.heap h' → At base (fsOf fr) h' small' → (∀ p ∈ small', p.1 ∈ small.map (·.1) ∨ s.heap.get? p.1 = none) → Post v small' → Q v { s with heap := h', toks := tk' }) →
    wpAny (model PG w) (mkA dp un gd fr) (call (.ref f) args) Q E s

section
variable {w : World} {mean : ExcName → Option Value} {mg mb : Str → Option Value} {base g : Heap} {A₀ : Around} {outer : List Env} {L : Addr} {m : Str → Option Value} {s : Shared} {f : Addr} {args : List Value} {dep uni : Nat} {small : List (Addr × Obj)} {Post : Value → List (Addr × Obj) → Prop}

theorem Spec.use (C : Spec true w mean mg mb f args dep uni small Post) {dp un : Nat} {gd : Option (List Code)} {env : Env} {news : List (Addr × Obj)} {Q E : Value → Shared → Prop} (big : List (Addr × Obj))
    (B : Below A₀ base outer g) (F : Fr g L s.heap m) (N : News g L s.heap news) (D : KtsDicts (fsOf outer) g) (XB : (Mine.hd.heap_39 w.params).In base) (TB : TP mean mg mb base)
    (hf : env.frame = some L) (hk : env.scope.kind = .function) (hd : dp + dep < recursionLimit) (hu : un + uni < cLine)
    (hs : ∀ p ∈ small, p ∈ news) (hb : ∀ p ∈ big, p ∈ news) (hx : ∀ p ∈ big, p.1 ∉ small.map (·.1))
    (k : ∀ v g' h' tk' small', KtsTurn (fsOf outer) g g' → Fr g' L h' m → News g' L h' (small' ++ big) → Below A₀ base outer g' → (Mine.hd.heap_39 w.params).In g' → TP mean mg mb g' → KtsDicts (fsOf outer) g' →
      (∀ p ∈ small', p.1 ∈ small.map (·.1) ∨ ∀ q ∈ news, p.1 ≠ q.1) → Post v small' → Q v { s with heap := h', toks := tk' }) :
    wpAny (model PG w) (mkA dp un gd (env :: outer)) (call (.ref f) args) Q E s := by
  refine C base dp un gd (env :: outer) s Q E (Pre.of B F D XB TB hf hk) (At.of B D N hs hf) hd hu fun v h' tk' small' K' A' hn hp => ?_
  replace K' : Kept (fsOf (env :: outer)) (small.map (·.1)) s.heap h' := K'
  rw [fsOf_cons hf] at K' A'
  obtain ⟨g', T', F', B', X', P', D'⟩ := regain B F D K' (fun a ha => by
    obtain ⟨p, hp, rfl⟩ := List.mem_map.mp ha
    exact ⟨(N p (hs p hp)).2.2, (N p (hs p hp)).2.1⟩) XB TB
  refine k v g' h' tk' small' T' F' (fun p hp => ?_) B' X' P' D' (fun p hp => (hn p hp).imp id fun e q hq z => by
    rw [z, (N q hq).1] at e; cases e) hp
  rcases List.mem_append.mp hp with hp | hp
  · obtain ⟨a1, a2, a3⟩ := A' p hp
    refine ⟨a1, fun q => a3 (by rw [q]; exact .head _), T'.none_ _ ?_⟩
    cases q : g.get? p.1 with
    | none => rfl
    | some o =>
      exfalso
      rcases hn p hp with z | z
      · obtain ⟨p', hp', e⟩ := List.mem_map.mp z
        have := (N p' (hs p' hp')).2.2
        rw [show p'.1 = p.1 from e, q] at this; cases this
      · rw [F.keep _ _ q] at z; cases z
  · obtain ⟨n1, n2, n3⟩ := N p (hb p hp)
    refine ⟨K'.same _ _ n1 (hx p hp) (fun q => ?_), n2, T'.none_ _ n3⟩
    rcases List.mem_cons.mp q with q | q
    · exact n2 q
    · obtain ⟨o, _, _, ho, _⟩ := D _ q
      rw [n3] at ho; cases ho

theorem Spec.useP (C : Spec false w mean mg mb f args dep uni small Post) {dp un : Nat} {gd : Option (List Code)} {env : Env} {news : List (Addr × Obj)} {Q E : Value → Shared → Prop} (big : List (Addr × Obj))
    (B : Below A₀ base outer g) (F : Fr g L s.heap m) (N : News g L s.heap news) (D : KtsDicts (fsOf outer) g) (XB : (Mine.hd.heap_39 w.params).In base) (TB : TP mean mg mb base)
    (hf : env.frame = some L) (hk : env.scope.kind = .function) (hd : dp + dep < recursionLimit) (hu : un + uni < cLine)
    (hs : ∀ p ∈ small, p ∈ news) (hb : ∀ p ∈ big, p ∈ news) (hx : ∀ p ∈ big, p.1 ∉ small.map (·.1))
    (k : ∀ v h' tk' small', Fr g L h' m → News g L h' (small' ++ big) → (∀ p ∈ small', p.1 ∈ small.map (·.1) ∨ ∀ q ∈ news, p.1 ≠ q.1) → Post v small' → Q v { s with heap := h', toks := tk' }) :
    wpAny (model PG w) (mkA dp un gd (env :: outer)) (call (.ref f) args) Q E s := by
  refine C base dp un gd (env :: outer) s Q E (Pre.of B F D XB TB hf hk) (At.of B D N hs hf) hd hu fun v h' tk' small' K' A' hn hp => ?_
  rw [fsOf_cons hf] at A'
  have nM : ∀ b o, g.get? b = some o → b ∉ small.map (·.1) := fun b o e q => by
    obtain ⟨p, hp, rfl⟩ := List.mem_map.mp q
    rw [(N p (hs p hp)).2.2] at e; cases e
  have nL : L ∉ small.map (·.1) := fun q => by
    obtain ⟨p, hp, e⟩ := List.mem_map.mp q
    exact (N p (hs p hp)).2.1 e
  obtain ⟨oL, es, ep, hL, hLd, hLk, hLf⟩ := F.ns
  refine k v h' tk' small' ⟨⟨oL, es, ep, K'.same _ _ hL nL (fun q => nomatch q), hLd, hLk, hLf⟩, fun b o e => K'.same b o (F.keep b o e) (nM b o e) (fun q => nomatch q), F.above⟩ (fun p hp => ?_) (fun p hp => (hn p hp).imp id fun e q hq z => by
    rw [z, (N q hq).1] at e; cases e) hp
  rcases List.mem_append.mp hp with hp | hp
  · obtain ⟨a1, a2, a3⟩ := A' p hp
    refine ⟨a1, fun q => a3 (by rw [q]; exact .head _), ?_⟩
    cases q : g.get? p.1 with
    | none => rfl
    | some o =>
      exfalso
      rcases hn p hp with z | z
      · obtain ⟨p', hp', e⟩ := List.mem_map.mp z
        have := (N p' (hs p' hp')).2.2
        rw [show p'.1 = p.1 from e, q] at this; cases this
      · rw [F.keep _ _ q] at z; cases z
  · obtain ⟨n1, n2, n3⟩ := N p (hb p hp)
    exact ⟨K'.same _ _ n1 (hx p hp) (fun q => nomatch q), n2, n3⟩
end

/-- a contract of a call that raises -/
def SpecE (w : World) (mean : ExcName → Option Value) (mg mb : Str → Option Value) (f : Addr) (args : List Value) (dep uni : Nat) (small small' : List (Addr × Obj)) (cls : String) : Prop :=
  ∀ (base : Heap) (dp un : Nat) (gd : Option (List Code)) (fr : List Env) (s : Shared) (Q E : Value → Shared → Prop),
    Pre w mean mg mb base fr s.heap → At base (fsOf fr) s.heap small → dp + dep < recursionLimit → un + uni < cLine →
    (∀ e h' tk' g, RaisedSN base g fr e (.type cls) small' h' → g.UpToSlots h' → Hid (small.map (·.1)) s.heap g → E (.ref e) { s with heap := h', toks := tk' }) →
    wpAny (model PG w) (mkA dp un gd fr) (call (.ref f) args) Q E s

theorem RaisedSN.wide {base G : Heap} {l : List Env} {e : Addr} {cls : Value} {news big : List (Addr × Obj)} {h : Heap} (R : RaisedSN base G l e cls news h)
    (hb : ∀ q ∈ big, G.get? q.1 = some q.2 ∧ q.1 ∉ fsOf l ∧ base.get? q.1 = none) : RaisedSN base (hideAll G (big.map (·.1))) l e cls (news ++ big) h := by
  obtain ⟨B, a0, hB, hBG, hl, hfl⟩ := R
  refine ⟨B, a0, hB, fun b o e nm => hBG b o (of_hideAll _ e) nm, fun q hq => ?_, hfl⟩
  rcases List.mem_append.mp hq with hq | hq
  · refine ⟨(hl q hq).1, ?_, (hl q hq).2.2⟩
    cases z : (hideAll G (big.map (·.1))).get? q.1 with
    | none => rfl
    | some o => have := of_hideAll _ z; rw [(hl q hq).2.1] at this; cases this
  · exact ⟨hBG _ _ (hb q hq).1 (hb q hq).2.1, hideAll_none _ (List.mem_map_of_mem hq), (hb q hq).2.2⟩

section
variable {w : World} {mean : ExcName → Option Value} {mg mb : Str → Option Value} {base g : Heap} {A₀ : Around} {outer : List Env} {L : Addr} {m : Str → Option Value} {s : Shared} {f : Addr} {args : List Value} {dep uni : Nat} {small small' : List (Addr × Obj)} {cls : String}

theorem SpecE.use (C : SpecE w mean mg mb f args dep uni small small' cls) {dp un : Nat} {gd : Option (List Code)} {env : Env} {news : List (Addr × Obj)} {Q E : Value → Shared → Prop} (big : List (Addr × Obj))
    (B : Below A₀ base outer g) (F : Fr g L s.heap m) (N : News g L s.heap news) (D : KtsDicts (fsOf outer) g) (XB : (Mine.hd.heap_39 w.params).In base) (TB : TP mean mg mb base)
    (hf : env.frame = some L) (hk : env.scope.kind = .function) (hd : dp + dep < recursionLimit) (hu : un + uni < cLine)
    (hs : ∀ p ∈ small, p ∈ news) (hb : ∀ p ∈ big, p ∈ news) (hx : ∀ p ∈ big, p.1 ∉ small.map (·.1))
    (k : ∀ e h' tk' G, RaisedSN base G (env :: outer) e (.type cls) (small' ++ big) h' → Fr g L G m → G.UpToSlots h' → E (.ref e) { s with heap := h', toks := tk' }) :
    wpAny (model PG w) (mkA dp un gd (env :: outer)) (call (.ref f) args) Q E s := by
  refine C base dp un gd (env :: outer) s Q E (Pre.of B F D XB TB hf hk) (At.of B D N hs hf) hd hu fun e h' tk' G R U H => ?_
  have ab := At.of (small := big) B D N hb hf
  have nb : ∀ b, b ∈ big.map (·.1) → g.get? b = none ∧ b ≠ L := fun b hm => by
    obtain ⟨p, hp, rfl⟩ := List.mem_map.mp hm
    exact ⟨(N p (hb p hp)).2.2, (N p (hb p hp)).2.1⟩
  have ns : ∀ b, b ∈ small.map (·.1) → g.get? b = none ∧ b ≠ L := fun b hm => by
    obtain ⟨p, hp, rfl⟩ := List.mem_map.mp hm
    exact ⟨(N p (hs p hp)).2.2, (N p (hs p hp)).2.1⟩
  refine k e h' tk' (hideAll G (big.map (·.1))) (RaisedSN.wide R fun q hq => ⟨H.keep _ _ (ab q hq).1 (hx q hq), (ab q hq).2.2, (ab q hq).2.1⟩) ?_ (fun b o e => U b o (of_hideAll _ e))
  obtain ⟨oL, es, ep, hL, hLd, hLk, hLf⟩ := F.ns
  refine ⟨⟨oL, es, ep, hideAll_get _ (H.keep _ _ hL fun q => (ns L q).2 rfl) (fun q => (nb L q).2 rfl), hLd, hLk, hLf⟩, fun b o e => hideAll_get _ (H.keep _ _ (F.keep b o e) fun q => ?_) fun q => ?_, F.above⟩
  · rw [(ns b q).1] at e; cases e
  · rw [(nb b q).1] at e; cases e
end
end Mine
end
section
open PySem PySem.W PyProof.Rows PySem.Calls PySem.Spec
set_option Elab.async false
set_option maxRecDepth 100000
set_option maxHeartbeats 8000000
namespace Mine

/-- the rest of a while loop, shut to the walk -/
structure Rest (prog : Program) (w : World) (A : Around) (E : Value → Shared → Prop) (env : Env) (test : PySem.Expr) (body orelse : List Stmt) (Q : Flow → Shared → Prop) (s : Shared) : Prop where
  out : WhlRest prog w A E env test body orelse Q 0 s

section
variable {prog : Program} {w : World} {A : Around} {E : Value → Shared → Prop} {s : Shared} {env : Env} {test : PySem.Expr} {body orelse : List Stmt} {Q : Flow → Shared → Prop}

theorem rest_start {pos : Pos} (h : Rest prog w A E env test body orelse Q s) : wpAny (model prog w) A (exec (.While test body orelse pos) env) Q E s := whl_start 0 h.out

theorem rest_turn (hE : PassesOwn (model prog w) A env E)
    (h : wpAny (model prog w) A (isTrue test env (eval test env)) (fun b s₂ => WhlIf b (wpAny (model prog w) A (execs body env) (fun f s₃ => match f with
      | .next => Rest prog w A E env test body orelse Q s₃
      | .cont => Rest prog w A E env test body orelse Q s₃
      | .brk => Q .next s₃
      | .ret v => Q (.ret v) s₃) E s₂) (wpAny (model prog w) A (execs orelse env) Q E s₂)) E s) : Rest prog w A E env test body orelse Q s := by
  refine ⟨?_⟩
  refine whl_turn (k := 0) hE (wpAny_mono h (fun b s₂ h₂ => ?_) fun _ _ x => x)
  cases b with
  | false => exact WhlIf.no rfl (by unfold WhlIf at h₂; rw [if_neg Bool.false_ne_true] at h₂; exact h₂)
  | true =>
    refine WhlIf.yes rfl ?_
    unfold WhlIf at h₂
    rw [if_pos rfl] at h₂
    refine wpAny_mono h₂ (fun f s₃ h₃ => ?_) fun _ _ x => x
    cases f with
    | next => exact h₃.out
    | cont => exact h₃.out
    | brk => exact h₃
    | ret v => exact h₃

theorem rest_of {g : Heap} {L : Addr} {m : Str → Option Value} {news₀ : List (Addr × Obj)} (I : Nat → (Str → Option Value) → List (Addr × Obj) → Prop) (F : Fr g L s.heap m) (N : News g L s.heap news₀) (n₀ : Nat) (h0 : I n₀ m news₀)
    (step : ∀ n h tk m news, Fr g L h m → News g L h news → I n m news → (∀ n' h' tk' m' news', n' < n → Fr g L h' m' → News g L h' news' → I n' m' news' → Rest prog w A E env test body orelse Q { s with heap := h', toks := tk' }) →
      Rest prog w A E env test body orelse Q { s with heap := h, toks := tk }) : Rest prog w A E env test body orelse Q s := by
  have all : ∀ n h tk m news, Fr g L h m → News g L h news → I n m news → Rest prog w A E env test body orelse Q { s with heap := h, toks := tk } := by
    intro n
    induction n using Nat.strongRecOn with
    | ind n ih => exact fun h tk m news F N hI => step n h tk m news F N hI fun n' h' tk' m' news' hn F' N' hI' => ih n' hn h' tk' m' news' F' N' hI'
  exact all n₀ s.heap s.toks m news₀ F N h0

theorem rest_ofm {g : Heap} {L : Addr} {m : Str → Option Value} {news₀ : List (Addr × Obj)} (I : Nat → List (Addr × Obj) → Prop) (F : Fr g L s.heap m) (N : News g L s.heap news₀) (n₀ : Nat) (h0 : I n₀ news₀)
    (step : ∀ n h tk news, Fr g L h m → News g L h news → I n news → (∀ n' h' tk' news', n' < n → Fr g L h' m → News g L h' news' → I n' news' → Rest prog w A E env test body orelse Q { s with heap := h', toks := tk' }) →
      Rest prog w A E env test body orelse Q { s with heap := h, toks := tk }) : Rest prog w A E env test body orelse Q s :=
  rest_of (fun n m' news => m' = m ∧ I n news) F N n₀ ⟨rfl, h0⟩ fun n h tk m' news F' N' hI ih => by
    obtain ⟨rfl, hI⟩ := hI
    exact step n h tk news F' N' hI fun n' h' tk' news' hn F'' N'' hI' => ih n' h' tk' _ news' hn F'' N'' ⟨rfl, hI'⟩

/-- two names of the frame turn -/
theorem rest_of2 {g : Heap} {L : Addr} {a b : Str} {x₀ z₀ : Option Value} {m : Str → Option Value} {news₀ : List (Addr × Obj)} (I : Nat → Option Value → Option Value → List (Addr × Obj) → Prop)
    (F : Fr g L s.heap (fun y => if y = a then x₀ else if y = b then z₀ else m y)) (N : News g L s.heap news₀) (n₀ : Nat) (h0 : I n₀ x₀ z₀ news₀)
    (step : ∀ n h tk x z news, Fr g L h (fun y => if y = a then x else if y = b then z else m y) → News g L h news → I n x z news →
      (∀ n' h' tk' x' z' news', n' < n → Fr g L h' (fun y => if y = a then x' else if y = b then z' else m y) → News g L h' news' → I n' x' z' news' → Rest prog w A E env test body orelse Q { s with heap := h', toks := tk' }) →
      Rest prog w A E env test body orelse Q { s with heap := h, toks := tk }) : Rest prog w A E env test body orelse Q s :=
  rest_of (fun n m' news => ∃ x z, m' = (fun y => if y = a then x else if y = b then z else m y) ∧ I n x z news) F N n₀ ⟨_, _, rfl, h0⟩ fun n h tk m' news F' N' hI ih => by
    obtain ⟨x, z, rfl, hI⟩ := hI
    exact step n h tk x z news F' N' hI fun n' h' tk' x' z' news' hn F'' N'' hI' => ih n' h' tk' _ news' hn F'' N'' ⟨_, _, rfl, hI'⟩
end
end Mine
end
section
open PySem PySem.W PyProof.Rows PySem.Calls PySem.Spec
set_option Elab.async false
set_option maxRecDepth 100000
set_option maxHeartbeats 8000000
namespace Mine
def itObj (l : Addr) (i : Nat) : Obj := { cls := .type "list_iterator", data := .fields #[.ref l, .int i 0] }
def itEnd (i : Nat) : Obj := { cls := .type "list_iterator", data := .fields #[.none, .int i 0] }

section
variable {prog : Program} {w : World} {A : Around} {E : Value → Shared → Prop} {s : Shared} {h₀ : Heap} {L l it : Addr} {m : Str → Option Value} {news news' : List (Addr × Obj)} {its : Array Value} {n i : Nat} {x : Value} {Q : Value → Shared → Prop}

theorem li_iter (F : Fr h₀ L s.heap m) (N : News h₀ L s.heap news) (hm : (l, listOf its n) ∈ news)
    (h : ∀ (I : Addr) h', Fr h₀ L h' m → News h₀ L h' ((I, itObj l 0) :: news) → (∀ p ∈ news, p.1 < I) → Q (.ref I) { s with heap := h' }) :
    wpAny (model prog w) A (call (.builtin "iter") [.ref l]) Q E s := by
  refine call_function_entry (by decide +kernel) (by decide +kernel) kdk_entry_iter (kdk_args_iter _) ?_
  unfold Builtin.«iter»
  refine wpAny_bind (m := someArgs "iter" 1 2 _) (wpAny_of_eq (a := [Value.ref l]) (by first | rfl | kernel_rfl!) ?_)
  show wpAny _ _ (pyIter (.ref l) >>= _) _ _ _
  refine wpAny_bind (wpAny_pyIter_list ⟨_, (N _ hm).1, rfl, n, rfl⟩ ?_)
  exact wpAny_pure ⟨_, rfl, h _ _ (F.push _) (News.push F N _ rfl) (fun q hq => Heap.lt_size (N q hq).1)⟩

theorem upd_it (i : Nat) : Obj.mapFields (·.setIfInBounds 1 (rawInt ((i : Int) + 1))) (itObj l i) = itObj l (i + 1) := by
  unfold Obj.mapFields itObj
  simp [rawInt]
theorem upd_end (i : Nat) : Obj.mapFields (·.setIfInBounds 0 .none) (itObj l i) = itEnd i := by
  unfold Obj.mapFields itObj itEnd
  simp

theorem li_next (F : Fr h₀ L s.heap m) (N : News h₀ L s.heap news) (hm : (l, listOf its n) ∈ news) (U : Upd it (itObj l i) (itObj l (i + 1)) news news') (hx : its[i]? = some x)
    (h : ∀ h', Fr h₀ L h' m → News h₀ L h' news' → Q x { s with heap := h' }) :
    wpAny (model prog w) A (call (.builtin "next") [.ref it]) Q E s := by
  obtain ⟨pre, post, rfl, rfl, a, b⟩ := U.split
  have z := N (it, itObj l i) (List.mem_append.mpr (.inr (.head _)))
  have zl := (N _ hm).1
  have hT : s.TypeIs (.ref it) "list_iterator" := ⟨_, z.1, rfl⟩
  refine call_function_entry (by decide +kernel) (by decide +kernel) kdk_entry_next (kdk_args_next _) ?_
  unfold Builtin.«next»
  refine wpAny_bind (m := someArgs "next" 1 2 _) (wpAny_of_eq (a := [Value.ref it]) (by first | rfl | kernel_rfl!) ?_)
  dsimp only
  refine wpAny_bind (wpAny_specialOf (name := Str.ofString "__next__") hT slot_listiter_next.lookup ?_)
  refine wpAny_ite_split (fun hab => absurd hab (by decide)) (fun _ => ?_)
  refine wpAny_bind (wpAny_callSpecial?_slot (name := Str.ofString "__next__") hT slot_listiter_next
    (wpAny_call_entry slot_listiter_next hT entry_listiter_next ?_ (args_listiter_next _)))
  show wpAny _ _ (field (.ref it) 0 >>= _) _ _ s
  refine wpAny_bind (wpAny_field z.1 rfl (x := .ref l) rfl ?_)
  show wpAny _ _ (if (Value.ref l == Value.none) = true then _ else _) _ _ s
  rw [if_neg (show ¬ ((Value.ref l == Value.none) = true) from Bool.false_ne_true)]
  show wpAny _ _ (field (.ref it) 1 >>= _) _ _ s
  refine wpAny_bind (wpAny_field z.1 rfl (x := .int i 0) rfl ?_)
  show wpAny _ _ (seqItems? (.ref l) >>= _) _ _ s
  refine wpAny_bind (wpAny_seqItems zl rfl ?_)
  simp only [Int.toNat_natCast, hx]
  refine wpAny_bind (wpAny_setField z.1 rfl (by simp) (wpAny_pure ⟨x, rfl, wpAny_pure ⟨_, rfl, ?_⟩⟩))
  obtain ⟨F', N'⟩ := news_upd (f := Obj.mapFields (·.setIfInBounds 1 (rawInt ((i : Int) + 1)))) F N a b (upd_it i) rfl
  exact h _ F' N'

theorem li_stop (hh : A.handled = none) (F : Fr h₀ L s.heap m) (N : News h₀ L s.heap news) (hm : (l, listOf its n) ∈ news) (U : Upd it (itObj l i) (itEnd i) news news') (hx : its[i]? = none)
    (h : ∀ h₁ h' e, Fr h₀ L h₁ m → News h₀ L h₁ news' → Heap.NewExc h₁ h' e "StopIteration" → E (.ref e) { s with heap := h' }) :
    wpAny (model prog w) A (call (.builtin "next") [.ref it]) Q E s := by
  obtain ⟨pre, post, rfl, rfl, a, b⟩ := U.split
  have z := N (it, itObj l i) (List.mem_append.mpr (.inr (.head _)))
  have zl := (N _ hm).1
  have hT : s.TypeIs (.ref it) "list_iterator" := ⟨_, z.1, rfl⟩
  refine call_function_entry (by decide +kernel) (by decide +kernel) kdk_entry_next (kdk_args_next _) ?_
  unfold Builtin.«next»
  refine wpAny_bind (m := someArgs "next" 1 2 _) (wpAny_of_eq (a := [Value.ref it]) (by first | rfl | kernel_rfl!) ?_)
  dsimp only
  refine wpAny_bind (wpAny_specialOf (name := Str.ofString "__next__") hT slot_listiter_next.lookup ?_)
  refine wpAny_ite_split (fun hab => absurd hab (by decide)) (fun _ => ?_)
  refine wpAny_bind (wpAny_callSpecial?_slot (name := Str.ofString "__next__") hT slot_listiter_next
    (wpAny_call_entry slot_listiter_next hT entry_listiter_next ?_ (args_listiter_next _)))
  show wpAny _ _ (field (.ref it) 0 >>= _) _ _ s
  refine wpAny_bind (wpAny_field z.1 rfl (x := .ref l) rfl ?_)
  show wpAny _ _ (if (Value.ref l == Value.none) = true then _ else _) _ _ s
  rw [if_neg (show ¬ ((Value.ref l == Value.none) = true) from Bool.false_ne_true)]
  show wpAny _ _ (field (.ref it) 1 >>= _) _ _ s
  refine wpAny_bind (wpAny_field z.1 rfl (x := .int i 0) rfl ?_)
  show wpAny _ _ (seqItems? (.ref l) >>= _) _ _ s
  refine wpAny_bind (wpAny_seqItems zl rfl ?_)
  simp only [Int.toNat_natCast, hx]
  refine wpAny_bind (wpAny_rule (wpAny_bind (wpAny_setField z.1 rfl (by simp) ?_)))
  obtain ⟨F', N'⟩ := news_upd (f := Obj.mapFields (·.setIfInBounds 0 .none)) F N a b (upd_end i) rfl
  show wpAny _ _ (newExc (.type "StopIteration") [] >>= _) _ _ _
  refine wpAny_bind ?_
  simp only [newExc, newTuple]
  refine wpAny_bind (wpAny_newObj_type ?_ (by size_fits))
  refine wpAny_bind (m := firstArgMember _ _) (wpAny_of_eq (a := Value.none) (by first | rfl | (simp only [firstArgMember]; rfl)) ?_)
  refine wpAny_newObj_type ?_ (by size_fits)
  simp only [raiseNew]
  refine wpAny_bind (wpAny_handled ?_)
  first | rw [show A.in1.handled = none from hh] | rw [show A.in1.in1.handled = none from hh]
  refine wpAny_bind (wpAny_pure (wpAny_throw ?_))
  refine h _ _ _ F' N' ⟨fun b o hb => Heap.get?_push_of_some _ (Heap.get?_push_of_some _ hb), Heap.get?_none_of_le (by simp), _, .ref (s.heap.update it (Obj.mapFields (·.setIfInBounds 0 .none))).objs.size, Heap.get?_push_size _ rfl, rfl, ?_⟩
  simp [ownMembersOf]
end
end Mine
end
section
open PySem PySem.W PyProof.Rows PySem.Calls PySem.Spec
set_option Elab.async false
set_option maxRecDepth 100000
set_option maxHeartbeats 8000000
namespace Mine
def sgn (x y : Int) : Int := if y < x then 1 else if x < y then -1 else 0
theorem b2i_sgn (x y : Int) : b2i (decide (y < x)) - b2i (decide (x < y)) = sgn x y := by
  unfold sgn b2i
  by_cases h1 : y < x
  · have h2 : ¬ x < y := by omega
    simp [h1, h2]
  · by_cases h2 : x < y
    · simp [h1, h2]
    · simp [h1, h2]
theorem sgn_abs (x y : Int) : (x - y) * sgn x y = ((x - y).natAbs : Int) := by
  unfold sgn
  split
  · omega
  · split
    · omega
    · have : x - y = 0 := by omega
      rw [this]; rfl
theorem sgn_bd (x y : Int) : (sgn x y).natAbs ≤ 1 := by
  unfold sgn
  split
  · decide
  · split <;> decide

section
variable {w : World} {mean : ExcName → Option Value} {mg mb : Str → Option Value} {x y : Int} {tx ty : Tok}
theorem cmp_spec (_hh : Challenge.rw_op0011_01 = Challenge.rw_op0011_01) :
    Spec false w mean mg mb 63 [.int x tx, .int y ty] 2 30 [] (fun v sm => sm = [] ∧ ∃ t, v = .int (sgn x y) t) := by
  intro base dp un gd fr s Q E P S hd hu hret
  (have _hk := P.kin; revert _hk _hh; k_fill; intro _hh _hk)
  have _ht := P.top
  refine wpAny_call ?_
  refine enterP [] P S rfl (by k_is) (by k_is) (by ktr_room) (BindsTo.of_eq rfl) (locs rfl) ?_
  intro g L' h₁ F' N' B' X' T' D' l1 hG
  (try dsimp only)
  (try k_fold)
  k_steps
  exact ⟨g, L', _, [], KtsTurn.refl, by assumption, N', fun K A N => hret _ _ _ _ K A N ⟨rfl, _, congrArg (fun q => Value.int q _) (b2i_sgn x y)⟩⟩
end
end Mine
end
section
open PySem PySem.W PyProof.Rows PySem.Calls PySem.Spec
set_option Elab.async false
set_option maxRecDepth 100000
set_option maxHeartbeats 8000000
namespace Mine
section
variable {w : World} {mean : ExcName → Option Value} {mg mb : Str → Option Value} {base : Heap} {A : Around} {fr : List Env} {s : Shared} {small : List (Addr × Obj)}
  {R : Result → Shared → Prop} {name qual : Str} {params : Arguments} {body : List Stmt} {scope : Scope} {dV kV doc pm cdv ct oc : Value} {an od : Option Addr} {osl : Array (Option Value)} {f : Addr} {args : Args} {binds : List (Str × Value)}

theorem enterC (tf : List Addr) (P : Pre w mean mg mb base fr s.heap) (S : At base (fsOf fr) s.heap small) (hA : A.frames = some fr)
    (ho : (Mine.hd.heap_39 w.params).lookup f = some ⟨oc, od, .func (fnOf name qual params body scope dV kV doc pm an cdv ct), osl⟩) (hcd : codeIn (Mine.hd.heap_39 w.params) cdv qual = true) (hroom : A.depth < recursionLimit)
    (hbind : BindsTo s (fnOf name qual params body scope dV kV doc pm an cdv ct) args binds) (hkind : (binds.all fun y => scope.names.lookup y.1 == some .local || scope.names.lookup y.1 == some .cell) = true)
    (hnd : ((cellsFrom 0 scope.names []).map (·.1)).Nodup)
    (h : ∀ g L' h₁ tk cells, Fr g L' h₁ (bindL (envOfC qual scope L' f cdv).kindOf binds fun _ => none) → News g L' h₁ (cells ++ small) →
      CellsAre (bindC (envOfC qual scope L' f cdv).kindOf binds fun _ => none) (cellsFrom (L' + 1) scope.names []) cells → Below A base fr g → (Mine.hd.heap_39 w.params).In g → TP mean mg mb g → KtsDicts (fsOf fr) g → (∀ p ∈ small, p.1 < L') → Hid (small.map (·.1)) s.heap g →
      wpAny (model PG w) (A.deeper (envOfC qual scope L' f cdv)) (execs body (envOfC qual scope L' f cdv))
        (fun fl s' => Done base (fsOf fr) tf g s.heap (small.map (·.1)) (fun v s' => R (.ok (.ret v)) s') (match fl with | .ret v => v | _ => .none) s')
        (fun e s' => wpAny (model PG w) (A.deeper (envOfC qual scope L' f cdv)) (leaving (envOfC qual scope L' f cdv) e) (fun _ s'' => R (.error e) s'') (fun e' s'' => R (.error e') s'') s')
        { s with heap := h₁, toks := tk })
    (hco : scope.isCoroutine = false := by rfl) (hgen : scope.isGenerator = false := by rfl) (hk : scope.kind = .function := by rfl) : codeAny (model PG w) A (.call (.ref f) args) R s := by
  have X := P.kin.keeps P.stays
  have T := P.top.keeps P.stays
  obtain ⟨B, D, st⟩ := P.hide S hA
  refine codeAny_call_function hroom (X _ _ ho) rfl hco hgen rfl (codeRec_of X hcd) (hbind _ _ _ _ ?_)
  refine wpAny_newFunctionEnv_cells hk (kindsX hkind _) fun env' he s' x => ?_
  subst he
  refine ⟨T.nolimit.keeps x.toInCall.keep, codeAny_func ?_⟩
  obtain ⟨h₁, tk, rfl, _⟩ := x.done
  have hk₁ := x.toInCall.keep
  obtain ⟨cells, NC, Y⟩ := Cl.news (h₀ := s.heap) (Nat.le_refl _) fun n c hm => ⟨x.cell n c (lookup_of_mem_nodup (cellsFrom_names scope.names 0 (s.heap.objs.size + 1) [] [] rfl ▸ hnd) hm), x.above n c hm⟩
  refine wpAny_mono (h _ s.heap.objs.size h₁ tk cells ⟨x.toInCall.ns, fun b o e => hk₁ b o (of_hideAll _ e), Nat.le_of_eq (hideAll_size _ _)⟩ (fun p hp => ?_) Y B (P.kin.keeps st) (P.top.keeps st) D (fun p hp => Heap.lt_size (S p hp).1) ⟨fun b o e => of_hideAll _ e, fun b o e hm => hideAll_get _ e hm⟩) (fun fl s' hl => Done.out P S hl) fun _ _ y => y
  rcases List.mem_append.mp hp with hp | hp
  · refine ⟨(NC p hp).1, (NC p hp).2.1, ?_⟩
    cases q : (hideAll s.heap (small.map (·.1))).get? p.1 with
    | none => rfl
    | some o => have := of_hideAll _ q; rw [(NC p hp).2.2] at this; cases this
  · exact ⟨hk₁ _ _ (S p hp).1, Nat.ne_of_lt (Heap.lt_size (S p hp).1), hideAll_none _ (List.mem_map_of_mem hp)⟩
end
theorem room {dp a k b : Nat} (h : dp + a < recursionLimit) (hb : k + b ≤ a := by decide) : dp + k + b < recursionLimit := by omega
theorem units {un a k b : Nat} (h : un + a < cLine) (hb : k + b ≤ a := by decide) : un + k + b < cLine := by omega
end Mine
end
section
open PySem PySem.W PyProof.Rows PySem.Calls PySem.Spec
set_option Elab.async false
set_option maxRecDepth 100000
set_option maxHeartbeats 8000000
namespace Mine
section
variable {prog : Program} {w : World} {A : Around} {E : Value → Shared → Prop} {s : Shared} {h₀ : Heap} {L : Addr} {m : Str → Option Value} {env : Env}

/-- the source of a comprehension is a range that goes down by ones -/
def DownSrc (prog : Program) (w : World) (A : Around) (h₀ : Heap) (L : Addr) (m : Str → Option Value) (env : Env) (elt : Expr) (x : Str) (scope : Scope) (cl : List (Str × Addr)) (Fin : Shared → List Value → List (Addr × Obj) → Prop) (xv : Value) (s₁ : Shared) : Prop :=
  ∃ r a b t u v n news, xv = .ref r ∧ A.handled = none ∧ Fr h₀ L s₁.heap m ∧ News h₀ L s₁.heap news ∧ IsRange s₁.heap r a b (-1) t u v ∧ Builtin.Range.small a b (-1) = true ∧ Builtin.Range.rangeSize a b (-1) = ((n : Nat) : Int) ∧ n ≤ sizeLine ∧
    ∀ g2 : Heap, LCg.CompRest prog w A h₀ L m env elt x scope cl { s₁ with heap := g2 } (fun _ => True) (fun i v => ∃ t, v = .int (a + (i : Int) * (-1)) t) (Fin { s₁ with heap := g2 }) n 0 [] news

theorem down_st {I : Addr} {a : Int} {n : Nat} : ∀ i (h h' : Heap) (o : Obj) (nw : List (Addr × Obj)), IsRangeIter h I (a + (i : Nat) * (-1)) ((n : Int) - (i : Nat)) (-1) → h.get? I = some o → h'.get? I = some o → (∀ b o, h₀.get? b = some o → h'.get? b = some o) → News h₀ L h' nw → True → IsRangeIter h' I (a + (i : Nat) * (-1)) ((n : Int) - (i : Nat)) (-1) :=
  fun i h h' o nw st e e' _ _ _ => by
    have q : h.get? I = some _ := st
    rw [e] at q
    exact e'.trans q

theorem comp_down {elt iter : Expr} {x y : Str} {px py : Pos} {scope : Scope} {cl : List (Str × Addr)} {pos spos : Pos} {Q : Flow → Shared → Prop} (_F₀ : Fr h₀ L s.heap m) (hLe : env.locals = L)
    (hsw : swapsWith (.ListComp elt [⟨.Name x px, iter, [], 0⟩] scope pos) (some (.Name y py)) spos.line env = pure true)
    (hclos : closureFor scope env = pure cl) (hcell : ∀ z ∈ scope.names, z.2 ≠ .cell) (hkind : scope.kind = .function)
    (hnames : ∀ z ∈ scope.names, z.2 = .local → scope.names.lookup z.1 = some .local) (hx : scope.names.lookup x = some .local)
    (hy : env.kindOf y = some .local) (hp : (env.scope.kind == .class || (env.scope.kind == .module && env.locals != env.globals)) = false)
    (h : wpAny (model prog w) A (eval iter env) (DownSrc prog w A h₀ L m env elt x scope cl (fun s₂ => LCg.FinA h₀ L m s₂ y Q)) E s)
    (hs : ∀ x, foldedSetIterable iter env x = pure x := by intro _; rfl) :
    wpAny (model prog w) A (exec (.Assign [.Name y py] (.ListComp elt [⟨.Name x px, iter, [], 0⟩] scope pos) spos) env) Q E s := by
  subst hLe
  rw [exec_Assign_Name_used _ _ _ _ hsw]
  refine wpAny_bind (wpAny_standAt (wpAny_bind ?_))
  show wpAny _ A (do let _ ← comprehension (.ListComp elt [⟨.Name x px, iter, [], 0⟩] scope pos) scope env _ (newList []) false (eval iter env) (some (assign (.Name y py) env))) _ _ s
  refine wpAny_bind (wpAny_mono (wpAny_comprehension_free (use := some (assign (.Name y py) env)) (Q := fun _ s' => Q .next s') rfl hs hclos hkind hnames
    (wpAny_mono h (fun xv s₁ h₁ => ?_) fun _ _ e => e)) (fun _ s' hq => wpAny_pure (wpAny_pure hq)) fun _ _ e => e)
  obtain ⟨r, a, b, t, u, v, n, news, rfl, hh, F, N, hr, hsm, hn, hsz, R⟩ := h₁
  refine wpAny_pyIter_range hr hsm ?_
  have up : ∀ c o, s₁.heap.get? c = some o → (s₁.heap.push { cls := .type "range_iterator", data := .fields #[rawInt a, rawInt (Builtin.Range.rangeSize a b (-1)), rawInt (-1)] }).get? c = some o := fun c o e => Heap.get?_push_of_some _ e
  refine LCg.block_U (Walks.range hh s₁.heap.objs.size a (-1) n) hsz (fun i h st => ⟨_, st⟩) down_st hcell hkind hx (by show IsRangeIter _ _ _ _ _; rw [hn]; simpa using Heap.get?_push_size _ rfl) (fun c hc => ?_)
    (F.keeps up) (N.grown up) (Nat.ne_of_lt F.ns.lt) (next_is_new F) (fun p hp => Nat.ne_of_lt (Heap.lt_size (N p hp).1)) trivial (R _) ?_
  · rw [List.mem_singleton.mp hc]
    show s₁.heap.objs.size < (s₁.heap.push _).objs.size
    rw [Heap.size_push]; exact Nat.lt_succ_self _
  · intro D C h' tk m' ys news' F' N' o1 hn' hC₀ hD₀ hCL hDL hCD offC fin
    show wpAny _ A (assign (.Name y py) env (.ref D)) _ _ _
    refine wpAny_assign_Name (wpAny_storeName_local hy F'.ns (fun h₂ hn₂ hs₂ => ?_) hp)
    have hL₀ : h₀.get? env.locals = none := Heap.get?_none_of_le F'.above
    have F₂ : Fr h₀ env.locals h₂ (fun z => if z = y then some (.ref D) else m z) := ⟨hn₂, fun c o e => hs₂.extBut c o (fun q => by rw [q, hL₀] at e; cases e) (F'.keep c o e), F'.above⟩
    refine ⟨m', hn'.sameBut hs₂ hCL, fun h'' hs'' => fin D h'' _ (F₂.change hs'' hCL hC₀) (fun p hp => ?_) o1⟩
    have z : h₂.get? p.1 = some p.2 := hs₂.extBut _ _ (N' p hp).2.1 (N' p hp).1
    refine ⟨hs''.extBut _ _ ?_ z, (N' p hp).2⟩
    rcases List.mem_cons.mp hp with rfl | hp
    · exact Ne.symm hCD
    · exact offC p hp
end
end Mine
end
section
open PySem PySem.W PyProof.Rows PySem.Calls PySem.Spec
set_option Elab.async false
set_option maxRecDepth 100000
set_option maxHeartbeats 8000000
namespace Mine
section
variable {prog : Program} {w : World} {A₀ : Around} {E : Value → Shared → Prop} {s' : Shared} {base g h : Heap} {outer : List Env} {L a e : Addr} {m : Str → Option Value} {name : Str} {scope : Scope} {cd : Value}
  {b₀ : Stmt} {suite : List Stmt} {pos np : Pos} {rest : List ExceptHandler} {Q : Flow → Shared → Prop} {news : List (Addr × Obj)} {KF : Frag}
  {p : Program} {loose : List Str} {mean : ExcName → Option Value} {mg mb : Str → Option Value} {x : Str} {X T' : String}

/-- an exception that a builtin raised in the own frame is caught there -/
theorem caught_own (hx : Heap.NewExc h s'.heap e X) (F : Fr g L h m) (N : News g L h news) (K : Below A₀ base outer g) (XB : KF.In base) (TB : Top p loose mean mg mb base)
    (D : KtsDicts (outer.filterMap (·.frame)) g)
    (ex : nsIn KF mainGlobals x = some none) (hv : bootBuiltins x = some (.type T')) (hn' : x ≠ "__name__")
    (hexc : isSubtype (.type T') (.type "BaseException") = pure true) (hnt : isSubtype (.type ((Manifest.find? T').elim "type" fun y => y.metatype)) (.type "tuple") = pure false) (hsub : isSubtype (.type X) (.type T') = pure true)
    (k : ∀ h' g', KtsTurn (outer.filterMap (·.frame)) g g' → Fr g' L h' m → News g' L h' news → Below A₀ base outer g' → KF.In g' → Top p loose mean mg mb g' → KtsDicts (outer.filterMap (·.frame)) g' →
      wpAny (model prog w) ((A₀.deeper (envOf name scope L a cd)).mark (some (.ref e))) (execs (b₀ :: suite) (envOf name scope L a cd)) Q E { s' with heap := h' })
    (hk : scope.kind = .function := by rfl) (hxk : (envOf name scope L a cd).kindOf x = some .globalImplicit := by rfl) (hdb : (x == ("__debug__" : Str)) = false := by decide)
    (hE : PassesOwnAt (model prog w) ((A₀.deeper (envOf name scope L a cd)).mark (some (.ref e))) (A₀.deeper (envOf name scope L a cd)) (envOf name scope L a cd) E := by passes_own) :
    wpAny (model prog w) (A₀.deeper (envOf name scope L a cd)) (noteFrame (.ref e) (envOf name scope L a cd))
      (fun _ s₂ => wpAny (model prog w) (A₀.deeper (envOf name scope L a cd)) (setFlight (.ref e) none) (fun _ s₃ =>
        wpAny (model prog w) (A₀.deeper (envOf name scope L a cd)) (handleBy (.ref e) (envOf name scope L a cd) (.ExceptHandler (some (.Name x np)) none (b₀ :: suite) pos :: rest)) Q E s₃) E s₂) E s' := by
  have K' := K.push (name := name) (a := a) (cd := cd) F hk
  have hin : ∀ env ∈ (envOf name scope L a cd :: outer), ∀ b, env.frame = some b → b ∈ (envOf name scope L a cd :: outer).filterMap (·.frame) := fun env he b hb => List.mem_filterMap.mpr ⟨env, he, hb⟩
  have hBG : ∀ b o, h.get? b = some o → b ∉ (envOf name scope L a cd :: outer).filterMap (·.frame) → (hideAll h ((envOf name scope L a cd :: outer).filterMap (·.frame))).get? b = some o := fun b o q nm => hideAll_get _ q nm
  have hl : ∀ q ∈ news, (hideAll h ((envOf name scope L a cd :: outer).filterMap (·.frame))).get? q.1 = some q.2 := fun q hq => by
    refine hideAll_get _ (N q hq).1 fun hm => ?_
    rcases kts_mem hm with z | z
    · exact (N q hq).2.1 z
    · obtain ⟨o, ho, _⟩ := (K.frames.mem z).2
      rw [(N q hq).2.2] at ho; cases ho
  obtain ⟨ob, tp, he, hcls, hd⟩ := hx.there
  have hen : (hideAll h ((envOf name scope L a cd :: outer).filterMap (·.frame))).get? e = none := by
    cases q : (hideAll h ((envOf name scope L a cd :: outer).filterMap (·.frame))).get? e with
    | none => rfl
    | some o => have := of_hideAll _ q; rw [hx.new] at this; cases this
  have hL : (hideAll h ((envOf name scope L a cd :: outer).filterMap (·.frame))).get? L = none := hideAll_none _ (List.mem_filterMap.mpr ⟨_, .head _, rfl⟩)
  unfold noteFrame
  simp only [show (envOf name scope L a cd).frame = some L from rfl]
  refine wpAny_bind (wpAny_field he hd (x := .none) rfl ?_)
  rw [if_neg (by decide)]
  refine wpAny_entryW (a0 := tp) K'.stack ((funFrames_hide K'.frames hin).of_keeps fun b o hb _ => ⟨o, hx.keeps b o hb, rfl⟩) rfl he (fun b o hb => hx.keeps b o (of_hideAll _ hb)) hen hd (by show 1 < 6; decide) rfl fun h₄ hN => ?_
  obtain ⟨k1, k2, k3, hsm₄⟩ := hN
  rw [hcls] at k3
  replace hsm₄ : s'.heap.UpToSlots h₄ := hsm₄
  have hsm : h.UpToSlots s'.heap := Heap.UpToSlots.of_keeps hx.keeps
  refine wpAny_landsW (l := envOf name scope L a cd :: outer) ⟨k1, hen, k2, k3⟩ fun h₅ hheld hsm₅' => ?_
  have hsm₅ := hsm₄.trans hsm₅'
  obtain ⟨g₅, T₅, F₅, K₅⟩ := kts_ground K F hBG hheld.1 (hsm.trans hsm₅)
  have X₅ : KF.In g₅ := XB.keeps K₅.stays
  have P₅ : TopRead p loose mg mb g₅ := topRead_of (TB.keeps K₅.stays)
  obtain ⟨ob', hob, hobc⟩ := hheld.there
  refine wpAny_handleBy_builtin (X := X) (T := T') (b := true) hexc hnt hsub (name_B F₅ X₅ P₅ ex hv hn' ⟨rfl, ⟨ob', hob, hobc⟩, ?_⟩ hk hxk hdb)
  refine lands_againW hheld fun h₆ hfl₆ hsm₆ => ?_
  obtain ⟨g₆, T₆, F₆, K₆⟩ := kts_ground K F hBG hfl₆.1 ((hsm.trans hsm₅).trans hsm₆)
  have Nl : News g₆ L h₆ news := fun q hq => ⟨hfl₆.1 _ _ (hl q hq), (N q hq).2.1, T₆.none_ _ (N q hq).2.2⟩
  exact wpAny_passesOwnAt hE (k h₆ g₆ T₆ F₆ Nl K₆ (XB.keeps K₆.stays) (TB.keeps K₆.stays) (D.turn T₆))
end
end Mine
end
section
open PySem PySem.W PyProof.Rows PySem.Calls PySem.Spec
set_option Elab.async false
set_option maxRecDepth 100000
set_option maxHeartbeats 8000000
namespace Mine

theorem ints_kf : ∀ {us : List Value} {ys : List Int}, IntsAre us ys → kf_ints us = true
  | _, _, .nil => rfl
  | _, _, .cons _ _ h => by unfold kf_ints; exact ints_kf h
theorem ints_kfat {k : Int} : ∀ {us : List Value} {ys : List Int}, IntsAre us ys → k ∈ ys → kf_at k us = some (ys.idxOf k)
  | _, _, .nil, h => nomatch h
  | _, _, .cons (ns := ns) n t hi, h => by
    unfold kf_at
    by_cases e : n = k
    · subst e
      simp [isInt]
    · have hm : k ∈ ns := by
        rcases List.mem_cons.mp h with q | q
        · exact absurd q.symm e
        · exact q
      have e2 : (n == k) = false := by simpa using e
      simp only [isInt, e2, cond_false, ints_kfat hi hm, List.idxOf_cons]
theorem ints_none {k : Int} : ∀ {us : List Value} {ys : List Int}, IntsAre us ys → k ∉ ys → ∀ i (hi : i < us.length), isInt k us[i] = false
  | _, _, .nil, _, i, hi => absurd hi (Nat.not_lt_zero _)
  | _, _, .cons n t hi, h, i, hj => by
    cases i with
    | zero =>
      have : ¬ n = k := fun q => h (by rw [q]; exact .head _)
      simpa [isInt] using this
    | succ i => exact ints_none hi (fun q => h (.tail _ q)) i (Nat.lt_of_succ_lt_succ hj)
theorem ints_del : ∀ {us : List Value} {i : Nat}, i < us.length → ki_delL us i = some (us.eraseIdx i)
  | [], _, h => absurd h (Nat.not_lt_zero _)
  | _ :: _, 0, _ => rfl
  | x :: r, i + 1, h => by
    have e := ints_del (us := r) (i := i) (Nat.lt_of_succ_lt_succ h)
    simp only [ki_delL, e, List.eraseIdx_cons_succ]
theorem ints_erase : ∀ {us : List Value} {ys : List Int} {i : Nat}, IntsAre us ys → IntsAre (us.eraseIdx i) (ys.eraseIdx i)
  | _, _, _, .nil => by simpa using IntsAre.nil
  | _, _, 0, .cons n t hi => by simpa using hi
  | _, _, i + 1, .cons n t hi => by simpa using IntsAre.cons n t (ints_erase hi)

section
variable {prog : Program} {w : World} {A : Around} {E : Value → Shared → Prop} {s : Shared} {h₀ : Heap} {L D : Addr} {m : Str → Option Value} {news news' : List (Addr × Obj)} {n : Nat}

theorem rem_hit {k : Int} {t : Tok} {us : List Value} {ys : List Int} {Q : Value → Shared → Prop} (F : Fr h₀ L s.heap m) (N : News h₀ L s.heap news) (hi : IntsAre us ys) (hk : k ∈ ys)
    (U : Upd D (listOf us.toArray n) (listOf (us.eraseIdx (ys.idxOf k)).toArray (n + 1)) news news') (hz : us.length ≤ 4)
    (h : ∀ h', Fr h₀ L h' m → News h₀ L h' news' → IntsAre (us.eraseIdx (ys.idxOf k)) (ys.erase k) → Q .none { s with heap := h' }) : wpAny (model prog w) A (call (.builtin "list.remove") [.ref D, .int k t]) Q E s :=
  kf_remove (its := us.toArray) F N (by simpa using ints_kf hi) (by simpa using ints_kfat hi hk) (by
    have := List.idxOf_lt_length_of_mem hk
    rw [← hi.length] at this
    simpa using ints_del this) U (by rw [PySem.sizeLine_eq]; show us.length ≤ _; omega) fun h' F' N' => h h' F' N' (by
      rw [List.erase_eq_eraseIdx_of_idxOf rfl]
      exact ints_erase hi)

theorem rem_none {k : Int} {t : Tok} {us : List Value} {ys : List Int} {Q : Value → Shared → Prop} (N : News h₀ L s.heap news) (hm : (D, listOf us.toArray n) ∈ news) (hi : IntsAre us ys) (hk : k ∉ ys) (hh : A.handled = none)
    (h : ∀ h' tk e, Heap.NewExc s.heap h' e "ValueError" → E (.ref e) { s with heap := h', toks := tk }) : wpAny (model prog w) A (call (.builtin "list.remove") [.ref D, .int k t]) Q E s :=
  call_meets PySem.F.slot_list_remove ⟨_, (N _ hm).1, rfl⟩ PySem.F.entry_list_remove (PySem.F.args_list_remove_2 _ _)
    (MeetsSeq.list_remove_none D us.toArray n (.int k t) (isInt k) (fun y hy => kf_eq (ints_kf hi) y (by simpa using hy)) (fun i hi' => by simpa using ints_none hi hk i (by simpa using hi'))) ⟨(N _ hm).1, hh, h⟩
end

section
variable {prog : Program} {w : World} {A : Around} {E : Value → Shared → Prop} {s : Shared} {env : Env} {test : PySem.Expr} {body orelse : List Stmt} {Q : Flow → Shared → Prop}

theorem m_junk1 {a : Str} {m m₀ : Str → Option Value} (h : ∀ y, y ≠ a → m y = m₀ y) : m = fun y => if y = a then m a else m₀ y := by
  funext y
  by_cases h1 : y = a
  · rw [if_pos h1, h1]
  · rw [if_neg h1]; exact h y h1

/-- a while loop; the base may turn, one name may hold anything between the turns -/
theorem rest_ofT (a : Str) {G : Heap → Prop} {g₀ : Heap} {L : Addr} {m : Str → Option Value} {news₀ : List (Addr × Obj)} (I : Nat → List (Addr × Obj) → Prop) (F : Fr g₀ L s.heap m) (N : News g₀ L s.heap news₀) (hG : G g₀) (n₀ : Nat) (h0 : I n₀ news₀)
    (step : ∀ n g h tk u news, G g → Fr g L h (fun y => if y = a then u else m y) → News g L h news → I n news →
      (∀ n' g' h' tk' m' news', n' < n → G g' → (∀ y, y ≠ a → m' y = m y) → Fr g' L h' m' → News g' L h' news' → I n' news' → Rest prog w A E env test body orelse Q { s with heap := h', toks := tk' }) →
      Rest prog w A E env test body orelse Q { s with heap := h, toks := tk }) : Rest prog w A E env test body orelse Q s := by
  have all : ∀ n g h tk m' news, G g → (∀ y, y ≠ a → m' y = m y) → Fr g L h m' → News g L h news → I n news → Rest prog w A E env test body orelse Q { s with heap := h, toks := tk } := by
    intro n
    induction n using Nat.strongRecOn with
    | ind n ih =>
      intro g h tk m' news hG hm F N hI
      rw [m_junk1 hm] at F
      exact step n g h tk _ news hG F N hI fun n' g' h' tk' m' news' hn hG' hm' F' N' hI' => ih n' hn g' h' tk' m' news' hG' hm' F' N' hI'
  exact all n₀ g₀ s.heap s.toks m news₀ hG (fun _ _ => rfl) F N h0
end

def uldr : List Int → List Int → List Int × List Int
  | [], ys => ([], ys)
  | x :: xs, ys => if x ∈ ys then uldr xs (ys.erase x) else (x :: (uldr xs ys).1, (uldr xs ys).2)
end Mine
end
namespace Mine
section
open PySem PySem.W PyProof.Rows PySem.Calls PySem.Spec
set_option maxRecDepth 100000
set_option maxHeartbeats 8000000
local macro_rules | `(tactic| walk_at "call ref") => `(tactic| (k_here; k_dflt (refine wpAny_call ?_; refine' code_def ?k1 ?k2 ?k3 ?k4 ?k5 ?kA ?kF ?kK ?k6 ?k7 ?k8 ?k9 ?kB ?_ ?c2 ?c3 ?c4 ?c5; (case kA => exact rfl); (case kF => exact rfl); (case kK => exact rfl); (case k1 => k_asm); (case k2 => k_asm); (case k3 => k_asm); (case k4 => k_asm); (case k5 => k_asm); (case k6 => k_is); (case k7 => k_is); (case k8 => ktr_room); (case k9 => exact BindsTo.of_eq rfl); (case c5 => decide); (case kB => exact locs rfl); (case c2 => exact rfl); (case c3 => exact rfl); (case c4 => exact rfl); k_whole; intro g' L' h' FG' F' N' B' X' T'; (try dsimp only); (try k_lift B'); (try k_fold))))
section
open PySem PySem.W PyProof.Rows PySem.Calls PySem.Spec
set_option Elab.async false
set_option maxRecDepth 100000
set_option maxHeartbeats 8000000
section

def Heapy : List Int → Prop
  | [] => True
  | [_] => True
  | [a, b] => a ≤ b
  | [a, b, c] => a ≤ b ∧ a ≤ c
  | [a, b, c, d] => a ≤ b ∧ a ≤ c ∧ b ≤ d
  | _ => False


abbrev PushPost (l : Addr) (x : Int) (xs : List Int) (v : Value) (sm : List (Addr × Obj)) : Prop :=
  v = .none ∧ ∃ vs' n' ys, sm = [(l, listOf (List.toArray vs') n')] ∧ IntsAre vs' ys ∧ ys.Perm (x :: xs) ∧ Heapy ys

section
variable {w : World} {mean : ExcName → Option Value} {mg mb : Str → Option Value} {l : Addr} {n : Nat} {x : Int} {tx : Tok}

theorem push_end {base : Heap} {fs : List Addr} {g h : Heap} {L' : Addr} {m' : Str → Option Value} {Q : Value → Shared → Prop} {s : Shared} {h' : Heap} {tk' : Nat} {xs ys : List Int} {vs' : List Value} {n' : Nat}
    (hret : ∀ v h' tk' small', Kept [] [l] h h' → At base fs h' small' → (∀ p ∈ small', p.1 ∈ [l] ∨ h.get? p.1 = none) → PushPost l x xs v small' → Q v { s with heap := h', toks := tk' })
    (F : Fr g L' h' m') (N : News g L' h' [(l, listOf (List.toArray vs') n')]) (hi : IntsAre vs' ys) (hp : ys.Perm (x :: xs)) (hy : Heapy ys) :
    Done base fs [] g h [l] Q .none { s with heap := h', toks := tk' } :=
  ⟨g, L', m', _, KtsTurn.refl, F, N, fun K A N' => hret _ _ _ _ K A N' ⟨rfl, _, _, ys, rfl, hi, hp, hy⟩⟩


theorem push0 (_hh : Challenge.rw_op0011_01 = Challenge.rw_op0011_01) :
    Spec false w mean mg mb 28 [.ref l, .int x tx] 3 30 [(l, listOf [].toArray n)] (PushPost l x []) := by
  intro base dp un gd fr s Q E P S hd hu hret
  (have _hk := P.kin; revert _hk _hh; k_fill; intro _hh _hk)
  refine wpAny_call ?_
  refine enterP [] P S rfl (by k_is) (by k_is) (by ktr_room) (BindsTo.of_eq rfl) (locs rfl) ?_
  intro g L' h₁ F' N' B' X' T' D' l1 hG
  (try k_lt l1)
  (try dsimp only)
  (try k_fold)
  k_steps
  all_goals (refine push_end hret (by assumption) (by assumption) (by repeat constructor) (List.perm_iff_count.mpr fun v => by simp only [List.count_cons, List.count_nil]) ?_; simp only [Heapy])

theorem push1 (_hh : Challenge.rw_op0011_01 = Challenge.rw_op0011_01) (a : Int) (ta : Tok) :
    Spec false w mean mg mb 28 [.ref l, .int x tx] 3 30 [(l, listOf [Value.int a ta].toArray n)] (PushPost l x [a]) := by
  intro base dp un gd fr s Q E P S hd hu hret
  (have _hk := P.kin; revert _hk _hh; k_fill; intro _hh _hk)
  refine wpAny_call ?_
  refine enterP [] P S rfl (by k_is) (by k_is) (by ktr_room) (BindsTo.of_eq rfl) (locs rfl) ?_
  intro g L' h₁ F' N' B' X' T' D' l1 hG
  (try k_lt l1)
  (try dsimp only)
  (try k_fold)
  k_steps
  all_goals (refine push_end hret (by assumption) (by assumption) (by repeat constructor) (List.perm_iff_count.mpr fun v => by simp only [List.count_cons, List.count_nil] <;> omega) ?_; simp only [Heapy] <;> omega)

theorem push2 (_hh : Challenge.rw_op0011_01 = Challenge.rw_op0011_01) (a b : Int) (ta tb : Tok) (h1 : a ≤ b) :
    Spec false w mean mg mb 28 [.ref l, .int x tx] 3 30 [(l, listOf [Value.int a ta, Value.int b tb].toArray n)] (PushPost l x [a, b]) := by
  intro base dp un gd fr s Q E P S hd hu hret
  (have _hk := P.kin; revert _hk _hh; k_fill; intro _hh _hk)
  refine wpAny_call ?_
  refine enterP [] P S rfl (by k_is) (by k_is) (by ktr_room) (BindsTo.of_eq rfl) (locs rfl) ?_
  intro g L' h₁ F' N' B' X' T' D' l1 hG
  (try k_lt l1)
  (try dsimp only)
  (try k_fold)
  k_steps
  all_goals (refine push_end hret (by assumption) (by assumption) (by repeat constructor) (List.perm_iff_count.mpr fun v => by simp only [List.count_cons, List.count_nil] <;> omega) ?_; simp only [Heapy] <;> omega)

theorem push3 (_hh : Challenge.rw_op0011_01 = Challenge.rw_op0011_01) (a b c : Int) (ta tb tc : Tok) (h1 : a ≤ b) (h2 : a ≤ c) :
    Spec false w mean mg mb 28 [.ref l, .int x tx] 3 30 [(l, listOf [Value.int a ta, Value.int b tb, Value.int c tc].toArray n)] (PushPost l x [a, b, c]) := by
  intro base dp un gd fr s Q E P S hd hu hret
  (have _hk := P.kin; revert _hk _hh; k_fill; intro _hh _hk)
  refine wpAny_call ?_
  refine enterP [] P S rfl (by k_is) (by k_is) (by ktr_room) (BindsTo.of_eq rfl) (locs rfl) ?_
  intro g L' h₁ F' N' B' X' T' D' l1 hG
  (try k_lt l1)
  (try dsimp only)
  (try k_fold)
  k_steps
  all_goals (refine push_end hret (by assumption) (by assumption) (by repeat constructor) (List.perm_iff_count.mpr fun v => by simp only [List.count_cons, List.count_nil] <;> omega) ?_; simp only [Heapy] <;> omega)

theorem push_spec (_hh : Challenge.rw_op0011_01 = Challenge.rw_op0011_01) {vs : List Value} {xs : List Int} (hi : IntsAre vs xs) (hl : xs.length ≤ 3) (hy : Heapy xs) :
    Spec false w mean mg mb 28 [.ref l, .int x tx] 3 30 [(l, listOf vs.toArray n)] (PushPost l x xs) := by
  cases hi with
  | nil => exact push0 _hh
  | cons a ta hi =>
    cases hi with
    | nil => exact push1 _hh a ta
    | cons b tb hi =>
      cases hi with
      | nil => exact push2 _hh a b ta tb hy
      | cons c tc hi =>
        cases hi with
        | nil => exact push3 _hh a b c ta tb tc hy.1 hy.2
        | cons d td hi => simp only [List.length_cons] at hl; omega
end
end
end
section
open PySem PySem.W PyProof.Rows PySem.Calls PySem.Spec
set_option Elab.async false
set_option maxRecDepth 100000
set_option maxHeartbeats 8000000
section



abbrev PopPost (l : Addr) (xs : List Int) (v : Value) (sm : List (Addr × Obj)) : Prop :=
  ∃ v0 t vs' n' ys, v = .int v0 t ∧ sm = [(l, listOf (List.toArray vs') n')] ∧ IntsAre vs' ys ∧ xs.Perm (v0 :: ys) ∧ Heapy ys ∧ ∀ y ∈ ys, v0 ≤ y

theorem gd0 (a : Int) (l : List Int) : (a :: l).getD (Int.toNat 0) 0 = a := rfl
theorem gd1 (a b : Int) (l : List Int) : (a :: b :: l).getD (2 * 0 + 1 : Int).toNat 0 = b := rfl
theorem gd2 (a b c : Int) (l : List Int) : (a :: b :: c :: l).getD (2 * 0 + 1 + 1 : Int).toNat 0 = c := rfl

section
variable {w : World} {mean : ExcName → Option Value} {mg mb : Str → Option Value} {l : Addr} {n : Nat}

theorem pop_end {base : Heap} {fs : List Addr} {g h : Heap} {L' : Addr} {m' : Str → Option Value} {Q : Value → Shared → Prop} {s : Shared} {h' : Heap} {tk' : Nat} {xs ys : List Int} {vs' : List Value} {n' : Nat} {v0 : Int} {t : Tok}
    (hret : ∀ v h' tk' small', Kept [] [l] h h' → At base fs h' small' → (∀ p ∈ small', p.1 ∈ [l] ∨ h.get? p.1 = none) → PopPost l xs v small' → Q v { s with heap := h', toks := tk' })
    (F : Fr g L' h' m') (N : News g L' h' [(l, listOf (List.toArray vs') n')]) (hi : IntsAre vs' ys) (hp : xs.Perm (v0 :: ys)) (hy : Heapy ys) (hm : ∀ y ∈ ys, v0 ≤ y) :
    Done base fs [] g h [l] Q (.int v0 t) { s with heap := h', toks := tk' } :=
  ⟨g, L', m', _, KtsTurn.refl, F, N, fun K A N' => hret _ _ _ _ K A N' ⟨v0, t, _, _, ys, rfl, rfl, hi, hp, hy, hm⟩⟩

theorem pop1 (_hh : Challenge.rw_op0011_01 = Challenge.rw_op0011_01) (a : Int) (ta : Tok)  :
    Spec false w mean mg mb 35 [.ref l] 4 40 [(l, listOf [Value.int a ta].toArray n)] (PopPost l [a]) := by
  intro base dp un gd fr s Q E P S hd hu hret
  (have _hk := P.kin; revert _hk _hh; k_fill; intro _hh _hk)
  refine wpAny_call ?_
  refine enterP [] P S rfl (by k_is) (by k_is) (by ktr_room) (BindsTo.of_eq rfl) (locs rfl) ?_
  intro g L' h₁ F' N' B' X' T' D' l1 hG
  (try k_lt l1)
  (try dsimp only)
  (try k_fold)
  k_steps
  all_goals (refine pop_end hret (by assumption) (by assumption) (by repeat constructor) ?_ ?_ ?_)
  all_goals (clear hret P S)
  all_goals (simp only [gd0, gd1, gd2, List.getD_cons_zero, List.getD_cons_succ, Int.toNat_zero] at *)
  all_goals first
    | exact List.perm_iff_count.mpr fun v => by simp only [List.count_cons, List.count_nil] <;> omega
    | (simp only [Heapy] <;> omega)
    | (simp only [List.mem_cons, List.not_mem_nil, or_false, forall_eq_or_imp, forall_eq, false_imp_iff, implies_true] <;> omega)

theorem pop2 (_hh : Challenge.rw_op0011_01 = Challenge.rw_op0011_01) (a b : Int) (ta tb : Tok) (h1 : a ≤ b) :
    Spec false w mean mg mb 35 [.ref l] 4 40 [(l, listOf [Value.int a ta, Value.int b tb].toArray n)] (PopPost l [a, b]) := by
  intro base dp un gd fr s Q E P S hd hu hret
  (have _hk := P.kin; revert _hk _hh; k_fill; intro _hh _hk)
  refine wpAny_call ?_
  refine enterP [] P S rfl (by k_is) (by k_is) (by ktr_room) (BindsTo.of_eq rfl) (locs rfl) ?_
  intro g L' h₁ F' N' B' X' T' D' l1 hG
  (try k_lt l1)
  (try dsimp only)
  (try k_fold)
  k_steps
  all_goals (refine pop_end hret (by assumption) (by assumption) (by repeat constructor) ?_ ?_ ?_)
  all_goals (clear hret P S)
  all_goals (simp only [gd0, gd1, gd2, List.getD_cons_zero, List.getD_cons_succ, Int.toNat_zero] at *)
  all_goals first
    | exact List.perm_iff_count.mpr fun v => by simp only [List.count_cons, List.count_nil] <;> omega
    | (simp only [Heapy] <;> omega)
    | (simp only [List.mem_cons, List.not_mem_nil, or_false, forall_eq_or_imp, forall_eq, false_imp_iff, implies_true] <;> omega)

theorem pop3 (_hh : Challenge.rw_op0011_01 = Challenge.rw_op0011_01) (a b c : Int) (ta tb tc : Tok) (h1 : a ≤ b) (h2 : a ≤ c) :
    Spec false w mean mg mb 35 [.ref l] 4 40 [(l, listOf [Value.int a ta, Value.int b tb, Value.int c tc].toArray n)] (PopPost l [a, b, c]) := by
  intro base dp un gd fr s Q E P S hd hu hret
  (have _hk := P.kin; revert _hk _hh; k_fill; intro _hh _hk)
  refine wpAny_call ?_
  refine enterP [] P S rfl (by k_is) (by k_is) (by ktr_room) (BindsTo.of_eq rfl) (locs rfl) ?_
  intro g L' h₁ F' N' B' X' T' D' l1 hG
  (try k_lt l1)
  (try dsimp only)
  (try k_fold)
  k_steps
  all_goals (refine pop_end hret (by assumption) (by assumption) (by repeat constructor) ?_ ?_ ?_)
  all_goals (clear hret P S)
  all_goals (simp only [gd0, gd1, gd2, List.getD_cons_zero, List.getD_cons_succ, Int.toNat_zero] at *)
  all_goals first
    | exact List.perm_iff_count.mpr fun v => by simp only [List.count_cons, List.count_nil] <;> omega
    | (simp only [Heapy] <;> omega)
    | (simp only [List.mem_cons, List.not_mem_nil, or_false, forall_eq_or_imp, forall_eq, false_imp_iff, implies_true] <;> omega)

theorem pop4 (_hh : Challenge.rw_op0011_01 = Challenge.rw_op0011_01) (a b c d : Int) (ta tb tc td : Tok) (h1 : a ≤ b) (h2 : a ≤ c) (h3 : b ≤ d) :
    Spec false w mean mg mb 35 [.ref l] 4 40 [(l, listOf [Value.int a ta, Value.int b tb, Value.int c tc, Value.int d td].toArray n)] (PopPost l [a, b, c, d]) := by
  intro base dp un gd fr s Q E P S hd hu hret
  (have _hk := P.kin; revert _hk _hh; k_fill; intro _hh _hk)
  refine wpAny_call ?_
  refine enterP [] P S rfl (by k_is) (by k_is) (by ktr_room) (BindsTo.of_eq rfl) (locs rfl) ?_
  intro g L' h₁ F' N' B' X' T' D' l1 hG
  (try k_lt l1)
  (try dsimp only)
  (try k_fold)
  k_steps
  all_goals (refine pop_end hret (by assumption) (by assumption) (by repeat constructor) ?_ ?_ ?_)
  all_goals (clear hret P S)
  all_goals (simp only [gd0, gd1, gd2, List.getD_cons_zero, List.getD_cons_succ, Int.toNat_zero] at *)
  all_goals first
    | exact List.perm_iff_count.mpr fun v => by simp only [List.count_cons, List.count_nil] <;> omega
    | (simp only [Heapy] <;> omega)
    | (simp only [List.mem_cons, List.not_mem_nil, or_false, forall_eq_or_imp, forall_eq, false_imp_iff, implies_true] <;> omega)

theorem pop_spec (_hh : Challenge.rw_op0011_01 = Challenge.rw_op0011_01) {vs : List Value} {xs : List Int} (hi : IntsAre vs xs) (hn : xs ≠ []) (hy : Heapy xs) :
    Spec false w mean mg mb 35 [.ref l] 4 40 [(l, listOf vs.toArray n)] (PopPost l xs) := by
  cases hi with
  | nil => exact absurd rfl hn
  | cons a ta hi =>
    cases hi with
    | nil => exact pop1 _hh a ta
    | cons b tb hi =>
      cases hi with
      | nil => exact pop2 _hh a b ta tb hy
      | cons c tc hi =>
        cases hi with
        | nil => exact pop3 _hh a b c ta tb tc hy.1 hy.2
        | cons d td hi =>
          cases hi with
          | nil => exact pop4 _hh a b c d ta tb tc td hy.1 hy.2.1 hy.2.2
          | cons e te hi => exact hy.elim
end
end
end
end
end Mine
section
open PySem PySem.W PyProof.Rows PySem.Calls PySem.Spec
set_option Elab.async false
set_option maxRecDepth 100000
set_option maxHeartbeats 8000000
namespace Mine
theorem pop_empty {prog : Program} {w : World} {A : Around} {Q E : Value → Shared → Prop} {s : Shared} {h₀ : Heap} {L D : Addr} {n : Nat} {news : List (Addr × Obj)} (N : News h₀ L s.heap news) (hm : (D, listOf [].toArray n) ∈ news) (hh : A.handled = none)
    (h : ∀ h' tk e, Heap.NewExc s.heap h' e "IndexError" → E (.ref e) { s with heap := h', toks := tk }) : wpAny (model prog w) A (call (.builtin "list.pop") [.ref D]) Q E s :=
  call_meets PySem.F.slot_list_pop ⟨_, (N _ hm).1, rfl⟩ PySem.F.entry_list_pop (PySem.F.args_list_pop_1 _) (PySem.AutoSeq1.list_pop_list_0 D #[] n rfl) ⟨(N _ hm).1, hh, h⟩

section
variable {w : World} {mean : ExcName → Option Value} {mg mb : Str → Option Value} {l : Addr} {n : Nat}
theorem pop0 (_hh : Challenge.rw_op0011_01 = Challenge.rw_op0011_01) :
    SpecE w mean mg mb 35 [.ref l] 4 40 [(l, listOf [].toArray n)] [(l, listOf [].toArray n)] "IndexError" := by
  intro base dp un gd fr s Q E P S hd hu hret
  (have _hk := P.kin; revert _hk _hh; k_fill; intro _hh _hk)
  refine wpAny_call ?_
  refine enterP [] P S rfl (by k_is) (by k_is) (by ktr_room) (BindsTo.of_eq rfl) (locs rfl) ?_
  intro g L' h₁ F' N' B' X' T' D' l1 hG
  (try k_lt l1)
  (try dsimp only)
  (try k_fold)
  k_steps
  refine pop_empty N' (.head _) rfl ?_
  intro h' tk e hx
  (try dsimp only)
  k_steps
  exact hret _ _ _ _ (by assumption) (by assumption) hG
end
end Mine
end
section
open PySem PySem.W PyProof.Rows PySem.Calls PySem.Spec
set_option Elab.async false
set_option maxRecDepth 100000
set_option maxHeartbeats 8000000
namespace Mine

/-- the rest of a for loop, shut to the walk -/
structure FRest (prog : Program) (w : World) (A : Around) (E : Value → Shared → Prop) (env : Env) (target : PySem.Expr) (it : Value) (body orelse : List Stmt) (Q : Flow → Shared → Prop) (s : Shared) : Prop where
  out : codeAny (model prog w) A (.forLoop target it body orelse env) (fun r s' => match r with | .ok f => Q f s' | .error e => cameBackBy (model prog w) A env E e s') s

section
variable {prog : Program} {w : World} {A : Around} {E : Value → Shared → Prop} {s : Shared} {env : Env} {target iter : PySem.Expr} {it : Value} {body orelse : List Stmt} {Q : Flow → Shared → Prop}

theorem frest_start {pos : Pos} (h : wpAny (model prog w) A (eval iter env) (fun x s₁ => wpAny (model prog w) A (pyIter x) (fun it s₂ => FRest prog w A E env target it body orelse Q s₂) E s₁) E s)
    (hs : ∀ x, foldedSetIterable iter env x = pure x := by intro _; rfl) : wpAny (model prog w) A (exec (.For target iter body orelse pos) env) Q E s :=
  wpAny_For (wpAny_mono h (fun _ _ h₁ => wpAny_mono h₁ (fun _ _ h₂ => h₂.out) fun _ _ x => x) fun _ _ x => x) hs

theorem frest_turn (hE : PassesOwn (model prog w) A env E)
    (h : wpAny (model prog w) A (pyNext it) (fun r s₁ => match r with
      | none => wpAny (model prog w) A (execs orelse env) Q E s₁
      | some v => wpAny (model prog w) A (letOwnedTupleGo target it v) (fun _ s₁' => wpAny (model prog w) A (assign target env v) (fun _ s₂ => wpAny (model prog w) A (execs body env) (fun f s₃ => match f with
          | .next => FRest prog w A E env target it body orelse Q s₃
          | .cont => FRest prog w A E env target it body orelse Q s₃
          | .brk => Q .next s₃
          | .ret v => Q (.ret v) s₃) E s₂) E s₁') E s₁) E s) : FRest prog w A E env target it body orelse Q s := by
  refine ⟨codeAny_of_tree ?_⟩
  show wpAny _ A ((forTurn target it body orelse env).onRaise (fun x => do noteFrame x env; theTreesLotGoes x)) _ _ s
  refine wpAny_noted ?_
  simp only [forTurn]
  refine wpAny_bind (wpAny_standAt (wpAny_bind (wpAny_onRaise (wpAny_mono h (fun r s₁ h₁ => ?_) fun e s' h' => wpAny_standAt (hE e s' h')))))
  cases r with
  | none => exact wpAny_pure ⟨rfl, codeAny_block (wpAny_mono h₁ (fun _ _ x => x) hE)⟩
  | some v =>
    refine wpAny_bind (wpAny_mono h₁ (fun _ s₁' h₁' => ?_) hE)
    refine wpAny_bind (wpAny_mono h₁' (fun _ s₂ h₂ => wpAny_bind (wpAny_mono h₂ (fun f s₃ h₃ => ?_) hE)) hE)
    cases f with
    | next => exact wpAny_pure ⟨rfl, h₃.out⟩
    | cont => exact wpAny_pure ⟨rfl, h₃.out⟩
    | brk => exact wpAny_pure h₃
    | ret v => exact wpAny_pure h₃

theorem li_pyNext {l it : Addr} {its : Array Value} {n i : Nat} {x : Value} {Q : Option Value → Shared → Prop} (z : s.heap.get? it = some (itObj l i)) (zl : s.heap.get? l = some (listOf its n)) (hx : its[i]? = some x)
    (h : ∀ h', h'.get? it = some (itObj l (i + 1)) → Heap.SameBut it s.heap h' → Q (some x) { s with heap := h' }) :
    wpAny (model prog w) A (pyNext (.ref it)) Q E s := by
  have hT : s.TypeIs (.ref it) "list_iterator" := ⟨_, z, rfl⟩
  unfold pyNext
  refine wpAny_bind (wpAny_attempt (wpAny_callSpecial?_slot (name := Str.ofString "__next__") hT slot_listiter_next
    (wpAny_call_entry slot_listiter_next hT entry_listiter_next ?_ (args_listiter_next _))))
  show wpAny _ _ (field (.ref it) 0 >>= _) _ _ s
  refine wpAny_bind (wpAny_field z rfl (x := .ref l) rfl ?_)
  show wpAny _ _ (if (Value.ref l == Value.none) = true then _ else _) _ _ s
  rw [if_neg (show ¬ ((Value.ref l == Value.none) = true) from Bool.false_ne_true)]
  show wpAny _ _ (field (.ref it) 1 >>= _) _ _ s
  refine wpAny_bind (wpAny_field z rfl (x := .int i 0) rfl ?_)
  show wpAny _ _ (seqItems? (.ref l) >>= _) _ _ s
  refine wpAny_bind (wpAny_seqItems zl rfl ?_)
  simp only [Int.toNat_natCast, hx]
  refine wpAny_bind (wpAny_setField z rfl (by simp) (wpAny_pure ⟨x, rfl, wpAny_pure (h _ ?_ (Heap.SameBut.update ..))⟩))
  have e := Heap.get?_update_self (Obj.mapFields (·.setIfInBounds 1 (rawInt ((i : Int) + 1)))) z (by rw [upd_it]; rfl)
  rw [upd_it] at e
  exact e

theorem li_pyIter {h₀ : Heap} {L l : Addr} {m : Str → Option Value} {news : List (Addr × Obj)} {its : Array Value} {n : Nat} {Q : Value → Shared → Prop} (F : Fr h₀ L s.heap m) (N : News h₀ L s.heap news) (hm : (l, listOf its n) ∈ news)
    (h : ∀ (I : Addr) h', Fr h₀ L h' m → News h₀ L h' ((I, itObj l 0) :: news) → (∀ p ∈ news, p.1 < I) → Q (.ref I) { s with heap := h' }) :
    wpAny (model prog w) A (pyIter (.ref l)) Q E s :=
  wpAny_pyIter_list ⟨_, (N _ hm).1, rfl, n, rfl⟩ (h _ _ (F.push _) (News.push F N _ rfl) (fun q hq => Heap.lt_size (N q hq).1))

/-- a for over a list of the ledger -/
theorem frest_list {l it : Addr} {vs : List Value} {n : Nat} {g : Heap} {L : Addr} {m₀ : Str → Option Value} {news₀ : List (Addr × Obj)} (I : Nat → (Str → Option Value) → List (Addr × Obj) → Prop)
    (hh : A.handled = none) (hE : PassesOwn (model prog w) A env E) (ht : ∀ v, letOwnedTupleGo target (.ref it) v = pure ()) (F : Fr g L s.heap m₀) (N : News g L s.heap ((it, itObj l 0) :: news₀))
    (hl : ∀ i m news, I i m news → (l, listOf vs.toArray n) ∈ news ∧ ∀ p ∈ news, p.1 ≠ it) (h0 : I 0 m₀ news₀)
    (item : ∀ i v h tk m news, vs[i]? = some v → Fr g L h m → News g L h ((it, itObj l (i + 1)) :: news) → I i m news →
      (∀ h' tk' m' news', Fr g L h' m' → News g L h' ((it, itObj l (i + 1)) :: news') → I (i + 1) m' news' → FRest prog w A E env target (.ref it) body orelse Q { s with heap := h', toks := tk' }) →
      wpAny (model prog w) A (assign target env v) (fun _ s₂ => wpAny (model prog w) A (execs body env) (fun f s₃ => match f with
          | .next => FRest prog w A E env target (.ref it) body orelse Q s₃
          | .cont => FRest prog w A E env target (.ref it) body orelse Q s₃
          | .brk => Q .next s₃
          | .ret v => Q (.ret v) s₃) E s₂) E { s with heap := h, toks := tk })
    (done : ∀ h tk m news, Fr g L h m → News g L h news → I vs.length m news → wpAny (model prog w) A (execs orelse env) Q E { s with heap := h, toks := tk }) :
    FRest prog w A E env target (.ref it) body orelse Q s := by
  have all : ∀ k i, i + k = vs.length → ∀ h tk m news, Fr g L h m → News g L h ((it, itObj l i) :: news) → I i m news → FRest prog w A E env target (.ref it) body orelse Q { s with heap := h, toks := tk } := by
    intro k
    induction k with
    | zero =>
      intro i hi h tk m news F N hI
      refine frest_turn hE ?_
      obtain ⟨h1, h2⟩ := hl i m news hI
      have zi := (N _ (.head _)).1
      have zl := (N _ (.tail _ h1)).1
      refine wpAny_pyNext_list_end (items := vs.toArray) hh ⟨_, zi, rfl, rfl⟩ ⟨_, zl, rfl, n, rfl⟩ (by simp; omega) fun h' hx => ?_
      have hi' : i = vs.length := by omega
      subst hi'
      obtain ⟨oL, es, ep, hL, hLd, hLk, hLf⟩ := F.ns
      refine done h' tk m news ⟨⟨oL, es, ep, hx _ _ (Ne.symm (N _ (.head _)).2.1) hL, hLd, hLk, hLf⟩, fun b o e => hx _ _ (fun q => ?_) (F.keep b o e), F.above⟩ (fun p hp => ?_) hI
      · have := (N _ (.head _)).2.2; rw [← q, e] at this; cases this
      · exact ⟨hx _ _ (h2 p hp) (N p (.tail _ hp)).1, (N p (.tail _ hp)).2⟩
    | succ k ih =>
      intro i hi h tk m news F N hI
      refine frest_turn hE ?_
      obtain ⟨h1, h2⟩ := hl i m news hI
      have z := N _ (.head _)
      have zl := (N _ (.tail _ h1)).1
      have hlt : i < vs.length := by omega
      refine li_pyNext (x := vs[i]) z.1 zl (by simp [hlt]) fun h' hob hx => ?_
      refine wpAny_of_eq (ht _) ?_
      refine item i vs[i] h' tk m news (by simp [hlt]) (F.change hx z.2.1 z.2.2) (fun p hp => ?_) hI fun h'' tk'' m'' news'' F'' N'' hI'' => ih (i + 1) (by omega) h'' tk'' m'' news'' F'' N'' hI''
      rcases List.mem_cons.mp hp with rfl | hp
      · exact ⟨hob, z.2⟩
      · exact ⟨(hx.2 _ (h2 p hp)).trans (N p (.tail _ hp)).1, (N p (.tail _ hp)).2⟩
  exact all vs.length 0 (by omega) s.heap s.toks m₀ news₀ F N h0

theorem m_junk {a b c : Str} {m m₀ : Str → Option Value} (h : ∀ y, y ≠ a → y ≠ b → y ≠ c → m y = m₀ y) : m = fun y => if y = a then m a else if y = b then m b else if y = c then m c else m₀ y := by
  funext y
  by_cases h1 : y = a
  · rw [if_pos h1, h1]
  · by_cases h2 : y = b
    · rw [if_neg h1, if_pos h2, h2]
    · by_cases h3 : y = c
      · rw [if_neg h1, if_neg h2, if_pos h3, h3]
      · simp only [if_neg h1, if_neg h2, if_neg h3]; exact h y h1 h2 h3

/-- as frest_list; three names of the frame may hold anything between the turns -/
theorem frest_list3 (a b c : Str) {l it : Addr} {vs : List Value} {n : Nat} {g : Heap} {L : Addr} {m₀ : Str → Option Value} {news₀ : List (Addr × Obj)} (I : Nat → List (Addr × Obj) → Prop)
    (hh : A.handled = none) (hE : PassesOwn (model prog w) A env E) (ht : ∀ v, letOwnedTupleGo target (.ref it) v = pure ()) (F : Fr g L s.heap m₀) (N : News g L s.heap ((it, itObj l 0) :: news₀))
    (hl : ∀ i news, I i news → (l, listOf vs.toArray n) ∈ news ∧ ∀ p ∈ news, p.1 ≠ it) (h0 : I 0 news₀)
    (item : ∀ i v h tk u1 u2 u3 news, vs[i]? = some v → Fr g L h (fun y => if y = a then u1 else if y = b then u2 else if y = c then u3 else m₀ y) → News g L h ((it, itObj l (i + 1)) :: news) → I i news →
      (∀ h' tk' m' news', (∀ y, y ≠ a → y ≠ b → y ≠ c → m' y = m₀ y) → Fr g L h' m' → News g L h' ((it, itObj l (i + 1)) :: news') → I (i + 1) news' → FRest prog w A E env target (.ref it) body orelse Q { s with heap := h', toks := tk' }) →
      wpAny (model prog w) A (assign target env v) (fun _ s₂ => wpAny (model prog w) A (execs body env) (fun f s₃ => match f with
          | .next => FRest prog w A E env target (.ref it) body orelse Q s₃
          | .cont => FRest prog w A E env target (.ref it) body orelse Q s₃
          | .brk => Q .next s₃
          | .ret v => Q (.ret v) s₃) E s₂) E { s with heap := h, toks := tk })
    (done : ∀ h tk u1 u2 u3 news, Fr g L h (fun y => if y = a then u1 else if y = b then u2 else if y = c then u3 else m₀ y) → News g L h news → I vs.length news → wpAny (model prog w) A (execs orelse env) Q E { s with heap := h, toks := tk }) :
    FRest prog w A E env target (.ref it) body orelse Q s :=
  frest_list (fun i m news => (∃ u1 u2 u3, m = fun y => if y = a then u1 else if y = b then u2 else if y = c then u3 else m₀ y) ∧ I i news) hh hE ht F N (fun i m news hI => hl i news hI.2) ⟨⟨_, _, _, m_junk fun _ _ _ _ => rfl⟩, h0⟩
    (fun i v h tk m news hv F' N' hI ih => by
      obtain ⟨⟨u1, u2, u3, rfl⟩, hI⟩ := hI
      exact item i v h tk u1 u2 u3 news hv F' N' hI fun h' tk' m' news' hm F'' N'' hI' => ih h' tk' m' news' F'' N'' ⟨⟨_, _, _, m_junk hm⟩, hI'⟩)
    (fun h tk m news F' N' hI => by
      obtain ⟨⟨u1, u2, u3, rfl⟩, hI⟩ := hI
      exact done h tk u1 u2 u3 news F' N' hI)
end
end Mine
end
section
open PySem PySem.W PyProof.Rows PySem.Calls PySem.Spec
set_option Elab.async false
set_option maxRecDepth 100000
set_option maxHeartbeats 8000000
namespace Mine
def tup2 (x y : Value) : Obj := { cls := .type "tuple", data := .seq #[x, y] }

section
variable {prog : Program} {w : World} {A : Around} {E : Value → Shared → Prop} {s : Shared} {env : Env} {elts : List PySem.Expr} {x1 : Nat} {tpos : Pos} {body orelse : List Stmt} {Q : Flow → Shared → Prop}

/-- zip of two lists is made: the five objects behind it -/
theorem li_zip {h₀ : Heap} {L l1 l2 : Addr} {m : Str → Option Value} {news : List (Addr × Obj)} {xs ys : Array Value} {n1 n2 : Nat} {Q : Value → Shared → Prop} (F : Fr h₀ L s.heap m) (N : News h₀ L s.heap news) (hm1 : (l1, listOf xs n1) ∈ news) (hm2 : (l2, listOf ys n2) ∈ news)
    (h : ∀ (b : Addr) h', Fr h₀ L h' m → News h₀ L h' news → (∀ p ∈ news, p.1 < b) → L < b → (∀ a, b ≤ a → h₀.get? a = none) →
      IsZip h' (b + 4) (b + 2) (b + 3) .none → IsPair h' (b + 2) (.ref b) (.ref (b + 1)) → IsPair h' (b + 3) .none .none → h'.IsListIter b l1 0 → h'.IsListIter (b + 1) l2 0 → Q (.ref (b + 4)) { s with heap := h' }) :
    wpAny (model prog w) A (call (.type "zip") [.ref l1, .ref l2]) Q E s := by
  refine call_zip_2 ⟨_, (N _ hm1).1, rfl, n1, rfl⟩ ⟨_, (N _ hm2).1, rfl, n2, rfl⟩ fun h' a1 a2 a3 a4 a5 _ hk => ?_
  refine h s.heap.objs.size h' (F.keeps hk) (N.grown hk) (fun p hp => Heap.lt_size (N p hp).1) F.ns.lt (fun a ha => ?_) a1 a2 a3 a4 a5
  cases e : h₀.get? a with
  | none => rfl
  | some o => exact absurd (Heap.lt_size (F.keep a o e)) (Nat.not_lt.mpr ha)

theorem frest_zip {l1 l2 b : Addr} {us vs : List Value} {n1 n2 : Nat} {g : Heap} {L : Addr} {m₀ : Str → Option Value} {news₀ : List (Addr × Obj)} (I : Nat → (Str → Option Value) → List (Addr × Obj) → Prop)
    (hh : A.handled = none) (hE : PassesOwn (model prog w) A env E) (hlen : us.length = vs.length) (F : Fr g L s.heap m₀) (N : News g L s.heap news₀) (hLb : L < b) (hgb : ∀ a, b ≤ a → g.get? a = none)
    (z1 : IsZip s.heap (b + 4) (b + 2) (b + 3) .none) (z2 : IsPair s.heap (b + 2) (.ref b) (.ref (b + 1))) (z3 : IsPair s.heap (b + 3) .none .none) (z4 : s.heap.IsListIter b l1 0) (z5 : s.heap.IsListIter (b + 1) l2 0)
    (hl : ∀ i m news, I i m news → (l1, listOf us.toArray n1) ∈ news ∧ (l2, listOf vs.toArray n2) ∈ news ∧ ∀ p ∈ news, p.1 < b) (h0 : I 0 m₀ news₀)
    (item : ∀ i x y T o4 o2 o3 o0 o1 h tk m news, us[i]? = some x → vs[i]? = some y → b + 4 < T → Fr g L h m → News g L h ((T, tup2 x y) :: (b + 4, o4) :: (b + 2, o2) :: (b + 3, o3) :: (b, o0) :: (b + 1, o1) :: news) → I i m news →
      (∀ h' tk' m' news', Fr g L h' m' → News g L h' ((b + 4, o4) :: (b + 2, o2) :: (b + 3, o3) :: (b, o0) :: (b + 1, o1) :: news') → I (i + 1) m' news' → FRest prog w A E env (.Tuple elts x1 tpos) (.ref (b + 4)) body orelse Q { s with heap := h', toks := tk' }) →
      wpAny (model prog w) A (assign (.Tuple elts x1 tpos) env (.ref T)) (fun _ s₂ => wpAny (model prog w) A (execs body env) (fun f s₃ => match f with
          | .next => FRest prog w A E env (.Tuple elts x1 tpos) (.ref (b + 4)) body orelse Q s₃
          | .cont => FRest prog w A E env (.Tuple elts x1 tpos) (.ref (b + 4)) body orelse Q s₃
          | .brk => Q .next s₃
          | .ret v => Q (.ret v) s₃) E s₂) E { s with heap := h, toks := tk })
    (done : ∀ h tk m news, Fr g L h m → News g L h news → I vs.length m news → wpAny (model prog w) A (execs orelse env) Q E { s with heap := h, toks := tk }) :
    FRest prog w A E env (.Tuple elts x1 tpos) (.ref (b + 4)) body orelse Q s := by
  have hb1 : @LT.lt Nat _ l1 b := by obtain ⟨q, _, r⟩ := hl 0 m₀ news₀ h0; exact r _ q
  have hb2 : @LT.lt Nat _ l2 b := by obtain ⟨_, q, r⟩ := hl 0 m₀ news₀ h0; exact r _ q
  have AP : ZipApart (b + 4) (b + 2) (b + 3) b (b + 1) l1 l2 := by constructor <;> exact neN (by omega)
  have W := WalksT.zip2 (prog := prog) (w := w) hh (b + 4) (b + 2) (b + 3) b (b + 1) l1 l2 AP us.toArray vs.toArray
  have hmin : min us.toArray.size vs.toArray.size = vs.length := by simp [hlen]
  have all : ∀ k i, i + k = vs.length → ∀ h tk m news, Fr g L h m → News g L h news →
      (IsZip h (b + 4) (b + 2) (b + 3) .none ∧ IsPair h (b + 2) (.ref b) (.ref (b + 1)) ∧ (∃ p q, IsPair h (b + 3) p q) ∧ h.IsListIter b l1 i ∧ h.IsListIter (b + 1) l2 i) → I i m news →
      FRest prog w A E env (.Tuple elts x1 tpos) (.ref (b + 4)) body orelse Q { s with heap := h, toks := tk } := by
    intro k
    induction k with
    | zero =>
      intro i hi h tk m news F N hS hI
      obtain ⟨q1, q2, ⟨p, q, q3⟩, q4, q5⟩ := hS
      obtain ⟨r1, r2, r3⟩ := hl i m news hI
      refine frest_turn hE ?_
      refine wpAny_pyNext_zip_end hh AP q1 q2 q3 q4 q5 ⟨_, (N _ r1).1, rfl, n1, rfl⟩ ⟨_, (N _ r2).1, rfl, n2, rfl⟩ (.inr (by simp; omega)) fun h' hk => ?_
      have hi' : i = vs.length := by omega
      subst hi'
      obtain ⟨oL, es, ep, hL, hLd, hLk, hLf⟩ := F.ns
      have off : ∀ c, c < b → c ≠ b + 4 ∧ c ≠ b + 3 ∧ c ≠ b ∧ c ≠ b + 1 := fun c hc => ⟨neN (by have : @LT.lt Nat _ c b := hc; omega), neN (by have : @LT.lt Nat _ c b := hc; omega), neN (by have : @LT.lt Nat _ c b := hc; omega), neN (by have : @LT.lt Nat _ c b := hc; omega)⟩
      have keep : ∀ c o, c < b → h.get? c = some o → h'.get? c = some o := fun c o hc e => hk c o (off c hc).1 (off c hc).2.1 (off c hc).2.2.1 (off c hc).2.2.2 e
      refine done h' tk m news ⟨⟨oL, es, ep, keep _ _ hLb hL, hLd, hLk, hLf⟩, fun c o e => keep c o ?_ (F.keep c o e), F.above⟩ (fun p hp => ⟨keep _ _ (r3 p hp) (N p hp).1, (N p hp).2⟩) hI
      rcases Nat.lt_or_ge c b with z | z
      · exact z
      · have := hgb c z; rw [e] at this; cases this
    | succ k ih =>
      intro i hi h tk m news F N hS hI
      obtain ⟨q1, q2, ⟨p, q, q3⟩, q4, q5⟩ := hS
      obtain ⟨r1, r2, r3⟩ := hl i m news hI
      have hiv : i < vs.length := by omega
      have hiu : i < us.length := by omega
      refine frest_turn hE ?_
      refine wpAny_pyNext_zip_item (x := us[i]) (y := vs[i]) AP q1 q2 q3 q4 q5 ⟨_, (N _ r1).1, rfl, n1, rfl⟩ ⟨_, (N _ r2).1, rfl, n2, rfl⟩ (by simp [hiu]) (by simp [hiv]) fun h' a1 a2 a3 a4 a5 a6 hk => ?_
      refine wpAny_letOwnedTupleGo_zip a1 fun h'' c1 hs => ?_
      dsimp only at a1 a5 hs c1 hk ⊢
      have hT : b + 4 < h.objs.size := Heap.lt_size q1
      have kk : ∀ c o, c ≠ b + 4 → h'.get? c = some o → h''.get? c = some o := fun c o hc e => hs.extBut c o hc e
      have off : ∀ c, c < b → c ≠ b + 4 ∧ c ≠ b + 3 ∧ c ≠ b ∧ c ≠ b + 1 := fun c hc => ⟨neN (by have : @LT.lt Nat _ c b := hc; omega), neN (by have : @LT.lt Nat _ c b := hc; omega), neN (by have : @LT.lt Nat _ c b := hc; omega), neN (by have : @LT.lt Nat _ c b := hc; omega)⟩
      have keep : ∀ c o, c < b → h.get? c = some o → h''.get? c = some o := fun c o hc e => kk c o (off c hc).1 (hk c o (off c hc).1 (off c hc).2.1 (off c hc).2.2.1 (off c hc).2.2.2 e)
      obtain ⟨oL, es, ep, hL, hLd, hLk, hLf⟩ := F.ns
      have F' : Fr g L h'' m := ⟨⟨oL, es, ep, keep _ _ hLb hL, hLd, hLk, hLf⟩, fun c o e => keep c o (by
        rcases Nat.lt_or_ge c b with z | z
        · exact z
        · have := hgb c z; rw [e] at this; cases this) (F.keep c o e), F.above⟩
      have a3' := a3.extBut hs.extBut AP.i1z
      have a4' := a4.extBut hs.extBut AP.i2z
      obtain ⟨o0, e0, e0c, e0d⟩ := a3'
      obtain ⟨o1, e1, e1c, e1d⟩ := a4'
      have e2 : IsPair h'' (b + 2) (.ref b) (.ref (b + 1)) := kk _ _ AP.TIz (hk _ _ AP.TIz AP.TITO AP.TIi1 AP.TIi2 q2)
      have e3 : IsPair h'' (b + 3) us[i] vs[i] := kk _ _ AP.TOz a2
      have eT : h''.get? h.objs.size = some (tup2 us[i] vs[i]) := kk _ _ (neN (by have : @LT.lt Nat _ (b + 4) h.objs.size := hT; omega)) a5
      have fr : ∀ a, b ≤ a → a ≠ L ∧ g.get? a = none := fun a ha => ⟨neN (by have : @LE.le Nat _ b a := ha; have : @LT.lt Nat _ L b := hLb; omega), hgb a ha⟩
      have N' : News g L h'' news := fun p hp => ⟨keep _ _ (r3 p hp) (N p hp).1, (N p hp).2⟩
      refine item i us[i] vs[i] h.objs.size { cls := .type "zip", dict := none, data := .fields #[.none, .bool false, .bool false, .ref (b + 2), .ref (b + 3)], slots := #[] } (tup2 (.ref b) (.ref (b + 1))) (tup2 us[i] vs[i]) o0 o1 h'' tk m news (by simp [hiu]) (by simp [hiv]) hT F' (fun p hp => ?_) hI fun h3 tk3 m3 news3 F3 N3 hI3 => ?_
      · rcases List.mem_cons.mp hp with rfl | hp
        · exact ⟨eT, fr _ (by have : @LT.lt Nat _ (b + 4) h.objs.size := hT; show @LE.le Nat _ b _; omega)⟩
        rcases List.mem_cons.mp hp with rfl | hp
        · exact ⟨c1, fr _ (by show @LE.le Nat _ b _; omega)⟩
        rcases List.mem_cons.mp hp with rfl | hp
        · exact ⟨e2, fr _ (by show @LE.le Nat _ b _; omega)⟩
        rcases List.mem_cons.mp hp with rfl | hp
        · exact ⟨e3, fr _ (by show @LE.le Nat _ b _; omega)⟩
        rcases List.mem_cons.mp hp with rfl | hp
        · exact ⟨e0, fr _ (by show @LE.le Nat _ b _; omega)⟩
        rcases List.mem_cons.mp hp with rfl | hp
        · exact ⟨e1, fr _ (by show @LE.le Nat _ b _; omega)⟩
        exact N' p hp
      · refine ih (i + 1) (by omega) h3 tk3 m3 news3 F3 (fun p hp => N3 p (.tail _ (.tail _ (.tail _ (.tail _ (.tail _ hp)))))) ⟨(N3 _ (.head _)).1, (N3 _ (.tail _ (.head _))).1, ⟨_, _, (N3 _ (.tail _ (.tail _ (.head _)))).1⟩, ⟨o0, (N3 _ (.tail _ (.tail _ (.tail _ (.head _))))).1, e0c, e0d⟩, ⟨o1, (N3 _ (.tail _ (.tail _ (.tail _ (.tail _ (.head _)))))).1, e1c, e1d⟩⟩ hI3
  exact all vs.length 0 (by omega) s.heap s.toks m₀ news₀ F N ⟨z1, z2, ⟨_, _, z3⟩, z4, z5⟩ h0

/-- as frest_zip; two names of the frame may hold anything between the turns -/
theorem frest_zip2 (na nb : Str) {l1 l2 b : Addr} {us vs : List Value} {n1 n2 : Nat} {g : Heap} {L : Addr} {m₀ : Str → Option Value} {news₀ : List (Addr × Obj)} (I : Nat → List (Addr × Obj) → Prop)
    (hh : A.handled = none) (hE : PassesOwn (model prog w) A env E) (hlen : us.length = vs.length) (F : Fr g L s.heap m₀) (N : News g L s.heap news₀) (hLb : L < b) (hgb : ∀ a, b ≤ a → g.get? a = none)
    (z1 : IsZip s.heap (b + 4) (b + 2) (b + 3) .none) (z2 : IsPair s.heap (b + 2) (.ref b) (.ref (b + 1))) (z3 : IsPair s.heap (b + 3) .none .none) (z4 : s.heap.IsListIter b l1 0) (z5 : s.heap.IsListIter (b + 1) l2 0)
    (hl : ∀ i news, I i news → (l1, listOf us.toArray n1) ∈ news ∧ (l2, listOf vs.toArray n2) ∈ news ∧ ∀ p ∈ news, p.1 < b) (h0 : I 0 news₀)
    (item : ∀ i x y T o4 o2 o3 o0 o1 h tk u1 u2 u3 news, us[i]? = some x → vs[i]? = some y → b + 4 < T → Fr g L h (fun y => if y = na then u1 else if y = nb then u2 else if y = nb then u3 else m₀ y) → News g L h ((T, tup2 x y) :: (b + 4, o4) :: (b + 2, o2) :: (b + 3, o3) :: (b, o0) :: (b + 1, o1) :: news) → I i news →
      (∀ h' tk' m' news', (∀ y, y ≠ na → y ≠ nb → m' y = m₀ y) → Fr g L h' m' → News g L h' ((b + 4, o4) :: (b + 2, o2) :: (b + 3, o3) :: (b, o0) :: (b + 1, o1) :: news') → I (i + 1) news' → FRest prog w A E env (.Tuple elts x1 tpos) (.ref (b + 4)) body orelse Q { s with heap := h', toks := tk' }) →
      wpAny (model prog w) A (assign (.Tuple elts x1 tpos) env (.ref T)) (fun _ s₂ => wpAny (model prog w) A (execs body env) (fun f s₃ => match f with
          | .next => FRest prog w A E env (.Tuple elts x1 tpos) (.ref (b + 4)) body orelse Q s₃
          | .cont => FRest prog w A E env (.Tuple elts x1 tpos) (.ref (b + 4)) body orelse Q s₃
          | .brk => Q .next s₃
          | .ret v => Q (.ret v) s₃) E s₂) E { s with heap := h, toks := tk })
    (done : ∀ h tk u1 u2 u3 news, Fr g L h (fun y => if y = na then u1 else if y = nb then u2 else if y = nb then u3 else m₀ y) → News g L h news → I vs.length news → wpAny (model prog w) A (execs orelse env) Q E { s with heap := h, toks := tk }) :
    FRest prog w A E env (.Tuple elts x1 tpos) (.ref (b + 4)) body orelse Q s :=
  frest_zip (fun i m news => (∃ u1 u2 u3, m = fun y => if y = na then u1 else if y = nb then u2 else if y = nb then u3 else m₀ y) ∧ I i news) hh hE hlen F N hLb hgb z1 z2 z3 z4 z5 (fun i m news hI => hl i news hI.2) ⟨⟨_, _, _, m_junk fun _ _ _ _ => rfl⟩, h0⟩
    (fun i x y T o4 o2 o3 o0 o1 h tk m news hx hy hT F' N' hI ih => by
      obtain ⟨⟨u1, u2, u3, rfl⟩, hI⟩ := hI
      exact item i x y T o4 o2 o3 o0 o1 h tk u1 u2 u3 news hx hy hT F' N' hI fun h' tk' m' news' hm F'' N'' hI' => ih h' tk' m' news' F'' N'' ⟨⟨_, _, _, m_junk fun y y1 y2 _ => hm y y1 y2⟩, hI'⟩)
    (fun h tk m news F' N' hI => by
      obtain ⟨⟨u1, u2, u3, rfl⟩, hI⟩ := hI
      exact done h tk u1 u2 u3 news F' N' hI)
end
end Mine
end
namespace Mine
section
open PySem PySem.W PyProof.Rows PySem.Calls PySem.Spec
set_option maxRecDepth 100000
set_option maxHeartbeats 8000000
local macro_rules | `(tactic| walk_at "exec While") => `(tactic| (k_here; k_dflt (refine rest_start ?_)))
section
open PySem PySem.W PyProof.Rows PySem.Calls PySem.Spec
set_option Elab.async false
set_option maxRecDepth 100000
set_option maxHeartbeats 8000000
section

def encW : List Int → List Int
  | [] => []
  | [f] => [f]
  | f :: r => (64 + f) :: encW r

def octet (f : Int) (r : List Int) : Int := if r = [] then f else 64 + f

theorem encW_cons (f : Int) (r : List Int) : encW (f :: r) = octet f r :: encW r := by
  cases r with
  | nil => rfl
  | cons a r => rfl

section
variable {w : World} {mean : ExcName → Option Value} {mg mb : Str → Option Value} {l it : Addr} {n i : Nat}

theorem and_small : ∀ n : Fin 128, Builtin.bitAnd ((n.val : Nat) : Int) 63 = ((n.val % 64 : Nat) : Int) ∧ Builtin.bitAnd ((n.val : Nat) : Int) 64 = ((n.val / 64 * 64 : Nat) : Int) := by decide +kernel
theorem and63 {x : Int} (h0 : 0 ≤ x) (h1 : x < 128) : Builtin.bitAnd x 63 = x % 64 := by
  obtain ⟨n, rfl⟩ := Int.eq_ofNat_of_zero_le h0
  have := (and_small ⟨n, by omega⟩).1
  simp only at this
  rw [this]; omega
theorem and64 {x : Int} (h0 : 0 ≤ x) (h1 : x < 128) : Builtin.bitAnd x 64 = x / 64 * 64 := by
  obtain ⟨n, rfl⟩ := Int.eq_ofNat_of_zero_le h0
  have := (and_small ⟨n, by omega⟩).2
  simp only at this
  rw [this]; omega
theorem not_not (x : Int) : Builtin.bitNot (Builtin.bitNot x) = x := by unfold Builtin.bitNot; omega
theorem or64 {a f : Int} (ha : 0 ≤ a) (h0 : 0 ≤ f) (h1 : f < 64) : Builtin.bitOr (a * 2 ^ (6 : Int).toNat) f = a * 64 + f := by
  obtain ⟨n, rfl⟩ := Int.eq_ofNat_of_zero_le ha
  obtain ⟨k, rfl⟩ := Int.eq_ofNat_of_zero_le h0
  have e : ((n : Int) * 2 ^ (6 : Int).toNat) = ((n * 64 : Nat) : Int) := by
    rw [show (2 : Int) ^ (6 : Int).toNat = 64 from rfl]; omega
  rw [e]
  unfold Builtin.bitOr Builtin.bitAnd
  have d1 : decide (0 ≤ Builtin.bitNot ((n * 64 : Nat) : Int)) = false := by unfold Builtin.bitNot; exact decide_eq_false (by omega)
  have d2 : decide (0 ≤ Builtin.bitNot (k : Int)) = false := by unfold Builtin.bitNot; exact decide_eq_false (by omega)
  rw [d1, d2]
  simp only [not_not, Int.toNat_natCast]
  have q : n <<< 6 + k = n <<< 6 ||| k := Nat.shiftLeft_add_eq_or_of_lt (by omega) n
  rw [Nat.shiftLeft_eq] at q
  rw [show n * 64 = n * 2 ^ 6 from rfl, ← q]
  omega

theorem m_norm {a b : Str} {x z u p q : Option Value} {m : Str → Option Value} :
    (fun y => if y = a then x else if y = b then z else if y = a then u else if y = a then p else if y = b then q else m y) = (fun y => if y = a then x else if y = b then z else m y) := by
  funext y
  by_cases h1 : y = a
  · simp [h1]
  · by_cases h2 : y = b
    · simp [h2]
    · simp [h1, h2]
theorem octet_lo {f : Int} {r : List Int} (h : 0 ≤ f ∧ f < 64) : 0 ≤ octet f r ∧ octet f r < 128 ∧ octet f r % 64 = f := by
  unfold octet; split <;> omega

theorem ints_at {vs : List Value} {os : List Int} (hi : IntsAre vs os) {i : Nat} {o : Int} {r : List Int} (h : os.drop i = o :: r) : ∃ t, vs.toArray[i]? = some (.int o t) ∧ os.drop (i + 1) = r := by
  have h1 : os[i]? = some o := by
    have := congrArg List.head? h
    rwa [List.head?_drop] at this
  obtain ⟨t, ht⟩ := hi.get i o h1
  refine ⟨t, by simpa using ht, ?_⟩
  rw [← List.tail_drop, h]
  rfl

theorem var_spec (_hh : Challenge.rw_op0011_01 = Challenge.rw_op0011_01) {vs : List Value} {os rest : List Int} {f : Int} {r : List Int} (hi : IntsAre vs os) (hos : os.drop i = encW (f :: r) ++ rest) (hf : ∀ x ∈ f :: r, 0 ≤ x ∧ x < 64) (hr : r.length ≤ 3) (hne : l ≠ it) :
    Spec false w mean mg mb 21 [.ref it] 2 30 [(it, itObj l i), (l, listOf vs.toArray n)] (fun v sm => (∃ t, v = .int (r.foldl (fun a x => a * 64 + x) f) t) ∧ sm = [(it, itObj l (i + (r.length + 1))), (l, listOf vs.toArray n)]) := by
  intro base dp un gd fr s Q E P S hd hu hret
  (have _hk := P.kin; revert _hk _hh; k_fill; intro _hh _hk)
  have _ht := P.top
  have hne' : ∀ p ∈ [(l, listOf vs.toArray n)], p.1 ≠ it := fun p hp => by rw [List.mem_singleton.mp hp]; exact hne
  have hb63 : Builtin.bitAnd (octet f r) 63 = f := by
    obtain ⟨q1, q2, q3⟩ := octet_lo (r := r) (hf f (.head _))
    rw [and63 q1 q2, q3]
  rw [encW_cons] at hos
  obtain ⟨t0, h0, hos'⟩ := ints_at hi hos
  refine wpAny_call ?_
  refine enterP [] P S rfl (by k_is) (by k_is) (by ktr_room) (BindsTo.of_eq rfl) (locs rfl) ?_
  intro g L' h₁ F' N' B' X' T' D' l1 hG
  (try k_lt l1)
  (try dsimp only)
  (try k_fold)
  k_steps
  refine li_next (by k_asm) (by k_asm) (by k_mem) (i := i) (.head hne') h0 ?_
  intro h' F' N'
  k_steps
  rename_i F3 N3
  refine rest_of2 (fun n x z news => ∃ i' f' r' acc tb tv, n = List.length r' ∧ news = [(it, itObj l i'), (l, listOf vs.toArray _)] ∧ os.drop i' = encW r' ++ rest ∧ (∀ x ∈ f' :: r', 0 ≤ x ∧ x < 64) ∧ 0 ≤ acc ∧ (∃ j : Nat, acc < 64 ^ j ∧ j + r'.length ≤ 4) ∧ r'.foldl (fun a x => a * 64 + x) acc = r.foldl (fun a x => a * 64 + x) f ∧ i' + r'.length = i + (r.length + 1)
     ∧ x = some (Value.int acc tv) ∧ z = some (Value.int (octet f' r') tb))
    F3 N3 r.length ⟨i + 1, f, r, _, _, _, rfl, rfl, hos', hf, ?_, ⟨1, ?_, ?_⟩, ?_, ?_, rfl, rfl⟩ ?_
  · rw [hb63]; exact (hf f (.head _)).1
  · rw [hb63]; have := (hf f (.head _)).2; omega
  · omega
  · rw [hb63]
  · omega
  clear F3 N3
  intro k h tk x z news F N hI ih
  obtain ⟨i', f', r', acc, tb, tv, hk, rfl, hos1, hf', hacc, ⟨j, hj, hj4⟩, hfold, hii, rfl, rfl⟩ := hI
  refine rest_turn (by first | passes_own | with_unfolding_all passes_own) ?_
  k_steps
  cases r' with
  | nil =>
    refine WhlIf.no ?_ ?_
    · obtain ⟨q1, q2⟩ := hf' f' (.head _)
      rw [show octet f' [] = f' from rfl, and64 q1 (by omega)]
      rw [show f' / 64 * 64 = 0 by omega]; rfl
    k_steps
    have hii' : i' = i + (r.length + 1) := by simpa using hii
    exact ⟨g, L', _, _, KtsTurn.refl, F, N, fun K A N' => hret _ _ _ _ K A N' ⟨⟨_, congrArg (fun q => Value.int q _) hfold⟩, by rw [hii']⟩⟩
  | cons a r'' =>
    obtain ⟨q1, q2⟩ := hf' f' (.head _)
    obtain ⟨q3, q4⟩ := hf' a (.tail _ (.head _))
    refine WhlIf.yes ?_ ?_
    · rw [show octet f' (a :: r'') = 64 + f' from rfl, and64 (by omega) (by omega)]
      rw [show (64 + f') / 64 * 64 = 64 by omega]; rfl
    k_steps
    have hbig : acc.natAbs < 2 ^ 64 := by
      have : j = 0 ∨ j = 1 ∨ j = 2 ∨ j = 3 ∨ j = 4 := by omega
      rcases this with rfl | rfl | rfl | rfl | rfl <;> omega
    refine ilshift_int_small (by decide) (by decide) hbig ?_
    k_steps
    rw [encW_cons] at hos1
    obtain ⟨t1, h1, hos2⟩ := ints_at hi hos1
    refine li_next (by k_asm) (by k_asm) (by k_mem) (i := i') (.head hne') h1 ?_
    intro h' F' N'
    k_steps
    rename_i h8 h9 F9 N9
    have e63 : Builtin.bitAnd (octet a r'') 63 = a := by
      obtain ⟨p1, p2, p3⟩ := octet_lo (r := r'') ⟨q3, q4⟩
      rw [and63 p1 p2, p3]
    have eor : Builtin.bitOr (acc * 2 ^ (6 : Int).toNat) (Builtin.bitAnd (octet a r'') 63) = acc * 64 + a := by rw [e63]; exact or64 hacc q3 q4
    rw [m_norm, eor] at F9
    refine ih r''.length h9 _ _ _ _ ?_ F9 N9 ⟨i' + 1, a, r'', acc * 64 + a, _, _, rfl, rfl, hos2, fun x hx => hf' x (.tail _ hx), ?_, ⟨j + 1, ?_, ?_⟩, hfold, ?_, rfl, rfl⟩
    · rw [hk]; exact Nat.lt_succ_self _
    · omega
    · rw [Int.pow_succ]
      generalize (64 : Int) ^ j = X at hj ⊢
      omega
    · rw [List.length_cons] at hj4; omega
    · rw [List.length_cons] at hii; omega

theorem var_stop (_hh : Challenge.rw_op0011_01 = Challenge.rw_op0011_01) {vs : List Value} (hx : vs.toArray[i]? = none) (hne : l ≠ it) :
    SpecE w mean mg mb 21 [.ref it] 2 30 [(it, itObj l i), (l, listOf vs.toArray n)] [(it, itEnd i), (l, listOf vs.toArray n)] "StopIteration" := by
  intro base dp un gd fr s Q E P S hd hu hret
  (have _hk := P.kin; revert _hk _hh; k_fill; intro _hh _hk)
  have _ht := P.top
  have hne' : ∀ p ∈ [(l, listOf vs.toArray n)], p.1 ≠ it := fun p hp => by rw [List.mem_singleton.mp hp]; exact hne
  refine wpAny_call ?_
  refine enterP [] P S rfl (by k_is) (by k_is) (by ktr_room) (BindsTo.of_eq rfl) (locs rfl) ?_
  intro g L' h₁ F' N' B' X' T' D' l1 hG
  (try k_lt l1)
  (try dsimp only)
  (try k_fold)
  k_steps
  refine li_stop rfl (by k_asm) (by k_asm) (by k_mem) (i := i) (.head hne') hx ?_
  intro h2 h3 e F2 N2 hx2
  (try dsimp only)
  k_steps
  exact hret _ _ _ _ (by assumption) (by assumption) hG
end
end
end
section
open PySem PySem.W PyProof.Rows PySem.Calls PySem.Spec
set_option Elab.async false
set_option maxRecDepth 100000
set_option maxHeartbeats 8000000
section
section
variable {w : World} {mean : ExcName → Option Value} {mg mb : Str → Option Value} {l : Addr} {n : Nat}
abbrev EmpPost (l : Addr) (xs : List Int) (v : Value) (sm : List (Addr × Obj)) : Prop :=
  ∃ r vs' n' ys, v = .ref r ∧ sm = [(r, listOf (List.toArray vs') n')] ∧ IntsAre vs' ys ∧ ys.Perm xs ∧ ys.Pairwise (· ≤ ·)


theorem emp_end {base : Heap} {fs : List Addr} {g g' h : Heap} {L' r : Addr} {m' : Str → Option Value} {Q : Value → Shared → Prop} {s : Shared} {h' : Heap} {tk' : Nat} {xs ts : List Int} {us : List Value} {nt nl : Nat}
    (hret : ∀ v h' tk' small', Kept fs [l] h h' → At base fs h' small' → (∀ p ∈ small', p.1 ∈ [l] ∨ h.get? p.1 = none) → EmpPost l xs v small' → Q v { s with heap := h', toks := tk' })
    (T : KtsTurn fs g g') (F : Fr g' L' h' m') (N : News g' L' h' [(l, listOf [].toArray nl), (r, listOf us.toArray nt)]) (hi : IntsAre us ts) (hp : ts.Perm xs) (hs : ts.Pairwise (· ≤ ·)) :
    Done base fs fs g h [l] Q (.ref r) { s with heap := h', toks := tk' } :=
  ⟨g', L', m', [(r, listOf us.toArray nt)], T, F, fun p hp => N p (List.mem_cons_of_mem _ hp), fun K A N' => hret _ _ _ _ K A N' ⟨r, _, _, ts, rfl, rfl, hi, hp, hs⟩⟩

theorem ints_push {us : List Value} {ts : List Int} (h : IntsAre us ts) (v : Int) (t : Tok) : IntsAre (us ++ [.int v t]) (ts ++ [v]) := by
  induction h with
  | nil => exact .cons _ _ .nil
  | cons a ta _ ih => exact .cons _ _ ih

theorem heapy_len : ∀ {xs : List Int}, Heapy xs → xs.length ≤ 4
  | [], _ => by simp
  | [_], _ => by simp
  | [_, _], _ => by simp
  | [_, _, _], _ => by simp
  | [_, _, _, _], _ => by simp
  | _ :: _ :: _ :: _ :: _ :: _, h => h.elim

theorem emp_spec (_hh : Challenge.rw_op0011_01 = Challenge.rw_op0011_01) {vs : List Value} {xs : List Int} (hi : IntsAre vs xs) (hy : Heapy xs) :
    Spec true w mean mg mb 70 [.ref l] 6 60 [(l, listOf vs.toArray n)] (EmpPost l xs) := by
  intro base dp un gd fr s Q E P S hd hu hret
  (have _hk := P.kin; revert _hk _hh; k_fill; intro _hh _hk)
  have _ht := P.top
  refine wpAny_call ?_
  refine enterP (fsOf fr) P S rfl (by k_is) (by k_is) (by ktr_room) (BindsTo.of_eq rfl) (locs rfl) ?_
  intro g L' h₁ F' N' B' X' T' D' l1 hG
  (try k_lt l1)
  (try dsimp only)
  (try k_fold)
  k_steps
  rename_i r h2 lr h3 F3 N3
  refine rest_ofm (fun n news => ∃ vs' xs' us ts nl nt, n = List.length xs' ∧ news = [(r, listOf (List.toArray us) nt), (l, listOf (List.toArray vs') nl)] ∧ IntsAre vs' xs' ∧ Heapy xs' ∧ IntsAre us ts ∧ (ts ++ xs').Perm xs ∧ ts.Pairwise (· ≤ ·) ∧ ∀ a ∈ ts, ∀ b ∈ xs', a ≤ b)
    F3 N3 xs.length ⟨vs, xs, [], [], n, 0, rfl, rfl, hi, hy, .nil, .refl _, .nil, fun _ h => nomatch h⟩ ?_
  clear F3 N3
  intro k h tk news F N hI ih
  obtain ⟨vs', xs', us, ts, nl, nt, hk, rfl, hvs, hys, hus, hperm, hsort, hle⟩ := hI
  have hl4 : us.length ≤ 4 := by
    have e := hperm.length_eq
    rw [List.length_append] at e
    have e2 := heapy_len hy
    have e3 := hus.length
    omega
  refine rest_turn (by first | passes_own | with_unfolding_all passes_own) ?_
  k_steps
  by_cases hne : xs' = []
  · subst hne
    cases hvs
    refine SpecE.use (pop0 _hh) [(r, listOf us.toArray nt)] B' F N D' P.kin P.top rfl rfl (by ktr_room) (by ktr_units) (fun p hp => List.mem_cons_of_mem _ hp) (fun p hp => by rw [List.mem_singleton.mp hp]; exact .head _) (fun p hp q => absurd (List.mem_singleton.mp q) (by rw [List.mem_singleton.mp hp]; exact neN (by dsimp only; omega))) ?_
    intro e h' tk' G R FG U
    (try dsimp only)
    (try simp only [List.cons_append, List.nil_append] at R)
    (try simp only [List.cons_append, List.nil_append] at N')
    k_steps
    exact emp_end hret (by assumption) (by assumption) (by assumption) hus (by simpa using hperm) hsort
  · refine Spec.useP (pop_spec _hh hvs hne hys) [(r, listOf us.toArray nt)] B' F N D' P.kin P.top rfl rfl (by ktr_room) (by ktr_units) (fun p hp => List.mem_cons_of_mem _ hp) (fun p hp => by rw [List.mem_singleton.mp hp]; exact .head _) (fun p hp q => absurd (List.mem_singleton.mp q) (by rw [List.mem_singleton.mp hp]; exact neN (by dsimp only; omega))) ?_
    intro v h' tk' small' F' N' hfr hp
    obtain ⟨v0, t, vs2, n2, ys, rfl, rfl, hi2, hp2, hy2, hm2⟩ := hp
    (try dsimp only)
    (try simp only [List.cons_append, List.nil_append] at R)
    (try simp only [List.cons_append, List.nil_append] at N')
    k_steps
    rename_i h9 F9 N9
    simp only [List.push_toArray] at N9
    refine ih ys.length h9 _ [(r, listOf (us ++ [Value.int v0 t]).toArray (nt + 1)), (l, listOf vs2.toArray n2)] ?_ F9 (fun p hp => N9 p ?_) ⟨vs2, ys, us ++ [.int v0 t], ts ++ [v0], n2, nt + 1, rfl, rfl, hi2, hy2, ints_push hus v0 t, ?_, ?_, ?_⟩
    · have e := hp2.length_eq
      rw [List.length_cons] at e
      omega
    · rcases List.mem_cons.mp hp with rfl | hp
      · exact .tail _ (.head _)
      · rw [List.mem_singleton.mp hp]; exact .head _
    · rw [List.append_assoc]
      exact (List.Perm.append_left ts hp2.symm).trans hperm
    · refine List.pairwise_append.mpr ⟨hsort, List.pairwise_singleton .., fun a ha b hb => ?_⟩
      rw [List.mem_singleton.mp hb]
      exact hle a ha v0 (hp2.mem_iff.mpr (.head _))
    · intro a ha b hb
      rcases List.mem_append.mp ha with ha | ha
      · exact hle a ha b (hp2.mem_iff.mpr (.tail _ hb))
      · rw [List.mem_singleton.mp ha]
        exact hm2 b hb
end
end
end
section
open PySem PySem.W PyProof.Rows PySem.Calls PySem.Spec
set_option Elab.async false
set_option maxRecDepth 100000
set_option maxHeartbeats 8000000
section
def valD : List Int → Int
  | [] => 0
  | f :: r => r.foldl (fun a x => a * 64 + x) f
def Figs (ds : List Int) : Prop := ds ≠ [] ∧ ds.length ≤ 4 ∧ ∀ x ∈ ds, 0 ≤ x ∧ x < 64

section
variable {w : World} {mean : ExcName → Option Value} {mg mb : Str → Option Value} {l : Addr} {n : Nat}
abbrev ReadPost (l : Addr) (vs : List Value) (n : Nat) (dss : List (List Int)) (v : Value) (sm : List (Addr × Obj)) : Prop :=
  ∃ r us nt, v = .ref r ∧ sm = [(r, listOf (List.toArray us) nt), (l, listOf vs.toArray n)] ∧ IntsAre us (dss.map valD) ∧ l ≠ r

local macro_rules | `(tactic| walk_at "call builtin:iter") => `(tactic| (k_here; k_dflt (refine' li_iter ?F ?N ?m ?_; (case F => k_asm); (case N => k_asm); (case m => k_mem)); intro I' h' F' N' l1; (try k_lt l1); (try k_sweep)))

theorem encW_len : ∀ ds : List Int, (encW ds).length = ds.length
  | [] => rfl
  | f :: r => by rw [encW_cons, List.length_cons, List.length_cons, encW_len r]

theorem read_end {base : Heap} {fs : List Addr} {g g' h : Heap} {L' r it : Addr} {m' : Str → Option Value} {Q : Value → Shared → Prop} {s : Shared} {h' : Heap} {tk' : Nat} {dss : List (List Int)} {us vs : List Value} {nt i : Nat}
    (hret : ∀ v h' tk' small', Kept fs [l] h h' → At base fs h' small' → (∀ p ∈ small', p.1 ∈ [l] ∨ h.get? p.1 = none) → ReadPost l vs n dss v small' → Q v { s with heap := h', toks := tk' })
    (T : KtsTurn fs g g') (F : Fr g' L' h' m') (N : News g' L' h' [(it, itEnd i), (l, listOf vs.toArray n), (r, listOf us.toArray nt)]) (hi : IntsAre us (dss.map valD)) (hlr : l ≠ r) :
    Done base fs fs g h [l] Q (.ref r) { s with heap := h', toks := tk' } :=
  ⟨g', L', m', [(r, listOf us.toArray nt), (l, listOf vs.toArray n)], T, F, fun p hp => N p (by
    rcases List.mem_cons.mp hp with rfl | hp
    · exact .tail _ (.tail _ (.head _))
    · rw [List.mem_singleton.mp hp]; exact .tail _ (.head _)), fun K A N' => hret _ _ _ _ K A N' ⟨r, us, nt, rfl, rfl, hi, hlr⟩⟩

theorem read_spec (_hh : Challenge.rw_op0011_01 = Challenge.rw_op0011_01) {vs : List Value} {os : List Int} {dss : List (List Int)} (hi : IntsAre vs os) (hos : os = dss.flatMap encW) (hd4 : dss.length ≤ 4) (hf : ∀ ds ∈ dss, Figs ds) :
    Spec true w mean mg mb 77 [.ref l] 6 60 [(l, listOf vs.toArray n)] (ReadPost l vs n dss) := by
  intro base dp un gd fr s Q E P S hd hu hret
  (have _hk := P.kin; revert _hk _hh; k_fill; intro _hh _hk)
  have _ht := P.top
  refine wpAny_call ?_
  refine enterP (fsOf fr) P S rfl (by k_is) (by k_is) (by ktr_room) (BindsTo.of_eq rfl) (locs rfl) ?_
  intro g L' h₁ F' N' B' X' T' D' l1 hG
  (try k_lt l1)
  (try dsimp only)
  (try k_fold)
  k_steps
  rename_i it h2 lit h3 tk0 r h4 lr h5 F3 N3
  have hlr : l ≠ r := neN (by omega)
  have hlit : l ≠ it := neN (by omega)
  refine rest_ofm (fun k news => ∃ dss' us ts nt i, k = List.length dss' ∧ news = [(r, listOf (List.toArray us) nt), (it, itObj l i), (l, listOf (List.toArray vs) n)] ∧ os.drop i = dss'.flatMap encW ∧ IntsAre us ts ∧ ts ++ dss'.map valD = dss.map valD ∧ (∀ ds ∈ dss', Figs ds) ∧ us.length + dss'.length = dss.length)
    F3 N3 dss.length ⟨dss, [], [], 0, 0, rfl, rfl, by rw [List.drop_zero, hos], .nil, rfl, hf, by simp⟩ ?_
  clear F3 N3
  intro k h tk news F N hI ih
  obtain ⟨dss', us, ts, nt, i, hk, rfl, hdrop, hus, hmap, hfs, hlen⟩ := hI
  have hl4 : us.length ≤ 4 := by omega
  refine rest_turn (by first | passes_own | with_unfolding_all passes_own) ?_
  k_steps
  have hsub : ∀ p ∈ [(it, itObj l i), (l, listOf vs.toArray n)], p ∈ [(r, listOf us.toArray nt), (it, itObj l i), (l, listOf vs.toArray n)] := fun p hp => List.mem_cons_of_mem _ hp
  have hbig : ∀ p ∈ [(r, listOf us.toArray nt)], p ∈ [(r, listOf us.toArray nt), (it, itObj l i), (l, listOf vs.toArray n)] := fun p hp => by rw [List.mem_singleton.mp hp]; exact .head _
  have hoff : ∀ p ∈ [(r, listOf us.toArray nt)], p.1 ∉ [it, l] := fun p hp q => by
    rw [List.mem_singleton.mp hp] at q
    rcases List.mem_cons.mp q with q | q
    · exact absurd q (neN (by dsimp only; omega))
    · exact absurd (List.mem_singleton.mp q) (neN (by dsimp only; omega))
  cases dss' with
  | nil =>
    have hx : vs.toArray[i]? = none := by
      have e : os.length ≤ i := by simpa using hdrop
      have e2 := hi.length
      simp only [List.getElem?_toArray]
      exact List.getElem?_eq_none (by omega)
    refine SpecE.use (var_stop _hh hx hlit) [(r, listOf us.toArray nt)] B' F N D' P.kin P.top rfl rfl (by ktr_room) (by ktr_units) hsub hbig hoff ?_
    intro e h' tk' G R FG U
    (try dsimp only)
    (try simp only [List.cons_append, List.nil_append] at R)
    k_steps
    rw [List.map_nil, List.append_nil] at hmap
    exact read_end hret (by assumption) (by assumption) (by assumption) (hmap ▸ hus) hlr
  | cons ds dss'' =>
    obtain ⟨hd1, hd2, hd3⟩ := hfs ds (.head _)
    cases ds with
    | nil => exact absurd rfl hd1
    | cons f fs =>
      rw [List.flatMap_cons] at hdrop
      refine Spec.useP (var_spec _hh hi hdrop hd3 (by simp only [List.length_cons] at hd2; omega) hlit) [(r, listOf us.toArray nt)] B' F N D' P.kin P.top rfl rfl (by ktr_room) (by ktr_units) hsub hbig hoff ?_
      intro v h' tk' small' F' N' hfr hp
      obtain ⟨⟨t, rfl⟩, rfl⟩ := hp
      (try dsimp only)
      (try simp only [List.cons_append, List.nil_append] at N')
      k_steps
      rename_i h9 F9 N9
      simp only [List.push_toArray] at N9
      refine ih dss''.length h9 _ [(r, listOf (us ++ [Value.int (fs.foldl (fun a x => a * 64 + x) f) t]).toArray (nt + 1)), (it, itObj l (i + (fs.length + 1))), (l, listOf vs.toArray n)] ?_ F9 (fun p hp => N9 p ?_)
        ⟨dss'', us ++ [Value.int (fs.foldl (fun a x => a * 64 + x) f) t], ts ++ [fs.foldl (fun a x => a * 64 + x) f], nt + 1, i + (fs.length + 1), rfl, rfl, ?_, ints_push hus _ _, ?_, fun ds hds => hfs ds (.tail _ hds), ?_⟩
      · rw [hk]; exact Nat.lt_succ_self _
      · rcases List.mem_cons.mp hp with rfl | hp
        · exact .tail _ (.tail _ (.head _))
        · rcases List.mem_cons.mp hp with rfl | hp
          · exact .head _
          · rw [List.mem_singleton.mp hp]; exact .tail _ (.head _)
      · rw [← List.drop_drop, hdrop, show fs.length + 1 = (encW (f :: fs)).length from (encW_len (f :: fs)).symm, List.drop_left]
      · rw [← hmap, List.append_assoc]; rfl
      · rw [List.length_append, List.length_singleton]; rw [List.length_cons] at hlen; omega
end
end
end
section
open PySem PySem.W PyProof.Rows PySem.Calls PySem.Spec
set_option Elab.async false
set_option maxRecDepth 100000
set_option maxHeartbeats 8000000
section
section
variable {w : World} {mean : ExcName → Option Value} {mg mb : Str → Option Value} {l m : Addr} {n k : Nat}
abbrev UldPost (xs ys : List Int) (v : Value) (sm : List (Addr × Obj)) : Prop :=
  ∃ t r lr ts us nt nu, v = .ref t ∧ (t, tup2 (.ref r) (.ref lr)) ∈ sm ∧ (r, listOf (List.toArray ts) nt) ∈ sm ∧ (lr, listOf (List.toArray us) nu) ∈ sm ∧ IntsAre ts (uldr xs.reverse ys).1 ∧ IntsAre us (uldr xs.reverse ys).2

theorem uldr_in {x : Int} {xs ys : List Int} (h : x ∈ ys) : uldr (x :: xs) ys = uldr xs (ys.erase x) := by
  show (if x ∈ ys then _ else _) = _
  rw [if_pos h]
theorem uldr_out {x : Int} {xs ys : List Int} (h : x ∉ ys) : uldr (x :: xs) ys = (x :: (uldr xs ys).1, (uldr xs ys).2) := by
  show (if x ∈ ys then _ else _) = _
  rw [if_neg h]


theorem uld_spec (_hh : Challenge.rw_op0011_01 = Challenge.rw_op0011_01) {vs us : List Value} {xs ys : List Int} (hi : IntsAre vs xs) (hj : IntsAre us ys) (hx : xs.length ≤ 4) (hy : ys.length ≤ 4) (hlm : l ≠ m) :
    Spec true w mean mg mb 56 [.ref l, .ref m] 6 60 [(l, listOf vs.toArray n), (m, listOf us.toArray k)] (UldPost xs ys) := by
  intro base dp un gd fr s Q E P S hd hu hret
  (have _hk := P.kin; revert _hk _hh; k_fill; intro _hh _hk)
  have _ht := P.top
  refine wpAny_call ?_
  refine enterP (fsOf fr) P S rfl (by k_is) (by k_is) (by ktr_room) (BindsTo.of_eq rfl) (locs rfl) ?_
  intro g L' h₁ F' N' B' X' T' D' l1 hG
  (try k_lt l1)
  (try dsimp only)
  (try k_fold)
  k_steps
  rename_i r h2 lr h3 F3 N3
  refine rest_ofT ("item" : Str) (G := fun g' => KtsTurn (fsOf fr) g g' ∧ Below (mkA dp un gd fr) base fr g' ∧ (Mine.hd.heap_39 w.params).In g' ∧ TP mean mg mb g' ∧ KtsDicts (fsOf fr) g')
    (fun n news => ∃ vs' zs us' ys' ts ts' nl nm nt, n = List.length zs ∧ news = [(r, listOf (List.toArray ts) nt), (l, listOf (List.toArray vs') nl), (m, listOf (List.toArray us') nm)] ∧ IntsAre vs' zs ∧ IntsAre us' ys' ∧ IntsAre ts ts' ∧ zs.length + ts'.length ≤ 4 ∧ ys'.length ≤ 4 ∧ ts' ++ (uldr zs.reverse ys').1 = (uldr xs.reverse ys).1 ∧ (uldr zs.reverse ys').2 = (uldr xs.reverse ys).2)
    F3 N3 ⟨KtsTurn.refl, B', X', T', D'⟩ xs.length ⟨vs, xs, us, ys, [], [], n, k, 0, rfl, rfl, hi, hj, .nil, by simpa using hx, hy, rfl, rfl⟩ ?_
  clear F3 N3 B' X' T' D'
  intro z gg h tk u news hGG F N hI ih
  obtain ⟨TT, B', X', T', D'⟩ := hGG
  obtain ⟨vs', zs, us', ys', ts, ts', nl, nm, nt, hz, rfl, hvs, hus, hts, hlen, hly, he1, he2⟩ := hI
  have hlm2 : @Ne Nat l m := hlm
  have h4 : vs'.length ≤ 4 := by have := hvs.length; omega
  have h5 : us'.length ≤ 4 := by have := hus.length; omega
  have h6 : ts.length ≤ 4 := by have := hts.length; omega
  refine rest_turn (by first | passes_own | with_unfolding_all passes_own) ?_
  k_steps
  by_cases hne : zs = []
  · refine WhlIf.no (by subst hne; rfl) ?_
    k_steps
    rename_i tt h9 F9 N9 l9
    subst hne
    rw [show uldr ([] : List Int).reverse ys' = ([], ys') from rfl] at he1 he2
    rw [List.append_nil] at he1
    exact ⟨gg, L', _, _, TT, F9, N9, fun K A NN => hret _ _ _ _ K A NN ⟨tt, r, m, ts, us', nt, nm, rfl, .head _, .tail _ (.head _), .tail _ (.tail _ (.tail _ (.head _))), by rw [← he1]; exact hts, by rw [← he2]; exact hus⟩⟩
  · have hzp : 0 < zs.length := List.length_pos_iff.mpr hne
    refine WhlIf.yes (decide_eq_true hzp) ?_
    have hvp : 0 < vs'.length := by rw [hvs.length]; exact hzp
    have hzl : zs.dropLast.length < zs.length := by rw [List.length_dropLast]; omega
    have hzr : zs.reverse = zs.getLastD 0 :: zs.dropLast.reverse := by
      obtain ⟨a, b, e⟩ := List.eq_nil_or_concat zs |>.resolve_left hne
      subst e
      simp
    rw [hzr] at he1 he2
    k_steps
    rename_i h6' t2 hvs2 h7 F7 N7
    by_cases hin : zs.getLastD 0 ∈ ys'
    · rw [uldr_in hin] at he1 he2
      refine rem_hit F7 N7 hus hin (by k_upd) h5 ?_
      intro h8 F8 N8 hus2
      (try dsimp only [List.nil_append, List.cons_append] at N8)
      k_steps
      exact ih _ gg _ _ _ _ (by rw [hz]; exact hzl) ⟨TT, B', X', T', D'⟩ (fun y hy => by simp only [if_neg hy]) F8 N8 ⟨_, zs.dropLast, _, _, ts, ts', _, _, _, rfl, rfl, hvs2, hus2, hts, by omega, by have := List.length_erase_le (a := zs.getLastD 0) (l := ys'); omega, he1, he2⟩
    · rw [uldr_out hin] at he1 he2
      refine rem_none N7 (.tail _ (.tail _ (.head _))) hus hin rfl ?_
      intro h8 tk8 e hx8
      (try dsimp only)
      k_steps
      refine caught_own (T' := "ValueError") hx8 F7 N7 B' _hk _ht D' (by k_is) PyProof.Rows.Boot.«ValueError» (by decide) PySem.F.isExc_ValueError PySem.F.notTuple_ValueError (by kts_sub) ?_
      intro h10 g10 T10 F10 N10 B10 X10 P10 D10
      replace P10 : TP mean mg mb g10 := P10
      k_steps
      (rename News _ _ _ _ => N11)
      (rename Fr _ _ _ _ => F11)
      (try simp only [List.push_toArray] at N11)
      refine ih _ g10 _ _ _ _ (by rw [hz]; exact hzl) ⟨TT.trans T10, B10, X10, P10, D10⟩ (fun y hy => by simp only [if_neg hy]) F11 N11 ⟨_, zs.dropLast, _, ys', _, ts' ++ [zs.getLastD 0], _, _, _, rfl, rfl, hvs2, hus, ints_push hts _ _, by simp only [List.length_append, List.length_singleton]; omega, hly, ?_, he2⟩
      rw [List.append_assoc]
      exact he1
end
end
end
end
end Mine
section
namespace Mine
theorem fg (x : Int) (k : Nat) : (x.fdiv (64 ^ k)).fmod 64 = x / 64 ^ k % 64 := by
  rw [Int.fdiv_eq_ediv_of_nonneg _ (Int.le_of_lt (Int.pow_pos (by decide))), Int.fmod_eq_emod_of_nonneg _ (by decide)]
def dg1 (x : Int) : List Int := [x / 64 % 64, x % 64]
def sw1 (x : Int) : List Int := [x % 64, x / 64 % 64]
def dg2 (x : Int) : List Int := [x / 262144 % 64, x / 4096 % 64, x / 64 % 64, x % 64]
def sw2 (x : Int) : List Int := [x / 64 % 64, x % 64, x / 262144 % 64, x / 4096 % 64]
theorem fgA1 (x : Int) : encW (dg1 x) = List.map (fun k' => 64 + k') [(x.fdiv (64 ^ (2 * 1 - 1 + ((0 : Nat) : Int) * -1).toNat)).fmod 64] ++ [(x.fdiv (64 ^ (2 * 1 - 1 + ((0 + 1 : Nat) : Int) * -1).toNat)).fmod 64] := by
  show _ = [64 + (x.fdiv (64 ^ 1)).fmod 64, (x.fdiv (64 ^ 0)).fmod 64]
  rw [fg, fg]
  simp [dg1, encW]
theorem fgB1 (x : Int) : encW (sw1 x) = List.map (fun k' => 64 + k') [(x.fdiv (64 ^ (2 * 1 - 1 + ((0 + 1 : Nat) : Int) * -1).toNat)).fmod 64] ++ [(x.fdiv (64 ^ (2 * 1 - 1 + ((0 : Nat) : Int) * -1).toNat)).fmod 64] := by
  show _ = [64 + (x.fdiv (64 ^ 0)).fmod 64, (x.fdiv (64 ^ 1)).fmod 64]
  rw [fg, fg]
  simp [sw1, encW]
theorem fgA2 (x : Int) : encW (dg2 x) = [64 + (x.fdiv (64 ^ 3)).fmod 64, 64 + (x.fdiv (64 ^ 2)).fmod 64, 64 + (x.fdiv (64 ^ 1)).fmod 64, (x.fdiv (64 ^ 0)).fmod 64] := by
  rw [fg, fg, fg, fg]
  simp [dg2, encW]
theorem fgB2 (x : Int) : encW (sw2 x) = [64 + (x.fdiv (64 ^ 1)).fmod 64, 64 + (x.fdiv (64 ^ 0)).fmod 64, 64 + (x.fdiv (64 ^ 3)).fmod 64, (x.fdiv (64 ^ 2)).fmod 64] := by
  rw [fg, fg, fg, fg]
  simp [sw2, encW]
end Mine
end
section
open PySem PySem.W PyProof.Rows PySem.Calls PySem.Spec
set_option maxRecDepth 100000
set_option maxHeartbeats 8000000
namespace Mine
theorem offn {a : Addr} : ∀ p ∈ ([] : List (Addr × Obj)), p.1 ≠ a := fun _ hp => nomatch hp
theorem offc {p : Addr × Obj} {l : List (Addr × Obj)} {a : Addr} (h : @Ne Nat p.1 a) (r : ∀ q ∈ l, q.1 ≠ a) : ∀ q ∈ p :: l, q.1 ≠ a := fun q hq => by
  rcases List.mem_cons.mp hq with rfl | hq
  · exact h
  · exact r q hq
end Mine
end
namespace Mine
section
open PySem PySem.W PyProof.Rows PySem.Calls PySem.Spec
set_option maxRecDepth 100000
set_option maxHeartbeats 8000000
local macro_rules | `(tactic| k_all) => `(tactic| first | with_reducible exact offn | (with_reducible refine offc ?_ ?_; k_ne; k_all))
local macro_rules | `(tactic| k_ne) => `(tactic| ((try refine neN ?_); (try dsimp only); first | assumption | exact Ne.symm (by assumption) | exact Nat.ne_of_lt (by assumption) | exact Nat.ne_of_gt (by assumption) | (rename And _ _ => hc; obtain ⟨hc1, hc2⟩ := hc; k_ne) | omega))
section
open PySem PySem.W PyProof.Rows PySem.Calls PySem.Spec
set_option Elab.async false
set_option maxRecDepth 100000
set_option maxHeartbeats 8000000
section
section
variable {w : World} {mean : ExcName → Option Value} {mg mb : Str → Option Value} {l : Addr} {n : Nat}

local macro_rules | `(tactic| walk_at "exec Assign cons ListComp") => `(tactic| (k_here; k_dflt (refine comp_down (by k_asm) (by rfl) (by with_unfolding_all rfl) (by with_unfolding_all rfl) (by decide) (by rfl) (by decide) (by rfl) (by rfl) (by rfl) ?_)))
local macro_rules | `(tactic| walk_at "DownSrc") => `(tactic| (k_dflt (refine ⟨_, _, _, _, _, _, _, _, rfl, rfl, by k_asm, by k_asm, by assumption, by decide, by rfl, by decide, ?_⟩); intro g2'))

local macro_rules | `(tactic| walk_at "exec For Tuple Call cons nil") => `(tactic| (k_here; k_dflt (refine frest_start ?_)))
local macro_rules | `(tactic| walk_at "call type:zip") => `(tactic| (k_here; k_dflt (refine' li_zip ?F ?N ?m1 ?m2 ?_; (case F => k_asm); (case N => k_asm); (case m1 => k_mem); (case m2 => k_mem)); intro b' h' F' N' l1 lb hg z1 z2 z3 z4 z5; refine wpAny_pyIter_zip z1 ?_))
theorem ext_any {prog : Program} {w : World} {A : Around} {E : Value → Shared → Prop} {s : Shared} {h₀ : Heap} {L D b : Addr} {m : Str → Option Value} {news news' : List (Addr × Obj)} {fv ys : List Value} {n n2 : Nat} {Q : Value → Shared → Prop}
    (F : Fr h₀ L s.heap m) (N : News h₀ L s.heap news) (hb : (b, listOf ys.toArray n2) ∈ news) (U : Upd D (listOf fv.toArray n) (listOf (fv ++ ys).toArray (n + 1)) news news') (hz : fv.length ≤ 8) (hy : ys.length ≤ 8) (hne : ys.length ≠ 0)
    (h : ∀ h', Fr h₀ L h' m → News h₀ L h' news' → Q .none { s with heap := h' }) : wpAny (model prog w) A (call (.builtin "list.extend") [.ref D, .ref b]) Q E s := by
  have e := sizeLine_eq
  refine kl_extend F N hb rfl (by simpa using hne) U ?_ (by simp; omega) (by simp; omega) h
  simp [Builtin.List.listTooLong]
  intro _
  omega
local macro_rules | `(tactic| walk_at "call builtin:list.extend") => `(tactic| (k_here; (repeat (rename And _ _ => hc; obtain ⟨hc1, hc2⟩ := hc)); k_dflt (refine' ext_any ?F ?N ?b ?U ?z ?y ?w ?_; (case F => k_asm); (case N => k_asm); (case b => k_mem); (case U => k_upd); (case z => assumption); (case y => (rename IntsAre _ (List.map _ _) => hq9; rw [hq9.length, List.length_map]; simp)); (case w => (rename IntsAre _ (List.map _ _) => hq9; rw [hq9.length, List.length_map]; simp))); intro h' F' N'; (try k_sweep)))


theorem ints_item {vs : List Value} {xs : List Int} (hi : IntsAre vs xs) {i : Nat} {v : Value} (hv : vs[i]? = some v) : ∃ x tx, v = .int x tx ∧ xs[i]? = some x := by
  induction hi generalizing i with
  | nil => simp at hv
  | cons a t _ ih =>
    cases i with
    | zero => simp at hv; exact ⟨a, t, hv.symm, by simp⟩
    | succ i => simp at hv; simpa using ih hv
theorem flat_len {d : Int → List Int} (hd : ∀ x, (d x).length = 2) {xs : List Int} (hl : xs.length ≤ 4) : (xs.flatMap fun x => encW (d x)).length ≤ 8 := by
  have : ∀ ys : List Int, (ys.flatMap fun x => encW (d x)).length = 2 * ys.length := by
    intro ys
    induction ys with
    | nil => rfl
    | cons y r ih => rw [List.flatMap_cons, List.length_append, ih, encW_len, hd, List.length_cons]; omega
  rw [this]; omega

theorem ints_app {a b : List Value} {A B : List Int} (ha : IntsAre a A) (hb : IntsAre b B) : IntsAre (a ++ b) (A ++ B) := by
  induction ha with
  | nil => exact hb
  | cons x t _ ih => exact .cons x t ih
theorem tape1 {bv ys : List Value} {A : List Int} {r x : Int} {t : Tok} {Y : List Int} {d : Int → List Int} (hb : IntsAre bv A) (hy : IntsAre ys Y) (e : encW (d x) = Y ++ [r]) :
    IntsAre (bv ++ ys ++ [.int r t]) (A ++ [x].flatMap fun x => encW (d x)) := by
  have : [x].flatMap (fun x => encW (d x)) = Y ++ [r] := by simpa using e
  rw [this, ← List.append_assoc]
  exact ints_app (ints_app hb hy) (.cons _ _ .nil)

theorem news_in {g h : Heap} {L : Addr} {a : Addr × Obj} (xs : List (Addr × Obj)) {rest : List (Addr × Obj)} (N : News g L h (a :: (xs ++ rest))) : News g L h (xs ++ a :: rest) := fun p hp => N p (by
  rcases List.mem_append.mp hp with h | h
  · exact .tail _ (List.mem_append_left _ h)
  · rcases List.mem_cons.mp h with rfl | h
    · exact .head _
    · exact .tail _ (List.mem_append_right _ h))
theorem news_out {g h : Heap} {L : Addr} {a : Addr × Obj} (xs : List (Addr × Obj)) {rest : List (Addr × Obj)} (N : News g L h (xs ++ a :: rest)) : News g L h (a :: (xs ++ rest)) := fun p hp => N p (by
  rcases List.mem_cons.mp hp with rfl | h
  · exact List.mem_append_right _ (.head _)
  · rcases List.mem_append.mp h with h | h
    · exact List.mem_append_left _ h
    · exact List.mem_append_right _ (.tail _ h))
theorem sub_one {a : Addr × Obj} {l : List (Addr × Obj)} (h : a ∈ l) : ∀ p ∈ [a], p ∈ l := fun p hp => by rw [List.mem_singleton.mp hp]; exact h
theorem sub_of {l l' : List (Addr × Obj)} (h : List.Sublist l l') : ∀ p ∈ l, p ∈ l' := fun _ hp => h.subset hp
theorem off1 {big : List (Addr × Obj)} {a : Addr} {o : Obj} (h : ∀ p ∈ big, p.1 ≠ a) : ∀ p ∈ big, p.1 ∉ [(a, o)].map (·.1) := fun p hp q => h p hp (List.mem_singleton.mp q)
def AllNeq (r : Nat) : List (Addr × Obj) → Prop
  | [] => True
  | p :: l => (@Ne Nat r p.1) ∧ AllNeq r l
theorem allNeq_of {r : Addr} : ∀ {l : List (Addr × Obj)}, (∀ q ∈ l, r ≠ q.1) → AllNeq r l
  | [], _ => trivial
  | p :: _, h => ⟨h p (.head _), allNeq_of fun q hq => h q (.tail _ hq)⟩
theorem val1 {x : Int} (h : 0 ≤ x ∧ x < 4096) : valD (dg1 x) = x ∧ Figs (dg1 x) ∧ Figs (sw1 x) := by
  refine ⟨?_, ⟨by simp [dg1], by simp [dg1], ?_⟩, by simp [sw1], by simp [sw1], ?_⟩
  · simp [dg1, valD]; omega
  · intro y hy; simp [dg1] at hy; omega
  · intro y hy; simp [sw1] at hy; omega
theorem map_id' {f : Int → Int} : ∀ {xs : List Int}, (∀ x ∈ xs, f x = x) → xs.map f = xs
  | [], _ => rfl
  | x :: xs, h => by rw [List.map_cons, h x (.head _), map_id' fun y hy => h y (.tail _ hy)]

theorem sgn_mul (x y : Int) : IntMulOk (x - y) (sgn x y) := by
  have h := sgn_bd x y
  exact IntMulOk.of_right (intBits_le_64 (by omega) (by omega))
def gap1 (x : Int) : Int := ((x - valD (sw1 x)).natAbs : Int)

abbrev RoundPost (l : Addr) (vs : List Value) (n : Nat) (gs : List Int) (v : Value) (sm : List (Addr × Obj)) : Prop :=
  ∃ r us nt ys, v = .ref r ∧ sm = [(r, listOf (List.toArray us) nt), (l, listOf vs.toArray n)] ∧ IntsAre us ys ∧ ys.Perm gs ∧ ys.Pairwise (· ≤ ·)

theorem flat_len2 {d : Int → List Int} (hd : ∀ x, (d x).length = 4) {xs : List Int} (hl : xs.length ≤ 2) : (xs.flatMap fun x => encW (d x)).length ≤ 8 := by
  have : ∀ ys : List Int, (ys.flatMap fun x => encW (d x)).length = 4 * ys.length := by
    intro ys
    induction ys with
    | nil => rfl
    | cons y r ih => rw [List.flatMap_cons, List.length_append, ih, encW_len, hd, List.length_cons]; omega
  rw [this]; omega

theorem val2 {x : Int} (h : 0 ≤ x ∧ x < 16777216) : valD (dg2 x) = x ∧ Figs (dg2 x) ∧ Figs (sw2 x) := by
  refine ⟨?_, ⟨by simp [dg2], by simp [dg2], ?_⟩, by simp [sw2], by simp [sw2], ?_⟩
  · simp [dg2, valD]; omega
  · intro y hy; simp [dg2] at hy; omega
  · intro y hy; simp [sw2] at hy; omega
def gap2 (x : Int) : Int := ((x - valD (sw2 x)).natAbs : Int)

/-- a post shut to the walk (K asks whether a goal names NameKind.free) -/
def Ab (_ : NameKind) {α : Type} (R : α → Shared → Prop) : α → Shared → Prop := R
theorem wp_abs {α : Type} {M : Model} {A : Around} {t : Sem α} {X : α → Shared → Prop} {Y : Value → Shared → Prop} {s : Shared}
    (h : ∀ R : α → Shared → Prop, (∀ v s', X v s' → Ab .free R v s') → wpAny M A t (Ab .free R) (fun _ _ => False) s) : wpAny M A t X Y s :=
  wpAny_mono (h X fun _ _ x => x) (fun _ _ x => x) fun _ _ x => x.elim
theorem turn_abs {α : Type} {M : Model} {A : Around} {t : Sem α} {b : Sem Flow} {X : Flow → Shared → Prop} {E E' : Value → Shared → Prop} {s : Shared}
    (h : ∀ R : Flow → Shared → Prop, (∀ s', X .next s' → Ab .free R .next s') → wpAny M A t (fun _ s₂ => wpAny M A b (Ab .free R) E s₂) E' s) : wpAny M A t (fun _ s₂ => wpAny M A b X E s₂) E' s :=
  h X fun _ x => x
theorem round_gen (_hh : Challenge.rw_op0011_01 = Challenge.rw_op0011_01) {vs : List Value} {xs : List Int} {th : Tok} {hf : Int} {dg sw : Int → List Int} {gp : Int → Int} (hcase : (hf = 1 ∧ dg = dg1 ∧ sw = sw1) ∨ (hf = 2 ∧ dg = dg2 ∧ sw = sw2)) (hi : IntsAre vs xs)
    (hval : ∀ x ∈ xs, valD (dg x) = x ∧ Figs (dg x) ∧ Figs (sw x)) (hl : xs.length ≤ 4) (hld : ∀ ys : List Int, ys.length ≤ xs.length → (ys.flatMap fun x => encW (dg x)).length ≤ 8) (hls : ∀ ys : List Int, ys.length ≤ xs.length → (ys.flatMap fun x => encW (sw x)).length ≤ 8)
    (hgp : ∀ x, gp x = ((x - valD (sw x)).natAbs : Int)) :
    Spec true w mean mg mb 82 [.ref l, .int hf th] 9 90 [(l, listOf vs.toArray n)] (RoundPost l vs n (xs.map gp)) := by
  intro base dp un gd fr s Q E P S hd hu hret
  (have _hk := P.kin; revert _hk _hh; k_fill; intro _hh _hk)
  have _ht := P.top
  refine wpAny_call ?_
  refine enterC (fsOf fr) P S rfl (by k_is) (by k_is) (by ktr_room) (BindsTo.of_eq rfl) rfl (by decide +kernel) ?_
  intro g L' h₁ tk cells F' N' Y' B' X' T' D' l1 hG
  refine wp_abs fun RR hRR => ?_
  (try k_lt l1)
  k_cells Y'
  (try simp only [List.cons_append, List.nil_append] at N')
  (try dsimp only)
  (try k_fold)
  k_steps
  rename_i o1 do1 forth h2 lf h3 back h4 lb h5 F3 N3
  refine frest_start ?_
  k_steps
  refine li_pyIter F3 N3 (by k_mem) ?_
  intro it h6 F6 N6 l6
  k_lt l6
  refine frest_list3 (Str.ofString "figures") (Str.ofString "row") (Str.ofString "tape") (vs := vs) (n := n)
    (fun i news => ∃ c1 v1 fv bv nf nb, news = [(back, listOf (List.toArray bv) nb), (forth, listOf (List.toArray fv) nf), (L' + 1, c1), (l, listOf (List.toArray vs) n)] ∧ c1.data = .cell v1 ∧ IntsAre fv ((xs.take i).flatMap fun x => encW (dg x)) ∧ IntsAre bv ((xs.take i).flatMap fun x => encW (sw x)))
    rfl (by first | passes_own | with_unfolding_all passes_own) (fun _ => rfl) F6 N6 ?_ ⟨o1, _, [], [], 0, 0, rfl, do1, .nil, .nil⟩ ?_ ?_
  · rintro i news ⟨c1, v1, fv, bv, nf, nb, rfl, _⟩
    refine ⟨by simp, fun p hp => ?_⟩
    simp only [List.mem_cons, List.not_mem_nil, or_false] at hp
    rcases hp with rfl | rfl | rfl | rfl <;> exact neN (by dsimp only; omega)
  · clear F3 N3 F6 N6 do1
    rintro i v h tk u1 u2 u3 news hv F N ⟨c1, v1, fv, bv, nf, nb, rfl, hc1, hfv, hbv⟩ ih
    refine turn_abs fun RT hRT => ?_
    obtain ⟨x, tx, rfl, hxi⟩ : ∃ x tx, v = .int x tx ∧ xs[i]? = some x := ints_item hi hv
    have hfl : fv.length ≤ 8 := by
      rw [hfv.length]; exact hld _ (by rw [List.length_take]; exact Nat.min_le_right _ _)
    have hbl : bv.length ≤ 8 := by
      rw [hbv.length]; exact hls _ (by rw [List.length_take]; exact Nat.min_le_right _ _)
    clear hval hld hls hgp
    rcases hcase with ⟨rfl, rfl, rfl⟩ | ⟨rfl, rfl, rfl⟩
    · k_steps
      (rename Fr _ _ _ _ => F9)
      (rename News _ _ _ _ => N9)
      simp only [List.push_toArray] at N9
      refine hRT _ ?_
      refine' ih _ _ _ [(back, ?ob), (forth, ?of), (L' + 1, ?oc), (l, ?ol)] ?m F9 ?N ?I
      case N => exact cb_drop N9 (by lcg_sub)
      case m =>
        intro y y1 y2 y3
        simp only [if_neg y1, if_neg y2, if_neg y3]
      case I =>
        refine ⟨_, _, _, _, _, _, rfl, by assumption, ?_, ?_⟩
        · rw [List.take_add_one, hxi, List.flatMap_append]
          exact tape1 hfv (by assumption) (fgA1 x)
        · rw [List.take_add_one, hxi, List.flatMap_append]
          exact tape1 hbv (by assumption) (fgB1 x)
    · k_steps
      (rename Fr _ _ _ _ => F9)
      (rename News _ _ _ _ => N9)
      simp only [List.push_toArray] at N9
      refine hRT _ ?_
      refine' ih _ _ _ [(back, ?ob2), (forth, ?of2), (L' + 1, ?oc2), (l, ?ol2)] ?m F9 ?N ?I
      case N => exact cb_drop N9 (by lcg_sub)
      case m =>
        intro y y1 y2 y3
        simp only [if_neg y1, if_neg y2, if_neg y3]
      case I =>
        refine ⟨_, _, _, _, _, _, rfl, by assumption, ?_, ?_⟩
        · rw [List.take_add_one, hxi, List.flatMap_append]
          exact tape1 hfv (by assumption) (by exact fgA2 x)
        · rw [List.take_add_one, hxi, List.flatMap_append]
          exact tape1 hbv (by assumption) (by exact fgB2 x)
  · clear F3 N3 F6 N6 do1
    rintro h tk u1 u2 u3 news F N ⟨c1, v1, fv, bv, nf, nb, rfl, hc1, hfv, hbv⟩
    rw [hi.length, List.take_length] at hfv hbv
    k_steps
    rename_i hp h7 lhp h8 F8 N8
    have hos1 : (xs.flatMap fun x => encW (dg x)) = (xs.map dg).flatMap encW := by rw [List.flatMap_map]
    have hos2 : (xs.flatMap fun x => encW (sw x)) = (xs.map sw).flatMap encW := by rw [List.flatMap_map]
    have hfg1 : ∀ ds ∈ xs.map dg, Figs ds := fun ds hds => by
      obtain ⟨x, hxm, rfl⟩ := List.mem_map.mp hds
      exact (hval x hxm).2.1
    have hfg2 : ∀ ds ∈ xs.map sw, Figs ds := fun ds hds => by
      obtain ⟨x, hxm, rfl⟩ := List.mem_map.mp hds
      exact (hval x hxm).2.2
    refine Spec.use (read_spec _hh hfv hos1 (by rw [List.length_map]; exact hl) hfg1) [(hp, listOf [].toArray 0), (back, listOf bv.toArray nb), (L' + 1, c1), (l, listOf vs.toArray n)] B' F8 N8 D' P.kin P.top rfl rfl (room hd) (units hu) (sub_one (.tail _ (.tail _ (.head _)))) (sub_of (.cons₂ _ (.cons₂ _ (.cons _ (.refl _))))) (off1 (by k_all)) ?_
    intro v g2 h9 tk9 sm T2 F9 N9 B2 X2 P2 D2 hfr hpo
    obtain ⟨r, us, nt, rfl, rfl, hus, hlr⟩ := hpo
    have hrn := allNeq_of ((hfr (r, _) (.head _)).resolve_left (fun q => hlr (List.mem_singleton.mp q).symm))
    have hr_hp : @Ne Nat r hp := hrn.1
    have hr_bk : @Ne Nat r back := hrn.2.1
    clear hrn
    rw [List.map_map, map_id' (f := valD ∘ dg) (fun x hxm => (hval x hxm).1)] at hus
    simp only [List.cons_append, List.nil_append] at N9
    (try dsimp only)
    k_steps
    (rename Fr _ _ _ _ => F10)
    (rename News _ _ _ _ => N10)
    refine Spec.use (read_spec _hh hbv hos2 (by rw [List.length_map]; exact hl) hfg2) [(r, listOf us.toArray nt), (forth, listOf fv.toArray nf), (hp, listOf [].toArray 0), (L' + 1, c1), (l, listOf vs.toArray n)] B2 F10 N10 D2 P.kin P.top rfl rfl (room hd) (units hu) (sub_one (.tail _ (.tail _ (.tail _ (.head _))))) (sub_of (.cons₂ _ (.cons₂ _ (.cons₂ _ (.cons _ (.refl _)))))) (off1 (by k_all)) ?_
    clear F10 N10
    intro v g3 h11 tk11 sm T3 F11 N11 B3 X3 P3 D3 hfr3 hpo
    obtain ⟨r2, us2, nt2, rfl, rfl, hus2, hlr2⟩ := hpo
    have hrn2 := allNeq_of ((hfr3 (r2, _) (.head _)).resolve_left (fun q => hlr2 (List.mem_singleton.mp q).symm))
    have hr2_hp : @Ne Nat r2 hp := hrn2.2.2.1
    clear hrn2 hr_bk
    rw [List.map_map] at hus2
    simp only [List.cons_append, List.nil_append] at N11
    (try dsimp only)
    k_steps
    rename_i b h12 F12 N12 lb1 lb2 hgb z1 z2 z3 z4 z5
    k_lt lb1
    have hlen2 : us.length = us2.length := by rw [hus.length, hus2.length, List.length_map]
    refine frest_zip2 (Str.ofString "one") (Str.ofString "other") (us := us) (vs := us2) (n1 := nt) (n2 := nt2)
      (fun i news => ∃ hv hxs nh, news = [(hp, listOf (List.toArray hv) nh), (r2, listOf (List.toArray us2) nt2), (back, listOf (List.toArray bv) nb), (r, listOf (List.toArray us) nt), (forth, listOf (List.toArray fv) nf), (L' + 1, c1), (l, listOf (List.toArray vs) n)] ∧ IntsAre hv hxs ∧ Heapy hxs ∧ hxs.Perm ((xs.take i).map gp))
      rfl (by first | passes_own | with_unfolding_all passes_own) hlen2 F12 (news_out [(r2, listOf us2.toArray nt2), (back, listOf bv.toArray nb), (r, listOf us.toArray nt), (forth, listOf fv.toArray nf)] N12) lb2 hgb z1 z2 z3 z4 z5 ?_ ⟨[], [], 0, rfl, .nil, trivial, .refl _⟩ ?_ ?_
    · rintro i news ⟨hv, hxs, nh, rfl, _⟩
      refine ⟨by simp, by simp, fun p hp => ?_⟩
      simp only [List.mem_cons, List.not_mem_nil, or_false] at hp
      rcases hp with rfl | rfl | rfl | rfl | rfl | rfl | rfl <;> exact ltN (by dsimp only; omega)
    · clear F12 N12 F11 N11
      rintro i x y T o4 o2 o3 o0 o1 h tk u1 u2 u3 news hx1 hy1 hT F N ⟨hv, hxs, nh, rfl, hhv, hhy, hperm⟩ ih
      refine turn_abs fun RT hRT => ?_
      obtain ⟨x, tx, rfl, hxi⟩ := ints_item hus hx1
      obtain ⟨y, ty, rfl, hyi⟩ := ints_item hus2 hy1
      replace hT := ltN hT
      unfold tup2 at N
      k_steps
      (rename Fr _ _ _ _ => F13)
      (rename News _ _ _ _ => N13)
      refine Spec.useP (cmp_spec _hh) _ B3 F13 N13 D3 P.kin P.top rfl rfl (room hd) (units hu) (fun _ hp => nomatch hp) (fun _ hp => hp) (fun _ _ q => nomatch q) ?_
      clear F13 N13
      intro v h14 tk14 sm F14 N14 _ hpo
      obtain ⟨rfl, t14, rfl⟩ := hpo
      simp only [List.nil_append] at N14
      (try dsimp only)
      k_steps
      refine PyProof.Rows.mul_int ?_ (sgn_mul x y)
      k_steps
      have hilt : i < xs.length := (List.getElem?_eq_some_iff.mp hxi).1
      have hlx : hxs.length ≤ 3 := by
        rw [hperm.length_eq, List.length_map, List.length_take]; omega
      refine Spec.useP (push_spec _hh hhv hlx hhy) [(b + 4, o4), (b + 2, o2), (b + 3, o3), (b, o0), (b + 1, o1), (r2, listOf us2.toArray nt2), (back, listOf bv.toArray nb), (r, listOf us.toArray nt), (forth, listOf fv.toArray nf), (L' + 1, c1), (l, listOf vs.toArray n)] B3 F14 N14 D3 P.kin P.top rfl rfl (room hd) (units hu) (sub_one (.tail _ (.tail _ (.tail _ (.tail _ (.tail _ (.tail _ (.head _)))))))) (sub_of (.cons _ (.cons₂ _ (.cons₂ _ (.cons₂ _ (.cons₂ _ (.cons₂ _ (.cons _ (.refl _))))))))) (off1 (offc (by dsimp only; omega) (offc (by dsimp only; omega) (offc (by dsimp only; omega) (offc (by dsimp only; omega) (offc (by dsimp only; omega) (offc (by dsimp only; omega) (offc (by dsimp only; omega) (offc (by dsimp only; omega) (offc (by dsimp only; omega) (offc (by dsimp only; omega) (offc (by dsimp only; omega) (offn))))))))))))) ?_
      clear F14 N14
      intro v h15 tk15 sm F15 N15 _ hpo
      obtain ⟨rfl, vs', n', ys', rfl, hvs', hyp, hyh⟩ := hpo
      simp only [List.cons_append, List.nil_append] at N15
      (try dsimp only)
      k_steps
      have hy : y = valD (sw x) := by
        rw [List.getElem?_map, hxi] at hyi
        exact (Option.some.inj hyi).symm
      have hg : (x - y) * sgn x y = gp x := by rw [sgn_abs, hy, hgp]
      refine hRT _ ?_
      refine' ih _ _ _ _ ?m F15 (news_in [(b + 4, o4), (b + 2, o2), (b + 3, o3), (b, o0), (b + 1, o1)] N15) ?I
      case m =>
        intro y y1 y2
        simp only [if_neg y1, if_neg y2]
      case I =>
        refine ⟨vs', ys', n', rfl, hvs', hyh, ?_⟩
        rw [List.take_add_one, hxi, List.map_append]
        refine hyp.trans ?_
        rw [hg]
        refine (List.Perm.cons _ hperm).trans ?_
        exact (List.perm_append_singleton _ _).symm
    · clear F12 N12 F11 N11
      rintro h tk u1 u2 u3 news F N ⟨hv, hxs, nh, rfl, hhv, hhy, hperm⟩
      rw [hus2.length, List.length_map, List.take_length] at hperm
      k_steps
      refine Spec.use (emp_spec _hh hhv hhy) [(l, listOf vs.toArray n)] B3 F N D3 P.kin P.top rfl rfl (room hd) (units hu) (sub_one (.head _)) (sub_one (.tail _ (.tail _ (.tail _ (.tail _ (.tail _ (.tail _ (.head _)))))))) (off1 (offc (by dsimp only; omega) offn)) ?_
      clear F N
      intro v g4 h16 tk16 sm T4 F16 N16 B4 X4 P4 D4 hfr4 hpo
      obtain ⟨r3, us3, nt3, zs, rfl, rfl, hus3, hpz, hsz⟩ := hpo
      simp only [List.cons_append, List.nil_append] at N16
      (try dsimp only)
      k_steps
      exact hRR _ _ ⟨g4, L', _, _, T2.trans (T3.trans T4), F16, N16, fun K A N => hret _ _ _ _ K A N ⟨r3, us3, nt3, zs, rfl, rfl, hus3, hpz.trans hperm, hsz⟩⟩
theorem round1 (_hh : Challenge.rw_op0011_01 = Challenge.rw_op0011_01) {vs : List Value} {xs : List Int} {th : Tok} (hi : IntsAre vs xs) (hx : ∀ x ∈ xs, 0 ≤ x ∧ x < 4096) (hl : xs.length ≤ 4) :
    Spec true w mean mg mb 82 [.ref l, .int 1 th] 9 90 [(l, listOf vs.toArray n)] (RoundPost l vs n (xs.map gap1)) :=
  round_gen _hh (.inl ⟨rfl, rfl, rfl⟩) hi (fun x h => val1 (hx x h)) hl (fun _ h => flat_len (fun _ => rfl) (Nat.le_trans h hl)) (fun _ h => flat_len (fun _ => rfl) (Nat.le_trans h hl)) (fun _ => rfl)
theorem round2 (_hh : Challenge.rw_op0011_01 = Challenge.rw_op0011_01) {vs : List Value} {xs : List Int} {th : Tok} (hi : IntsAre vs xs) (hx : ∀ x ∈ xs, 0 ≤ x ∧ x < 16777216) (hl : xs.length ≤ 2) :
    Spec true w mean mg mb 82 [.ref l, .int 2 th] 9 90 [(l, listOf vs.toArray n)] (RoundPost l vs n (xs.map gap2)) :=
  round_gen _hh (.inr ⟨rfl, rfl, rfl⟩) hi (fun x h => val2 (hx x h)) (Nat.le_trans hl (by decide)) (fun _ h => flat_len2 (fun _ => rfl) (Nat.le_trans h hl)) (fun _ h => flat_len2 (fun _ => rfl) (Nat.le_trans h hl)) (fun _ => rfl)
end
end
end
section
open PySem PySem.W PyProof.Rows PySem.Calls PySem.Spec
set_option Elab.async false
set_option maxRecDepth 100000
set_option maxHeartbeats 8000000
section
section
variable {prog : Program} {w : World} {A : Around} {E : Value → Shared → Prop} {s : Shared} {Q : Value → Shared → Prop} {t u : Tok}
theorem half_split {a : Nat} (h0 : a % 2 = 0 → Q (.int 1 s.toks) { s with toks := s.toks + 1 }) (h1 : a % 2 = 1 → Q (.int 2 s.toks) { s with toks := s.toks + 1 }) :
    wpAny (model prog w) A (binaryOp .Add (.int 1 t) (.int (Int.fmod (a : Int) 2) u)) Q E s := by
  refine PyProof.Rows.add_int ?_
  have e : Int.fmod (a : Int) 2 = ((a % 2 : Nat) : Int) := by rw [Int.fmod_eq_emod_of_nonneg _ (by decide)]; omega
  rcases Nat.mod_two_eq_zero_or_one a with q | q
  · rw [e, q]; exact h0 q
  · rw [e, q]; exact h1 q
theorem pow_641 (h : Q (.int 64 s.toks) { s with toks := s.toks + 1 }) : wpAny (model prog w) A (binaryOp .Pow (.int 64 t) (.int 1 u)) Q E s :=
  pow_int_small (by decide) (by decide) (by decide) h
theorem pow_642 (h : Q (.int 4096 s.toks) { s with toks := s.toks + 1 }) : wpAny (model prog w) A (binaryOp .Pow (.int 64 t) (.int 2 u)) Q E s :=
  pow_int_small (by decide) (by decide) (by decide) h
theorem pow_40962 (h : Q (.int 16777216 s.toks) { s with toks := s.toks + 1 }) : wpAny (model prog w) A (binaryOp .Pow (.int 4096 t) (.int 2 u)) Q E s :=
  pow_int_small (by decide) (by decide) (by decide) h
theorem bits_pow2 : ∀ i : Nat, i < 14 → Builtin.Int.intBits (2 ^ (1 + (i : Int)).toNat) ≤ 64 := by decide
theorem mul_pow2 {i : Nat} {k : Int} (hi : i < 14) (h : Q (.int (2 ^ (1 + (i : Int)).toNat * k) s.toks) { s with toks := s.toks + 1 }) :
    wpAny (model prog w) A (binaryOp .Mult (.int (2 ^ (1 + (i : Int)).toNat) t) (.int k u)) Q E s :=
  PyProof.Rows.mul_int h (IntMulOk.of_left (bits_pow2 i hi))
theorem div_41 (h : Q (.int 4 s.toks) { s with toks := s.toks + 1 }) : wpAny (model prog w) A (binaryOp .FloorDiv (.int 4 t) (.int 1 u)) Q E s :=
  floordiv_int (by decide) h (Or.inl (PyProof.noPylong_of_log2 (by decide)))
theorem div_42 (h : Q (.int 2 s.toks) { s with toks := s.toks + 1 }) : wpAny (model prog w) A (binaryOp .FloorDiv (.int 4 t) (.int 2 u)) Q E s :=
  floordiv_int (by decide) h (Or.inl (PyProof.noPylong_of_log2 (by decide)))
end

theorem ints_nums : ∀ {vs : List Value}, (∀ v ∈ vs, ∃ n t, v = Value.int n t) → IntsAre vs (numsOf vs)
  | [], _ => .nil
  | v :: vs, h => by
    obtain ⟨n, t, rfl⟩ := h v (.head _)
    exact .cons n t (ints_nums fun v hv => h v (.tail _ hv))
theorem ints_all : ∀ {vs : List Value} {ns : List Int}, IntsAre vs ns → ∀ v ∈ vs, ∃ n t, v = Value.int n t
  | _, _, .nil, _, h => nomatch h
  | _, _, .cons n t hi, v, h => by
    rcases List.mem_cons.mp h with rfl | h
    · exact ⟨n, t, rfl⟩
    · exact ints_all hi v h
theorem ints_pick {vs : List Value} {ns : List Int} {lo hi st : Option Int} (h : IntsAre vs ns) : IntsAre (slicePick vs.toArray lo hi st).toList (numsOf (slicePick vs.toArray lo hi st).toList) := by
  refine ints_nums fun v hv => ints_all h v ?_
  unfold slicePick at hv
  obtain ⟨i, _, e⟩ := List.mem_filterMap.mp hv
  rw [List.getElem?_toArray] at e
  exact List.mem_of_getElem? e

section
variable {prog : Program} {w : World} {A : Around} {E : Value → Shared → Prop} {s : Shared} {h₀ : Heap} {L l : Addr} {m : Str → Option Value} {news : List (Addr × Obj)} {value slice : PySem.Expr} {Q : Value → Shared → Prop} {vl vu vk : Value} {lo hi st : Option Int}
theorem slice3_ints {vs : List Value} {ns : List Int} {ops : List Value} (F : Fr h₀ L s.heap m) (N : News h₀ L s.heap news) (hl : s.heap.IsList l vs.toArray) (pl : IsPart vl lo) (pu : IsPart vu hi) (pk : IsPart vk st) (h0 : st ≠ some 0) (hi' : IntsAre vs ns)
    (h : ∀ D h', Fr h₀ L h' m → News h₀ L h' ((D, listOf (slicePick vs.toArray lo hi st).toList.toArray 0) :: news) → (∀ p ∈ news, p.1 < D) → IntsAre (slicePick vs.toArray lo hi st).toList (numsOf (slicePick vs.toArray lo hi st).toList) → Q (.ref D) { s with heap := h' })
    (hs : subscripted slice false (.ref l) (.ref s.heap.objs.size) = operate ops (getItem (.ref l) (.ref s.heap.objs.size))) (ht : ∀ r, letTemporaryGo value (.ref l) r = pure ()) (hz : vs.length ≤ 24) :
    wpAny (model prog w) A (subscriptTail value slice (.ref l) (.ref s.heap.objs.size)) Q E { s with heap := s.heap.push { cls := .type "slice", data := .fields #[vl, vu, vk] } } := by
  refine slice_list3 F N hl pl pu pk h0 (fun h' F' N' => h _ h' F' ?_ (fun p hp => Nat.lt_succ_of_lt (Heap.lt_size (N p hp).1)) (ints_pick hi')) hs ht (by rw [PySem.sizeLine_eq, List.size_toArray]; omega)
  rw [Array.toArray_toList]
  exact N'
end
end
end
section
open PySem PySem.W PyProof.Rows PySem.Calls PySem.Spec
set_option Elab.async false
set_option maxRecDepth 100000
set_option maxHeartbeats 8000000
section

/-- a goal shut to the walk -/
structure Halt (p : Prop) : Prop where
  out : p

abbrev riObj (x left : Int) : Obj := { cls := .type "range_iterator", dict := none, data := .fields #[rawInt x, rawInt left, rawInt 1], slots := #[] }

section
variable {prog : Program} {w : World} {A : Around} {E : Value → Shared → Prop} {s : Shared} {env : Env} {target : PySem.Expr} {body orelse : List Stmt} {Q : Flow → Shared → Prop}

theorem ri_pyIter {h₀ : Heap} {L r : Addr} {m : Str → Option Value} {news : List (Addr × Obj)} {a b : Int} {t u v : Tok} {Q : Value → Shared → Prop} (F : Fr h₀ L s.heap m) (N : News h₀ L s.heap news) (hr : IsRange s.heap r a b 1 t u v) (hs : Builtin.Range.small a b 1 = true)
    (h : ∀ (I : Addr) h', Fr h₀ L h' m → News h₀ L h' ((I, riObj a (Builtin.Range.rangeSize a b 1)) :: news) → (∀ p ∈ news, p.1 < I) → Q (.ref I) { s with heap := h' }) :
    wpAny (model prog w) A (pyIter (.ref r)) Q E s :=
  wpAny_pyIter_range hr hs (h _ _ (F.push _) (News.push F N _ rfl) (fun q hq => Heap.lt_size (N q hq).1))

/-- a for over a range -/
theorem frest_range {it : Addr} {a : Int} {n : Nat} {g : Heap} {L : Addr} {m₀ : Str → Option Value} {news₀ : List (Addr × Obj)} (I : Nat → (Str → Option Value) → List (Addr × Obj) → Prop)
    (hh : A.handled = none) (hE : PassesOwn (model prog w) A env E) (ht : ∀ v, letOwnedTupleGo target (.ref it) v = pure ()) (F : Fr g L s.heap m₀) (N : News g L s.heap ((it, riObj a n) :: news₀))
    (hl : ∀ i m news, I i m news → ∀ p ∈ news, p.1 ≠ it) (h0 : I 0 m₀ news₀)
    (item : ∀ i t h tk m news, i < n → Fr g L h m → News g L h ((it, riObj (a + i + 1) ((n : Int) - i - 1)) :: news) → I i m news →
      (∀ h' tk' m' news', Fr g L h' m' → News g L h' ((it, riObj (a + i + 1) ((n : Int) - i - 1)) :: news') → I (i + 1) m' news' → FRest prog w A E env target (.ref it) body orelse Q { s with heap := h', toks := tk' }) →
      wpAny (model prog w) A (assign target env (.int (a + i) t)) (fun _ s₂ => wpAny (model prog w) A (execs body env) (fun f s₃ => match f with
          | .next => FRest prog w A E env target (.ref it) body orelse Q s₃
          | .cont => FRest prog w A E env target (.ref it) body orelse Q s₃
          | .brk => Q .next s₃
          | .ret v => Q (.ret v) s₃) E s₂) E { s with heap := h, toks := tk })
    (done : ∀ h tk m news, Fr g L h m → News g L h news → I n m news → wpAny (model prog w) A (execs orelse env) Q E { s with heap := h, toks := tk }) :
    FRest prog w A E env target (.ref it) body orelse Q s := by
  have all : ∀ k i, i + k = n → ∀ h tk m news, Fr g L h m → News g L h ((it, riObj (a + i) ((n : Int) - i)) :: news) → I i m news → FRest prog w A E env target (.ref it) body orelse Q { s with heap := h, toks := tk } := by
    intro k
    induction k with
    | zero =>
      intro i hi h tk m news F N hI
      refine frest_turn hE ?_
      have h2 := hl i m news hI
      have zi := (N _ (.head _)).1
      refine wpAny_pyNext_range_end (x := a + i) (left := (n : Int) - i) (step := 1) hh zi (by omega) fun h' hx => ?_
      have hi' : i = n := by omega
      subst hi'
      obtain ⟨oL, es, ep, hL, hLd, hLk, hLf⟩ := F.ns
      refine done h' tk m news ⟨⟨oL, es, ep, hx _ _ (Ne.symm (N _ (.head _)).2.1) hL, hLd, hLk, hLf⟩, fun b o e => hx _ _ (fun q => ?_) (F.keep b o e), F.above⟩ (fun p hp => ?_) hI
      · have := (N _ (.head _)).2.2; rw [← q, e] at this; cases this
      · exact ⟨hx _ _ (h2 p hp) (N p (.tail _ hp)).1, (N p (.tail _ hp)).2⟩
    | succ k ih =>
      intro i hi h tk m news F N hI
      refine frest_turn hE ?_
      have h2 := hl i m news hI
      have z := N _ (.head _)
      refine wpAny_pyNext_range_item (x := a + i) (left := (n : Int) - i) (step := 1) z.1 (by omega) fun h' hob hx => ?_
      refine wpAny_of_eq (ht _) ?_
      refine item i _ h' _ m news (by omega) (F.change hx z.2.1 z.2.2) (fun p hp => ?_) hI fun h'' tk'' m'' news'' F'' N'' hI'' => ih (i + 1) (by omega) h'' tk'' m'' news'' F'' (fun p hp => ?_) hI''
      · rcases List.mem_cons.mp hp with rfl | hp
        · exact ⟨hob, z.2⟩
        · exact ⟨(hx.2 _ (h2 p hp)).trans (N p (.tail _ hp)).1, (N p (.tail _ hp)).2⟩
      · rcases List.mem_cons.mp hp with rfl | hp
        · have := N'' _ (.head _)
          rw [show a + ((i + 1 : Nat) : Int) = a + i + 1 from by omega, show (n : Int) - ((i + 1 : Nat) : Int) = n - i - 1 from by omega]
          exact this
        · exact N'' p (.tail _ hp)
  refine all n 0 (by omega) s.heap s.toks m₀ news₀ F (fun p hp => ?_) h0
  rcases List.mem_cons.mp hp with rfl | hp
  · have := N _ (.head _)
    rw [show a + ((0 : Nat) : Int) = a from by omega, show (n : Int) - ((0 : Nat) : Int) = n from by omega]
    exact this
  · exact N p (.tail _ hp)

/-- three names of the frame turn -/
theorem frest_range3 (a b c : Str) {it : Addr} {x₀ : Int} {n : Nat} {g : Heap} {L : Addr} {m₀ : Str → Option Value} {news₀ : List (Addr × Obj)} (I : Nat → Option Value → Option Value → Option Value → List (Addr × Obj) → Prop)
    (hh : A.handled = none) (hE : PassesOwn (model prog w) A env E) (ht : ∀ v, letOwnedTupleGo target (.ref it) v = pure ()) (F : Fr g L s.heap m₀) (N : News g L s.heap ((it, riObj x₀ n) :: news₀))
    (hl : ∀ i u1 u2 u3 news, I i u1 u2 u3 news → ∀ p ∈ news, p.1 ≠ it) (h0 : I 0 (m₀ a) (m₀ b) (m₀ c) news₀)
    (item : ∀ i t h tk u1 u2 u3 news, i < n → Fr g L h (fun y => if y = a then u1 else if y = b then u2 else if y = c then u3 else m₀ y) → News g L h ((it, riObj (x₀ + i + 1) ((n : Int) - i - 1)) :: news) → I i u1 u2 u3 news →
      (∀ h' tk' m' news', (∀ y, y ≠ a → y ≠ b → y ≠ c → m' y = m₀ y) → Fr g L h' m' → News g L h' ((it, riObj (x₀ + i + 1) ((n : Int) - i - 1)) :: news') → I (i + 1) (m' a) (m' b) (m' c) news' → FRest prog w A E env target (.ref it) body orelse Q { s with heap := h', toks := tk' }) →
      wpAny (model prog w) A (assign target env (.int (x₀ + i) t)) (fun _ s₂ => wpAny (model prog w) A (execs body env) (fun f s₃ => match f with
          | .next => FRest prog w A E env target (.ref it) body orelse Q s₃
          | .cont => FRest prog w A E env target (.ref it) body orelse Q s₃
          | .brk => Q .next s₃
          | .ret v => Q (.ret v) s₃) E s₂) E { s with heap := h, toks := tk })
    (done : ∀ h tk u1 u2 u3 news, Fr g L h (fun y => if y = a then u1 else if y = b then u2 else if y = c then u3 else m₀ y) → News g L h news → I n u1 u2 u3 news → wpAny (model prog w) A (execs orelse env) Q E { s with heap := h, toks := tk }) :
    FRest prog w A E env target (.ref it) body orelse Q s :=
  frest_range (fun i m news => (∀ y, y ≠ a → y ≠ b → y ≠ c → m y = m₀ y) ∧ I i (m a) (m b) (m c) news) hh hE ht F N (fun i m news hI => hl i _ _ _ news hI.2) ⟨fun _ _ _ _ => rfl, h0⟩
    (fun i t h tk m news hi F' N' hI ih => by
      obtain ⟨hm, hI⟩ := hI
      rw [m_junk hm] at F'
      exact item i t h tk _ _ _ news hi F' N' hI fun h' tk' m' news' hm' F'' N'' hI' => ih h' tk' m' news' F'' N'' ⟨hm', hI'⟩)
    (fun h tk m news F' N' hI => by
      obtain ⟨hm, hI⟩ := hI
      rw [m_junk hm] at F'
      exact done h tk _ _ _ news F' N' hI)
end

section
variable {w : World} {mean : ExcName → Option Value} {mg mb : Str → Option Value} {g : Heap} {A₀ : Around} {L : Addr} {m : Str → Option Value} {s : Shared} {f l : Addr} {args : List Value} {dep uni : Nat} {vs : List Value} {n : Nat} {gs : List Int}

/-- a round called from law: the ledger stays, one list comes -/
theorem round_use (C : Spec true w mean mg mb f args dep uni [(l, listOf vs.toArray n)] (RoundPost l vs n gs)) {dp un : Nat} {gd : Option (List Code)} {env : Env} {news : List (Addr × Obj)} {Q E : Value → Shared → Prop}
    (B : Below A₀ g [] g) (F : Fr g L s.heap m) (N : News g L s.heap news) (XB : (Mine.hd.heap_39 w.params).In g) (TB : TP mean mg mb g)
    (hf : env.frame = some L) (hk : env.scope.kind = .function) (hd : dp + dep < recursionLimit) (hu : un + uni < cLine) (hm : (l, listOf vs.toArray n) ∈ news)
    (k : ∀ r us nt ys h' tk', Fr g L h' m → News g L h' ((r, listOf (List.toArray us) nt) :: news) → (∀ q ∈ news, q.1 ≠ l → q.1 ≠ r) → IntsAre us ys → ys.Perm gs → ys.Pairwise (· ≤ ·) → Q (.ref r) { s with heap := h', toks := tk' }) :
    wpAny (model PG w) (mkA dp un gd [env]) (call (.ref f) args) Q E s := by
  refine Spec.use C (news.filter (fun p => decide (p.1 ≠ l))) B F N (fun _ h => nomatch h) XB TB hf hk hd hu (fun p hp => by rw [List.mem_singleton.mp hp]; exact hm) (fun p hp => (List.mem_filter.mp hp).1) (fun p hp q => of_decide_eq_true (List.mem_filter.mp hp).2 (List.mem_singleton.mp q)) ?_
  intro v g' h' tk' small' T F' N' B' X' P' D' hfr hp
  obtain ⟨r, us, nt, ys, rfl, rfl, hi, hpm, hso⟩ := hp
  have F2 : Fr g L h' m := ⟨F'.ns, fun b o e => F'.keep b o (T.other b o e (fun q => nomatch q)), by have := F'.above; rw [T.size] at this; exact this⟩
  have n2 : ∀ b, g'.get? b = none → g.get? b = none := fun b e => by
    cases q : g.get? b with
    | none => rfl
    | some o => rw [T.other b o q (fun z => nomatch z)] at e; cases e
  refine k r us nt ys h' tk' F2 (fun p hp => ?_) (fun q hq hql e => ?_) hi hpm hso
  · rcases List.mem_cons.mp hp with rfl | hp
    · have z := N' _ (.head _)
      exact ⟨z.1, z.2.1, n2 _ z.2.2⟩
    · by_cases hl : p.1 = l
      · have z := N' _ (List.mem_append_left _ (.tail _ (.head _)))
        have e1 := (N p hp).1
        rw [hl, (N _ hm).1] at e1
        obtain ⟨p1, p2⟩ := p
        dsimp only at hl e1
        subst hl
        obtain rfl := Option.some.inj e1
        exact ⟨z.1, z.2.1, n2 _ z.2.2⟩
      · have z := N' p (List.mem_append_right _ (List.mem_filter.mpr ⟨hp, decide_eq_true hl⟩))
        exact ⟨z.1, z.2.1, n2 _ z.2.2⟩
  · rcases hfr _ (.head _) with z | z
    · exact hql (e.trans (List.mem_singleton.mp z))
    · exact z q hq e.symm
end
end
end
section
section
open List

theorem sorted_eq : ∀ {l l' : List Int}, l.Perm l' → l.Pairwise (· ≤ ·) → l'.Pairwise (· ≤ ·) → l = l'
  | [], l', h, _, _ => (List.nil_perm.mp h).symm
  | a :: l, [], h, _, _ => absurd (List.perm_nil.mp h) (by simp)
  | a :: l, b :: l', h, h1, h2 => by
    have hab : a = b := by
      rw [List.pairwise_cons] at h1 h2
      have ha : a ∈ b :: l' := h.mem_iff.mp (.head _)
      have hb : b ∈ a :: l := h.mem_iff.mpr (.head _)
      rcases List.mem_cons.mp ha with e | ha
      · exact e
      · rcases List.mem_cons.mp hb with e | hb
        · exact e.symm
        · exact Int.le_antisymm (h1.1 b hb) (h2.1 a ha)
    subst hab
    rw [sorted_eq (List.Perm.cons_inv h) (List.pairwise_cons.mp h1).2 (List.pairwise_cons.mp h2).2]

theorem uldr_spec (p : Int → Bool) : ∀ {zs ys C : List Int}, (zs.filter (fun x => !p x) ++ C).Perm ys → (∀ x ∈ zs, p x = true → x ∉ ys) →
    ∃ ys', uldr zs ys = (zs.filter p, ys') ∧ ys'.Perm C ∧ List.Sublist ys' ys
  | [], ys, C, h, _ => ⟨ys, rfl, by simpa using h.symm, .refl _⟩
  | x :: zs, ys, C, h, hn => by
    cases hp : p x with
    | true =>
      have hx : x ∉ ys := hn x (.head _) hp
      obtain ⟨ys', e, h1, h2⟩ := uldr_spec p (zs := zs) (ys := ys) (C := C) (by simpa [List.filter_cons, hp] using h) (fun y hy => hn y (.tail _ hy))
      refine ⟨ys', ?_, h1, h2⟩
      show (if x ∈ ys then _ else _) = _
      rw [if_neg hx, e, List.filter_cons, if_pos hp]
    | false =>
      have h' : (x :: (zs.filter (fun x => !p x) ++ C)).Perm ys := by simpa [List.filter_cons, hp] using h
      have hx : x ∈ ys := h'.mem_iff.mp (.head _)
      obtain ⟨ys', e, h1, h2⟩ := uldr_spec p (zs := zs) (ys := ys.erase x) (C := C) (by
        have := h'.erase x
        simpa using this) (fun y hy hpy hm => hn y (.tail _ hy) hpy (List.mem_of_mem_erase hm))
      refine ⟨ys', ?_, h1, h2.trans List.erase_sublist⟩
      show (if x ∈ ys then _ else _) = _
      rw [if_pos hx, e, List.filter_cons, if_neg (by simp [hp])]

def fold (B r : Int) : Int := if r % 2 = 1 ∨ r = 0 then r else B + 1 - r
def nx (B g : Int) : Int := if g = 0 then 0 else ((2 * g - (B + 1)).natAbs : Int)
def gp (B x : Int) : Int := ((x / B - x % B).natAbs : Int)

theorem fdB {B r : Int} (hp : 2 ≤ B) (he : B % 2 = 0) (h0 : 0 < r) (h1 : r ≤ B) : fold B (2 * r % (B + 1)) = ((2 * r - (B + 1)).natAbs : Int) := by
  by_cases h : 2 * r ≤ B
  · rw [Int.emod_eq_of_lt (by omega) (by omega)]
    unfold fold
    rw [if_neg (by omega)]
    omega
  · have e : 2 * r % (B + 1) = 2 * r - (B + 1) := by
      rw [← Int.sub_emod_right, Int.emod_eq_of_lt (by omega) (by omega)]
    rw [e]
    unfold fold
    rw [if_pos (by omega)]
    omega
theorem nx_firstB {B r : Int} (hp : 2 ≤ B) (he : B % 2 = 0) (h0 : 0 ≤ r) (h1 : r ≤ B) : nx B r = fold B (2 * r % (B + 1)) := by
  by_cases hr : r = 0
  · subst hr
    simp [nx, fold]
  · rw [fdB hp he (by omega) h1]
    exact if_neg hr
theorem nx_foldB {B r : Int} (hp : 2 ≤ B) (he : B % 2 = 0) (h0 : 0 ≤ r) (h1 : r ≤ B) : nx B (fold B r) = fold B (2 * r % (B + 1)) := by
  by_cases hr : r = 0
  · subst hr
    simp [nx, fold]
  · by_cases ho : r % 2 = 1
    · rw [show fold B r = r from if_pos (Or.inl ho)]
      exact nx_firstB hp he h0 h1
    · rw [fdB hp he (by omega) h1, show fold B r = B + 1 - r from if_neg (by omega)]
      unfold nx
      rw [if_neg (by omega)]
      omega
theorem fold_bdB {B r : Int} (h0 : 0 ≤ r) (h1 : r ≤ B) : 0 ≤ fold B r ∧ fold B r ≤ B := by
  unfold fold
  split <;> omega
theorem nx_first1 {r : Int} (h0 : 0 ≤ r) (h1 : r ≤ 64) : nx 64 r = fold 64 (2 * r % 65) := nx_firstB (by decide) (by decide) h0 h1
theorem nx_fold1 {r : Int} (h0 : 0 ≤ r) (h1 : r ≤ 64) : nx 64 (fold 64 r) = fold 64 (2 * r % 65) := nx_foldB (by decide) (by decide) h0 h1
theorem fold_bd1 {r : Int} (h0 : 0 ≤ r) (h1 : r ≤ 64) : 0 ≤ fold 64 r ∧ fold 64 r ≤ 64 := fold_bdB h0 h1
theorem nx_first2 {r : Int} (h0 : 0 ≤ r) (h1 : r ≤ 4096) : nx 4096 r = fold 4096 (2 * r % 4097) := nx_firstB (by decide) (by decide) h0 h1
theorem nx_fold2 {r : Int} (h0 : 0 ≤ r) (h1 : r ≤ 4096) : nx 4096 (fold 4096 r) = fold 4096 (2 * r % 4097) := nx_foldB (by decide) (by decide) h0 h1
theorem fold_bd2 {r : Int} (h0 : 0 ≤ r) (h1 : r ≤ 4096) : 0 ≤ fold 4096 r ∧ fold 4096 r ≤ 4096 := fold_bdB h0 h1
theorem gp_mul1 {g : Int} (h0 : 0 ≤ g) (h1 : g ≤ 64) : gp 64 (63 * g) = nx 64 g := by
  by_cases hr : g = 0
  · subst hr; decide
  · have e1 : 63 * g / 64 = g - 1 := by omega
    have e2 : 63 * g % 64 = 64 - g := by omega
    unfold gp nx
    rw [e1, e2, if_neg hr]
    omega
theorem gp_mul2 {g : Int} (h0 : 0 ≤ g) (h1 : g ≤ 4096) : gp 4096 (4095 * g) = nx 4096 g := by
  by_cases hr : g = 0
  · subst hr; decide
  · have e1 : 4095 * g / 4096 = g - 1 := by omega
    have e2 : 4095 * g % 4096 = 4096 - g := by omega
    unfold gp nx
    rw [e1, e2, if_neg hr]
    omega
theorem gap1_gp {x : Int} (h : 0 ≤ x ∧ x < 4096) : gap1 x = 63 * gp 64 x := by
  have e1 : x / 64 % 64 = x / 64 := by omega
  have e : valD (sw1 x) = x % 64 * 64 + x / 64 := by rw [← e1]; rfl
  unfold gap1 gp
  rw [e]
  omega
theorem gap2_gp {x : Int} (h : 0 ≤ x ∧ x < 16777216) : gap2 x = 4095 * gp 4096 x := by
  have e1 : x / 262144 % 64 * 64 + x / 4096 % 64 = x / 4096 := by omega
  have e2 : x / 64 % 64 * 64 + x % 64 = x % 4096 := by omega
  have e : valD (sw2 x) = x % 4096 * 4096 + x / 4096 := by
    rw [← e1, ← e2]
    show ((x / 64 % 64 * 64 + x % 64) * 64 + x / 262144 % 64) * 64 + x / 4096 % 64 = _
    omega
  unfold gap2 gp
  rw [e]
  omega
end
end
section
open PySem PySem.W
set_option Elab.async false
section
open List

def gsAt (B : Int) (fs : List Int) : Nat → List Int
  | 0 => fs
  | i + 1 => fs.map fun g => fold B (2 ^ (i + 1) * g % (B + 1))

/-- what the plain law needs of a base -/
structure Good (B : Int) (gap : Int → Int) (bd : Int) : Prop where
  pos : 2 ≤ B
  odd : B % 2 = 0
  gp : ∀ x, 0 ≤ x → x < bd → gap x = (B - 1) * gp B x
  mul : ∀ g, 0 ≤ g → g ≤ B → Mine.gp B ((B - 1) * g) = nx B g
  bd : ∀ g, 0 ≤ g → g ≤ B → 0 ≤ (B - 1) * g ∧ (B - 1) * g < bd
  first : ∀ r, 0 ≤ r → r ≤ B → nx B r = fold B (2 * r % (B + 1))
  fold : ∀ r, 0 ≤ r → r ≤ B → nx B (Mine.fold B r) = Mine.fold B (2 * r % (B + 1))
  fbd : ∀ r, 0 ≤ r → r ≤ B → 0 ≤ Mine.fold B r ∧ Mine.fold B r ≤ B

theorem good1 : Good 64 gap1 4096 where
  pos := by decide
  odd := by decide
  gp := fun x h0 h1 => gap1_gp ⟨h0, h1⟩
  mul := fun g h0 h1 => gp_mul1 h0 h1
  bd := fun g h0 h1 => by omega
  first := fun r h0 h1 => nx_first1 h0 h1
  fold := fun r h0 h1 => nx_fold1 h0 h1
  fbd := fun r h0 h1 => fold_bd1 h0 h1
theorem good2 : Good 4096 gap2 16777216 where
  pos := by decide
  odd := by decide
  gp := fun x h0 h1 => gap2_gp ⟨h0, h1⟩
  mul := fun g h0 h1 => gp_mul2 h0 h1
  bd := fun g h0 h1 => by omega
  first := fun r h0 h1 => nx_first2 h0 h1
  fold := fun r h0 h1 => nx_fold2 h0 h1
  fbd := fun r h0 h1 => fold_bd2 h0 h1

structure LI (B : Int) (gap : Int → Int) (bd : Int) (ln : Nat) (fs : List Int) (i : Nat) (xs gs x1 : List Int) : Prop where
  fb : ∀ g ∈ fs, 0 ≤ g ∧ g < B
  bd : ∀ x ∈ xs, 0 ≤ x ∧ x < bd
  len : xs.length ≤ ln
  pm : (xs.map gap).Perm (gs.map fun k' => (B - 1) * k')
  gs : gs = gsAt B fs i
  fst : 0 < i → x1.Perm (fs.map fun k' => (B - 1) * k') ∧ x1.Pairwise (· ≤ ·)
  prev : 0 < i → xs.Perm ((gsAt B fs (i - 1)).map fun k' => (B - 1) * k') ∧ xs.Pairwise (· ≤ ·)

section
variable {B : Int} {gap : Int → Int} {bd : Int} {ln : Nat} {fs xs gs x1 zs : List Int} {i : Nat}

theorem gsAt_len : (gsAt B fs i).length = fs.length := by
  cases i with
  | zero => rfl
  | succ i => exact List.length_map _
theorem LI.flen (h : LI B gap bd ln fs i xs gs x1) : gs.length = fs.length := by rw [h.gs]; exact gsAt_len
theorem gsAt_bd (G : Good B gap bd) (hf : ∀ g ∈ fs, 0 ≤ g ∧ g < B) : ∀ g ∈ gsAt B fs i, 0 ≤ g ∧ g ≤ B := by
  intro g hg
  cases i with
  | zero => have := hf g hg; omega
  | succ i =>
    obtain ⟨a, ha, rfl⟩ := List.mem_map.mp hg
    have hp := G.pos
    exact G.fbd _ (Int.emod_nonneg _ (by omega)) (by have := Int.emod_lt_of_pos (2 ^ (i + 1) * a) (show 0 < B + 1 by omega); omega)

theorem gsAt_nx (G : Good B gap bd) (hf : ∀ g ∈ fs, 0 ≤ g ∧ g < B) : (gsAt B fs i).map (nx B) = gsAt B fs (i + 1) := by
  have hp := G.pos
  cases i with
  | zero =>
    refine List.map_congr_left fun g hg => ?_
    have := hf g hg
    rw [G.first g (by omega) (by omega)]
    rfl
  | succ i =>
    show List.map (nx B) (List.map _ fs) = List.map _ fs
    rw [List.map_map]
    refine List.map_congr_left fun g hg => ?_
    show nx B (fold B _) = _
    have h1 := Int.emod_lt_of_pos (2 ^ (i + 1) * g) (show 0 < B + 1 by omega)
    rw [G.fold _ (Int.emod_nonneg _ (by omega)) (by omega), Int.mul_emod, Int.emod_emod_of_dvd _ (Int.dvd_refl _), ← Int.mul_emod, ← Int.mul_assoc, show (2 : Int) * 2 ^ (i + 1) = 2 ^ (i + 1 + 1) from by rw [Int.pow_succ' 2 (i + 1)]]

theorem new_gs : List.map (fun k' : Int => if k'.fmod 2 = 1 then k' else if k' = 0 then k' else B + 1 - k') (List.map (fun k' : Int => (2 ^ (1 + (i : Int)).toNat * k').fmod (B + 1)) fs) = gsAt B fs (i + 1) ∨ B < 0 := by
  by_cases hB : B < 0
  · exact .inr hB
  left
  rw [List.map_map]
  refine List.map_congr_left fun g _ => ?_
  simp only [Function.comp_apply]
  rw [show (1 + (i : Int)).toNat = i + 1 from by omega, Int.fmod_eq_emod_of_nonneg _ (show 0 ≤ B + 1 by omega), Int.fmod_eq_emod_of_nonneg _ (show (0 : Int) ≤ 2 by decide)]
  unfold fold
  by_cases h1 : 2 ^ (i + 1) * g % (B + 1) % 2 = 1
  · rw [if_pos h1, if_pos (Or.inl h1)]
  · by_cases h2 : 2 ^ (i + 1) * g % (B + 1) = 0
    · rw [if_neg h1, if_pos h2, if_pos (Or.inr h2)]
    · rw [if_neg h1, if_neg h2, if_neg (by rintro (h | h); exact h1 h; exact h2 h)]

theorem LI.step (G : Good B gap bd) (h : LI B gap bd ln fs i xs gs x1) (hzp : zs.Perm (xs.map gap)) (hzs : zs.Pairwise (· ≤ ·)) (hx : 0 < i ∨ x1 = zs) :
    LI B gap bd ln fs (i + 1) zs (List.map (fun k' : Int => if k'.fmod 2 = 1 then k' else if k' = 0 then k' else B + 1 - k') (List.map (fun k' : Int => (2 ^ (1 + (i : Int)).toNat * k').fmod (B + 1)) fs)) x1 := by
  have hp := G.pos
  rw [new_gs.resolve_right (by omega)]
  have hz : zs.Perm ((gsAt B fs i).map fun k' => (B - 1) * k') := by
    have := h.pm
    rw [h.gs] at this
    exact hzp.trans this
  have hb := gsAt_bd (i := i) G h.fb
  refine ⟨h.fb, fun x hx => ?_, ?_, ?_, rfl, fun _ => ?_, fun _ => ⟨hz, hzs⟩⟩
  · obtain ⟨g, hg, rfl⟩ := List.mem_map.mp (hz.mem_iff.mp hx)
    exact G.bd g (hb g hg).1 (hb g hg).2
  · rw [hzp.length_eq, List.length_map]; exact h.len
  · refine (hz.map gap).trans ?_
    rw [← gsAt_nx G h.fb, List.map_map, List.map_map]
    refine List.Perm.of_eq (List.map_congr_left fun g hg => ?_)
    show gap ((B - 1) * g) = (B - 1) * nx B g
    obtain ⟨b1, b2⟩ := hb g hg
    rw [G.gp _ (G.bd g b1 b2).1 (G.bd g b1 b2).2, G.mul g b1 b2]
  · rcases hx with hx | rfl
    · exact h.fst hx
    · refine ⟨?_, hzs⟩
      cases i with
      | zero => exact hz
      | succ i => exact (h.fst (Nat.succ_pos _)).1

theorem LI.eq (h : LI B gap bd ln fs i xs gs x1) {ns : List Int} (hzp : zs.Perm (xs.map gap)) (hzs : zs.Pairwise (· ≤ ·)) (hn : ns.Perm (gs.map fun k' => (B - 1) * k')) (hns : ns.Pairwise (· ≤ ·)) : zs = ns :=
  sorted_eq (hzp.trans (h.pm.trans hn.symm)) hzs hns

theorem abs_gp (hB : 0 ≤ B) (x : Int) : (if x.fdiv B - x.fmod B < 0 then -(x.fdiv B - x.fmod B) else x.fdiv B - x.fmod B) = gp B x := by
  unfold gp
  rw [Int.fdiv_eq_ediv_of_nonneg _ hB, Int.fmod_eq_emod_of_nonneg _ hB]
  split <;> omega

theorem LI.init (G : Good B gap bd) (hg : bd = B * B) (hb : ∀ x ∈ xs, 0 ≤ x ∧ x < bd) (hl : xs.length ≤ ln)
    (hf : List.map (fun k' : Int => if k'.fdiv B - k'.fmod B < 0 then -(k'.fdiv B - k'.fmod B) else k'.fdiv B - k'.fmod B) xs = fs) : LI B gap bd ln fs 0 xs fs x1 := by
  have hp := G.pos
  rw [show (fun k' : Int => if k'.fdiv B - k'.fmod B < 0 then -(k'.fdiv B - k'.fmod B) else k'.fdiv B - k'.fmod B) = gp B from funext (abs_gp (by omega))] at hf
  subst hf
  refine ⟨fun g hg' => ?_, hb, hl, ?_, rfl, fun h => absurd h (Nat.lt_irrefl _), fun h => absurd h (Nat.lt_irrefl _)⟩
  · obtain ⟨x, hx, rfl⟩ := List.mem_map.mp hg'
    obtain ⟨b1, b2⟩ := hb x hx
    have h1 : 0 ≤ x / B := Int.ediv_nonneg b1 (by omega)
    have h2 : x / B < B := Int.ediv_lt_of_lt_mul (by omega) (by rw [← hg]; exact b2)
    have h3 : 0 ≤ x % B := Int.emod_nonneg _ (by omega)
    have h4 : x % B < B := Int.emod_lt_of_pos _ (by omega)
    unfold gp
    omega
  · rw [List.map_map]
    refine List.Perm.of_eq (List.map_congr_left fun x hx => ?_)
    exact G.gp x (hb x hx).1 (hb x hx).2

theorem fmod_bd {a m : Int} (hm : 0 < m) : 0 ≤ a.fmod m ∧ a.fmod m < m := by
  rw [Int.fmod_eq_emod_of_nonneg _ (Int.le_of_lt hm)]
  exact ⟨Int.emod_nonneg _ (by omega), Int.emod_lt_of_pos _ hm⟩

theorem sorted_eq' {l l' : List Int} (h : l.Perm l') (h1 : l.Pairwise (· ≥ ·)) (h2 : l'.Pairwise (· ≥ ·)) : l = l' := by
  have := sorted_eq (l := l.reverse) (l' := l'.reverse) ((List.reverse_perm l).trans (h.trans (List.reverse_perm l').symm)) (List.pairwise_reverse.mpr h1) (List.pairwise_reverse.mpr h2)
  exact List.reverse_inj.mp this

/-- the end: what unorderable_list_difference tells -/
theorem LI.fin (G : Good B gap bd) (h : LI B gap bd ln fs (i + 1) xs gs x1) (hi : 0 < i) (key : ∀ g, 0 ≤ g → g < B → fold B (2 ^ i * g % (B + 1)) = if g % 2 = 0 ∧ 0 < g then B + 1 - g else g)
    {ev : List Int} (he : ev.Perm (fs.filter fun g => decide (g % 2 = 0 ∧ 0 < g))) (hs : ev.Pairwise (· ≥ ·)) :
    uldr x1.reverse xs = (ev.map fun k' => (B - 1) * k', ev.map fun k' => (B - 1) * (B + 1 - k')) := by
  have hp := G.pos
  have ho := G.odd
  obtain ⟨f1, f2⟩ := h.fst (Nat.succ_pos _)
  obtain ⟨g1, g2⟩ := h.prev (Nat.succ_pos _)
  rw [Nat.add_sub_cancel] at g1
  let q : Int → Bool := fun g => decide (g % 2 = 0 ∧ 0 < g)
  have par : ∀ g : Int, ((B - 1) * g) % 2 = g % 2 := fun g => by
    have e : B - 1 = 2 * (B / 2 - 1) + 1 := by omega
    rw [e, Int.add_mul, Int.mul_assoc, Int.one_mul]
    omega
  have sgn : ∀ g : Int, 0 < (B - 1) * g ↔ 0 < g := fun g => by
    constructor
    · intro h
      exact Int.pos_of_mul_pos_right h (by omega) 
    · intro h
      exact Int.mul_pos (by omega) h
  have qe : ∀ g : Int, q ((B - 1) * g) = q g := fun g => by
    show decide _ = decide _
    rw [par, decide_eq_decide, sgn]
  have e6 : gsAt B fs i = fs.map fun g => if g % 2 = 0 ∧ 0 < g then B + 1 - g else g := by
    obtain ⟨j, rfl⟩ : ∃ j, i = j + 1 := ⟨i - 1, by omega⟩
    refine List.map_congr_left fun g hg => key g (h.fb g hg).1 (h.fb g hg).2
  rw [e6, List.map_map] at g1
  have hev : ∀ g ∈ ev, g % 2 = 0 ∧ 0 < g := fun g hg => of_decide_eq_true (List.mem_filter.mp (he.mem_iff.mp hg)).2
  have hC : (x1.reverse.filter (fun x => !q x) ++ ev.map fun k' => (B - 1) * (B + 1 - k')).Perm xs := by
    refine List.Perm.trans ?_ g1.symm
    have p1 : (x1.reverse.filter fun x => !q x).Perm ((fs.filter fun g => !q g).map fun k' => (B - 1) * k') := by
      refine (((List.reverse_perm x1).trans f1).filter _).trans (List.Perm.of_eq ?_)
      rw [List.filter_map]
      congr 1
      refine List.filter_congr fun g _ => ?_
      show (!q ((B - 1) * g)) = _
      rw [qe]
    have p2 : (ev.map fun k' => (B - 1) * (B + 1 - k')).Perm ((fs.filter q).map fun k' => (B - 1) * (B + 1 - k')) := he.map _
    refine (p1.append p2).trans ?_
    have p3 : (fs.filter (fun g => !q g) ++ fs.filter q).Perm fs := List.perm_append_comm.trans (List.filter_append_perm q fs)
    refine List.Perm.trans (List.Perm.of_eq ?_) (p3.map _)
    rw [List.map_append]
    congr 1
    · refine List.map_congr_left fun g hg => ?_
      have hq := (List.mem_filter.mp hg).2
      show _ = (B - 1) * (if g % 2 = 0 ∧ 0 < g then B + 1 - g else g)
      rw [if_neg (fun hh => by rw [show q g = true from decide_eq_true hh] at hq; cases hq)]
    · refine List.map_congr_left fun g hg => ?_
      have hq := (List.mem_filter.mp hg).2
      show _ = (B - 1) * (if g % 2 = 0 ∧ 0 < g then B + 1 - g else g)
      rw [if_pos (of_decide_eq_true hq)]
  obtain ⟨ys', u1, u2, u3⟩ := uldr_spec q hC (fun x _ hq hm => by
    obtain ⟨g, hg, rfl⟩ := List.mem_map.mp (g1.mem_iff.mp hm)
    have hq2 : q ((B - 1) * (if g % 2 = 0 ∧ 0 < g then B + 1 - g else g)) = true := hq
    rw [qe] at hq2
    have := of_decide_eq_true hq2
    split at this <;> omega)
  rw [u1]
  have v1 : x1.reverse.filter q = ev.map fun k' => (B - 1) * k' := by
    refine sorted_eq' ?_ (List.Pairwise.filter _ (List.pairwise_reverse.mpr f2)) (List.pairwise_map.mpr (hs.imp fun {a b} hab => Int.mul_le_mul_of_nonneg_left hab (by omega)))
    refine (((List.reverse_perm x1).trans f1).filter _).trans (List.Perm.trans (List.Perm.of_eq ?_) (he.symm.map _))
    rw [List.filter_map]
    congr 1
    refine List.filter_congr fun g _ => ?_
    exact qe g
  have v2 : ys' = ev.map fun k' => (B - 1) * (B + 1 - k') :=
    sorted_eq u2 (List.Pairwise.sublist u3 g2) (List.pairwise_map.mpr (hs.imp fun {a b} hab => Int.mul_le_mul_of_nonneg_left (by have : b ≤ a := hab; omega) (by omega)))
  rw [v1, v2]
end

theorem key1 (g : Int) (h0 : 0 ≤ g) (h1 : g < 64) : fold 64 (2 ^ 6 * g % (64 + 1)) = if g % 2 = 0 ∧ 0 < g then 64 + 1 - g else g := by
  by_cases hg : g = 0
  · subst hg; decide
  · have e : (2 ^ 6 * g % (64 + 1) : Int) = 65 - g := by
      rw [show (2 ^ 6 : Int) = 64 from by decide]; omega
    rw [e]
    unfold fold
    by_cases ho : g % 2 = 0
    · rw [if_pos (by omega), if_pos (by omega)]; omega
    · rw [if_neg (by omega), if_neg (by omega)]; omega
theorem key2 (g : Int) (h0 : 0 ≤ g) (h1 : g < 4096) : fold 4096 (2 ^ 12 * g % (4096 + 1)) = if g % 2 = 0 ∧ 0 < g then 4096 + 1 - g else g := by
  by_cases hg : g = 0
  · subst hg; decide
  · have e : (2 ^ 12 * g % (4096 + 1) : Int) = 4097 - g := by
      rw [show (2 ^ 12 : Int) = 4096 from by decide]; omega
    rw [e]
    unfold fold
    by_cases ho : g % 2 = 0
    · rw [if_pos (by omega), if_pos (by omega)]; omega
    · rw [if_neg (by omega), if_neg (by omega)]; omega
end
end
section
open PySem PySem.W PyProof.Rows PySem.Calls PySem.Spec
set_option Elab.async false
set_option maxRecDepth 100000
set_option maxHeartbeats 8000000
section
section
variable {prog : Program} {w : World} {A : Around} {E : Value → Shared → Prop} {s : Shared} {h₀ : Heap} {L l : Addr} {m : Str → Option Value} {news : List (Addr × Obj)} {value slice : PySem.Expr} {Q : Value → Shared → Prop}
theorem item_first {vs : List Value} {u : Tok} {v : Value} {ops : List Value} (N : News h₀ L s.heap news) {n : Nat} (hm : (l, listOf vs.toArray n) ∈ news) (hx : vs.head? = some v) (h : Q v s)
    (hs : subscripted slice false (.ref l) (.int 0 u) = operate ops (getItem (.ref l) (.int 0 u))) : wpAny (model prog w) A (subscriptTail value slice (.ref l) (.int 0 u)) Q E s :=
  have hl : s.heap.IsList l vs.toArray := News.isList N hm
  tail_any hl.typeIs list_getitem_lookup (wpAny_getItem_list hl (by decide) (by decide) (by rw [List.getElem?_toArray, ← hx]; cases vs <;> rfl) h) hs
theorem item_last {vs : List Value} {u : Tok} {v : Value} {ops : List Value} (N : News h₀ L s.heap news) {n : Nat} (hm : (l, listOf vs.toArray n) ∈ news) (hx : vs.getLast? = some v) (h : Q v s)
    (hs : subscripted slice false (.ref l) (.int (-1) u) = operate ops (getItem (.ref l) (.int (-1) u))) : wpAny (model prog w) A (subscriptTail value slice (.ref l) (.int (-1) u)) Q E s := by
  have hl : s.heap.IsList l vs.toArray := News.isList N hm
  have hp : 0 < vs.length := by
    cases vs with
    | nil => cases hx
    | cons => exact Nat.succ_pos _
  have hz : vs.toArray.size = vs.length := List.size_toArray
  refine tail_any hl.typeIs list_getitem_lookup (wpAny_getItem_list_neg hl (by decide) (by rw [hz]; omega) (by decide) ?_ h) hs
  rw [List.getElem?_toArray, hz, show (-1 + (vs.length : Int)).toNat = vs.length - 1 from by omega, ← hx, List.getLast?_eq_getElem?]
theorem slice_copy {vs : List Value} {ops : List Value} (F : Fr h₀ L s.heap m) (N : News h₀ L s.heap news) {n : Nat} (hm : (l, listOf vs.toArray n) ∈ news) (hz : vs.length ≤ 24)
    (h : ∀ D h', Fr h₀ L h' m → News h₀ L h' ((D, listOf vs.toArray 0) :: news) → (∀ p ∈ news, p.1 < D) → Q (.ref D) { s with heap := h' })
    (hs : subscripted slice false (.ref l) (.ref s.heap.objs.size) = operate ops (getItem (.ref l) (.ref s.heap.objs.size))) :
    wpAny (model prog w) A (subscriptTail value slice (.ref l) (.ref s.heap.objs.size)) Q E { s with heap := s.heap.push { cls := .type "slice", data := .fields #[.none, .none, .none] } } := by
  have hl : s.heap.IsList l vs.toArray := News.isList N hm
  refine tail_any (Heap.IsList.typeIs (s := { s with heap := s.heap.push { cls := .type "slice", data := .fields #[.none, .none, .none] } }) (hl.push _)) list_getitem_lookup
    (wpAny_getItem_list_slice (hl.push _) (Heap.IsSliceOf.new ..) IsPart.none IsPart.none IsPart.none (by decide) ?_ (by rw [PySem.sizeLine_eq, List.size_toArray]; omega)) hs
  rw [slicePick_all]
  have N1 := News.push (F.push { cls := .type "slice", data := .fields #[.none, .none, .none] }) (N.grown fun _ _ e => Heap.get?_push_of_some _ e) { cls := .type "list", data := .seq vs.toArray }
  rw [Heap.size_push] at N1
  show Q (.ref (s.heap.push _).objs.size) _
  rw [Heap.size_push]
  exact h _ _ ((F.push _).push _) N1 fun p hp => Nat.lt_succ_of_lt (Heap.lt_size (N p hp).1)
end

section
variable {w : World} {mean : ExcName → Option Value} {mg mb : Str → Option Value} {g : Heap} {A₀ : Around} {L : Addr} {m : Str → Option Value} {s : Shared} {f : Addr} {args : List Value} {dep uni : Nat} {small : List (Addr × Obj)} {Post : Value → List (Addr × Obj) → Prop}
/-- a contract used from law itself: no frame below, so the base stays -/
theorem top_use (C : Spec true w mean mg mb f args dep uni small Post) {dp un : Nat} {gd : Option (List Code)} {env : Env} {news : List (Addr × Obj)} {Q E : Value → Shared → Prop} (big : List (Addr × Obj))
    (B : Below A₀ g [] g) (F : Fr g L s.heap m) (N : News g L s.heap news) (XB : (Mine.hd.heap_39 w.params).In g) (TB : TP mean mg mb g)
    (hf : env.frame = some L) (hk : env.scope.kind = .function) (hd : dp + dep < recursionLimit) (hu : un + uni < cLine)
    (hs : ∀ p ∈ small, p ∈ news) (hb : ∀ p ∈ big, p ∈ news) (hx : ∀ p ∈ big, p.1 ∉ small.map (·.1))
    (k : ∀ v h' tk' small', Fr g L h' m → News g L h' (small' ++ big) → (∀ p ∈ small', p.1 ∈ small.map (·.1) ∨ ∀ q ∈ news, p.1 ≠ q.1) → Post v small' → Q v { s with heap := h', toks := tk' }) :
    wpAny (model PG w) (mkA dp un gd [env]) (call (.ref f) args) Q E s := by
  refine Spec.use C big B F N (fun _ h => nomatch h) XB TB hf hk hd hu hs hb hx ?_
  intro v g' h' tk' small' T F' N' B' X' P' D' hfr hp
  have F2 : Fr g L h' m := ⟨F'.ns, fun b o e => F'.keep b o (T.other b o e (fun q => nomatch q)), by have := F'.above; rw [T.size] at this; exact this⟩
  have n2 : ∀ b, g'.get? b = none → g.get? b = none := fun b e => by
    cases q : g.get? b with
    | none => rfl
    | some o => rw [T.other b o q (fun z => nomatch z)] at e; cases e
  exact k v h' tk' small' F2 (fun p hp => ⟨(N' p hp).1, (N' p hp).2.1, n2 _ (N' p hp).2.2⟩) hfr hp

theorem news_sub {h₀ h : Heap} {news news' : List (Addr × Obj)} (N : News h₀ L h news) (hs : ∀ p ∈ news', p ∈ news) : News h₀ L h news' := fun p hp => N p (hs p hp)

/-- unorderable_list_difference called from law -/
theorem uld_use {l l2 : Addr} {vs us : List Value} {xs ys : List Int} {n k : Nat} (hi : IntsAre vs xs) (hj : IntsAre us ys) (hx4 : xs.length ≤ 4) (hy4 : ys.length ≤ 4) (hlm : @Ne Nat l l2)
    {dp un : Nat} {gd : Option (List Code)} {env : Env} {news : List (Addr × Obj)} {Q E : Value → Shared → Prop} {a b : Addr × Obj}
    (B : Below A₀ g [] g) (F : Fr g L s.heap m) (N : News g L s.heap news) (XB : (Mine.hd.heap_39 w.params).In g) (TB : TP mean mg mb g)
    (hf : env.frame = some L) (hk : env.scope.kind = .function) (hd : dp + 6 < recursionLimit) (hu : un + 60 < cLine)
    (h1 : (l, listOf vs.toArray n) ∈ news) (h2 : (l2, listOf us.toArray k) ∈ news) (ha : a ∈ news) (hb : b ∈ news)
    (a1 : @Ne Nat a.1 l) (a2 : @Ne Nat a.1 l2) (b1 : @Ne Nat b.1 l) (b2 : @Ne Nat b.1 l2)
    {P1 P2 : List Int} (hp : uldr xs.reverse ys = (P1, P2))
    (kk : ∀ t r lr ts us nt nu h' tk', Fr g L h' m → News g L h' [(t, tup2 (.ref r) (.ref lr)), (r, listOf (List.toArray ts) nt), (lr, listOf (List.toArray us) nu), a, b] → IntsAre ts P1 → IntsAre us P2 → Q (.ref t) { s with heap := h', toks := tk' }) :
    wpAny (model PG w) (mkA dp un gd [env]) (call (.ref 56) [.ref l, .ref l2]) Q E s := by
  refine top_use (uld_spec rfl (mean := mean) (mg := mg) (mb := mb) (n := n) (k := k) hi hj hx4 hy4 hlm) [a, b] B F N XB TB hf hk hd hu ?_ ?_ ?_ ?_
  · intro p hp
    rcases List.mem_cons.mp hp with rfl | hp
    · exact h1
    · rw [List.mem_singleton.mp hp]; exact h2
  · intro p hp
    rcases List.mem_cons.mp hp with rfl | hp
    · exact ha
    · rw [List.mem_singleton.mp hp]; exact hb
  · intro p hp hq
    simp only [List.map_cons, List.map_nil, List.mem_cons, List.not_mem_nil, or_false] at hp hq
    rcases hp with rfl | rfl
    · rcases hq with q | q
      · exact a1 q
      · exact a2 q
    · rcases hq with q | q
      · exact b1 q
      · exact b2 q
  · intro v h' tk' small' F' N' _ ⟨t, r, lr, ts, us', nt, nu, e, m1, m2, m3, i1, i2⟩
    subst e
    rw [hp] at i1 i2
    refine kk t r lr ts us' nt nu h' tk' F' (news_sub N' fun p hp => ?_) i1 i2
    simp only [List.mem_cons, List.not_mem_nil, or_false] at hp
    rcases hp with rfl | rfl | rfl | rfl | rfl
    · exact List.mem_append_left _ m1
    · exact List.mem_append_left _ m2
    · exact List.mem_append_left _ m3
    · exact List.mem_append_right _ (.head _)
    · exact List.mem_append_right _ (.tail _ (.head _))
end
theorem even_pred {fs ev : List Int} (h : ev.Perm (fs.filter fun a => if (a.fmod 2 == 0) = true then if 0 < a then true else false else false)) : ev.Perm (fs.filter fun g => decide (g % 2 = 0 ∧ 0 < g)) := by
  refine h.trans (List.Perm.of_eq (List.filter_congr fun a _ => ?_))
  rw [Int.fmod_eq_emod_of_nonneg _ (show (0 : Int) ≤ 2 by decide)]
  by_cases h1 : a % 2 = 0
  · by_cases h2 : 0 < a
    · simp [h1, h2]
    · simp [h1, h2]
  · simp [h1]

section
variable {prog : Program} {w : World} {A : Around} {E : Value → Shared → Prop} {s : Shared} {h₀ : Heap} {L : Addr} {Q : Value → Shared → Prop}
theorem eq_pairs {t2 t r lr d1 d2 : Addr} {ts us y1 y2 : List Value} {P1 P2 : List Int} {nt nu n1 n2 : Nat}
    (N : News h₀ L s.heap [(t2, { cls := .type "tuple", data := .seq #[.ref d1, .ref d2] }), (t, tup2 (.ref r) (.ref lr)), (r, listOf ts.toArray nt), (lr, listOf us.toArray nu), (d1, listOf y1.toArray n1), (d2, listOf y2.toArray n2)])
    (i1 : IntsAre ts P1) (i2 : IntsAre us P2) (j1 : IntsAre y1 P1) (j2 : IntsAre y2 P2) (hu : A.units + 64 < cLine) (h : Q (.bool true) s) :
    wpAny (model prog w) A (compareOp .Eq (.ref t) (.ref t2)) Q E s := by
  have sh : SeqAt.shaped (.tuple [.list (P1.map PyData.int), .list (P2.map PyData.int)]) = true := by
    simp [SeqAt.shaped, PyData.canLay0, PyData.canLayAll0, PyData.depth, PyData.depthAll, ke_canLayAll0, ke_depthAll]
  refine eq_dataH (da := .tuple [.list (P1.map PyData.int), .list (P2.map PyData.int)]) (db := .tuple [.list (P1.map PyData.int), .list (P2.map PyData.int)])
    (reads_tuple_at (N _ (.tail _ (.head _))).1 rfl rfl (.cons (reads_newData (News.isList N (.tail _ (.tail _ (.head _)))) (ke_carried i1)) (.cons (reads_newData (News.isList N (.tail _ (.tail _ (.tail _ (.head _))))) (ke_carried i2)) .nil)))
    (reads_tuple_at (N _ (.head _)).1 rfl rfl (.cons (reads_newData (News.isList N (.tail _ (.tail _ (.tail _ (.tail _ (.head _)))))) (ke_carried j1)) (.cons (reads_newData (News.isList N (.tail _ (.tail _ (.tail _ (.tail _ (.tail _ (.head _))))))) (ke_carried j2)) .nil)))
    sh sh hu ?_
  rw [show PyData.eqv (.tuple [.list (P1.map PyData.int), .list (P2.map PyData.int)]) (.tuple [.list (P1.map PyData.int), .list (P2.map PyData.int)]) = true from by simp [PyData.eqv, PyData.eqvAll, ked_eqvAll]]
  exact h
end

theorem law_news {h₀ h : Heap} {L : Addr} {a0 a1 a2 a3 a4 it tl nm gp n1 x1 x2 x3 x4 x5 : Addr × Obj} (N : News h₀ L h [a0, a1, a2, a3, a4, it, tl, nm, gp, n1, x1, x2, x3, x4, x5]) : News h₀ L h [it, tl, a4, a0, a4, x1, x2, x3, x4, x5] := fun p hp => by
  simp only [List.mem_cons, List.not_mem_nil, or_false] at hp
  refine N p ?_
  simp only [List.mem_cons, List.not_mem_nil, or_false]
  rcases hp with h | h | h | h | h | h | h | h | h | h <;> simp [h]
theorem law_news' {h₀ h : Heap} {L : Addr} {a0 a1 a2 a3 a4 it tl nm gp n1 x1 x2 x3 x4 x5 : Addr × Obj} (N : News h₀ L h [a0, a1, a2, a3, a4, it, tl, nm, gp, n1, x1, x2, x3, x4, x5]) : News h₀ L h [it, tl, a4, a0, n1, x1, x2, x3, x4, x5] := fun p hp => by
  simp only [List.mem_cons, List.not_mem_nil, or_false] at hp
  refine N p ?_
  simp only [List.mem_cons, List.not_mem_nil, or_false]
  rcases hp with h | h | h | h | h | h | h | h | h | h <;> simp [h]
theorem LI.swap {B : Int} {gap : Int → Int} {bd : Int} {ln : Nat} {fs xs gs x1 x2 : List Int} (h : LI B gap bd ln fs 0 xs gs x1) : LI B gap bd ln fs 0 xs gs x2 :=
  ⟨h.fb, h.bd, h.len, h.pm, h.gs, fun z => absurd z (Nat.lt_irrefl _), h.prev⟩
theorem told_next {told : List Value} {a b c : Value} (h : told.head? = some a ∧ told.getLast? = some b) : (told ++ [c]).head? = some a ∧ (told ++ [c]).getLast? = some c := by
  refine ⟨?_, List.getLast?_concat⟩
  cases told with
  | nil => exact absurd h.1 (by simp)
  | cons x r => exact h.1
end
end
section
open PySem PySem.W PyProof.Rows PySem.Calls PySem.Spec
set_option Elab.async false
set_option maxRecDepth 100000
set_option maxHeartbeats 8000000
local macro_rules | `(tactic| walk_at "binaryOp Add int int") => `(tactic| (k_here; with_reducible refine half_split ?_ ?_ <;> intro hPar))
local macro_rules | `(tactic| walk_at "binaryOp Pow int int") => `(tactic| (k_here; with_reducible first | refine pow_641 ?_ | refine pow_642 ?_ | refine pow_40962 ?_))
local macro_rules | `(tactic| walk_at "binaryOp FloorDiv int int") => `(tactic| (k_here; with_reducible first | refine div_41 ?_ | refine div_42 ?_))
local macro_rules | `(tactic| walk_at "subscriptTail Name Slice ref ref") => `(tactic| (k_here; (with_reducible show wpAny _ _ (subscriptTail _ (PySem.Expr.Slice _ _ (some _) _) (Value.ref _) (Value.ref _)) _ _ _); k_dflt (refine' slice3_ints ?F ?N ?l ?p ?q ?k ?o ?i ?_ ?s ?t ?z; (case F => k_asm); (case N => k_asm); (case l => kmk_list); (case p => kmk_part); (case q => kmk_part); (case k => kmk_part); (case o => decide); (case i => l_ints); (case s => with_unfolding_all rfl); (case t => kmk_pure); (case z => ((rename List.length _ = List.length (List.take 24 _) => hz9); rw [hz9]; exact List.length_take_le _ _))); intro D' h' F' N' l1 hI9; (try k_lt l1); (try k_sweep)))
local macro_rules | `(tactic| walk_at "exec For") => `(tactic| (k_here; k_dflt (refine frest_start ?_)))
local macro_rules | `(tactic| walk_at "call ref") => `(tactic| (k_here; refine Halt.out ?_))
local macro_rules | `(tactic| walk_at "binaryOp Mult int int") => `(tactic| (k_here; with_reducible refine mul_pow2 ?hi9 ?_; (case hi9 => assumption)))
theorem even_len {fs : List Int} {p : Int → Bool} {n : Nat} (h : fs.length ≤ n) : (fs.filter p).length ≤ n := Nat.le_trans (List.length_filter_le _ _) h
local macro_rules | `(tactic| walk_at "call builtin:sorted") => `(tactic| (k_here; ksk_kw; (show wpAny _ _ (call (Value.builtin _) [Value.ref _] [(PySem.Str.ofString "reverse", Value.bool _)]) _ _ _); refine Halt.out ?_))
local macro_rules | `(tactic| walk_at "subscriptTail Name Constant ref int") => `(tactic| (k_here; refine Halt.out ?_))
local macro_rules | `(tactic| walk_at "subscriptTail Name UnaryOp ref int") => `(tactic| (k_here; refine Halt.out ?_))
theorem law_w : PySem.Challenge.rw_op0011_01.Holds := Mine.hd (by
  k_go0
  (all_goals try k_fold)
  k_steps
  · rename_i oT _ _ _ dT _ _ _ X0 D2 ws _ hDr _ _ lD _ oD dD hPar _ _ _ oB dB _ oC dC _ _ _ _ _ _ _ _ _ _ ys0 hN0 hNl D1 _ _ o1 _ _ _ _ hG0 hGl D0 _ _ o0 _ tl _ ltl _ F9 N9 _ _ _ _ _ hR F0 N0 kp
    refine ri_pyIter F0 N0 hR (by decide) ?_
    intro it hI0 F1 N1 lI
    k_lt lI
    clear F0 N0 F9 N9 kp hR X0
    (rename Below callerA _ [] _ => K0)
    (rename Shared => s1)
    replace K0 : Below callerA s1.heap [] s1.heap := K0
    (rename Top _ _ _ _ _ _ => TT)
    (rename Frag.In _ _ => KX)
    generalize hF : List.map (fun k' : Int => if k'.fdiv 64 - k'.fmod 64 < 0 then -(k'.fdiv 64 - k'.fmod 64) else k'.fdiv 64 - k'.fmod 64) _ = fs at hG0 hGl
    generalize hX : List.map (fun k' : Int => (100 + 1001 * k' + (numsOf (slicePick ws.toArray (some k') none (some 4)).toList).sum).fmod 4096) _ = xs0 at hN0 hNl hF
    refine frest_range3 (n := 7) (x₀ := 1) ("numbers" : Str) ("gaps" : Str) ("rests" : Str) (fun i u1 u2 u3 news => ∃ nm gp n1 told nv gv v1 xs gs x1 nt nn ng k1 oT c, u1 = some (Value.ref nm) ∧ u2 = some (Value.ref gp) ∧
        news = [(tl, listOf (List.toArray told) nt), (nm, listOf (List.toArray nv) nn), (gp, listOf (List.toArray gv) ng), (n1, listOf (List.toArray v1) k1), (D0, listOf ys.toArray ys.length), (s1.heap.objs.size + 1 + 1 + 1 + 1, oT), (s1.heap.objs.size + 1 + 1 + 1, oC), (s1.heap.objs.size + 1 + 1, oB), (s1.heap.objs.size + 1, oD)] ∧
        oT.data = Data.cell c ∧ IntsAre nv xs ∧ IntsAre gv gs ∧ IntsAre v1 x1 ∧ LI 64 gap1 4096 4 fs i xs gs x1 ∧ told.length = i ∧ (0 < i → told.head? = some (.ref n1) ∧ told.getLast? = some (.ref nm)) ∧
        (@Ne Nat tl nm ∧ @Ne Nat tl gp ∧ @Ne Nat tl n1 ∧ @Ne Nat tl D0 ∧ @Ne Nat (s1.heap.objs.size + 1 + 1 + 1 + 1) nm ∧ @Ne Nat (s1.heap.objs.size + 1 + 1 + 1 + 1) gp ∧ @Ne Nat (s1.heap.objs.size + 1 + 1 + 1 + 1) n1 ∧ @Ne Nat (s1.heap.objs.size + 1 + 1 + 1 + 1) D0) ∧ (@Ne Nat it nm ∧ @Ne Nat it gp ∧ @Ne Nat it n1)) rfl (by first | passes_own | with_unfolding_all passes_own) (fun _ => rfl) F1
        (news₀ := [(tl, listOf #[] 0), (D1, listOf ys0.toArray ys0.length), (D0, listOf ys.toArray ys.length), (D0, listOf ys.toArray ys.length), (D0, listOf ys.toArray ys.length), (s1.heap.objs.size + 1 + 1 + 1 + 1, oT), (s1.heap.objs.size + 1 + 1 + 1, oC), (s1.heap.objs.size + 1 + 1, oB), (s1.heap.objs.size + 1, oD)]) ?_ ?_ ?_ ?_ ?_
    · have e : riObj 1 (Builtin.Range.rangeSize 1 (6 * 1 + 2) 1) = riObj 1 ((7 : Nat) : Int) := congrArg (riObj 1) (by decide)
      rw [e] at N1
      intro p hp
      simp only [List.mem_cons, List.not_mem_nil, or_false] at hp
      rcases hp with rfl | rfl | rfl | rfl | rfl | rfl | rfl | rfl | rfl | rfl
      · exact N1 _ (.head _)
      · exact N1 _ (.tail _ (.head _))
      · exact N1 _ (.tail _ (.tail _ (.tail _ (.head _))))
      · exact N1 _ (.tail _ (.tail _ (.head _)))
      · exact N1 _ (.tail _ (.tail _ (.head _)))
      · exact N1 _ (.tail _ (.tail _ (.head _)))
      · exact N1 _ (.tail _ (.tail _ (.tail _ (.tail _ (.tail _ (.head _))))))
      · exact N1 _ (.tail _ (.tail _ (.tail _ (.tail _ (.tail _ (.tail _ (.head _)))))))
      · exact N1 _ (.tail _ (.tail _ (.tail _ (.tail _ (.tail _ (.tail _ (.tail _ (.head _))))))))
      · exact N1 _ (.tail _ (.tail _ (.tail _ (.tail _ (.tail _ (.tail _ (.tail _ (.tail _ (.head _)))))))))
    · rintro i u1 u2 u3 news ⟨nm, gp, n1, told, nv, gv, v1, xs, gs, x1, nt, nn, ng, k1, oT, c, -, -, rfl, -, -, -, -, -, -, -, -, e9, e10, e11⟩ p hp
      simp only [List.mem_cons, List.not_mem_nil, or_false] at hp
      rcases hp with rfl | rfl | rfl | rfl | rfl | rfl | rfl | rfl | rfl <;> (show @Ne Nat _ _; dsimp only; first | exact Ne.symm (by assumption) | omega)
    · refine ⟨D1, D0, D0, [], ys0, ys, ys, xs0, fs, fs, 0, _, _, _, _, _, rfl, rfl, rfl, dT, hN0, hG0, hG0, LI.init good1 rfl ?_ ?_ hF, rfl, (fun h => absurd h (Nat.lt_irrefl _)), ⟨?_, ?_, ?_, ?_, ?_, ?_, ?_, ?_⟩, ⟨?_, ?_, ?_⟩⟩
      · intro x hx
        rw [← hX] at hx
        obtain ⟨k, _, rfl⟩ := List.mem_map.mp hx
        exact fmod_bd (by decide)
      · rw [← hX, List.length_map, rangeKs_length]
        decide
      · exact Nat.ne_of_gt ltl.2.1
      · exact Nat.ne_of_gt ltl.1
      · exact Nat.ne_of_gt ltl.1
      · exact Nat.ne_of_gt ltl.1
      · exact o1.2.1
      · exact o0.2.2.1
      · exact o0.2.2.1
      · exact o0.2.2.1
      · exact Nat.ne_of_gt lI.2.2.1
      · exact Nat.ne_of_gt lI.2.1
      · exact Nat.ne_of_gt lI.2.1
    · intro i t h tk2 u1 u2 u3 news hi7 F N hI ih
      refine turn_abs fun RT hRT => ?_
      obtain ⟨nm, gp, n1, told, nv, gv, v1, xs, gs, x1, nt, nn, ng, k1, oT, c, rfl, rfl, rfl, dT, hnv, hgv, hv1, hLI, htl, htd, ⟨e1, e2, e3, e4, e5, e6, e7, e8⟩, ⟨e9, e10, e11⟩⟩ := hI
      clear F1 N1
      have h63 := hLI.bd
      have h64 := hLI.len
      have hg4 : gs.length ≤ 4 := by
        have := hLI.pm.length_eq
        simp only [List.length_map] at this
        omega
      have hgv4 : gv.length ≤ 4 := by rw [hgv.length]; exact hg4
      have hf4 : fs.length ≤ 4 := hLI.flen ▸ hg4
      have hys4 : ys.length ≤ 4 := by rw [hG0.length]; exact hf4
      k_steps
      (rename News _ _ _ _ => N2)
      (rename Fr _ _ _ _ => F2)
      refine ⟨round_use (round1 rfl hnv h63 h64) K0 F2 N2 KX TT rfl rfl (by decide) (by decide) (.tail _ (.tail _ (.head _))) ?_⟩
      intro r us nr zs h3 tk3 F3 N3 hne3 hus hzp hzs
      clear F2 N2
      have r1 : @Ne Nat it r := hne3 _ (.head _) e9
      have r2 : @Ne Nat tl r := hne3 _ (.tail _ (.head _)) e1
      have r3 : @Ne Nat (s1.heap.objs.size + 1 + 1 + 1 + 1) r := hne3 (s1.heap.objs.size + 1 + 1 + 1 + 1, _) (by k_mem) e5
      clear hne3
      have htl7 : told.length ≤ 7 := by omega
      have hi14 : i < 14 := by omega
      k_steps
      · (rename News _ _ _ _ => N4)
        (rename Fr _ _ _ _ => F4)
        (rename IntsAre _ _ => hgs4)
        rename_i D4 _ _ o4
        (rename Obj.data _ = Data.cell (some (Value.int (1 + (i : Int)) _)) => d4)
        rw [List.push_toArray] at N4
        rcases Nat.eq_zero_or_pos i with hi0 | hi0
        · subst hi0
          obtain rfl := List.length_eq_zero_iff.mp htl
          refine hRT _ ?_
          refine ih _ _ _ [(tl, _), (r, _), (D4, _), (r, _), (D0, _), (s1.heap.objs.size + 1 + 1 + 1 + 1, _), (s1.heap.objs.size + 1 + 1 + 1, oC), (s1.heap.objs.size + 1 + 1, oB), (s1.heap.objs.size + 1, oD)] (fun y h1 h2 h3 => ?_) F4 (law_news N4) ⟨r, D4, r, _, us, _, us, zs, _, zs, _, nr, _, nr, _, _, rfl, rfl, rfl, d4, hus, hgs4, hus, LI.step good1 hLI.swap hzp hzs (Or.inr rfl), by rfl, fun _ => ⟨rfl, rfl⟩, ⟨r2, o4.2.2.2.2.2.1, r2, e4, r3, o4.2.2.2.2.2.2.2.2.2.2.1, r3, e8⟩, ⟨r1, o4.2.2.2.2.1, r1⟩⟩
          simp only [if_neg h1, if_neg h2, if_neg h3]
        · refine hRT _ ?_
          refine ih _ _ _ [(tl, _), (r, _), (D4, _), (n1, _), (D0, _), (s1.heap.objs.size + 1 + 1 + 1 + 1, _), (s1.heap.objs.size + 1 + 1 + 1, oC), (s1.heap.objs.size + 1 + 1, oB), (s1.heap.objs.size + 1, oD)] (fun y h1 h2 h3 => ?_) F4 (law_news' N4) ⟨r, D4, n1, _, us, _, v1, zs, _, x1, _, nr, _, k1, _, _, rfl, rfl, rfl, d4, hus, hgs4, hv1, LI.step good1 hLI hzp hzs (Or.inl hi0), by rw [List.length_append, htl]; rfl, fun _ => told_next (htd hi0), ⟨r2, o4.2.2.2.2.2.1, e3, e4, r3, o4.2.2.2.2.2.2.2.2.2.2.1, e7, e8⟩, ⟨r1, o4.2.2.2.2.1, e11⟩⟩
          simp only [if_neg h1, if_neg h2, if_neg h3]
      · (rename ¬ zs = _ => hne)
        (rename List.Pairwise _ _ => hns)
        (rename List.Perm _ (List.map (fun k' : Int => (64 - 1) * k') gs) => hn)
        exact absurd (LI.eq hLI hzp hzs hn hns) hne
    · intro h tk2 u1 u2 u3 news F N hI
      obtain ⟨nm, gp, n1, told, nv, gv, v1, xs, gs, x1, nt, nn, ng, k1, oT, c, rfl, rfl, rfl, dT, hnv, hgv, hv1, hLI, htl, htd, ⟨e1, e2, e3, e4, e5, e6, e7, e8⟩, ⟨e9, e10, e11⟩⟩ := hI
      clear F1 N1
      have hf4 : fs.length ≤ 4 := hLI.flen ▸ (by
        have := hLI.pm.length_eq
        have := hLI.len
        simp only [List.length_map] at *
        omega)
      have hys4 : ys.length ≤ 4 := by rw [hG0.length]; exact hf4
      obtain ⟨q1, q2⟩ := htd (by decide)
      k_steps
      rotate_left 3
      (rename CarriedAll _ _ => hc9)
      (rename News _ _ _ _ => N9)
      (rename Fr _ _ _ _ => F9)
      (rename Heap.IsList _ _ _ => L9)
      refine ⟨ksk_rev F9 N9 L9 (IntsAre.ofCarried hc9) (Nat.lt_of_le_of_lt (even_len hf4) (by decide)) ?_⟩
      intro De evv ev ce he Fe Ne lDe hev hevl hevp hevs hb9
      clear hb9 F9 L9
      have hev4 : ev.length ≤ 4 := Nat.le_trans (Nat.le_of_eq hevl) (even_len hf4)
      clear hevl
      simp only [if_true] at hevs
      k_lt lDe
      clear N9
      repeat walk1
      (with_reducible rename IntsAre _ (List.map (fun k' : Int => (64 - 1) * k') ev) => hI1)
      (with_reducible rename IntsAre _ (List.map (fun k' : Int => (64 - 1) * (64 + 1 - k')) ev) => hI2)
      (rename News _ _ _ _ => N9)
      (rename Fr _ _ _ _ => F9)
      refine ⟨item_first N9 (.tail _ (.tail _ (.tail _ (.head _)))) q1 ?_ (by with_unfolding_all rfl)⟩
      iterate 4 walk1
      have hx4 : x1.length ≤ 4 := by
        have := (hLI.fst (by decide)).1.length_eq
        rw [List.length_map] at this
        rw [this]; exact hf4
      have hv14 : v1.length ≤ 24 := by rw [hv1.length]; exact Nat.le_trans hx4 (by decide)
      have hn4 : nv.length ≤ 24 := by rw [hnv.length]; exact Nat.le_trans hLI.len (by decide)
      k_dflt (refine' slice_copy (vs := v1) (n := k1) ?f9 ?n9 ?m9 hv14 ?_ ?s9)
      case f9 => exact F9
      case n9 => exact N9
      case m9 => exact .tail _ (.tail _ (.tail _ (.tail _ (.tail _ (.tail _ (.head _))))))
      case s9 => with_unfolding_all rfl
      intro Dx hx Fx Nx lx
      k_lt lx
      clear F9 N9
      repeat walk1
      refine ⟨item_last Nx (.tail _ (.tail _ (.tail _ (.tail _ (.head _))))) q2 ?_ (by with_unfolding_all rfl)⟩
      iterate 4 walk1
      k_dflt (refine' slice_copy (vs := nv) (n := nn) ?f9 ?n9 ?m9 hn4 ?_ ?s9)
      case f9 => exact Fx
      case n9 => exact Nx
      case m9 => exact .tail _ (.tail _ (.tail _ (.tail _ (.tail _ (.head _)))))
      case s9 => with_unfolding_all rfl
      intro Dy hy Fy Ny ly
      k_lt ly
      clear Fx Nx
      have hxy : @Ne Nat Dx Dy := Nat.ne_of_lt ly.1
      repeat walk1
      have hfin := LI.fin (i := 6) good1 hLI (by decide) key1 (even_pred hevp) hevs
      clear e1 e2 e3 e4 e5 e6 e7 e8 e9 e10 e11 o0 o1
      refine ⟨uld_use hv1 hnv hx4 (Nat.le_trans hLI.len (by decide)) hxy K0 Fy Ny KX TT rfl rfl (by decide) (by decide) (.tail _ (.head _)) (.head _) (.tail _ (.tail _ (.tail _ (.head _)))) (.tail _ (.tail _ (.head _)))
        (Nat.ne_of_lt lx.2.1) (Nat.ne_of_lt ly.2.2.1) (Nat.ne_of_lt lx.1) (Nat.ne_of_lt ly.2.1) hfin ?_⟩
      intro t9 r9 lr9 ts9 us9 nt9 nu9 h9 tk9 Fz Nz hts9 hus9
      clear Fy Ny lx ly ltl lI lD
      have ht9 : ts9.length ≤ 4 := by rw [hts9.length, List.length_map]; exact hev4
      have hu9 : us9.length ≤ 4 := by rw [hus9.length, List.length_map]; exact hev4
      iterate 7 walk1
      (rename News _ _ _ _ => N8)
      refine eq_pairs N8 hts9 hus9 hI1 hI2 (by exact Nat.le_of_ble_eq_true rfl) ?_
      clear N8
      k_unfold
      (try dsimp only)
      (k_end; wrow_close)
      · exact PySem.Str.ofString ""
      · exact (0 : Nat)
      · exact Value.none
  · rename_i oT _ _ _ dT _ _ _ X0 D2 ws _ hDr _ _ lD _ oD dD hPar _ _ _ oB dB _ oC dC _ _ _ _ _ _ _ _ _ _ ys0 hN0 hNl D1 _ _ o1 _ _ _ _ hG0 hGl D0 _ _ o0 _ tl _ ltl _ F9 N9 _ _ _ _ _ hR F0 N0 kp
    refine ri_pyIter F0 N0 hR (by decide) ?_
    intro it hI0 F1 N1 lI
    k_lt lI
    clear F0 N0 F9 N9 kp hR X0
    (rename Below callerA _ [] _ => K0)
    (rename Shared => s1)
    replace K0 : Below callerA s1.heap [] s1.heap := K0
    (rename Top _ _ _ _ _ _ => TT)
    (rename Frag.In _ _ => KX)
    generalize hF : List.map (fun k' : Int => if k'.fdiv 4096 - k'.fmod 4096 < 0 then -(k'.fdiv 4096 - k'.fmod 4096) else k'.fdiv 4096 - k'.fmod 4096) _ = fs at hG0 hGl
    generalize hX : List.map (fun k' : Int => (100 + 1001 * k' + (numsOf (slicePick ws.toArray (some k') none (some 2)).toList).sum).fmod 16777216) _ = xs0 at hN0 hNl hF
    refine frest_range3 (n := 13) (x₀ := 1) ("numbers" : Str) ("gaps" : Str) ("rests" : Str) (fun i u1 u2 u3 news => ∃ nm gp n1 told nv gv v1 xs gs x1 nt nn ng k1 oT c, u1 = some (Value.ref nm) ∧ u2 = some (Value.ref gp) ∧
        news = [(tl, listOf (List.toArray told) nt), (nm, listOf (List.toArray nv) nn), (gp, listOf (List.toArray gv) ng), (n1, listOf (List.toArray v1) k1), (D0, listOf ys.toArray ys.length), (s1.heap.objs.size + 1 + 1 + 1 + 1, oT), (s1.heap.objs.size + 1 + 1 + 1, oC), (s1.heap.objs.size + 1 + 1, oB), (s1.heap.objs.size + 1, oD)] ∧
        oT.data = Data.cell c ∧ IntsAre nv xs ∧ IntsAre gv gs ∧ IntsAre v1 x1 ∧ LI 4096 gap2 16777216 2 fs i xs gs x1 ∧ told.length = i ∧ (0 < i → told.head? = some (.ref n1) ∧ told.getLast? = some (.ref nm)) ∧
        (@Ne Nat tl nm ∧ @Ne Nat tl gp ∧ @Ne Nat tl n1 ∧ @Ne Nat tl D0 ∧ @Ne Nat (s1.heap.objs.size + 1 + 1 + 1 + 1) nm ∧ @Ne Nat (s1.heap.objs.size + 1 + 1 + 1 + 1) gp ∧ @Ne Nat (s1.heap.objs.size + 1 + 1 + 1 + 1) n1 ∧ @Ne Nat (s1.heap.objs.size + 1 + 1 + 1 + 1) D0) ∧ (@Ne Nat it nm ∧ @Ne Nat it gp ∧ @Ne Nat it n1)) rfl (by first | passes_own | with_unfolding_all passes_own) (fun _ => rfl) F1
        (news₀ := [(tl, listOf #[] 0), (D1, listOf ys0.toArray ys0.length), (D0, listOf ys.toArray ys.length), (D0, listOf ys.toArray ys.length), (D0, listOf ys.toArray ys.length), (s1.heap.objs.size + 1 + 1 + 1 + 1, oT), (s1.heap.objs.size + 1 + 1 + 1, oC), (s1.heap.objs.size + 1 + 1, oB), (s1.heap.objs.size + 1, oD)]) ?_ ?_ ?_ ?_ ?_
    · have e : riObj 1 (Builtin.Range.rangeSize 1 (6 * 2 + 2) 1) = riObj 1 ((13 : Nat) : Int) := congrArg (riObj 1) (by decide)
      rw [e] at N1
      intro p hp
      simp only [List.mem_cons, List.not_mem_nil, or_false] at hp
      rcases hp with rfl | rfl | rfl | rfl | rfl | rfl | rfl | rfl | rfl | rfl
      · exact N1 _ (.head _)
      · exact N1 _ (.tail _ (.head _))
      · exact N1 _ (.tail _ (.tail _ (.tail _ (.head _))))
      · exact N1 _ (.tail _ (.tail _ (.head _)))
      · exact N1 _ (.tail _ (.tail _ (.head _)))
      · exact N1 _ (.tail _ (.tail _ (.head _)))
      · exact N1 _ (.tail _ (.tail _ (.tail _ (.tail _ (.tail _ (.head _))))))
      · exact N1 _ (.tail _ (.tail _ (.tail _ (.tail _ (.tail _ (.tail _ (.head _)))))))
      · exact N1 _ (.tail _ (.tail _ (.tail _ (.tail _ (.tail _ (.tail _ (.tail _ (.head _))))))))
      · exact N1 _ (.tail _ (.tail _ (.tail _ (.tail _ (.tail _ (.tail _ (.tail _ (.tail _ (.head _)))))))))
    · rintro i u1 u2 u3 news ⟨nm, gp, n1, told, nv, gv, v1, xs, gs, x1, nt, nn, ng, k1, oT, c, -, -, rfl, -, -, -, -, -, -, -, -, e9, e10, e11⟩ p hp
      simp only [List.mem_cons, List.not_mem_nil, or_false] at hp
      rcases hp with rfl | rfl | rfl | rfl | rfl | rfl | rfl | rfl | rfl <;> (show @Ne Nat _ _; dsimp only; first | exact Ne.symm (by assumption) | omega)
    · refine ⟨D1, D0, D0, [], ys0, ys, ys, xs0, fs, fs, 0, _, _, _, _, _, rfl, rfl, rfl, dT, hN0, hG0, hG0, LI.init good2 rfl ?_ ?_ hF, rfl, (fun h => absurd h (Nat.lt_irrefl _)), ⟨?_, ?_, ?_, ?_, ?_, ?_, ?_, ?_⟩, ⟨?_, ?_, ?_⟩⟩
      · intro x hx
        rw [← hX] at hx
        obtain ⟨k, _, rfl⟩ := List.mem_map.mp hx
        exact fmod_bd (by decide)
      · rw [← hX, List.length_map, rangeKs_length]
        decide
      · exact Nat.ne_of_gt ltl.2.1
      · exact Nat.ne_of_gt ltl.1
      · exact Nat.ne_of_gt ltl.1
      · exact Nat.ne_of_gt ltl.1
      · exact o1.2.1
      · exact o0.2.2.1
      · exact o0.2.2.1
      · exact o0.2.2.1
      · exact Nat.ne_of_gt lI.2.2.1
      · exact Nat.ne_of_gt lI.2.1
      · exact Nat.ne_of_gt lI.2.1
    · intro i t h tk2 u1 u2 u3 news hi7 F N hI ih
      refine turn_abs fun RT hRT => ?_
      obtain ⟨nm, gp, n1, told, nv, gv, v1, xs, gs, x1, nt, nn, ng, k1, oT, c, rfl, rfl, rfl, dT, hnv, hgv, hv1, hLI, htl, htd, ⟨e1, e2, e3, e4, e5, e6, e7, e8⟩, ⟨e9, e10, e11⟩⟩ := hI
      clear F1 N1
      have h63 := hLI.bd
      have h64 := hLI.len
      have hg4 : gs.length ≤ 4 := by
        have := hLI.pm.length_eq
        simp only [List.length_map] at this
        omega
      have hgv4 : gv.length ≤ 4 := by rw [hgv.length]; exact hg4
      have hf4 : fs.length ≤ 4 := hLI.flen ▸ hg4
      have hys4 : ys.length ≤ 4 := by rw [hG0.length]; exact hf4
      k_steps
      (rename News _ _ _ _ => N2)
      (rename Fr _ _ _ _ => F2)
      refine ⟨round_use (round2 rfl hnv h63 h64) K0 F2 N2 KX TT rfl rfl (by decide) (by decide) (.tail _ (.tail _ (.head _))) ?_⟩
      intro r us nr zs h3 tk3 F3 N3 hne3 hus hzp hzs
      clear F2 N2
      have r1 : @Ne Nat it r := hne3 _ (.head _) e9
      have r2 : @Ne Nat tl r := hne3 _ (.tail _ (.head _)) e1
      have r3 : @Ne Nat (s1.heap.objs.size + 1 + 1 + 1 + 1) r := hne3 (s1.heap.objs.size + 1 + 1 + 1 + 1, _) (by k_mem) e5
      clear hne3
      have htl7 : told.length ≤ 13 := by omega
      have hi14 : i < 14 := by omega
      k_steps
      · (rename News _ _ _ _ => N4)
        (rename Fr _ _ _ _ => F4)
        (rename IntsAre _ _ => hgs4)
        rename_i D4 _ _ o4
        (rename Obj.data _ = Data.cell (some (Value.int (1 + (i : Int)) _)) => d4)
        rw [List.push_toArray] at N4
        rcases Nat.eq_zero_or_pos i with hi0 | hi0
        · subst hi0
          obtain rfl := List.length_eq_zero_iff.mp htl
          refine hRT _ ?_
          refine ih _ _ _ [(tl, _), (r, _), (D4, _), (r, _), (D0, _), (s1.heap.objs.size + 1 + 1 + 1 + 1, _), (s1.heap.objs.size + 1 + 1 + 1, oC), (s1.heap.objs.size + 1 + 1, oB), (s1.heap.objs.size + 1, oD)] (fun y h1 h2 h3 => ?_) F4 (law_news N4) ⟨r, D4, r, _, us, _, us, zs, _, zs, _, nr, _, nr, _, _, rfl, rfl, rfl, d4, hus, hgs4, hus, LI.step good2 hLI.swap hzp hzs (Or.inr rfl), by rfl, fun _ => ⟨rfl, rfl⟩, ⟨r2, o4.2.2.2.2.2.1, r2, e4, r3, o4.2.2.2.2.2.2.2.2.2.2.1, r3, e8⟩, ⟨r1, o4.2.2.2.2.1, r1⟩⟩
          simp only [if_neg h1, if_neg h2, if_neg h3]
        · refine hRT _ ?_
          refine ih _ _ _ [(tl, _), (r, _), (D4, _), (n1, _), (D0, _), (s1.heap.objs.size + 1 + 1 + 1 + 1, _), (s1.heap.objs.size + 1 + 1 + 1, oC), (s1.heap.objs.size + 1 + 1, oB), (s1.heap.objs.size + 1, oD)] (fun y h1 h2 h3 => ?_) F4 (law_news' N4) ⟨r, D4, n1, _, us, _, v1, zs, _, x1, _, nr, _, k1, _, _, rfl, rfl, rfl, d4, hus, hgs4, hv1, LI.step good2 hLI hzp hzs (Or.inl hi0), by rw [List.length_append, htl]; rfl, fun _ => told_next (htd hi0), ⟨r2, o4.2.2.2.2.2.1, e3, e4, r3, o4.2.2.2.2.2.2.2.2.2.2.1, e7, e8⟩, ⟨r1, o4.2.2.2.2.1, e11⟩⟩
          simp only [if_neg h1, if_neg h2, if_neg h3]
      · (rename ¬ zs = _ => hne)
        (rename List.Pairwise _ _ => hns)
        (rename List.Perm _ (List.map (fun k' : Int => (4096 - 1) * k') gs) => hn)
        exact absurd (LI.eq hLI hzp hzs hn hns) hne
    · intro h tk2 u1 u2 u3 news F N hI
      obtain ⟨nm, gp, n1, told, nv, gv, v1, xs, gs, x1, nt, nn, ng, k1, oT, c, rfl, rfl, rfl, dT, hnv, hgv, hv1, hLI, htl, htd, ⟨e1, e2, e3, e4, e5, e6, e7, e8⟩, ⟨e9, e10, e11⟩⟩ := hI
      clear F1 N1
      have hf4 : fs.length ≤ 4 := hLI.flen ▸ (by
        have := hLI.pm.length_eq
        have := hLI.len
        simp only [List.length_map] at *
        omega)
      have hys4 : ys.length ≤ 4 := by rw [hG0.length]; exact hf4
      obtain ⟨q1, q2⟩ := htd (by decide)
      k_steps
      rotate_left 3
      (rename CarriedAll _ _ => hc9)
      (rename News _ _ _ _ => N9)
      (rename Fr _ _ _ _ => F9)
      (rename Heap.IsList _ _ _ => L9)
      refine ⟨ksk_rev F9 N9 L9 (IntsAre.ofCarried hc9) (Nat.lt_of_le_of_lt (even_len hf4) (by decide)) ?_⟩
      intro De evv ev ce he Fe Ne lDe hev hevl hevp hevs hb9
      clear hb9 F9 L9
      have hev4 : ev.length ≤ 4 := Nat.le_trans (Nat.le_of_eq hevl) (even_len hf4)
      clear hevl
      simp only [if_true] at hevs
      k_lt lDe
      clear N9
      repeat walk1
      (with_reducible rename IntsAre _ (List.map (fun k' : Int => (4096 - 1) * k') ev) => hI1)
      (with_reducible rename IntsAre _ (List.map (fun k' : Int => (4096 - 1) * (4096 + 1 - k')) ev) => hI2)
      (rename News _ _ _ _ => N9)
      (rename Fr _ _ _ _ => F9)
      refine ⟨item_first N9 (.tail _ (.tail _ (.tail _ (.head _)))) q1 ?_ (by with_unfolding_all rfl)⟩
      iterate 4 walk1
      have hx4 : x1.length ≤ 4 := by
        have := (hLI.fst (by decide)).1.length_eq
        rw [List.length_map] at this
        rw [this]; exact hf4
      have hv14 : v1.length ≤ 24 := by rw [hv1.length]; exact Nat.le_trans hx4 (by decide)
      have hn4 : nv.length ≤ 24 := by rw [hnv.length]; exact Nat.le_trans hLI.len (by decide)
      k_dflt (refine' slice_copy (vs := v1) (n := k1) ?f9 ?n9 ?m9 hv14 ?_ ?s9)
      case f9 => exact F9
      case n9 => exact N9
      case m9 => exact .tail _ (.tail _ (.tail _ (.tail _ (.tail _ (.tail _ (.head _))))))
      case s9 => with_unfolding_all rfl
      intro Dx hx Fx Nx lx
      k_lt lx
      clear F9 N9
      repeat walk1
      refine ⟨item_last Nx (.tail _ (.tail _ (.tail _ (.tail _ (.head _))))) q2 ?_ (by with_unfolding_all rfl)⟩
      iterate 4 walk1
      k_dflt (refine' slice_copy (vs := nv) (n := nn) ?f9 ?n9 ?m9 hn4 ?_ ?s9)
      case f9 => exact Fx
      case n9 => exact Nx
      case m9 => exact .tail _ (.tail _ (.tail _ (.tail _ (.tail _ (.head _)))))
      case s9 => with_unfolding_all rfl
      intro Dy hy Fy Ny ly
      k_lt ly
      clear Fx Nx
      have hxy : @Ne Nat Dx Dy := Nat.ne_of_lt ly.1
      repeat walk1
      have hfin := LI.fin (i := 12) good2 hLI (by decide) key2 (even_pred hevp) hevs
      clear e1 e2 e3 e4 e5 e6 e7 e8 e9 e10 e11 o0 o1
      refine ⟨uld_use hv1 hnv hx4 (Nat.le_trans hLI.len (by decide)) hxy K0 Fy Ny KX TT rfl rfl (by decide) (by decide) (.tail _ (.head _)) (.head _) (.tail _ (.tail _ (.tail _ (.head _)))) (.tail _ (.tail _ (.head _)))
        (Nat.ne_of_lt lx.2.1) (Nat.ne_of_lt ly.2.2.1) (Nat.ne_of_lt lx.1) (Nat.ne_of_lt ly.2.1) hfin ?_⟩
      intro t9 r9 lr9 ts9 us9 nt9 nu9 h9 tk9 Fz Nz hts9 hus9
      clear Fy Ny lx ly ltl lI lD
      have ht9 : ts9.length ≤ 4 := by rw [hts9.length, List.length_map]; exact hev4
      have hu9 : us9.length ≤ 4 := by rw [hus9.length, List.length_map]; exact hev4
      iterate 7 walk1
      (rename News _ _ _ _ => N8)
      refine eq_pairs N8 hts9 hus9 hI1 hI2 (by exact Nat.le_of_ble_eq_true rfl) ?_
      clear N8
      k_unfold
      (try dsimp only)
      (k_end; wrow_close)
      · exact PySem.Str.ofString ""
      · exact (0 : Nat)
      · exact Value.none)
end
end
end Mine
theorem PySem.Challenge.cw_op0011_01_holds : PySem.Challenge.rw_op0011_01.Holds :=
  Mine.law_w
