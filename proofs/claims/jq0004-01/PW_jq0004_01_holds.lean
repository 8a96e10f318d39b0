import PyProof.Rows.All
import Wide.All
import OpenK.AllK
import Wide.FinOn
import KE.KTryDeep
import Wide.BytesRules
import KE.BytesMulAny
import PySem.Challenge.RW_jq0004_01
set_option Elab.async false
set_option rowWalk.seconds 3000
set_option maxHeartbeats 4000000
open PySem PySem.W PyProof.Rows
namespace Mine
set_option maxRecDepth 100000 in
set_option maxHeartbeats 8000000 in
open_top hd for PySem.Challenge.rw_jq0004_01
end Mine
theorem Mine.top_off : True := by
  w_top off
  trivial
local macro_rules | `(tactic| walk_at $s:str) => `(tactic| k_extra $s)
open PySem PySem.W PyProof.Rows PySem.Calls PySem.Spec
namespace Mine
set_option maxRecDepth 100000

abbrev aTop (dp un : Nat) (gd : Option (List Code)) (l : List Env) : Around := { handled := none, depth := dp, frames := some l, guards := gd, units := un }

def Led (g h : Heap) (n : List (Addr × Obj)) : Prop := ∀ q ∈ n, h.get? q.1 = some q.2 ∧ g.get? q.1 = none

theorem Led.nil {g h : Heap} : Led g h [] := fun _ hq => nomatch hq
theorem Led.of_news {g h : Heap} {L : Addr} {n : List (Addr × Obj)} (N : News g L h n) : Led g h n := fun q hq => ⟨(N q hq).1, (N q hq).2.2⟩
theorem Led.sub {g h : Heap} {n n' : List (Addr × Obj)} (N : Led g h n) (hs : ∀ q ∈ n', q ∈ n) : Led g h n' := fun q hq => N q (hs q hq)

section
variable {prog : Program} {w : World} {A : Around} {s : Shared} {base g : Heap} {l : List Env} {K : Frag} {R : Result → Shared → Prop} {name qual : Str} {params : Arguments} {body : List Stmt} {scope : Scope}
  {dV kV doc pm cdv ct oc : Value} {an od : Option Addr} {osl : Array (Option Value)} {f : Addr} {args : Args} {binds : List (Str × Value)} {p : Program} {loose : List Str} {mean : ExcName → Option Value} {mg mb : Str → Option Value} {n : List (Addr × Obj)}

theorem news_in {g h h₁ : Heap} {n : List (Addr × Obj)} (N : Led g h n) (k : ∀ b o, h.get? b = some o → h₁.get? b = some o) : News g h.objs.size h₁ n :=
  fun q hq => ⟨k _ _ (N q hq).1, Nat.ne_of_lt (Heap.lt_size (N q hq).1), (N q hq).2⟩

/-- a def of the text is entered from any state that bears the base -/
theorem enter_def (hg : g.StaysIn s.heap) (hsz : g.objs.size ≤ s.heap.objs.size) (N : Led g s.heap n) (X : K.In g) (T : Top p loose mean mg mb g)
    (ho : K.lookup f = some ⟨oc, od, .func (fnOf name qual params body scope dV kV doc pm an cdv ct), osl⟩) (hcd : codeIn K cdv qual = true) (hroom : A.depth < recursionLimit)
    (hbind : BindsTo s (fnOf name qual params body scope dV kV doc pm an cdv ct) args binds) (hloc : ∀ y ∈ binds, scope.names.lookup y.1 = some .local)
    (h : ∀ L' h₁, Fr g L' h₁ (fun y => binds.reverse.lookup y) → News g L' h₁ n → (∀ q ∈ n, q.1 < L') →
      wpAny (model prog w) (A.deeper (envOf qual scope L' f cdv)) (execs body (envOf qual scope L' f cdv))
        (fun fl s' => R (.ok (.ret (match fl with | .ret v => v | _ => .none))) s')
        (fun e s' => wpAny (model prog w) (A.deeper (envOf qual scope L' f cdv)) (leaving (envOf qual scope L' f cdv) e) (fun _ s'' => R (.error e) s'') (fun e' s'' => R (.error e') s'') s')
        { s with heap := h₁, toks := s.toks + binds.length })
    (hco : scope.isCoroutine = false) (hgen : scope.isGenerator = false) (hk : scope.kind = .function)
    (hcell : ∀ x ∈ scope.names, x.2 ≠ .cell) : codeAny (model prog w) A (.call (.ref f) args) R s := by
  have hKs := X.keeps hg
  refine codeAny_call_def (fd := fnOf name qual params body scope dV kV doc pm an cdv ct) (body := body) (binds := binds) hroom (hKs _ _ ho) rfl (T.nolimit.keeps hg) (codeRec_of hKs hcd) rfl hbind hcell hloc (fun h₁ hns hk₁ => ?_) hco hgen hk
  exact h s.heap.objs.size h₁ ⟨hns, fun b o e => hk₁ b o (hg b o e), hsz⟩ (news_in N hk₁) fun q hq => Heap.lt_size (N q hq).1

/-- the same where the def has cells -/
theorem enter_defC (hg : g.StaysIn s.heap) (hsz : g.objs.size ≤ s.heap.objs.size) (N : Led g s.heap n) (X : K.In g) (T : Top p loose mean mg mb g)
    (ho : K.lookup f = some ⟨oc, od, .func (fnOf name qual params body scope dV kV doc pm an cdv ct), osl⟩) (hcd : codeIn K cdv qual = true) (hroom : A.depth < recursionLimit)
    (hbind : BindsTo s (fnOf name qual params body scope dV kV doc pm an cdv ct) args binds) (hkind : (binds.all fun y => scope.names.lookup y.1 == some .local || scope.names.lookup y.1 == some .cell) = true)
    (hnd : ((cellsFrom 0 scope.names []).map (·.1)).Nodup)
    (h : ∀ L' h₁ tk cells, Fr g L' h₁ (bindL (envOfC qual scope L' f cdv).kindOf binds fun _ => none) → News g L' h₁ (cells ++ n) →
      CellsAre (bindC (envOfC qual scope L' f cdv).kindOf binds fun _ => none) (cellsFrom (L' + 1) scope.names []) cells → (∀ q ∈ n, q.1 < L') →
      wpAny (model prog w) (A.deeper (envOfC qual scope L' f cdv)) (execs body (envOfC qual scope L' f cdv))
        (fun fl s' => R (.ok (.ret (match fl with | .ret v => v | _ => .none))) s')
        (fun e s' => wpAny (model prog w) (A.deeper (envOfC qual scope L' f cdv)) (leaving (envOfC qual scope L' f cdv) e) (fun _ s'' => R (.error e) s'') (fun e' s'' => R (.error e') s'') s')
        { s with heap := h₁, toks := tk })
    (hco : scope.isCoroutine = false) (hgen : scope.isGenerator = false) (hk : scope.kind = .function) : codeAny (model prog w) A (.call (.ref f) args) R s := by
  have hKs := X.keeps hg
  refine codeAny_call_function hroom (hKs _ _ ho) rfl hco hgen rfl (codeRec_of hKs hcd) (hbind _ _ _ _ ?_)
  refine wpAny_newFunctionEnv_cells hk (kindsX hkind _) fun env' he s' x => ?_
  subst he
  have hk₁ := x.toInCall.keep
  refine ⟨(T.nolimit.keeps hg).keeps hk₁, codeAny_func ?_⟩
  obtain ⟨h₁, tk, rfl, _⟩ := x.done
  obtain ⟨cells, NC, Y⟩ := Cl.news (h₀ := s.heap) (Nat.le_refl _) fun n c hm => ⟨x.cell n c (lookup_of_mem_nodup (cellsFrom_names scope.names 0 (s.heap.objs.size + 1) [] [] rfl ▸ hnd) hm), x.above n c hm⟩
  refine h s.heap.objs.size h₁ tk cells ⟨x.toInCall.ns, fun b o e => hk₁ b o (hg b o e), hsz⟩ (fun q hq => ?_) Y fun q hq => Heap.lt_size (N q hq).1
  rcases List.mem_append.mp hq with hq | hq
  · refine ⟨(NC q hq).1, (NC q hq).2.1, ?_⟩
    cases e : g.get? q.1 with
    | none => rfl
    | some o => have := hg _ _ e; rw [(NC q hq).2.2] at this; cases this
  · exact news_in N hk₁ q hq

/-- a def that the call itself has made (it stands on the ledger) -/
theorem enter_nest {cl : List (Str × Addr)} {ctv : Value} {c' : Addr} (hg : g.StaysIn s.heap) (hsz : g.objs.size ≤ s.heap.objs.size) (N : Led g s.heap n) (T : Top p loose mean mg mb g)
    (ho : (f, fnMade name qual params body scope cl doc pm c' ctv) ∈ n) (hcd : s.heap.CodeRec (.ref c') qual) (hroom : A.depth < recursionLimit)
    (hbind : BindsTo s (fnX name qual params body scope cl .none .none doc pm none (.ref c') ctv) args binds) (hloc : ∀ y ∈ binds, scope.names.lookup y.1 = some .local)
    (h : ∀ L' h₁, Fr g L' h₁ (fun y => binds.reverse.lookup y) → News g L' h₁ n → (∀ q ∈ n, q.1 < L') →
      wpAny (model prog w) (A.deeper (envX qual scope L' f (.ref c') cl)) (execs body (envX qual scope L' f (.ref c') cl))
        (fun fl s' => R (.ok (.ret (match fl with | .ret v => v | _ => .none))) s')
        (fun e s' => wpAny (model prog w) (A.deeper (envX qual scope L' f (.ref c') cl)) (leaving (envX qual scope L' f (.ref c') cl) e) (fun _ s'' => R (.error e) s'') (fun e' s'' => R (.error e') s'') s')
        { s with heap := h₁, toks := s.toks + binds.length })
    (hco : scope.isCoroutine = false) (hgen : scope.isGenerator = false) (hk : scope.kind = .function)
    (hcell : ∀ x ∈ scope.names, x.2 ≠ .cell) : codeAny (model prog w) A (.call (.ref f) args) R s := by
  refine codeAny_call_def (fd := fnX name qual params body scope cl .none .none doc pm none (.ref c') ctv) (body := body) (binds := binds) hroom (N _ ho).1 rfl (T.nolimit.keeps hg) hcd rfl hbind hcell hloc (fun h₁ hns hk₁ => ?_) hco hgen hk
  exact h s.heap.objs.size h₁ ⟨hns, fun b o e => hk₁ b o (hg b o e), hsz⟩ (news_in N hk₁) fun q hq => Heap.lt_size (N q hq).1
end

/-- what a raise hands up: the exception flies over the frames l; what stood in G and is no frame stands; the ledger n stands -/
def Flies (base G : Heap) (l : List Env) (cls : Value) (n : List (Addr × Obj)) (e : Value) (h : Heap) : Prop :=
  ∃ ea t vs, e = .ref ea ∧ RaisedS base G l ea cls t vs n h ∧ G.UpToSlots h

theorem raisedS_sub {base G h : Heap} {l : List Env} {e t : Addr} {cls : Value} {vs : List Value} {n n' : List (Addr × Obj)} (R : RaisedS base G l e cls t vs n h) (hs : ∀ q ∈ n', q ∈ n) : RaisedS base G l e cls t vs n' h := by
  obtain ⟨⟨B, h1, h2, h3, h4⟩, h5⟩ := R
  exact ⟨⟨B, h1, h2, fun q hq => h3 q (hs q hq), h4⟩, h5⟩
theorem Flies.sub {base G h : Heap} {l : List Env} {cls e : Value} {n n' : List (Addr × Obj)} (x : Flies base G l cls n e h) (hs : ∀ q ∈ n', q ∈ n) : Flies base G l cls n' e h := by
  obtain ⟨ea, t, vs, h1, h2, h3⟩ := x
  exact ⟨ea, t, vs, h1, raisedS_sub h2 hs, h3⟩

section
variable {M : Model} {A : Around} {E : Value → Shared → Prop} {s' : Shared} {base g g₂ h : Heap} {outer : List Env} {L : Addr} {m : Str → Option Value} {env : Env} {Q : Unit → Shared → Prop} {n n' : List (Addr × Obj)} {cls e : Value}

theorem frames_of {env : Env} {l : List Env} {b : Addr} (hm : b ∈ (env :: l).filterMap (·.frame)) : env.frame = some b ∨ b ∈ l.filterMap (·.frame) := by
  obtain ⟨v, hv, hf⟩ := List.mem_filterMap.mp hm
  cases hv with
  | head => exact .inl hf
  | tail _ hv => exact .inr (List.mem_filterMap.mpr ⟨v, hv, hf⟩)

/-- a raise made here leaves the frame -/
theorem leave_made {ea : Addr} {vs : List Value} (B : Below A base outer g) (hx : Heap.MadeExcOf h s'.heap ea cls vs) (F : Fr g L h m) (N : News g L h n) (hs : ∀ q ∈ n', q ∈ n)
    (hf : env.frame = some L) (hk : env.scope.kind = .function)
    (hQ : ∀ h', Flies base g outer cls n' (.ref ea) h' → Q () { s' with heap := h' }) :
    wpAny M (A.deeper env) (leaving env (.ref ea)) Q E s' := by
  have B₁ := pushX B F hf hk
  let fs := (env :: outer).filterMap (·.frame)
  have self : g.get? L = none := kts_self F
  have apart : ∀ q ∈ n, q.1 ∉ fs := fun q hq hm => by
    rcases frames_of hm with z | z
    · rw [hf] at z; exact (N q hq).2.1 (Option.some.inj z).symm
    · obtain ⟨_, o, ho, _⟩ := B.frames.mem z
      rw [(N q hq).2.2] at ho; cases ho
  refine wpAny_leaves_madeW (base := hideAll h fs) B₁.stack hf (fun b o q => of_hideAll _ q) (funFrames_hide B₁.frames fun v hv b hb => List.mem_filterMap.mpr ⟨v, hv, hb⟩) hx fun h' t x1 x2 x3 x4 => ?_
  refine hQ h' ⟨ea, t, vs, rfl, ⟨⟨hideAll h fs, fun b o q => ?_, fun b o q nm => ?_, fun q hq => ?_, x1, x3⟩, x2⟩, ((Heap.UpToSlots.of_keeps F.keep).trans (Heap.UpToSlots.of_keeps hx.keeps)).trans x4⟩
  · refine hideAll_get _ (B₁.stays b o q) fun hm => ?_
    rw [(B₁.frames.mem hm).1] at q; cases q
  · refine hideAll_get _ (F.keep b o q) fun hm => ?_
    rcases frames_of hm with z | z
    · rw [hf] at z; rw [← Option.some.inj z, self] at q; cases q
    · exact nm z
  · exact ⟨hideAll_get _ (N q (hs q hq)).1 (apart q (hs q hq)), (N q (hs q hq)).2.2, fresh_of_stays B.stays (N q (hs q hq)).2.2⟩

/-- a raise from below goes on through the frame -/
theorem leave_on (B : Below A base outer g) (F : Fr g L g₂ m) (x : Flies base g₂ (env :: outer) cls n e s'.heap) (hs : ∀ q ∈ n', q ∈ n) (hf : env.frame = some L)
    (hQ : ∀ h', Flies base g outer cls n' e h' → Q () { s' with heap := h' }) :
    wpAny M (A.deeper env) (leaving env e) Q E s' := by
  obtain ⟨ea, t, vs, rfl, ⟨⟨W, h1, h2, h3, h4, h5⟩, h6⟩, h7⟩ := x
  have self : g.get? L = none := kts_self F
  refine wpAny_leaves_onW (Around.frames_deeper B.stack) hf h4 fun h' x1 x2 => ?_
  refine hQ h' ⟨ea, t, vs, rfl, ⟨⟨W, h1, fun b o q nm => h2 b o (F.keep b o q) fun hm => ?_, fun q hq => ?_, x1, h5⟩, h6.of_slots x2⟩, (Heap.UpToSlots.of_keeps F.keep).trans (h7.trans x2)⟩
  · rcases frames_of hm with z | z
    · rw [hf] at z; rw [← Option.some.inj z, self] at q; cases q
    · exact nm z
  · have y := h3 q (hs q hq)
    exact ⟨y.1, kts_none F.keep y.2.1, y.2.2⟩
/-- a raise from below goes on through the frame; what the frame's ledger held beside stands -/
theorem leave_on2 {rest : List (Addr × Obj)} (B : Below A base outer g) (F : Fr g L g₂ m) (x : Flies base g₂ (env :: outer) cls n e s'.heap) (hr : ∀ q ∈ rest, g₂.get? q.1 = some q.2 ∧ g.get? q.1 = none ∧ q.1 ≠ L) (hf : env.frame = some L)
    (hQ : ∀ h', Flies base g outer cls (n ++ rest) e h' → Q () { s' with heap := h' }) :
    wpAny M (A.deeper env) (leaving env e) Q E s' := by
  obtain ⟨ea, t, vs, rfl, ⟨⟨W, h1, h2, h3, h4, h5⟩, h6⟩, h7⟩ := x
  have self : g.get? L = none := kts_self F
  refine wpAny_leaves_onW (Around.frames_deeper B.stack) hf h4 fun h' x1 x2 => ?_
  refine hQ h' ⟨ea, t, vs, rfl, ⟨⟨W, h1, fun b o q nm => h2 b o (F.keep b o q) fun hm => ?_, fun q hq => ?_, x1, h5⟩, h6.of_slots x2⟩, (Heap.UpToSlots.of_keeps F.keep).trans (h7.trans x2)⟩
  · rcases frames_of hm with z | z
    · rw [hf] at z; rw [← Option.some.inj z, self] at q; cases q
    · exact nm z
  · rcases List.mem_append.mp hq with hq | hq
    · have y := h3 q hq
      exact ⟨y.1, kts_none F.keep y.2.1, y.2.2⟩
    · obtain ⟨r1, r2, r3⟩ := hr q hq
      refine ⟨h2 _ _ r1 fun hm => ?_, r2, fresh_of_stays B.stays r2⟩
      rcases frames_of hm with z | z
      · rw [hf] at z; exact r3 (Option.some.inj z).symm
      · obtain ⟨_, o, ho, _⟩ := B.frames.mem z
        rw [r2] at ho; cases ho
end

/-- a CONTRACT: what a call does from any state above the base. n: the ledger at the start; ret: what comes back with which ledger; exc: when it raises -/
def Spec (prog : Program) (w : World) (A : Around) (base : Heap) (l : List Env) (f : Value) (args : List Value) (n : List (Addr × Obj)) (ret : Value → List (Addr × Obj) → Prop) (cls : Value) (exc : List (Addr × Obj) → Prop) : Prop :=
  ∀ (g : Heap) (s : Shared) (Q E : Value → Shared → Prop), Below A base l g → g.StaysIn s.heap → g.objs.size ≤ s.heap.objs.size → Led g s.heap n →
    (∀ v h' tk n', ret v n' → g.StaysIn h' → Led g h' n' → Q v { s with heap := h', toks := tk }) →
    (∀ e h' tk n', exc n' → Flies base g l cls n' e h' → E e { s with heap := h', toks := tk }) →
    wpAny (model prog w) A (call f args) Q E s

theorem Spec.use {prog : Program} {w : World} {A₀ : Around} {base h₀ : Heap} {outer : List Env} {env : Env} {f : Value} {args : List Value} {n : List (Addr × Obj)} {ret : Value → List (Addr × Obj) → Prop} {cls : Value} {exc : List (Addr × Obj) → Prop}
    {s : Shared} {L : Addr} {m : Str → Option Value} {news : List (Addr × Obj)} {Q E : Value → Shared → Prop} (S : Spec prog w (A₀.deeper env) base (env :: outer) f args n ret cls exc)
    (B : Below A₀ base outer h₀) (F : Fr h₀ L s.heap m) (N : News h₀ L s.heap news) (rest : List (Addr × Obj)) (hn : ∀ q ∈ n, q ∈ news) (hr : ∀ q ∈ rest, q ∈ news) (hd : ∀ q ∈ rest, ∀ r ∈ n, q.1 ≠ r.1)
    (hf : env.frame = some L) (hk : env.scope.kind = .function)
    (hQ : ∀ v h' tk n', ret v n' → Fr h₀ L h' m → News h₀ L h' (n' ++ rest) → (∀ q ∈ n', ∀ r ∈ rest, q.1 ≠ r.1) → Q v { s with heap := h', toks := tk })
    (hE : ∀ e h' tk n' g, exc n' → Fr h₀ L g m → (∀ q ∈ rest, g.get? q.1 = some q.2 ∧ h₀.get? q.1 = none ∧ q.1 ≠ L) → Flies base g (env :: outer) cls n' e h' → E e { s with heap := h', toks := tk }) :
    wpAny (model prog w) (A₀.deeper env) (call f args) Q E s := by
  have B₁ := pushX B F hf hk
  have base_ne : ∀ b o, h₀.get? b = some o → b ∉ n.map (·.1) := fun b o e q => by
    obtain ⟨r, hr', rfl⟩ := List.mem_map.mp q
    rw [(N r (hn r hr')).2.2] at e; cases e
  have L_ne : L ∉ n.map (·.1) := fun q => by
    obtain ⟨r, hr', e⟩ := List.mem_map.mp q
    exact (N r (hn r hr')).2.1 e
  have st : h₀.StaysIn (hideAll s.heap (n.map (·.1))) := fun b o e => hideAll_get _ (F.keep b o e) (base_ne b o e)
  obtain ⟨oL, es, ep, hL, hLd, hLk, hLf⟩ := F.ns
  have hLg := hideAll_get (n.map (·.1)) hL L_ne
  have FG : Fr h₀ L (hideAll s.heap (n.map (·.1))) m := ⟨⟨oL, es, ep, hLg, hLd, hLk, hLf⟩, st, F.above⟩
  have rest_in : ∀ q ∈ rest, (hideAll s.heap (n.map (·.1))).get? q.1 = some q.2 := fun q hq => hideAll_get _ (N q (hr q hq)).1 fun hm => by
    obtain ⟨r, hr', e⟩ := List.mem_map.mp hm
    exact hd q hq r hr' e.symm
  refine S (hideAll s.heap (n.map (·.1))) s Q E ⟨B₁.stack, fun b o e => st b o (B.stays b o e), funFrames_hideAll B₁.frames fun v hv b hb hfr => ?_⟩ (fun b o e => of_hideAll _ e) (Nat.le_of_eq (hideAll_size _ _))
    (fun q hq => ⟨(N q (hn q hq)).1, hideAll_none _ (List.mem_map_of_mem hq)⟩) (fun v h' tk n' hret k1 k2 => ?_) fun e h' tk n' hexc hfl => hE e h' tk n' _ hexc FG (fun q hq => ⟨rest_in q hq, (N q (hr q hq)).2.2, (N q (hr q hq)).2.1⟩) hfl
  · cases hv with
    | head => rw [hf] at hfr; exact L_ne ((Option.some.inj hfr : L = b) ▸ hb)
    | tail _ hv =>
      obtain ⟨L₁, o₁, hf₁, ho₁⟩ := funFrames_in B.frames v hv
      rw [hf₁] at hfr
      exact base_ne L₁ o₁ ho₁ ((Option.some.inj hfr : L₁ = b) ▸ hb)
  · refine hQ v h' tk n' hret ⟨⟨oL, es, ep, k1 L oL hLg, hLd, hLk, hLf⟩, fun b o e => k1 b o (st b o e), F.above⟩ (fun q hq => ?_) fun q hq r hr' e => ?_
    · rcases List.mem_append.mp hq with hq | hq
      · refine ⟨(k2 q hq).1, fun z => ?_, ?_⟩
        · have := (k2 q hq).2; rw [z, hLg] at this; cases this
        · cases z : h₀.get? q.1 with
          | none => rfl
          | some o => have := (k2 q hq).2; rw [st _ _ z] at this; cases this
      · exact ⟨k1 _ _ (rest_in q hq), (N q (hr q hq)).2⟩
    · have := (k2 q hq).2
      rw [e, rest_in r hr'] at this; cases this
end Mine
open PySem PySem.W PyProof.Rows PySem.Calls PySem.Spec
namespace Mine
set_option maxRecDepth 100000
section
variable {M : Model} {A : Around} {E : Value → Shared → Prop} {s : Shared} {h₀ : Heap} {L a : Addr} {m : Str → Option Value} {cn : Str} {cs : Scope} {ccd : Value} {cl : List (Str × Addr)} {x : Str} {Q : Unit → Shared → Prop} {news : List (Addr × Obj)}
/-- a store, with what it reckons of tokens forgotten -/
theorem storeG_L {v : Value} (F : Fr h₀ L s.heap m) (N : News h₀ L s.heap news)
    (h : ∀ h' tk, Fr h₀ L h' (fun y => if y = x then some v else m y) → News h₀ L h' news → Q () { s with heap := h', toks := tk })
    (hk : cs.kind = .function) (hx : (envX cn cs L a ccd cl).kindOf x = some .local) : wpAny M A (storeName (envX cn cs L a ccd cl) x v) Q E s :=
  storeX_L F N (fun h' => h h' (s.toks + 1)) hk hx
theorem storeI_L {n : Int} {t₀ : Tok} (F : Fr h₀ L s.heap m) (N : News h₀ L s.heap news)
    (h : ∀ h' tk t, Fr h₀ L h' (fun y => if y = x then some (.int n t) else m y) → News h₀ L h' news → Q () { s with heap := h', toks := tk })
    (hk : cs.kind = .function) (hx : (envX cn cs L a ccd cl).kindOf x = some .local) : wpAny M A (storeName (envX cn cs L a ccd cl) x (.int n t₀)) Q E s :=
  storeX_L F N (fun h' => h h' (s.toks + 1) t₀) hk hx
theorem storeB_L {b : Array UInt8} {t₀ : Tok} (F : Fr h₀ L s.heap m) (N : News h₀ L s.heap news)
    (h : ∀ h' tk t, Fr h₀ L h' (fun y => if y = x then some (.bytes b t) else m y) → News h₀ L h' news → Q () { s with heap := h', toks := tk })
    (hk : cs.kind = .function) (hx : (envX cn cs L a ccd cl).kindOf x = some .local) : wpAny M A (storeName (envX cn cs L a ccd cl) x (.bytes b t₀)) Q E s :=
  storeX_L F N (fun h' => h h' (s.toks + 1) t₀) hk hx
end
end Mine
open PySem PySem.W PyProof.Rows PySem.Calls PySem.Spec
namespace Mine
set_option maxRecDepth 100000
section
variable {prog : Program} {w : World} {A : Around} {E : Value → Shared → Prop} {h : Heap} {g : Array GenState} {d : Drawn} {t : Nat} {os : OsState}
variable {nm q : Str} {C N : Addr} {bs bm : List Value} {hdct : Bool} {sn : List Str} {sub : List Value} {ab : Bool} {col : Option Bool} {dd : Option Addr} {k0 k1 k2 k3 k5 : Option Value} {B newId initId : String}
theorem type_call_init (F : ExcBaseFacts B newId initId bm) {mN : Str → Option Value} {rest : List Value} {fI : Addr} {Q : Fin → Shared → Prop} {K : Frag} (Y : K.In h)
    (hC : h.get? C = some (excClassObj nm q C N bs bm hdct sn sub ab col dd k0 k1 k2 k3 k5 newId)) (hn : h.Ns N mN) (hni : mN "__init__" = some (.ref fI)) (hfn : typeIn K (.ref fI) = some (.type "function"))
    (hq : codeAny (model prog w) A (.call (.ref fI) ⟨.ref (h.objs.size + 1) :: rest, []⟩) (fun r s' => match r with | .ok (.ret v) => v = .none ∧ Q (.done (.ret (.ref (h.objs.size + 1)))) s' | .ok _ => False | .error e => E e s')
       ⟨(h.push { cls := .type "tuple", data := .seq rest.toArray }).push { cls := .ref C, data := .fields #[.ref h.objs.size, .none, .none, .none, .bool false, .none] }, g, d, t, os⟩) (hrest : rest.length ≤ sizeLine := by size_fits) :
    wpAny (model prog w) A (Builtin.«type.__call__» ⟨.ref C :: rest, []⟩) Q E ⟨h, g, d, t, os⟩ := by
  repeat (first | with_reducible refine wpAny_loadPart_at hC ?_ | with_reducible refine wpAny_madeBy_exc hC ?_ | wp_step)
  refine codeAny_call_builtin_code (Code.quiet_builtin _ F.quiet) (wpAny_check_new_sub F hC ?_)
  refine codeAny_exc_new_sub F hC ?_ hrest
  show wpAny _ _ _ _ _ _
  have hC₁ := Heap.get?_push_of_some { cls := .ref C, data := .fields #[.ref h.objs.size, .none, .none, .none, .bool false, .none] }
    (Heap.get?_push_of_some { cls := .type "tuple", data := .seq rest.toArray } hC)
  have hn₁ : ((h.push { cls := .type "tuple", data := .seq rest.toArray }).push { cls := .ref C, data := .fields #[.ref h.objs.size, .none, .none, .none, .bool false, .none] }).Ns N mN :=
    let ⟨o, es, ep, e, r⟩ := hn; ⟨o, es, ep, Heap.get?_push_of_some _ (Heap.get?_push_of_some _ e), r⟩
  have hget : ((h.push { cls := .type "tuple", data := .seq rest.toArray }).push
      { cls := .ref C, data := .fields #[.ref h.objs.size, .none, .none, .none, .bool false, .none] }).get? (h.objs.size + 1) = some
      { cls := .ref C, data := .fields #[.ref h.objs.size, .none, .none, .none, .bool false, .none] } := by heap_get
  have hcC : (Value.ref C :: bm).contains (.ref C) = true := by simp
  unfold isInstance
  repeat (first | with_reducible refine wpAny_loadPart_at hget ?_ | (with_reducible refine wpAny_isSubtype_exc hC₁ ?_; rw [hcC]) | wp_step)
  show wpAny _ _ (typeLookup (.ref C) _) _ _ _
  refine wpAny_typeLookup_exc hC₁ hn₁ F.mroIs F.init.lookup ?_
  rw [hni]
  dsimp only
  refine wpAny_holding (wpAny_bind ((bind_fn (Y.keeps fun b o e => Heap.get?_push_of_some _ (Heap.get?_push_of_some _ e)) _ hfn).here ?_))
  dsimp only
  refine wpAny_bind (wpAny_call (codeAny_mono hq fun r s' hr => ?_))
  match r, hr with
  | .ok (.ret v), ⟨e1, e2⟩ =>
    subst e1
    exact wpAny_pure (wpAny_pure e2)
  | .error e, hr => exact hr

theorem call_init (F : ExcBaseFacts B newId initId bm) {mN : Str → Option Value} {rest : List Value} {fI : Addr} {Q : Value → Shared → Prop} {K : Frag} (Y : K.In h)
    (hC : h.get? C = some (excClassObj nm q C N bs bm hdct sn sub ab col dd k0 k1 k2 k3 k5 newId)) (hn : h.Ns N mN) (hni : mN "__init__" = some (.ref fI)) (hfn : typeIn K (.ref fI) = some (.type "function"))
    (hq : codeAny (model prog w) (A.under (.builtin "type.__call__" ⟨.ref C :: rest, []⟩)) (.call (.ref fI) ⟨.ref (h.objs.size + 1) :: rest, []⟩) (fun r s' => match r with | .ok (.ret v) => v = .none ∧ Q (.ref (h.objs.size + 1)) s' | .ok _ => False | .error e => E e s')
       ⟨(h.push { cls := .type "tuple", data := .seq rest.toArray }).push { cls := .ref C, data := .fields #[.ref h.objs.size, .none, .none, .none, .bool false, .none] }, g, d, t, os⟩) (hrest : rest.length ≤ sizeLine := by size_fits) :
    wpAny (model prog w) A (call (.ref C) rest) Q E ⟨h, g, d, t, os⟩ := by
  have f1 := tc_lookup
  have f2 := tc_bind (.ref C)
  have hT : (⟨h, g, d, t, os⟩ : Shared).TypeIs (.ref C) "type" := ⟨_, hC, rfl⟩
  refine wpAny_call (codeAny_of_tree ?_)
  show wpAny _ _ (callAny (.ref C) _) _ _ _
  repeat (any_goals (first | assumption | with_reducible refine wpAny_loadPart_at hC ?_ | wp_step))
  refine ⟨rfl, ?_⟩
  refine codeAny_call_builtin_at (Code.quiet_builtin _ (by decide +kernel)) entry_typeCall (wpAny_check_type_call_sub hC (type_call_init (hrest := hrest) F Y hC hn hni hfn ?_))
  exact hq
end
end Mine
open PySem PySem.W PyProof.Rows PySem.Calls PySem.Spec
namespace Mine
set_option maxRecDepth 100000
abbrev excO (C t : Addr) : Obj := { cls := .ref C, data := .fields #[.ref t, .none, .none, .none, .bool false, .none] }
abbrev tupO (l : List Value) : Obj := { cls := .type "tuple", data := .seq l.toArray }
theorem meta_Exception : typeOf (.type "Exception") = pure (.type "type") := by with_unfolding_all rfl
theorem stub_Exception : Manifest.isStub "Exception" = false := by decide +kernel
section
variable {prog : Program} {w : World} {A : Around} {E : Value → Shared → Prop} {s : Shared} {h₀ : Heap} {L : Addr} {m : Str → Option Value} {news : List (Addr × Obj)}
variable {nm q : Str} {C N : Addr} {bs bm : List Value} {hdct : Bool} {sn : List Str} {sub : List Value} {ab : Bool} {col : Option Bool} {dd : Option Addr} {k0 k1 k2 k3 k5 : Option Value} {B newId initId : String}
/-- the base's __init__ upon an exception of the ledger lays new arguments -/
theorem exc_init {rest : List Value} {e t₀ : Addr} {Q : Value → Shared → Prop} (XB : ExcBaseFacts B newId initId bm) (F : Fr h₀ L s.heap m) (Nw : News h₀ L s.heap ((e, excO C t₀) :: news)) (hne : ∀ r ∈ news, r.1 ≠ e)
    (hC : s.heap.get? C = some (excClassObj nm q C N bs bm hdct sn sub ab col dd k0 k1 k2 k3 k5 newId))
    (h : ∀ t₁ h', Fr h₀ L h' m → News h₀ L h' ((t₁, tupO rest) :: (e, excO C t₁) :: news) → Q .none { s with heap := h' }) (hrest : rest.length ≤ sizeLine := by size_fits) :
    wpAny (model prog w) A (call (.builtin initId) (.ref e :: rest)) Q E s := by
  obtain ⟨hp, g, d, t, os⟩ := s
  have hget := (Nw (e, excO C t₀) (.head _)).1
  refine wpAny_call (codeAny_call_builtin XB.init.plain XB.initEntry (wpAny_check_init_sub XB hC hget rfl ?_))
  wp_walk
  have e_lt : e < hp.objs.size := Heap.lt_size hget
  obtain ⟨F2, N2⟩ := news_upd (f := Obj.mapFields fun x => x.setIfInBounds 0 (Value.ref hp.objs.size)) (o' := excO C hp.objs.size) (pre := [(hp.objs.size, tupO rest)]) (post := news) (F.push (tupO rest)) (News.push F Nw (tupO rest))
    (fun r hr => by rw [List.mem_singleton.mp hr]; exact Nat.ne_of_gt e_lt) hne rfl rfl
  exact h hp.objs.size _ F2 N2
end
theorem ns_some_of {K : Frag} {h : Heap} {N : Addr} {mg : Str → Option Value} {n : Str} {v : Value} (X : K.In h) (G : h.Ns N mg) (e : nsIn K N n = some (some v)) : mg n = some v := by
  obtain ⟨o, es, ep, ho, hd, _, hf⟩ := G
  unfold nsIn at e
  split at e
  · rename_i q
    have y := X _ _ q
    rw [ho] at y
    cases y
    cases hd
    split at e
    · rename_i en he
      cases e
      rw [← hf]
      unfold nsFind findBy
      rw [← Array.find?_toList, he]
      rfl
    · split at e <;> cases e
  · cases e
end Mine
open PySem PySem.W PyProof.Rows PySem.Calls PySem.Spec
namespace Mine
set_option maxRecDepth 100000
abbrev TheM (w : World) : Model := model PySem.Challenge.rw_jq0004_01.row.prog w

theorem clsK (w : World) : ∃ nm q bs a1 a2 a3 a4 a5 a6 k0 k1 k2 k3 k5, (hd.heap_39 w.params).lookup 32 = some (excClassObj nm q 32 31 bs [.type "Exception", .type "BaseException", .type "object"] a1 a2 a3 a4 a5 a6 k0 k1 k2 k3 k5 "Exception.__new__") := by
  have hfill : (fun _ : OpenLaw => hd.heap_39) PySem.Challenge.rw_jq0004_01 = hd.heap_39 := by (k_fill; rfl)
  exact ⟨_, _, _, _, _, _, _, _, _, _, _, _, _, _, by k_dflt k_is⟩

set_option maxHeartbeats 8000000 in
theorem init_walk (w : World) {p : Program} {loose : List Str} {mean : ExcName → Option Value} {mg mb : Str → Option Value}
   (A : Around) (g : Heap) (s : Shared) (R : Result → Shared → Prop) (x : Str) (tx : Tok) (e t0 : Addr)
   (X : (hd.heap_39 w.params).In g) (T : Top p loose mean mg mb g) (hg : g.StaysIn s.heap) (hsz : g.objs.size ≤ s.heap.objs.size)
   (N : Led g s.heap [(e, excO 32 t0)]) (hdp : A.depth < recursionLimit)
   (hret : ∀ h' tk t1, g.StaysIn h' → Led g h' [(t1, tupO [.str x tx]), (e, excO 32 t1)] → R (.ok (.ret .none)) { s with heap := h', toks := tk }) :
   codeAny (TheM w) A (.call (.ref 29) ⟨[.ref e, .str x tx], []⟩) R s := by
  have hfill : (fun _ : OpenLaw => hd.heap_39) PySem.Challenge.rw_jq0004_01 = hd.heap_39 := by (k_fill; rfl)
  clear hfill
  k_dflt (refine' enter_def hg hsz N X T ?k6 ?k7 ?k8 ?k9 ?kB ?_ ?c2 ?c3 ?c4 ?c5; (case k6 => k_is); (case k7 => k_is); (case k8 => exact hdp); (case k9 => exact binds_K (X.keeps hg) rfl (by k_is) rfl rfl rfl); (case c5 => decide); (case kB => exact locs rfl); (case c2 => exact rfl); (case c3 => exact rfl); (case c4 => exact rfl); k_whole; intro L' h' F' N' l1; (try dsimp only); (try k_fold))
  obtain ⟨_, _, _, _, _, _, _, _, _, _, _, _, _, _, hCK⟩ := clsK w
  k_with_none
  k_with "getMethod type:Exception" => (refine' method_type ?F ?X meta_Exception stub_Exception ?e ?h ?_; (case F => k_asm); (case X => k_asm); (case e => k_dflt k_is); (case h => k_handed))
  k_with "call builtin:Exception.__init__" => ((rename Fr _ _ _ _ => kF); (rename News _ _ _ _ => kN); refine' exc_init PySem.F.excBase_Exception kF kN (fun _ h => nomatch h) (kF.keep _ _ (X _ _ hCK)) ?_; intro t1 h1 F1 N1)
  k_steps
  all_goals exact hret _ _ _ (Fr.keep (by assumption)) (Led.of_news (by assumption))

/-- the class of the errors, called with a text -/
theorem call_ADE (w : World) {p : Program} {loose : List Str} {mean : ExcName → Option Value} {mg mb : Str → Option Value} {A : Around} {s : Shared} {Q E : Value → Shared → Prop} {x : Str} {tx : Tok}
   (X : (hd.heap_39 w.params).In s.heap) (T : Top p loose mean mg mb s.heap) (hdp : A.depth + 1 < recursionLimit)
   (hQ : ∀ ea h' tk, Heap.MadeExcOf s.heap h' ea (.ref 32) [.str x tx] → Q (.ref ea) { s with heap := h', toks := tk }) :
   wpAny (TheM w) A (call (.ref 32) [.str x tx]) Q E s := by
  obtain ⟨h, gs, d, t, os⟩ := s
  have hfill : (fun _ : OpenLaw => hd.heap_39) PySem.Challenge.rw_jq0004_01 = hd.heap_39 := by (k_fill; rfl)
  clear hfill
  obtain ⟨_, _, _, _, _, _, _, _, _, _, _, _, _, _, hCK⟩ := clsK w
  have hns : h.Ns 31 (h.nsMap 31) := Heap.Ns.of_isNs (isNs_of_in X (by kernel_rfl))
  refine call_init PySem.F.excBase_Exception X (X _ _ hCK) hns (ns_some_of X hns (v := .ref 29) (by k_dflt k_is)) (by k_dflt k_is) ?_ (show 1 ≤ sizeLine from by decide)
  have hst : h.StaysIn ((h.push { cls := .type "tuple", data := .seq [Value.str x tx].toArray }).push { cls := .ref 32, data := .fields #[.ref h.objs.size, .none, .none, .none, .bool false, .none] }) := fun b o e => Heap.get?_push_of_some _ (Heap.get?_push_of_some _ e)
  refine init_walk w (g := h) (t0 := h.objs.size) (X := X) (T := T) (hg := hst) (hsz := ?_) (N := ?_) (hdp := ?_) (hret := ?_)
  · show h.objs.size ≤ ((h.push _).push _).objs.size
    rw [Heap.size_push, Heap.size_push]; omega
  · intro r hr
    rw [List.mem_singleton.mp hr]
    exact ⟨by heap_get, Heap.get?_none_of_le (Nat.le_succ _)⟩
  · rw [depth_under_make]; exact hdp
  · intro h' tk t1 k1 k2
    refine ⟨rfl, hQ _ h' tk ⟨k1, (k2 _ (.tail _ (.head _))).2, t1, (k2 _ (.tail _ (.head _))).1, (k2 _ (.head _)).2, (k2 _ (.head _)).1⟩⟩

/-- what the message's reckoning must hand on -/
def Told1 (C : Addr) (h₀ : Heap) (E : Value → Shared → Prop) (vs : List Value) (s₂ : Shared) : Prop :=
  ∃ x tx, vs = [.str x tx] ∧ h₀.StaysIn s₂.heap ∧ ∀ h' ea tk, Heap.MadeExcOf s₂.heap h' ea (.ref C) [.str x tx] → E (.ref ea) { s₂ with heap := h', toks := tk }

theorem Raise_ADE (w : World) {p : Program} {loose : List Str} {mean : ExcName → Option Value} {mg mb : Str → Option Value} {A : Around} {s : Shared} {Q : Flow → Shared → Prop} {E : Value → Shared → Prop}
   {h₀ : Heap} {L a : Addr} {m : Str → Option Value} {cn : Str} {cs : Scope} {ccd : Value} {cl : List (Str × Addr)} {e₀ : Expr} {np cpos pos : Pos}
   (F : Fr h₀ L s.heap m) (X : (hd.heap_39 w.params).In h₀) (T : Top p loose mean mg mb h₀) (hh : A.handled = none) (hdp : A.depth + 1 < recursionLimit)
   (h : wpAny (TheM w) A (spliced (backTo cpos (starEach [e₀] (envX cn cs L a ccd cl)))) (Told1 32 h₀ E) E s)
   (he : starEach [e₀] (envX cn cs L a ccd cl) = [(false, eval e₀ (envX cn cs L a ccd cl))] := by rfl)
   (hk : cs.kind = .function := by rfl) (hx : (envX cn cs L a ccd cl).kindOf (Str.ofString "ApplyDeltaError") = some .globalImplicit := by rfl) :
   wpAny (TheM w) A (exec (.Raise (some (.Call (.Name (Str.ofString "ApplyDeltaError") np) [e₀] [] cpos)) none pos) (envX cn cs L a ccd cl)) Q E s := by
  have hfill : (fun _ : OpenLaw => hd.heap_39) PySem.Challenge.rw_jq0004_01 = hd.heap_39 := by (k_fill; rfl)
  clear hfill
  obtain ⟨nm, q, bs, a1, a2, a3, a4, a5, a6, k0, k1, k2, k3, k5, hCK⟩ := clsK w
  rw [arm_exec_Raise]
  simp only [evalOpt, Option.map]
  refine wpAny_bind (wpAny_standAt (wpAny_raiseStmt_made_sub (C := 32) (nm := nm) (q := q) (N := 31) (bs := bs) (bm := [.type "Exception", .type "BaseException", .type "object"]) (hdct := a1) (sn := a2) (sub := a3) (ab := a4) (col := a5) (dd := a6) (k0 := k0) (k1 := k1) (k2 := k2) (k3 := k3) (k5 := k5) (newId := "Exception.__new__")
    (by decide) hh (wpAny_bind (wpAny_mono (wpAny_Call_ofName (nameX_K F X (topRead_of T) (v := .ref 32) (by k_dflt k_is) ?_ hk hx (by decide))) (fun v s₃ h₃ => wpAny_bind (wpAny_standAt (wpAny_pure h₃))) fun _ _ x => x))))
  refine callWith_K (K := hd.heap_39 w.params) X (by k_dflt k_is) (wpAny_mono h (fun vs s₂ h₂ => ?_) fun _ _ x => x) he (by rfl)
  obtain ⟨x, tx, rfl, hst, hE⟩ := h₂
  refine ⟨X.keeps hst, ?_⟩
  refine call_ADE w (X.keeps hst) (T.keeps hst) hdp fun ea h' tk hm => ?_
  obtain ⟨t, ht, _, _⟩ := hm.there
  exact ⟨ea, t, rfl, hm.keeps _ _ (X.keeps hst _ _ hCK), ht, hE h' ea tk hm⟩
end Mine
open PySem PySem.W PyProof.Rows PySem.Calls PySem.Spec
namespace Mine
set_option maxRecDepth 100000
/-- the part from i to j of a list, as Python cuts it for bounds that are not negative -/
def cut (ks : List Int) (i j : Int) : List Int := (ks.drop i.toNat).take (j.toNat - i.toNat)
theorem cut_len (ks : List Int) (i j : Int) (h0 : 0 ≤ i) (h1 : i ≤ j) (h2 : j ≤ ks.length) : ((cut ks i j).length : Int) = j - i := by
  unfold cut; rw [List.length_take, List.length_drop]; omega
theorem cut_len_le (ks : List Int) (i j : Int) : (cut ks i j).length ≤ ks.length := by
  unfold cut; rw [List.length_take, List.length_drop]; omega
theorem clip_up (n : Nat) {i : Int} (h : 0 ≤ i) : clipAt n i = min i.toNat n := by
  have := clipAt_cast n i
  omega
theorem cut_clip (ks : List Int) {i j : Int} (hi : 0 ≤ i) (hj : 0 ≤ j) : (ks.drop (clipAt ks.length i)).take (clipAt ks.length j - clipAt ks.length i) = cut ks i j := by
  rw [clip_up _ hi, clip_up _ hj]
  unfold cut
  by_cases h : i.toNat ≤ ks.length
  · rw [Nat.min_eq_left h]
    by_cases h2 : j.toNat ≤ ks.length
    · rw [Nat.min_eq_left h2]
    · rw [Nat.min_eq_right (by omega), List.take_of_length_le (by rw [List.length_drop]; exact Nat.le_refl _), List.take_of_length_le (by rw [List.length_drop]; omega)]
  · rw [Nat.min_eq_right (by omega : ks.length ≤ i.toNat), List.drop_of_length_le (Nat.le_refl _), List.drop_of_length_le (by omega)]
    simp
theorem cut_to (ks : List Int) (j : Int) : cut ks 0 j = ks.take j.toNat := by unfold cut; simp
theorem cut_one (ks : List Int) (i : Int) (h0 : 0 ≤ i) (h1 : i < ks.length) : cut ks i (i + 1) = [ks.getD i.toNat 0] := by
  unfold cut
  have e : (i + 1).toNat - i.toNat = 1 := by omega
  rw [e]
  have hl : i.toNat < ks.length := by omega
  rw [List.drop_eq_getElem_cons hl, List.take_succ_cons, List.take_zero, List.getD_eq_getElem?_getD, List.getElem?_eq_getElem hl]
  rfl
theorem cut_one' (ks : List Int) (i j : Int) (h0 : 0 ≤ i) (h1 : i < ks.length) (e : j = i + 1) : cut ks i j = [ks.getD i.toNat 0] := by subst e; exact cut_one ks i h0 h1
/-- octets -/
def Oct (ks : List Int) : Prop := ∀ k ∈ ks, 0 ≤ k ∧ k < 256
theorem oct_of {b : Array UInt8} {ks : List Int} (h : KBw.bInts b = ks) : Oct ks := by subst h; exact fun k hk => KBw.ints_in hk
theorem Oct.getD {ks : List Int} (h : Oct ks) (j : Nat) : 0 ≤ ks.getD j 0 ∧ ks.getD j 0 < 256 := KBw.getD_in h
theorem size_of {b : Array UInt8} {ks : List Int} (h : KBw.bInts b = ks) : b.size = ks.length := by subst h; exact (KBw.ints_length b).symm
section
variable {prog : Program} {w : World} {A : Around} {E : Value → Shared → Prop} {s : Shared} {value slice : PySem.Expr} {b : Array UInt8} {t : Tok} {h₀ : Heap} {L : Addr} {m : PySem.Str → Option Value} {news : List (Addr × Obj)} {Q : Value → Shared → Prop} {ks : List Int}
theorem ord_bytes {c : Array UInt8} {v : Int} (hc : KBw.bInts c = [v]) (h : ∀ t k, 0 ≤ v → v < 256 → Q (.int v t) { s with toks := k }) : wpAny (model prog w) A (call (.builtin "ord") [.bytes c t]) Q E s := by
  have hin := KBw.ints_in (b := c) (k := v) (by rw [hc]; exact .head _)
  obtain ⟨l⟩ := c
  match l, hc with
  | [x], hc =>
    have hx : (x.toNat : Int) = v := by simpa [KBw.bInts] using hc
    refine call_function_entry F.kind_ord F.plain_ord F.entry_ord (F.args_ord1 _) ?_
    refine wpAny_mono (Q := fun fin s' => fin = .done (.ret (.int (x.toNat : Nat) s.toks)) ∧ s' = { s with toks := s.toks + 1 }) (E := E) ?_ (fun fin s' z => ?_) fun _ _ z => z
    · exact fun Γ p hΓ => ⟨rfl, rfl⟩
    · obtain ⟨rfl, rfl⟩ := z
      exact ⟨_, rfl, by rw [hx]; exact h _ _ hin.1 hin.2⟩
theorem slice_ij {i j : Int} {ti tj : Tok} (hF : Fr h₀ L s.heap m) (hN : News h₀ L s.heap news) (hk : KBw.bInts b = ks) (hi : 0 ≤ i) (hj : 0 ≤ j) (hz : ks.length ≤ 16777216)
    (h : ∀ c h' t' k, Fr h₀ L h' m → News h₀ L h' news → KBw.bInts c = cut ks i j → Q (.bytes c t') { s with heap := h', toks := k })
    (hs : subscripted slice false (.bytes b t) (.ref s.heap.objs.size) = operate [.ref s.heap.objs.size, .bytes b t] (getItem (.bytes b t) (.ref s.heap.objs.size)) := by with_unfolding_all rfl)
    (ht : ∀ r, letTemporaryGo value (.bytes b t) r = pure () := by intro _; with_unfolding_all rfl) :
    wpAny (model prog w) A (subscriptTail value slice (.bytes b t) (.ref s.heap.objs.size)) Q E { s with heap := s.heap.push { cls := .type "slice", data := .fields #[.int i ti, .int j tj, .none] } } :=
  KBc.slice_K hF hN hk (.int i ti) (.int j tj) hz (fun h' t' k F' N' e => h _ h' t' k F' N' (by rw [e]; exact cut_clip ks hi hj)) hs ht
theorem slice_i {i : Int} {ti : Tok} (hF : Fr h₀ L s.heap m) (hN : News h₀ L s.heap news) (hk : KBw.bInts b = ks) (hi : 0 ≤ i) (hz : ks.length ≤ 16777216)
    (h : ∀ c h' t' k, Fr h₀ L h' m → News h₀ L h' news → KBw.bInts c = ks.drop i.toNat → Q (.bytes c t') { s with heap := h', toks := k })
    (hs : subscripted slice false (.bytes b t) (.ref s.heap.objs.size) = operate [.ref s.heap.objs.size, .bytes b t] (getItem (.bytes b t) (.ref s.heap.objs.size)) := by with_unfolding_all rfl)
    (ht : ∀ r, letTemporaryGo value (.bytes b t) r = pure () := by intro _; with_unfolding_all rfl) :
    wpAny (model prog w) A (subscriptTail value slice (.bytes b t) (.ref s.heap.objs.size)) Q E { s with heap := s.heap.push { cls := .type "slice", data := .fields #[.int i ti, .none, .none] } } := by
  refine KBc.slice_K hF hN hk (.int i ti) .none hz (fun h' t' k F' N' e => h _ h' t' k F' N' ?_) hs ht
  rw [e]
  show (ks.drop (clipAt ks.length i)).take (ks.length - clipAt ks.length i) = ks.drop i.toNat
  rw [List.take_of_length_le (by rw [List.length_drop]; exact Nat.le_refl _), clip_up _ hi]
  by_cases h : i.toNat ≤ ks.length
  · rw [Nat.min_eq_left h]
  · rw [Nat.min_eq_right (by omega), List.drop_of_length_le (Nat.le_refl _), List.drop_of_length_le (by omega)]
theorem slice_j {j : Int} {tj : Tok} (hF : Fr h₀ L s.heap m) (hN : News h₀ L s.heap news) (hk : KBw.bInts b = ks) (hj : 0 ≤ j) (hz : ks.length ≤ 16777216)
    (h : ∀ c h' t' k, Fr h₀ L h' m → News h₀ L h' news → KBw.bInts c = ks.take j.toNat → Q (.bytes c t') { s with heap := h', toks := k })
    (hs : subscripted slice false (.bytes b t) (.ref s.heap.objs.size) = operate [.ref s.heap.objs.size, .bytes b t] (getItem (.bytes b t) (.ref s.heap.objs.size)) := by with_unfolding_all rfl)
    (ht : ∀ r, letTemporaryGo value (.bytes b t) r = pure () := by intro _; with_unfolding_all rfl) :
    wpAny (model prog w) A (subscriptTail value slice (.bytes b t) (.ref s.heap.objs.size)) Q E { s with heap := s.heap.push { cls := .type "slice", data := .fields #[.none, .int j tj, .none] } } := by
  refine KBc.slice_K hF hN hk .none (.int j tj) hz (fun h' t' k F' N' e => h _ h' t' k F' N' ?_) hs ht
  rw [e]
  show (ks.drop 0).take (clipAt ks.length j - 0) = ks.take j.toNat
  rw [List.drop_zero, Nat.sub_zero, clip_up _ hj]
  by_cases h : j.toNat ≤ ks.length
  · rw [Nat.min_eq_left h]
  · rw [Nat.min_eq_right (by omega), List.take_of_length_le (Nat.le_refl _), List.take_of_length_le (by omega)]
theorem len_b (hk : KBw.bInts b = ks) (hz : ks.length ≤ 1099511627776) (h : ∀ t k, Q (.int ks.length t) { s with toks := k }) : wpAny (model prog w) A (call (.builtin "len") [.bytes b t]) Q E s :=
  KBw.len_K hk hz (h _ _)
end
theorem loadX_L {M : Model} {A : Around} {E : Value → Shared → Prop} {s : Shared} {h₀ : Heap} {L a : Addr} {m : Str → Option Value} {cn : Str} {cs : Scope} {ccd : Value} {cl : List (Str × Addr)} {x : Str} {v : Value} {Q : Value → Shared → Prop}
    (F : Fr h₀ L s.heap m) (hv : m x = some v) (h : Q v s) (hk : cs.kind = .function := by rfl) (hx : (envX cn cs L a ccd cl).kindOf x = some .local := by rfl) :
    wpAny M A (loadName (envX cn cs L a ccd cl) x) Q E s := wpAny_loadName_local hk hx F.ns hv h
end Mine
namespace Mine
section
variable {prog : Program} {w : World} {A : Around} {E : Value → Shared → Prop} {s : Shared}
theorem lshift_any {a n : Int} {t u : Tok} {Q : Value → Shared → Prop} (hn : 0 ≤ n) (hn2 : n ≤ 1000000) (ha : a.natAbs < 2 ^ 64) (h : ∀ t' k, Q (.int (a * 2 ^ n.toNat) t') { s with toks := k }) :
    wpAny (model prog w) A (binaryOp .LShift (.int a t) (.int n u)) Q E s := lshift_int_small hn hn2 ha (h _ _)
theorem fmt_int {a : Int} {t : Tok} {Q : Value → Shared → Prop} (hh : A.handled = none) (hn : s.heap.NoDigits) (hb : a.natAbs < 2 ^ 12900)
    (h : ∀ x t' k, Str.length x ≤ 4301 → Q (.str x t') { s with toks := k }) : wpAny (model prog w) A (formatField (.int a t) Str.empty) Q E s :=
  formatField_int hh hn (fun h1 => h _ _ _ (by rw [PySem.ofString_length]; exact int_text_length_le10 (by decide) h1)) (fun h2 => absurd hb (Nat.not_lt.mpr (Nat.le_trans pow_lo h2)))
end
end Mine
open PySem PySem.W PyProof.Rows PySem.Calls PySem.Spec
namespace Mine
/-- git's length: the value and the number of octets -/
def sizeL : List Int → Option (Int × Nat)
  | [] => none
  | c :: r => if c < 128 then some (c, 1) else (sizeL r).map fun q => (c - 128 + 128 * q.1, q.2 + 1)
/-- between the turns of the loop that reads a length from place i₀ on -/
def hdrInv (ks : List Int) (i₀ : Int) (index size i : Int) : Prop :=
  ∃ j : Nat, i = 7 * (j : Int) ∧ index = i₀ + j ∧ 0 ≤ size ∧ size < 2 ^ (7 * j) ∧ index ≤ ks.length ∧
    sizeL (ks.drop i₀.toNat) = (sizeL (ks.drop index.toNat)).map fun q => (size + 2 ^ (7 * j) * q.1, j + q.2)
theorem hdrInv_start (ks : List Int) (i₀ : Int) (h : i₀ ≤ ks.length) : hdrInv ks i₀ i₀ 0 0 :=
  ⟨0, by simp, by simp, by simp, by simp, h, by cases sizeL (ks.drop i₀.toNat) <;> simp⟩
theorem oct_bits : ∀ n : Fin 256, Builtin.bitAnd ((n.val : Nat) : Int) (Builtin.bitNot 128) = ((n.val % 128 : Nat) : Int) ∧ Builtin.bitAnd ((n.val : Nat) : Int) 128 = (if n.val < 128 then 0 else 128) := by decide +kernel
theorem oct_low {c : Int} (h0 : 0 ≤ c) (h1 : c < 256) : Builtin.bitAnd c (Builtin.bitNot 128) = c % 128 := by
  have h := (oct_bits ⟨c.toNat, by omega⟩).1
  have e : ((c.toNat : Nat) : Int) = c := Int.toNat_of_nonneg h0
  simp only at h
  rw [e] at h
  rw [h]; omega
theorem oct_high {c : Int} (h0 : 0 ≤ c) (h1 : c < 256) : Builtin.bitAnd c 128 = if c < 128 then 0 else 128 := by
  have h := (oct_bits ⟨c.toNat, by omega⟩).2
  have e : ((c.toNat : Nat) : Int) = c := Int.toNat_of_nonneg h0
  simp only at h
  rw [e] at h
  rw [h]
  by_cases hc : c < 128
  · rw [if_pos hc, if_pos (by omega)]
  · rw [if_neg hc, if_neg (by omega)]
theorem nat_or (k a v : Nat) (h : a < 2 ^ k) : a ||| v * 2 ^ k = a + v * 2 ^ k := by
  have := Nat.two_pow_add_eq_or_of_lt h v
  rw [Nat.mul_comm (2 ^ k) v] at this
  rw [Nat.or_comm, ← this, Nat.add_comm]
theorem bitOr_nat (a b : Nat) : Builtin.bitOr (a : Int) (b : Int) = ((a ||| b : Nat) : Int) := by
  unfold Builtin.bitOr Builtin.bitAnd Builtin.bitNot
  have h1 : decide ((0 : Int) ≤ -(a : Int) - 1) = false := decide_eq_false (by omega)
  have h2 : decide ((0 : Int) ≤ -(b : Int) - 1) = false := decide_eq_false (by omega)
  simp only [h1, h2]
  have e1 : (-(-(a : Int) - 1) - 1).toNat = a := by omega
  have e2 : (-(-(b : Int) - 1) - 1).toNat = b := by omega
  simp only [e1, e2]
  omega
/-- what is laid above the bits there are is added -/
theorem or_above {a v : Int} {k : Nat} (h0 : 0 ≤ a) (h1 : a < 2 ^ k) (hv : 0 ≤ v) : Builtin.bitOr a (v * 2 ^ k) = a + v * 2 ^ k := by
  obtain ⟨a, rfl⟩ := Int.eq_ofNat_of_zero_le h0
  obtain ⟨v, rfl⟩ := Int.eq_ofNat_of_zero_le hv
  have e : ((v : Int) * 2 ^ k) = ((v * 2 ^ k : Nat) : Int) := by push_cast; rfl
  have h1' : a < 2 ^ k := by
    have : ((a : Nat) : Int) < ((2 ^ k : Nat) : Int) := by push_cast; exact h1
    exact_mod_cast this
  rw [e, bitOr_nat, nat_or k a v h1']
  push_cast; rfl
section
variable {ks : List Int} {i₀ ix sz sh : Int}
theorem drop_at (h0 : 0 ≤ ix) (h1 : ¬ (ks.length : Int) ≤ ix) : ks.drop ix.toNat = ks.getD ix.toNat 0 :: ks.drop (ix + 1).toNat := by
  have hl : ix.toNat < ks.length := by omega
  have e : (ix + 1).toNat = ix.toNat + 1 := by omega
  rw [e, List.drop_eq_getElem_cons hl, List.getD_eq_getElem?_getD, List.getElem?_eq_getElem hl]
  rfl
theorem hdr_fail (h : hdrInv ks i₀ ix sz sh) (h0 : 0 ≤ i₀) (h1 : (ks.length : Int) ≤ ix) : sizeL (ks.drop i₀.toNat) = none := by
  obtain ⟨j, _, e2, _, _, _, e⟩ := h
  rw [e, List.drop_of_length_le (by omega)]
  rfl
theorem hdr_next (h : hdrInv ks i₀ ix sz sh) (h0 : 0 ≤ i₀) (h1 : ¬ (ks.length : Int) ≤ ix) (hlo : 0 ≤ ks.getD ix.toNat 0) (hhi : ks.getD ix.toNat 0 < 256) (hb : Builtin.bitAnd (ks.getD ix.toNat 0) 128 ≠ 0) :
    hdrInv ks i₀ (ix + 1) (Builtin.bitOr sz (Builtin.bitAnd (ks.getD ix.toNat 0) (Builtin.bitNot 128) * 2 ^ sh.toNat)) (sh + 7) := by
  obtain ⟨j, rfl, e2, hs0, hs1, _, e⟩ := h
  have hsh : (7 * (j : Int)).toNat = 7 * j := by omega
  rw [oct_high hlo hhi] at hb
  rw [oct_low hlo hhi, hsh, or_above hs0 hs1 (by omega)]
  have hc : ¬ ks.getD ix.toNat 0 < 128 := fun q => hb (if_pos q)
  rw [drop_at (by omega) h1] at e
  simp only [sizeL] at e
  rw [if_neg hc] at e
  generalize ks.getD ix.toNat 0 = c at *
  have p1 : (2 : Int) ^ (7 * (j + 1)) = 2 ^ (7 * j) * 128 := by rw [Nat.mul_add, Int.pow_add]; rfl
  have pp : (0 : Int) < 2 ^ (7 * j) := kbt_pos _
  have hm : c % 128 = c - 128 := by omega
  have hmul : (c - 128) * 2 ^ (7 * j) ≤ 127 * 2 ^ (7 * j) := Int.mul_le_mul_of_nonneg_right (by omega) (Int.le_of_lt pp)
  have hmul0 : 0 ≤ (c - 128) * 2 ^ (7 * j) := Int.mul_nonneg (by omega) (Int.le_of_lt pp)
  refine ⟨j + 1, by push_cast; omega, by push_cast; omega, by rw [hm]; omega, by rw [hm, p1]; omega, by omega, ?_⟩
  rw [e]
  cases sizeL (List.drop (ix + 1).toNat ks) with
  | none => rfl
  | some q =>
    simp only [Option.map_some, Option.some.injEq, Prod.mk.injEq]
    refine ⟨?_, by omega⟩
    rw [hm, p1, Int.mul_add, Int.mul_comm (c - 128) (2 ^ (7 * j)), Int.mul_assoc]
    omega
theorem hdr_done (h : hdrInv ks i₀ ix sz sh) (h0 : 0 ≤ i₀) (h1 : ¬ (ks.length : Int) ≤ ix) (hlo : 0 ≤ ks.getD ix.toNat 0) (hhi : ks.getD ix.toNat 0 < 256) (hb : Builtin.bitAnd (ks.getD ix.toNat 0) 128 = 0) :
    ∃ k : Nat, sizeL (ks.drop i₀.toNat) = some (Builtin.bitOr sz (Builtin.bitAnd (ks.getD ix.toNat 0) (Builtin.bitNot 128) * 2 ^ sh.toNat), k) ∧ ix + 1 = i₀ + k := by
  obtain ⟨j, rfl, e2, hs0, hs1, _, e⟩ := h
  have hsh : (7 * (j : Int)).toNat = 7 * j := by omega
  rw [oct_high hlo hhi] at hb
  rw [oct_low hlo hhi, hsh, or_above hs0 hs1 (by omega)]
  have hc : ks.getD ix.toNat 0 < 128 := by
    by_cases q : ks.getD ix.toNat 0 < 128
    · exact q
    · rw [if_neg q] at hb; exact absurd hb (by decide)
  rw [drop_at (by omega) h1] at e
  simp only [sizeL] at e
  rw [if_pos hc] at e
  generalize ks.getD ix.toNat 0 = c at *
  refine ⟨j + 1, ?_, by push_cast; omega⟩
  rw [e]
  have hm : c % 128 = c := by omega
  simp only [Option.map_some, hm, Int.mul_comm]
theorem shift_oct {c : Int} (h0 : 0 ≤ c) (h1 : c < 256) : (Builtin.bitAnd c (Builtin.bitNot 128)).natAbs < 2 ^ 64 := by
  rw [oct_low h0 h1]; omega
end
end Mine
namespace Mine
set_option maxRecDepth 100000
section
variable {prog : Program} {w : World} {A : Around} {E : Value → Shared → Prop} {Q : Flow → Shared → Prop} {s : Shared} {env : Env} {h₀ : Heap} {L : Addr}
abbrev HdrS := Int × Tok × Int × Tok × Int × Tok
abbrev hdrPs (c : HdrS) : List (Str × Value) := [(Str.ofString "index", .int c.1 c.2.1), (Str.ofString "size", .int c.2.2.1 c.2.2.2.1), (Str.ofString "i", .int c.2.2.2.2.1 c.2.2.2.2.2)]
abbrev hdrStored : List Str := ["index", "size", "i", "cmd"]
abbrev hdrP (ks : List Int) (i₀ : Int) (c : HdrS) : Prop := hdrInv ks i₀ c.1 c.2.2.1 c.2.2.2.2.1
abbrev hdrM (ks : List Int) (c : HdrS) : Nat := (ks.length - c.1).toNat
theorem hdr_loop {test : Expr} {body : List Stmt} {pos : Pos} {m₀ : Str → Option Value} {news : List (Addr × Obj)} (ks : List Int) {i₀ : Int} {t1 t2 t3 : Tok} (F : Fr h₀ L s.heap m₀) (N : News h₀ L s.heap news)
    (h1 : m₀ (Str.ofString "index") = some (.int i₀ t1)) (h2 : m₀ (Str.ofString "size") = some (.int 0 t2)) (h3 : m₀ (Str.ofString "i") = some (.int 0 t3)) (hi : i₀ ≤ ks.length)
    (turn : ∀ ix ixt sz szt sh sht (u : Str → Option Value) h tk, hdrInv ks i₀ ix sz sh →
      Fr h₀ L h (kstB (fun z => if hdrStored.contains z then u z else m₀ z) [(Str.ofString "index", .int ix ixt), (Str.ofString "size", .int sz szt), (Str.ofString "i", .int sh sht)]) → News h₀ L h news →
      wpAny (model prog w) A (isTrue test env (eval test env)) (fun b s₂ =>
        if b = true then wpAny (model prog w) A (execs body env) (KswPost h₀ L s (fun _ => news) hdrPs (fun _ => True) hdrStored m₀ (hdrP ks i₀) (hdrM ks) Q (ix, ixt, sz, szt, sh, sht)) E s₂ else Q .next s₂) E { s with heap := h, toks := tk })
    (hE : PassesOwn (model prog w) A env E) :
    wpAny (model prog w) A (exec (.While test body [] pos) env) Q E s := by
  refine ksw_while (fun _ => news) hdrPs (fun _ => True) hdrStored (hdrP ks i₀) (hdrM ks) (i₀, t1, 0, t2, 0, t3) F N trivial ?_ (hdrInv_start ks i₀ hi) (fun c u h tk _ hp F' N' => turn _ _ _ _ _ _ u h tk hp F' N') hE
  intro p hp
  simp only [hdrPs, List.mem_cons, List.not_mem_nil, or_false] at hp
  rcases hp with rfl | rfl | rfl
  · exact h1
  · exact h2
  · exact h3
theorem hdr_end {ks : List Int} {i₀ ix sz sh a b c : Int} {ixt szt sht t1 t2 t3 : Tok} {m₀ m' : Str → Option Value} {news : List (Addr × Obj)} {h' : Heap} {tk : Nat} (F : Fr h₀ L h' m') (N : News h₀ L h' news)
    (h1 : m' (Str.ofString "index") = some (.int a t1)) (h2 : m' (Str.ofString "size") = some (.int b t2)) (h3 : m' (Str.ofString "i") = some (.int c t3))
    (hr : ∀ z, z ≠ Str.ofString "index" → z ≠ Str.ofString "size" → z ≠ Str.ofString "i" → z ≠ Str.ofString "cmd" → m' z = m₀ z) (hp : hdrInv ks i₀ a b c) (hm : ix < a) :
    KswEnd h₀ L s (fun _ => news) hdrPs (fun _ => True) hdrStored m₀ (hdrP ks i₀) (hdrM ks) (ix, ixt, sz, szt, sh, sht) { s with heap := h', toks := tk } := by
  refine ksw_end (a, t1, b, t2, c, t3) F N (fun _ h => h) trivial ?_ (fun z _ h2 => ?_) hp ?_
  · intro p hp
    simp only [hdrPs, List.mem_cons, List.not_mem_nil, or_false] at hp
    rcases hp with rfl | rfl | rfl
    · exact h1
    · exact h2
    · exact h3
  · simp only [hdrStored, List.contains_cons, List.contains_nil, Bool.or_false, Bool.or_eq_false_iff, beq_eq_false_iff_ne, ne_eq] at h2
    exact hr z h2.1 h2.2.1 h2.2.2.1 h2.2.2.2
  · obtain ⟨_, _, _, _, _, hl, _⟩ := hp
    show (ks.length - a).toNat < (ks.length - ix).toNat
    omega
end
end Mine
open PySem PySem.W PyProof.Rows PySem.Calls PySem.Spec
namespace Mine
set_option maxRecDepth 100000
open Builtin in
theorem slot_join : Slot "bytes" "join" "bytes.join" :=
  .of (owner := "bytes") (n := "join") (by rw [typeLookup_type, builtinLookup_eq_fast]; kernel_rfl) (by decide +kernel) (by decide +kernel) (by decide +kernel)
    (by first | exact .inl (by decide +kernel) | exact .inr (by decide +kernel)) (by rw [isSubtype_type]; kernel_rfl)
theorem type_join : typeOf (.builtin "bytes.join") = pure (.type "method_descriptor") := by show builtinType _ = _; rw [builtinType_eq_fast]; kernel_rfl
theorem entry_join : entryFor table "bytes.join" = some Builtin.«bytes.join» := entryFor_of_tree (by kernel_rfl)
theorem args_join (a b : Value) : argsOk "bytes.join" ⟨[a, b], []⟩ := by unfold argsOk; kernel_rfl
/-- a list of bytes values and the octets of each -/
inductive BytesAre : List Value → List (List Int) → Prop
  | nil : BytesAre [] []
  | cons {b : Array UInt8} {t : Tok} {c : List Int} {vs : List Value} {cs : List (List Int)} : KBw.bInts b = c → BytesAre vs cs → BytesAre (.bytes b t :: vs) (c :: cs)
theorem BytesAre.length {vs : List Value} {cs : List (List Int)} (h : BytesAre vs cs) : vs.length = cs.length := by
  induction h with
  | nil => rfl
  | cons _ _ ih => simp [ih]
theorem BytesAre.append {vs vs' : List Value} {cs cs' : List (List Int)} (h : BytesAre vs cs) (h' : BytesAre vs' cs') : BytesAre (vs ++ vs') (cs ++ cs') := by
  induction h with
  | nil => exact h'
  | cons e _ ih => exact .cons e ih
theorem take_bytes {id : String} {b : Array UInt8} {t : Tok} : Builtin.Bytes.takeBufferQuiet? id (.bytes b t) 0 = pure (some (b, none)) := by
  have h : Builtin.Bytes.takeBuffer? id (.bytes b t) 0 = pure (some (b, none)) := by
    unfold Builtin.Bytes.takeBuffer?
    rw [KBy.special_eq KBy.look_buffer, KBy.own_buffer]
    simp only [pure_bind]
    rw [if_neg (by decide), show ((0 : Int) == Builtin.Bytes.fullReadOnly) = false from by decide, KBy.buffer_eq]
    rfl
  unfold Builtin.Bytes.takeBufferQuiet?
  rw [h]
  rfl
theorem BytesAre.pairs {vs : List Value} {cs : List (List Int)} (h : BytesAre vs cs) : ∃ bs : List (Array UInt8 × Tok), vs = bs.map (fun q => .bytes q.1 q.2) ∧ cs = bs.map fun q => KBw.bInts q.1 := by
  induction h with
  | nil => exact ⟨[], rfl, rfl⟩
  | @cons b t c vs cs e _ ih =>
    obtain ⟨bs, e1, e2⟩ := ih
    exact ⟨(b, t) :: bs, by rw [e1]; rfl, by rw [e2, ← e]; rfl⟩
theorem joined_nil (l : List (Array UInt8)) : KBw.bInts (Builtin.Bytes.joined #[] l) = (l.map KBw.bInts).flatten := by
  unfold Builtin.Bytes.joined
  have key : ∀ (l : List (Array UInt8)) (k : Nat) (o : Array UInt8), KBw.bInts ((l.zipIdx k).foldl (fun out (p, i) => (if i > 0 then out ++ (#[] : Array UInt8) else out) ++ p) o) = KBw.bInts o ++ (l.map KBw.bInts).flatten := by
    intro l
    induction l with
    | nil => intro k o; simp
    | cons p r ih =>
      intro k o
      rw [List.zipIdx_cons, List.foldl_cons, ih]
      have e : (if k > 0 then o ++ (#[] : Array UInt8) else o) = o := by split <;> simp
      dsimp only
      rw [e, List.map_cons, List.flatten_cons, ← List.append_assoc]
      congr 1
      simp [KBw.bInts]
  have := key l 0 #[]
  simpa [KBw.bInts] using this
theorem ints_map (bs : List (Array UInt8 × Tok)) : (bs.map (·.1)).map KBw.bInts = bs.map fun q => KBw.bInts q.1 := by rw [List.map_map]; rfl
theorem off_heap (bs : List (Array UInt8 × Tok)) : ((bs.map fun q => ((Value.bytes q.1 q.2, none) : Value × Option Value)).any fun q => q.1.onHeap) = false := by
  induction bs with
  | nil => rfl
  | cons _ _ ih => rw [List.map_cons, List.any_cons, ih]; rfl
theorem none_all (bs : List (Array UInt8 × Tok)) : ∀ q ∈ bs.map (fun q => ((Value.bytes q.1 q.2, none) : Value × Option Value)), q.2 = none := by
  intro q hq
  obtain ⟨r, _, rfl⟩ := List.mem_map.mp hq
  rfl
theorem foldl_size (l : List (Array UInt8)) (k : Nat) : l.foldl (fun a p => a + p.size) k = k + ((l.map KBw.bInts).flatten).length := by
  induction l generalizing k with
  | nil => simp
  | cons p r ih => rw [List.foldl_cons, ih, List.map_cons, List.flatten_cons, List.length_append, KBw.ints_length]; omega
section
variable {prog : Program} {w : World} {A : Around} {s : Shared} {E : Value → Shared → Prop}
theorem let_go {M : Model} {A : Around} {keep : List Value} {Q : Unit → Shared → Prop} : ∀ (taken : List (Value × Option Value)), (∀ q ∈ taken, q.2 = none) → Q () s → wpAny M A (Builtin.Bytes.joinLetGo taken keep) Q E s
  | [], _, h => wpAny_pure h
  | (x, u) :: r, hn, h => by
    obtain rfl : u = none := hn _ (.head _)
    unfold Builtin.Bytes.joinLetGo
    dsimp only
    refine wpAny_bind ?_
    unfold letGo
    exact wpAny_bind (wpAny_holding (wpAny_point (by unfold letGo; exact wpAny_pure (let_go r (fun q hq => hn q (.tail _ hq)) h))))
theorem join_many {vs : List Value} {cs : List (List Int)} {l : Addr} {t0 : Tok} {Q : Fin → Shared → Prop} (hl : s.heap.IsList l vs.toArray) (hv : BytesAre vs cs) (hsz : cs.flatten.length ≤ 16777216)
    (h : ∀ c t k, KBw.bInts c = cs.flatten → Q (.done (.ret (.bytes c t))) { s with toks := k }) :
    wpAny (model prog w) A (Builtin.«bytes.join» ⟨[.bytes #[] t0, .ref l], []⟩) Q E s := by
  unfold Builtin.«bytes.join» Builtin.Bytes.joinM
  have hT := hl.typeIs (s := s)
  obtain ⟨o, ho, hc, nn, hd⟩ := hl
  obtain ⟨bs, rfl, rfl⟩ := hv.pairs
  refine wpAny_bind (wpAny_of_eq (a := (Value.bytes #[] t0, Value.ref l)) rfl ?_)
  dsimp only
  rw [if_pos (by decide)]
  unfold Builtin.Bytes.joinItems
  refine wpAny_bind (wpAny_bind (wpAny_typeOf hT ?_))
  rw [if_pos (by decide)]
  refine wpAny_pure (wpAny_bind (wpAny_seqItems ho hd ?_))
  dsimp only
  rw [if_pos (by decide)]
  have hsize : (List.map (fun q : Array UInt8 × Tok => Value.bytes q.1 q.2) bs).toArray.size = bs.length := by simp
  have many : ∀ (K : Array (Array UInt8) × List (Value × Option Value) → Sem PySem.Fin) (f : Nat → Array (Array UInt8) × List (Value × Option Value) → Sem (ForInStep (Array (Array UInt8) × List (Value × Option Value)))),
      (∀ i b, i < bs.length → b = (((bs.take i).map (·.1)).toArray, (bs.take i).map fun q => (Value.bytes q.1 q.2, none)) → wpAny (model prog w) A (f i b) (fun r s' => r = .yield (((bs.take (i + 1)).map (·.1)).toArray, (bs.take (i + 1)).map fun q => (Value.bytes q.1 q.2, none)) ∧ s' = s) E s) →
      wpAny (model prog w) A (K ((bs.map (·.1)).toArray, bs.map fun q => (Value.bytes q.1 q.2, none))) Q E s →
      wpAny (model prog w) A (forIn [0:(List.map (fun q : Array UInt8 × Tok => Value.bytes q.1 q.2) bs).toArray.size] (#[], []) f >>= K) Q E s := by
    intro K f hf hK
    refine wpAny_bind ?_
    rw [Std.Legacy.Range.forIn_eq_forIn_range', hsize]
    simp only [Std.Legacy.Range.size, Nat.sub_zero, Nat.add_sub_cancel, Nat.div_one]
    refine wpAny_forIn_list _ (fun rest b s' => ∃ i, i ≤ bs.length ∧ rest = List.range' i (bs.length - i) ∧ b = (((bs.take i).map (·.1)).toArray, (bs.take i).map fun q => (Value.bytes q.1 q.2, none)) ∧ s' = s) _ ?_ ?_ _ _ ⟨0, Nat.zero_le _, rfl, rfl, rfl⟩
    · rintro x rest b s' ⟨i, hi, e1, e2, rfl⟩
      have hlt : i < bs.length := by
        by_cases q : i < bs.length
        · exact q
        · rw [show bs.length - i = 0 by omega] at e1; cases e1
      rw [show bs.length - i = (bs.length - (i + 1)) + 1 by omega, List.range'_succ] at e1
      obtain ⟨ex, er⟩ := List.cons.inj e1
      rw [ex, er]
      refine wpAny_mono (hf i b hlt e2) (fun r s'' hr => ?_) fun _ _ z => z
      obtain ⟨rfl, rfl⟩ := hr
      exact ⟨i + 1, hlt, rfl, rfl, rfl⟩
    · rintro b s' ⟨i, hi, e1, e2, rfl⟩
      have hi' : i = bs.length := by
        by_cases q : i = bs.length
        · exact q
        · have := congrArg List.length e1
          simp at this; omega
      rw [hi'] at e2
      rw [e2, List.take_length]
      exact hK
  have turn : ∀ i, i < bs.length → (List.map (fun q : Array UInt8 × Tok => Value.bytes q.1 q.2) bs).toArray.getD i Value.none = .bytes (bs.getD i (#[], 0)).1 (bs.getD i (#[], 0)).2 := by
    intro i hi
    simp [Array.getD, hi, List.getD_eq_getElem?_getD]
  have next : ∀ i, i < bs.length → bs.take (i + 1) = bs.take i ++ [bs.getD i (#[], 0)] := by
    intro i hi
    rw [List.take_add_one, List.getD_eq_getElem?_getD, List.getElem?_eq_getElem hi]
    rfl
  match bs, hsz, h, hd, many, turn, next with
  | [q], _, h, hd, _, _, _ =>
    change wpAny (model prog w) A (typeOf (.bytes q.1 q.2) >>= _) Q E s
    refine wpAny_bind (wpAny_typeOf (typeIs_bytes _ _ _) ?_)
    rw [if_pos (by decide)]
    exact wpAny_bind (wpAny_rule (wpAny_pure (h _ _ _ (by simp))))
  | [], hsz, h, hd, many, turn, next =>
    change wpAny (model prog w) A (forIn _ _ _ >>= _) Q E s
    refine many _ _ (fun i b hi _ => absurd hi (Nat.not_lt_zero _)) ?_
    refine wpAny_bind (wpAny_of_eq (a := (#[] : Array UInt8)) rfl ?_)
    rw [if_neg (by rw [KBy.tooLong_not (by rw [← Array.foldl_toList, foldl_size, ints_map]; simpa using hsz)]; decide)]
    refine wpAny_bind (m := mkBytes _) (wpAny_mkBytes ?_ (by rw [size_of (joined_nil _), sizeLine_eq, ints_map]; exact hsz))
    refine wpAny_bind (wpAny_holding (wpAny_point ?_))
    refine wpAny_bind (let_go _ (none_all _) ?_)
    exact wpAny_pure (h _ _ _ (by rw [joined_nil, ints_map]))
  | q1 :: q2 :: r, hsz, h, hd, many, turn, next =>
    change wpAny (model prog w) A (forIn _ _ _ >>= _) Q E s
    refine many _ _ (fun i b hi hb => ?_) ?_
    · subst hb
      refine wpAny_bind (wpAny_seqItems ho hd ?_)
      dsimp only
      rw [turn i hi, if_neg (by rw [off_heap]; decide)]
      refine wpAny_bind (wpAny_holding (wpAny_of_eq take_bytes ?_))
      dsimp only
      refine wpAny_bind (wpAny_seqItems ho hd ?_)
      dsimp only
      rw [if_neg (by simp)]
      refine wpAny_pure ⟨?_, rfl⟩
      rw [next i hi]
      simp
    · skip
      refine wpAny_bind (wpAny_of_eq (a := (#[] : Array UInt8)) rfl ?_)
      rw [if_neg (by rw [KBy.tooLong_not (by rw [← Array.foldl_toList, foldl_size, ints_map]; simpa using hsz)]; decide)]
      refine wpAny_bind (m := mkBytes _) (wpAny_mkBytes ?_ (by rw [size_of (joined_nil _), sizeLine_eq, ints_map]; exact hsz))
      refine wpAny_bind (wpAny_holding (wpAny_point ?_))
      refine wpAny_bind (let_go _ (none_all _) ?_)
      exact wpAny_pure (h _ _ _ (by rw [joined_nil, ints_map]))
end
end Mine
namespace Mine
section
variable {prog : Program} {w : World} {A : Around} {s : Shared} {E : Value → Shared → Prop}
theorem meets_join {vs : List Value} {cs : List (List Int)} {l : Addr} {t0 : Tok} (hv : BytesAre vs cs) (hsz : cs.flatten.length ≤ 16777216) :
    Meets (Builtin.«bytes.join» ⟨[.bytes #[] t0, .ref l], []⟩) (fun _ R s => s.heap.IsList l vs.toArray ∧ ∀ c t k, KBw.bInts c = cs.flatten → R (.ok (.ret (.bytes c t))) { s with toks := k }) := by
  refine .of_wp fun prog w A R s hS => ?_
  obtain ⟨hl, h⟩ := hS
  exact join_many hl hv hsz fun c t k e => ⟨_, rfl, h c t k e⟩
theorem join_K {vs : List Value} {cs : List (List Int)} {l : Addr} {t0 : Tok} {Q : Value → Shared → Prop} (hl : s.heap.IsList l vs.toArray) (hv : BytesAre vs cs) (hsz : cs.flatten.length ≤ 16777216)
    (h : ∀ c t k, KBw.bInts c = cs.flatten → Q (.bytes c t) { s with toks := k }) : wpAny (model prog w) A (call (.builtin "bytes.join") [.bytes #[] t0, .ref l]) Q E s :=
  call_meets slot_join (typeIs_bytes _ _ _) entry_join (args_join _ _) (meets_join hv hsz) ⟨hl, h⟩
theorem method_join {M : Model} {b : Array UInt8} {t : Tok} {pl : Sem Bool} {Q : Value × List Value → Shared → Prop} (h : Q (.builtin "bytes.join", [.bytes b t]) s) : wpAny M A (getMethod (.bytes b t) (Str.ofString "join") pl) Q E s := by
  with_reducible exact KBd.method_of (.bytes b t) (typeIs_bytes _ _ _) slot_join type_join KBd.noRef h
end
end Mine
open PySem PySem.W PyProof.Rows PySem.Calls PySem.Spec
namespace Mine
set_option maxRecDepth 100000
section
variable {prog : Program} {w : World} {A : Around} {E : Value → Shared → Prop} {s : Shared} {env : Env} {scope : Scope} {h₀ : Heap} {L : Addr} {m : Str → Option Value} {news : List (Addr × Obj)} {Q : Value → Shared → Prop}
theorem paired_get {R : Value → Value → Prop} {vs ys : List Value} (h : Paired R vs ys) : vs.length = ys.length := by
  induction h with
  | nil => rfl
  | cons _ _ ih => simp [ih]
/-- a comprehension without a test over any list: the element's rule is given -/
theorem comp_list {x : Str} {elt : Expr} {l : Addr} {vs : List Value} {R : Value → Value → Prop} (hh : A.handled = none) (F : Fr h₀ L s.heap m) (N : News h₀ L s.heap news) (hl : s.heap.IsList l vs.toArray) (hz : vs.length ≤ sizeLine)
    (helt : ∀ C v s₃ m₃ E', v ∈ vs → s₃.heap.Ns C m₃ → m₃ x = some v → (∀ b o, h₀.get? b = some o → s₃.heap.get? b = some o) →
      wpAny (model prog w) A (eval elt (compEnv scope C env)) (fun y s₄ => R v y ∧ Keeps s₃ s₄) E' s₃)
    (h : ∀ D ys h' tk n, Fr h₀ L h' m → News h₀ L h' ((D, listOf ys.toArray n) :: news) → (∀ q ∈ news, q.1 ≠ D) → Paired R vs ys → Q (.ref D) { s with heap := h', toks := tk }) :
    wpAny (model prog w) A (pyIter (.ref l)) (CompPost prog w A env scope x [] elt Q) E s := by
  refine wpAny_pyIter_list hl ?_
  have hlt : l < s.heap.objs.size := let ⟨_, e, _⟩ := hl; Heap.lt_size e
  have hne : l ≠ s.heap.objs.size := Nat.ne_of_lt hlt
  have keep1 : ∀ b o, s.heap.get? b = some o → (s.heap.push { cls := .type "list_iterator", data := .fields #[.ref l, .int 0 0] }).get? b = some o := fun b o e => Heap.get?_push_of_some _ e
  refine ⟨fun _ => true, R, s.heap.objs.size, [s.heap.objs.size, l], [s.heap.objs.size], vs.toArray.size, _, _, rfl, Walks.list hh s.heap.objs.size l hne vs.toArray, by simpa using hz, ?_, ?_, ?_, ?_⟩
  · exact ⟨⟨_, Heap.get?_push_size _ rfl, rfl, rfl⟩, let ⟨o, e, r⟩ := hl; ⟨o, keep1 _ _ e, r⟩⟩
  · intro b hb
    have hs : ∀ o : Obj, (s.heap.push o).objs.size = s.heap.objs.size + 1 := fun o => Heap.size_push ..
    show b < (s.heap.push _).objs.size
    rw [hs]
    simp at hb
    rcases hb with rfl | rfl
    · exact Nat.lt_succ_self _
    · exact Nat.lt_succ_of_lt hlt
  · refine ⟨fun C i v s₃ m₃ E' _ _ _ _ _ => ?_, fun C i v s₃ m₃ E' hP _ hns hx hk _ => ?_⟩
    · rw [List.forIn_nil]
      exact wpAny_pure ⟨rfl, _, _, rfl, fun _ _ e => e⟩
    · refine helt C v s₃ m₃ E' ?_ hns hx fun b o e => ?_
      · have := List.mem_of_getElem? (by simpa using hP : vs[i]? = some v)
        exact this
      · have e2 := F.keep b o e
        exact hk b o (by simp only [List.mem_singleton]; exact Nat.ne_of_lt (Heap.lt_size e2)) (keep1 b o e2)
  · intro D h' tk ys vs' hD _ hP hlen hvs hpair hk
    have k2 : ∀ b o, s.heap.get? b = some o → h'.get? b = some o := fun b o e => hk b o (by simp only [List.mem_singleton]; exact Nat.ne_of_lt (Heap.lt_size e)) (keep1 b o e)
    have evs : vs' = vs := by
      refine List.ext_getElem? fun j => ?_
      cases hj : vs'[j]? with
      | none =>
        have : vs'.length ≤ j := List.getElem?_eq_none_iff.mp hj
        rw [List.getElem?_eq_none (by simp at hlen; omega)]
      | some v => have := hvs j v hj; simpa using this.symm
    obtain ⟨n, hDn⟩ := hP
    have hD0 : s.heap.get? D = none := by
      cases q : s.heap.get? D with
      | none => rfl
      | some o => have := keep1 _ _ q; rw [hD] at this; cases this
    have apart : ∀ {b : Addr} {o : Obj}, s.heap.get? b = some o → b ≠ D := fun e q => by rw [q, hD0] at e; cases e
    subst evs
    obtain ⟨ysl⟩ := ys
    refine h D ysl h' tk n (F.keeps k2) (fun q hq => ?_) (fun q hq => apart (N q hq).1) (by rw [List.filter_eq_self.mpr (fun _ _ => rfl)] at hpair; exact hpair)
    rcases List.mem_cons.mp hq with rfl | hq
    · obtain ⟨oL, _, _, hL, _⟩ := F.ns
      refine ⟨hDn, Ne.symm (apart hL), ?_⟩
      cases q : h₀.get? D with
      | none => rfl
      | some o => have := F.keep _ _ q; rw [hD0] at this; cases this
    · exact ⟨k2 _ _ (N q hq).1, (N q hq).2⟩
/-- len of a local within a comprehension's block -/
theorem len_local {C : Addr} {x : Str} {np cp ap : Pos} {b : Array UInt8} {t : Tok} {m₃ mg mb : Str → Option Value} {p : Program} {loose : List Str} {mean : ExcName → Option Value} {Q : Value → Shared → Prop} {K : Frag}
    (hns : s.heap.Ns C m₃) (hx : m₃ x = some (.bytes b t)) (hk : ∀ b o, h₀.get? b = some o → s.heap.get? b = some o) (X : K.In h₀) (T : Top p loose mean mg mb h₀) (e : nsIn K mainGlobals "len" = some none)
    (hz : b.size ≤ 1099511627776) (h : ∀ t' tk, Q (.int (b.size : Nat) t') { s with toks := tk })
    (hkind : scope.kind = .function) (hl : scope.names.lookup (Str.ofString "len") = some .globalImplicit) (hxl : scope.names.lookup x = some .local) (hd : (x == ("__debug__" : Str)) = false) (hg : env.globals = mainGlobals) (hb : env.builtins = builtinsNs) :
    wpAny (model prog w) A (eval (.Call (.Name "len" np) [.Name x ap] [] cp) (compEnv scope C env)) Q E s := by
  refine wpAny_Call_ofName (Name_function_global hkind hl (loadGlobal_builtin (mg := mg) (mb := mb) (by show s.heap.Ns env.globals mg; rw [hg]; exact T.g.keeps hk) (mg_none_of X T.g e) (by show s.heap.Ns env.builtins mb; rw [hb]; exact T.b.keeps hk) ((T.builtins "len" (by decide)).trans boot_len) ?_))
  refine callWith_builtin (by rfl) (evalArgs_plain (spliced_cons ?_))
  refine wpAny_Name (wpAny_loadName_local (v := .bytes b t) hkind hxl hns hx ?_) hd
  show wpAny _ _ (spliced []) _ _ _
  rw [spliced]
  refine wpAny_pure ?_
  exact len_b rfl (by rw [KBw.ints_length]; exact hz) (fun t' tk => by rw [KBw.ints_length]; exact h t' tk)
end
end Mine
namespace Mine
def LenOf (v y : Value) : Prop := ∃ b t t', v = .bytes b t ∧ y = .int ((Array.size b : Nat) : Int) t'
theorem lens_are : ∀ {vs ys : List Value} {cs : List (List Int)}, BytesAre vs cs → Paired LenOf vs ys → IntsAre ys (cs.map fun c => (c.length : Int))
  | _, _, _, .nil, .nil => .nil
  | _, _, _, .cons e hv, .cons ⟨b, t, t', e1, e2⟩ hp => by
    cases e1
    subst e2
    rw [List.map_cons, ← size_of e]
    exact .cons _ _ (lens_are hv hp)
theorem sum_lens (cs : List (List Int)) : (cs.map fun c => (c.length : Int)).sum = (cs.flatten.length : Int) := by
  induction cs with
  | nil => rfl
  | cons c r ih => rw [List.map_cons, List.sum_cons, ih, List.flatten_cons, List.length_append]; push_cast; rfl
theorem BytesAre.mem {vs : List Value} {cs : List (List Int)} (h : BytesAre vs cs) {v : Value} (hv : v ∈ vs) : ∃ b t, v = .bytes b t ∧ KBw.bInts b ∈ cs := by
  induction h with
  | nil => cases hv
  | cons e _ ih =>
    cases hv with
    | head => exact ⟨_, _, rfl, by rw [e]; exact .head _⟩
    | tail _ hv => obtain ⟨b, t, e1, e2⟩ := ih hv; exact ⟨b, t, e1, .tail _ e2⟩
end Mine
open PySem PySem.W PyProof.Rows PySem.Calls PySem.Spec
namespace Mine
set_option maxRecDepth 100000
theorem sizeL_facts : ∀ {r : List Int} {v : Int} {k : Nat}, Oct r → sizeL r = some (v, k) → 0 ≤ v ∧ v < 2 ^ (7 * k) ∧ 1 ≤ k ∧ k ≤ r.length
  | [], _, _, _, h => by cases h
  | c :: r, v, k, ho, h => by
    have hc := ho c (.head _)
    unfold sizeL at h
    split at h
    · cases h
      refine ⟨hc.1, ?_, Nat.le_refl _, by simp⟩
      show c < 2 ^ 7
      omega
    · simp only [Option.map_eq_some_iff] at h
      obtain ⟨⟨v', k'⟩, h1, h2⟩ := h
      have ih := sizeL_facts (fun x hx => ho x (.tail _ hx)) h1
      cases h2
      have p1 : (2 : Int) ^ (7 * (k' + 1)) = 2 ^ (7 * k') * 128 := by rw [Nat.mul_add, Int.pow_add]; rfl
      refine ⟨by omega, by rw [p1]; omega, by omega, by simp only [List.length_cons]; omega⟩
theorem Oct.drop {r : List Int} (h : Oct r) (n : Nat) : Oct (r.drop n) := fun x hx => h x (List.mem_of_mem_drop hx)
theorem sizeL_at {ks : List Int} {i v : Int} {k : Nat} (h : Oct ks) (h0 : 0 ≤ i) (hi : i ≤ ks.length) (e : sizeL (ks.drop i.toNat) = some (v, k)) : 0 ≤ v ∧ v < 2 ^ (7 * k) ∧ 1 ≤ k ∧ i + (k : Int) ≤ ks.length := by
  have q := sizeL_facts (h.drop _) e
  rw [List.length_drop] at q
  omega
/-- the octets that follow a copy's first: those that its bits k .. k + n - 1 name, the least first -/
def fieldsL (c : Int) : Nat → Nat → List Int → Option (Int × List Int)
  | _, 0, r => some (0, r)
  | k, n + 1, r => if c / 2 ^ k % 2 = 1 then (match r with | [] => none | x :: q => (fieldsL c (k + 1) n q).map fun p => (x + 256 * p.1, p.2)) else (fieldsL c (k + 1) n r).map fun p => (256 * p.1, p.2)
/-- between the turns of the loop that reads such octets -/
def fldInv (ks : List Int) (c : Int) (k₀ n : Nat) (i₀ : Int) (j : Nat) (idx off : Int) : Prop :=
  0 ≤ off ∧ off < 256 ^ j ∧ i₀ ≤ idx ∧ idx ≤ ks.length ∧ fieldsL c k₀ n (ks.drop i₀.toNat) = (fieldsL c (k₀ + j) (n - j) (ks.drop idx.toNat)).map fun p => (off + 256 ^ j * p.1, p.2)
theorem fldInv_start (ks : List Int) (c : Int) (k₀ n : Nat) (i₀ : Int) (h : i₀ ≤ ks.length) : fldInv ks c k₀ n i₀ 0 i₀ 0 :=
  ⟨Int.le_refl _, by decide, Int.le_refl _, h, by cases fieldsL c k₀ n (ks.drop i₀.toNat) <;> simp [*]⟩
section
variable {ks : List Int} {c i₀ idx off : Int} {k₀ n j : Nat}
theorem fld_skip (h : fldInv ks c k₀ n i₀ j idx off) (hj : j < n) (hb : ¬ c / 2 ^ (k₀ + j) % 2 = 1) : fldInv ks c k₀ n i₀ (j + 1) idx off := by
  obtain ⟨h0, h1, h2, h3, e⟩ := h
  have pp : (0 : Int) < 256 ^ j := pow_pos_of (by decide) j
  have p1 : (256 : Int) ^ (j + 1) = 256 ^ j * 256 := Int.pow_succ ..
  refine ⟨h0, by rw [p1]; omega, h2, h3, ?_⟩
  rw [e, show n - j = (n - (j + 1)) + 1 by omega]
  simp only [fieldsL]
  rw [if_neg hb, show k₀ + j + 1 = k₀ + (j + 1) by omega]
  cases fieldsL c (k₀ + (j + 1)) (n - (j + 1)) (ks.drop idx.toNat) with
  | none => rfl
  | some p => simp only [Option.map_some, Option.some.injEq, Prod.mk.injEq, and_true]; rw [p1, Int.mul_assoc]
theorem fld_take (h : fldInv ks c k₀ n i₀ j idx off) (h00 : 0 ≤ i₀) (hj : j < n) (hb : c / 2 ^ (k₀ + j) % 2 = 1) (hl : idx < ks.length) (hlo : 0 ≤ ks.getD idx.toNat 0) (hhi : ks.getD idx.toNat 0 < 256) :
    fldInv ks c k₀ n i₀ (j + 1) (idx + 1) (Builtin.bitOr off (ks.getD idx.toNat 0 * 2 ^ (j * 8))) := by
  obtain ⟨h0, h1, h2, h3, e⟩ := h
  have pe : (2 : Int) ^ (j * 8) = 256 ^ j := by rw [Nat.mul_comm, Int.pow_mul]; rfl
  have pp : (0 : Int) < 256 ^ j := pow_pos_of (by decide) j
  have p1 : (256 : Int) ^ (j + 1) = 256 ^ j * 256 := Int.pow_succ ..
  rw [or_above h0 (by rw [pe]; exact h1) hlo, pe]
  rw [drop_at (ix := idx) (by omega) (by omega)] at e
  generalize ks.getD idx.toNat 0 = x at *
  have m1 : x * 256 ^ j ≤ 255 * 256 ^ j := Int.mul_le_mul_of_nonneg_right (by omega) (Int.le_of_lt pp)
  have m0 : 0 ≤ x * 256 ^ j := Int.mul_nonneg hlo (Int.le_of_lt pp)
  refine ⟨by omega, by rw [p1]; omega, by omega, by omega, ?_⟩
  rw [e, show n - j = (n - (j + 1)) + 1 by omega]
  simp only [fieldsL]
  rw [if_pos hb, show k₀ + j + 1 = k₀ + (j + 1) by omega]
  cases fieldsL c (k₀ + (j + 1)) (n - (j + 1)) (ks.drop (idx + 1).toNat) with
  | none => rfl
  | some p =>
    simp only [Option.map_some, Option.some.injEq, Prod.mk.injEq, and_true]
    rw [p1, Int.mul_add, Int.mul_comm x, Int.mul_assoc]
    omega
theorem fld_fail (h : fldInv ks c k₀ n i₀ j idx off) (hj : j < n) (hb : c / 2 ^ (k₀ + j) % 2 = 1) (hl : (ks.length : Int) ≤ idx) : fieldsL c k₀ n (ks.drop i₀.toNat) = none := by
  obtain ⟨h0, h1, h2, h3, e⟩ := h
  rw [e, show n - j = (n - (j + 1)) + 1 by omega, List.drop_of_length_le (by omega)]
  simp only [fieldsL]
  rw [if_pos hb]
  rfl
theorem fld_done (h : fldInv ks c k₀ n i₀ n idx off) : fieldsL c k₀ n (ks.drop i₀.toNat) = some (off, ks.drop idx.toNat) := by
  obtain ⟨h0, h1, h2, h3, e⟩ := h
  rw [e, Nat.sub_self]
  simp [fieldsL]
end
section
variable {prog : Program} {w : World} {A : Around} {E : Value → Shared → Prop} {s : Shared} {env : Env} {h₀ : Heap} {body : List Stmt} {Q : Flow → Shared → Prop}
abbrev FldS := Obj × Int × Tok × Int × Tok
abbrev fldLed (ci : Addr) (rest : List (Addr × Obj)) (c : FldS) : List (Addr × Obj) := (ci, c.1) :: rest
abbrev fldFacts (c : FldS) : Prop := c.1.data = .cell (some (.int c.2.1 c.2.2.1))
def FldPost (h₀ : Heap) (L : Addr) (ci : Addr) (rest : List (Addr × Obj)) (offn : Str) (m₀ : Str → Option Value) (ks : List Int) (cc : Int) (k₀ n : Nat) (i₀ : Int) (j : Nat) (own : List (Addr × Obj)) (s : Shared) (Q : Flow → Shared → Prop) (f : Flow) (s₂ : Shared) : Prop :=
  match f with
  | .ret v => Q (.ret v) s₂
  | .brk => Q .next s₂
  | _ => ∃ h' tk m' news' oi idx tidx off toff, s₂ = { s with heap := h', toks := tk } ∧ Fr h₀ L h' m' ∧ News h₀ L h' news' ∧ (∀ q ∈ (ci, oi) :: rest, q ∈ news') ∧ (∀ q ∈ own, q ∈ news') ∧ oi.data = .cell (some (.int idx tidx)) ∧ m' offn = some (.int off toff) ∧
     (∀ z : Str, z ≠ Str.ofString "i" → z ≠ offn → z ≠ Str.ofString "x" → m' z = m₀ z) ∧ fldInv ks cc k₀ n i₀ (j + 1) idx off
theorem for_fields {r : Addr} {t₀ u₀ v₀ : Tok} {m₀ : Str → Option Value} {news : List (Addr × Obj)} (ks : List Int) (cc : Int) (k₀ n : Nat) {i₀ : Int} {ti to : Tok} {oi : Obj} {ci : Addr} (rest : List (Addr × Obj)) (offn : Str)
    {nI : Int} (hh : A.handled = none) (hr : IsRange s.heap r 0 nI 1 t₀ u₀ v₀) (hnI : nI = (n : Int)) (hn : n ≤ 10) (F : Fr h₀ env.locals s.heap m₀) (N : News h₀ env.locals s.heap news) (hci : (ci, oi) ∈ news) (hrest : ∀ q ∈ rest, q ∈ news)
    (hd : oi.data = .cell (some (.int i₀ ti))) (ho : m₀ offn = some (.int 0 to)) (hi : i₀ ≤ ks.length) (hne : offn ≠ "i") (hne2 : offn ≠ "x")
    (turn : ∀ (j : Nat) oi idx tidx off toff t (u : Str → Option Value) h tk own, j < n → OwnOff own (ci :: rest.map (·.1)) → oi.data = .cell (some (.int idx tidx)) → fldInv ks cc k₀ n i₀ j idx off →
      Fr h₀ env.locals h (fun y => if y = "i" then some (.int (j : Int) t) else kstB (fun z => if [Str.ofString "i", offn, Str.ofString "x"].contains z then u z else m₀ z) [(offn, .int off toff)] y) → News h₀ env.locals h ((ci, oi) :: (rest ++ own)) →
      wpAny (model prog w) A (execs body env) (FldPost h₀ env.locals ci rest offn m₀ ks cc k₀ n i₀ j own { s with heap := h, toks := tk } Q) E { s with heap := h, toks := tk })
    (done : ∀ oi idx tidx off toff (u : Str → Option Value) h tk, oi.data = .cell (some (.int idx tidx)) → fldInv ks cc k₀ n i₀ n idx off →
      Fr h₀ env.locals h (fun y => if y = "i" then u y else kstB (fun z => if [Str.ofString "i", offn, Str.ofString "x"].contains z then u z else m₀ z) [(offn, .int off toff)] y) → News h₀ env.locals h ((ci, oi) :: rest) → Q .next { s with heap := h, toks := tk }) :
    wpAny (model prog w) A (pyIter (.ref r)) (fun it s₂ => LoopAtV prog w A h₀ env "i" body Q E it s₂) E s := by
  subst hnI
  have N1 : News h₀ env.locals s.heap (fldLed ci rest (oi, i₀, ti, 0, to)) := fun q hq => by
    rcases List.mem_cons.mp hq with rfl | hq
    · exact N _ hci
    · exact N _ (hrest q hq)
  refine kst_range (x := "i") (n := n) (fldLed ci rest) (fun c => [(offn, .int c.2.2.2.1 c.2.2.2.2)]) fldFacts [Str.ofString "i", offn, Str.ofString "x"] (fun pre c => fldInv ks cc k₀ n i₀ pre.length c.2.1 c.2.2.2.1) (oi, i₀, ti, 0, to) hh hr ?_ ?_ F N1 hd ?_ (fldInv_start ks cc k₀ n i₀ hi) ?_ ?_
  · have : ∀ k : Fin 11, Builtin.Range.small 0 ((k.val : Nat) : Int) 1 = true := by decide +kernel
    exact this ⟨n, by omega⟩
  · have : ∀ k : Fin 11, Builtin.Range.rangeSize 0 ((k.val : Nat) : Int) 1 = ((k.val : Nat) : Int) := by decide +kernel
    exact this ⟨n, by omega⟩
  · intro p hp
    rw [List.mem_singleton.mp hp]; exact ho
  · rintro ⟨oi, idx, tidx, off, toff⟩ pre k t u h tk own hk hlt hoff hf hp F' N'
    have hk' : k = (pre.length : Int) := by omega
    subst hk'
    refine wpAny_mono (turn pre.length oi idx tidx off toff t u h tk own hlt (by simpa using hoff) hf hp F' N') (fun f s₂ z => ?_) fun _ _ z => z
    have up : FldPost h₀ env.locals ci rest offn m₀ ks cc k₀ n i₀ pre.length own { s with heap := h, toks := tk } Q .next s₂ → InvEndN h₀ env.locals (KstS (fldLed ci rest) (fun c => [(offn, .int c.2.2.2.1 c.2.2.2.2)]) fldFacts "i" [Str.ofString "i", offn, Str.ofString "x"] m₀ (fun pre c => fldInv ks cc k₀ n i₀ pre.length c.2.1 c.2.2.2.1) (pre ++ [(pre.length : Int)])) own ((fldLed ci rest (oi, i₀, ti, 0, to)).map (·.1)) { s with heap := h, toks := tk } s₂ := by
      rintro ⟨h', tk', m', news', oi', idx', tidx', off', toff', rfl, F2, N2, a1, a2, a3, a4, a5, a6⟩
      refine kst_end (oi', idx', tidx', off', toff') F2 N2 a1 a2 rfl a3 ?_ ?_ (by simpa using a6)
      · intro p hp
        rw [List.mem_singleton.mp hp]; exact a4
      · intro z hz _ hs
        simp only [List.contains_cons, List.contains_nil, Bool.or_false, Bool.or_eq_false_iff, beq_eq_false_iff_ne, ne_eq] at hs
        exact a5 z hs.1 hs.2.1 hs.2.2
    cases f with
    | ret v => exact z
    | brk => exact z
    | next => exact up z
    | cont => exact up z
  · rintro ⟨oi, idx, tidx, off, toff⟩ u h tk hf hp F' N'
    exact done oi idx tidx off toff u h tk hf (by simpa [rangeKs_length] using hp) F' N'
end
end Mine
open PySem PySem.W PyProof.Rows PySem.Calls PySem.Spec
namespace Mine
set_option maxRecDepth 100000
def copySz (s : Int) : Int := if s = 0 then 65536 else s
/-- the steps of a delta upon the text bk; r: the octets left, rem: the length left, acc: the target so far -/
def opsL (bk : List Int) : Nat → List Int → Int → List Int → Option (List Int)
  | 0, _, _, _ => none
  | n + 1, r, rem, acc => match r with
    | [] => if rem = 0 then some acc else none
    | c :: q =>
      if 128 ≤ c then
        match fieldsL c 0 4 q with
        | none => none
        | some (off, q1) => match fieldsL c 4 3 q1 with
          | none => none
          | some (sz, q2) => if off + copySz sz > bk.length ∨ copySz sz > rem then (if q2 = [] ∧ rem = 0 then some acc else none) else opsL bk n q2 (rem - copySz sz) (acc ++ cut bk off (off + copySz sz))
      else if c = 0 then none
      else if c > rem ∨ c > q.length then none
      else opsL bk n (q.drop c.toNat) (rem - c) (acc ++ q.take c.toNat)
def readOps (bk r : List Int) (rem : Int) (acc : List Int) : Option (List Int) := opsL bk (r.length + 1) r rem acc
def readDelta (bk dk : List Int) : Option (List Int) := match sizeL dk with
  | none => none
  | some (s1, k1) => match sizeL (dk.drop k1) with
    | none => none
    | some (s2, k2) => if s1 = bk.length then readOps bk (dk.drop (k1 + k2)) s2 [] else none
theorem fieldsL_len {c : Int} : ∀ {n k : Nat} {r : List Int} {v : Int} {q : List Int}, fieldsL c k n r = some (v, q) → q.length ≤ r.length
  | 0, _, r, v, q, h => by simp [fieldsL] at h; rw [h.2]; exact Nat.le_refl _
  | n + 1, k, r, v, q, h => by
    unfold fieldsL at h
    split at h
    · cases r with
      | nil => cases h
      | cons x r =>
        simp only [Option.map_eq_some_iff] at h
        obtain ⟨⟨v', q'⟩, h1, h2⟩ := h
        have := fieldsL_len h1
        cases h2
        simp only [List.length_cons]; omega
    · simp only [Option.map_eq_some_iff] at h
      obtain ⟨⟨v', q'⟩, h1, h2⟩ := h
      have := fieldsL_len h1
      cases h2
      exact this
theorem opsL_cons (bk : List Int) (n : Nat) (c : Int) (q : List Int) (rem : Int) (acc : List Int) : opsL bk (n + 1) (c :: q) rem acc =
    if 128 ≤ c then
      match fieldsL c 0 4 q with
      | none => none
      | some (off, q1) => match fieldsL c 4 3 q1 with
        | none => none
        | some (sz, q2) => if off + copySz sz > bk.length ∨ copySz sz > rem then (if q2 = [] ∧ rem = 0 then some acc else none) else opsL bk n q2 (rem - copySz sz) (acc ++ cut bk off (off + copySz sz))
    else if c = 0 then none
    else if c > rem ∨ c > q.length then none
    else opsL bk n (q.drop c.toNat) (rem - c) (acc ++ q.take c.toNat) := rfl
theorem opsL_fuel (bk : List Int) : ∀ (n m : Nat) (r : List Int) (rem : Int) (acc : List Int), r.length < n → r.length < m → opsL bk n r rem acc = opsL bk m r rem acc
  | 0, _, _, _, _, h, _ => absurd h (Nat.not_lt_zero _)
  | _, 0, _, _, _, _, h => absurd h (Nat.not_lt_zero _)
  | n + 1, m + 1, [], rem, acc, _, _ => by simp only [opsL]
  | n + 1, m + 1, c :: q, rem, acc, hn, hm => by
    simp only [List.length_cons] at hn hm
    rw [opsL_cons, opsL_cons]
    cases h1 : fieldsL c 0 4 q with
    | none => simp only []; rw [opsL_fuel bk n m _ _ _ (by rw [List.length_drop]; omega) (by rw [List.length_drop]; omega)]
    | some p =>
      obtain ⟨off, q1⟩ := p
      have l1 := fieldsL_len h1
      cases h2 : fieldsL c 4 3 q1 with
      | none => simp only [h2]; rw [opsL_fuel bk n m _ _ _ (by rw [List.length_drop]; omega) (by rw [List.length_drop]; omega)]
      | some p2 =>
        obtain ⟨sz, q2⟩ := p2
        have l2 := fieldsL_len h2
        simp only [h2]
        rw [opsL_fuel bk n m q2 _ _ (by omega) (by omega), opsL_fuel bk n m (q.drop _) _ _ (by rw [List.length_drop]; omega) (by rw [List.length_drop]; omega)]
theorem readOps_of (bk : List Int) {n : Nat} {r : List Int} {rem : Int} {acc : List Int} (h : r.length < n) : opsL bk n r rem acc = readOps bk r rem acc := opsL_fuel bk _ _ _ _ _ h (Nat.lt_succ_self _)
section
variable {bk q q1 q2 acc : List Int} {c rem off sz : Int}
theorem ops_nil : readOps bk [] rem acc = if rem = 0 then some acc else none := rfl
theorem ops_none0 (hc : 128 ≤ c) (h1 : fieldsL c 0 4 q = none) : readOps bk (c :: q) rem acc = none := by
  unfold readOps
  rw [List.length_cons, opsL_cons]
  rw [if_pos hc, h1]
theorem ops_none1 (hc : 128 ≤ c) (h1 : fieldsL c 0 4 q = some (off, q1)) (h2 : fieldsL c 4 3 q1 = none) : readOps bk (c :: q) rem acc = none := by
  unfold readOps
  rw [List.length_cons, opsL_cons]
  rw [if_pos hc, h1]
  simp only [h2]
theorem ops_copy (hc : 128 ≤ c) (h1 : fieldsL c 0 4 q = some (off, q1)) (h2 : fieldsL c 4 3 q1 = some (sz, q2)) (hf1 : off + copySz sz ≤ bk.length) (hf2 : copySz sz ≤ rem) :
    readOps bk (c :: q) rem acc = readOps bk q2 (rem - copySz sz) (acc ++ cut bk off (off + copySz sz)) := by
  have l1 := fieldsL_len h1
  have l2 := fieldsL_len h2
  conv => lhs; unfold readOps
  rw [List.length_cons, opsL_cons]
  rw [if_pos hc, h1]
  simp only [h2]
  rw [if_neg (by omega), readOps_of bk (by omega)]
theorem ops_bad (hc : 128 ≤ c) (h1 : fieldsL c 0 4 q = some (off, q1)) (h2 : fieldsL c 4 3 q1 = some (sz, q2)) (hf : off + copySz sz > bk.length ∨ copySz sz > rem) :
    readOps bk (c :: q) rem acc = if q2 = [] ∧ rem = 0 then some acc else none := by
  unfold readOps
  rw [List.length_cons, opsL_cons]
  rw [if_pos hc, h1]
  simp only [h2]
  rw [if_pos hf]
theorem ops_zero : readOps bk (0 :: q) rem acc = none := by
  unfold readOps
  rw [List.length_cons, opsL_cons, if_neg (by decide), if_pos rfl]
theorem ops_long (hc : ¬ 128 ≤ c) (h : c > rem ∨ c > q.length) : readOps bk (c :: q) rem acc = none := by
  unfold readOps
  rw [List.length_cons, opsL_cons]
  rw [if_neg hc, if_pos h]
  simp
theorem ops_insert (hc : ¬ 128 ≤ c) (h0 : c ≠ 0) (h1 : c ≤ rem) (h2 : c ≤ q.length) : readOps bk (c :: q) rem acc = readOps bk (q.drop c.toNat) (rem - c) (acc ++ q.take c.toNat) := by
  conv => lhs; unfold readOps
  rw [List.length_cons, opsL_cons]
  rw [if_neg hc, if_neg h0, if_neg (by omega), readOps_of bk (by rw [List.length_drop]; omega)]
end
end Mine
open PySem PySem.W PyProof.Rows PySem.Calls PySem.Spec
namespace Mine
set_option maxRecDepth 100000
def mainInv (bk dk : List Int) (R : Option (List Int)) (dest idx rem : Int) (cs : List (List Int)) : Prop :=
  0 ≤ idx ∧ idx ≤ dk.length ∧ 0 ≤ rem ∧ rem + cs.flatten.length = dest ∧ (cs.length : Int) ≤ idx ∧ (cs.flatten.length : Int) ≤ 200000 * idx ∧ readOps bk (dk.drop idx.toNat) rem cs.flatten = R
def afterInv (dk : List Int) (R : Option (List Int)) (dest idx rem : Int) (cs : List (List Int)) : Prop :=
  0 ≤ idx ∧ idx ≤ dk.length ∧ 0 ≤ rem ∧ rem + cs.flatten.length = dest ∧ (cs.length : Int) ≤ dk.length ∧ (cs.flatten.length : Int) ≤ 200000 * dk.length ∧ R = (if idx = dk.length ∧ rem = 0 then some cs.flatten else none)
theorem start_main {bk dk : List Int} {ix1 ix2 s1 s2 : Int} {k1 k2 : Nat} (h1 : sizeL (dk.drop (Int.toNat 0)) = some (s1, k1)) (e1 : ix1 = 0 + (k1 : Int)) (h2 : sizeL (dk.drop ix1.toNat) = some (s2, k2)) (e2 : ix2 = ix1 + k2)
    (hs : s1 = bk.length) (h0 : 0 ≤ s2) (hl : ix2 ≤ dk.length) : mainInv bk dk (readDelta bk dk) s2 ix2 s2 [] := by
  refine ⟨by omega, hl, h0, by simp, by simp; omega, by simp; omega, ?_⟩
  have a1 : sizeL dk = some (s1, k1) := by simpa using h1
  have a2 : ix1.toNat = k1 := by omega
  have a3 : ix2.toNat = k1 + k2 := by omega
  rw [a2] at h2
  unfold readDelta
  rw [a1]
  simp only [h2]
  rw [if_pos hs, a3]
  rfl
theorem delta_none1 {bk dk : List Int} (h1 : sizeL (dk.drop (Int.toNat 0)) = none) : readDelta bk dk = none := by
  have a1 : sizeL dk = none := by simpa using h1
  unfold readDelta
  rw [a1]
theorem delta_none2 {bk dk : List Int} {ix1 s1 : Int} {k1 : Nat} (h1 : sizeL (dk.drop (Int.toNat 0)) = some (s1, k1)) (e1 : ix1 = 0 + (k1 : Int)) (h2 : sizeL (dk.drop ix1.toNat) = none) : readDelta bk dk = none := by
  have a1 : sizeL dk = some (s1, k1) := by simpa using h1
  have a2 : ix1.toNat = k1 := by omega
  rw [a2] at h2
  unfold readDelta
  rw [a1]
  simp only [h2]
theorem delta_none3 {bk dk : List Int} {ix1 s1 s2 : Int} {k1 k2 : Nat} (h1 : sizeL (dk.drop (Int.toNat 0)) = some (s1, k1)) (e1 : ix1 = 0 + (k1 : Int)) (h2 : sizeL (dk.drop ix1.toNat) = some (s2, k2)) (hs : s1 ≠ bk.length) : readDelta bk dk = none := by
  have a1 : sizeL dk = some (s1, k1) := by simpa using h1
  have a2 : ix1.toNat = k1 := by omega
  rw [a2] at h2
  unfold readDelta
  rw [a1]
  simp only [h2]
  rw [if_neg hs]
theorem digits_ok {v : Int} {k : Nat} (h0 : 0 ≤ v) (h1 : v < 2 ^ (7 * k)) (hk : k ≤ 1842) : v.natAbs < 2 ^ 12900 := by
  obtain ⟨n, rfl⟩ := Int.eq_ofNat_of_zero_le h0
  rw [← kbt_cast] at h1
  have h2 : n < 2 ^ (7 * k) := Int.ofNat_lt.mp h1
  rw [Int.natAbs_natCast]
  exact Nat.lt_of_lt_of_le h2 (Nat.pow_le_pow_right (by decide) (by omega))
theorem digits_len {n : Nat} (h : n ≤ 200000) : ((n : Nat) : Int).natAbs < 2 ^ 12900 := by
  rw [Int.natAbs_natCast]
  have : (200000 : Nat) < 2 ^ 12900 := Nat.lt_of_lt_of_le (by decide : 200000 < 2 ^ 18) (Nat.pow_le_pow_right (by decide) (by decide))
  omega
theorem main_out {bk dk : List Int} {R : Option (List Int)} {dest idx rem : Int} {cs : List (List Int)} (h : mainInv bk dk R dest idx rem cs) (hl : ¬ idx < dk.length) : afterInv dk R dest idx rem cs := by
  obtain ⟨h1, h2, h3, h4, h5, h6, h7⟩ := h
  refine ⟨h1, h2, h3, h4, by omega, by omega, ?_⟩
  rw [← h7, List.drop_of_length_le (by omega), ops_nil]
  have e : idx = dk.length := by omega
  by_cases q : rem = 0
  · rw [if_pos q, if_pos ⟨e, q⟩]
  · rw [if_neg q, if_neg fun z => q z.2]
section
variable {prog : Program} {w : World} {A : Around} {E : Value → Shared → Prop} {Q : Flow → Shared → Prop} {s : Shared} {env : Env} {h₀ : Heap} {L : Addr}
abbrev mainStored : List Str := ["remaining", "cmd", "cp_off", "i", "x", "cp_size"]
abbrev MainS := Obj × Int × Tok × Int × Tok × List Value × List (List Int) × Nat
abbrev mainLed (ci lo : Addr) (fixed : List (Addr × Obj)) (c : MainS) : List (Addr × Obj) := (ci, c.1) :: (lo, listOf c.2.2.2.2.2.1.toArray c.2.2.2.2.2.2.2) :: fixed
abbrev mainPs (c : MainS) : List (Str × Value) := [(Str.ofString "remaining", .int c.2.2.2.1 c.2.2.2.2.1)]
abbrev mainFacts (c : MainS) : Prop := c.1.data = .cell (some (.int c.2.1 c.2.2.1)) ∧ BytesAre c.2.2.2.2.2.1 c.2.2.2.2.2.2.1
def MainAt (h₀ : Heap) (L : Addr) (ci lo : Addr) (fixed : List (Addr × Obj)) (m₀ : Str → Option Value) (s : Shared) (I : Int → Int → List (List Int) → Prop) (s₂ : Shared) : Prop :=
  ∃ h' tk m' news' oi idx tidx rem trem vs cs nn, s₂ = { s with heap := h', toks := tk } ∧ Fr h₀ L h' m' ∧ News h₀ L h' news' ∧ (∀ q ∈ (ci, oi) :: (lo, listOf (List.toArray vs) nn) :: fixed, q ∈ news') ∧ oi.data = .cell (some (.int idx tidx)) ∧ BytesAre vs cs ∧
    m' (Str.ofString "remaining") = some (.int rem trem) ∧ (∀ z : Str, z ≠ Str.ofString "remaining" → z ≠ Str.ofString "cmd" → z ≠ Str.ofString "cp_off" → z ≠ Str.ofString "i" → z ≠ Str.ofString "x" → z ≠ Str.ofString "cp_size" → m' z = m₀ z) ∧ I idx rem cs
def MainPost (h₀ : Heap) (L : Addr) (ci lo : Addr) (fixed : List (Addr × Obj)) (m₀ : Str → Option Value) (s : Shared) (Q : Flow → Shared → Prop) (I J : Int → Int → List (List Int) → Prop) (f : Flow) (s₂ : Shared) : Prop :=
  match f with
  | .ret v => Q (.ret v) s₂
  | .brk => MainAt h₀ L ci lo fixed m₀ s J s₂
  | _ => MainAt h₀ L ci lo fixed m₀ s I s₂
theorem main_loop {test : Expr} {body : List Stmt} {pos : Pos} {m₀ : Str → Option Value} {news : List (Addr × Obj)} (bk dk : List Int) (R : Option (List Int)) (dest : Int) {idx : Int} {tidx trem : Tok} {oi : Obj} {ci lo : Addr} {nn : Nat} (fixed : List (Addr × Obj))
    (F : Fr h₀ L s.heap m₀) (N : News h₀ L s.heap news) (hci : (ci, oi) ∈ news) (hlo : (lo, listOf #[] nn) ∈ news) (hfix : ∀ q ∈ fixed, q ∈ news)
    (hd : oi.data = .cell (some (.int idx tidx))) (hm : m₀ (Str.ofString "remaining") = some (.int dest trem)) (hp : mainInv bk dk R dest idx dest [])
    (turn : ∀ oi idx tidx rem trem vs cs nn (u : Str → Option Value) h tk, oi.data = .cell (some (.int idx tidx)) → BytesAre vs cs → mainInv bk dk R dest idx rem cs →
      Fr h₀ L h (kstB (fun z => if mainStored.contains z then u z else m₀ z) [(Str.ofString "remaining", .int rem trem)]) → News h₀ L h ((ci, oi) :: (lo, listOf (List.toArray vs) nn) :: fixed) →
      wpAny (model prog w) A (isTrue test env (eval test env)) (fun b s₂ =>
        if b = true then wpAny (model prog w) A (execs body env) (MainPost h₀ L ci lo fixed m₀ s Q (fun i r c => mainInv bk dk R dest i r c ∧ idx < i) (fun i r c => afterInv dk R dest i r c)) E s₂ else MainAt h₀ L ci lo fixed m₀ s (fun i r c => afterInv dk R dest i r c) s₂) E { s with heap := h, toks := tk })
    (after : ∀ oi idx tidx rem trem vs cs nn (u : Str → Option Value) h tk, oi.data = .cell (some (.int idx tidx)) → BytesAre vs cs → afterInv dk R dest idx rem cs →
      Fr h₀ L h (kstB (fun z => if mainStored.contains z then u z else m₀ z) [(Str.ofString "remaining", .int rem trem)]) → News h₀ L h ((ci, oi) :: (lo, listOf (List.toArray vs) nn) :: fixed) → Q .next { s with heap := h, toks := tk })
    (hE : PassesOwn (model prog w) A env E) :
    wpAny (model prog w) A (exec (.While test body [] pos) env) Q E s := by
  have N1 : News h₀ L s.heap (mainLed ci lo fixed (oi, idx, tidx, dest, trem, [], [], nn)) := fun q hq => by
    rcases List.mem_cons.mp hq with rfl | hq
    · exact N _ hci
    · rcases List.mem_cons.mp hq with rfl | hq
      · exact N _ hlo
      · exact N _ (hfix q hq)
  have out : ∀ s₂, MainAt h₀ L ci lo fixed m₀ s (fun i r c => afterInv dk R dest i r c) s₂ → Q .next s₂ := by
    rintro _ ⟨h', tk, m', news', oi, idx, tidx, rem, trem, vs, cs, nn, rfl, F2, N2, a1, a2, a3, a4, a5, a6⟩
    refine after oi idx tidx rem trem vs cs nn m' h' tk a2 a3 a6 (ksw_fr ?_ ?_ F2) fun q hq => N2 q (a1 q hq)
    · intro p hp; rw [List.mem_singleton.mp hp]; exact a4
    · intro z hz hs
      simp only [mainStored, List.contains_cons, List.contains_nil, Bool.or_false, Bool.or_eq_false_iff, beq_eq_false_iff_ne, ne_eq] at hs
      exact a5 z hs.1 hs.2.1 hs.2.2.1 hs.2.2.2.1 hs.2.2.2.2.1 hs.2.2.2.2.2
  refine ksw_while (mainLed ci lo fixed) mainPs mainFacts mainStored (fun c => mainInv bk dk R dest c.2.1 c.2.2.2.1 c.2.2.2.2.2.2.1) (fun c => (dk.length - c.2.1).toNat) (oi, idx, tidx, dest, trem, [], [], nn) F N1 ⟨hd, .nil⟩ ?_ hp ?_ hE
  · intro p hp; rw [List.mem_singleton.mp hp]; exact hm
  · rintro ⟨oi, idx, tidx, rem, trem, vs, cs, nn⟩ u h tk ⟨f1, f2⟩ hp F' N'
    refine wpAny_mono (turn oi idx tidx rem trem vs cs nn u h tk f1 f2 hp F' N') (fun b s₂ z => ?_) fun _ _ z => z
    cases b with
    | false =>
      simp only [Bool.false_eq_true, if_false] at z ⊢
      exact out s₂ z
    | true =>
      simp only [if_true] at z ⊢
      refine wpAny_mono z (fun f s₃ y => ?_) fun _ _ z => z
      have up : MainAt h₀ L ci lo fixed m₀ s (fun i r c => mainInv bk dk R dest i r c ∧ idx < i) s₃ → KswEnd h₀ L s (mainLed ci lo fixed) mainPs mainFacts mainStored m₀ (fun c => mainInv bk dk R dest c.2.1 c.2.2.2.1 c.2.2.2.2.2.2.1) (fun c => (dk.length - c.2.1).toNat) (oi, idx, tidx, rem, trem, vs, cs, nn) s₃ := by
        rintro ⟨h', tk, m', news', oi', idx', tidx', rem', trem', vs', cs', nn', rfl, F2, N2, a1, a2, a3, a4, a5, a6, a7⟩
        refine ksw_end (oi', idx', tidx', rem', trem', vs', cs', nn') F2 N2 a1 ⟨a2, a3⟩ ?_ ?_ a6 ?_
        · intro p hp; rw [List.mem_singleton.mp hp]; exact a4
        · intro z _ hs
          simp only [mainStored, List.contains_cons, List.contains_nil, Bool.or_false, Bool.or_eq_false_iff, beq_eq_false_iff_ne, ne_eq] at hs
          exact a5 z hs.1 hs.2.1 hs.2.2.1 hs.2.2.2.1 hs.2.2.2.2.1 hs.2.2.2.2.2
        · obtain ⟨b1, b2, _⟩ := a6
          obtain ⟨c1, c2, _⟩ := hp
          show (dk.length - idx').toNat < (dk.length - idx).toNat
          omega
      cases f with
      | ret v => exact y
      | brk => exact out s₃ y
      | next => exact up y
      | cont => exact up y
end
end Mine
open PySem PySem.W PyProof.Rows PySem.Calls PySem.Spec
namespace Mine
set_option maxRecDepth 100000
theorem slot_bytes_repr : Slot "bytes" "__repr__" "bytes.__repr__" :=
  .of (owner := "bytes") (n := "__repr__") (by rw [typeLookup_type, builtinLookup_eq_fast]; kernel_rfl) (by decide +kernel) (by decide +kernel) (by decide +kernel)
    (by first | exact .inl (by decide +kernel) | exact .inr (by decide +kernel)) (by rw [isSubtype_type]; kernel_rfl)
theorem entry_bytes_repr : entryFor table "bytes.__repr__" = some Builtin.«bytes.__repr__» := entryFor_of_tree (by kernel_rfl)
theorem args_bytes_repr (a : Value) : argsOk "bytes.__repr__" ⟨[a], []⟩ := by unfold argsOk; kernel_rfl
theorem gives_bytes_repr {b : Array UInt8} {t : Tok} (h : 4 * b.size + 3 ≤ 16777216) : Gives (Builtin.«bytes.__repr__» ⟨[.bytes b t], []⟩) (.str (Builtin.Bytes.literal b)) := by
  show Gives (Builtin.Bytes.literalAsked b >>= fun r => _) _
  unfold Builtin.Bytes.literalAsked
  rw [KBy.tooLong_not (by simpa using h)]
  exact .of_eq rfl
theorem fold_size (f : UInt8 → Array Nat) (hf : ∀ c, (f c).size ≤ 4) : ∀ (l : List UInt8) (a : Array Nat), (l.foldl (fun acc c => acc ++ f c) a).size ≤ a.size + 4 * l.length
  | [], a => by simp
  | c :: r, a => by
    rw [List.foldl_cons]
    have h := fold_size f hf r (a ++ f c)
    have h2 := hf c
    rw [Array.size_append] at h
    simp only [List.length_cons]
    omega
theorem lit_len (b : Array UInt8) : (Builtin.Bytes.literal b).length ≤ 4 * b.size + 3 := by
  unfold Builtin.Bytes.literal
  show (Array.push _ _).size ≤ _
  rw [Array.size_push, ← Array.foldl_toList]
  refine Nat.le_trans (Nat.succ_le_succ (fold_size _ (fun c => ?_) _ _)) ?_
  · dsimp only
    (repeat' split) <;> simp
  · simp only [Array.length_toList]
    show 2 + 4 * b.size + 1 ≤ _
    omega
section
variable {prog : Program} {w : World} {A : Around} {s : Shared} {E : Value → Shared → Prop}
theorem repr_b {b : Array UInt8} {t : Tok} {Q : Value → Shared → Prop} (hz : 4 * b.size + 3 ≤ 16777216) (h : ∀ x t' k, Str.length x ≤ 4 * b.size + 3 → Q (.str x t') { s with toks := k }) : wpAny (model prog w) A (pyReprObj (.bytes b t)) Q E s :=
  wpAny_pyReprObj_gives (typeIs_bytes _ _ _) slot_bytes_repr entry_bytes_repr (args_bytes_repr _) (gives_bytes_repr hz) (h _ _ _ (lit_len b)) rfl (by rw [sizeLine_eq]; exact Nat.le_trans (lit_len b) hz)
end
theorem own_apart {own n : List (Addr × Obj)} {as : List Addr} (h : OwnOff own as) (hs : ∀ r ∈ n, r.1 ∈ as) : ∀ q ∈ own, ∀ r ∈ n, q.1 ≠ r.1 := fun q hq r hr => h q hq r.1 (hs r hr)
theorem bit_eq (c : Int) (k : Nat) : Builtin.bitAnd c (1 * 2 ^ k) = (c / 2 ^ k % 2) * 2 ^ k := by rw [Int.one_mul, kbt_bit]
theorem bit_of {c : Int} {k : Nat} (h : Builtin.bitAnd c (1 * 2 ^ k) ≠ 0) : c / 2 ^ k % 2 = 1 := by
  rw [bit_eq] at h
  have h2 := Int.emod_two_eq (c / 2 ^ k)
  rcases h2 with e | e
  · rw [e, Int.zero_mul] at h; exact absurd rfl h
  · exact e
theorem bit_no {c : Int} {k : Nat} (h : Builtin.bitAnd c (1 * 2 ^ k) = 0) : ¬ c / 2 ^ k % 2 = 1 := by
  rw [bit_eq] at h
  intro e
  rw [e, Int.one_mul] at h
  have pp : (0 : Int) < 2 ^ k := kbt_pos k
  omega
theorem drop_small {b : Array UInt8} {ks : List Int} {n : Nat} (h : KBw.bInts b = ks.drop n) (hl : ks.length ≤ 1800) : b.size ≤ 1800 := by
  have e := size_of h
  rw [List.length_drop] at e
  omega
end Mine
open PySem PySem.W PyProof.Rows PySem.Calls PySem.Spec
namespace Mine
set_option maxRecDepth 100000
section
variable {prog : Program} {w : World} {A : Around} {E : Value → Shared → Prop} {Q : Flow → Shared → Prop} {s : Shared} {env : Env} {h₀ : Heap} {L : Addr}
/-- what both ways of an if leave: the name x holds v -/
def CutPost (h₀ : Heap) (L : Addr) (news : List (Addr × Obj)) (x : Str) (v : Int) (m₀ : Str → Option Value) (s : Shared) (f : Flow) (s₂ : Shared) : Prop :=
  ∃ h' tk m' t, f = .next ∧ s₂ = { s with heap := h', toks := tk } ∧ Fr h₀ L h' m' ∧ News h₀ L h' news ∧ m' x = some (.int v t) ∧ (∀ z, z ≠ x → m' z = m₀ z)
theorem cut_if {stmt : Stmt} {news : List (Addr × Obj)} {m₀ : Str → Option Value} (x : Str) (v : Int) (_F : Fr h₀ L s.heap m₀) (_N : News h₀ L s.heap news)
    (hIf : wpAny (model prog w) A (exec stmt env) (CutPost h₀ L news x v m₀ s) E s)
    (hrest : ∀ (u : Str → Option Value) h tk t, Fr h₀ L h (kstB (fun z => if [x].contains z then u z else m₀ z) [(x, .int v t)]) → News h₀ L h news → Q .next { s with heap := h, toks := tk }) :
    wpAny (model prog w) A (exec stmt env) Q E s := by
  refine wpAny_mono hIf (fun f s₂ h => ?_) fun _ _ z => z
  obtain ⟨h', tk, m', t, rfl, rfl, F2, N2, a1, a2⟩ := h
  refine hrest m' h' tk t (ksw_fr ?_ ?_ F2) N2
  · intro p hp
    rw [List.mem_singleton.mp hp]; exact a1
  · intro z hz _
    exact a2 z (hz _ (List.mem_singleton.mpr rfl))
theorem cut_end {news : List (Addr × Obj)} {m₀ m' : Str → Option Value} {x : Str} {v v' : Int} {t : Tok} {h' : Heap} {tk : Nat} (F2 : Fr h₀ L h' m') (N2 : News h₀ L h' news) (a1 : m' x = some (.int v' t)) (e : v' = v) (a2 : ∀ z, z ≠ x → m' z = m₀ z) :
    CutPost h₀ L news x v m₀ s .next { s with heap := h', toks := tk } := ⟨h', tk, m', t, rfl, rfl, F2, N2, e ▸ a1, a2⟩
end
theorem copySz_bd {sz : Int} (h0 : 0 ≤ sz) (h1 : sz ≤ 16777215) : 1 ≤ copySz sz ∧ copySz sz ≤ 16777215 := by unfold copySz; split <;> omega
end Mine
open PySem PySem.W PyProof.Rows PySem.Calls PySem.Spec
namespace Mine
set_option maxRecDepth 100000
set_option maxHeartbeats 400000 in
theorem hdr_spec (w : World) {p : Program} {loose : List Str} {mean : ExcName → Option Value} {mg mb : Str → Option Value}
   {oc od0 : _} {osl : _} {nm ql : Str} {ps : Arguments} {bd : List Stmt} {sc : Scope} {dV kV dc pm0 cdv ct : Value} {an : Option Addr}
   (hK : List.lookup 47 (hd.heap_39 w.params) = some ⟨oc, od0, .func (fnOf nm ql ps bd sc dV kV dc pm0 an cdv ct), osl⟩)
   {fname bind : Str} {params : Arguments} {fbody : List Stmt} {fscope : Scope} {pos : Pos} (hdef : bd[5]? = some (.FunctionDef fname params fbody [] none [] fscope none bind pos))
   {base : Heap} (X₀ : (hd.heap_39 w.params).In base) (T₀ : Top p loose mean mg mb base)
   (codeHd : CodeHd base 46 42) (dp un : Nat) (gd : Option (List Code)) (l : List Env) (hdp : dp + 5 < recursionLimit) (hu : un + 40 < cLine)
   {qual : Str} {doc pm ctv : Value} {f c cd : Addr} {oc' od : Obj} {vs' : Array Value} {t' : Tok} (hc1 : oc'.data = .fields vs') (hc2 : vs'[1]? = some (.str qual t'))
   {d : Array UInt8} {dk : List Int} (hdk : KBw.bInts d = dk) (hd0 : dk.length ≤ 1800) {tl : Tok} (hcell : od.data = .cell (some (.int dk.length tl)))
   (td : Tok) {i : Int} (ti : Tok) (hi0 : 0 ≤ i) (hi1 : i ≤ dk.length) :
   Spec PySem.Challenge.rw_jq0004_01.row.prog w (aTop dp un gd l) base l (.ref f) [.bytes d td, .int i ti] [(f, fnMade fname qual params fbody fscope [("delta_length", cd)] doc pm c ctv), (c, oc'), (cd, od)]
     (fun v n' => ∃ D sz t1 ix t2 k, v = .ref D ∧ n' = [(D, tupO [.int sz t1, .int ix t2]), (f, fnMade fname qual params fbody fscope [("delta_length", cd)] doc pm c ctv), (c, oc'), (cd, od)] ∧ sizeL (dk.drop i.toNat) = some (sz, k) ∧ ix = i + (k : Nat))
     (.ref 32) (fun n' => n' = [(f, fnMade fname qual params fbody fscope [("delta_length", cd)] doc pm c ctv), (c, oc'), (cd, od)] ∧ sizeL (dk.drop i.toNat) = none) := by
  have hfill : (fun _ : OpenLaw => hd.heap_39) PySem.Challenge.rw_jq0004_01 = hd.heap_39 := by (k_fill; rfl)
  clear hfill
  have hK' := (by k_dflt k_is : List.lookup 47 (hd.heap_39 w.params) = some ⟨_, _, .func (fnOf _ _ _ _ _ _ _ _ _ _ _ _), _⟩)
  rw [hK'] at hK
  cases hK
  cases hdef
  clear hK'
  intro g s Q E B hg hsz N hret hexc
  have X := X₀.keeps B.stays
  have T := T₀.keeps B.stays
  refine wpAny_call ?_
  k_dflt (refine' enter_nest hg hsz N T (by k_mem) ⟨c, oc', vs', t', rfl, (N _ (.tail _ (.head _))).1, hc1, hc2⟩ ?k8 (BindsTo.of_eq rfl) (locs rfl) ?_ rfl rfl rfl (by decide); (case k8 => ktr_room); intro L' h' F' N' l1; (try k_lt l1); (try dsimp only); (try k_fold))
  k_with_none
  k_with "execs cons" => k_fold
  k_with "eval Call" => k_fold
  k_with "storeName" => (k_here; k_dflt (first | (refine' storeI_L ?F ?N ?_ ?a ?b; (case F => k_asm); (case N => k_asm); (case a => rfl); (case b => rfl); k_whole; intro h' tk' t' F' N'; (try k_sweep); (try dsimp only); (try k_fold)) | (refine' storeB_L ?F ?N ?_ ?a ?b; (case F => k_asm); (case N => k_asm); (case a => rfl); (case b => rfl); k_whole; intro h' tk' t' F' N'; (try k_sweep); (try dsimp only); (try k_fold)) | (refine' storeG_L ?F ?N ?_ ?a ?b; (case F => k_asm); (case N => k_asm); (case a => rfl); (case b => rfl); k_whole; intro h' tk' F' N'; (try k_sweep); (try dsimp only); (try k_fold))))
  k_with "exec Raise some none" => (k_extra "raise")
  k_with "exec While Constant cons nil" => (k_extra "while")
  k_with "exec While Compare cons nil" => (k_extra "while")
  k_with "KswEnd" => (k_extra "turn")
  k_with "subscriptTail Name Slice bytes ref" => (k_here; (with_reducible show wpAny _ _ (subscriptTail _ (PySem.Expr.Slice (some _) (some _) none _) (Value.bytes _ _) (Value.ref _)) _ _ _); (with_reducible rename Fr _ _ _ _ => F'); (with_reducible rename News _ _ _ _ => N'); (refine slice_ij (s := ⟨_, _, _, _, _⟩) F' N' (by assumption) (by omega) (by omega) (by omega) ?_); intro _ _ _ _ _ _ hcut)
  k_with "call builtin:len" => (k_here; (with_reducible show wpAny _ _ (call (Value.builtin "len") [Value.bytes _ _]) _ _ _); (refine len_b (by assumption) (by omega) ?_); intro _ _)
  k_with "call builtin:ord" => (k_here; (with_reducible show wpAny _ _ (call (Value.builtin "ord") [Value.bytes _ _]) _ _ _); (refine ord_bytes (Eq.trans (by assumption) (cut_one' _ _ _ (by omega) (by omega) (by omega))) ?_); intro _ _ hlo hhi)
  k_with "loadName" => (k_here; k_dflt (refine' loadX_L ?F ?v ?_ ?hk ?hx; (case F => k_asm); (case v => rfl); (case hk => rfl); (case hx => rfl); k_whole))
  k_with "leaving ref" => (k_here; k_dflt (refine' leave_made ?B ?hx ?F ?N (fun _ h => h) ?hf ?hk ?_; (case hx => assumption); (case B => assumption); (case F => k_asm); (case N => k_asm); (case hf => exact rfl); (case hk => exact rfl)); intro h' fl'; (try dsimp only))
  k_with "leaving" => (k_here; k_dflt (refine' leave_on ?B ?F ?x (fun _ h => h) ?hf ?_; (case x => assumption); (case B => assumption); (case F => k_asm); (case hf => exact rfl)); intro h' fl'; (try dsimp only))
  k_with "binaryOp LShift int int" => (k_here; (refine lshift_any (by omega) (by omega) (by k_extra "shift") ?_); intro _ _)
  k_with "raise" => (k_here; (with_reducible show wpAny _ _ (exec (Stmt.Raise (some (Expr.Call (Expr.Name _ _) [_] [] _)) none _) _) _ _ _); k_dflt (refine' Raise_ADE w ?F ?X ?T ?hh ?hdp ?_ ?he ?hk ?hx; (case F => k_asm); (case X => k_asm); (case T => k_asm); (case hh => exact rfl); (case hdp => ktr_room); (case he => exact rfl); (case hk => exact rfl); (case hx => exact rfl)))
  k_with "Told1" => (refine ⟨_, _, rfl, Fr.keep (by assumption), ?_⟩; intro h9 ea9 tk9 hm9)
  k_with "while" => ((rename Fr _ _ _ _ => kF); (rename News _ _ _ _ => kN); k_dflt (refine' hdr_loop dk kF kN ?h1 ?h2 ?h3 ?hi ?_ ?hE; (case h1 => exact rfl); (case h2 => exact rfl); (case h3 => exact rfl); (case hi => omega); (case hE => first | passes_own | with_unfolding_all passes_own); (intro ix ixt sz szt sh sht kU kH kTk kInv kFr kNews); (have kInv' := kInv); (obtain ⟨j, hj1, hj2, hj3, hj4, hj5, hj6⟩ := kInv'); (try dsimp only); (try k_fold)))
  k_with "shift" => exact shift_oct (by assumption) (by assumption)
  k_steps
  · exact hexc _ _ _ _ ⟨rfl, hdr_fail (by assumption) hi0 (by assumption)⟩ (by assumption)
  · (rename Fr _ _ _ _ => kF); (rename News _ _ _ _ => kN)
    refine hdr_end kF kN rfl rfl rfl (by intro z a1 a2 a3 a4; simp [kstB, a1, a2, a3, a4]) (hdr_next (ix := ix) (sz := sz) (sh := sh) (by assumption) hi0 (by assumption) (by assumption) (by assumption) (by assumption)) (by omega)
  · obtain ⟨k, e1, e2⟩ := hdr_done (ks := dk) (i₀ := i) (ix := ix) (sz := sz) (sh := sh) (by assumption) hi0 (by assumption) (by assumption) (by assumption) (by assumption)
    exact hret _ _ _ _ ⟨_, _, _, _, _, k, rfl, rfl, e1, e2⟩ (Fr.keep (by assumption)) (Led.of_news (by assumption))

set_option maxHeartbeats 400000 in
theorem byte_spec (w : World) {p : Program} {loose : List Str} {mean : ExcName → Option Value} {mg mb : Str → Option Value}
   {oc od0 : _} {osl : _} {nm ql : Str} {ps : Arguments} {bd : List Stmt} {sc : Scope} {dV kV dc pm0 cdv ct : Value} {an : Option Addr}
   (hK : List.lookup 47 (hd.heap_39 w.params) = some ⟨oc, od0, .func (fnOf nm ql ps bd sc dV kV dc pm0 an cdv ct), osl⟩)
   {fname bind : Str} {params : Arguments} {fbody : List Stmt} {fscope : Scope} {pos : Pos} (hdef : bd[6]? = some (.FunctionDef fname params fbody [] none [] fscope none bind pos))
   {base : Heap} (X₀ : (hd.heap_39 w.params).In base) (T₀ : Top p loose mean mg mb base)
   (codeHd : CodeHd base 46 42) (dp un : Nat) (gd : Option (List Code)) (l : List Env) (hdp : dp + 5 < recursionLimit) (hu : un + 40 < cLine)
   {qual : Str} {doc pm ctv : Value} {f c ci cd : Addr} {oc' oi od : Obj} {vs' : Array Value} {t' : Tok} (hc1 : oc'.data = .fields vs') (hc2 : vs'[1]? = some (.str qual t'))
   {d : Array UInt8} {dk : List Int} (hdk : KBw.bInts d = dk) (hd0 : dk.length ≤ 1800) {tl : Tok} (hcell : od.data = .cell (some (.int dk.length tl)))
   {i : Int} {ti : Tok} (hidx : oi.data = .cell (some (.int i ti))) (td : Tok) (hi0 : 0 ≤ i) (hne1 : f ≠ ci) (hne2 : c ≠ ci) (hne3 : cd ≠ ci) :
   Spec PySem.Challenge.rw_jq0004_01.row.prog w (aTop dp un gd l) base l (.ref f) [.bytes d td] [(f, fnMade fname qual params fbody fscope [(Str.ofString "index", ci), (Str.ofString "delta_length", cd)] doc pm c ctv), (c, oc'), (ci, oi), (cd, od)]
     (fun v n' => ∃ t1 oi' t2, v = .int (dk.getD i.toNat 0) t1 ∧ n' = [(f, fnMade fname qual params fbody fscope [(Str.ofString "index", ci), (Str.ofString "delta_length", cd)] doc pm c ctv), (c, oc'), (ci, oi'), (cd, od)] ∧ oi'.data = .cell (some (.int (i + 1) t2)) ∧ i < dk.length)
     (.ref 32) (fun n' => n' = [(f, fnMade fname qual params fbody fscope [(Str.ofString "index", ci), (Str.ofString "delta_length", cd)] doc pm c ctv), (c, oc'), (ci, oi), (cd, od)] ∧ dk.length ≤ i) := by
  have hfill : (fun _ : OpenLaw => hd.heap_39) PySem.Challenge.rw_jq0004_01 = hd.heap_39 := by (k_fill; rfl)
  clear hfill
  have hK' := (by k_dflt k_is : List.lookup 47 (hd.heap_39 w.params) = some ⟨_, _, .func (fnOf _ _ _ _ _ _ _ _ _ _ _ _), _⟩)
  rw [hK'] at hK
  cases hK
  cases hdef
  clear hK'
  intro g s Q E B hg hsz N hret hexc
  have X := X₀.keeps B.stays
  have T := T₀.keeps B.stays
  refine wpAny_call ?_
  k_dflt (refine' enter_nest hg hsz N T (by k_mem) ⟨c, oc', vs', t', rfl, (N _ (.tail _ (.head _))).1, hc1, hc2⟩ ?k8 (BindsTo.of_eq rfl) (locs rfl) ?_ rfl rfl rfl (by decide); (case k8 => ktr_room); intro L' h' F' N' l1; (try k_lt l1); (try dsimp only); (try k_fold))
  k_with_none
  k_with "execs cons" => k_fold
  k_with "eval Call" => k_fold
  k_with "storeName" => (k_here; k_dflt (first | (refine' storeI_L ?F ?N ?_ ?a ?b; (case F => k_asm); (case N => k_asm); (case a => rfl); (case b => rfl); k_whole; intro h' tk' t' F' N'; (try k_sweep); (try dsimp only); (try k_fold)) | (refine' storeB_L ?F ?N ?_ ?a ?b; (case F => k_asm); (case N => k_asm); (case a => rfl); (case b => rfl); k_whole; intro h' tk' t' F' N'; (try k_sweep); (try dsimp only); (try k_fold)) | (refine' storeG_L ?F ?N ?_ ?a ?b; (case F => k_asm); (case N => k_asm); (case a => rfl); (case b => rfl); k_whole; intro h' tk' F' N'; (try k_sweep); (try dsimp only); (try k_fold))))
  k_with "exec Raise some none" => (k_extra "raise")
  k_with "exec While Constant cons nil" => (k_extra "while")
  k_with "exec While Compare cons nil" => (k_extra "while")
  k_with "KswEnd" => (k_extra "turn")
  k_with "subscriptTail Name Slice bytes ref" => (k_here; (with_reducible show wpAny _ _ (subscriptTail _ (PySem.Expr.Slice (some _) (some _) none _) (Value.bytes _ _) (Value.ref _)) _ _ _); (with_reducible rename Fr _ _ _ _ => F'); (with_reducible rename News _ _ _ _ => N'); (refine slice_ij (s := ⟨_, _, _, _, _⟩) F' N' (by assumption) (by omega) (by omega) (by omega) ?_); intro _ _ _ _ _ _ hcut)
  k_with "call builtin:len" => (k_here; (with_reducible show wpAny _ _ (call (Value.builtin "len") [Value.bytes _ _]) _ _ _); (refine len_b (by assumption) (by omega) ?_); intro _ _)
  k_with "call builtin:ord" => (k_here; (with_reducible show wpAny _ _ (call (Value.builtin "ord") [Value.bytes _ _]) _ _ _); (refine ord_bytes (Eq.trans (by assumption) (cut_one' _ _ _ (by omega) (by omega) (by omega))) ?_); intro _ _ hlo hhi)
  k_with "loadName" => (k_here; k_dflt (refine' loadX_L ?F ?v ?_ ?hk ?hx; (case F => k_asm); (case v => rfl); (case hk => rfl); (case hx => rfl); k_whole))
  k_with "leaving ref" => (k_here; k_dflt (refine' leave_made ?B ?hx ?F ?N (fun _ h => h) ?hf ?hk ?_; (case hx => assumption); (case B => assumption); (case F => k_asm); (case N => k_asm); (case hf => exact rfl); (case hk => exact rfl)); intro h' fl'; (try dsimp only))
  k_with "leaving" => (k_here; k_dflt (refine' leave_on ?B ?F ?x (fun _ h => h) ?hf ?_; (case x => assumption); (case B => assumption); (case F => k_asm); (case hf => exact rfl)); intro h' fl'; (try dsimp only))
  k_with "binaryOp LShift int int" => (k_here; (refine lshift_any (by omega) (by omega) (by k_extra "shift") ?_); intro _ _)
  k_with "raise" => (k_here; (with_reducible show wpAny _ _ (exec (Stmt.Raise (some (Expr.Call (Expr.Name _ _) [_] [] _)) none _) _) _ _ _); k_dflt (refine' Raise_ADE w ?F ?X ?T ?hh ?hdp ?_ ?he ?hk ?hx; (case F => k_asm); (case X => k_asm); (case T => k_asm); (case hh => exact rfl); (case hdp => ktr_room); (case he => exact rfl); (case hk => exact rfl); (case hx => exact rfl)))
  k_with "Told1" => (refine ⟨_, _, rfl, Fr.keep (by assumption), ?_⟩; intro h9 ea9 tk9 hm9)
  k_steps
  · exact hexc _ _ _ _ ⟨rfl, by assumption⟩ (by assumption)
  · have e : i + 1 - 1 = i := by omega
    exact hret _ _ _ _ ⟨_, _, _, congrArg (fun z => Value.int (dk.getD (Int.toNat z) 0) _) e, rfl, by assumption, by omega⟩ (Fr.keep (by assumption)) (Led.of_news (by assumption))


theorem len_flat {c : List Int} {cs : List (List Int)} (h : c ∈ cs) : c.length ≤ cs.flatten.length := by
  induction cs with
  | nil => cases h
  | cons d r ih =>
    rw [List.flatten_cons, List.length_append]
    cases h with
    | head => omega
    | tail _ h => have := ih h; omega
set_option maxHeartbeats 8000000 in
theorem chunks_spec (w : World) {p : Program} {loose : List Str} {mean : ExcName → Option Value} {mg mb : Str → Option Value}
   {base : Heap} (X₀ : (hd.heap_39 w.params).In base) (T₀ : Top p loose mean mg mb base)
   (dp un : Nat) (gd : Option (List Code)) (l : List Env) (hdp : dp + 5 < recursionLimit) (hu : un + 40 < cLine)
   {lo : Addr} {vs : List Value} {cs : List (List Int)} {nn : Nat} (hv : BytesAre vs cs) (hlen : cs.length ≤ 2000) (htot : cs.flatten.length ≤ 1099511627776) :
   Spec PySem.Challenge.rw_jq0004_01.row.prog w (aTop dp un gd l) base l (.ref 40) [.ref lo] [(lo, listOf vs.toArray nn)]
     (fun v n' => ∃ t, v = .int (cs.flatten.length : Nat) t ∧ n' = [(lo, listOf vs.toArray nn)])
     (.ref 32) (fun _ => False) := by
  have hfill : (fun _ : OpenLaw => hd.heap_39) PySem.Challenge.rw_jq0004_01 = hd.heap_39 := by (k_fill; rfl)
  clear hfill
  intro g s Q E B hg hsz N hret hexc
  have X := X₀.keeps B.stays
  have T := T₀.keeps B.stays
  refine wpAny_call ?_
  k_dflt (refine' enter_def hg hsz N X T ?k6 ?k7 ?k8 ?k9 ?kB ?_ ?c2 ?c3 ?c4 ?c5; (case k6 => k_is); (case k7 => k_is); (case k8 => ktr_room); (case k9 => exact BindsTo.of_eq rfl); (case c5 => decide); (case kB => exact locs rfl); (case c2 => exact rfl); (case c3 => exact rfl); (case c4 => exact rfl); k_whole; intro L' h' F' N' l1; (try k_lt l1); (try dsimp only); (try k_fold))
  k_with_none
  k_with "execs cons" => k_fold
  k_with "eval Call" => k_fold
  k_with "storeName" => (k_here; k_dflt (first | (refine' storeI_L ?F ?N ?_ ?a ?b; (case F => k_asm); (case N => k_asm); (case a => rfl); (case b => rfl); k_whole; intro h' tk' t' F' N'; (try k_sweep); (try dsimp only); (try k_fold)) | (refine' storeB_L ?F ?N ?_ ?a ?b; (case F => k_asm); (case N => k_asm); (case a => rfl); (case b => rfl); k_whole; intro h' tk' t' F' N'; (try k_sweep); (try dsimp only); (try k_fold)) | (refine' storeG_L ?F ?N ?_ ?a ?b; (case F => k_asm); (case N => k_asm); (case a => rfl); (case b => rfl); k_whole; intro h' tk' F' N'; (try k_sweep); (try dsimp only); (try k_fold))))
  k_with "exec Raise some none" => k_extra "raise"
  k_with "exec While Constant cons nil" => k_extra "while"
  k_with "exec While Compare cons nil" => k_extra "while"
  k_with "KswEnd" => k_extra "turn"
  k_with "subscriptTail Name Slice bytes ref" => (k_here; (with_reducible show wpAny _ _ (subscriptTail _ (PySem.Expr.Slice (some _) (some _) none _) (Value.bytes _ _) (Value.ref _)) _ _ _); (with_reducible rename Fr _ _ _ _ => F'); (with_reducible rename News _ _ _ _ => N'); (refine slice_ij (s := ⟨_, _, _, _, _⟩) F' N' (by assumption) (by omega) (by omega) (by omega) ?_); intro _ _ _ _ _ _ hcut)
  k_with "call builtin:len" => (k_here; (with_reducible show wpAny _ _ (call (Value.builtin "len") [Value.bytes _ _]) _ _ _); (refine len_b (by assumption) (by omega) ?_); intro _ _)
  k_with "call builtin:ord" => (k_here; (with_reducible show wpAny _ _ (call (Value.builtin "ord") [Value.bytes _ _]) _ _ _); (refine ord_bytes (Eq.trans (by assumption) (cut_one' _ _ _ (by omega) (by omega) (by omega))) ?_); intro _ _ hlo hhi)
  k_with "loadName" => (k_here; k_dflt (refine' loadX_L ?F ?v ?_ ?hk ?hx; (case F => k_asm); (case v => rfl); (case hk => rfl); (case hx => rfl); k_whole))
  k_with "leaving ref" => (k_here; k_dflt (refine' leave_made ?B ?hx ?F ?N (fun _ h => h) ?hf ?hk ?_; (case hx => assumption); (case B => assumption); (case F => k_asm); (case N => k_asm); (case hf => exact rfl); (case hk => exact rfl)); intro h' fl'; (try dsimp only))
  k_with "leaving" => (k_here; k_dflt (refine' leave_on ?B ?F ?x (fun _ h => h) ?hf ?_; (case x => assumption); (case B => assumption); (case F => k_asm); (case hf => exact rfl)); intro h' fl'; (try dsimp only))
  k_with "binaryOp LShift int int" => (k_here; (refine lshift_any (by omega) (by omega) (by k_extra "shift") ?_); intro _ _)
  k_with "pyIter ref" => ((with_reducible show wpAny _ _ (pyIter _) (CompPost _ _ _ _ _ _ _ _ _) _ _); (rename Fr _ _ _ _ => kF); (rename News _ _ _ _ => kN); refine' comp_list (R := LenOf) (vs := vs) rfl kF kN ⟨_, (kN _ (by k_mem)).1, rfl, _, rfl⟩ ?hz ?he ?_; (case hz => rw [hv.length, sizeLine_eq]; omega); (case he => (intro C v s₃ m₃ E' hvm hns hx hk9; obtain ⟨b9, t9, rfl, hb9⟩ := hv.mem hvm; exact len_local hns hx hk9 X T (by k_dflt k_is) (by rw [← KBw.ints_length]; exact Nat.le_trans (len_flat hb9) (by omega)) (fun t' tk => ⟨⟨b9, t9, t', rfl, rfl⟩, _, _, rfl, fun _ _ e => e⟩) rfl rfl rfl rfl rfl rfl)); intro D9 ys9 h9 tk9 n9 F9 N9 l9 hp9; (have hi9 := lens_are hv hp9))
  k_steps
  · rw [sum_lens]
    exact hret _ _ _ _ ⟨_, rfl, rfl⟩ (Fr.keep (by assumption)) (Led.sub (Led.of_news (by assumption)) fun q hq => .tail _ hq)

theorem oct_getD {ks : List Int} (h : Oct ks) (n : Nat) : 0 ≤ ks.getD n 0 ∧ ks.getD n 0 < 256 := by
  rw [List.getD_eq_getElem?_getD]
  by_cases q : n < ks.length
  · rw [List.getElem?_eq_getElem q]
    exact h _ (List.getElem_mem q)
  · rw [List.getElem?_eq_none (by omega)]
    decide
theorem oct_shift {ks : List Int} (h : Oct ks) (n : Nat) : (ks.getD n 0).natAbs < 2 ^ 64 := by
  have := oct_getD h n
  omega
theorem top_bit {c : Int} (h0 : 0 ≤ c) (h1 : c < 256) (h : Builtin.bitAnd c 128 ≠ 0) : 128 ≤ c := by
  rw [oct_high h0 h1] at h
  split at h <;> omega
theorem no_top {c : Int} (h0 : 0 ≤ c) (h1 : c < 256) (h : Builtin.bitAnd c 128 = 0) : ¬ 128 ≤ c := by
  rw [oct_high h0 h1] at h
  split at h <;> omega
section
variable {bk dk : List Int} {R : Option (List Int)} {dest ix rem : Int} {cs : List (List Int)}
theorem drop_nil {iz : Int} (h0 : 0 ≤ iz) (h1 : iz ≤ dk.length) : dk.drop iz.toNat = [] ↔ iz = dk.length := by
  rw [List.drop_eq_nil_iff]; omega
theorem end_copy {off sz cpz iy iz : Int} (hbl : bk.length ≤ 200000) (h : mainInv bk dk R dest ix rem cs) (hl : ix < dk.length) (h8 : Builtin.bitAnd (dk.getD ix.toNat 0) 128 ≠ 0) (c0 : 0 ≤ dk.getD ix.toNat 0) (c1 : dk.getD ix.toNat 0 < 256)
    (d1 : fieldsL (dk.getD ix.toNat 0) 0 4 (dk.drop (ix + 1).toNat) = some (off, dk.drop iy.toNat)) (d2 : fieldsL (dk.getD ix.toNat 0) 4 3 (dk.drop iy.toNat) = some (sz, dk.drop iz.toNat))
    (i1 : ix + 1 ≤ iy) (i2 : iy ≤ iz) (i3 : iz ≤ dk.length) (o0 : 0 ≤ off) (s0 : 0 ≤ sz) (hc : cpz = copySz sz) (f1 : off + cpz ≤ bk.length) (f2 : cpz ≤ rem) :
    mainInv bk dk R dest iz (rem - cpz) (cs ++ [cut bk off (off + cpz)]) ∧ ix < iz := by
  obtain ⟨a1, a2, a3, a4, a5, a6, a7⟩ := h
  have p : 0 ≤ cpz := by rw [hc]; unfold copySz; split <;> omega
  have cl := cut_len bk off (off + cpz) o0 (by omega) f1
  have fl : (cs ++ [cut bk off (off + cpz)]).flatten = cs.flatten ++ cut bk off (off + cpz) := by simp
  refine ⟨⟨by omega, i3, by omega, ?_, ?_, ?_, ?_⟩, by omega⟩
  · rw [fl, List.length_append]; omega
  · simp only [List.length_append, List.length_cons, List.length_nil]; omega
  · rw [fl, List.length_append]; omega
  · rw [fl, ← a7, drop_at a1 (by omega)]
    subst hc
    exact (ops_copy (top_bit c0 c1 h8) d1 d2 f1 f2).symm
theorem end_bad {off sz cpz iy iz : Int} (h : mainInv bk dk R dest ix rem cs) (hl : ix < dk.length) (h8 : Builtin.bitAnd (dk.getD ix.toNat 0) 128 ≠ 0) (c0 : 0 ≤ dk.getD ix.toNat 0) (c1 : dk.getD ix.toNat 0 < 256)
    (d1 : fieldsL (dk.getD ix.toNat 0) 0 4 (dk.drop (ix + 1).toNat) = some (off, dk.drop iy.toNat)) (d2 : fieldsL (dk.getD ix.toNat 0) 4 3 (dk.drop iy.toNat) = some (sz, dk.drop iz.toNat))
    (i1 : ix + 1 ≤ iy) (i2 : iy ≤ iz) (i3 : iz ≤ dk.length) (hc : cpz = copySz sz) (f : off + cpz > bk.length ∨ cpz > rem) : afterInv dk R dest iz rem cs := by
  obtain ⟨a1, a2, a3, a4, a5, a6, a7⟩ := h
  refine ⟨by omega, i3, a3, a4, by omega, by omega, ?_⟩
  rw [← a7, drop_at a1 (by omega)]
  subst hc
  rw [ops_bad (top_bit c0 c1 h8) d1 d2 f]
  simp only [drop_nil (show 0 ≤ iz by omega) i3]
theorem end_insert (hdl : dk.length ≤ 1800) (h : mainInv bk dk R dest ix rem cs) (hl : ix < dk.length) (h8 : Builtin.bitAnd (dk.getD ix.toNat 0) 128 = 0) (c0 : 0 ≤ dk.getD ix.toNat 0) (c1 : dk.getD ix.toNat 0 < 256)
    (hz : dk.getD ix.toNat 0 ≠ 0) (f1 : ¬ rem < dk.getD ix.toNat 0) (f2 : ¬ (dk.length : Int) < ix + 1 + dk.getD ix.toNat 0) :
    mainInv bk dk R dest (ix + 1 + dk.getD ix.toNat 0) (rem - dk.getD ix.toNat 0) (cs ++ [cut dk (ix + 1) (ix + 1 + dk.getD ix.toNat 0)]) ∧ ix < ix + 1 + dk.getD ix.toNat 0 := by
  obtain ⟨a1, a2, a3, a4, a5, a6, a7⟩ := h
  have hd := drop_at (ks := dk) a1 (by omega)
  generalize dk.getD ix.toNat 0 = c at *
  have cl := cut_len dk (ix + 1) (ix + 1 + c) (by omega) (by omega) (by omega)
  have fl : (cs ++ [cut dk (ix + 1) (ix + 1 + c)]).flatten = cs.flatten ++ cut dk (ix + 1) (ix + 1 + c) := by simp
  refine ⟨⟨by omega, by omega, by omega, ?_, ?_, ?_, ?_⟩, by omega⟩
  · rw [fl, List.length_append]; omega
  · simp only [List.length_append, List.length_cons, List.length_nil]; omega
  · rw [fl, List.length_append]; omega
  · rw [fl, ← a7, hd, ops_insert (no_top c0 c1 h8) hz (by omega) (by rw [List.length_drop]; omega), List.drop_drop]
    congr 2
    · omega
    · unfold cut
      congr 1
      omega
theorem none_long (h : mainInv bk dk R dest ix rem cs) (hl : ix < dk.length) (h8 : Builtin.bitAnd (dk.getD ix.toNat 0) 128 = 0) (c0 : 0 ≤ dk.getD ix.toNat 0) (c1 : dk.getD ix.toNat 0 < 256)
    (f : rem < dk.getD ix.toNat 0 ∨ (dk.length : Int) < ix + 1 + dk.getD ix.toNat 0) : R = none := by
  obtain ⟨a1, a2, a3, a4, a5, a6, a7⟩ := h
  rw [← a7, drop_at a1 (by omega)]
  refine ops_long (no_top c0 c1 h8) ?_
  rcases f with f | f
  · exact .inl f
  · right; rw [List.length_drop]; omega
theorem none_zero (h : mainInv bk dk R dest ix rem cs) (hl : ix < dk.length) (hz : dk.getD ix.toNat 0 = 0) : R = none := by
  obtain ⟨a1, a2, a3, a4, a5, a6, a7⟩ := h
  rw [← a7, drop_at a1 (by omega), hz]
  exact ops_zero
theorem none_off {iy off : Int} {j : Nat} (h : mainInv bk dk R dest ix rem cs) (hl : ix < dk.length) (h8 : Builtin.bitAnd (dk.getD ix.toNat 0) 128 ≠ 0) (c0 : 0 ≤ dk.getD ix.toNat 0) (c1 : dk.getD ix.toNat 0 < 256)
    (hI : fldInv dk (dk.getD ix.toNat 0) 0 4 (ix + 1) j iy off) (hj : j < 4) (hb : Builtin.bitAnd (dk.getD ix.toNat 0) (1 * 2 ^ ((j : Nat) : Int).toNat) ≠ 0) (hx : (dk.length : Int) ≤ iy) : R = none := by
  obtain ⟨a1, a2, a3, a4, a5, a6, a7⟩ := h
  rw [← a7, drop_at a1 (by omega)]
  exact ops_none0 (top_bit c0 c1 h8) (fld_fail hI hj (by rw [Nat.zero_add]; exact bit_of hb) hx)
theorem none_sz {iy iz off sz : Int} {j : Nat} (h : mainInv bk dk R dest ix rem cs) (hl : ix < dk.length) (h8 : Builtin.bitAnd (dk.getD ix.toNat 0) 128 ≠ 0) (c0 : 0 ≤ dk.getD ix.toNat 0) (c1 : dk.getD ix.toNat 0 < 256)
    (d1 : fieldsL (dk.getD ix.toNat 0) 0 4 (dk.drop (ix + 1).toNat) = some (off, dk.drop iy.toNat))
    (hI : fldInv dk (dk.getD ix.toNat 0) 4 3 iy j iz sz) (hj : j < 3) (hb : Builtin.bitAnd (dk.getD ix.toNat 0) (1 * 2 ^ (4 + ((j : Nat) : Int)).toNat) ≠ 0) (hx : (dk.length : Int) ≤ iz) : R = none := by
  obtain ⟨a1, a2, a3, a4, a5, a6, a7⟩ := h
  rw [← a7, drop_at a1 (by omega)]
  have e : (4 + ((j : Nat) : Int)).toNat = 4 + j := by omega
  rw [e] at hb
  exact ops_none1 (top_bit c0 c1 h8) d1 (fld_fail hI hj (bit_of hb) hx)
theorem none_after1 (h : afterInv dk R dest ix rem cs) (hx : ix ≠ dk.length) : R = none := by
  rw [h.2.2.2.2.2.2, if_neg (fun q => hx q.1)]
theorem none_after2 (h : afterInv dk R dest ix rem cs) (hx : dest ≠ cs.flatten.length) : R = none := by
  rw [h.2.2.2.2.2.2, if_neg (fun q => hx (by have := h.2.2.2.1; omega))]
theorem some_after (h : afterInv dk R dest ix rem cs) (hx : ix = dk.length) (hy : dest = cs.flatten.length) : R = some cs.flatten := by
  rw [h.2.2.2.2.2.2, if_pos ⟨hx, by have := h.2.2.2.1; omega⟩]
end
section
variable {h₀ h' : Heap} {L ci : Addr} {rest own : List (Addr × Obj)} {offn : Str} {m₀ m' : Str → Option Value} {ks : List Int} {cc : Int} {i₀ : Int} {s : Shared} {Q : Flow → Shared → Prop} {tk : Nat}
   {news' : List (Addr × Obj)} {oi oi' : Obj} {idx off : Int} {j : Nat}
theorem fld_ends {k₀ n : Nat} {tidx toff : Tok} (F2 : Fr h₀ L h' m') (N2 : News h₀ L h' news') (hd : oi.data = .cell (some (.int idx tidx))) (a1 : ∀ q ∈ (ci, oi) :: rest, q ∈ news') (a2 : ∀ q ∈ own, q ∈ news') (a4 : m' offn = some (.int off toff))
    (a5 : ∀ z : Str, z ≠ Str.ofString "i" → z ≠ offn → z ≠ Str.ofString "x" → m' z = m₀ z) (a6 : fldInv ks cc k₀ n i₀ (j + 1) idx off) :
    FldPost h₀ L ci rest offn m₀ ks cc k₀ n i₀ j own s Q .next { s with heap := h', toks := tk } :=
  ⟨_, _, _, _, _, _, _, _, _, rfl, F2, N2, a1, a2, hd, a4, a5, a6⟩
theorem skip0 {n : Nat} (h : fldInv ks cc 0 n i₀ j idx off) (hj : j < n) (hb : Builtin.bitAnd cc (1 * 2 ^ ((j : Nat) : Int).toNat) = 0) : fldInv ks cc 0 n i₀ (j + 1) idx off :=
  fld_skip h hj (by rw [Nat.zero_add]; exact bit_no hb)
theorem skip4 {n : Nat} (h : fldInv ks cc 4 n i₀ j idx off) (hj : j < n) (hb : Builtin.bitAnd cc (1 * 2 ^ (4 + ((j : Nat) : Int)).toNat) = 0) : fldInv ks cc 4 n i₀ (j + 1) idx off := by
  have e : (4 + ((j : Nat) : Int)).toNat = 4 + j := by omega
  rw [e] at hb
  exact fld_skip h hj (bit_no hb)
theorem take0 {n : Nat} (ho : Oct ks) (h : fldInv ks cc 0 n i₀ j idx off) (h00 : 0 ≤ i₀) (hj : j < n) (hb : Builtin.bitAnd cc (1 * 2 ^ ((j : Nat) : Int).toNat) ≠ 0) (hl : idx < ks.length) :
    fldInv ks cc 0 n i₀ (j + 1) (idx + 1) (Builtin.bitOr off (ks.getD idx.toNat 0 * 2 ^ (((j : Nat) : Int) * 8).toNat)) := by
  have e : (((j : Nat) : Int) * 8).toNat = j * 8 := by omega
  rw [e]
  have := oct_getD ho idx.toNat
  exact fld_take h h00 hj (by rw [Nat.zero_add]; exact bit_of hb) hl this.1 this.2
theorem take4 {n : Nat} (ho : Oct ks) (h : fldInv ks cc 4 n i₀ j idx off) (h00 : 0 ≤ i₀) (hj : j < n) (hb : Builtin.bitAnd cc (1 * 2 ^ (4 + ((j : Nat) : Int)).toNat) ≠ 0) (hl : idx < ks.length) :
    fldInv ks cc 4 n i₀ (j + 1) (idx + 1) (Builtin.bitOr off (ks.getD idx.toNat 0 * 2 ^ (((j : Nat) : Int) * 8).toNat)) := by
  have e : (((j : Nat) : Int) * 8).toNat = j * 8 := by omega
  have e' : (4 + ((j : Nat) : Int)).toNat = 4 + j := by omega
  rw [e' ] at hb
  rw [e]
  have := oct_getD ho idx.toNat
  exact fld_take h h00 hj (bit_of hb) hl this.1 this.2
end
section
variable {h₀ h' : Heap} {L ci lo : Addr} {fixed : List (Addr × Obj)} {m₀ m' : Str → Option Value} {s : Shared} {tk : Nat} {I : Int → Int → List (List Int) → Prop}
   {news' : List (Addr × Obj)} {oi : Obj} {idx rem : Int} {vs : List Value} {cs : List (List Int)} {nn : Nat}
theorem main_ends {tidx trem : Tok} (F2 : Fr h₀ L h' m') (N2 : News h₀ L h' news') (hd : oi.data = .cell (some (.int idx tidx))) (a1 : ∀ q ∈ (ci, oi) :: (lo, listOf (List.toArray vs) nn) :: fixed, q ∈ news') (hv : BytesAre vs cs) (a4 : m' (Str.ofString "remaining") = some (.int rem trem))
    (a5 : ∀ z : Str, z ≠ Str.ofString "remaining" → z ≠ Str.ofString "cmd" → z ≠ Str.ofString "cp_off" → z ≠ Str.ofString "i" → z ≠ Str.ofString "x" → z ≠ Str.ofString "cp_size" → m' z = m₀ z) (a6 : I idx rem cs) :
    MainAt h₀ L ci lo fixed m₀ s I { s with heap := h', toks := tk } :=
  ⟨_, _, _, _, _, _, _, _, _, _, _, _, rfl, F2, N2, a1, hd, hv, a4, a5, a6⟩
theorem main_push {tidx trem t : Tok} {c : Array UInt8} {x : List Int} (F2 : Fr h₀ L h' m') (N2 : News h₀ L h' news') (hd : oi.data = .cell (some (.int idx tidx))) (a1 : ∀ q ∈ (ci, oi) :: (lo, listOf ((List.toArray vs).push (.bytes c t)) nn) :: fixed, q ∈ news') (hv : BytesAre vs cs) (hc : KBw.bInts c = x) (a4 : m' (Str.ofString "remaining") = some (.int rem trem))
    (a5 : ∀ z : Str, z ≠ Str.ofString "remaining" → z ≠ Str.ofString "cmd" → z ≠ Str.ofString "cp_off" → z ≠ Str.ofString "i" → z ≠ Str.ofString "x" → z ≠ Str.ofString "cp_size" → m' z = m₀ z) (a6 : I idx rem (cs ++ [x])) :
    MainAt h₀ L ci lo fixed m₀ s I { s with heap := h', toks := tk } := by
  have e : (List.toArray vs).push (.bytes c t) = List.toArray (vs ++ [.bytes c t]) := by simp
  rw [e] at a1
  exact main_ends F2 N2 hd a1 (hv.append (.cons hc .nil)) a4 a5 a6
end
theorem cp0 {sz : Int} (h : sz = 0) : (65536 : Int) = copySz sz := by unfold copySz; rw [if_pos h]
theorem cp1 {sz : Int} (h : sz ≠ 0) : sz = copySz sz := by unfold copySz; rw [if_neg h]


local macro_rules | `(tactic| k_ne) => `(tactic| walk_at "k_ne")
abbrev fnO (fd : FuncData) : Obj := { cls := .type "function", data := .func fd }
set_option maxHeartbeats 8000000 in
theorem apply_core (w : World) {p : Program} {loose : List Str} {mean : ExcName → Option Value} {mg mb : Str → Option Value}
   {oc od0 : _} {osl : _} {nm ql : Str} {ps : Arguments} {bd : List Stmt} {sc : Scope} {dV kV dc pm0 cdv ct : Value} {an : Option Addr}
   (hK : List.lookup 47 (hd.heap_39 w.params) = some ⟨oc, od0, .func (fnOf nm ql ps bd sc dV kV dc pm0 an cdv ct), osl⟩)
   {base : Heap} (X₀ : (hd.heap_39 w.params).In base) (T₀ : Top p loose mean mg mb base) (codeHd : CodeHd base 46 42)
   (dp un : Nat) (gd : Option (List Code)) (l : List Env) (hdp : dp + 12 < recursionLimit) (hu : un + 100 < cLine)
   {b d : Array UInt8} {bk dk : List Int} {tb td : Tok} (hbk : KBw.bInts b = bk) (hdk : KBw.bInts d = dk) (hb : bk.length ≤ 200000) (hd0 : dk.length ≤ 1800)
   {g : Heap} {s : Shared} {Q E : Value → Shared → Prop} (B : Below (aTop dp un gd l) base l g) {L' : Addr} {m : Str → Option Value} {f1 f2 c1 c2 lo : Addr} {fd1 fd2 : FuncData} {oc1 oc2 oi od o42 : Obj} {nn : Nat} {t0 tl : Tok}
   (F : Fr g L' s.heap (kstB m [(Str.ofString "src_buf", .bytes b tb), (Str.ofString "delta", .bytes d td), (Str.ofString "out", .ref lo), (Str.ofString "get_delta_header_size", .ref f1), (Str.ofString "read_byte", .ref f2)]))
   (N : News g L' s.heap [(L' + 1 + 1, oi), (lo, listOf #[] nn), (f1, fnO fd1), (c1, oc1), (f2, fnO fd2), (c2, oc2), (L' + 1, od), (42, o42)])
   (hoi : oi.data = .cell (some (.int 0 t0))) (hod : od.data = .cell (some (.int dk.length tl)))
   (hap : List.Pairwise (α := Nat) (· ≠ ·) [L' + 1 + 1, lo, f1, c1, f2, c2, L' + 1, 42])
   (H1 : ∀ (i : Int) ti, 0 ≤ i → i ≤ dk.length → Spec PySem.Challenge.rw_jq0004_01.row.prog w (aTop (dp + 1) (un + 3) gd (envOfC ql sc L' 47 cdv :: l)) base (envOfC ql sc L' 47 cdv :: l) (.ref f1) [.bytes d td, .int i ti] [(f1, fnO fd1), (c1, oc1), (L' + 1, od)]
     (fun v n' => ∃ D sz t1 ix t2 k, v = .ref D ∧ n' = [(D, tupO [.int sz t1, .int ix t2]), (f1, fnO fd1), (c1, oc1), (L' + 1, od)] ∧ sizeL (dk.drop i.toNat) = some (sz, k) ∧ ix = i + (k : Nat))
     (.ref 32) (fun n' => n' = [(f1, fnO fd1), (c1, oc1), (L' + 1, od)] ∧ sizeL (dk.drop i.toNat) = none))
   (H2 : ∀ (i : Int) ti oi, oi.data = .cell (some (.int i ti)) → 0 ≤ i → Spec PySem.Challenge.rw_jq0004_01.row.prog w (aTop (dp + 1) (un + 3) gd (envOfC ql sc L' 47 cdv :: l)) base (envOfC ql sc L' 47 cdv :: l) (.ref f2) [.bytes d td] [(f2, fnO fd2), (c2, oc2), (L' + 1 + 1, oi), (L' + 1, od)]
     (fun v n' => ∃ t1 oi' t2, v = .int (dk.getD i.toNat 0) t1 ∧ n' = [(f2, fnO fd2), (c2, oc2), (L' + 1 + 1, oi'), (L' + 1, od)] ∧ oi'.data = .cell (some (.int (i + 1) t2)) ∧ i < dk.length)
     (.ref 32) (fun n' => n' = [(f2, fnO fd2), (c2, oc2), (L' + 1 + 1, oi), (L' + 1, od)] ∧ dk.length ≤ i))
   (hret : ∀ v h' tk n', (∃ lo vs cs nn, v = .ref lo ∧ BytesAre vs cs ∧ readDelta bk dk = some cs.flatten ∧ n' = [(lo, listOf (List.toArray vs) nn), (42, o42), (c1, oc1), (c2, oc2)]) → g.StaysIn h' → Led g h' n' → Q v { s with heap := h', toks := tk })
   (hexc : ∀ e h' tk n', (n' = [(42, o42), (c1, oc1), (c2, oc2)] ∧ readDelta bk dk = none) → Flies base g l (.ref 32) n' e h' → E e { s with heap := h', toks := tk }) :
   wpAny (TheM w) ((aTop dp un gd l).deeper (envOfC ql sc L' 47 cdv)) (execs (bd.drop 7) (envOfC ql sc L' 47 cdv))
     (fun fl s' => Q (match fl with | .ret v => v | _ => .none) s')
     (fun e s' => wpAny (TheM w) ((aTop dp un gd l).deeper (envOfC ql sc L' 47 cdv)) (leaving (envOfC ql sc L' 47 cdv) e) (fun _ s'' => E e s'') (fun e' s'' => E e' s'') s') s := by
  have hfill : (fun _ : OpenLaw => hd.heap_39) PySem.Challenge.rw_jq0004_01 = hd.heap_39 := by (k_fill; rfl)
  clear hfill
  have hK' := (by k_dflt k_is : List.lookup 47 (hd.heap_39 w.params) = some ⟨_, _, .func (fnOf _ _ _ _ _ _ _ _ _ _ _ _), _⟩)
  rw [hK'] at hK
  cases hK
  clear hK'
  have hoct := oct_of hdk
  have X := X₀.keeps B.stays
  have T := T₀.keeps B.stays
  simp only [List.pairwise_cons, List.forall_mem_cons, List.not_mem_nil, false_implies, implies_true, and_true, List.Pairwise.nil] at hap
  obtain ⟨⟨a1, a2, a3, a4, a5, a6, a7⟩, ⟨b1, b2, b3, b4, b5, b6⟩, ⟨e1, e2, e3, e4, e5⟩, ⟨i1, i2, i3, i4⟩, ⟨j1, j2, j3⟩, ⟨q1, q2⟩, r1⟩ := hap
  dsimp only [List.drop]
  k_with_none
  k_with "k_ne" => (refine neN ?_; (try dsimp only); first | assumption | exact Ne.symm (by assumption))
  k_with "execs cons" => k_fold
  k_with "eval Call" => k_fold
  k_with "storeName" => (k_here; k_dflt (first | (refine' storeI_L ?F ?N ?_ ?a ?b; (case F => k_asm); (case N => k_asm); (case a => rfl); (case b => rfl); k_whole; intro h' tk' t' F' N'; (try k_sweep); (try dsimp only); (try k_fold)) | (refine' storeB_L ?F ?N ?_ ?a ?b; (case F => k_asm); (case N => k_asm); (case a => rfl); (case b => rfl); k_whole; intro h' tk' t' F' N'; (try k_sweep); (try dsimp only); (try k_fold)) | (refine' storeG_L ?F ?N ?_ ?a ?b; (case F => k_asm); (case N => k_asm); (case a => rfl); (case b => rfl); k_whole; intro h' tk' F' N'; (try k_sweep); (try dsimp only); (try k_fold))))
  k_with "exec Raise some none" => (k_extra "raise")
  k_with "exec While Constant cons nil" => (k_extra "while")
  k_with "exec While Compare cons nil" => (k_extra "while")
  k_with "KswEnd" => (k_extra "turn")
  k_with "subscriptTail Name Slice bytes ref" => (k_here; (with_reducible show wpAny _ _ (subscriptTail _ (PySem.Expr.Slice (some _) (some _) none _) (Value.bytes _ _) (Value.ref _)) _ _ _); (with_reducible rename Fr _ _ _ _ => F'); (with_reducible rename News _ _ _ _ => N'); (refine slice_ij (s := ⟨_, _, _, _, _⟩) F' N' (by assumption) (by omega) (by omega) (by omega) ?_); intro _ _ _ _ _ _ hcut)
  k_with "call builtin:len" => (k_here; (with_reducible show wpAny _ _ (call (Value.builtin "len") [Value.bytes _ _]) _ _ _); (refine len_b (by assumption) (by omega) ?_); intro _ _)
  k_with "call builtin:ord" => (k_here; (with_reducible show wpAny _ _ (call (Value.builtin "ord") [Value.bytes _ _]) _ _ _); (refine ord_bytes (Eq.trans (by assumption) (cut_one' _ _ _ (by omega) (by omega) (by omega))) ?_); intro _ _ hlo hhi)
  k_with "loadName" => (k_here; k_dflt (refine' loadX_L ?F ?v ?_ ?hk ?hx; (case F => k_asm); (case v => rfl); (case hk => rfl); (case hx => rfl); k_whole))
  k_with "leaving ref" => (k_here; k_dflt (refine' leave_made ?B ?hx ?F ?N (fun _ h => h) ?hf ?hk ?_; (case hx => assumption); (case B => assumption); (case F => k_asm); (case N => k_asm); (case hf => exact rfl); (case hk => exact rfl)); intro h' fl'; (try dsimp only))
  k_with "leaving" => (k_here; k_dflt (refine' leave_on2 ?B ?F ?x ?hr ?hf ?_; (case x => assumption); (case hr => assumption); (case B => assumption); (case F => k_asm); (case hf => exact rfl)); intro h' fl'; (try dsimp only [List.cons_append, List.nil_append]))
  k_with "binaryOp LShift int int" => (k_here; (refine lshift_any (by omega) (by omega) (by k_extra "shift") ?_); intro _ _)
  k_with "call ref" => (k_extra "call")
  k_with "formatField int" => (k_here; (with_reducible rename Fr _ _ _ _ => kF); (refine fmt_int rfl (Heap.NoDigits.keeps (Top.nodigits (by assumption)) (Fr.keep kF)) (by k_extra "digits") ?_); intro _ _ _ hfm)
  k_with "exec For Name Call cons nil" => (k_extra "for")
  k_with "pyIter ref" => (k_extra "iter")
  k_with "subscriptTail Name Slice bytes ref" => (k_here; (with_reducible show wpAny _ _ (subscriptTail _ (PySem.Expr.Slice (some _) none none _) (Value.bytes _ _) (Value.ref _)) _ _ _); (with_reducible rename Fr _ _ _ _ => F'); (with_reducible rename News _ _ _ _ => N'); (refine slice_i (s := ⟨_, _, _, _, _⟩) F' N' (by assumption) (by omega) (by omega) ?_); intro _ _ _ _ _ _ hcut)
  k_with "pyReprObj bytes" => (k_here; (have hsm := drop_small (by assumption) (by assumption)); (refine repr_b (by omega) ?_); intro _ _ _ hxl)
  k_with "call builtin:list.append" => (k_here; k_dflt (refine' append_K ?k1 ?k2 ?k3 ?_ ?z; (case k1 => k_asm); (case k2 => k_asm); (case k3 => k_upd); (case z => k_extra "append"); k_whole); intro h' F' N'; (try k_sweep))
  k_with "MainPost" => (dsimp only [MainPost])
  k_with "k_memx" => (first | k_mem | with_reducible (repeat' (first | exact List.Mem.head _ | refine List.Mem.tail _ ?_)))
  k_with "k_mems" => (repeat' (first | exact List.forall_mem_nil _ | refine List.forall_mem_cons.mpr ⟨by walk_at "k_memx", ?_⟩))
  k_with "k_subl" => (exact fun q9 hq9 => List.Sublist.subset (by with_reducible (repeat (first | exact List.Sublist.refl _ | refine List.Sublist.cons_cons _ ?_ | refine List.Sublist.cons _ ?_))) hq9)
  k_with "k_none" => (first
      | exact delta_none1 (by assumption)
      | exact delta_none2 (by assumption) (by assumption) (by assumption)
      | exact none_zero (by assumption) (by assumption) (by assumption)
      | exact none_long (by assumption) (by assumption) (by assumption) (by assumption) (by assumption) (.inl (by assumption))
      | exact none_long (by assumption) (by assumption) (by assumption) (by assumption) (by assumption) (.inr (by assumption))
      | exact none_off (by assumption) (by assumption) (by assumption) (by assumption) (by assumption) (by assumption) (by assumption) (by assumption) (by assumption)
      | exact none_sz (by assumption) (by assumption) (by assumption) (by assumption) (by assumption) (by assumption) (by assumption) (by assumption) (by assumption) (by assumption)
      | exact none_after1 (by assumption) (by assumption)
      | exact none_after2 (by assumption) (by assumption)
      | exact delta_none3 (by assumption) (by assumption) (by assumption) (by assumption))
  k_with "k_copy" => (first
      | exact end_copy (by assumption) (by assumption) (by assumption) (by assumption) (by assumption) (by assumption) (by assumption) (by assumption) (by omega) (by omega) (by omega) (by omega) (by omega) rfl (by omega) (by omega)
      | exact end_insert (by assumption) (by assumption) (by assumption) (by assumption) (by assumption) (by assumption) (by assumption) (by assumption) (by assumption))
  k_with "k_bad" => (first
      | exact main_out (by assumption) (by assumption)
      | exact end_bad (by assumption) (by assumption) (by assumption) (by assumption) (by assumption) (by assumption) (by assumption) (by omega) (by omega) (by omega) rfl (by omega))
  k_with "k_fin" => (first
      | ((with_reducible show MainAt _ _ _ _ _ _ _ _ _); first
         | exact main_push (by assumption) (by assumption) (by assumption) (by walk_at "k_mems") (by assumption) (by assumption) rfl (by intro z n1 n2 n3 n4 n5 n6; simp [kstB, n1, n2, n3, n4, n5, n6]) (by walk_at "k_copy")
         | exact main_ends (by assumption) (by assumption) (by assumption) (by walk_at "k_mems") (by assumption) rfl (by intro z n1 n2 n3 n4 n5 n6; simp [kstB, n1, n2, n3, n4, n5, n6]) (by walk_at "k_bad"))
      | ((with_reducible show FldPost _ _ _ _ _ _ _ _ _ _ _ _ _ _ _ _ _);
         exact fld_ends (by assumption) (by assumption) (by assumption) (by walk_at "k_mems") (by walk_at "k_subl") rfl (by intro z n1 n2 n3; simp [kstB, n1, n2, n3])
           (by first | exact skip0 (by assumption) (by assumption) (by assumption) | exact skip4 (by assumption) (by assumption) (by assumption) | exact take0 (by assumption) (by assumption) (by omega) (by assumption) (by assumption) (by assumption) | exact take4 (by assumption) (by assumption) (by omega) (by assumption) (by assumption) (by assumption)))
      | (exfalso; omega))
  k_with "raise" => (k_here; (with_reducible show wpAny _ _ (exec (Stmt.Raise (some (Expr.Call (Expr.Name _ _) [_] [] _)) none _) _) _ _ _); k_dflt (refine' Raise_ADE w ?F ?X ?T ?hh ?hdp ?_ ?he ?hk ?hx; (case F => k_asm); (case X => k_asm); (case T => k_asm); (case hh => exact rfl); (case hdp => ktr_room); (case he => exact rfl); (case hk => exact rfl); (case hx => exact rfl)))
  k_with "Told1" => (refine ⟨_, _, rfl, Fr.keep (by assumption), ?_⟩; intro h9 ea9 tk9 hm9)
  k_with "call" => ((with_reducible show wpAny _ _ (call _ [_, _]) _ _ _); (rename Fr _ _ _ _ => kF); (rename News _ _ _ _ => kN); k_dflt (refine' Spec.use (A₀ := aTop dp un gd l) (H1 _ _ ?h0 ?h1) B kF kN [(L' + 1 + 1, _), (lo, listOf #[] nn), (f2, fnO fd2), (c2, oc2), (42, o42)] ?hn ?hr ?hd rfl rfl ?_ ?_; (case h0 => omega); (case h1 => omega); (case hn => repeat' (first | exact List.forall_mem_nil _ | refine List.forall_mem_cons.mpr ⟨by k_mem, ?_⟩)); (case hr => repeat' (first | exact List.forall_mem_nil _ | refine List.forall_mem_cons.mpr ⟨by k_mem, ?_⟩)); (case hd => ((repeat' (first | exact List.forall_mem_nil _ | refine List.forall_mem_cons.mpr ⟨?_, ?_⟩)) <;> k_ne))); (rotate_left); ((intro e9 h9 tk9 n9 g9 hx9 F9 hr9 fl9; obtain ⟨rfl, hx9⟩ := hx9; (try k_fold))); (rotate_left); ((intro v9 h9 tk9 n9 hr9 F9 N9 ap9; obtain ⟨D9, sz9, t91, ix9, t92, kk9, rfl, rfl, hz9, hix9⟩ := hr9; (have hf9 := sizeL_at hoct (by omega) (by omega) hz9); (obtain ⟨hv91, hv92, hv93, hv94⟩ := hf9); (have hD9 : @Ne Nat D9 (L' + 1 + 1) := ap9 _ (List.Mem.head _) _ (List.Mem.head _)); clear ap9; dsimp only [List.cons_append, List.nil_append] at N9; (try k_fold))))
  k_with "digits" => first | exact digits_ok (by assumption) (by assumption) (by omega) | exact digits_len (by assumption)
  k_with "while" => ((rename Fr _ _ _ _ => kF); (rename News _ _ _ _ => kN); k_dflt (refine' main_loop bk dk (readDelta bk dk) _ (ci := L' + 1 + 1) (lo := lo) [(f1, fnO fd1), (c1, oc1), (f2, fnO fd2), (c2, oc2), (L' + 1, od), (42, o42)] kF kN ?hci ?hlo ?hfix ?hd ?hm ?hp ?_ ?_ ?hE; (case hci => k_mem); (case hlo => k_mem); (case hfix => repeat' (first | exact List.forall_mem_nil _ | refine List.forall_mem_cons.mpr ⟨by k_mem, ?_⟩)); (case hd => assumption); (case hm => exact rfl); (case hp => exact start_main (by assumption) (by assumption) (by assumption) (by assumption) (by assumption) (by assumption) (by omega)); (case hE => first | passes_own | with_unfolding_all passes_own)); (clear kF kN); (rotate_left); (intro oix ix ixt rm rmt vs cs nx kU kH kTk hoix hvs kInv kFr kNews; (have kInv' := kInv); obtain ⟨hm1, hm2, hm3, hm4, hm5, hm6, hm7⟩ := kInv'; (try k_fold)); (rotate_left); (intro oix ix ixt rm rmt vs cs nx kU kH kTk hoix hvs kInv kFr kNews; (have kInv' := kInv); obtain ⟨hm1, hm2, hm3, hm4, hm5, hm6, hm7⟩ := kInv'; (try k_fold)))
  k_with "for" => kpr_for
  k_with "iter" => ((rename Fr _ _ _ _ => kF); (rename News _ _ _ _ => kN); (rename IsRange _ _ _ _ _ _ _ _ => rgX); first
   | (k_dflt (refine' for_fields (n := 4) (ci := L' + 1 + 1) dk (dk.getD ix.toNat 0) 0 ((lo, listOf (List.toArray vs) nx) :: [(f1, fnO fd1), (c1, oc1), (f2, fnO fd2), (c2, oc2), (L' + 1, od), (42, o42)]) (Str.ofString "cp_off") rfl rgX rfl (by decide) kF kN ?hci ?hrest ?hd ?ho ?hi (by decide) (by decide) ?_ ?_; (case hci => k_mem); (case hrest => repeat' (first | exact List.forall_mem_nil _ | refine List.forall_mem_cons.mpr ⟨by k_mem, ?_⟩)); (case hd => assumption); (case ho => exact rfl); (case hi => omega)); (clear kF kN rgX); (rotate_left); (intro oiy iy iyt ofv ofvt kU kH kTk hoiy kInv kFr kNews; (have kInv' := kInv); unfold fldInv at kInv'; obtain ⟨hq1, hq2, hq3, hq4, hq5⟩ := kInv'; (have hdn := fld_done kInv); (try k_fold)); (rotate_left); (intro j oiy iy iyt ofv ofvt tj kU kH kTk own hjn hoff hoiy kInv kFr kNews; (have kInv' := kInv); unfold fldInv at kInv'; obtain ⟨hq1, hq2, hq3, hq4, hq5⟩ := kInv'; dsimp only [List.cons_append, List.nil_append] at kNews; (try k_fold)))
   | (k_dflt (refine' for_fields (n := 3) (ci := L' + 1 + 1) dk (dk.getD ix.toNat 0) 4 ((lo, listOf (List.toArray vs) nx) :: [(f1, fnO fd1), (c1, oc1), (f2, fnO fd2), (c2, oc2), (L' + 1, od), (42, o42)]) (Str.ofString "cp_size") rfl rgX rfl (by decide) kF kN ?hci ?hrest ?hd ?ho ?hi (by decide) (by decide) ?_ ?_; (case hci => k_mem); (case hrest => repeat' (first | exact List.forall_mem_nil _ | refine List.forall_mem_cons.mpr ⟨by k_mem, ?_⟩)); (case hd => assumption); (case ho => exact rfl); (case hi => omega)); (clear kF kN rgX); (rotate_left); (intro oiy iy iyt ofv ofvt kU kH kTk hoiy kInv kFr kNews; (have kInv' := kInv); unfold fldInv at kInv'; obtain ⟨hq1, hq2, hq3, hq4, hq5⟩ := kInv'; (have hdn := fld_done kInv); (try k_fold)); (rotate_left); (intro j oiy iy iyt ofv ofvt tj kU kH kTk own hjn hoff hoiy kInv kFr kNews; (have kInv' := kInv); unfold fldInv at kInv'; obtain ⟨hq1, hq2, hq3, hq4, hq5⟩ := kInv'; dsimp only [List.cons_append, List.nil_append] at kNews; (try k_fold))))
  k_with "call" => ((with_reducible show wpAny _ _ (call _ [Value.bytes _ _]) _ _ _); (rename OwnOff _ _ => hoff); (rename Fr _ _ _ _ => kF); (rename News _ _ _ _ => kN); k_dflt (refine' Spec.use (A₀ := aTop dp un gd l) (H2 _ _ _ ?hoi ?h0) B kF kN ((lo, listOf (List.toArray vs) nx) :: (f1, fnO fd1) :: (c1, oc1) :: (42, o42) :: own) ?hn ?hr ?hd rfl rfl ?_ ?_; (case hoi => assumption); (case h0 => omega); (case hn => repeat' (first | exact List.forall_mem_nil _ | refine List.forall_mem_cons.mpr ⟨by walk_at "k_memx", ?_⟩)); (case hr => exact fun q9 hq9 => List.Sublist.subset (by with_reducible (repeat (first | exact List.Sublist.refl _ | refine List.Sublist.cons_cons _ ?_ | refine List.Sublist.cons _ ?_))) hq9); (case hd => ((repeat' (first | exact List.forall_mem_nil _ | exact own_apart hoff (by simp) | refine List.forall_mem_cons.mpr ⟨?_, ?_⟩)) <;> k_ne))); (rotate_left); ((intro e9 h9 tk9 n9 g9 hx9 F9 hr9 fl9; obtain ⟨rfl, hx9⟩ := hx9; (try k_fold))); (rotate_left); ((intro v9 h9 tk9 n9 hr9 F9 N9 ap9; obtain ⟨t91, oi9, t92, rfl, rfl, hoi9, hlt9⟩ := hr9; clear ap9; dsimp only [List.cons_append, List.nil_append] at N9; (try k_fold))))
  k_with "call" => ((with_reducible show wpAny _ _ (call _ [Value.bytes _ _]) _ _ _); (fail_if_success rename OwnOff _ _ => hoff); (rename Fr _ _ _ _ => kF); (rename News _ _ _ _ => kN); k_dflt (refine' Spec.use (A₀ := aTop dp un gd l) (H2 _ _ _ ?hoi ?h0) B kF kN ((lo, listOf (List.toArray vs) nx) :: (f1, fnO fd1) :: (c1, oc1) :: (42, o42) :: []) ?hn ?hr ?hd rfl rfl ?_ ?_; (case hoi => assumption); (case h0 => omega); (case hn => repeat' (first | exact List.forall_mem_nil _ | refine List.forall_mem_cons.mpr ⟨by k_mem, ?_⟩)); (case hr => repeat' (first | (intro q9 hq9; repeat (first | exact hq9 | refine List.Mem.tail _ ?_); done) | refine List.forall_mem_cons.mpr ⟨by k_mem, ?_⟩)); (case hd => ((repeat' (first | exact List.forall_mem_nil _ | refine List.forall_mem_cons.mpr ⟨?_, ?_⟩)) <;> k_ne))); (rotate_left); ((intro e9 h9 tk9 n9 g9 hx9 F9 hr9 fl9; obtain ⟨rfl, hx9⟩ := hx9; (try k_fold))); (rotate_left); ((intro v9 h9 tk9 n9 hr9 F9 N9 ap9; obtain ⟨t91, oi9, t92, rfl, rfl, hoi9, hlt9⟩ := hr9; clear ap9; dsimp only [List.cons_append, List.nil_append] at N9; (try k_fold))))
  k_with "call" => ((with_reducible show wpAny _ _ (call (Value.ref 40) [_]) _ _ _); (rename Fr _ _ _ _ => kF); (rename News _ _ _ _ => kN); k_dflt (refine' Spec.use (A₀ := aTop dp un gd l) (chunks_spec w X₀ T₀ (dp + 1) (un + 3) gd _ ?d1 ?u1 hvs ?z1 ?z2) B kF kN [(42, o42), (c1, oc1), (c2, oc2)] ?hn ?hr ?hd rfl rfl ?_ ?_; (case d1 => omega); (case u1 => omega); (case z1 => omega); (case z2 => omega); (case hn => repeat' (first | exact List.forall_mem_nil _ | refine List.forall_mem_cons.mpr ⟨by k_mem, ?_⟩)); (case hr => repeat' (first | exact List.forall_mem_nil _ | refine List.forall_mem_cons.mpr ⟨by k_mem, ?_⟩)); (case hd => ((repeat' (first | exact List.forall_mem_nil _ | refine List.forall_mem_cons.mpr ⟨?_, ?_⟩)) <;> k_ne))); (rotate_left); ((intro e9 h9 tk9 n9 g9 hx9; exact hx9.elim)); ((intro v9 h9 tk9 n9 hr9 F9 N9 ap9; obtain ⟨t91, rfl, rfl⟩ := hr9; clear ap9; dsimp only [List.cons_append, List.nil_append] at N9; (try k_fold))))
  k_with "exec If" => (k_here; (fail_if_success (have h9 := hcs0)); (with_reducible show wpAny _ _ (exec (Stmt.If (PySem.Expr.Compare (PySem.Expr.Name "cp_size" _) _ _ _) _ _ _) _) _ _ _); (rename Fr _ _ _ _ => kF); (rename News _ _ _ _ => kN); (have hcs := copySz_bd (sz := ofv) (by omega) (by omega)); obtain ⟨hcs0, hcs1⟩ := hcs; k_dflt (refine' cut_if (s := ⟨_, _, _, _, _⟩) (Str.ofString "cp_size") (copySz ofv) kF kN ?_ ?_); (rotate_left); (clear kF kN; intro kU kH kTk ts kFr kNews; (try k_fold)); (rotate_left); (try k_fold))
  k_with "CutPost" => ((rename Fr _ _ _ _ => kF); (rename News _ _ _ _ => kN); k_dflt (exact cut_end kF kN rfl (by first | exact cp0 (by omega) | exact cp1 (by omega)) (by intro z a1; simp [kstB, a1])))
  k_with "shift" => exact oct_shift (by assumption) _
  k_with "append" => (rw [List.size_toArray, hvs.length, sizeLine_eq]; omega)
  k_steps
  all_goals (try walk_at "k_fin")
  all_goals (try exact hexc _ _ _ _ ⟨rfl, by walk_at "k_none"⟩ (Flies.sub (by assumption) (by walk_at "k_mems")))
  all_goals (try exact hret _ _ _ _ ⟨_, _, _, _, rfl, by assumption, some_after (by assumption) (by assumption) (by assumption), rfl⟩ (Fr.keep (by assumption)) (Led.of_news (by assumption)))

def CodeOk (q : Str) (oc : Obj) : Prop := ∃ vs t, oc.data = .fields vs ∧ vs[1]? = some (.str q t)
abbrev tabFull (c1 c2 : Addr) : Obj := tabObj (#[] ++ #[rawInt (21 : Nat), rawInt (4 : Nat), Value.ref c1] ++ #[rawInt (35 : Nat), rawInt (4 : Nat), Value.ref c2])
/-- the code objects of the two nested defs stand in the table -/
def Tab (n : List (Addr × Obj)) : Prop := ∃ c1 oc1 c2 oc2, n = [(42, tabFull c1 c2), (c1, oc1), (c2, oc2)] ∧ CodeOk (Str.ofString "_apply_delta_py.<locals>.get_delta_header_size") oc1 ∧ CodeOk (Str.ofString "_apply_delta_py.<locals>.read_byte") oc2 ∧ @Ne Nat c1 c2 ∧ @Ne Nat c1 42 ∧ @Ne Nat c2 42
theorem fr_names {g h : Heap} {L : Addr} {m : Str → Option Value} {ps : List (Str × Value)} (F : Fr g L h m) (hp : ∀ p ∈ ps, m p.1 = some p.2) : Fr g L h (kstB m ps) := by
  have em : kstB m ps = m := by
    funext y
    exact kstB_eq hp fun _ => rfl
  rw [em]; exact F
theorem codeOk_of {q q' : Str} {oc : Obj} {vs : Array Value} {t : Tok} (h1 : oc.data = .fields vs) (h2 : vs[1]? = some (.str q' t)) (e : q' = q) : CodeOk q oc := ⟨vs, t, h1, e ▸ h2⟩
theorem news_sub {g h : Heap} {L : Addr} {n n' : List (Addr × Obj)} (N : News g L h n) (hs : ∀ q ∈ n', q ∈ n) : News g L h n' := fun q hq => N q (hs q hq)
theorem apply_core2 (w : World) {p : Program} {loose : List Str} {mean : ExcName → Option Value} {mg mb : Str → Option Value}
   {oc od0 : _} {osl : _} {nm ql : Str} {ps : Arguments} {bd : List Stmt} {sc : Scope} {dV kV dc pm0 cdv ct : Value} {an : Option Addr}
   (hK : List.lookup 47 (hd.heap_39 w.params) = some ⟨oc, od0, .func (fnOf nm ql ps bd sc dV kV dc pm0 an cdv ct), osl⟩)
   {base : Heap} (X₀ : (hd.heap_39 w.params).In base) (T₀ : Top p loose mean mg mb base) (codeHd : CodeHd base 46 42)
   (dp un : Nat) (gd : Option (List Code)) (l : List Env) (hdp : dp + 12 < recursionLimit) (hu : un + 100 < cLine)
   {b d : Array UInt8} {bk dk : List Int} {tb td : Tok} (hbk : KBw.bInts b = bk) (hdk : KBw.bInts d = dk) (hb : bk.length ≤ 200000) (hd0 : dk.length ≤ 1800)
   {g : Heap} {s : Shared} {Q E : Value → Shared → Prop} (B : Below (aTop dp un gd l) base l g) {L' : Addr} {m : Str → Option Value} {f1 f2 c1 c2 lo : Addr} {fd1 fd2 : FuncData} {oc1 oc2 oi od o42 : Obj} {nn : Nat} {t0 tl : Tok}
   (F : Fr g L' s.heap (kstB m [(Str.ofString "src_buf", .bytes b tb), (Str.ofString "delta", .bytes d td), (Str.ofString "out", .ref lo), (Str.ofString "get_delta_header_size", .ref f1), (Str.ofString "read_byte", .ref f2)]))
   (N : News g L' s.heap [(L' + 1 + 1, oi), (lo, listOf #[] nn), (f1, fnO fd1), (c1, oc1), (f2, fnO fd2), (c2, oc2), (L' + 1, od), (42, o42)])
   (hoi : oi.data = .cell (some (.int 0 t0))) (hod : od.data = .cell (some (.int dk.length tl)))
   (hap : List.Pairwise (α := Nat) (· ≠ ·) [L' + 1 + 1, lo, f1, c1, f2, c2, L' + 1, 42])
   (H1 : ∀ (i : Int) ti, 0 ≤ i → i ≤ dk.length → Spec PySem.Challenge.rw_jq0004_01.row.prog w (aTop (dp + 1) (un + 3) gd (envOfC ql sc L' 47 cdv :: l)) base (envOfC ql sc L' 47 cdv :: l) (.ref f1) [.bytes d td, .int i ti] [(f1, fnO fd1), (c1, oc1), (L' + 1, od)]
     (fun v n' => ∃ D sz t1 ix t2 k, v = .ref D ∧ n' = [(D, tupO [.int sz t1, .int ix t2]), (f1, fnO fd1), (c1, oc1), (L' + 1, od)] ∧ sizeL (dk.drop i.toNat) = some (sz, k) ∧ ix = i + (k : Nat))
     (.ref 32) (fun n' => n' = [(f1, fnO fd1), (c1, oc1), (L' + 1, od)] ∧ sizeL (dk.drop i.toNat) = none))
   (H2 : ∀ (i : Int) ti oi, oi.data = .cell (some (.int i ti)) → 0 ≤ i → Spec PySem.Challenge.rw_jq0004_01.row.prog w (aTop (dp + 1) (un + 3) gd (envOfC ql sc L' 47 cdv :: l)) base (envOfC ql sc L' 47 cdv :: l) (.ref f2) [.bytes d td] [(f2, fnO fd2), (c2, oc2), (L' + 1 + 1, oi), (L' + 1, od)]
     (fun v n' => ∃ t1 oi' t2, v = .int (dk.getD i.toNat 0) t1 ∧ n' = [(f2, fnO fd2), (c2, oc2), (L' + 1 + 1, oi'), (L' + 1, od)] ∧ oi'.data = .cell (some (.int (i + 1) t2)) ∧ i < dk.length)
     (.ref 32) (fun n' => n' = [(f2, fnO fd2), (c2, oc2), (L' + 1 + 1, oi), (L' + 1, od)] ∧ dk.length ≤ i))
   (hret : ∀ v h' tk n', (∃ lo vs cs nn, v = .ref lo ∧ BytesAre vs cs ∧ readDelta bk dk = some cs.flatten ∧ n' = [(lo, listOf (List.toArray vs) nn), (42, o42), (c1, oc1), (c2, oc2)]) → g.StaysIn h' → Led g h' n' → Q v { s with heap := h', toks := tk })
   (hexc : ∀ e h' tk n', (n' = [(42, o42), (c1, oc1), (c2, oc2)] ∧ readDelta bk dk = none) → Flies base g l (.ref 32) n' e h' → E e { s with heap := h', toks := tk })
   {stmts : List Stmt} {Pn : Flow → Shared → Prop} {En : Value → Shared → Prop} {Am : Around} {env : Env} (hst : bd.drop 7 = stmts) (henv : envOfC ql sc L' 47 cdv = env) (hA : (aTop dp un gd l).deeper (envOfC ql sc L' 47 cdv) = Am)
   (hP : ∀ fl s', Q (match fl with | .ret v => v | _ => .none) s' → Pn fl s')
   (hE : ∀ e s', wpAny (TheM w) ((aTop dp un gd l).deeper (envOfC ql sc L' 47 cdv)) (leaving (envOfC ql sc L' 47 cdv) e) (fun _ s'' => E e s'') (fun e' s'' => E e' s'') s' → En e s') :
   wpAny (TheM w) Am (execs stmts env) Pn En s := by
  subst hst henv hA
  exact wpAny_mono (apply_core w hK X₀ T₀ codeHd dp un gd l hdp hu hbk hdk hb hd0 B F N hoi hod hap H1 H2 hret hexc) hP hE

set_option maxHeartbeats 8000000 in
theorem apply_first (w : World) {p : Program} {loose : List Str} {mean : ExcName → Option Value} {mg mb : Str → Option Value}
   {base : Heap} (X₀ : (hd.heap_39 w.params).In base) (T₀ : Top p loose mean mg mb base) (codeHd : CodeHd base 46 42)
   (dp un : Nat) (gd : Option (List Code)) (l : List Env) (hdp : dp + 12 < recursionLimit) (hu : un + 100 < cLine)
   {b d : Array UInt8} {bk dk : List Int} (tb td : Tok) (hbk : KBw.bInts b = bk) (hdk : KBw.bInts d = dk) (hb : bk.length ≤ 200000) (hd0 : dk.length ≤ 1800) :
   Spec PySem.Challenge.rw_jq0004_01.row.prog w (aTop dp un gd l) base l (.ref 47) [.bytes b tb, .bytes d td] [(42, tabObj #[])]
     (fun v n' => ∃ lo vs cs nn n1, v = .ref lo ∧ BytesAre vs cs ∧ readDelta bk dk = some cs.flatten ∧ n' = (lo, listOf (List.toArray vs) nn) :: n1 ∧ Tab n1)
     (.ref 32) (fun n' => Tab n' ∧ readDelta bk dk = none) := by
  intro g s Q E B hg hsz N hret hexc
  have hfill : (fun _ : OpenLaw => hd.heap_39) PySem.Challenge.rw_jq0004_01 = hd.heap_39 := by (k_fill; rfl)
  clear hfill
  have X := X₀.keeps B.stays
  have T := T₀.keeps B.stays
  refine wpAny_call ?_
  k_dflt (refine' enter_defC hg hsz N X T ?k6 ?k7 ?k8 ?k9 ?kB ?kD ?_ ?c2 ?c3 ?c4; (case k6 => k_is); (case k7 => k_is); (case k8 => ktr_room); (case k9 => exact BindsTo.of_eq rfl); (case kB => exact rfl); (case kD => decide +kernel); (case c2 => exact rfl); (case c3 => exact rfl); (case c4 => exact rfl); k_whole; intro L' h' tk' cells' F' N' Y' l1; (try k_lt l1); k_cells Y'; (try simp only [List.cons_append, List.nil_append] at N'); (try dsimp only); (try k_fold))
  k_with_none
  k_with "execs cons" => k_fold
  k_with "eval Call" => k_fold
  k_with "storeName" => (k_here; k_dflt (first | (refine' storeI_L ?F ?N ?_ ?a ?b; (case F => k_asm); (case N => k_asm); (case a => rfl); (case b => rfl); k_whole; intro h' tk' t' F' N'; (try k_sweep); (try dsimp only); (try k_fold)) | (refine' storeB_L ?F ?N ?_ ?a ?b; (case F => k_asm); (case N => k_asm); (case a => rfl); (case b => rfl); k_whole; intro h' tk' t' F' N'; (try k_sweep); (try dsimp only); (try k_fold)) | (refine' storeG_L ?F ?N ?_ ?a ?b; (case F => k_asm); (case N => k_asm); (case a => rfl); (case b => rfl); k_whole; intro h' tk' F' N'; (try k_sweep); (try dsimp only); (try k_fold))))
  k_with "k_memx" => (first | k_mem | with_reducible (repeat' (first | exact List.Mem.head _ | refine List.Mem.tail _ ?_)))
  k_with "exec Raise some none" => k_extra "raise"
  k_with "exec While Constant cons nil" => k_extra "while"
  k_with "exec While Compare cons nil" => k_extra "while"
  k_with "KswEnd" => k_extra "turn"
  k_with "subscriptTail Name Slice bytes ref" => (k_here; (with_reducible show wpAny _ _ (subscriptTail _ (PySem.Expr.Slice (some _) (some _) none _) (Value.bytes _ _) (Value.ref _)) _ _ _); (with_reducible rename Fr _ _ _ _ => F'); (with_reducible rename News _ _ _ _ => N'); (refine slice_ij (s := ⟨_, _, _, _, _⟩) F' N' (by assumption) (by omega) (by omega) (by omega) ?_); intro _ _ _ _ _ _ hcut)
  k_with "call builtin:len" => (k_here; (with_reducible show wpAny _ _ (call (Value.builtin "len") [Value.bytes _ _]) _ _ _); (refine len_b (by assumption) (by omega) ?_); intro _ _)
  k_with "call builtin:ord" => (k_here; (with_reducible show wpAny _ _ (call (Value.builtin "ord") [Value.bytes _ _]) _ _ _); (refine ord_bytes (Eq.trans (by assumption) (cut_one' _ _ _ (by omega) (by omega) (by omega))) ?_); intro _ _ hlo hhi)
  k_with "loadName" => (k_here; k_dflt (refine' loadX_L ?F ?v ?_ ?hk ?hx; (case F => k_asm); (case v => rfl); (case hk => rfl); (case hx => rfl); k_whole))
  k_with "leaving ref" => (k_here; k_dflt (refine' leave_made ?B ?hx ?F ?N (fun _ h => h) ?hf ?hk ?_; (case hx => assumption); (case B => assumption); (case F => k_asm); (case N => k_asm); (case hf => exact rfl); (case hk => exact rfl)); intro h' fl'; (try dsimp only))
  k_with "leaving" => (k_here; k_dflt (refine' leave_on2 ?B ?F ?x ?hr ?hf ?_; (case x => assumption); (case hr => assumption); (case B => assumption); (case F => k_asm); (case hf => exact rfl)); intro h' fl'; (try dsimp only [List.cons_append, List.nil_append]))
  k_with "binaryOp LShift int int" => (k_here; (refine lshift_any (by omega) (by omega) (by k_extra "shift") ?_); intro _ _)
  k_with "call ref" => k_extra "call"
  k_with "formatField int" => (k_here; (with_reducible rename Fr _ _ _ _ => kF); (refine fmt_int rfl (Heap.NoDigits.keeps (Top.nodigits (by assumption)) (Fr.keep kF)) (by k_extra "digits") ?_); intro _ _ _ hfm)
  k_with "exec For Name Call cons nil" => k_extra "for"
  k_with "pyIter ref" => k_extra "iter"
  k_with "subscriptTail Name Slice bytes ref" => (k_here; (with_reducible show wpAny _ _ (subscriptTail _ (PySem.Expr.Slice (some _) none none _) (Value.bytes _ _) (Value.ref _)) _ _ _); (with_reducible rename Fr _ _ _ _ => F'); (with_reducible rename News _ _ _ _ => N'); (refine slice_i (s := ⟨_, _, _, _, _⟩) F' N' (by assumption) (by omega) (by omega) ?_); intro _ _ _ _ _ _ hcut)
  k_with "pyReprObj bytes" => (k_here; (have hsm := drop_small (by assumption) (by assumption)); (refine repr_b (by omega) ?_); intro _ _ _ hxl)
  k_with "call builtin:list.append" => (k_here; k_dflt (refine' append_K ?k1 ?k2 ?k3 ?_ ?z; (case k1 => k_asm); (case k2 => k_asm); (case k3 => k_upd); (case z => k_extra "append"); k_whole); intro h' F' N'; (try k_sweep))
  k_with "MainPost" => (dsimp only [MainPost])
  k_with "execs cons Assign cons" => k_extra "core"
  have hK := (by k_dflt k_is : List.lookup 47 (hd.heap_39 w.params) = some ⟨_, _, .func (fnOf _ _ _ _ _ _ _ _ _ _ _ _), _⟩)
  k_with "core" => ((with_reducible show wpAny _ _ (execs (Stmt.Assign [Expr.Tuple _ _ _] _ _ :: _) _) _ _ _); (rename Fr _ _ _ _ => kF); (rename News _ _ _ _ => kN); k_dflt ((refine' apply_core2 (Q := Q) (E := E) w hK X₀ T₀ codeHd dp un gd l hdp hu hbk hdk hb hd0 B ?F ?N ?hoi ?hod ?hap ?H1 ?H2 ?hret ?hexc ?hst ?henv ?hA ?hP ?hE); (case hst => exact rfl); (case henv => exact rfl); (case hA => exact rfl); (case hP => exact fun _ _ z => z); (case hE => exact fun _ _ z => z); (case F => refine fr_names kF ?_; (repeat' (first | exact List.forall_mem_nil _ | refine List.forall_mem_cons.mpr ⟨by exact rfl, ?_⟩)))); (case N => (k_dflt (exact news_sub kN (List.forall_mem_cons.mpr ⟨(List.Mem.tail _ (List.Mem.tail _ (List.Mem.tail _ (List.Mem.tail _ (List.Mem.tail _ (List.Mem.head _)))))), List.forall_mem_cons.mpr ⟨(List.Mem.tail _ (List.Mem.tail _ (List.Mem.tail _ (List.Mem.tail _ (List.Mem.head _))))), List.forall_mem_cons.mpr ⟨(List.Mem.tail _ (List.Mem.tail _ (List.Mem.head _))), List.forall_mem_cons.mpr ⟨(List.Mem.tail _ (List.Mem.tail _ (List.Mem.tail _ (List.Mem.head _)))), List.forall_mem_cons.mpr ⟨(List.Mem.head _), List.forall_mem_cons.mpr ⟨(List.Mem.tail _ (List.Mem.head _)), List.forall_mem_cons.mpr ⟨(List.Mem.tail _ (List.Mem.tail _ (List.Mem.tail _ (List.Mem.tail _ (List.Mem.tail _ (List.Mem.tail _ (List.Mem.head _))))))), List.forall_mem_cons.mpr ⟨(List.Mem.tail _ (List.Mem.tail _ (List.Mem.tail _ (List.Mem.tail _ (List.Mem.tail _ (List.Mem.tail _ (List.Mem.tail _ (List.Mem.head _)))))))), List.forall_mem_nil _⟩⟩⟩⟩⟩⟩⟩⟩)))); (case hoi => assumption); (case hod => assumption); (case hap => (simp only [List.pairwise_cons, List.forall_mem_cons, List.not_mem_nil, false_implies, implies_true, and_true, List.Pairwise.nil]; omega)); (case H1 => (k_dflt (intro i ti h0 h1; exact hdr_spec w hK rfl X₀ T₀ codeHd (dp + 1) (un + 3) gd _ (by omega) (by omega) (by assumption) (by assumption) hdk hd0 (by assumption) td ti h0 h1))); (case H2 => (k_dflt (intro i ti oi hoi h0; exact byte_spec w hK rfl X₀ T₀ codeHd (dp + 1) (un + 3) gd _ (by omega) (by omega) (by assumption) (by assumption) hdk hd0 (by assumption) hoi td h0 (show @Ne Nat _ _ by omega) (show @Ne Nat _ _ by omega) (show @Ne Nat _ _ by omega)))); (case hexc => (rintro e h' tk n' ⟨rfl, hn⟩ fl; exact hexc _ _ _ _ ⟨⟨_, _, _, _, rfl, codeOk_of (by assumption) (by assumption) (by kernel_rfl), codeOk_of (by assumption) (by assumption) (by kernel_rfl), by omega, by omega, by omega⟩, hn⟩ fl)); (case hret => (rintro v h' tk n' ⟨lo, vs, cs, nn, rfl, hb, hr, rfl⟩ hs hl; exact hret _ _ _ _ ⟨lo, vs, cs, nn, _, rfl, hb, hr, rfl, ⟨_, _, _, _, rfl, codeOk_of (by assumption) (by assumption) (by kernel_rfl), codeOk_of (by assumption) (by assumption) (by kernel_rfl), by omega, by omega, by omega⟩⟩ hs hl)))
  k_steps

theorem name_of {q q' : Str} {vs : Array Value} {t : Tok} (h : vs[1]? = some (.str q t)) (e : q = q') : vs[1]? = some (.str q' t) := e ▸ h
set_option maxHeartbeats 8000000 in
theorem apply_lists (w : World) {p : Program} {loose : List Str} {mean : ExcName → Option Value} {mg mb : Str → Option Value}
   {base : Heap} (X₀ : (hd.heap_39 w.params).In base) (T₀ : Top p loose mean mg mb base) (codeHd : CodeHd base 46 42)
   (dp un : Nat) (gd : Option (List Code)) (l : List Env) (hdp : dp + 12 < recursionLimit) (hu : un + 100 < cLine)
   {bk dk : List Int} {ls ld : Addr} {vs vd : List Value} {cb cd : List (List Int)} {nb nd : Nat} (hvb : BytesAre vs cb) (hvd : BytesAre vd cd) {n : List (Addr × Obj)} (hn : Tab n) (hbk : cb.flatten = bk) (hdk : cd.flatten = dk) (hb : bk.length ≤ 200000) (hd0 : dk.length ≤ 1800) :
   Spec PySem.Challenge.rw_jq0004_01.row.prog w (aTop dp un gd l) base l (.ref 47) [.ref ls, .ref ld] ((ls, listOf (List.toArray vs) nb) :: (ld, listOf (List.toArray vd) nd) :: n)
     (fun v n' => ∃ lo vs cs nn n1, v = .ref lo ∧ BytesAre vs cs ∧ readDelta bk dk = some cs.flatten ∧ n' = (lo, listOf (List.toArray vs) nn) :: n1 ∧ Tab n1)
     (.ref 32) (fun n' => Tab n' ∧ readDelta bk dk = none) := by
  obtain ⟨c1, oc1, c2, oc2, rfl, ⟨vs1, t1, k1, k2⟩, ⟨vs2, t2, k3, k4⟩, hc12, hc1, hc2⟩ := hn
  intro g s Q E B hg hsz N hret hexc
  have hfill : (fun _ : OpenLaw => hd.heap_39) PySem.Challenge.rw_jq0004_01 = hd.heap_39 := by (k_fill; rfl)
  clear hfill
  have X := X₀.keeps B.stays
  have T := T₀.keeps B.stays
  refine wpAny_call ?_
  k_dflt (refine' enter_defC hg hsz N X T ?k6 ?k7 ?k8 ?k9 ?kB ?kD ?_ ?c2 ?c3 ?c4; (case k6 => k_is); (case k7 => k_is); (case k8 => ktr_room); (case k9 => exact BindsTo.of_eq rfl); (case kB => exact rfl); (case kD => decide +kernel); (case c2 => exact rfl); (case c3 => exact rfl); (case c4 => exact rfl); k_whole; intro L' h' tk' cells' F' N' Y' l1; (try k_lt l1); k_cells Y'; (try simp only [List.cons_append, List.nil_append] at N'); (try dsimp only); (try k_fold))
  k_with_none
  k_with "execs cons" => k_fold
  k_with "eval Call" => k_fold
  k_with "storeName" => (k_here; k_dflt (first | (refine' storeI_L ?F ?N ?_ ?a ?b; (case F => k_asm); (case N => k_asm); (case a => rfl); (case b => rfl); k_whole; intro h' tk' t' F' N'; (try k_sweep); (try dsimp only); (try k_fold)) | (refine' storeB_L ?F ?N ?_ ?a ?b; (case F => k_asm); (case N => k_asm); (case a => rfl); (case b => rfl); k_whole; intro h' tk' t' F' N'; (try k_sweep); (try dsimp only); (try k_fold)) | (refine' storeG_L ?F ?N ?_ ?a ?b; (case F => k_asm); (case N => k_asm); (case a => rfl); (case b => rfl); k_whole; intro h' tk' F' N'; (try k_sweep); (try dsimp only); (try k_fold))))
  k_with "k_memx" => (first | k_mem | with_reducible (repeat' (first | exact List.Mem.head _ | refine List.Mem.tail _ ?_)))
  k_with "exec Raise some none" => k_extra "raise"
  k_with "exec While Constant cons nil" => k_extra "while"
  k_with "exec While Compare cons nil" => k_extra "while"
  k_with "KswEnd" => k_extra "turn"
  k_with "subscriptTail Name Slice bytes ref" => (k_here; (with_reducible show wpAny _ _ (subscriptTail _ (PySem.Expr.Slice (some _) (some _) none _) (Value.bytes _ _) (Value.ref _)) _ _ _); (with_reducible rename Fr _ _ _ _ => F'); (with_reducible rename News _ _ _ _ => N'); (refine slice_ij (s := ⟨_, _, _, _, _⟩) F' N' (by assumption) (by omega) (by omega) (by omega) ?_); intro _ _ _ _ _ _ hcut)
  k_with "call builtin:len" => (k_here; (with_reducible show wpAny _ _ (call (Value.builtin "len") [Value.bytes _ _]) _ _ _); (refine len_b (by assumption) (by omega) ?_); intro _ _)
  k_with "call builtin:ord" => (k_here; (with_reducible show wpAny _ _ (call (Value.builtin "ord") [Value.bytes _ _]) _ _ _); (refine ord_bytes (Eq.trans (by assumption) (cut_one' _ _ _ (by omega) (by omega) (by omega))) ?_); intro _ _ hlo hhi)
  k_with "loadName" => (k_here; k_dflt (refine' loadX_L ?F ?v ?_ ?hk ?hx; (case F => k_asm); (case v => rfl); (case hk => rfl); (case hx => rfl); k_whole))
  k_with "leaving ref" => (k_here; k_dflt (refine' leave_made ?B ?hx ?F ?N (fun _ h => h) ?hf ?hk ?_; (case hx => assumption); (case B => assumption); (case F => k_asm); (case N => k_asm); (case hf => exact rfl); (case hk => exact rfl)); intro h' fl'; (try dsimp only))
  k_with "leaving" => (k_here; k_dflt (refine' leave_on2 ?B ?F ?x ?hr ?hf ?_; (case x => assumption); (case hr => assumption); (case B => assumption); (case F => k_asm); (case hf => exact rfl)); intro h' fl'; (try dsimp only [List.cons_append, List.nil_append]))
  k_with "binaryOp LShift int int" => (k_here; (refine lshift_any (by omega) (by omega) (by k_extra "shift") ?_); intro _ _)
  k_with "call ref" => k_extra "call"
  k_with "formatField int" => (k_here; (with_reducible rename Fr _ _ _ _ => kF); (refine fmt_int rfl (Heap.NoDigits.keeps (Top.nodigits (by assumption)) (Fr.keep kF)) (by k_extra "digits") ?_); intro _ _ _ hfm)
  k_with "exec For Name Call cons nil" => k_extra "for"
  k_with "pyIter ref" => k_extra "iter"
  k_with "subscriptTail Name Slice bytes ref" => (k_here; (with_reducible show wpAny _ _ (subscriptTail _ (PySem.Expr.Slice (some _) none none _) (Value.bytes _ _) (Value.ref _)) _ _ _); (with_reducible rename Fr _ _ _ _ => F'); (with_reducible rename News _ _ _ _ => N'); (refine slice_i (s := ⟨_, _, _, _, _⟩) F' N' (by assumption) (by omega) (by omega) ?_); intro _ _ _ _ _ _ hcut)
  k_with "pyReprObj bytes" => (k_here; (have hsm := drop_small (by assumption) (by assumption)); (refine repr_b (by omega) ?_); intro _ _ _ hxl)
  k_with "call builtin:list.append" => (k_here; k_dflt (refine' append_K ?k1 ?k2 ?k3 ?_ ?z; (case k1 => k_asm); (case k2 => k_asm); (case k3 => k_upd); (case z => k_extra "append"); k_whole); intro h' F' N'; (try k_sweep))
  k_with "MainPost" => (dsimp only [MainPost])
  k_with "execs cons Assign cons" => k_extra "core"
  k_with "getMethod bytes" => k_extra "meth"
  k_with "call builtin:bytes.join" => k_extra "join"
  have hK := (by k_dflt k_is : List.lookup 47 (hd.heap_39 w.params) = some ⟨_, _, .func (fnOf _ _ _ _ _ _ _ _ _ _ _ _), _⟩)
  k_with "meth" => (k_here; refine method_join ?_)
  k_with "join" => (k_here; (with_reducible show wpAny _ _ (call _ [_, Value.ref ls]) _ _ _); (with_reducible rename News _ _ _ _ => kN); k_dflt (refine' join_K (vs := vs) (cs := cb) (s := ⟨_, _, _, _, _⟩) ?hl hvb ?hz ?_; (case hz => rw [hbk]; omega); (case hl => exact ⟨_, (kN (ls, listOf (List.toArray vs) nb) (by k_mem)).1, rfl, _, rfl⟩)); intro _ _ _ hj9; replace hj9 := Eq.trans hj9 hbk)
  k_with "join" => (k_here; (with_reducible show wpAny _ _ (call _ [_, Value.ref ld]) _ _ _); (with_reducible rename News _ _ _ _ => kN); k_dflt (refine' join_K (vs := vd) (cs := cd) (s := ⟨_, _, _, _, _⟩) ?hl hvd ?hz ?_; (case hz => rw [hdk]; omega); (case hl => exact ⟨_, (kN (ld, listOf (List.toArray vd) nd) (by k_mem)).1, rfl, _, rfl⟩)); intro _ _ _ hj9; replace hj9 := Eq.trans hj9 hdk)
  k_with "core" => ((with_reducible show wpAny _ _ (execs (Stmt.Assign [Expr.Tuple _ _ _] _ _ :: _) _) _ _ _); (rename Fr _ _ _ _ => kF); (rename News _ _ _ _ => kN); k_dflt ((refine' apply_core2 (Q := Q) (E := E) w hK X₀ T₀ codeHd dp un gd l hdp hu ?e1 ?e2 hb hd0 B ?F ?N ?hoi ?hod ?hap ?H1 ?H2 ?hret ?hexc ?hst ?henv ?hA ?hP ?hE); (case hst => exact rfl); (case henv => exact rfl); (case hA => exact rfl); (case hP => exact fun _ _ z => z); (case hE => exact fun _ _ z => z); (case F => refine fr_names kF ?_; (repeat' (first | exact List.forall_mem_nil _ | refine List.forall_mem_cons.mpr ⟨by exact rfl, ?_⟩)))); (case e1 => assumption); (case e2 => assumption); (case N => (k_dflt (exact news_sub kN (List.forall_mem_cons.mpr ⟨(List.Mem.tail _ (List.Mem.tail _ (List.Mem.tail _ (List.Mem.head _)))), List.forall_mem_cons.mpr ⟨(List.Mem.tail _ (List.Mem.tail _ (List.Mem.head _))), List.forall_mem_cons.mpr ⟨(List.Mem.tail _ (List.Mem.head _)), List.forall_mem_cons.mpr ⟨(List.Mem.tail _ (List.Mem.tail _ (List.Mem.tail _ (List.Mem.tail _ (List.Mem.tail _ (List.Mem.tail _ (List.Mem.tail _ (List.Mem.tail _ (List.Mem.head _))))))))), List.forall_mem_cons.mpr ⟨(List.Mem.head _), List.forall_mem_cons.mpr ⟨(List.Mem.tail _ (List.Mem.tail _ (List.Mem.tail _ (List.Mem.tail _ (List.Mem.tail _ (List.Mem.tail _ (List.Mem.tail _ (List.Mem.tail _ (List.Mem.tail _ (List.Mem.head _)))))))))), List.forall_mem_cons.mpr ⟨(List.Mem.tail _ (List.Mem.tail _ (List.Mem.tail _ (List.Mem.tail _ (List.Mem.head _))))), List.forall_mem_cons.mpr ⟨(List.Mem.tail _ (List.Mem.tail _ (List.Mem.tail _ (List.Mem.tail _ (List.Mem.tail _ (List.Mem.tail _ (List.Mem.tail _ (List.Mem.head _)))))))), List.forall_mem_nil _⟩⟩⟩⟩⟩⟩⟩⟩)))); (case hoi => assumption); (case hod => assumption); (case hap => (simp only [List.pairwise_cons, List.forall_mem_cons, List.not_mem_nil, false_implies, implies_true, and_true, List.Pairwise.nil]; omega)); (case H1 => (k_dflt (intro i ti h0 h1; exact hdr_spec w hK rfl X₀ T₀ codeHd (dp + 1) (un + 3) gd _ (by omega) (by omega) k1 (name_of k2 (by kernel_rfl)) (by assumption) hd0 (by assumption) _ ti h0 h1))); (case H2 => (k_dflt (intro i ti oi hoi h0; exact byte_spec w hK rfl X₀ T₀ codeHd (dp + 1) (un + 3) gd _ (by omega) (by omega) k3 (name_of k4 (by kernel_rfl)) (by assumption) hd0 (by assumption) hoi _ h0 (show @Ne Nat _ _ by omega) (show @Ne Nat _ _ by omega) (show @Ne Nat _ _ by omega)))); (case hexc => (rintro e h' tk n' ⟨rfl, hn⟩ fl; exact hexc _ _ _ _ ⟨⟨_, _, _, _, rfl, ⟨_, _, k1, k2⟩, ⟨_, _, k3, k4⟩, hc12, hc1, hc2⟩, hn⟩ fl)); (case hret => (rintro v h' tk n' ⟨lo, vs, cs, nn, rfl, hb, hr, rfl⟩ hs hl; exact hret _ _ _ _ ⟨lo, vs, cs, nn, _, rfl, hb, hr, rfl, ⟨_, _, _, _, rfl, ⟨_, _, k1, k2⟩, ⟨_, _, k3, k4⟩, hc12, hc1, hc2⟩⟩ hs hl)))
  k_steps
end Mine
open PySem PySem.W PyProof.Rows PySem.Calls PySem.Spec
namespace Mine
set_option maxRecDepth 100000
/-- a contract of a function that catches: the frames above may have been noted meanwhile -/
def SpecS (prog : Program) (w : World) (A : Around) (base : Heap) (l : List Env) (f : Value) (args : List Value) (n : List (Addr × Obj)) (ret : Value → List (Addr × Obj) → Prop) : Prop :=
  ∀ (g : Heap) (s : Shared) (Q E : Value → Shared → Prop), Below A base l g → KtsDicts (l.filterMap (·.frame)) g → g.StaysIn s.heap → g.objs.size ≤ s.heap.objs.size → Led g s.heap n →
    (∀ v h' tk g' n', ret v n' → KtsTurn (l.filterMap (·.frame)) g g' → g'.StaysIn h' → Led g' h' n' → Q v { s with heap := h', toks := tk }) →
    wpAny (model prog w) A (call f args) Q E s
section
variable {prog : Program} {w : World} {A₀ : Around} {base h₀ : Heap} {outer : List Env} {env : Env} {f : Value} {args : List Value} {n : List (Addr × Obj)} {ret : Value → List (Addr × Obj) → Prop}
    {s : Shared} {L : Addr} {m : Str → Option Value} {news : List (Addr × Obj)} {Q E : Value → Shared → Prop}
theorem one_frame (hf : env.frame = some L) : ∀ b ∈ [env].filterMap (·.frame), b = L := by
  intro b hb
  obtain ⟨v, hv, hb⟩ := List.mem_filterMap.mp hb
  rw [List.mem_singleton.mp hv, hf] at hb
  exact (Option.some.inj hb).symm
theorem SpecS.use0 (S : SpecS prog w (A₀.deeper env) base [env] f args n ret)
    (B : Below A₀ base [] h₀) (F : Fr h₀ L s.heap m) (N : News h₀ L s.heap news) (rest : List (Addr × Obj)) (hn : ∀ q ∈ n, q ∈ news) (hr : ∀ q ∈ rest, q ∈ news) (hd : ∀ q ∈ rest, ∀ r ∈ n, q.1 ≠ r.1)
    (hf : env.frame = some L) (hk : env.scope.kind = .function)
    (hQ : ∀ v h' tk n', ret v n' → Fr h₀ L h' m → News h₀ L h' (n' ++ rest) → (∀ q ∈ n', ∀ r ∈ rest, q.1 ≠ r.1) → Q v { s with heap := h', toks := tk }) :
    wpAny (model prog w) (A₀.deeper env) (call f args) Q E s := by
  have B₁ := pushX B F hf hk
  have base_ne : ∀ b o, h₀.get? b = some o → b ∉ n.map (·.1) := fun b o e q => by
    obtain ⟨r, hr', rfl⟩ := List.mem_map.mp q
    rw [(N r (hn r hr')).2.2] at e; cases e
  have L_ne : L ∉ n.map (·.1) := fun q => by
    obtain ⟨r, hr', e⟩ := List.mem_map.mp q
    exact (N r (hn r hr')).2.1 e
  have st : h₀.StaysIn (hideAll s.heap (n.map (·.1))) := fun b o e => hideAll_get _ (F.keep b o e) (base_ne b o e)
  obtain ⟨oL, es, ep, hL, hLd, hLk, hLf⟩ := F.ns
  have hLg := hideAll_get (n.map (·.1)) hL L_ne
  have self : h₀.get? L = none := kts_self F
  have rest_in : ∀ q ∈ rest, (hideAll s.heap (n.map (·.1))).get? q.1 = some q.2 := fun q hq => hideAll_get _ (N q (hr q hq)).1 fun hm => by
    obtain ⟨r, hr', e⟩ := List.mem_map.mp hm
    exact hd q hq r hr' e.symm
  refine S (hideAll s.heap (n.map (·.1))) s Q E ⟨B₁.stack, fun b o e => st b o (B.stays b o e), funFrames_hideAll B₁.frames fun v hv b hb hfr => ?_⟩ (fun b hb => ?_) (fun b o e => of_hideAll _ e) (Nat.le_of_eq (hideAll_size _ _))
    (fun q hq => ⟨(N q (hn q hq)).1, hideAll_none _ (List.mem_map_of_mem hq)⟩) (fun v h' tk g' n' hret T k1 k2 => ?_)
  · rw [List.mem_singleton.mp hv, hf] at hfr
    exact L_ne ((Option.some.inj hfr : L = b) ▸ hb)
  · rw [one_frame hf b hb]
    exact ⟨oL, es, ep, hLg, hLd⟩
  · obtain ⟨sl, hs⟩ := T.up hLg
    have st' : ∀ b o, h₀.get? b = some o → g'.get? b = some o := fun b o e => T.other b o (st b o e) fun hm => by
      rw [one_frame hf b hm, self] at e; cases e
    refine hQ v h' tk n' hret ⟨⟨_, es, ep, k1 _ _ hs, hLd, hLk, hLf⟩, fun b o e => k1 b o (st' b o e), F.above⟩ (fun q hq => ?_) fun q hq r hr' e => ?_
    · rcases List.mem_append.mp hq with hq | hq
      · refine ⟨(k2 q hq).1, fun z => ?_, ?_⟩
        · have := (k2 q hq).2; rw [z, hs] at this; cases this
        · cases z : h₀.get? q.1 with
          | none => rfl
          | some o => have := (k2 q hq).2; rw [st' _ _ z] at this; cases this
      · exact ⟨k1 _ _ (T.other _ _ (rest_in q hq) fun hm => (N q (hr q hq)).2.1 (one_frame hf _ hm)), (N q (hr q hq)).2⟩
    · have := (k2 q hq).2
      rw [e, T.other _ _ (rest_in r hr') fun hm => (N r (hr r hr')).2.1 (one_frame hf _ hm)] at this; cases this
theorem SpecS.use {name : Str} {scope : Scope} {a : Addr} {cd : Value} (S : SpecS prog w (A₀.deeper (envOf name scope L a cd)) base (envOf name scope L a cd :: outer) f args n ret)
    (B : Below A₀ base outer h₀) (D : KtsDicts (outer.filterMap (·.frame)) h₀) (F : Fr h₀ L s.heap m) (N : News h₀ L s.heap news) (rest : List (Addr × Obj)) (hn : ∀ q ∈ n, q ∈ news) (hr : ∀ q ∈ rest, q ∈ news) (hd : ∀ q ∈ rest, ∀ r ∈ n, q.1 ≠ r.1)
    (hk : scope.kind = .function)
    (hQ : ∀ v h' tk h₁ n', ret v n' → KtsTurn (outer.filterMap (·.frame)) h₀ h₁ → Below A₀ base outer h₁ → KtsDicts (outer.filterMap (·.frame)) h₁ → Fr h₁ L h' m → News h₁ L h' (n' ++ rest) → (∀ q ∈ n', ∀ r ∈ rest, q.1 ≠ r.1) → Q v { s with heap := h', toks := tk }) :
    wpAny (model prog w) (A₀.deeper (envOf name scope L a cd)) (call f args) Q E s := by
  have hf : (envOf name scope L a cd).frame = some L := rfl
  have B₁ := pushX (env := envOf name scope L a cd) B F hf hk
  have base_ne : ∀ b o, h₀.get? b = some o → b ∉ n.map (·.1) := fun b o e q => by
    obtain ⟨r, hr', rfl⟩ := List.mem_map.mp q
    rw [(N r (hn r hr')).2.2] at e; cases e
  have L_ne : L ∉ n.map (·.1) := fun q => by
    obtain ⟨r, hr', e⟩ := List.mem_map.mp q
    exact (N r (hn r hr')).2.1 e
  have st : h₀.StaysIn (hideAll s.heap (n.map (·.1))) := fun b o e => hideAll_get _ (F.keep b o e) (base_ne b o e)
  obtain ⟨oL, es, ep, hL, hLd, hLk, hLf⟩ := F.ns
  have hLg := hideAll_get (n.map (·.1)) hL L_ne
  have FG : Fr h₀ L (hideAll s.heap (n.map (·.1))) m := ⟨⟨oL, es, ep, hLg, hLd, hLk, hLf⟩, st, F.above⟩
  have self : h₀.get? L = none := kts_self F
  have rest_in : ∀ q ∈ rest, (hideAll s.heap (n.map (·.1))).get? q.1 = some q.2 := fun q hq => hideAll_get _ (N q (hr q hq)).1 fun hm => by
    obtain ⟨r, hr', e⟩ := List.mem_map.mp hm
    exact hd q hq r hr' e.symm
  refine S (hideAll s.heap (n.map (·.1))) s Q E ⟨B₁.stack, fun b o e => st b o (B.stays b o e), funFrames_hideAll B₁.frames fun v hv b hb hfr => ?_⟩ (fun b hb => ?_) (fun b o e => of_hideAll _ e) (Nat.le_of_eq (hideAll_size _ _))
    (fun q hq => ⟨(N q (hn q hq)).1, hideAll_none _ (List.mem_map_of_mem hq)⟩) (fun v h' tk g' n' hret T k1 k2 => ?_)
  · cases hv with
    | head => rw [hf] at hfr; exact L_ne ((Option.some.inj hfr : L = b) ▸ hb)
    | tail _ hv =>
      obtain ⟨L₁, o₁, hf₁, ho₁⟩ := funFrames_in B.frames v hv
      rw [hf₁] at hfr
      exact base_ne L₁ o₁ ho₁ ((Option.some.inj hfr : L₁ = b) ▸ hb)
  · rcases kts_mem hb with rfl | hb
    · exact ⟨oL, es, ep, hLg, hLd⟩
    · obtain ⟨o, es', n', ho', hd'⟩ := D b hb
      exact ⟨o, es', n', st b o ho', hd'⟩
  · obtain ⟨h₁, T₁, F₁, B₁⟩ := kts_ground (name := name) (scope := scope) (a := a) (cd := cd) (B := h') (h₅ := h') B FG (fun b o e nm => k1 b o (T.other b o e nm)) (fun _ _ e => e) (fun b o e _ => by
      obtain ⟨sl, hs⟩ := T.up e
      exact ⟨sl, k1 _ _ hs⟩)
    have ne_out : ∀ q ∈ rest, q.1 ∉ (envOf name scope L a cd :: outer).filterMap (·.frame) := fun q hq hm => by
      rcases kts_mem hm with z | z
      · exact (N q (hr q hq)).2.1 z
      · obtain ⟨o, es', n', ho', _⟩ := D _ z
        rw [(N q (hr q hq)).2.2] at ho'; cases ho'
    obtain ⟨sl, hs⟩ := T.up hLg
    refine hQ v h' tk h₁ n' hret T₁ B₁ (D.turn T₁) F₁ (fun q hq => ?_) fun q hq r hr' e => ?_
    · rcases List.mem_append.mp hq with hq | hq
      · refine ⟨(k2 q hq).1, fun z => ?_, T₁.none_ _ ?_⟩
        · have := (k2 q hq).2; rw [z, hs] at this; cases this
        · cases z : h₀.get? q.1 with
          | none => rfl
          | some o =>
            obtain ⟨sl', hs'⟩ := T.up (st _ _ z)
            have := (k2 q hq).2; rw [hs'] at this; cases this
      · exact ⟨k1 _ _ (T.other _ _ (rest_in q hq) (ne_out q hq)), (N q (hr q hq)).2.1, T₁.none_ _ (N q (hr q hq)).2.2⟩
    · have := (k2 q hq).2
      rw [e, T.other _ _ (rest_in r hr') (ne_out r hr')] at this; cases this
end
end Mine
open PySem PySem.W PyProof.Rows PySem.Calls PySem.Spec
namespace Mine
set_option maxRecDepth 100000
set_option maxHeartbeats 8000000 in
/-- `apply_delta` hands on -/
theorem pass_on (w : World) {p : Program} {loose : List Str} {mean : ExcName → Option Value} {mg mb : Str → Option Value}
   {base : Heap} (X₀ : (hd.heap_39 w.params).In base) (T₀ : Top p loose mean mg mb base)
   (dp un : Nat) (gd : Option (List Code)) (l : List Env) (hdp : dp + 5 < recursionLimit)
   {va vb : Value} {n : List (Addr × Obj)} {ret : Value → List (Addr × Obj) → Prop} {exc : List (Addr × Obj) → Prop}
   (H : ∀ env : Env, Spec PySem.Challenge.rw_jq0004_01.row.prog w (aTop (dp + 1) (un + 3) gd (env :: l)) base (env :: l) (.ref 47) [va, vb] n ret (.ref 32) exc) :
   Spec PySem.Challenge.rw_jq0004_01.row.prog w (aTop dp un gd l) base l (.ref 54) [va, vb] n ret (.ref 32) exc := by
  have hfill : (fun _ : OpenLaw => hd.heap_39) PySem.Challenge.rw_jq0004_01 = hd.heap_39 := by (k_fill; rfl)
  clear hfill
  intro g s Q E B hg hsz N hret hexc
  have X := X₀.keeps B.stays
  have T := T₀.keeps B.stays
  refine wpAny_call ?_
  k_dflt (refine' enter_def hg hsz N X T ?k6 ?k7 ?k8 ?k9 ?kB ?_ ?c2 ?c3 ?c4 ?c5; (case k6 => k_is); (case k7 => k_is); (case k8 => ktr_room); (case k9 => exact BindsTo.of_eq rfl); (case c5 => decide); (case kB => exact locs rfl); (case c2 => exact rfl); (case c3 => exact rfl); (case c4 => exact rfl); k_whole; intro L' h' F' N' l1; (try k_lt l1); (try dsimp only); (try k_fold))
  k_with_none
  k_with "execs cons" => k_fold
  k_with "eval Call" => k_fold
  k_with "storeName" => (k_here; k_dflt (first | (refine' storeI_L ?F ?N ?_ ?a ?b; (case F => k_asm); (case N => k_asm); (case a => rfl); (case b => rfl); k_whole; intro h' tk' t' F' N'; (try k_sweep); (try dsimp only); (try k_fold)) | (refine' storeB_L ?F ?N ?_ ?a ?b; (case F => k_asm); (case N => k_asm); (case a => rfl); (case b => rfl); k_whole; intro h' tk' t' F' N'; (try k_sweep); (try dsimp only); (try k_fold)) | (refine' storeG_L ?F ?N ?_ ?a ?b; (case F => k_asm); (case N => k_asm); (case a => rfl); (case b => rfl); k_whole; intro h' tk' F' N'; (try k_sweep); (try dsimp only); (try k_fold))))
  k_with "leaving" => (k_here; k_dflt (refine' leave_on ?B ?F ?x (fun _ h => h) ?hf ?_; (case x => assumption); (case B => assumption); (case F => k_asm); (case hf => exact rfl)); intro h' fl'; (try dsimp only))
  k_with "call ref" => ((with_reducible show wpAny _ _ (call _ [_, _]) _ _ _); (rename Fr _ _ _ _ => kF); (rename News _ _ _ _ => kN); k_dflt (refine' Spec.use (A₀ := aTop dp un gd l) (H _) B kF kN [] (fun _ h => h) (fun _ h => nomatch h) (fun _ h => nomatch h) rfl rfl ?_ ?_); (rotate_left); ((intro e9 h9 tk9 n9 g9 hx9 F9 hr9 fl9; (try k_fold))); (rotate_left); ((intro v9 h9 tk9 n9 hr9 F9 N9 ap9; rw [List.append_nil] at N9; (try k_fold))))
  k_steps
  all_goals (try exact hexc _ _ _ _ (by assumption) (by assumption))
  all_goals (try exact hret _ _ _ _ (by assumption) (Fr.keep (by assumption)) (Led.of_news (by assumption)))

theorem ops_len (bk : List Int) : ∀ (n : Nat) (r : List Int) (rem : Int) (acc t : List Int), opsL bk n r rem acc = some t → t.length ≤ acc.length + (bk.length + 1) * r.length
  | 0, _, _, _, _, h => by cases h
  | n + 1, [], rem, acc, t, h => by
    unfold opsL at h
    simp only [Option.ite_none_right_eq_some, Option.some.injEq] at h
    rw [h.2]; simp
  | n + 1, c :: q, rem, acc, t, h => by
    rw [opsL_cons] at h
    split at h
    · split at h
      · cases h
      · rename_i off q1 h1
        split at h
        · cases h
        · rename_i sz q2 h2
          have l1 := fieldsL_len h1
          have l2 := fieldsL_len h2
          split at h
          · simp only [Option.ite_none_right_eq_some, Option.some.injEq] at h
            rw [← h.2]; simp
          · have ih := ops_len bk n _ _ _ _ h
            have lc := cut_len_le bk off (off + copySz sz)
            have m1 : (bk.length + 1) * q2.length ≤ (bk.length + 1) * q.length := Nat.mul_le_mul_left _ (by omega)
            rw [List.length_append] at ih
            rw [List.length_cons, Nat.mul_add, Nat.mul_one]
            omega
    · split at h
      · cases h
      · split at h
        · cases h
        · have ih := ops_len bk n _ _ _ _ h
          rw [List.length_append, List.length_take, List.length_drop] at ih
          have m2 : (bk.length + 1) * q.length = (bk.length + 1) * (q.length - c.toNat) + (bk.length + 1) * (min c.toNat q.length) := by
            rw [← Nat.mul_add]; congr 1; omega
          have m3 : min c.toNat q.length ≤ (bk.length + 1) * (min c.toNat q.length) := Nat.le_mul_of_pos_left _ (Nat.succ_pos _)
          rw [List.length_cons, Nat.mul_add, Nat.mul_one]
          omega
theorem readDelta_len {bk dk t : List Int} (h : readDelta bk dk = some t) : t.length ≤ (bk.length + 1) * dk.length := by
  unfold readDelta at h
  split at h
  · cases h
  · split at h
    · cases h
    · split at h
      · have := ops_len _ _ _ _ _ _ h
        rw [List.length_drop, List.length_nil, Nat.zero_add] at this
        exact Nat.le_trans this (Nat.mul_le_mul_left _ (by omega))
      · cases h
theorem skip_second {α : Type} (a b : α) (r : List α) : ∀ q ∈ a :: r, q ∈ a :: b :: r := fun q hq => by
  cases hq with
  | head => exact .head _
  | tail _ h => exact .tail _ (.tail _ h)
set_option maxHeartbeats 8000000 in
/-- `_law_told` -/
theorem told_spec (w : World) {p : Program} {loose : List Str} {mean : ExcName → Option Value} {mg mb : Str → Option Value}
   {base : Heap} (X₀ : (hd.heap_39 w.params).In base) (T₀ : Top p loose mean mg mb base)
   (dp un : Nat) (gd : Option (List Code)) (l : List Env) (hdp : dp + 15 < recursionLimit)
   {va vb : Value} {bk dk : List Int} {n : List (Addr × Obj)} (hbig : ∀ t, readDelta bk dk = some t → t.length ≤ 16777216)
   (H : ∀ env : Env, Spec PySem.Challenge.rw_jq0004_01.row.prog w (aTop (dp + 1) (un + 3) gd (env :: l)) base (env :: l) (.ref 54) [va, vb] n
     (fun v n' => ∃ lo vs cs nn n1, v = .ref lo ∧ BytesAre vs cs ∧ readDelta bk dk = some cs.flatten ∧ n' = (lo, listOf (List.toArray vs) nn) :: n1 ∧ Tab n1)
     (.ref 32) (fun n' => Tab n' ∧ readDelta bk dk = none)) :
   SpecS PySem.Challenge.rw_jq0004_01.row.prog w (aTop dp un gd l) base l (.ref 82) [va, vb] n
     (fun v n' => ∃ D x c t1 t2 n1, v = .ref D ∧ n' = (D, tupO [.str (Str.ofString x) t1, .bytes c t2]) :: n1 ∧ Tab n1 ∧ ((x = "refused" ∧ readDelta bk dk = none ∧ KBw.bInts c = []) ∨ (x = "taken" ∧ readDelta bk dk = some (KBw.bInts c)))) := by
  have hfill : (fun _ : OpenLaw => hd.heap_39) PySem.Challenge.rw_jq0004_01 = hd.heap_39 := by (k_fill; rfl)
  clear hfill
  intro g s Q E B hD hg hsz N hret
  have X := X₀.keeps B.stays
  have T := T₀.keeps B.stays
  refine wpAny_call ?_
  k_dflt (refine' enter_def hg hsz N X T ?k6 ?k7 ?k8 ?k9 ?kB ?_ ?c2 ?c3 ?c4 ?c5; (case k6 => k_is); (case k7 => k_is); (case k8 => ktr_room); (case k9 => exact BindsTo.of_eq rfl); (case c5 => decide); (case kB => exact locs rfl); (case c2 => exact rfl); (case c3 => exact rfl); (case c4 => exact rfl); k_whole; intro L' h' F' N' l1; (try k_lt l1); (try dsimp only); (try k_fold))
  k_with_none
  k_with "execs cons" => k_fold
  k_with "eval Call" => k_fold
  k_with "storeName" => (k_here; k_dflt (first | (refine' storeI_L ?F ?N ?_ ?a ?b; (case F => k_asm); (case N => k_asm); (case a => rfl); (case b => rfl); k_whole; intro h' tk' t' F' N'; (try k_sweep); (try dsimp only); (try k_fold)) | (refine' storeB_L ?F ?N ?_ ?a ?b; (case F => k_asm); (case N => k_asm); (case a => rfl); (case b => rfl); k_whole; intro h' tk' t' F' N'; (try k_sweep); (try dsimp only); (try k_fold)) | (refine' storeG_L ?F ?N ?_ ?a ?b; (case F => k_asm); (case N => k_asm); (case a => rfl); (case b => rfl); k_whole; intro h' tk' F' N'; (try k_sweep); (try dsimp only); (try k_fold))))
  k_with "leaving" => (k_here; k_dflt (refine' leave_on ?B ?F ?x (fun _ h => h) ?hf ?_; (case x => assumption); (case B => assumption); (case F => k_asm); (case hf => exact rfl)); intro h' fl'; (try dsimp only))
  k_with "call ref" => k_extra "call"
  k_with "getMethod bytes" => k_extra "meth"
  k_with "call builtin:bytes.join" => k_extra "join"
  k_with "call" => ((with_reducible show wpAny _ _ (call _ [_, _]) _ _ _); (rename Fr _ _ _ _ => kF); (rename News _ _ _ _ => kN); k_dflt (refine' Spec.use (A₀ := aTop dp un gd l) (H _) B kF kN [] (fun _ h => h) (fun _ h => nomatch h) (fun _ h => nomatch h) rfl rfl ?_ ?_); (rotate_left); ((intro e9 h9 tk9 n9 g9 hx9 F9 hr9 fl9; (obtain ⟨hx9, hx8⟩ := hx9); (obtain ⟨ea9, et9, ev9, rfl, fR9, fU9⟩ := fl9); (try k_fold))); (rotate_left); ((intro v9 h9 tk9 n9 hr9 F9 N9 ap9; rw [List.append_nil] at N9; (obtain ⟨lo, vs, cs, nn, n1, rfl, hv9, hr9, rfl, ht9⟩ := hr9); (have hb9 := hbig _ hr9); (try k_fold))))
  k_with "meth" => (k_here; refine method_join ?_)
  k_with "join" => (k_here; (with_reducible show wpAny _ _ (call _ [_, Value.ref _]) _ _ _); (with_reducible rename News _ _ _ _ => kN); (with_reducible rename BytesAre _ _ => hv8); k_dflt (refine' join_K (s := ⟨_, _, _, _, _⟩) ?hl hv8 ?hz ?_; (case hz => assumption); (case hl => exact ⟨_, (kN _ (List.Mem.head _)).1, rfl, _, rfl⟩)); intro _ _ _ hj9)
  k_steps
  · exact hret _ _ _ _ _ ⟨_, "taken", _, _, _, _, rfl, rfl, by assumption, .inr ⟨rfl, Eq.trans (by assumption) (congrArg some (Eq.symm (by assumption)))⟩⟩ KtsTurn.refl (Fr.keep (by assumption)) (Led.sub (Led.of_news (by assumption)) (skip_second _ _ _))
  · exact hret _ _ _ _ _ ⟨_, "refused", _, _, _, _, rfl, rfl, by assumption, .inl ⟨rfl, by assumption, rfl⟩⟩ (by assumption) (Fr.keep (by assumption)) (Led.of_news (by assumption))

/-- what `_law_told` hands back -/
def ToldOf (bk dk : List Int) (v : Value) (n' : List (Addr × Obj)) : Prop :=
  ∃ D x c t1 t2 n1, v = .ref D ∧ n' = (D, tupO [.str (Str.ofString x) t1, .bytes c t2]) :: n1 ∧ Tab n1 ∧ ((x = "refused" ∧ readDelta bk dk = none ∧ KBw.bInts c = []) ∨ (x = "taken" ∧ readDelta bk dk = some (KBw.bInts c)))
theorem told_first (w : World) {p : Program} {loose : List Str} {mean : ExcName → Option Value} {mg mb : Str → Option Value}
   {base : Heap} (X₀ : (hd.heap_39 w.params).In base) (T₀ : Top p loose mean mg mb base) (codeHd : CodeHd base 46 42)
   (dp un : Nat) (gd : Option (List Code)) (l : List Env) (hdp : dp + 20 < recursionLimit) (hu : un + 110 < cLine)
   {b d : Array UInt8} {bk dk : List Int} {tb td : Tok} (hbk : KBw.bInts b = bk) (hdk : KBw.bInts d = dk) (hb : bk.length ≤ 200000) (hd0 : dk.length ≤ 1800) (hbig : ∀ t, readDelta bk dk = some t → t.length ≤ 16777216) :
   SpecS PySem.Challenge.rw_jq0004_01.row.prog w (aTop dp un gd l) base l (.ref 82) [.bytes b tb, .bytes d td] [(42, tabObj #[])] (ToldOf bk dk) :=
  told_spec w X₀ T₀ dp un gd l (by omega) hbig fun env => pass_on w X₀ T₀ (dp + 1) (un + 3) gd (env :: l) (by omega) fun env' => apply_first w X₀ T₀ codeHd (dp + 1 + 1) (un + 3 + 3) gd (env' :: env :: l) (by omega) (by omega) tb td hbk hdk hb hd0
theorem told_lists (w : World) {p : Program} {loose : List Str} {mean : ExcName → Option Value} {mg mb : Str → Option Value}
   {base : Heap} (X₀ : (hd.heap_39 w.params).In base) (T₀ : Top p loose mean mg mb base) (codeHd : CodeHd base 46 42)
   (dp un : Nat) (gd : Option (List Code)) (l : List Env) (hdp : dp + 20 < recursionLimit) (hu : un + 110 < cLine)
   {bk dk : List Int} {ls ld : Addr} {vs vd : List Value} {cb cd : List (List Int)} {nb nd : Nat} {n : List (Addr × Obj)} (hn : Tab n) (hvb : BytesAre vs cb) (hvd : BytesAre vd cd) (hbk : cb.flatten = bk) (hdk : cd.flatten = dk) (hb : bk.length ≤ 200000) (hd0 : dk.length ≤ 1800) (hbig : ∀ t, readDelta bk dk = some t → t.length ≤ 16777216) :
   SpecS PySem.Challenge.rw_jq0004_01.row.prog w (aTop dp un gd l) base l (.ref 82) [.ref ls, .ref ld] ((ls, listOf (List.toArray vs) nb) :: (ld, listOf (List.toArray vd) nd) :: n) (ToldOf bk dk) :=
  told_spec w X₀ T₀ dp un gd l (by omega) hbig fun env => pass_on w X₀ T₀ (dp + 1) (un + 3) gd (env :: l) (by omega) fun env' => apply_lists w X₀ T₀ codeHd (dp + 1 + 1) (un + 3 + 3) gd (env' :: env :: l) (by omega) (by omega) hvb hvd hn hbk hdk hb hd0
end Mine
open PySem PySem.W PyProof.Rows PySem.Calls PySem.Spec
namespace Mine
set_option maxRecDepth 100000
section
variable {prog : Program} {w : World} {A : Around} {E : Value → Shared → Prop} {Q : Flow → Shared → Prop} {s : Shared} {env : Env} {h₀ : Heap} {L : Addr}
theorem execs_app {M : Model} {b : List Stmt} : ∀ (a : List Stmt) {s : Shared}, wpAny M A (execs a env) (fun f s' => match f with | .next => wpAny M A (execs b env) Q E s' | f => Q f s') E s → wpAny M A (execs (a ++ b) env) Q E s := by
  have key : ∀ (a : List Stmt) (Γ : PySem.Ctx) (p : Pos) (s : Shared), Γ.In A → Sem.wp M Γ (execs a env) (fun f _ s' => match f with | .next => wpAny M A (execs b env) Q E s' | f => Q f s') (fun e _ s' => E e s') p s →
      Sem.wp M Γ (execs (a ++ b) env) (fun f _ s' => Q f s') (fun e _ s' => E e s') p s := by
    intro a
    induction a with
    | nil => intro Γ p s hΓ h; exact h Γ p hΓ
    | cons st r ih =>
      intro Γ p s hΓ h
      rw [execs_cons, Sem.wp_bind'] at h
      rw [List.cons_append, execs_cons, Sem.wp_bind']
      refine Sem.wp_mono M Γ _ (fun f p' s' h' => ?_) (fun _ _ _ h' => h') _ _ h
      cases f <;> first | exact ih Γ p' s' hΓ h' | exact h'
  exact fun a s h Γ p hΓ => key a Γ p s hΓ (h Γ p hΓ)
/-- what the block that lays a copy's octets leaves -/
def OctsPost (h₀ : Heap) (L : Addr) (news : List (Addr × Obj)) (x y : Str) (m₀ : Str → Option Value) (s : Shared) (f : Flow) (s₂ : Shared) : Prop :=
  ∃ h' tk m' news' d td lo vs os nn, f = .next ∧ s₂ = { s with heap := h', toks := tk } ∧ Fr h₀ L h' m' ∧ News h₀ L h' news' ∧ (lo, listOf vs.toArray nn) ∈ news' ∧ (∀ q ∈ news, q ∈ news') ∧ IntsAre vs os ∧ KBa.In os ∧ os.length ≤ 4 ∧ 0 ≤ d ∧ d ≤ 255 ∧ m' x = some (.int d td) ∧ m' y = some (.ref lo) ∧ (∀ z, z ≠ x → z ≠ y → m' z = m₀ z)
theorem cut_octs {a1 a2 a3 a4 a5 : Stmt} {rest : List Stmt} {news : List (Addr × Obj)} {m₀ : Str → Option Value} (x y : Str) (_F : Fr h₀ L s.heap m₀) (_N : News h₀ L s.heap news)
    (hB : wpAny (model prog w) A (execs [a1, a2, a3, a4, a5] env) (OctsPost h₀ L news x y m₀ s) E s)
    (hrest : ∀ (u : Str → Option Value) h tk d td lo vs os nn, IntsAre vs os → KBa.In os → os.length ≤ 4 → 0 ≤ d → d ≤ 255 →
      Fr h₀ L h (kstB (fun z => if [x, y].contains z then u z else m₀ z) [(x, .int d td), (y, .ref lo)]) → News h₀ L h ((lo, listOf vs.toArray nn) :: news) → wpAny (model prog w) A (execs rest env) Q E { s with heap := h, toks := tk }) :
    wpAny (model prog w) A (execs (a1 :: a2 :: a3 :: a4 :: a5 :: rest) env) Q E s := by
  refine execs_app [a1, a2, a3, a4, a5] (wpAny_mono hB (fun f s₂ h => ?_) fun _ _ z => z)
  obtain ⟨h', tk, m', news', d, td, lo, vs, os, nn, rfl, rfl, F2, N2, a1, a2, a3, a4, a5, a6, a7, a8, a9, a10⟩ := h
  refine hrest m' h' tk d td lo vs os nn a3 a4 a5 a6 a7 (ksw_fr ?_ ?_ F2) (fun q hq => ?_)
  · intro p hp
    simp only [List.mem_cons, List.not_mem_nil, or_false] at hp
    rcases hp with rfl | rfl
    · exact a8
    · exact a9
  · intro z hz _
    exact a10 z (hz _ (List.Mem.head _)) (hz _ (List.Mem.tail _ (List.Mem.head _)))
  · rcases List.mem_cons.mp hq with rfl | hq
    · exact N2 _ a1
    · exact N2 _ (a2 _ hq)
theorem octs_end {news news' : List (Addr × Obj)} {m₀ m' : Str → Option Value} {x y : Str} {d : Int} {td : Tok} {lo : Addr} {vs : List Value} {os : List Int} {nn : Nat} {h' : Heap} {tk : Nat} (F2 : Fr h₀ L h' m') (N2 : News h₀ L h' news') (a8 : m' x = some (.int d td)) (a9 : m' y = some (.ref lo)) (a1 : (lo, listOf vs.toArray nn) ∈ news') (a2 : ∀ q ∈ news, q ∈ news') (a3 : IntsAre vs os) (a4 : KBa.In os) (a5 : os.length ≤ 4) (a6 : 0 ≤ d ∧ d ≤ 255) (a10 : ∀ z, z ≠ x → z ≠ y → m' z = m₀ z) :
    OctsPost h₀ L news x y m₀ s .next { s with heap := h', toks := tk } := ⟨_, _, _, _, _, _, _, _, _, _, rfl, rfl, F2, N2, a1, a2, a3, a4, a5, a6.1, a6.2, a8, a9, a10⟩
theorem In_cons {d : Int} {os : List Int} (h0 : 0 ≤ d) (h1 : d ≤ 255) (h : KBa.In os) : KBa.In ([d] ++ os) := fun x hx => by
  rcases List.mem_cons.mp hx with rfl | hx
  · exact ⟨h0, by omega⟩
  · exact h x hx
end
end Mine
open PySem PySem.W PyProof.Rows PySem.Calls PySem.Spec
namespace Mine
set_option maxRecDepth 100000
section
variable {prog : Program} {w : World} {A : Around} {E : Value → Shared → Prop} {Q : Flow → Shared → Prop} {s : Shared} {env : Env} {h₀ : Heap} {L : Addr}
abbrev OctS := Int × Tok × List Value × List Int × Nat
abbrev octLed (lo : Addr) (c : OctS) : List (Addr × Obj) := [(lo, listOf c.2.2.1.toArray c.2.2.2.2)]
abbrev octPs (nm : Str) (c : OctS) : List (Str × Value) := [(nm, .int c.1 c.2.1)]
abbrev octFacts (c : OctS) : Prop := IntsAre c.2.2.1 c.2.2.2.1
def octInv (size : Int) (ns : List Int) : Prop := ∃ k, 1 ≤ k ∧ ns.length + k ≤ 5 ∧ 0 ≤ size ∧ size < 128 ^ k ∧ Oct ns
theorem octInv_start {n : Int} (h0 : 0 ≤ n) (h1 : n < 268435456) : octInv n [] := ⟨4, by decide, by decide, h0, by exact h1, fun _ h => nomatch h⟩
theorem octInv_next {size : Int} {ns : List Int} (h : octInv size ns) (hl : 127 < size) : octInv (size / 128) (ns ++ [128 + size % 128]) := by
  obtain ⟨k, h1, h2, h3, h4, h5⟩ := h
  match k, h1 with
  | 1, _ => exact absurd h4 (by show ¬ size < 128; omega)
  | k + 2, _ =>
    have p1 : (128 : Int) ^ (k + 2) = 128 ^ (k + 1) * 128 := Int.pow_succ ..
    rw [p1] at h4
    refine ⟨k + 1, by omega, by rw [List.length_append, List.length_singleton]; omega, by omega, by omega, fun x hx => ?_⟩
    rcases List.mem_append.mp hx with hx | hx
    · exact h5 x hx
    · rw [List.mem_singleton.mp hx]; omega
theorem oct_loop {test : Expr} {body : List Stmt} {pos : Pos} {m₀ : Str → Option Value} {news : List (Addr × Obj)} (nm : Str) {lo : Addr} {n0 : Int} {t1 : Tok} {nn : Nat} (F : Fr h₀ L s.heap m₀) (N : News h₀ L s.heap news) (hlo : (lo, listOf #[] nn) ∈ news)
    (h1 : m₀ nm = some (.int n0 t1)) (hi : octInv n0 [])
    (turn : ∀ size tok vs ns nn (u : Str → Option Value) h tk, IntsAre vs ns → octInv size ns →
      Fr h₀ L h (kstB (fun z => if [nm].contains z then u z else m₀ z) [(nm, .int size tok)]) → News h₀ L h [(lo, listOf (List.toArray vs) nn)] →
      wpAny (model prog w) A (isTrue test env (eval test env)) (fun b s₂ =>
        if b = true then wpAny (model prog w) A (execs body env) (KswPost h₀ L s (octLed lo) (octPs nm) octFacts [nm] m₀ (fun c => octInv c.1 c.2.2.2.1) (fun c => c.1.toNat) Q (size, tok, vs, ns, nn)) E s₂ else Q .next s₂) E { s with heap := h, toks := tk })
    (hE : PassesOwn (model prog w) A env E) :
    wpAny (model prog w) A (exec (.While test body [] pos) env) Q E s := by
  refine ksw_while (octLed lo) (octPs nm) octFacts [nm] (fun c => octInv c.1 c.2.2.2.1) (fun c => c.1.toNat) (n0, t1, [], [], nn) F (fun q hq => ?_) .nil ?_ hi ?_ hE
  · rw [List.mem_singleton.mp hq]; exact N _ hlo
  · intro p hp; rw [List.mem_singleton.mp hp]; exact h1
  · rintro ⟨size, tok, vs, ns, nn⟩ u h tk hf hp F' N'
    exact turn size tok vs ns nn u h tk hf hp F' N'
theorem oct_end {nm : Str} {size size' : Int} {tok t1 t : Tok} {vs : List Value} {ns : List Int} {nn nn' : Nat} {x : Int} {m₀ m' : Str → Option Value} {news : List (Addr × Obj)} {h' : Heap} {tk : Nat} {lo : Addr} (F : Fr h₀ L h' m') (N : News h₀ L h' news)
    (hm : (lo, listOf ((List.toArray vs).push (.int x t)) nn') ∈ news) (h1 : m' nm = some (.int size' t1)) (hr : ∀ z, z ≠ nm → m' z = m₀ z) (hv : IntsAre vs ns) (hp : octInv size' (ns ++ [x])) (h0 : 0 ≤ size') (hlt : size' < size) :
    KswEnd h₀ L s (octLed lo) (octPs nm) octFacts [nm] m₀ (fun c => octInv c.1 c.2.2.2.1) (fun c => c.1.toNat) (size, tok, vs, ns, nn) { s with heap := h', toks := tk } := by
  have e : (List.toArray vs).push (.int x t) = List.toArray (vs ++ [.int x t]) := by simp
  rw [e] at hm
  refine ksw_end (size', t1, vs ++ [.int x t], ns ++ [x], nn') F N (fun q hq => ?_) (hv.append (.cons _ _ .nil)) ?_ (fun z _ h2 => ?_) hp ?_
  · rw [List.mem_singleton.mp hq]; exact hm
  · intro p hp; rw [List.mem_singleton.mp hp]; exact h1
  · simp only [List.contains_cons, List.contains_nil, Bool.or_false, beq_eq_false_iff_ne, ne_eq] at h2
    exact hr z h2
  · show size'.toNat < size.toNat
    omega
end
theorem oct_one {ns : List Int} {x : Int} (h : Oct ns) (h0 : 0 ≤ x) (h1 : x < 256) : Oct (ns ++ [x]) := fun y hy => by
  rcases List.mem_append.mp hy with hy | hy
  · exact h y hy
  · rw [List.mem_singleton.mp hy]; exact ⟨h0, h1⟩
theorem oct_two {ns : List Int} {x : Int} (h : Oct ns) (h0 : 0 ≤ x) (h1 : x < 256) : Oct (ns ++ [x, 0]) := fun y hy => by
  rcases List.mem_append.mp hy with hy | hy
  · exact h y hy
  · rcases List.mem_cons.mp hy with hy | hy
    · rw [hy]; exact ⟨h0, h1⟩
    · rw [List.mem_singleton.mp hy]; exact ⟨by decide, by decide⟩
theorem bytes_len {ns : List Int} (h : KBa.In ns) : (KBw.bInts (byteArr ns)).length = ns.length := by rw [KBa.ints_make h]
theorem octInv_nextF {size : Int} {ns : List Int} (h : octInv size ns) (hl : 127 < size) : octInv (size.fdiv 128) (ns ++ [128 + size.fmod 128]) := by
  rw [Int.fdiv_eq_ediv_of_nonneg _ (by decide), Int.fmod_eq_emod_of_nonneg _ (by decide)]
  exact octInv_next h hl
theorem fdiv_lt {size : Int} (hl : 127 < size) : 0 ≤ size.fdiv 128 ∧ size.fdiv 128 < size := by
  rw [Int.fdiv_eq_ediv_of_nonneg _ (by decide)]; omega
set_option maxHeartbeats 8000000 in
theorem octets_spec (w : World) {p : Program} {loose : List Str} {mean : ExcName → Option Value} {mg mb : Str → Option Value}
   {base : Heap} (X₀ : (hd.heap_39 w.params).In base) (T₀ : Top p loose mean mg mb base)
   (dp un : Nat) (gd : Option (List Code)) (l : List Env) (hdp : dp + 15 < recursionLimit)
   {n0 : Int} {t0 : Tok} {b0 : Bool} (h0 : 0 ≤ n0) (h1 : n0 < 268435456) :
   Spec PySem.Challenge.rw_jq0004_01.row.prog w (aTop dp un gd l) base l (.ref 61) [.int n0 t0, .bool b0] []
     (fun v n' => ∃ c t, v = .bytes c t ∧ n' = [] ∧ (KBw.bInts c).length ≤ 7) (.ref 32) (fun _ => False) := by
  have hfill : (fun _ : OpenLaw => hd.heap_39) PySem.Challenge.rw_jq0004_01 = hd.heap_39 := by (k_fill; rfl)
  clear hfill
  intro g s Q E B hg hsz N hret hexc
  have X := X₀.keeps B.stays
  have T := T₀.keeps B.stays
  refine wpAny_call ?_
  k_dflt (refine' enter_def hg hsz N X T ?k6 ?k7 ?k8 ?k9 ?kB ?_ ?c2 ?c3 ?c4 ?c5; (case k6 => k_is); (case k7 => k_is); (case k8 => ktr_room); (case k9 => exact BindsTo.of_eq rfl); (case c5 => decide); (case kB => exact locs rfl); (case c2 => exact rfl); (case c3 => exact rfl); (case c4 => exact rfl); k_whole; intro L' h' F' N' l1; (try k_lt l1); (try dsimp only); (try k_fold))
  k_with_none
  k_with "execs cons" => k_fold
  k_with "eval Call" => k_fold
  k_with "storeName" => (k_here; k_dflt (first | (refine' storeI_L ?F ?N ?_ ?a ?b; (case F => k_asm); (case N => k_asm); (case a => rfl); (case b => rfl); k_whole; intro h' tk' t' F' N'; (try k_sweep); (try dsimp only); (try k_fold)) | (refine' storeB_L ?F ?N ?_ ?a ?b; (case F => k_asm); (case N => k_asm); (case a => rfl); (case b => rfl); k_whole; intro h' tk' t' F' N'; (try k_sweep); (try dsimp only); (try k_fold)) | (refine' storeG_L ?F ?N ?_ ?a ?b; (case F => k_asm); (case N => k_asm); (case a => rfl); (case b => rfl); k_whole; intro h' tk' F' N'; (try k_sweep); (try dsimp only); (try k_fold))))
  k_with "exec While Constant cons nil" => k_extra "while"
  k_with "exec While Compare cons nil" => k_extra "while"
  k_with "KswEnd" => k_extra "turn"
  k_with "call builtin:len" => (k_here; (with_reducible show wpAny _ _ (call (Value.builtin "len") [Value.bytes _ _]) _ _ _); (refine len_b (by assumption) (by omega) ?_); intro _ _)
  k_with "call ref" => k_extra "call"
  k_with "exec For Name Call cons nil" => k_extra "for"
  k_with "pyIter ref" => k_extra "iter"
  k_with "call builtin:list.append" => (k_here; k_dflt (refine' append_K ?k1 ?k2 ?k3 ?_ ?z; (case k1 => k_asm); (case k2 => k_asm); (case k3 => k_upd); (case z => k_extra "append"); k_whole); intro h' F' N'; (try k_sweep))
  k_with "call type:bytes" => (k_here; (with_reducible show wpAny _ _ (call (Value.type "bytes") [Value.ref _]) _ _ _); k_dflt (refine' KBa.make_K ?kbaF ?kbaN ?kbah ?kbal ?kbai ?kbar ?kban ?_; (case kbaF => k_asm); (case kbaN => k_asm); (case kbah => rfl); (case kbal => kba_isList); (case kbai => assumption); (case kbar => k_extra "octs"); (case kban => (simp only [List.length_append, List.length_cons, List.length_nil]; omega))); intro _ _ _ F' N' kbaIn)
  k_with "while" => ((rename Fr _ _ _ _ => kF); (rename News _ _ _ _ => kN); k_dflt (refine' oct_loop (Str.ofString "size") kF kN ?hlo ?h1 ?hi ?_ ?hE; (case hlo => k_mem); (case h1 => exact rfl); (case hi => exact octInv_start h0 h1); (case hE => first | passes_own | with_unfolding_all passes_own)); (intro sz szt vs ns nn kU kH kTk hvs kInv kFr kNews); (have kInv' := kInv); (obtain ⟨kk, hj1, hj2, hj3, hj4, hj5⟩ := kInv'); (try dsimp only); (try k_fold))
  k_with "append" => (rw [List.size_toArray, IntsAre.length (by assumption), sizeLine_eq]; omega)
  k_with "octs" => first | exact oct_one (by assumption) (by omega) (by omega) | exact oct_two (by assumption) (by omega) (by omega)
  k_steps
  · exact oct_end (by assumption) (by assumption) (List.Mem.head _) rfl (by intro z a1; simp [kstB, a1]) (by assumption) (octInv_nextF kInv (by assumption)) (fdiv_lt (by assumption)).1 (fdiv_lt (by assumption)).2
  all_goals exact hret _ _ _ _ ⟨_, _, rfl, rfl, by rw [bytes_len (by assumption)]; simp only [List.length_append, List.length_cons, List.length_nil]; omega⟩ (Fr.keep (by assumption)) Led.nil

section
variable {prog : Program} {w : World} {A : Around} {E : Value → Shared → Prop} {Q : Flow → Shared → Prop} {s : Shared} {env : Env} {h₀ : Heap} {L : Addr}
/-- between the turns of the law's own reading of a length -/
def sizInv (ks : List Int) (i₀ ix sz wt : Int) : Prop := ∃ j : Nat, hdrInv ks i₀ ix sz (7 * (j : Int)) ∧ wt = 2 ^ (7 * j)
theorem sizInv_start (ks : List Int) (i₀ : Int) (h : i₀ ≤ ks.length) : sizInv ks i₀ i₀ 0 1 := ⟨0, hdrInv_start ks i₀ h, rfl⟩
theorem sizInv_le {ks : List Int} {i₀ ix sz wt : Int} (h : sizInv ks i₀ ix sz wt) : 0 ≤ sz ∧ i₀ ≤ ix ∧ ix ≤ ks.length := by
  obtain ⟨j, ⟨j', e1, e2, e3, e4, e5, e6⟩, _⟩ := h
  omega
theorem siz_step {ks : List Int} {i₀ ix sz wt : Int} (h : sizInv ks i₀ ix sz wt) (hlo : 0 ≤ ks.getD ix.toNat 0) (hhi : ks.getD ix.toNat 0 < 256) :
    ∃ j : Nat, hdrInv ks i₀ ix sz (7 * (j : Int)) ∧ wt = 2 ^ (7 * j) ∧ sz + (ks.getD ix.toNat 0).fmod 128 * wt = Builtin.bitOr sz (Builtin.bitAnd (ks.getD ix.toNat 0) (Builtin.bitNot 128) * 2 ^ (7 * (j : Int)).toNat) := by
  obtain ⟨j, hI, hw⟩ := h
  refine ⟨j, hI, hw, ?_⟩
  obtain ⟨j', e1, e2, hs0, hs1, _, e⟩ := hI
  have ej : j' = j := by omega
  subst ej
  have hsh : (7 * (j' : Int)).toNat = 7 * j' := by omega
  rw [oct_low hlo hhi, hsh, or_above hs0 hs1 (by omega), hw, Int.fmod_eq_emod_of_nonneg _ (by decide)]
theorem siz_next {ks : List Int} {i₀ ix sz wt : Int} (h : sizInv ks i₀ ix sz wt) (h0 : 0 ≤ i₀) (h1 : ix < ks.length) (hlo : 0 ≤ ks.getD ix.toNat 0) (hhi : ks.getD ix.toNat 0 < 256) (hb : ¬ ks.getD ix.toNat 0 < 128) :
    sizInv ks i₀ (ix + 1) (sz + (ks.getD ix.toNat 0).fmod 128 * wt) (wt * 128) := by
  obtain ⟨j, hI, hw, e⟩ := siz_step h hlo hhi
  rw [e]
  have q := hdr_next hI h0 (by omega) hlo hhi (by rw [oct_high hlo hhi, if_neg hb]; decide)
  refine ⟨j + 1, ?_, ?_⟩
  · have e2 : (7 * ((j + 1 : Nat) : Int)) = 7 * (j : Int) + 7 := by push_cast; omega
    rw [e2]; exact q
  · rw [hw, Nat.mul_add, Int.pow_add]; rfl
theorem siz_done {ks : List Int} {i₀ ix sz wt : Int} (h : sizInv ks i₀ ix sz wt) (h0 : 0 ≤ i₀) (h1 : ix < ks.length) (hlo : 0 ≤ ks.getD ix.toNat 0) (hhi : ks.getD ix.toNat 0 < 256) (hb : ks.getD ix.toNat 0 < 128) :
    ∃ k : Nat, sizeL (ks.drop i₀.toNat) = some (sz + (ks.getD ix.toNat 0).fmod 128 * wt, k) ∧ ix + 1 = i₀ + k := by
  obtain ⟨j, hI, hw, e⟩ := siz_step h hlo hhi
  rw [e]
  exact hdr_done hI h0 (by omega) hlo hhi (by rw [oct_high hlo hhi, if_pos hb])
theorem siz_fail {ks : List Int} {i₀ ix sz wt : Int} (h : sizInv ks i₀ ix sz wt) (h0 : 0 ≤ i₀) (h1 : ¬ ix < ks.length) : sizeL (ks.drop i₀.toNat) = none := by
  obtain ⟨j, hI, hw⟩ := h
  exact hdr_fail hI h0 (by omega)
theorem siz_next1 {ks : List Int} {i₀ ix sz wt : Int} (h : sizInv ks i₀ ix sz wt) (h0 : 0 ≤ i₀) (h1 : ix < ks.length) (hlo : 0 ≤ ks.getD (ix + 1 - 1).toNat 0) (hhi : ks.getD (ix + 1 - 1).toNat 0 < 256) (hb : ¬ ks.getD (ix + 1 - 1).toNat 0 < 128) :
    sizInv ks i₀ (ix + 1) (sz + (ks.getD ix.toNat 0).fmod 128 * wt) (wt * 128) := by
  have e : ix + 1 - 1 = ix := by omega
  rw [e] at hlo hhi hb
  exact siz_next h h0 h1 hlo hhi hb
theorem siz_done1 {ks : List Int} {i₀ ix sz wt : Int} (h : sizInv ks i₀ ix sz wt) (h0 : 0 ≤ i₀) (h1 : ix < ks.length) (hlo : 0 ≤ ks.getD (ix + 1 - 1).toNat 0) (hhi : ks.getD (ix + 1 - 1).toNat 0 < 256) (hb : ks.getD (ix + 1 - 1).toNat 0 < 128) (ho : Oct ks) :
    ∃ k : Nat, 0 ≤ sz + (ks.getD ix.toNat 0).fmod 128 * wt ∧ sizeL (ks.drop i₀.toNat) = some (sz + (ks.getD ix.toNat 0).fmod 128 * wt, k) ∧ ix + 1 = i₀ + k := by
  have e : ix + 1 - 1 = ix := by omega
  rw [e] at hlo hhi hb
  obtain ⟨k, e1, e2⟩ := siz_done h h0 h1 hlo hhi hb
  exact ⟨k, (sizeL_facts (ho.drop _) e1).1, e1, e2⟩
abbrev SizS := Int × Tok × Int × Tok × Int × Tok
abbrev sizPs (c : SizS) : List (Str × Value) := [(Str.ofString "at", .int c.1 c.2.1), (Str.ofString "size", .int c.2.2.1 c.2.2.2.1), (Str.ofString "weight", .int c.2.2.2.2.1 c.2.2.2.2.2)]
abbrev sizStored : List Str := ["at", "size", "weight"]
theorem siz_loop {test : Expr} {body : List Stmt} {pos : Pos} {m₀ : Str → Option Value} {news : List (Addr × Obj)} (ks : List Int) {i₀ : Int} {t1 t2 t3 : Tok} (F : Fr h₀ L s.heap m₀) (N : News h₀ L s.heap news)
    (h1 : m₀ (Str.ofString "at") = some (.int i₀ t1)) (h2 : m₀ (Str.ofString "size") = some (.int 0 t2)) (h3 : m₀ (Str.ofString "weight") = some (.int 1 t3)) (hi : i₀ ≤ ks.length)
    (turn : ∀ ix ixt sz szt wt wtt (u : Str → Option Value) h tk, sizInv ks i₀ ix sz wt →
      Fr h₀ L h (kstB (fun z => if sizStored.contains z then u z else m₀ z) [(Str.ofString "at", .int ix ixt), (Str.ofString "size", .int sz szt), (Str.ofString "weight", .int wt wtt)]) → News h₀ L h news →
      wpAny (model prog w) A (isTrue test env (eval test env)) (fun b s₂ =>
        if b = true then wpAny (model prog w) A (execs body env) (KswPost h₀ L s (fun _ => news) sizPs (fun _ => True) sizStored m₀ (fun c => sizInv ks i₀ c.1 c.2.2.1 c.2.2.2.2.1) (fun c => (ks.length - c.1).toNat) Q (ix, ixt, sz, szt, wt, wtt)) E s₂ else Q .next s₂) E { s with heap := h, toks := tk })
    (hE : PassesOwn (model prog w) A env E) :
    wpAny (model prog w) A (exec (.While test body [] pos) env) Q E s := by
  refine ksw_while (fun _ => news) sizPs (fun _ => True) sizStored (fun c => sizInv ks i₀ c.1 c.2.2.1 c.2.2.2.2.1) (fun c => (ks.length - c.1).toNat) (i₀, t1, 0, t2, 1, t3) F N trivial ?_ (sizInv_start ks i₀ hi) (fun c u h tk _ hp F' N' => turn _ _ _ _ _ _ u h tk hp F' N') hE
  intro p hp
  simp only [sizPs, List.mem_cons, List.not_mem_nil, or_false] at hp
  rcases hp with rfl | rfl | rfl
  · exact h1
  · exact h2
  · exact h3
theorem siz_end {ks : List Int} {i₀ ix sz wt a b c : Int} {ixt szt wtt t1 t2 t3 : Tok} {m₀ m' : Str → Option Value} {news : List (Addr × Obj)} {h' : Heap} {tk : Nat} (F : Fr h₀ L h' m') (N : News h₀ L h' news)
    (h1 : m' (Str.ofString "at") = some (.int a t1)) (h2 : m' (Str.ofString "size") = some (.int b t2)) (h3 : m' (Str.ofString "weight") = some (.int c t3))
    (hr : ∀ z, z ≠ Str.ofString "at" → z ≠ Str.ofString "size" → z ≠ Str.ofString "weight" → m' z = m₀ z) (hp : sizInv ks i₀ a b c) (hm : ix < a) :
    KswEnd h₀ L s (fun _ => news) sizPs (fun _ => True) sizStored m₀ (fun c => sizInv ks i₀ c.1 c.2.2.1 c.2.2.2.2.1) (fun c => (ks.length - c.1).toNat) (ix, ixt, sz, szt, wt, wtt) { s with heap := h', toks := tk } := by
  refine ksw_end (a, t1, b, t2, c, t3) F N (fun _ h => h) trivial ?_ (fun z _ h2 => ?_) hp ?_
  · intro p hp
    simp only [sizPs, List.mem_cons, List.not_mem_nil, or_false] at hp
    rcases hp with rfl | rfl | rfl
    · exact h1
    · exact h2
    · exact h3
  · simp only [sizStored, List.contains_cons, List.contains_nil, Bool.or_false, Bool.or_eq_false_iff, beq_eq_false_iff_ne, ne_eq] at h2
    exact hr z h2.1 h2.2.1 h2.2.2
  · have := (sizInv_le hp).2.2
    show (ks.length - a).toNat < (ks.length - ix).toNat
    omega
theorem mul_oct {a b : Int} {t u : Tok} {Q : Value → Shared → Prop} (h0 : 0 ≤ a) (h1 : a < 256) (h : ∀ t' k, Q (.int (a * b) t') { s with toks := k }) : wpAny (model prog w) A (binaryOp .Mult (.int a t) (.int b u)) Q E s :=
  PyProof.Rows.mul_int (h _ _) (IntMulOk.of_left (intBits_le_64 (by omega) (by omega)))
theorem mul_octR {a b : Int} {t u : Tok} {Q : Value → Shared → Prop} (h0 : 0 ≤ b) (h1 : b < 256) (h : ∀ t' k, Q (.int (a * b) t') { s with toks := k }) : wpAny (model prog w) A (binaryOp .Mult (.int a t) (.int b u)) Q E s :=
  PyProof.Rows.mul_int (h _ _) (IntMulOk.of_right (intBits_le_64 (by omega) (by omega)))
theorem fmod_oct (c : Int) : 0 ≤ c.fmod 128 ∧ c.fmod 128 < 256 := by rw [Int.fmod_eq_emod_of_nonneg _ (by decide)]; omega
end
set_option maxHeartbeats 8000000 in
theorem size_spec (w : World) {p : Program} {loose : List Str} {mean : ExcName → Option Value} {mg mb : Str → Option Value}
   {base : Heap} (X₀ : (hd.heap_39 w.params).In base) (T₀ : Top p loose mean mg mb base)
   (dp un : Nat) (gd : Option (List Code)) (l : List Env) (hdp : dp + 15 < recursionLimit)
   {d : Array UInt8} {dk : List Int} (hdk : KBw.bInts d = dk) (hd0 : dk.length ≤ 1800) (td : Tok) {i : Int} (ti : Tok) (hi0 : 0 ≤ i) (hi1 : i ≤ dk.length) :
   Spec PySem.Challenge.rw_jq0004_01.row.prog w (aTop dp un gd l) base l (.ref 68) [.bytes d td, .int i ti] []
     (fun v n' => ∃ D x ix t2, v = .ref D ∧ n' = [(D, tupO [x, .int ix t2])] ∧ i ≤ ix ∧ ix ≤ dk.length ∧ ((x = .none ∧ sizeL (dk.drop i.toNat) = none) ∨ (∃ sz t1 k, x = .int sz t1 ∧ 0 ≤ sz ∧ sizeL (dk.drop i.toNat) = some (sz, k) ∧ ix = i + (k : Nat))))
     (.ref 32) (fun _ => False) := by
  have hfill : (fun _ : OpenLaw => hd.heap_39) PySem.Challenge.rw_jq0004_01 = hd.heap_39 := by (k_fill; rfl)
  clear hfill
  intro g s Q E B hg hsz N hret hexc
  have X := X₀.keeps B.stays
  have T := T₀.keeps B.stays
  refine wpAny_call ?_
  k_dflt (refine' enter_def hg hsz N X T ?k6 ?k7 ?k8 ?k9 ?kB ?_ ?c2 ?c3 ?c4 ?c5; (case k6 => k_is); (case k7 => k_is); (case k8 => ktr_room); (case k9 => exact BindsTo.of_eq rfl); (case c5 => decide); (case kB => exact locs rfl); (case c2 => exact rfl); (case c3 => exact rfl); (case c4 => exact rfl); k_whole; intro L' h' F' N' l1; (try k_lt l1); (try dsimp only); (try k_fold))
  k_with_none
  k_with "execs cons" => k_fold
  k_with "eval Call" => k_fold
  k_with "storeName" => (k_here; k_dflt (first | (refine' storeI_L ?F ?N ?_ ?a ?b; (case F => k_asm); (case N => k_asm); (case a => rfl); (case b => rfl); k_whole; intro h' tk' t' F' N'; (try k_sweep); (try dsimp only); (try k_fold)) | (refine' storeB_L ?F ?N ?_ ?a ?b; (case F => k_asm); (case N => k_asm); (case a => rfl); (case b => rfl); k_whole; intro h' tk' t' F' N'; (try k_sweep); (try dsimp only); (try k_fold)) | (refine' storeG_L ?F ?N ?_ ?a ?b; (case F => k_asm); (case N => k_asm); (case a => rfl); (case b => rfl); k_whole; intro h' tk' F' N'; (try k_sweep); (try dsimp only); (try k_fold))))
  k_with "exec While Constant cons nil" => k_extra "while"
  k_with "exec While Compare cons nil" => k_extra "while"
  k_with "KswEnd" => k_extra "turn"
  k_with "call builtin:len" => (k_here; (with_reducible show wpAny _ _ (call (Value.builtin "len") [Value.bytes _ _]) _ _ _); (refine len_b (by assumption) (by omega) ?_); intro _ _)
  k_with "call ref" => k_extra "call"
  k_with "exec For Name Call cons nil" => k_extra "for"
  k_with "pyIter ref" => k_extra "iter"
  k_with "call builtin:list.append" => (k_here; k_dflt (refine' append_K ?k1 ?k2 ?k3 ?_ ?z; (case k1 => k_asm); (case k2 => k_asm); (case k3 => k_upd); (case z => k_extra "append"); k_whole); intro h' F' N'; (try k_sweep))
  k_with "binaryOp Mult int int" => (k_here; (with_reducible show wpAny _ _ (binaryOp _ (Value.int (Int.fmod _ 128) _) (Value.int _ _)) _ _ _); (refine mul_oct (fmod_oct _).1 (fmod_oct _).2 ?_); intro _ _)
  k_with "binaryOp Mult int int" => (k_here; (with_reducible show wpAny _ _ (binaryOp _ (Value.int _ _) (Value.int 128 _)) _ _ _); (refine mul_octR (by decide) (by decide) ?_); intro _ _)
  k_with "while" => ((rename Fr _ _ _ _ => kF); (rename News _ _ _ _ => kN); k_dflt (refine' siz_loop dk kF kN ?h1 ?h2 ?h3 ?hi ?_ ?hE; (case h1 => exact rfl); (case h2 => exact rfl); (case h3 => exact rfl); (case hi => omega); (case hE => first | passes_own | with_unfolding_all passes_own)); (intro ix ixt sz szt wt wtt kU kH kTk kInv kFr kNews); (have kInv' := sizInv_le kInv); (obtain ⟨hj1, hj2, hj3⟩ := kInv'); (try dsimp only); (try k_fold))
  k_steps
  · obtain ⟨k, e0, e1, e2⟩ := siz_done1 kInv hi0 (by assumption) (by assumption) (by assumption) (by assumption) (oct_of hdk)
    exact hret _ _ _ _ ⟨_, _, _, _, rfl, rfl, by omega, by omega, .inr ⟨_, _, k, rfl, e0, e1, e2⟩⟩ (Fr.keep (by assumption)) (Led.of_news (by assumption))
  · exact siz_end (by assumption) (by assumption) rfl rfl rfl (by intro z a1 a2 a3; simp [kstB, a1, a2, a3]) (siz_next1 kInv hi0 (by assumption) (by assumption) (by assumption) (by assumption)) (by omega)
  · exact hret _ _ _ _ ⟨_, _, _, _, rfl, rfl, by omega, by omega, .inl ⟨rfl, siz_fail kInv hi0 (by assumption)⟩⟩ (Fr.keep (by assumption)) (Led.of_news (by assumption))

def valL : List Int → Int
  | [] => 0
  | x :: r => x + 256 * valL r
theorem val_set {x : Int} : ∀ {fs : List Int} {j : Nat}, fs.getD j 0 = 0 → j < fs.length → valL (fs.set j x) = valL fs + x * 256 ^ j
  | [], _, _, h => absurd h (Nat.not_lt_zero _)
  | a :: r, 0, e, _ => by
    have e' : a = 0 := e
    show x + 256 * valL r = a + 256 * valL r + x * 256 ^ 0
    rw [e', Int.pow_zero]; omega
  | a :: r, j + 1, e, h => by
    have ih := val_set (x := x) (fs := r) (j := j) (by simpa using e) (Nat.lt_of_succ_lt_succ h)
    show a + 256 * valL (r.set j x) = a + 256 * valL r + x * 256 ^ (j + 1)
    rw [ih, Int.pow_succ, Int.mul_add, ← Int.mul_assoc x]
    omega
theorem fieldsL_add {c : Int} : ∀ {a b k : Nat} {r : List Int}, fieldsL c k (a + b) r = (match fieldsL c k a r with | none => none | some (v, q) => (fieldsL c (k + a) b q).map fun p => (v + 256 ^ a * p.1, p.2))
  | 0, b, k, r => by
    rw [Nat.zero_add]
    simp only [fieldsL, Nat.add_zero]
    cases fieldsL c k b r with
    | none => rfl
    | some p => simp
  | a + 1, b, k, r => by
    rw [show a + 1 + b = (a + b) + 1 by omega]
    simp only [fieldsL]
    have p1 : (256 : Int) ^ (a + 1) = 256 * 256 ^ a := by rw [Int.pow_succ, Int.mul_comm]
    split
    · cases r with
      | nil => rfl
      | cons x q =>
        simp only []
        rw [fieldsL_add (a := a) (b := b), show k + 1 + a = k + (a + 1) by omega]
        cases fieldsL c (k + 1) a q with
        | none => rfl
        | some p =>
          simp only [Option.map_some]
          cases fieldsL c (k + (a + 1)) b p.2 with
          | none => rfl
          | some p2 =>
            simp only [Option.map_some, Option.some.injEq, Prod.mk.injEq, and_true]
            rw [p1, Int.mul_add, ← Int.mul_assoc]; omega
    · rw [fieldsL_add (a := a) (b := b), show k + 1 + a = k + (a + 1) by omega]
      cases fieldsL c (k + 1) a r with
      | none => rfl
      | some p =>
        simp only [Option.map_some]
        cases fieldsL c (k + (a + 1)) b p.2 with
        | none => rfl
        | some p2 =>
          simp only [Option.map_some, Option.some.injEq, Prod.mk.injEq, and_true]
          rw [p1, Int.mul_add, ← Int.mul_assoc]
theorem fieldsL_range {c : Int} : ∀ {n k : Nat} {r : List Int} {v : Int} {q : List Int}, Oct r → fieldsL c k n r = some (v, q) → 0 ≤ v ∧ v < 256 ^ n
  | 0, _, r, v, q, _, h => by simp [fieldsL] at h; rw [← h.1]; exact ⟨Int.le_refl _, by decide⟩
  | n + 1, k, r, v, q, ho, h => by
    have p1 : (256 : Int) ^ (n + 1) = 256 ^ n * 256 := Int.pow_succ ..
    unfold fieldsL at h
    split at h
    · cases r with
      | nil => cases h
      | cons x r =>
        simp only [Option.map_eq_some_iff] at h
        obtain ⟨⟨v', q'⟩, h1, h2⟩ := h
        have ih := fieldsL_range (fun y hy => ho y (.tail _ hy)) h1
        have hx := ho x (.head _)
        cases h2
        rw [p1]; omega
    · simp only [Option.map_eq_some_iff] at h
      obtain ⟨⟨v', q'⟩, h1, h2⟩ := h
      have ih := fieldsL_range ho h1
      cases h2
      rw [p1]; omega
theorem fields_seven_none {c : Int} {q : List Int} (h : fieldsL c 0 7 q = none) {bk acc : List Int} {rem : Int} (hc : 128 ≤ c) : readOps bk (c :: q) rem acc = none := by
  rw [show 7 = 4 + 3 from rfl, fieldsL_add] at h
  cases h1 : fieldsL c 0 4 q with
  | none => exact ops_none0 hc h1
  | some p =>
    obtain ⟨off, q1⟩ := p
    rw [h1] at h
    simp only [Option.map_eq_none_iff] at h
    exact ops_none1 hc h1 (by simpa using h)
theorem fields_seven {c st sz : Int} {q q2 : List Int} (ho : Oct q) (h : fieldsL c 0 7 q = some (st + 4294967296 * sz, q2)) (h0 : 0 ≤ st) (h1 : st < 4294967296) :
    ∃ q1, fieldsL c 0 4 q = some (st, q1) ∧ fieldsL c 4 3 q1 = some (sz, q2) := by
  rw [show 7 = 4 + 3 from rfl, fieldsL_add] at h
  cases e1 : fieldsL c 0 4 q with
  | none => rw [e1] at h; cases h
  | some p =>
    obtain ⟨off, q1⟩ := p
    rw [e1] at h
    simp only [Option.map_eq_some_iff] at h
    obtain ⟨⟨v, q'⟩, e2, e3⟩ := h
    have hr := fieldsL_range ho e1
    have p4 : (256 : Int) ^ 4 = 4294967296 := by decide
    rw [p4] at hr e3
    simp only [Prod.mk.injEq] at e3
    obtain ⟨e4, rfl⟩ := e3
    obtain rfl : off = st := by omega
    obtain rfl : v = sz := by omega
    exact ⟨q1, rfl, by simpa using e2⟩
/-- between the turns of the law's loop that reads a copy's seven octets -/
def sevInv (ks : List Int) (cc i₀ : Int) (j : Nat) (idx : Int) (fs : List Int) : Prop :=
  fs.length = 7 ∧ Oct fs ∧ (∀ i, j ≤ i → fs.getD i 0 = 0) ∧ fldInv ks cc 0 7 i₀ j idx (valL fs)
theorem sevInv_start (ks : List Int) (cc i₀ : Int) (h : i₀ ≤ ks.length) : sevInv ks cc i₀ 0 i₀ [0, 0, 0, 0, 0, 0, 0] :=
  ⟨rfl, fun y hy => by
    have e : y = 0 := by simpa using hy
    rw [e]; decide, fun i _ => by
    rcases Nat.lt_or_ge i 7 with h | h
    · have : ∀ i : Fin 7, [(0 : Int), 0, 0, 0, 0, 0, 0].getD i.val 0 = 0 := by decide
      exact this ⟨i, h⟩
    · rw [List.getD_eq_getElem?_getD, List.getElem?_eq_none (by simpa using h)]; rfl, fldInv_start ks cc 0 7 i₀ h⟩
theorem sev_skip {ks : List Int} {cc i₀ idx : Int} {j : Nat} {fs : List Int} (h : sevInv ks cc i₀ j idx fs) (hj : j < 7) (hb : ¬ cc / 2 ^ j % 2 = 1) : sevInv ks cc i₀ (j + 1) idx fs :=
  ⟨h.1, h.2.1, fun i hi => h.2.2.1 i (by omega), fld_skip h.2.2.2 hj (by rw [Nat.zero_add]; exact hb)⟩
theorem sev_take {ks : List Int} {cc i₀ idx : Int} {j : Nat} {fs : List Int} (h : sevInv ks cc i₀ j idx fs) (h00 : 0 ≤ i₀) (hj : j < 7) (hb : cc / 2 ^ j % 2 = 1) (hl : idx < ks.length) (hlo : 0 ≤ ks.getD idx.toNat 0) (hhi : ks.getD idx.toNat 0 < 256) :
    sevInv ks cc i₀ (j + 1) (idx + 1) (fs.set j (ks.getD idx.toNat 0)) := by
  obtain ⟨h1, h2, h3, h4⟩ := h
  have q := fld_take h4 h00 hj (by rw [Nat.zero_add]; exact hb) hl hlo hhi
  have pe : (2 : Int) ^ (j * 8) = 256 ^ j := by rw [Nat.mul_comm, Int.pow_mul]; rfl
  rw [or_above h4.1 (by rw [pe]; exact h4.2.1) hlo, pe, ← val_set (h3 j (Nat.le_refl _)) (by omega)] at q
  refine ⟨by rw [List.length_set]; exact h1, fun y hy => ?_, fun i hi => ?_, q⟩
  · rcases List.mem_or_eq_of_mem_set hy with hy | hy
    · exact h2 y hy
    · rw [hy]; exact ⟨hlo, hhi⟩
  · rw [List.getD_eq_getElem?_getD, List.getElem?_set_ne (by omega), ← List.getD_eq_getElem?_getD]
    exact h3 i (by omega)
theorem sev_fail {ks : List Int} {cc i₀ idx : Int} {j : Nat} {fs : List Int} (h : sevInv ks cc i₀ j idx fs) (hj : j < 7) (hb : cc / 2 ^ j % 2 = 1) (hl : (ks.length : Int) ≤ idx) : fieldsL cc 0 7 (ks.drop i₀.toNat) = none :=
  fld_fail h.2.2.2 hj (by rw [Nat.zero_add]; exact hb) hl
theorem ints_cons {vs : List Value} {f : Int} {r : List Int} (h : IntsAre vs (f :: r)) : ∃ t vs', vs = .int f t :: vs' ∧ IntsAre vs' r := by
  cases h with
  | cons _ t h => exact ⟨t, _, rfl, h⟩
theorem ints_seven {vs : List Value} {fs : List Int} (h : IntsAre vs fs) (hl : fs.length = 7) : ∃ f0 f1 f2 f3 f4 f5 f6 t0 t1 t2 t3 t4 t5 t6, fs = [f0, f1, f2, f3, f4, f5, f6] ∧ vs = [.int f0 t0, .int f1 t1, .int f2 t2, .int f3 t3, .int f4 t4, .int f5 t5, .int f6 t6] := by
  match fs, hl with
  | [f0, f1, f2, f3, f4, f5, f6], _ =>
    obtain ⟨t0, v0, rfl, g1⟩ := ints_cons h
    obtain ⟨t1, v1, rfl, g2⟩ := ints_cons g1
    obtain ⟨t2, v2, rfl, g3⟩ := ints_cons g2
    obtain ⟨t3, v3, rfl, g4⟩ := ints_cons g3
    obtain ⟨t4, v4, rfl, g5⟩ := ints_cons g4
    obtain ⟨t5, v5, rfl, g6⟩ := ints_cons g5
    obtain ⟨t6, v6, rfl, g7⟩ := ints_cons g6
    cases g7
    exact ⟨_, _, _, _, _, _, _, _, _, _, _, _, _, _, rfl, rfl⟩
theorem sev_done {ks : List Int} {cc i₀ idx f0 f1 f2 f3 f4 f5 f6 : Int} (h : sevInv ks cc i₀ 7 idx [f0, f1, f2, f3, f4, f5, f6]) : ((0 ≤ f0 ∧ f0 < 256) ∧ (0 ≤ f1 ∧ f1 < 256) ∧ (0 ≤ f2 ∧ f2 < 256) ∧ (0 ≤ f3 ∧ f3 < 256) ∧ (0 ≤ f4 ∧ f4 < 256) ∧ (0 ≤ f5 ∧ f5 < 256) ∧ (0 ≤ f6 ∧ f6 < 256)) ∧ i₀ ≤ idx ∧ idx ≤ ks.length ∧
    fieldsL cc 0 7 (ks.drop i₀.toNat) = some ((f0 + 256 * f1 + 65536 * f2 + 16777216 * f3) + 4294967296 * (f4 + 256 * f5 + 65536 * f6), ks.drop idx.toNat) := by
  obtain ⟨h1, h2, h3, h4⟩ := h
  refine ⟨⟨h2 _ (by simp), h2 _ (by simp), h2 _ (by simp), h2 _ (by simp), h2 _ (by simp), h2 _ (by simp), h2 _ (by simp)⟩, h4.2.2.1, h4.2.2.2.1, ?_⟩
  rw [fld_done h4]
  simp only [valL, Option.some.injEq, Prod.mk.injEq, and_true]
  omega
/-- between the turns of the law's reading -/
def rdInv (bk dk : List Int) (two : Int) (R : Option (List Int)) (at_ : Int) (acc : List Int) : Prop :=
  0 ≤ at_ ∧ at_ ≤ dk.length ∧ (acc.length : Int) ≤ two ∧ acc.length ≤ (bk.length + 1) * at_.toNat ∧ readOps bk (dk.drop at_.toNat) (two - acc.length) acc = R
theorem rd_bound {bk dk acc : List Int} {two at_ : Int} {R : Option (List Int)} (h : rdInv bk dk two R at_ acc) (hb : (bk.length + 1) * dk.length ≤ 16000000) : acc.length ≤ 16000000 :=
  Nat.le_trans h.2.2.2.1 (Nat.le_trans (Nat.mul_le_mul_left _ (by have := h.2.1; have := h.1; omega)) hb)
section
variable {bk dk acc : List Int} {two at_ : Int} {R : Option (List Int)}
theorem rd_at (h : rdInv bk dk two R at_ acc) (hl : at_ < dk.length) : readOps bk (dk.getD at_.toNat 0 :: dk.drop (at_ + 1).toNat) (two - acc.length) acc = R := by
  rw [← drop_at h.1 (by omega)]; exact h.2.2.2.2
theorem rd_zero (h : rdInv bk dk two R at_ acc) (hl : at_ < dk.length) (hz : dk.getD at_.toNat 0 = 0) : R = none := by
  rw [← rd_at h hl, hz]; exact ops_zero
theorem rd_long (h : rdInv bk dk two R at_ acc) (hl : at_ < dk.length) (hc : dk.getD at_.toNat 0 < 128) (hb : (acc.length : Int) + dk.getD at_.toNat 0 > two ∨ at_ + 1 + dk.getD at_.toNat 0 > dk.length) : R = none := by
  have h0 := h.1
  rw [← rd_at h hl]
  refine ops_long (by omega) ?_
  rw [List.length_drop]
  rcases hb with hb | hb
  · left; omega
  · right; omega
theorem cut_drop_take (dk : List Int) (i c : Int) (h0 : 0 ≤ i) (h1 : 0 ≤ c) : (dk.drop i.toNat).take c.toNat = cut dk i (i + c) := by
  unfold cut
  rw [show (i + c).toNat - i.toNat = c.toNat by omega]
theorem rd_insert (h : rdInv bk dk two R at_ acc) (hl : at_ < dk.length) (hlo : 0 ≤ dk.getD at_.toNat 0) (hc : dk.getD at_.toNat 0 < 128) (hz : dk.getD at_.toNat 0 ≠ 0) (h1 : ¬ (acc.length : Int) + dk.getD at_.toNat 0 > two) (h2 : ¬ at_ + 1 + dk.getD at_.toNat 0 > dk.length) :
    rdInv bk dk two R (at_ + 1 + dk.getD at_.toNat 0) (acc ++ cut dk (at_ + 1) (at_ + 1 + dk.getD at_.toNat 0)) := by
  have e := rd_at h hl
  obtain ⟨a1, a2, a3, a4, a5⟩ := h
  generalize dk.getD at_.toNat 0 = c at *
  rw [ops_insert (by omega) hz (by omega) (by rw [List.length_drop]; omega), cut_drop_take _ _ _ (by omega) hlo, List.drop_drop] at e
  have hcl := cut_len dk (at_ + 1) (at_ + 1 + c) (by omega) (by omega) (by omega)
  have hm : (bk.length + 1) * (at_ + 1 + c).toNat = (bk.length + 1) * at_.toNat + (bk.length + 1) * (1 + c.toNat) := by rw [← Nat.mul_add]; congr 1; omega
  have hm2 : 1 + c.toNat ≤ (bk.length + 1) * (1 + c.toNat) := Nat.le_mul_of_pos_left _ (Nat.succ_pos _)
  refine ⟨by omega, by omega, by rw [List.length_append]; omega, by rw [List.length_append, hm]; omega, ?_⟩
  rw [← e]
  have e1 : (at_ + 1 + c).toNat = (at_ + 1).toNat + c.toNat := by omega
  have e2 : two - ((acc ++ cut dk (at_ + 1) (at_ + 1 + c)).length : Int) = two - acc.length - c := by rw [List.length_append]; push_cast; omega
  rw [e1, e2]
theorem rd_none (h : rdInv bk dk two R at_ acc) (hl : at_ < dk.length) (hc : ¬ dk.getD at_.toNat 0 < 128) (hf : fieldsL (dk.getD at_.toNat 0) 0 7 (dk.drop (at_ + 1).toNat) = none) : R = none := by
  rw [← rd_at h hl]
  exact fields_seven_none hf (by omega)
theorem rd_bad {ix st sz : Int} (ho : Oct dk) (h : rdInv bk dk two R at_ acc) (hl : at_ < dk.length) (hc : ¬ dk.getD at_.toNat 0 < 128) (h0 : 0 ≤ st) (h1 : st < 4294967296) (hix0 : 0 ≤ ix) (hix : ix ≤ dk.length)
    (hf : fieldsL (dk.getD at_.toNat 0) 0 7 (dk.drop (at_ + 1).toNat) = some (st + 4294967296 * sz, dk.drop ix.toNat)) (hb : st + copySz sz > bk.length ∨ (acc.length : Int) + copySz sz > two) (hn : ¬ (ix = dk.length ∧ (acc.length : Int) = two)) : R = none := by
  rw [← rd_at h hl]
  obtain ⟨q1, e1, e2⟩ := fields_seven (ho.drop _) hf h0 h1
  rw [ops_bad (by omega) e1 e2 (by omega), if_neg]
  rintro ⟨z1, z2⟩
  have := congrArg List.length z1
  rw [List.length_drop, List.length_nil] at this
  exact hn ⟨by omega, by omega⟩
theorem rd_copy {ix st sz : Int} (ho : Oct dk) (h : rdInv bk dk two R at_ acc) (hl : at_ < dk.length) (hc : ¬ dk.getD at_.toNat 0 < 128) (h0 : 0 ≤ st) (h1 : st < 4294967296) (hsz : 0 ≤ sz) (hix0 : at_ + 1 ≤ ix) (hix : ix ≤ dk.length)
    (hf : fieldsL (dk.getD at_.toNat 0) 0 7 (dk.drop (at_ + 1).toNat) = some (st + 4294967296 * sz, dk.drop ix.toNat)) (hb1 : ¬ st + copySz sz > bk.length) (hb2 : ¬ (acc.length : Int) + copySz sz > two) :
    rdInv bk dk two R ix (acc ++ cut bk st (st + copySz sz)) := by
  have e := rd_at h hl
  obtain ⟨a1, a2, a3, a4, a5⟩ := h
  obtain ⟨q1, e1, e2⟩ := fields_seven (ho.drop _) hf h0 h1
  have hs0 : 0 ≤ copySz sz := by unfold copySz; split <;> omega
  rw [ops_copy (by omega) e1 e2 (by omega) (by omega)] at e
  have hcl := cut_len bk st (st + copySz sz) h0 (by omega) (by omega)
  have hle := cut_len_le bk st (st + copySz sz)
  have hm : (bk.length + 1) * (at_.toNat + 1) ≤ (bk.length + 1) * ix.toNat := Nat.mul_le_mul_left _ (by omega)
  rw [Nat.mul_add, Nat.mul_one] at hm
  refine ⟨by omega, hix, by rw [List.length_append]; omega, by rw [List.length_append]; omega, ?_⟩
  rw [← e]
  congr 1
  rw [List.length_append]; push_cast; omega
theorem rd_end (h : rdInv bk dk two R at_ acc) (hl : ¬ at_ < dk.length) : R = if (acc.length : Int) = two then some acc else none := by
  obtain ⟨a1, a2, a3, a4, a5⟩ := h
  rw [← a5, List.drop_of_length_le (by omega), ops_nil]
  by_cases q : (acc.length : Int) = two
  · rw [if_pos q, if_pos (by omega)]
  · rw [if_neg q, if_neg (by omega)]
theorem rd_start {ix1 ix2 s1 s2 : Int} {k1 k2 : Nat} (h1 : sizeL (dk.drop (Int.toNat 0)) = some (s1, k1)) (e1 : ix1 = 0 + (k1 : Int)) (h2 : sizeL (dk.drop ix1.toNat) = some (s2, k2)) (e2 : ix2 = ix1 + k2)
    (hs : s1 = bk.length) (h0 : 0 ≤ s2) (hl : ix2 ≤ dk.length) : rdInv bk dk s2 (readDelta bk dk) ix2 [] := by
  have q := (start_main h1 e1 h2 e2 hs h0 hl).2.2.2.2.2.2
  exact ⟨by omega, hl, by simpa using h0, by simp, by simpa using q⟩
end

section
variable {prog : Program} {w : World} {A : Around} {E : Value → Shared → Prop} {Q : Flow → Shared → Prop} {s : Shared} {env : Env} {h₀ : Heap} {L : Addr} {body : List Stmt}
abbrev SevS := List Value × List Int × Nat × Int × Tok
abbrev sevLed (fo : Addr) (c : SevS) : List (Addr × Obj) := [(fo, listOf c.1.toArray c.2.2.1)]
abbrev sevPs (c : SevS) : List (Str × Value) := [(Str.ofString "at", .int c.2.2.2.1 c.2.2.2.2)]
abbrev sevFacts (c : SevS) : Prop := IntsAre c.1 c.2.1
def SevPost (h₀ : Heap) (L : Addr) (fo : Addr) (m₀ : Str → Option Value) (ks : List Int) (cc i₀ : Int) (j : Nat) (own : List (Addr × Obj)) (s : Shared) (Q : Flow → Shared → Prop) (f : Flow) (s₂ : Shared) : Prop :=
  match f with
  | .ret v => Q (.ret v) s₂
  | .brk => Q .next s₂
  | _ => ∃ h' tk m' news' vs fs nn idx tidx, s₂ = { s with heap := h', toks := tk } ∧ Fr h₀ L h' m' ∧ News h₀ L h' news' ∧ (fo, listOf (List.toArray vs) nn) ∈ news' ∧ (∀ q ∈ own, q ∈ news') ∧ IntsAre vs fs ∧ m' (Str.ofString "at") = some (.int idx tidx) ∧
     (∀ z : Str, z ≠ Str.ofString "k" → z ≠ Str.ofString "at" → m' z = m₀ z) ∧ sevInv ks cc i₀ (j + 1) idx fs
theorem for_seven {r : Addr} {t₀ u₀ v₀ : Tok} {m₀ : Str → Option Value} {news : List (Addr × Obj)} (ks : List Int) (cc : Int) {i₀ : Int} {ti : Tok} {fo : Addr} {vs0 : List Value} {nn0 : Nat}
    (hh : A.handled = none) (hr : IsRange s.heap r 0 7 1 t₀ u₀ v₀) (F : Fr h₀ env.locals s.heap m₀) (N : News h₀ env.locals s.heap news) (hfo : (fo, listOf (List.toArray vs0) nn0) ∈ news) (hv0 : IntsAre vs0 [0, 0, 0, 0, 0, 0, 0])
    (ho : m₀ (Str.ofString "at") = some (.int i₀ ti)) (hi : i₀ ≤ ks.length)
    (turn : ∀ (j : Nat) vs fs nn idx tidx t (u : Str → Option Value) h tk own, j < 7 → OwnOff own [fo] → IntsAre vs fs → sevInv ks cc i₀ j idx fs →
      Fr h₀ env.locals h (fun y => if y = "k" then some (.int (j : Int) t) else kstB (fun z => if [Str.ofString "k", Str.ofString "at"].contains z then u z else m₀ z) [(Str.ofString "at", .int idx tidx)] y) → News h₀ env.locals h ((fo, listOf (List.toArray vs) nn) :: own) →
      wpAny (model prog w) A (execs body env) (SevPost h₀ env.locals fo m₀ ks cc i₀ j own { s with heap := h, toks := tk } Q) E { s with heap := h, toks := tk })
    (done : ∀ f0 f1 f2 f3 f4 f5 f6 t0 t1 t2 t3 t4 t5 t6 nn idx tidx (u : Str → Option Value) h tk, sevInv ks cc i₀ 7 idx [f0, f1, f2, f3, f4, f5, f6] →
      Fr h₀ env.locals h (fun y => if y = "k" then u y else kstB (fun z => if [Str.ofString "k", Str.ofString "at"].contains z then u z else m₀ z) [(Str.ofString "at", .int idx tidx)] y) → News h₀ env.locals h [(fo, listOf #[.int f0 t0, .int f1 t1, .int f2 t2, .int f3 t3, .int f4 t4, .int f5 t5, .int f6 t6] nn)] → Q .next { s with heap := h, toks := tk }) :
    wpAny (model prog w) A (pyIter (.ref r)) (fun it s₂ => LoopAtV prog w A h₀ env "k" body Q E it s₂) E s := by
  have N1 : News h₀ env.locals s.heap (sevLed fo (vs0, [0, 0, 0, 0, 0, 0, 0], nn0, i₀, ti)) := fun q hq => by rw [List.mem_singleton.mp hq]; exact N _ hfo
  refine kst_range (x := "k") (n := 7) (sevLed fo) sevPs sevFacts [Str.ofString "k", Str.ofString "at"] (fun pre c => sevInv ks cc i₀ pre.length c.2.2.2.1 c.2.1) (vs0, [0, 0, 0, 0, 0, 0, 0], nn0, i₀, ti) hh hr (by decide +kernel) (by decide +kernel) F N1 hv0 ?_ (sevInv_start ks cc i₀ hi) ?_ ?_
  · intro p hp
    rw [List.mem_singleton.mp hp]; exact ho
  · rintro ⟨vs, fs, nn, idx, tidx⟩ pre k t u h tk own hk hlt hoff hf hp F' N'
    have hk' : k = (pre.length : Int) := by omega
    subst hk'
    refine wpAny_mono (turn pre.length vs fs nn idx tidx t u h tk own hlt (by simpa using hoff) hf hp F' N') (fun f s₂ z => ?_) fun _ _ z => z
    have up : SevPost h₀ env.locals fo m₀ ks cc i₀ pre.length own { s with heap := h, toks := tk } Q .next s₂ → InvEndN h₀ env.locals (KstS (sevLed fo) sevPs sevFacts "k" [Str.ofString "k", Str.ofString "at"] m₀ (fun pre c => sevInv ks cc i₀ pre.length c.2.2.2.1 c.2.1) (pre ++ [(pre.length : Int)])) own ((sevLed fo (vs0, [0, 0, 0, 0, 0, 0, 0], nn0, i₀, ti)).map (·.1)) { s with heap := h, toks := tk } s₂ := by
      rintro ⟨h', tk', m', news', vs', fs', nn', idx', tidx', rfl, F2, N2, a1, a2, a3, a4, a5, a6⟩
      refine kst_end (vs', fs', nn', idx', tidx') F2 N2 (fun q hq => by rw [List.mem_singleton.mp hq]; exact a1) a2 rfl a3 ?_ ?_ (by simpa using a6)
      · intro p hp
        rw [List.mem_singleton.mp hp]; exact a4
      · intro z hz _ hs
        simp only [List.contains_cons, List.contains_nil, Bool.or_false, Bool.or_eq_false_iff, beq_eq_false_iff_ne, ne_eq] at hs
        exact a5 z hs.1 hs.2
    cases f with
    | ret v => exact z
    | brk => exact z
    | next => exact up z
    | cont => exact up z
  · rintro ⟨vs, fs, nn, idx, tidx⟩ u h tk hf hp F' N'
    have hp' : sevInv ks cc i₀ 7 idx fs := by simpa [rangeKs_length] using hp
    obtain ⟨f0, f1, f2, f3, f4, f5, f6, t0, t1, t2, t3, t4, t5, t6, rfl, rfl⟩ := ints_seven (vs := vs) (fs := fs) hf hp'.1
    exact done _ _ _ _ _ _ _ t0 t1 t2 t3 t4 t5 t6 nn idx tidx u h tk hp' F' N'
theorem sev_ends {h' : Heap} {m₀ m' : Str → Option Value} {fo : Addr} {ks : List Int} {cc i₀ idx : Int} {own news' : List (Addr × Obj)} {vs : List Value} {fs : List Int} {nn j tk : Nat} {tidx : Tok} (F2 : Fr h₀ L h' m') (N2 : News h₀ L h' news') (a1 : (fo, listOf (List.toArray vs) nn) ∈ news') (a2 : ∀ q ∈ own, q ∈ news') (hv : IntsAre vs fs) (a4 : m' (Str.ofString "at") = some (.int idx tidx))
    (a5 : ∀ z : Str, z ≠ Str.ofString "k" → z ≠ Str.ofString "at" → m' z = m₀ z) (a6 : sevInv ks cc i₀ (j + 1) idx fs) :
    SevPost h₀ L fo m₀ ks cc i₀ j own s Q .next { s with heap := h', toks := tk } :=
  ⟨_, _, _, _, _, _, _, _, _, rfl, F2, N2, a1, a2, hv, a4, a5, a6⟩
abbrev RdS := Int × Tok × Array UInt8 × Tok × List Int
abbrev rdPs (c : RdS) : List (Str × Value) := [(Str.ofString "at", .int c.1 c.2.1), (Str.ofString "text", .bytes c.2.2.1 c.2.2.2.1)]
abbrev rdFacts (c : RdS) : Prop := KBw.bInts c.2.2.1 = c.2.2.2.2
abbrev rdStored : List Str := ["at", "text", "deed", "fields", "k", "start", "size"]
theorem rd_loop {test : Expr} {body : List Stmt} {pos : Pos} {m₀ : Str → Option Value} {news : List (Addr × Obj)} (bk dk : List Int) (R : Option (List Int)) (two : Int) {i₀ : Int} {t1 t2 : Tok} (F : Fr h₀ L s.heap m₀) (N : News h₀ L s.heap news)
    (h1 : m₀ (Str.ofString "at") = some (.int i₀ t1)) (h2 : m₀ (Str.ofString "text") = some (.bytes #[] t2)) (hp : rdInv bk dk two R i₀ [])
    (turn : ∀ ix ixt c ct acc (u : Str → Option Value) h tk, KBw.bInts c = acc → rdInv bk dk two R ix acc →
      Fr h₀ L h (kstB (fun z => if rdStored.contains z then u z else m₀ z) [(Str.ofString "at", .int ix ixt), (Str.ofString "text", .bytes c ct)]) → News h₀ L h [] →
      wpAny (model prog w) A (isTrue test env (eval test env)) (fun b s₂ =>
        if b = true then wpAny (model prog w) A (execs body env) (KswPost h₀ L s (fun _ => []) rdPs rdFacts rdStored m₀ (fun c => rdInv bk dk two R c.1 c.2.2.2.2) (fun c => (dk.length - c.1).toNat) Q (ix, ixt, c, ct, acc)) E s₂ else Q .next s₂) E { s with heap := h, toks := tk })
    (hE : PassesOwn (model prog w) A env E) :
    wpAny (model prog w) A (exec (.While test body [] pos) env) Q E s := by
  refine ksw_while (fun _ => []) rdPs rdFacts rdStored (fun c => rdInv bk dk two R c.1 c.2.2.2.2) (fun c => (dk.length - c.1).toNat) (i₀, t1, #[], t2, []) F (fun _ hq => nomatch hq) rfl ?_ hp (fun c u h tk hf hp F' N' => turn _ _ _ _ _ u h tk hf hp F' N') hE
  intro p hp
  simp only [rdPs, List.mem_cons, List.not_mem_nil, or_false] at hp
  rcases hp with rfl | rfl
  · exact h1
  · exact h2
theorem rd_ends {bk dk acc acc' : List Int} {R : Option (List Int)} {two ix a : Int} {ixt t1 ct t2 : Tok} {c c' : Array UInt8} {m₀ m' : Str → Option Value} {news : List (Addr × Obj)} {h' : Heap} {tk : Nat} (F : Fr h₀ L h' m') (N : News h₀ L h' news)
    (h1 : m' (Str.ofString "at") = some (.int a t1)) (h2 : m' (Str.ofString "text") = some (.bytes c' t2)) (hf : KBw.bInts c' = acc')
    (hr : ∀ z, z ≠ Str.ofString "at" → z ≠ Str.ofString "text" → z ≠ Str.ofString "deed" → z ≠ Str.ofString "fields" → z ≠ Str.ofString "k" → z ≠ Str.ofString "start" → z ≠ Str.ofString "size" → m' z = m₀ z) (hp : rdInv bk dk two R a acc') (hm : ix < a) :
    KswEnd h₀ L s (fun _ => []) rdPs rdFacts rdStored m₀ (fun c => rdInv bk dk two R c.1 c.2.2.2.2) (fun c => (dk.length - c.1).toNat) (ix, ixt, c, ct, acc) { s with heap := h', toks := tk } := by
  refine ksw_end (a, t1, c', t2, acc') F N (fun _ h => nomatch h) hf ?_ (fun z _ h2 => ?_) hp ?_
  · intro p hp
    simp only [rdPs, List.mem_cons, List.not_mem_nil, or_false] at hp
    rcases hp with rfl | rfl
    · exact h1
    · exact h2
  · simp only [rdStored, List.contains_cons, List.contains_nil, Bool.or_false, Bool.or_eq_false_iff, beq_eq_false_iff_ne, ne_eq] at h2
    exact hr z h2.1 h2.2.1 h2.2.2.1 h2.2.2.2.1 h2.2.2.2.2.1 h2.2.2.2.2.2.1 h2.2.2.2.2.2.2
  · have := hp.2.1
    show (dk.length - a).toNat < (dk.length - ix).toNat
    omega
end
theorem cut_small {c : Array UInt8} {ks : List Int} {i j : Int} (_ : KBw.bInts c = cut ks i j) : (cut ks i j).length ≤ ks.length := cut_len_le ks i j
theorem led_head {g h : Heap} {a : Addr × Obj} {r : List (Addr × Obj)} (N : Led g h (a :: r)) : Led g h [a] := Led.sub N fun q hq => by rw [List.mem_singleton.mp hq]; exact List.Mem.head _
theorem copy0 {sz : Int} (h : sz = 0) : copySz sz = 65536 := if_pos h
theorem copy1 {sz : Int} (h : sz ≠ 0) : copySz sz = sz := if_neg h
theorem bitF_of {c : Int} {j : Nat} (h : (c.fdiv (2 ^ ((j : Nat) : Int).toNat)).fmod 2 = 1) : c / 2 ^ j % 2 = 1 := by
  have pp : (0 : Int) < 2 ^ j := kbt_pos j
  have e : ((j : Nat) : Int).toNat = j := Int.toNat_natCast j
  rw [e, Int.fdiv_eq_ediv_of_nonneg _ (Int.le_of_lt pp), Int.fmod_eq_emod_of_nonneg _ (by decide)] at h
  exact h
theorem bitF_no {c : Int} {j : Nat} (h : (c.fdiv (2 ^ ((j : Nat) : Int).toNat)).fmod 2 ≠ 1) : ¬ c / 2 ^ j % 2 = 1 := by
  have pp : (0 : Int) < 2 ^ j := kbt_pos j
  have e : ((j : Nat) : Int).toNat = j := Int.toNat_natCast j
  rw [e, Int.fdiv_eq_ediv_of_nonneg _ (Int.le_of_lt pp), Int.fmod_eq_emod_of_nonneg _ (by decide)] at h
  exact h
theorem rd_copy2 {bk dk acc : List Int} {two at_ : Int} {R : Option (List Int)} {ix st sz i j : Int} (ho : Oct dk) (h : rdInv bk dk two R at_ acc) (hl : at_ < dk.length) (hc : ¬ dk.getD at_.toNat 0 < 128) (h0 : 0 ≤ st) (h1 : st < 4294967296) (hsz : 0 ≤ sz) (hix0 : at_ + 1 ≤ ix) (hix : ix ≤ dk.length)
    (hf : fieldsL (dk.getD at_.toNat 0) 0 7 (dk.drop (at_ + 1).toNat) = some (st + 4294967296 * sz, dk.drop ix.toNat)) (hb1 : ¬ st + copySz sz > bk.length) (hb2 : ¬ (acc.length : Int) + copySz sz > two) (hi : i = st) (hj : j = st + copySz sz) :
    rdInv bk dk two R ix (acc ++ cut bk i j) := by
  subst hi hj
  exact rd_copy ho h hl hc h0 h1 hsz hix0 hix hf hb1 hb2
theorem rd_bad2 {bk dk acc : List Int} {two at_ : Int} {R : Option (List Int)} {ix st sz : Int} (ho : Oct dk) (h : rdInv bk dk two R at_ acc) (hf : fieldsL (dk.getD at_.toNat 0) 0 7 (dk.drop (at_ + 1).toNat) = some (st + 4294967296 * sz, dk.drop ix.toNat)) (hl : at_ < dk.length) (hc : ¬ dk.getD at_.toNat 0 < 128) (h0 : 0 ≤ st) (h1 : st < 4294967296) (hix0 : 0 ≤ ix) (hix : ix ≤ dk.length)
    (hb : st + copySz sz > bk.length ∨ (acc.length : Int) + copySz sz > two) (hn : ¬ (ix = dk.length ∧ (acc.length : Int) = two)) : R = none := rd_bad ho h hl hc h0 h1 hix0 hix hf hb hn
set_option maxHeartbeats 8000000 in
theorem read_spec (w : World) {p : Program} {loose : List Str} {mean : ExcName → Option Value} {mg mb : Str → Option Value}
   {base : Heap} (X₀ : (hd.heap_39 w.params).In base) (T₀ : Top p loose mean mg mb base)
   (dp un : Nat) (gd : Option (List Code)) (l : List Env) (hdp : dp + 25 < recursionLimit)
   {b d : Array UInt8} {bk dk : List Int} {tb td : Tok} (hbk : KBw.bInts b = bk) (hdk : KBw.bInts d = dk) (hb : bk.length ≤ 200000) (hd0 : dk.length ≤ 1800) (hbd : (bk.length + 1) * dk.length ≤ 16000000) :
   Spec PySem.Challenge.rw_jq0004_01.row.prog w (aTop dp un gd l) base l (.ref 75) [.bytes b tb, .bytes d td] []
     (fun v n' => ∃ D x c t1 t2, v = .ref D ∧ n' = [(D, tupO [.str (Str.ofString x) t1, .bytes c t2])] ∧ (x = "open" ∨ (x = "refused" ∧ readDelta bk dk = none ∧ KBw.bInts c = []) ∨ (x = "taken" ∧ readDelta bk dk = some (KBw.bInts c))))
     (.ref 32) (fun _ => False) := by
  have hfill : (fun _ : OpenLaw => hd.heap_39) PySem.Challenge.rw_jq0004_01 = hd.heap_39 := by (k_fill; rfl)
  clear hfill
  have hoct := oct_of hdk
  intro g s Q E B hg hsz N hret hexc
  have X := X₀.keeps B.stays
  have T := T₀.keeps B.stays
  refine wpAny_call ?_
  k_dflt (refine' enter_def hg hsz N X T ?k6 ?k7 ?k8 ?k9 ?kB ?_ ?c2 ?c3 ?c4 ?c5; (case k6 => k_is); (case k7 => k_is); (case k8 => ktr_room); (case k9 => exact BindsTo.of_eq rfl); (case c5 => decide); (case kB => exact locs rfl); (case c2 => exact rfl); (case c3 => exact rfl); (case c4 => exact rfl); k_whole; intro L' h' F' N' l1; (try k_lt l1); (try dsimp only); (try k_fold))
  k_with_none
  k_with "execs cons" => k_fold
  k_with "eval Call" => k_fold
  k_with "storeName" => (k_here; k_dflt (first | (refine' storeI_L ?F ?N ?_ ?a ?b; (case F => k_asm); (case N => k_asm); (case a => rfl); (case b => rfl); k_whole; intro h' tk' t' F' N'; (try k_sweep); (try dsimp only); (try k_fold)) | (refine' storeB_L ?F ?N ?_ ?a ?b; (case F => k_asm); (case N => k_asm); (case a => rfl); (case b => rfl); k_whole; intro h' tk' t' F' N'; (try k_sweep); (try dsimp only); (try k_fold)) | (refine' storeG_L ?F ?N ?_ ?a ?b; (case F => k_asm); (case N => k_asm); (case a => rfl); (case b => rfl); k_whole; intro h' tk' F' N'; (try k_sweep); (try dsimp only); (try k_fold))))
  k_with "exec While Constant cons nil" => (k_extra "while")
  k_with "exec While Compare cons nil" => (k_extra "while")
  k_with "KswEnd" => (k_extra "turn")
  k_with "call builtin:len" => (k_here; (with_reducible show wpAny _ _ (call (Value.builtin "len") [Value.bytes _ _]) _ _ _); (refine len_b (by assumption) (by omega) ?_); intro _ _)
  k_with "call ref" => (k_extra "call")
  k_with "exec For Name Call cons nil" => (k_extra "for")
  k_with "pyIter ref" => (k_extra "iter")
  k_with "call builtin:list.append" => (k_here; k_dflt (refine' append_K ?k1 ?k2 ?k3 ?_ ?z; (case k1 => k_asm); (case k2 => k_asm); (case k3 => k_upd); (case z => k_extra "append"); k_whole); intro h' F' N'; (try k_sweep))
  k_with "subscriptTail Name Slice bytes ref" => (k_here; (with_reducible show wpAny _ _ (subscriptTail _ (PySem.Expr.Slice (some _) (some _) none _) (Value.bytes _ _) (Value.ref _)) _ _ _); (with_reducible rename Fr _ _ _ _ => F'); (with_reducible rename News _ _ _ _ => N'); (refine slice_ij (s := ⟨_, _, _, _, _⟩) F' N' (by assumption) (by omega) (by omega) (by omega) ?_); intro _ _ _ _ _ _ hcut)
  k_with "binaryOp Add bytes bytes" => (k_here; (with_reducible show wpAny _ _ (binaryOp Operator.Add (Value.bytes _ _) (Value.bytes _ _)) _ _ _); (refine KBa.add_K (by assumption) (by assumption) (by k_extra "addlen") ?_); intro _ _ kbaApp)
  k_with "binaryOp Mult int int" => (k_here; (with_reducible show wpAny _ _ (binaryOp _ (Value.int _ _) (Value.int _ _)) _ _ _); (refine PyProof.Rows.mul_int ?_ (IntMulOk.of_left (intBits_le_64 (by omega) (by omega)))))
  k_with "k_sz" => (first | omega)
  k_with "exec If" => (k_extra "cut")
  k_with "CutPost" => (k_extra "cutend")
  k_with "k_ref" => (first
      | exact delta_none1 (by assumption)
      | exact delta_none2 (by assumption) (by assumption) (by assumption)
      | exact delta_none3 (by assumption) (by assumption) (by assumption) (by assumption)
      | exact rd_zero (by assumption) (by assumption) (by assumption)
      | exact rd_long (by assumption) (by assumption) (by assumption) (by omega)
      | exact rd_none (by assumption) (by assumption) (by assumption) (sev_fail (by assumption) (by assumption) (bitF_of (by assumption)) (by omega))
      | exact (rd_end (by assumption) (by assumption)).trans (if_neg (by assumption))
      | exact rd_bad2 (by assumption) (by assumption) (by assumption) (by assumption) (by assumption) (by omega) (by omega) (by omega) (by omega) (by walk_at "k_sz") (by omega))
  k_with "call" => ((with_reducible show wpAny _ _ (call _ [_, _]) _ _ _); (rename Fr _ _ _ _ => kF); (rename News _ _ _ _ => kN); k_dflt (refine' Spec.use (A₀ := aTop dp un gd l) (size_spec w X₀ T₀ (dp + 1) (un + 3) gd _ ?hdp hdk hd0 _ _ ?h0 ?h1) B kF kN [] (fun _ h => nomatch h) (fun _ h => nomatch h) (fun _ h => nomatch h) rfl rfl ?_ ?_; (case hdp => omega); (case h0 => omega); (case h1 => omega)); (rotate_left); ((intro e9 h9 tk9 n9 g9 hx9; exact hx9.elim)); ((intro v9 h9 tk9 n9 hr9 F9 N9 ap9; obtain ⟨D9, x9, ix9, t92, rfl, rfl, hi91, hi92, hx9⟩ := hr9; clear ap9; dsimp only [List.cons_append, List.nil_append] at N9; (rcases hx9 with ⟨rfl, hz9⟩ | ⟨sz9, t91, kk9, rfl, hv91, hz9, hix9⟩) <;> (try k_fold))))
  k_with "while" => ((rename Fr _ _ _ _ => kF); (rename News _ _ _ _ => kN); k_dflt (refine' rd_loop bk dk (readDelta bk dk) _ kF kN ?h1 ?h2 ?hp ?_ ?hE; (case h1 => exact rfl); (case h2 => exact rfl); (case hp => exact rd_start (by assumption) (by assumption) (by assumption) (by assumption) (by assumption) (by assumption) (by omega)); (case hE => first | passes_own | with_unfolding_all passes_own)); (clear kF kN); (intro ix ixt c ct acc kU kH kTk hacc kInv kFr kNews); (have hbd1 := rd_bound kInv hbd); (have kInv' := kInv); (obtain ⟨hj1, hj2, hj3, hj4, hj5⟩ := kInv'); (try dsimp only); (try k_fold))
  k_with "for" => kpr_for
  k_with "iter" => ((rename Fr _ _ _ _ => kF); (rename News _ _ _ _ => kN); (rename IsRange _ _ _ _ _ _ _ _ => rgX); (k_dflt (refine' for_seven dk (dk.getD ix.toNat 0) rfl rgX kF kN ?hfo ?hv ?ho ?hi ?_ ?_; (case hfo => exact List.Mem.head _); (case hv => exact .cons _ _ (.cons _ _ (.cons _ _ (.cons _ _ (.cons _ _ (.cons _ _ (.cons _ _ .nil))))))); (case ho => exact rfl); (case hi => omega))); (clear kF kN rgX); (rotate_left); (intro f0 f1 f2 f3 f4 f5 f6 t0 t1 t2 t3 t4 t5 t6 nx iy iyt kU kH kTk kSev kFr kNews; obtain ⟨⟨⟨b00, b01⟩, ⟨b10, b11⟩, ⟨b20, b21⟩, ⟨b30, b31⟩, ⟨b40, b41⟩, ⟨b50, b51⟩, ⟨b60, b61⟩⟩, hiy0, hiy1, hfl⟩ := sev_done kSev; (have E0 : [f0, f1, f2, f3, f4, f5, f6].getD (Int.toNat 0) 0 = f0 := rfl); (have E1 : [f0, f1, f2, f3, f4, f5, f6].getD (Int.toNat 1) 0 = f1 := rfl); (have E2 : [f0, f1, f2, f3, f4, f5, f6].getD (Int.toNat 2) 0 = f2 := rfl); (have E3 : [f0, f1, f2, f3, f4, f5, f6].getD (Int.toNat 3) 0 = f3 := rfl); (have E4 : [f0, f1, f2, f3, f4, f5, f6].getD (Int.toNat 4) 0 = f4 := rfl); (have E5 : [f0, f1, f2, f3, f4, f5, f6].getD (Int.toNat 5) 0 = f5 := rfl); (have E6 : [f0, f1, f2, f3, f4, f5, f6].getD (Int.toNat 6) 0 = f6 := rfl); (try k_fold)); (rotate_left); (intro j vs fs nx iy iyt tj kU kH kTk own hjn hoff hvs kSev kFr kNews; (have kSev' := kSev); unfold sevInv fldInv at kSev'; obtain ⟨hq1, hq2, hq3, hq4, hq5, hq6, hq7, hq8⟩ := kSev'; (try k_fold)))
  k_with "cut" => (k_here; (fail_if_success (have h9 := hcs0)); (with_reducible show wpAny _ _ (exec (Stmt.If (PySem.Expr.Compare (PySem.Expr.Name "size" _) _ _ _) _ _ _) _) _ _ _); (rename Fr _ _ _ _ => kF); (rename News _ _ _ _ => kN); (have hcs := copySz_bd (sz := f4 + 256 * f5 + 65536 * f6) (by omega) (by omega)); obtain ⟨hcs0, hcs1⟩ := hcs; k_dflt (refine' cut_if (s := ⟨_, _, _, _, _⟩) (Str.ofString "size") (copySz (f4 + 256 * f5 + 65536 * f6)) kF kN ?_ ?_); (rotate_left); (clear kF kN; intro kU kH kTk ts kFr kNews; (try k_fold)); (rotate_left); (try k_fold))
  k_with "cutend" => ((rename Fr _ _ _ _ => kF); (rename News _ _ _ _ => kN); k_dflt (exact cut_end kF kN rfl (by first | exact (copy0 (by omega)).symm | exact (by rw [copy1 (by omega)]; omega)) (by intro z a1; simp [kstB, a1])))
  k_with "addlen" => ((with_reducible rename KBw.bInts _ = cut _ _ _ => hc8); (have hl8 := cut_small hc8); omega)
  k_with "turn" => first
    | exact rd_ends (by assumption) (by assumption) rfl rfl (by assumption) (by intro z a1 a2 a3 a4 a5 a6 a7; simp [kstB, a1, a2, a3, a4, a5, a6, a7]) (rd_insert kInv (by assumption) (by assumption) (by assumption) (by assumption) (by assumption) (by assumption)) (by omega)
    | exact rd_ends (by assumption) (by assumption) rfl rfl (by assumption) (by intro z a1 a2 a3 a4 a5 a6 a7; simp [kstB, a1, a2, a3, a4, a5, a6, a7]) (rd_copy2 hoct kInv (by assumption) (by assumption) (by omega) (by omega) (by omega) (by omega) (by omega) hfl (by walk_at "k_sz") (by walk_at "k_sz") (by omega) (by walk_at "k_sz")) (by omega)
  k_steps
  all_goals (try (show SevPost _ _ _ _ _ _ _ _ _ _ _ Flow.next _; exact sev_ends (by assumption) (by assumption) (List.Mem.head _) (fun q hq => List.Mem.tail _ hq) (by assumption) rfl (by intro z a1 a2; simp [kstB, a1, a2]) (by first | exact sev_skip kSev hjn (bitF_no (by assumption)) | exact sev_take kSev (by omega) hjn (bitF_of (by assumption)) (by omega) (by assumption) (by assumption))))
  all_goals (try exact hret _ _ _ _ ⟨_, "refused", _, _, _, rfl, rfl, .inr (.inl ⟨rfl, by walk_at "k_ref", rfl⟩)⟩ (Fr.keep (by assumption)) (led_head (Led.of_news (by assumption))))
  all_goals (try exact hret _ _ _ _ ⟨_, "taken", _, _, _, rfl, rfl, .inr (.inr ⟨rfl, by rw [hacc]; exact (rd_end kInv (by assumption)).trans (if_pos (by assumption))⟩)⟩ (Fr.keep (by assumption)) (led_head (Led.of_news (by assumption))))
  all_goals (try exact hret _ _ _ _ ⟨_, "open", _, _, _, rfl, rfl, .inl rfl⟩ (Fr.keep (by assumption)) (led_head (Led.of_news (by assumption))))
end Mine
open PySem PySem.W PyProof.Rows PySem.Calls PySem.Spec
namespace Mine
set_option maxRecDepth 100000
section
open PySem.SeqAt PySem.MeetsSeq PySem.SeqRoads2 Builtin
theorem eqGives_bytes (x : Array UInt8) (t u : Tok) : EqGives (.bytes x t) (.bytes x u) true := by
  intro prog w A E s Q h
  unfold eqBool
  refine wpAny_holding ?_
  refine wpAny_ite_split (fun hab => ?_) (fun hab => ?_)
  · exact wpAny_bind (wpAny_rule (wpAny_pure h))
  · exact wpAny_bind (richCompare_gives (typeIs_bytes s x t) (typeIs_bytes s x u) FB.slot_bytes_eq FB.entry_bytes_eq (FB.args_bytes_eq_2 _ _) (gives_bytes_eq x x t u) (by simp [Made.takes]) (wpAny_truthy_bool (by simpa using h)))
theorem eqGives_str (x : Str) (t u : Tok) : EqGives (.str x t) (.str x u) true := by
  have h := EqGives.str x x t u
  simpa using h
variable {prog : Program} {w : World} {A : Around} {E : Value → Shared → Prop} {s : Shared} {a b : Addr} {x : Str} {c : Array UInt8} {t1 t2 t3 t4 : Tok} {Q : Value → Shared → Prop}
theorem pair_items (j : Nat) (h1 : j < #[Value.str x t1, Value.bytes c t2].size) (h2 : j < #[Value.str x t3, Value.bytes c t4].size) : EqAt A s #[Value.str x t1, Value.bytes c t2][j] #[Value.str x t3, Value.bytes c t4][j] true := by
  match j, h1, h2 with
  | 0, _, _ => exact (eqGives_str x t1 t3).at A s
  | 1, _, _ => exact (eqGives_bytes c t2 t4).at A s
theorem eq_pair (ha : s.heap.get? a = some (tupO [.str x t1, .bytes c t2])) (hb : s.heap.get? b = some (tupO [.str x t3, .bytes c t4])) (hu : A.units < cLine) (h : Q (.bool true) s) : wpAny (model prog w) A (compareOp .Eq (.ref a) (.ref b)) Q E s :=
  RcAt.tuples (e := fun _ => true) ⟨_, ha, rfl, _, rfl⟩ ⟨_, hb, rfl, _, rfl⟩ hu (fun j h1 h2 => pair_items j h1 h2) prog w E Q h
theorem ne_pair (ha : s.heap.get? a = some (tupO [.str x t1, .bytes c t2])) (hb : s.heap.get? b = some (tupO [.str x t3, .bytes c t4])) (hu : A.units < cLine) (h : Q (.bool false) s) : wpAny (model prog w) A (compareOp .NotEq (.ref a) (.ref b)) Q E s :=
  RcNeAt.tuples (e := fun _ => true) ⟨_, ha, rfl, _, rfl⟩ ⟨_, hb, rfl, _, rfl⟩ hu (fun j h1 h2 => pair_items j h1 h2) prog w E Q h
theorem eq_pairN {g : Heap} {L : Addr} {news : List (Addr × Obj)} (N : News g L s.heap news) (ha : (a, tupO [.str x t1, .bytes c t2]) ∈ news) (hb : (b, tupO [.str x t3, .bytes c t4]) ∈ news) (hu : A.units < cLine) (h : Q (.bool true) s) : wpAny (model prog w) A (compareOp .Eq (.ref a) (.ref b)) Q E s := eq_pair (N _ ha).1 (N _ hb).1 hu h
theorem ne_pairN {g : Heap} {L : Addr} {news : List (Addr × Obj)} (N : News g L s.heap news) (ha : (a, tupO [.str x t1, .bytes c t2]) ∈ news) (hb : (b, tupO [.str x t3, .bytes c t4]) ∈ news) (hu : A.units < cLine) (h : Q (.bool false) s) : wpAny (model prog w) A (compareOp .NotEq (.ref a) (.ref b)) Q E s := ne_pair (N _ ha).1 (N _ hb).1 hu h
end
end Mine
open PySem PySem.W PyProof.Rows PySem.Calls PySem.Spec
namespace Mine
set_option maxRecDepth 100000
theorem flat_map_rep {α β : Type} (f : α → β) (l : List α) : ∀ n : Nat, (List.replicate n l).flatten.map f = (List.replicate n (l.map f)).flatten
  | 0 => rfl
  | n + 1 => by rw [List.replicate_succ, List.replicate_succ, List.flatten_cons, List.flatten_cons, List.map_append, flat_map_rep f l n]
section
variable {prog : Program} {w : World} {A : Around} {s : Shared} {E : Value → Shared → Prop}
theorem mul_b {c : Array UInt8} {ks : List Int} {n : Int} {t u : Tok} {Q : Value → Shared → Prop} (hk : KBw.bInts c = ks) (h0 : 0 < ks.length) (h16 : ks.length ≤ 16) (hlo : -1048576 ≤ n) (hn : n ≤ 1048576)
    (h : ∀ d t' k, KBw.bInts d = (List.replicate n.toNat ks).flatten → Q (.bytes d t') { s with toks := k }) : wpAny (model prog w) A (binaryOp .Mult (.bytes c t) (.int n u)) Q E s := by
  have hc := size_of hk
  have e : c = c.toList.toArray := by simp
  have hl : c.toList.length = ks.length := by rw [Array.length_toList, hc]
  rw [e]
  refine bytes_mul_any (b := c.toList) (fun z => by rw [z] at hl; simp only [List.length_nil] at hl; omega) hlo hn (by omega) fun t' k => h _ t' k ?_
  rw [← hk]
  exact flat_map_rep _ _ _
end
theorem rep_len {α : Type} (l : List α) (n : Nat) : (List.replicate n l).flatten.length = n * l.length := by simp
end Mine
open PySem PySem.W PyProof.Rows PySem.Calls PySem.Spec
namespace Mine
set_option maxRecDepth 100000
theorem halves (ks : List Int) (k : Nat) : [ks.take k, (ks.drop k).take (ks.length - k)].flatten = ks := by
  simp only [List.flatten_cons, List.flatten_nil, List.append_nil]
  rw [List.take_of_length_le (l := ks.drop k) (by rw [List.length_drop]; omega)]
  exact List.take_append_drop k ks
theorem ints_inj : ∀ {a b : List UInt8}, (a.map fun c => ((c.toNat : Nat) : Int)) = (b.map fun c => ((c.toNat : Nat) : Int)) → a = b
  | [], [], _ => rfl
  | [], _ :: _, h => by cases h
  | _ :: _, [], h => by cases h
  | x :: r, y :: q, h => by
    rw [List.map_cons, List.map_cons] at h
    obtain ⟨h1, h2⟩ := List.cons.inj h
    have e : x.toNat = y.toNat := by exact_mod_cast h1
    rw [UInt8.toNat_inj.mp e, ints_inj h2]
theorem bInts_inj {a b : Array UInt8} (h : KBw.bInts a = KBw.bInts b) : a = b := Array.toList_inj.mp (ints_inj h)
theorem same_none {a b : Array UInt8} (h1 : KBw.bInts a = []) (h2 : KBw.bInts b = []) : a = b := bInts_inj (h1.trans h2.symm)
theorem same_some {a b : Array UInt8} {R : Option (List Int)} (h1 : R = some (KBw.bInts a)) (h2 : R = some (KBw.bInts b)) : a = b := bInts_inj (Option.some.inj (h1.symm.trans h2))
theorem told_same {R : Option (List Int)} {x2 x3 : String} {c2 c3 : Array UInt8} (h2 : (x2 = "refused" ∧ R = none ∧ KBw.bInts c2 = []) ∨ (x2 = "taken" ∧ R = some (KBw.bInts c2))) (h3 : (x3 = "refused" ∧ R = none ∧ KBw.bInts c3 = []) ∨ (x3 = "taken" ∧ R = some (KBw.bInts c3))) : x3 = x2 ∧ c3 = c2 := by
  rcases h2 with ⟨a1, a2, a3⟩ | ⟨a1, a2⟩ <;> rcases h3 with ⟨b1, b2, b3⟩ | ⟨b1, b2⟩
  · exact ⟨b1.trans a1.symm, same_none b3 a3⟩
  · rw [a2] at b2; cases b2
  · rw [a2] at b2; cases b2
  · exact ⟨b1.trans a1.symm, same_some b2 a2⟩
theorem due_told {R : Option (List Int)} {x1 x2 : String} {c1 c2 : Array UInt8} (h1 : x1 = "open" ∨ (x1 = "refused" ∧ R = none ∧ KBw.bInts c1 = []) ∨ (x1 = "taken" ∧ R = some (KBw.bInts c1))) (h2 : (x2 = "refused" ∧ R = none ∧ KBw.bInts c2 = []) ∨ (x2 = "taken" ∧ R = some (KBw.bInts c2))) :
    x1 = "open" ∨ (x1 = "refused" ∧ x2 = "refused" ∧ c1 = c2) ∨ (x1 = "taken" ∧ x2 = "taken" ∧ c1 = c2) := by
  rcases h1 with h1 | h1
  · exact .inl h1
  · obtain ⟨e1, e2⟩ := told_same h2 h1
    rcases h1 with ⟨a1, _⟩ | ⟨a1, _⟩
    · exact .inr (.inl ⟨a1, e1 ▸ a1, e2⟩)
    · exact .inr (.inr ⟨a1, e1 ▸ a1, e2⟩)
theorem ne_news {g h : Heap} {L a b : Addr} {o1 o2 : Obj} {news : List (Addr × Obj)} (N : News g L h news) (h1 : (a, o1) ∈ news) (h2 : (b, o2) ∈ news) (hne : o1 ≠ o2) : @Ne Nat a b := fun e => by
  have e1 := (N _ h1).1
  have e2 := (N _ h2).1
  simp only at e1 e2
  rw [show a = b from e] at e1
  rw [e1] at e2
  exact hne (Option.some.inj e2)
theorem news_two {g h : Heap} {L : Addr} {a b : Addr × Obj} {r : List (Addr × Obj)} (N : News g L h (a :: b :: r)) : News g L h [b] := fun q hq => by
  rw [List.mem_singleton.mp hq]; exact N _ (List.Mem.tail _ (List.Mem.head _))
theorem tup_ne_tab {l : List Value} {ps : Array Value} : tupO l ≠ tabObj ps := fun e => by
  have e2 := congrArg Obj.data e
  cases e2
theorem tup_ne_code {l : List Value} {q : Str} {oc : Obj} (h : CodeOk q oc) : tupO l ≠ oc := fun e => by
  obtain ⟨vs, t, h1, _⟩ := h
  rw [← e] at h1
  cases h1
set_option maxHeartbeats 8000000 in
theorem law_end (w : World) {p : Program} {loose : List Str} {mean : ExcName → Option Value} {mg mb : Str → Option Value}
   {oc od0 : _} {osl : _} {nm ql : Str} {ps : Arguments} {bd : List Stmt} {sc : Scope} {dV kV dc pm0 cdv ct fc : Value} {an : Option Addr} {fa : Addr}
   (hK : List.lookup 87 (hd.heap_39 w.params) = some ⟨oc, od0, .func (fnOf nm ql ps bd sc dV kV dc pm0 an cdv ct), osl⟩)
   {g0 : Heap} (X : (hd.heap_39 w.params).In g0) (T : Top p loose mean mg mb g0) (codeHd : CodeHd g0 46 42) (B : Below callerA g0 [] g0)
   {s : Shared} {L : Addr} {m : Str → Option Value} {b d : Array UInt8} {bk dk : List Int} {tb td : Tok}
   (F : Fr g0 L s.heap (kstB m [(Str.ofString "base", .bytes b tb), (Str.ofString "delta", .bytes d td)])) (N : News g0 L s.heap [(42, tabObj #[])])
   (hbk : KBw.bInts b = bk) (hdk : KBw.bInts d = dk) (hbl : bk.length ≤ 65608) (hdl : dk.length ≤ 125)
   {Pn : Flow → Shared → Prop} {E : Value → Shared → Prop}
   (hP : ∀ h' tk m' qs, Fr g0 L h' m' → News g0 L h' [(42, tabObj qs)] → Pn (.ret (.bool true)) { s with heap := h', toks := tk }) :
   wpAny (TheM w) (callerA.deeper (envOf ql sc L fa fc)) (execs (bd.drop 11) (envOf ql sc L fa fc)) Pn
     (fun e s' => wpAny (TheM w) (callerA.deeper (envOf ql sc L fa fc)) (leaving (envOf ql sc L fa fc) e) (fun _ s'' => E e s'') (fun e' s'' => E e' s'') s') s := by
  have hfill : (fun _ : OpenLaw => hd.heap_39) PySem.Challenge.rw_jq0004_01 = hd.heap_39 := by (k_fill; rfl)
  clear hfill
  have hK' := (by k_dflt k_is : List.lookup 87 (hd.heap_39 w.params) = some ⟨_, _, .func (fnOf _ _ _ _ _ _ _ _ _ _ _ _), _⟩)
  rw [hK'] at hK
  cases hK
  clear hK'
  dsimp only [List.drop]
  have hbd : (bk.length + 1) * dk.length ≤ 16000000 := Nat.le_trans (Nat.mul_le_mul (show bk.length + 1 ≤ 65609 by omega) hdl) (by decide)
  have hbig : ∀ t, readDelta bk dk = some t → t.length ≤ 16777216 := fun t h => Nat.le_trans (readDelta_len h) (by omega)
  k_with_none
  k_with "execs cons" => k_fold
  k_with "eval Call" => k_fold
  k_with "storeName" => (k_here; k_dflt (first | (refine' storeI_L ?F ?N ?_ ?a ?b; (case F => k_asm); (case N => k_asm); (case a => rfl); (case b => rfl); k_whole; intro h' tk' t' F' N'; (try k_sweep); (try dsimp only); (try k_fold)) | (refine' storeB_L ?F ?N ?_ ?a ?b; (case F => k_asm); (case N => k_asm); (case a => rfl); (case b => rfl); k_whole; intro h' tk' t' F' N'; (try k_sweep); (try dsimp only); (try k_fold)) | (refine' storeG_L ?F ?N ?_ ?a ?b; (case F => k_asm); (case N => k_asm); (case a => rfl); (case b => rfl); k_whole; intro h' tk' F' N'; (try k_sweep); (try dsimp only); (try k_fold))))
  k_with "call ref" => (k_extra "call")
  k_with "k_memx" => (first | k_mem | with_reducible (repeat' (first | exact List.Mem.head _ | refine List.Mem.tail _ ?_)))
  k_with "k_memy" => (with_reducible (repeat' (first | exact List.Mem.head _ | refine List.Mem.tail _ ?_)))
  k_with "compareOp NotEq ref ref" => (k_extra "cmp")
  k_with "compareOp Eq ref ref" => (k_extra "cmp")
  k_with "call" => ((with_reducible show wpAny _ _ (call (Value.ref 75) [_, _]) _ _ _); (rename Fr _ _ _ _ => kF); (rename News _ _ _ _ => kN); k_dflt (refine' Spec.use (A₀ := callerA) (read_spec w X T (1 + claimMargin + 1) (4 + 3) (some []) [_] ?hdp hbk hdk ?hb ?hd ?hbd) B kF kN [(42, tabObj #[])] (fun _ h => nomatch h) (fun _ h => h) (fun _ _ _ h => nomatch h) rfl rfl ?_ ?_; (case hdp => decide); (case hb => omega); (case hd => omega); (case hbd => assumption)); (rotate_left); ((intro e9 h9 tk9 n9 g9 hx9; exact hx9.elim)); ((intro v9 h9 tk9 n9 hr9 F9 N9 ap9; obtain ⟨D1, x1, c1, t91, t92, rfl, rfl, hx9⟩ := hr9; (have hD1 : @Ne Nat D1 42 := ap9 _ (List.Mem.head _) _ (List.Mem.head _)); clear ap9; dsimp only [List.cons_append, List.nil_append] at N9; (have hdue := hx9); clear hx9; (try k_fold))))
  k_with "call" => ((with_reducible show wpAny _ _ (call (Value.ref 82) [Value.bytes _ _, Value.bytes _ _]) _ _ _); (rename Fr _ _ _ _ => kF); (rename News _ _ _ _ => kN); k_dflt (refine' SpecS.use0 (A₀ := callerA) (told_first w X T codeHd (1 + claimMargin + 1) (4 + 3) (some []) [_] ?hdp ?hu hbk hdk ?hb ?hd hbig) B kF kN [(D1, _)] ?hn ?hr ?hd9 rfl rfl ?_; (case hdp => decide); (case hu => decide); (case hb => omega); (case hd => omega); (case hn => (intro q hq; rw [List.mem_singleton.mp hq]; exact List.Mem.tail _ (List.Mem.head _))); (case hr => (intro q hq; rw [List.mem_singleton.mp hq]; exact List.Mem.head _)); (case hd9 => (intro q hq r hr; rw [List.mem_singleton.mp hq, List.mem_singleton.mp hr]; exact hD1))); (intro v9 h9 tk9 n9 hr9 F9 N9 ap9; (unfold ToldOf at hr9); (obtain ⟨D2, x2, c2, t21, t22, n1, e1, e2, ht, hx2⟩ := hr9); subst e1; subst e2; (unfold Tab at ht); (obtain ⟨ca, oca, cb, ocb, en1, hoca, hocb, hcab, hca, hcb⟩ := ht); subst en1; dsimp only [List.cons_append, List.nil_append] at N9; (have p1 : @Ne Nat D2 D1 := ap9 _ (List.Mem.head _) _ (List.Mem.head _)); (have p2 : @Ne Nat ca D1 := ap9 _ (List.Mem.tail _ (List.Mem.tail _ (List.Mem.head _))) _ (List.Mem.head _)); (have p3 : @Ne Nat cb D1 := ap9 _ (List.Mem.tail _ (List.Mem.tail _ (List.Mem.tail _ (List.Mem.head _)))) _ (List.Mem.head _)); (have p4 : @Ne Nat D2 42 := ne_news N9 (List.Mem.head _) (List.Mem.tail _ (List.Mem.head _)) tup_ne_tab); (have p5 : @Ne Nat D2 ca := ne_news N9 (List.Mem.head _) (List.Mem.tail _ (List.Mem.tail _ (List.Mem.head _))) (tup_ne_code hoca)); (have p6 : @Ne Nat D2 cb := ne_news N9 (List.Mem.head _) (List.Mem.tail _ (List.Mem.tail _ (List.Mem.tail _ (List.Mem.head _)))) (tup_ne_code hocb)); clear ap9; (try k_fold)))
  k_with "call" => ((with_reducible show wpAny _ _ (call (Value.ref 82) [Value.ref _, Value.ref _]) _ _ _); (rename Fr _ _ _ _ => kF); (rename News _ _ _ _ => kN); (k_dflt (refine' SpecS.use0 (A₀ := callerA) (told_lists w X T codeHd (1 + claimMargin + 1) (4 + 3) (some []) [_] ?hdp ?hu (vs := [_, _]) (vd := [_, _]) (nb := 0) (nd := 0) (cb := [_, _]) (cd := [_, _]) (n := [(42, tabFull ca cb), (ca, oca), (cb, ocb)]) ?ht ?hvb ?hvd ?hbk ?hdk ?hb ?hd hbig) B kF kN [(D2, _), (D1, _)] ?hn ?hr ?hd9 rfl rfl ?_; (case hdp => decide); (case hu => decide); (case hb => omega); (case hd => omega); (case ht => exact ⟨ca, oca, cb, ocb, rfl, hoca, hocb, hcab, hca, hcb⟩); (case hn => (repeat' (first | exact List.forall_mem_nil _ | refine List.forall_mem_cons.mpr ⟨by walk_at "k_memx", ?_⟩))); (case hr => (repeat' (first | exact List.forall_mem_nil _ | refine List.forall_mem_cons.mpr ⟨by walk_at "k_memx", ?_⟩))); (case hvb => exact .cons (by assumption) (.cons (by assumption) .nil)); (case hvd => exact .cons (by assumption) (.cons (by assumption) .nil)); (case hbk => exact halves _ _); (case hdk => exact halves _ _); (case hd9 => ((repeat' (first | exact List.forall_mem_nil _ | refine List.forall_mem_cons.mpr ⟨?_, ?_⟩)) <;> (show @Ne Nat _ _; omega))))); (intro v9 h9 tk9 n9 hr9 F9 N9 ap9; (unfold ToldOf at hr9); (obtain ⟨D3, x3, c3, t31, t32, n1, e1, e2, ht, hx3⟩ := hr9); subst e1; subst e2; (unfold Tab at ht); (obtain ⟨ca2, oca2, cb2, ocb2, en1, hoca2, hocb2, hcab2, hca2, hcb2⟩ := ht); subst en1; dsimp only [List.cons_append, List.nil_append] at N9; (have p7 : @Ne Nat D3 D2 := ap9 _ (List.Mem.head _) _ (List.Mem.head _)); (have p8 : @Ne Nat D3 D1 := ap9 _ (List.Mem.head _) _ (List.Mem.tail _ (List.Mem.head _))); clear ap9; (obtain ⟨rfl, rfl⟩ := told_same hx2 hx3); (have hall := due_told hdue hx2); clear hdue hx2 hx3; (try k_fold)))
  k_with "cmp" => ((with_reducible show wpAny _ _ (compareOp CmpOp.NotEq (Value.ref _) (Value.ref _)) _ _ _); k_here; (rename News _ _ _ _ => kN); k_dflt (refine' ne_pairN (s := ⟨_, _, _, _, _⟩) kN (List.Mem.head _) (List.Mem.tail _ (List.Mem.tail _ (List.Mem.tail _ (List.Mem.tail _ (List.Mem.head _))))) (by decide : (7 : Nat) < cLine) ?_))
  k_with "cmp" => ((with_reducible show wpAny _ _ (compareOp CmpOp.Eq (Value.ref _) (Value.ref _)) _ _ _); k_here; (rename News _ _ _ _ => kN); k_dflt (refine' eq_pairN (s := ⟨_, _, _, _, _⟩) kN (List.Mem.tail _ (List.Mem.tail _ (List.Mem.tail _ (List.Mem.tail _ (List.Mem.head _))))) (List.Mem.tail _ (List.Mem.tail _ (List.Mem.tail _ (List.Mem.tail _ (List.Mem.tail _ (List.Mem.head _)))))) (by decide : (7 : Nat) < cLine) ?_))
  k_with "compareOp Eq str str" => ((with_reducible show wpAny _ _ (compareOp CmpOp.Eq (Value.str _ _) (Value.str _ _)) _ _ _); (rcases hall with rfl | ⟨rfl, rfl, rfl⟩ | ⟨rfl, rfl, rfl⟩) <;> (try k_fold))
  k_steps
  all_goals (try simp only [beq_self_eq_true])
  all_goals exact hP _ _ _ _ (by assumption) (news_two (by assumption))
theorem law_end2 (w : World) {p : Program} {loose : List Str} {mean : ExcName → Option Value} {mg mb : Str → Option Value}
   {oc od0 : _} {osl : _} {nm ql : Str} {ps : Arguments} {bd : List Stmt} {sc : Scope} {dV kV dc pm0 cdv ct fc : Value} {an : Option Addr} {fa : Addr}
   (hK : List.lookup 87 (hd.heap_39 w.params) = some ⟨oc, od0, .func (fnOf nm ql ps bd sc dV kV dc pm0 an cdv ct), osl⟩)
   {g0 : Heap} (X : (hd.heap_39 w.params).In g0) (T : Top p loose mean mg mb g0) (codeHd : CodeHd g0 46 42) (B : Below callerA g0 [] g0)
   {s : Shared} {L : Addr} {m : Str → Option Value} {b d : Array UInt8} {bk dk : List Int} {tb td : Tok}
   (F : Fr g0 L s.heap (kstB m [(Str.ofString "base", .bytes b tb), (Str.ofString "delta", .bytes d td)])) (N : News g0 L s.heap [(42, tabObj #[])])
   (hbk : KBw.bInts b = bk) (hdk : KBw.bInts d = dk) (hbl : bk.length ≤ 65608) (hdl : dk.length ≤ 125)
   {E : Value → Shared → Prop} {stmts : List Stmt} {Pn : Flow → Shared → Prop} {En : Value → Shared → Prop} {Am : Around} {env : Env} (hst : bd.drop 11 = stmts) (henv : envOf ql sc L fa fc = env) (hA : callerA.deeper (envOf ql sc L fa fc) = Am)
   (hE : ∀ e s', wpAny (TheM w) (callerA.deeper (envOf ql sc L fa fc)) (leaving (envOf ql sc L fa fc) e) (fun _ s'' => E e s'') (fun e' s'' => E e' s'') s' → En e s')
   (hP : ∀ h' tk m' qs, Fr g0 L h' m' → News g0 L h' [(42, tabObj qs)] → Pn (.ret (.bool true)) { s with heap := h', toks := tk }) :
   wpAny (TheM w) Am (execs stmts env) Pn En s := by
  subst hst henv hA
  exact wpAny_mono (law_end w hK X T codeHd B F N hbk hdk hbl hdl hP) (fun _ _ z => z) hE

set_option maxHeartbeats 8000000 in
theorem law_tail (w : World) {p : Program} {loose : List Str} {mean : ExcName → Option Value} {mg mb : Str → Option Value}
   {oc od0 : _} {osl : _} {nm ql : Str} {ps : Arguments} {bd : List Stmt} {sc : Scope} {dV kV dc pm0 cdv ct fc : Value} {an : Option Addr} {fa : Addr}
   (hK : List.lookup 87 (hd.heap_39 w.params) = some ⟨oc, od0, .func (fnOf nm ql ps bd sc dV kV dc pm0 an cdv ct), osl⟩)
   {g0 : Heap} (X : (hd.heap_39 w.params).In g0) (T : Top p loose mean mg mb g0) (codeHd : CodeHd g0 46 42) (B : Below callerA g0 [] g0)
   {s : Shared} {L : Addr} {m : Str → Option Value} {b d : Array UInt8} {bk bl : List Int} {tb td t1 t2 t3 : Tok} {near total mix : Int}
   (F : Fr g0 L s.heap (kstB m [(Str.ofString "base", .bytes b tb), (Str.ofString "body", .bytes d td), (Str.ofString "near", .int near t1), (Str.ofString "total", .int total t2), (Str.ofString "mix", .int mix t3)])) (N : News g0 L s.heap [(42, tabObj #[])])
   (hbk : KBw.bInts b = bk) (hdk : KBw.bInts d = bl) (hbl : bk.length ≤ 65608) (hdl : bl.length ≤ 100) (hn0 : 0 ≤ near) (hn1 : near < 268435456) (ht0 : 0 ≤ total) (ht1 : total < 268435456)
   {Pn : Flow → Shared → Prop} {E : Value → Shared → Prop}
   (hP : ∀ h' tk m' qs, Fr g0 L h' m' → News g0 L h' [(42, tabObj qs)] → Pn (.ret (.bool true)) { s with heap := h', toks := tk }) :
   wpAny (TheM w) (callerA.deeper (envOf ql sc L fa fc)) (execs (bd.drop 9) (envOf ql sc L fa fc)) Pn
     (fun e s' => wpAny (TheM w) (callerA.deeper (envOf ql sc L fa fc)) (leaving (envOf ql sc L fa fc) e) (fun _ s'' => E e s'') (fun e' s'' => E e' s'') s') s := by
  have hfill : (fun _ : OpenLaw => hd.heap_39) PySem.Challenge.rw_jq0004_01 = hd.heap_39 := by (k_fill; rfl)
  clear hfill
  have hK' := (by k_dflt k_is : List.lookup 87 (hd.heap_39 w.params) = some ⟨_, _, .func (fnOf _ _ _ _ _ _ _ _ _ _ _ _), _⟩)
  rw [hK'] at hK
  cases hK
  dsimp only [List.drop]
  k_with_none
  k_with "execs cons" => k_fold
  k_with "eval Call" => k_fold
  k_with "storeName" => (k_here; k_dflt (first | (refine' storeI_L ?F ?N ?_ ?a ?b; (case F => k_asm); (case N => k_asm); (case a => rfl); (case b => rfl); k_whole; intro h' tk' t' F' N'; (try k_sweep); (try dsimp only); (try k_fold)) | (refine' storeB_L ?F ?N ?_ ?a ?b; (case F => k_asm); (case N => k_asm); (case a => rfl); (case b => rfl); k_whole; intro h' tk' t' F' N'; (try k_sweep); (try dsimp only); (try k_fold)) | (refine' storeG_L ?F ?N ?_ ?a ?b; (case F => k_asm); (case N => k_asm); (case a => rfl); (case b => rfl); k_whole; intro h' tk' F' N'; (try k_sweep); (try dsimp only); (try k_fold))))
  k_with "call ref" => k_extra "call"
  k_with "binaryOp Add bytes bytes" => (k_here; (with_reducible show wpAny _ _ (binaryOp Operator.Add (Value.bytes _ _) (Value.bytes _ _)) _ _ _); (refine KBa.add_K (by assumption) (by assumption) (by k_extra "addlen") ?_); intro _ _ kbaApp)
  k_with "execs cons Assign cons" => k_extra "core"
  k_with "call" => ((with_reducible show wpAny _ _ (call (Value.ref 61) [_, _]) _ _ _); (rename Fr _ _ _ _ => kF); (rename News _ _ _ _ => kN); k_dflt (refine' Spec.use (A₀ := callerA) (octets_spec w X T (1 + claimMargin + 1) (4 + 3) (some []) [_] ?hdp ?h0 ?h1) B kF kN [(42, tabObj #[])] (fun _ h => nomatch h) (fun _ h => h) (fun _ _ _ h => nomatch h) rfl rfl ?_ ?_; (case hdp => decide); (case h0 => omega); (case h1 => omega)); (rotate_left); ((intro e9 h9 tk9 n9 g9 hx9; exact hx9.elim)); ((intro v9 h9 tk9 n9 hr9 F9 N9 ap9; obtain ⟨c9, t9, rfl, rfl, hl9⟩ := hr9; clear ap9; dsimp only [List.cons_append, List.nil_append] at N9; (have hc9 : KBw.bInts c9 = KBw.bInts c9 := rfl); (try k_fold))))
  k_with "addlen" => ((try simp only [List.length_append]); omega)
  k_with "core" => ((with_reducible show wpAny _ _ (execs (Stmt.Assign [Expr.Name "due" _] _ _ :: _) _) _ _ _); (rename Fr _ _ _ _ => kF); (rename News _ _ _ _ => kN); k_dflt (refine' law_end2 (E := E) w hK' X T codeHd B ?F kN hbk ?hdk hbl ?hdl ?hst ?henv ?hA ?hE ?hP; (case hst => exact rfl); (case henv => exact rfl); (case hA => exact rfl); (case hE => exact fun _ _ z => z); (case F => refine fr_names kF ?_; (repeat' (first | exact List.forall_mem_nil _ | refine List.forall_mem_cons.mpr ⟨by exact rfl, ?_⟩))); (case hdk => assumption); (case hdl => (simp only [List.length_take, List.length_append]; omega)); (case hP => exact fun h' tk m' qs F9 N9 => hP h' tk m' qs F9 N9)))
  k_steps
theorem law_tail2 (w : World) {p : Program} {loose : List Str} {mean : ExcName → Option Value} {mg mb : Str → Option Value}
   {oc od0 : _} {osl : _} {nm ql : Str} {ps : Arguments} {bd : List Stmt} {sc : Scope} {dV kV dc pm0 cdv ct fc : Value} {an : Option Addr} {fa : Addr}
   (hK : List.lookup 87 (hd.heap_39 w.params) = some ⟨oc, od0, .func (fnOf nm ql ps bd sc dV kV dc pm0 an cdv ct), osl⟩)
   {g0 : Heap} (X : (hd.heap_39 w.params).In g0) (T : Top p loose mean mg mb g0) (codeHd : CodeHd g0 46 42) (B : Below callerA g0 [] g0)
   {s : Shared} {L : Addr} {m : Str → Option Value} {b d : Array UInt8} {bk bl : List Int} {tb td t1 t2 t3 : Tok} {near total mix : Int}
   (F : Fr g0 L s.heap (kstB m [(Str.ofString "base", .bytes b tb), (Str.ofString "body", .bytes d td), (Str.ofString "near", .int near t1), (Str.ofString "total", .int total t2), (Str.ofString "mix", .int mix t3)])) (N : News g0 L s.heap [(42, tabObj #[])])
   (hbk : KBw.bInts b = bk) (hdk : KBw.bInts d = bl) (hbl : bk.length ≤ 65608) (hdl : bl.length ≤ 100) (hn0 : 0 ≤ near) (hn1 : near < 268435456) (ht0 : 0 ≤ total) (ht1 : total < 268435456)
   {E : Value → Shared → Prop} {stmts : List Stmt} {Pn : Flow → Shared → Prop} {En : Value → Shared → Prop} {Am : Around} {env : Env} (hst : bd.drop 9 = stmts) (henv : envOf ql sc L fa fc = env) (hA : callerA.deeper (envOf ql sc L fa fc) = Am)
   (hE : ∀ e s', wpAny (TheM w) (callerA.deeper (envOf ql sc L fa fc)) (leaving (envOf ql sc L fa fc) e) (fun _ s'' => E e s'') (fun e' s'' => E e' s'') s' → En e s')
   (hP : ∀ h' tk m' qs, Fr g0 L h' m' → News g0 L h' [(42, tabObj qs)] → Pn (.ret (.bool true)) { s with heap := h', toks := tk }) :
   wpAny (TheM w) Am (execs stmts env) Pn En s := by
  subst hst henv hA
  exact wpAny_mono (law_tail w hK X T codeHd B F N hbk hdk hbl hdl hn0 hn1 ht0 ht1 hP) (fun _ _ z => z) hE

section
variable {prog : Program} {w : World} {A : Around} {E : Value → Shared → Prop} {Q : Flow → Shared → Prop} {s : Shared} {env : Env} {h₀ : Heap} {L : Addr} {body : List Stmt}
abbrev BodS := Array UInt8 × Tok × List Int × Int × Tok
abbrev bodLed (l : Addr) (vs : List Value) (nn : Nat) (rest : List (Addr × Obj)) (_ : BodS) : List (Addr × Obj) := (l, listOf vs.toArray nn) :: rest
abbrev bodPs (c : BodS) : List (Str × Value) := [(Str.ofString "body", .bytes c.1 c.2.1), (Str.ofString "total", .int c.2.2.2.1 c.2.2.2.2)]
abbrev bodFacts (c : BodS) : Prop := KBw.bInts c.1 = c.2.2.1
abbrev bodStored : List Str := [Str.ofString "body", Str.ofString "total", Str.ofString "n", Str.ofString "kind", Str.ofString "q", Str.ofString "start", Str.ofString "size", Str.ofString "deed", Str.ofString "octets"]
def bodInv (k : Nat) (bl : List Int) (total : Int) : Prop := bl.length ≤ 5 * k ∧ 0 ≤ total ∧ total ≤ 65536 * (k : Int)
def BodPost (h₀ : Heap) (L : Addr) (rest : List (Addr × Obj)) (m₀ : Str → Option Value) (k : Nat) (own : List (Addr × Obj)) (s : Shared) (Q : Flow → Shared → Prop) (f : Flow) (s₂ : Shared) : Prop :=
  match f with
  | .ret v => Q (.ret v) s₂
  | .brk => Q .next s₂
  | _ => ∃ h' tk m' news' b bt bl total tt, s₂ = { s with heap := h', toks := tk } ∧ Fr h₀ L h' m' ∧ News h₀ L h' news' ∧ (∀ q ∈ rest, q ∈ news') ∧ (∀ q ∈ own, q ∈ news') ∧ KBw.bInts b = bl ∧ m' (Str.ofString "body") = some (.bytes b bt) ∧ m' (Str.ofString "total") = some (.int total tt) ∧
     (∀ z : Str, z ≠ Str.ofString "body" → z ≠ Str.ofString "total" → z ≠ Str.ofString "n" → z ≠ Str.ofString "kind" → z ≠ Str.ofString "q" → z ≠ Str.ofString "start" → z ≠ Str.ofString "size" → z ≠ Str.ofString "deed" → z ≠ Str.ofString "octets" → m' z = m₀ z) ∧ bodInv k bl total
theorem for_bod {l : Addr} {vs : List Value} {ns : List Int} {nn : Nat} {m₀ : Str → Option Value} {news : List (Addr × Obj)} (rest : List (Addr × Obj)) {t1 t2 : Tok}
    (hh : A.handled = none) (hi : IntsAre vs ns) (F : Fr h₀ env.locals s.heap m₀) (N : News h₀ env.locals s.heap news) (hl : (l, listOf vs.toArray nn) ∈ news) (hrest : ∀ q ∈ rest, q ∈ news)
    (h1 : m₀ (Str.ofString "body") = some (.bytes #[] t1)) (h2 : m₀ (Str.ofString "total") = some (.int 0 t2))
    (turn : ∀ (k : Nat) (n : Int) b bt bl total tt t (u : Str → Option Value) h tk own, k < ns.length → OwnOff own (l :: rest.map (·.1)) → KBw.bInts b = bl → bodInv k bl total →
      Fr h₀ env.locals h (fun y => if y = "n" then some (.int n t) else kstB (fun z => if bodStored.contains z then u z else m₀ z) [(Str.ofString "body", .bytes b bt), (Str.ofString "total", .int total tt)] y) → News h₀ env.locals h ((l, listOf vs.toArray nn) :: (rest ++ own)) →
      wpAny (model prog w) A (execs body env) (BodPost h₀ env.locals ((l, listOf vs.toArray nn) :: rest) m₀ (k + 1) own { s with heap := h, toks := tk } Q) E { s with heap := h, toks := tk })
    (done : ∀ b bt bl total tt (u : Str → Option Value) h tk, KBw.bInts b = bl → bodInv ns.length bl total →
      Fr h₀ env.locals h (fun y => if y = "n" then u y else kstB (fun z => if bodStored.contains z then u z else m₀ z) [(Str.ofString "body", .bytes b bt), (Str.ofString "total", .int total tt)] y) → News h₀ env.locals h ((l, listOf vs.toArray nn) :: rest) → Q .next { s with heap := h, toks := tk }) :
    wpAny (model prog w) A (pyIter (.ref l)) (fun it s₂ => LoopAtV prog w A h₀ env "n" body Q E it s₂) E s := by
  have N1 : News h₀ env.locals s.heap (bodLed l vs nn rest (#[], t1, [], 0, t2)) := fun q hq => by
    rcases List.mem_cons.mp hq with rfl | hq
    · exact N _ hl
    · exact N _ (hrest q hq)
  refine kst_listL (x := "n") (bodLed l vs nn rest) bodPs bodFacts bodStored (fun pre c => bodInv pre.length c.2.2.1 c.2.2.2.1) (#[], t1, [], 0, t2) hh (fun _ => List.Mem.head _) hi F N1 rfl ?_ ⟨Nat.zero_le _, Int.le_refl _, Int.le_refl _⟩ ?_ ?_
  · intro p hp
    simp only [bodPs, List.mem_cons, List.not_mem_nil, or_false] at hp
    rcases hp with rfl | rfl
    · exact h1
    · exact h2
  · rintro ⟨b, bt, bl, total, tt⟩ pre post n t u h tk own hns hmem hoff hf hp F' N'
    have hlt : pre.length < ns.length := by rw [hns]; simp
    refine wpAny_mono (turn pre.length n b bt bl total tt t u h tk own hlt (by simpa using hoff) hf hp F' N') (fun f s₂ z => ?_) fun _ _ z => z
    have up : BodPost h₀ env.locals ((l, listOf vs.toArray nn) :: rest) m₀ (pre.length + 1) own { s with heap := h, toks := tk } Q .next s₂ → InvEndN h₀ env.locals (KstS (bodLed l vs nn rest) bodPs bodFacts "n" bodStored m₀ (fun pre c => bodInv pre.length c.2.2.1 c.2.2.2.1) (pre ++ [n])) own ((bodLed l vs nn rest (#[], t1, [], 0, t2)).map (·.1)) { s with heap := h, toks := tk } s₂ := by
      rintro ⟨h', tk', m', news', b', bt', bl', total', tt', rfl, F2, N2, a1, a2, a3, a4, a5, a6, a7⟩
      refine kst_end (b', bt', bl', total', tt') F2 N2 a1 a2 rfl a3 ?_ (fun z _ _ hs => ?_) (by simpa using a7)
      rotate_left
      · simp only [bodStored, List.contains_cons, List.contains_nil, Bool.or_false, Bool.or_eq_false_iff, beq_eq_false_iff_ne, ne_eq] at hs
        exact a6 z hs.1 hs.2.1 hs.2.2.1 hs.2.2.2.1 hs.2.2.2.2.1 hs.2.2.2.2.2.1 hs.2.2.2.2.2.2.1 hs.2.2.2.2.2.2.2.1 hs.2.2.2.2.2.2.2.2
      intro p hp
      simp only [bodPs, List.mem_cons, List.not_mem_nil, or_false] at hp
      rcases hp with rfl | rfl
      · exact a4
      · exact a5
    cases f with
    | ret v => exact z
    | brk => exact z
    | next => exact up z
    | cont => exact up z
  · rintro ⟨b, bt, bl, total, tt⟩ u h tk hf hp F' N'
    exact done b bt bl total tt u h tk hf hp F' N'
theorem bod_ends {h' : Heap} {m₀ m' : Str → Option Value} {rest own news' : List (Addr × Obj)} {b : Array UInt8} {bt tt : Tok} {bl : List Int} {total : Int} {k tk : Nat} (F2 : Fr h₀ L h' m') (N2 : News h₀ L h' news') (a1 : ∀ q ∈ rest, q ∈ news') (a2 : ∀ q ∈ own, q ∈ news') (hb : KBw.bInts b = bl) (a4 : m' (Str.ofString "body") = some (.bytes b bt)) (a5 : m' (Str.ofString "total") = some (.int total tt))
    (a6 : ∀ z : Str, z ≠ Str.ofString "body" → z ≠ Str.ofString "total" → z ≠ Str.ofString "n" → z ≠ Str.ofString "kind" → z ≠ Str.ofString "q" → z ≠ Str.ofString "start" → z ≠ Str.ofString "size" → z ≠ Str.ofString "deed" → z ≠ Str.ofString "octets" → m' z = m₀ z) (a7 : bodInv k bl total) :
    BodPost h₀ L rest m₀ k own s Q .next { s with heap := h', toks := tk } :=
  ⟨_, _, _, _, _, _, _, _, _, rfl, F2, N2, a1, a2, hb, a4, a5, a6, a7⟩
end
theorem menu_bd (i : Nat) : -1 ≤ [(0 : Int), 0, 0, 0, 1, -1].getD i 0 ∧ [(0 : Int), 0, 0, 0, 1, -1].getD i 0 ≤ 1 := by
  match i with
  | 0 | 1 | 2 | 3 | 4 | 5 => decide
  | n + 6 => exact ⟨by simp, by simp⟩
theorem fmod_bd (a : Int) {k : Int} (hk : 0 < k) : 0 ≤ a.fmod k ∧ a.fmod k < k := by
  rw [Int.fmod_eq_emod_of_nonneg _ (Int.le_of_lt hk)]
  exact ⟨Int.emod_nonneg _ (by omega), Int.emod_lt_of_pos _ hk⟩
set_option maxHeartbeats 1200000 in
theorem law_rest (w : World) {p : Program} {loose : List Str} {mean : ExcName → Option Value} {mg mb : Str → Option Value}
   {oc od0 : _} {osl : _} {nm ql : Str} {ps : Arguments} {bd : List Stmt} {sc : Scope} {dV kV dc pm0 cdv ct fc : Value} {an : Option Addr} {fa : Addr}
   (hK : List.lookup 87 (hd.heap_39 w.params) = some ⟨oc, od0, .func (fnOf nm ql ps bd sc dV kV dc pm0 an cdv ct), osl⟩)
   {g0 : Heap} (X : (hd.heap_39 w.params).In g0) (T : Top p loose mean mg mb g0) (codeHd : CodeHd g0 46 42) (B : Below callerA g0 [] g0)
   {s : Shared} {L ls : Addr} {m : Str → Option Value} {b : Array UInt8} {bk : List Int} {tb tm : Tok} {vs : List Value} {ns : List Int} {nn : Nat} {mix : Int}
   (F : Fr g0 L s.heap (kstB m [(Str.ofString "base", .bytes b tb), (Str.ofString "script", .ref ls), (Str.ofString "mix", .int mix tm)])) (N : News g0 L s.heap [(ls, listOf vs.toArray nn), (42, tabObj #[])])
   (hv : IntsAre vs ns) (hlen : ns.length ≤ 16) (hbk : KBw.bInts b = bk) (hbl : bk.length ≤ 65608)
   {Pn : Flow → Shared → Prop} {E : Value → Shared → Prop}
   (hP : ∀ h' tk m' qs, Fr g0 L h' m' → News g0 L h' [(42, tabObj qs)] → Pn (.ret (.bool true)) { s with heap := h', toks := tk }) :
   wpAny (TheM w) (callerA.deeper (envOf ql sc L fa fc)) (execs (bd.drop 4) (envOf ql sc L fa fc)) Pn
     (fun e s' => wpAny (TheM w) (callerA.deeper (envOf ql sc L fa fc)) (leaving (envOf ql sc L fa fc) e) (fun _ s'' => E e s'') (fun e' s'' => E e' s'') s') s := by
  have hfill : (fun _ : OpenLaw => hd.heap_39) PySem.Challenge.rw_jq0004_01 = hd.heap_39 := by (k_fill; rfl)
  clear hfill
  have hK' := (by k_dflt k_is : List.lookup 87 (hd.heap_39 w.params) = some ⟨_, _, .func (fnOf _ _ _ _ _ _ _ _ _ _ _ _), _⟩)
  rw [hK'] at hK
  cases hK
  dsimp only [List.drop]
  k_with_none
  k_with "execs cons" => k_fold
  k_with "eval Call" => k_fold
  k_with "storeName" => (k_here; k_dflt (first | (refine' storeI_L ?F ?N ?_ ?a ?b; (case F => k_asm); (case N => k_asm); (case a => rfl); (case b => rfl); k_whole; intro h' tk' t' F' N'; (try k_sweep); (try dsimp only); (try k_fold)) | (refine' storeB_L ?F ?N ?_ ?a ?b; (case F => k_asm); (case N => k_asm); (case a => rfl); (case b => rfl); k_whole; intro h' tk' t' F' N'; (try k_sweep); (try dsimp only); (try k_fold)) | (refine' storeG_L ?F ?N ?_ ?a ?b; (case F => k_asm); (case N => k_asm); (case a => rfl); (case b => rfl); k_whole; intro h' tk' F' N'; (try k_sweep); (try dsimp only); (try k_fold))))
  k_with "call ref" => (k_extra "call")
  k_with "exec For" => (k_here; (with_reducible show wpAny _ _ (exec (Stmt.For (Expr.Name _ _) (Expr.Subscript _ _ _) _ [] _) _) _ _ _); (rename Fr _ _ _ _ => lF'); (with_unfolding_all refine' For_invVF lF' ?k1 ?k2 ?_; (case k1 => exact rfl); (case k2 => exact rfl); k_whole))
  k_with "pyIter ref" => (k_extra "iter")
  k_with "execs cons Assign cons" => (k_extra "core")
  k_with "k_oct" => (intro x9 hx9; simp only [List.mem_cons, List.not_mem_nil, or_false] at hx9; omega)
  k_with "subscriptTail" => (k_extra "menu")
  k_with "call type:bytes" => (k_here; (with_reducible show wpAny _ _ (call (Value.type "bytes") [Value.ref _]) _ _ _); k_dflt (refine' KBa.make_K ?kbaF ?kbaN ?kbah ?kbal ?kbai ?kbar ?kban ?_; (case kbaF => k_asm); (case kbaN => k_asm); (case kbah => rfl); (case kbal => kba_isList); (case kbai => kba_listInts); (case kbar => walk_at "k_oct"); (case kban => (simp only [List.length_cons, List.length_nil]; omega))); intro _ _ _ F' N' kbaIn)
  k_with "k_subx" => (exact fun q9 hq9 => List.Sublist.subset (by with_reducible (repeat (first | exact List.Sublist.refl _ | exact List.nil_sublist _ | refine List.Sublist.cons_cons _ ?_ | refine List.Sublist.cons _ ?_))) hq9)
  k_with "iter" => ((rename Fr _ _ _ _ => kF); (rename News _ _ _ _ => kN); (with_reducible rename IntsAre _ (List.drop 2 ns) => hI2); (have hI3 := hI2.length); (have hI4 : (List.drop 2 ns).length ≤ 14 := by rw [List.length_drop]; omega); (k_dflt (refine' for_bod [(42, tabObj #[])] rfl hI2 kF kN ?hl ?hr ?h1 ?h2 ?_ ?_; (case hl => exact List.Mem.head _); (case hr => intro q hq; rw [List.mem_singleton.mp hq]; k_mem); (case h1 => exact rfl); (case h2 => exact rfl))); (clear kF kN); (rotate_left); (intro bb bbt bbl tot tott kU kH kTk hbb kInv kFr kNews; obtain ⟨hq1, hq2, hq3⟩ := kInv; (try k_fold)); (rotate_left); (intro k n bb bbt bbl tot tott tn kU kH kTk own hkn hoff hbb kInv kFr kNews; obtain ⟨hq1, hq2, hq3⟩ := kInv; (have u1 := fmod_bd (n.fdiv 8) (show (0 : Int) < 14 by decide)); (have u2 := fmod_bd ((n.fdiv 8).fdiv 14) (show (0 : Int) < 6 by decide)); (have u3 := fmod_bd (n.fdiv 8) (show (0 : Int) < 4 by decide)); (have u4 := fmod_bd (n.fdiv 8) (show (0 : Int) < 256 by decide)); (have u5 := fmod_bd ((n.fdiv 8).fdiv 256) (show (0 : Int) < 256 by decide)); (have u6 := fmod_bd (n.fdiv 8) (show (0 : Int) < 127 by decide)); (have u7 := fmod_bd n (show (0 : Int) < 8 by decide)); obtain ⟨u10, u11⟩ := u1; obtain ⟨u20, u21⟩ := u2; obtain ⟨u30, u31⟩ := u3; obtain ⟨u40, u41⟩ := u4; obtain ⟨u50, u51⟩ := u5; obtain ⟨u60, u61⟩ := u6; obtain ⟨u70, u71⟩ := u7; dsimp only [List.cons_append, List.nil_append] at kNews; (try k_fold)))
  have hmx := fmod_bd (mix.fdiv 13) (show (0 : Int) < 6 by decide)
  obtain ⟨hmx0, hmx1⟩ := hmx
  have hmb := menu_bd ((mix.fdiv 13).fmod 6).toNat
  obtain ⟨hmb0, hmb1⟩ := hmb
  k_with "menu" => (k_here; (with_reducible show wpAny _ _ (subscriptTail (PySem.Expr.List _ _) _ (Value.ref _) (Value.int _ _)) _ _ _); k_dflt (refine' ksa_sub (ns := [0, 0, 0, 0, 1, -1]) ?k1 ?k2 ?k3 hmx0 ?k5 ?k6 ?_ ?k7; (case k1 => k_asm); (case k2 => exact List.Mem.head _); (case k3 => exact .cons _ _ (.cons _ _ (.cons _ _ (.cons _ _ (.cons _ _ (.cons _ _ .nil)))))); (case k5 => exact hmx1); (case k6 => omega); (case k7 => with_unfolding_all rfl); k_whole); intro _)
  k_with "core" => ((with_reducible show wpAny _ _ (execs (Stmt.Assign [Expr.Name "delta" _] _ _ :: _) _) _ _ _); (rename Fr _ _ _ _ => kF); (rename News _ _ _ _ => kN); k_dflt (refine' law_tail2 (E := E) w hK' X T codeHd B ?F ?N hbk ?hdk hbl ?hdl ?hn0 ?hn1 ?ht0 ?ht1 ?hst ?henv ?hA ?hE ?hP; (case hst => exact rfl); (case henv => exact rfl); (case hA => exact rfl); (case hE => exact fun _ _ z => z); (case F => refine fr_names kF ?_; (repeat' (first | exact List.forall_mem_nil _ | refine List.forall_mem_cons.mpr ⟨by exact rfl, ?_⟩))); (case N => exact news_sub kN (fun q hq => by rw [List.mem_singleton.mp hq]; exact List.Mem.tail _ (List.Mem.tail _ (List.Mem.head _)))); (case hdk => exact hbb); (case hdl => omega); (case hn0 => omega); (case hn1 => omega); (case ht0 => omega); (case ht1 => omega); (case hP => exact fun h' tk m' qs F9 N9 => hP h' tk m' qs F9 N9)))
  k_with "core" => ((with_reducible show wpAny _ _ (execs (Stmt.Assign [Expr.Name "deed" _] _ _ :: Stmt.Assign _ _ _ :: Stmt.If _ _ _ _ :: Stmt.If _ _ _ _ :: Stmt.If _ _ _ _ :: _ :: _) _) _ _ _); (rename Fr _ _ _ _ => kF); (rename News _ _ _ _ => kN); k_dflt (refine' cut_octs (Str.ofString "deed") (Str.ofString "octets") kF kN ?_ ?_); (rotate_left); (clear kF kN; intro kU kH kTk dd ddt lo vso os nno hoI hoO hoL hd0 hd1 kFr kNews; (have hoL2 := hoI.length); (try k_fold)); (rotate_left); (try k_fold))
  k_with "OctsPost" => ((rename Fr _ _ _ _ => kF); (rename News _ _ _ _ => kN); k_dflt (exact octs_end kF kN rfl rfl (List.Mem.head _) (by walk_at "k_subx") (by first | exact .cons _ _ .nil | exact .cons _ _ (.cons _ _ .nil) | exact .cons _ _ (.cons _ _ (.cons _ _ .nil)) | exact .cons _ _ (.cons _ _ (.cons _ _ (.cons _ _ .nil)))) (by walk_at "k_oct") (Nat.le_of_ble_eq_true rfl) (by omega) (by intro z n1 n2; simp [kstB, n1, n2])))
  k_with "binaryOp Add ref ref" => (k_here; (with_reducible show wpAny _ _ (binaryOp _ (Value.ref _) (Value.ref lo)) _ _ _); k_dflt (refine' kmk_add_ints ?F ?N ?a ?b (.cons _ _ .nil) hoI ?_ ?z; (case F => k_asm); (case N => k_asm); (case a => kmk_list); (case b => kmk_list); (case z => rw [sizeLine_eq]; simp only [List.length_cons, List.length_nil]; omega)); intro D9 us9 h9 F9 N9 l9 hus9; (try k_lt l9))
  k_with "call type:bytes" => (k_here; (with_reducible show wpAny _ _ (call (Value.type "bytes") [Value.ref D9]) _ _ _); k_dflt (refine' KBa.make_K ?kbaF ?kbaN ?kbah ?kbal hus9 (In_cons hd0 hd1 hoO) ?kban ?_; (case kbaF => k_asm); (case kbaN => k_asm); (case kbah => rfl); (case kbal => kba_isList); (case kban => (simp only [List.length_append, List.length_cons, List.length_nil]; omega))); intro _ _ _ F' N' kbaIn)
  k_steps
  all_goals exact bod_ends (by assumption) (by assumption) (by walk_at "k_subx") (by walk_at "k_subx") (by kba_ints2) rfl rfl (by intro z n1 n2 n3 n4 n5 n6 n7 n8 n9; simp [kstB, bodStored, n1, n2, n3, n4, n5, n6, n7, n8, n9]) ⟨by (try simp only [List.length_append, List.length_cons, List.length_nil, List.length_take, List.length_map]); omega, by omega, by omega⟩
theorem law_rest2 (w : World) {p : Program} {loose : List Str} {mean : ExcName → Option Value} {mg mb : Str → Option Value}
   {oc od0 : _} {osl : _} {nm ql : Str} {ps : Arguments} {bd : List Stmt} {sc : Scope} {dV kV dc pm0 cdv ct fc : Value} {an : Option Addr} {fa : Addr}
   (hK : List.lookup 87 (hd.heap_39 w.params) = some ⟨oc, od0, .func (fnOf nm ql ps bd sc dV kV dc pm0 an cdv ct), osl⟩)
   {g0 : Heap} (X : (hd.heap_39 w.params).In g0) (T : Top p loose mean mg mb g0) (codeHd : CodeHd g0 46 42) (B : Below callerA g0 [] g0)
   {s : Shared} {L ls : Addr} {m : Str → Option Value} {b : Array UInt8} {bk : List Int} {tb tm : Tok} {vs : List Value} {ns : List Int} {nn : Nat} {mix : Int}
   (F : Fr g0 L s.heap (kstB m [(Str.ofString "base", .bytes b tb), (Str.ofString "script", .ref ls), (Str.ofString "mix", .int mix tm)])) (N : News g0 L s.heap [(ls, listOf vs.toArray nn), (42, tabObj #[])])
   (hv : IntsAre vs ns) (hlen : ns.length ≤ 16) (hbk : KBw.bInts b = bk) (hbl : bk.length ≤ 65608)
   {E : Value → Shared → Prop} {stmts : List Stmt} {Pn : Flow → Shared → Prop} {En : Value → Shared → Prop} {Am : Around} {env : Env} (hst : bd.drop 4 = stmts) (henv : envOf ql sc L fa fc = env) (hA : callerA.deeper (envOf ql sc L fa fc) = Am)
   (hE : ∀ e s', wpAny (TheM w) (callerA.deeper (envOf ql sc L fa fc)) (leaving (envOf ql sc L fa fc) e) (fun _ s'' => E e s'') (fun e' s'' => E e' s'') s' → En e s')
   (hP : ∀ h' tk m' qs, Fr g0 L h' m' → News g0 L h' [(42, tabObj qs)] → Pn (.ret (.bool true)) { s with heap := h', toks := tk }) :
   wpAny (TheM w) Am (execs stmts env) Pn En s := by
  subst hst henv hA
  exact wpAny_mono (law_rest w hK X T codeHd B F N hv hlen hbk hbl hP) (fun _ _ z => z) hE

theorem clip8 {n : Nat} (h : 8 ≤ n) : clipAt n 8 = 8 := by unfold clipAt; rw [if_neg (by decide)]; omega
theorem base_big {l : List Int} {n : Nat} : (List.replicate (Int.toNat 8200) (List.take (clipAt n 8) l)).flatten.length ≤ 65608 := by
  rw [rep_len, List.length_take]
  have h1 : clipAt n 8 ≤ 8 := by unfold clipAt; rw [if_neg (by decide)]; omega
  have h2 : min (clipAt n 8) l.length ≤ 8 := by omega
  exact Nat.le_trans (Nat.mul_le_mul_left (Int.toNat 8200) h2) (by decide)
set_option maxHeartbeats 8000000 in
theorem holds : PySem.Challenge.rw_jq0004_01.Holds := by
  refine Mine.hd ?_
  k_go0
  rename World => wX
  k_with_none
  k_with "execs cons" => k_fold
  k_with "eval Call" => k_fold
  k_with "storeName" => (k_here; k_dflt (first | (refine' storeI_L ?F ?N ?_ ?a ?b; (case F => k_asm); (case N => k_asm); (case a => rfl); (case b => rfl); k_whole; intro h' tk' t' F' N'; (try k_sweep); (try dsimp only); (try k_fold)) | (refine' storeB_L ?F ?N ?_ ?a ?b; (case F => k_asm); (case N => k_asm); (case a => rfl); (case b => rfl); k_whole; intro h' tk' t' F' N'; (try k_sweep); (try dsimp only); (try k_fold)) | (refine' storeG_L ?F ?N ?_ ?a ?b; (case F => k_asm); (case N => k_asm); (case a => rfl); (case b => rfl); k_whole; intro h' tk' F' N'; (try k_sweep); (try dsimp only); (try k_fold))))
  k_with "call ref" => (k_extra "call")
  k_with "execs cons Assign cons" => (k_extra "core")
  k_with "binaryOp Mult bytes int" => (k_extra "mul")
  k_with "k_ledg" => (exact fun q9 hq9 => List.Sublist.subset (by with_reducible (repeat (first | exact List.Sublist.refl _ | exact List.nil_sublist _ | refine List.Sublist.cons_cons _ ?_ | refine List.Sublist.cons _ ?_))) hq9)
  k_with "mul" => (k_here; (with_reducible show wpAny _ _ (binaryOp _ (Value.bytes _ _) (Value.int 8200 _)) _ _ _); ((refine mul_b (by assumption) ?h0 ?h16 (by decide) (by decide) ?_); (case h0 => (simp only [List.length_take, List.length_append, List.length_map, List.length_cons, List.length_nil]; rw [clip8 (by omega)]; omega)); (case h16 => (simp only [List.length_take, List.length_append, List.length_map, List.length_cons, List.length_nil]; rw [clip8 (by omega)]; omega)); intro _ _ _ hmul9))
  k_with "core" => ((with_reducible show wpAny _ _ (execs (Stmt.Assign [Expr.Name "body" _] _ _ :: _) _) _ _ _); (rename Fr _ _ _ _ => kF); (rename News _ _ _ _ => kN); (have hK' := (by k_dflt k_is : List.lookup 87 (hd.heap_39 wX.params) = some ⟨_, _, .func (fnOf _ _ _ _ _ _ _ _ _ _ _ _), _⟩)); k_dflt (refine' law_rest2 wX hK' ?X ?T ?C ?B ?F ?N ?hv ?hlen ?hbk ?hbl ?hst ?henv ?hA ?hE ?_; (case hst => exact rfl); (case henv => exact rfl); (case hA => exact rfl); (case hE => exact fun _ _ z => z); (case X => assumption); (case T => assumption); (case B => assumption); (case C => assumption); (case F => refine fr_names kF ?_; (repeat' (first | exact List.forall_mem_nil _ | refine List.forall_mem_cons.mpr ⟨by exact rfl, ?_⟩))); (case N => exact news_sub kN (by walk_at "k_ledg")); (case hv => assumption); (case hlen => (simp only [List.length_take]; omega)); (case hbk => assumption); (case hbl => first | exact base_big | (simp only [ List.length_take, List.length_append, List.length_map, List.length_cons, List.length_nil]; omega))); (intro h9 tk9 m9 qs9 F9 N9))
  k_steps
end Mine
theorem PySem.Challenge.cw_jq0004_01_holds : PySem.Challenge.rw_jq0004_01.Holds := by
  exact Mine.holds
