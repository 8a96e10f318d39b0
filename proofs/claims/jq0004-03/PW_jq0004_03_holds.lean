import PyProof.Rows.All
import Wide.All
import OpenK.AllK
import Wide.FinOn
import KE.KTryDeep
import PyProof.ListRange
import KE.KBytesWalk
import Wide.BytesRules
import PySem.Challenge.RW_jq0004_03
set_option Elab.async false
set_option rowWalk.seconds 3000
set_option maxHeartbeats 4000000
open PySem PySem.W PyProof.Rows
namespace Mine
set_option maxRecDepth 100000 in
set_option maxHeartbeats 8000000 in
open_top hd for PySem.Challenge.rw_jq0004_03
end Mine
theorem Mine.top_off : True := by
  w_top off
  trivial
local macro_rules | `(tactic| walk_at $s:str) => `(tactic| k_extra $s)
local macro_rules | `(tactic| omega) => `(tactic| lia)
open PySem PySem.W PyProof.Rows PySem.Calls PySem.Spec
namespace Mine
set_option maxRecDepth 100000

abbrev aTop (dp un : Nat) (gd : Option (List Code)) (l : List Env) : Around := { handled := none, depth := dp, frames := some l, guards := gd, units := un }

def Led (g h : Heap) (n : List (Addr × Obj)) : Prop := ∀ q ∈ n, h.get? q.1 = some q.2 ∧ g.get? q.1 = none

theorem Led.nil {g h : Heap} : Led g h [] := fun _ hq => nomatch hq
theorem Led.of_news {g h : Heap} {L : Addr} {n : List (Addr × Obj)} (N : News g L h n) : Led g h n := fun q hq => ⟨(N q hq).1, (N q hq).2.2⟩
theorem Led.sub {g h : Heap} {n n' : List (Addr × Obj)} (N : Led g h n) (hs : ∀ q ∈ n', q ∈ n) : Led g h n' := fun q hq => N q (hs q hq)

section
variable {prog : Program} {w : World} {A : Around} {s : Shared} {base g : Heap} {l : List Env} {K : Frag} {R : Result → Shared → Prop} {name qual : Str} {params : Arguments} {body : List Stmt} {scope : Scope}
  {dV kV doc pm cdv ct oc : Value} {an od : Option Addr} {osl : Array (Option Value)} {f : Addr} {args : Args} {binds : List (Str × Value)} {p : Program} {loose : List Str} {mean : ExcName → Option Value} {mg mb : Str → Option Value} {n : List (Addr × Obj)}

theorem news_in {g h h₁ : Heap} {n : List (Addr × Obj)} (N : Led g h n) (k : ∀ b o, h.get? b = some o → h₁.get? b = some o) : News g h.objs.size h₁ n :=
  fun q hq => ⟨k _ _ (N q hq).1, Nat.ne_of_lt (Heap.lt_size (N q hq).1), (N q hq).2⟩

/-- a def of the text is entered from any state that bears the base -/
theorem enter_def (hg : g.StaysIn s.heap) (hsz : g.objs.size ≤ s.heap.objs.size) (N : Led g s.heap n) (X : K.In g) (T : Top p loose mean mg mb g)
    (ho : K.lookup f = some ⟨oc, od, .func (fnOf name qual params body scope dV kV doc pm an cdv ct), osl⟩) (hcd : codeIn K cdv qual = true) (hroom : A.depth < recursionLimit)
    (hbind : BindsTo s (fnOf name qual params body scope dV kV doc pm an cdv ct) args binds) (hloc : ∀ y ∈ binds, scope.names.lookup y.1 = some .local)
    (h : ∀ L' h₁, Fr g L' h₁ (fun y => binds.reverse.lookup y) → News g L' h₁ n → (∀ q ∈ n, q.1 < L') →
      wpAny (model prog w) (A.deeper (envOf qual scope L' f cdv)) (execs body (envOf qual scope L' f cdv))
        (fun fl s' => R (.ok (.ret (match fl with | .ret v => v | _ => .none))) s')
        (fun e s' => wpAny (model prog w) (A.deeper (envOf qual scope L' f cdv)) (leaving (envOf qual scope L' f cdv) e) (fun _ s'' => R (.error e) s'') (fun e' s'' => R (.error e') s'') s')
        { s with heap := h₁, toks := s.toks + binds.length })
    (hco : scope.isCoroutine = false) (hgen : scope.isGenerator = false) (hk : scope.kind = .function)
    (hcell : ∀ x ∈ scope.names, x.2 ≠ .cell) : codeAny (model prog w) A (.call (.ref f) args) R s := by
  have hKs := X.keeps hg
  refine codeAny_call_def (fd := fnOf name qual params body scope dV kV doc pm an cdv ct) (body := body) (binds := binds) hroom (hKs _ _ ho) rfl (T.nolimit.keeps hg) (codeRec_of hKs hcd) rfl hbind hcell hloc (fun h₁ hns hk₁ => ?_) hco hgen hk
  exact h s.heap.objs.size h₁ ⟨hns, fun b o e => hk₁ b o (hg b o e), hsz⟩ (news_in N hk₁) fun q hq => Heap.lt_size (N q hq).1

/-- the same where the def has cells -/
theorem enter_defC (hg : g.StaysIn s.heap) (hsz : g.objs.size ≤ s.heap.objs.size) (N : Led g s.heap n) (X : K.In g) (T : Top p loose mean mg mb g)
    (ho : K.lookup f = some ⟨oc, od, .func (fnOf name qual params body scope dV kV doc pm an cdv ct), osl⟩) (hcd : codeIn K cdv qual = true) (hroom : A.depth < recursionLimit)
    (hbind : BindsTo s (fnOf name qual params body scope dV kV doc pm an cdv ct) args binds) (hkind : (binds.all fun y => scope.names.lookup y.1 == some .local || scope.names.lookup y.1 == some .cell) = true)
    (hnd : ((cellsFrom 0 scope.names []).map (·.1)).Nodup)
    (h : ∀ L' h₁ tk cells, Fr g L' h₁ (bindL (envOfC qual scope L' f cdv).kindOf binds fun _ => none) → News g L' h₁ (cells ++ n) →
      CellsAre (bindC (envOfC qual scope L' f cdv).kindOf binds fun _ => none) (cellsFrom (L' + 1) scope.names []) cells → (∀ q ∈ n, q.1 < L') →
      wpAny (model prog w) (A.deeper (envOfC qual scope L' f cdv)) (execs body (envOfC qual scope L' f cdv))
        (fun fl s' => R (.ok (.ret (match fl with | .ret v => v | _ => .none))) s')
        (fun e s' => wpAny (model prog w) (A.deeper (envOfC qual scope L' f cdv)) (leaving (envOfC qual scope L' f cdv) e) (fun _ s'' => R (.error e) s'') (fun e' s'' => R (.error e') s'') s')
        { s with heap := h₁, toks := tk })
    (hco : scope.isCoroutine = false) (hgen : scope.isGenerator = false) (hk : scope.kind = .function) : codeAny (model prog w) A (.call (.ref f) args) R s := by
  have hKs := X.keeps hg
  refine codeAny_call_function hroom (hKs _ _ ho) rfl hco hgen rfl (codeRec_of hKs hcd) (hbind _ _ _ _ ?_)
  refine wpAny_newFunctionEnv_cells hk (kindsX hkind _) fun env' he s' x => ?_
  subst he
  have hk₁ := x.toInCall.keep
  refine ⟨(T.nolimit.keeps hg).keeps hk₁, codeAny_func ?_⟩
  obtain ⟨h₁, tk, rfl, _⟩ := x.done
  obtain ⟨cells, NC, Y⟩ := Cl.news (h₀ := s.heap) (Nat.le_refl _) fun n c hm => ⟨x.cell n c (lookup_of_mem_nodup (cellsFrom_names scope.names 0 (s.heap.objs.size + 1) [] [] rfl ▸ hnd) hm), x.above n c hm⟩
  refine h s.heap.objs.size h₁ tk cells ⟨x.toInCall.ns, fun b o e => hk₁ b o (hg b o e), hsz⟩ (fun q hq => ?_) Y fun q hq => Heap.lt_size (N q hq).1
  rcases List.mem_append.mp hq with hq | hq
  · refine ⟨(NC q hq).1, (NC q hq).2.1, ?_⟩
    cases e : g.get? q.1 with
    | none => rfl
    | some o => have := hg _ _ e; rw [(NC q hq).2.2] at this; cases this
  · exact news_in N hk₁ q hq

/-- a def that the call itself has made (it stands on the ledger) -/
theorem enter_nest {cl : List (Str × Addr)} {ctv : Value} {c' : Addr} (hg : g.StaysIn s.heap) (hsz : g.objs.size ≤ s.heap.objs.size) (N : Led g s.heap n) (T : Top p loose mean mg mb g)
    (ho : (f, fnMade name qual params body scope cl doc pm c' ctv) ∈ n) (hcd : s.heap.CodeRec (.ref c') qual) (hroom : A.depth < recursionLimit)
    (hbind : BindsTo s (fnX name qual params body scope cl .none .none doc pm none (.ref c') ctv) args binds) (hloc : ∀ y ∈ binds, scope.names.lookup y.1 = some .local)
    (h : ∀ L' h₁, Fr g L' h₁ (fun y => binds.reverse.lookup y) → News g L' h₁ n → (∀ q ∈ n, q.1 < L') →
      wpAny (model prog w) (A.deeper (envX qual scope L' f (.ref c') cl)) (execs body (envX qual scope L' f (.ref c') cl))
        (fun fl s' => R (.ok (.ret (match fl with | .ret v => v | _ => .none))) s')
        (fun e s' => wpAny (model prog w) (A.deeper (envX qual scope L' f (.ref c') cl)) (leaving (envX qual scope L' f (.ref c') cl) e) (fun _ s'' => R (.error e) s'') (fun e' s'' => R (.error e') s'') s')
        { s with heap := h₁, toks := s.toks + binds.length })
    (hco : scope.isCoroutine = false) (hgen : scope.isGenerator = false) (hk : scope.kind = .function)
    (hcell : ∀ x ∈ scope.names, x.2 ≠ .cell) : codeAny (model prog w) A (.call (.ref f) args) R s := by
  refine codeAny_call_def (fd := fnX name qual params body scope cl .none .none doc pm none (.ref c') ctv) (body := body) (binds := binds) hroom (N _ ho).1 rfl (T.nolimit.keeps hg) hcd rfl hbind hcell hloc (fun h₁ hns hk₁ => ?_) hco hgen hk
  exact h s.heap.objs.size h₁ ⟨hns, fun b o e => hk₁ b o (hg b o e), hsz⟩ (news_in N hk₁) fun q hq => Heap.lt_size (N q hq).1
end

/-- what a raise hands up: the exception flies over the frames l; what stood in G and is no frame stands; the ledger n stands -/
def Flies (base G : Heap) (l : List Env) (cls : Value) (n : List (Addr × Obj)) (e : Value) (h : Heap) : Prop :=
  ∃ ea t vs, e = .ref ea ∧ RaisedS base G l ea cls t vs n h ∧ G.UpToSlots h

theorem raisedS_sub {base G h : Heap} {l : List Env} {e t : Addr} {cls : Value} {vs : List Value} {n n' : List (Addr × Obj)} (R : RaisedS base G l e cls t vs n h) (hs : ∀ q ∈ n', q ∈ n) : RaisedS base G l e cls t vs n' h := by
  obtain ⟨⟨B, h1, h2, h3, h4⟩, h5⟩ := R
  exact ⟨⟨B, h1, h2, fun q hq => h3 q (hs q hq), h4⟩, h5⟩
theorem Flies.sub {base G h : Heap} {l : List Env} {cls e : Value} {n n' : List (Addr × Obj)} (x : Flies base G l cls n e h) (hs : ∀ q ∈ n', q ∈ n) : Flies base G l cls n' e h := by
  obtain ⟨ea, t, vs, h1, h2, h3⟩ := x
  exact ⟨ea, t, vs, h1, raisedS_sub h2 hs, h3⟩

section
variable {M : Model} {A : Around} {E : Value → Shared → Prop} {s' : Shared} {base g g₂ h : Heap} {outer : List Env} {L : Addr} {m : Str → Option Value} {env : Env} {Q : Unit → Shared → Prop} {n n' : List (Addr × Obj)} {cls e : Value}

theorem frames_of {env : Env} {l : List Env} {b : Addr} (hm : b ∈ (env :: l).filterMap (·.frame)) : env.frame = some b ∨ b ∈ l.filterMap (·.frame) := by
  obtain ⟨v, hv, hf⟩ := List.mem_filterMap.mp hm
  cases hv with
  | head => exact .inl hf
  | tail _ hv => exact .inr (List.mem_filterMap.mpr ⟨v, hv, hf⟩)

/-- a raise made here leaves the frame -/
theorem leave_made {ea : Addr} {vs : List Value} (B : Below A base outer g) (hx : Heap.MadeExcOf h s'.heap ea cls vs) (F : Fr g L h m) (N : News g L h n) (hs : ∀ q ∈ n', q ∈ n)
    (hf : env.frame = some L) (hk : env.scope.kind = .function)
    (hQ : ∀ h', Flies base g outer cls n' (.ref ea) h' → Q () { s' with heap := h' }) :
    wpAny M (A.deeper env) (leaving env (.ref ea)) Q E s' := by
  have B₁ := pushX B F hf hk
  let fs := (env :: outer).filterMap (·.frame)
  have self : g.get? L = none := kts_self F
  have apart : ∀ q ∈ n, q.1 ∉ fs := fun q hq hm => by
    rcases frames_of hm with z | z
    · rw [hf] at z; exact (N q hq).2.1 (Option.some.inj z).symm
    · obtain ⟨_, o, ho, _⟩ := B.frames.mem z
      rw [(N q hq).2.2] at ho; cases ho
  refine wpAny_leaves_madeW (base := hideAll h fs) B₁.stack hf (fun b o q => of_hideAll _ q) (funFrames_hide B₁.frames fun v hv b hb => List.mem_filterMap.mpr ⟨v, hv, hb⟩) hx fun h' t x1 x2 x3 x4 => ?_
  refine hQ h' ⟨ea, t, vs, rfl, ⟨⟨hideAll h fs, fun b o q => ?_, fun b o q nm => ?_, fun q hq => ?_, x1, x3⟩, x2⟩, ((Heap.UpToSlots.of_keeps F.keep).trans (Heap.UpToSlots.of_keeps hx.keeps)).trans x4⟩
  · refine hideAll_get _ (B₁.stays b o q) fun hm => ?_
    rw [(B₁.frames.mem hm).1] at q; cases q
  · refine hideAll_get _ (F.keep b o q) fun hm => ?_
    rcases frames_of hm with z | z
    · rw [hf] at z; rw [← Option.some.inj z, self] at q; cases q
    · exact nm z
  · exact ⟨hideAll_get _ (N q (hs q hq)).1 (apart q (hs q hq)), (N q (hs q hq)).2.2, fresh_of_stays B.stays (N q (hs q hq)).2.2⟩

/-- a raise from below goes on through the frame -/
theorem leave_on (B : Below A base outer g) (F : Fr g L g₂ m) (x : Flies base g₂ (env :: outer) cls n e s'.heap) (hs : ∀ q ∈ n', q ∈ n) (hf : env.frame = some L)
    (hQ : ∀ h', Flies base g outer cls n' e h' → Q () { s' with heap := h' }) :
    wpAny M (A.deeper env) (leaving env e) Q E s' := by
  obtain ⟨ea, t, vs, rfl, ⟨⟨W, h1, h2, h3, h4, h5⟩, h6⟩, h7⟩ := x
  have self : g.get? L = none := kts_self F
  refine wpAny_leaves_onW (Around.frames_deeper B.stack) hf h4 fun h' x1 x2 => ?_
  refine hQ h' ⟨ea, t, vs, rfl, ⟨⟨W, h1, fun b o q nm => h2 b o (F.keep b o q) fun hm => ?_, fun q hq => ?_, x1, h5⟩, h6.of_slots x2⟩, (Heap.UpToSlots.of_keeps F.keep).trans (h7.trans x2)⟩
  · rcases frames_of hm with z | z
    · rw [hf] at z; rw [← Option.some.inj z, self] at q; cases q
    · exact nm z
  · have y := h3 q (hs q hq)
    exact ⟨y.1, kts_none F.keep y.2.1, y.2.2⟩
/-- a raise from below goes on through the frame; what the frame's ledger held beside stands -/
theorem leave_on2 {rest : List (Addr × Obj)} (B : Below A base outer g) (F : Fr g L g₂ m) (x : Flies base g₂ (env :: outer) cls n e s'.heap) (hr : ∀ q ∈ rest, g₂.get? q.1 = some q.2 ∧ g.get? q.1 = none ∧ q.1 ≠ L) (hf : env.frame = some L)
    (hQ : ∀ h', Flies base g outer cls (n ++ rest) e h' → Q () { s' with heap := h' }) :
    wpAny M (A.deeper env) (leaving env e) Q E s' := by
  obtain ⟨ea, t, vs, rfl, ⟨⟨W, h1, h2, h3, h4, h5⟩, h6⟩, h7⟩ := x
  have self : g.get? L = none := kts_self F
  refine wpAny_leaves_onW (Around.frames_deeper B.stack) hf h4 fun h' x1 x2 => ?_
  refine hQ h' ⟨ea, t, vs, rfl, ⟨⟨W, h1, fun b o q nm => h2 b o (F.keep b o q) fun hm => ?_, fun q hq => ?_, x1, h5⟩, h6.of_slots x2⟩, (Heap.UpToSlots.of_keeps F.keep).trans (h7.trans x2)⟩
  · rcases frames_of hm with z | z
    · rw [hf] at z; rw [← Option.some.inj z, self] at q; cases q
    · exact nm z
  · rcases List.mem_append.mp hq with hq | hq
    · have y := h3 q hq
      exact ⟨y.1, kts_none F.keep y.2.1, y.2.2⟩
    · obtain ⟨r1, r2, r3⟩ := hr q hq
      refine ⟨h2 _ _ r1 fun hm => ?_, r2, fresh_of_stays B.stays r2⟩
      rcases frames_of hm with z | z
      · rw [hf] at z; exact r3 (Option.some.inj z).symm
      · obtain ⟨_, o, ho, _⟩ := B.frames.mem z
        rw [r2] at ho; cases ho
end

/-- a CONTRACT: what a call does from any state above the base. n: the ledger at the start; ret: what comes back with which ledger; exc: when it raises -/
def Spec (prog : Program) (w : World) (A : Around) (base : Heap) (l : List Env) (f : Value) (args : List Value) (n : List (Addr × Obj)) (ret : Value → List (Addr × Obj) → Prop) (cls : Value) (exc : List (Addr × Obj) → Prop) : Prop :=
  ∀ (g : Heap) (s : Shared) (Q E : Value → Shared → Prop), Below A base l g → g.StaysIn s.heap → g.objs.size ≤ s.heap.objs.size → Led g s.heap n →
    (∀ v h' tk n', ret v n' → g.StaysIn h' → Led g h' n' → Q v { s with heap := h', toks := tk }) →
    (∀ e h' tk n', exc n' → Flies base g l cls n' e h' → E e { s with heap := h', toks := tk }) →
    wpAny (model prog w) A (call f args) Q E s

theorem Spec.use {prog : Program} {w : World} {A₀ : Around} {base h₀ : Heap} {outer : List Env} {env : Env} {f : Value} {args : List Value} {n : List (Addr × Obj)} {ret : Value → List (Addr × Obj) → Prop} {cls : Value} {exc : List (Addr × Obj) → Prop}
    {s : Shared} {L : Addr} {m : Str → Option Value} {news : List (Addr × Obj)} {Q E : Value → Shared → Prop} (S : Spec prog w (A₀.deeper env) base (env :: outer) f args n ret cls exc)
    (B : Below A₀ base outer h₀) (F : Fr h₀ L s.heap m) (N : News h₀ L s.heap news) (rest : List (Addr × Obj)) (hn : ∀ q ∈ n, q ∈ news) (hr : ∀ q ∈ rest, q ∈ news) (hd : ∀ q ∈ rest, ∀ r ∈ n, q.1 ≠ r.1)
    (hf : env.frame = some L) (hk : env.scope.kind = .function)
    (hQ : ∀ v h' tk n', ret v n' → Fr h₀ L h' m → News h₀ L h' (n' ++ rest) → (∀ q ∈ n', ∀ r ∈ rest, q.1 ≠ r.1) → Q v { s with heap := h', toks := tk })
    (hE : ∀ e h' tk n' g, exc n' → Fr h₀ L g m → (∀ q ∈ rest, g.get? q.1 = some q.2 ∧ h₀.get? q.1 = none ∧ q.1 ≠ L) → Flies base g (env :: outer) cls n' e h' → E e { s with heap := h', toks := tk }) :
    wpAny (model prog w) (A₀.deeper env) (call f args) Q E s := by
  have B₁ := pushX B F hf hk
  have base_ne : ∀ b o, h₀.get? b = some o → b ∉ n.map (·.1) := fun b o e q => by
    obtain ⟨r, hr', rfl⟩ := List.mem_map.mp q
    rw [(N r (hn r hr')).2.2] at e; cases e
  have L_ne : L ∉ n.map (·.1) := fun q => by
    obtain ⟨r, hr', e⟩ := List.mem_map.mp q
    exact (N r (hn r hr')).2.1 e
  have st : h₀.StaysIn (hideAll s.heap (n.map (·.1))) := fun b o e => hideAll_get _ (F.keep b o e) (base_ne b o e)
  obtain ⟨oL, es, ep, hL, hLd, hLk, hLf⟩ := F.ns
  have hLg := hideAll_get (n.map (·.1)) hL L_ne
  have FG : Fr h₀ L (hideAll s.heap (n.map (·.1))) m := ⟨⟨oL, es, ep, hLg, hLd, hLk, hLf⟩, st, F.above⟩
  have rest_in : ∀ q ∈ rest, (hideAll s.heap (n.map (·.1))).get? q.1 = some q.2 := fun q hq => hideAll_get _ (N q (hr q hq)).1 fun hm => by
    obtain ⟨r, hr', e⟩ := List.mem_map.mp hm
    exact hd q hq r hr' e.symm
  refine S (hideAll s.heap (n.map (·.1))) s Q E ⟨B₁.stack, fun b o e => st b o (B.stays b o e), funFrames_hideAll B₁.frames fun v hv b hb hfr => ?_⟩ (fun b o e => of_hideAll _ e) (Nat.le_of_eq (hideAll_size _ _))
    (fun q hq => ⟨(N q (hn q hq)).1, hideAll_none _ (List.mem_map_of_mem hq)⟩) (fun v h' tk n' hret k1 k2 => ?_) fun e h' tk n' hexc hfl => hE e h' tk n' _ hexc FG (fun q hq => ⟨rest_in q hq, (N q (hr q hq)).2.2, (N q (hr q hq)).2.1⟩) hfl
  · cases hv with
    | head => rw [hf] at hfr; exact L_ne ((Option.some.inj hfr : L = b) ▸ hb)
    | tail _ hv =>
      obtain ⟨L₁, o₁, hf₁, ho₁⟩ := funFrames_in B.frames v hv
      rw [hf₁] at hfr
      exact base_ne L₁ o₁ ho₁ ((Option.some.inj hfr : L₁ = b) ▸ hb)
  · refine hQ v h' tk n' hret ⟨⟨oL, es, ep, k1 L oL hLg, hLd, hLk, hLf⟩, fun b o e => k1 b o (st b o e), F.above⟩ (fun q hq => ?_) fun q hq r hr' e => ?_
    · rcases List.mem_append.mp hq with hq | hq
      · refine ⟨(k2 q hq).1, fun z => ?_, ?_⟩
        · have := (k2 q hq).2; rw [z, hLg] at this; cases this
        · cases z : h₀.get? q.1 with
          | none => rfl
          | some o => have := (k2 q hq).2; rw [st _ _ z] at this; cases this
      · exact ⟨k1 _ _ (rest_in q hq), (N q (hr q hq)).2⟩
    · have := (k2 q hq).2
      rw [e, rest_in r hr'] at this; cases this
end Mine
open PySem PySem.W PyProof.Rows PySem.Calls PySem.Spec
namespace Mine
set_option maxRecDepth 100000
section
variable {M : Model} {A : Around} {E : Value → Shared → Prop} {s : Shared} {h₀ : Heap} {L a : Addr} {m : Str → Option Value} {cn : Str} {cs : Scope} {ccd : Value} {cl : List (Str × Addr)} {x : Str} {Q : Unit → Shared → Prop} {news : List (Addr × Obj)}
/-- a store, with what it reckons of tokens forgotten -/
theorem storeG_L {v : Value} (F : Fr h₀ L s.heap m) (N : News h₀ L s.heap news)
    (h : ∀ h' tk, Fr h₀ L h' (fun y => if y = x then some v else m y) → News h₀ L h' news → Q () { s with heap := h', toks := tk })
    (hk : cs.kind = .function) (hx : (envX cn cs L a ccd cl).kindOf x = some .local) : wpAny M A (storeName (envX cn cs L a ccd cl) x v) Q E s :=
  storeX_L F N (fun h' => h h' (s.toks + 1)) hk hx
theorem storeI_L {n : Int} {t₀ : Tok} (F : Fr h₀ L s.heap m) (N : News h₀ L s.heap news)
    (h : ∀ h' tk t, Fr h₀ L h' (fun y => if y = x then some (.int n t) else m y) → News h₀ L h' news → Q () { s with heap := h', toks := tk })
    (hk : cs.kind = .function) (hx : (envX cn cs L a ccd cl).kindOf x = some .local) : wpAny M A (storeName (envX cn cs L a ccd cl) x (.int n t₀)) Q E s :=
  storeX_L F N (fun h' => h h' (s.toks + 1) t₀) hk hx
theorem storeB_L {b : Array UInt8} {t₀ : Tok} (F : Fr h₀ L s.heap m) (N : News h₀ L s.heap news)
    (h : ∀ h' tk t, Fr h₀ L h' (fun y => if y = x then some (.bytes b t) else m y) → News h₀ L h' news → Q () { s with heap := h', toks := tk })
    (hk : cs.kind = .function) (hx : (envX cn cs L a ccd cl).kindOf x = some .local) : wpAny M A (storeName (envX cn cs L a ccd cl) x (.bytes b t₀)) Q E s :=
  storeX_L F N (fun h' => h h' (s.toks + 1) t₀) hk hx
end
end Mine
open PySem PySem.W PyProof.Rows PySem.Calls PySem.Spec
namespace Mine
set_option maxRecDepth 100000
section
variable {prog : Program} {w : World} {A : Around} {E : Value → Shared → Prop} {h : Heap} {g : Array GenState} {d : Drawn} {t : Nat} {os : OsState}
variable {nm q : Str} {C N : Addr} {bs bm : List Value} {hdct : Bool} {sn : List Str} {sub : List Value} {ab : Bool} {col : Option Bool} {dd : Option Addr} {k0 k1 k2 k3 k5 : Option Value} {B newId initId : String}
theorem type_call_init (F : ExcBaseFacts B newId initId bm) {mN : Str → Option Value} {rest : List Value} {fI : Addr} {Q : Fin → Shared → Prop} {K : Frag} (Y : K.In h)
    (hC : h.get? C = some (excClassObj nm q C N bs bm hdct sn sub ab col dd k0 k1 k2 k3 k5 newId)) (hn : h.Ns N mN) (hni : mN "__init__" = some (.ref fI)) (hfn : typeIn K (.ref fI) = some (.type "function"))
    (hq : codeAny (model prog w) A (.call (.ref fI) ⟨.ref (h.objs.size + 1) :: rest, []⟩) (fun r s' => match r with | .ok (.ret v) => v = .none ∧ Q (.done (.ret (.ref (h.objs.size + 1)))) s' | .ok _ => False | .error e => E e s')
       ⟨(h.push { cls := .type "tuple", data := .seq rest.toArray }).push { cls := .ref C, data := .fields #[.ref h.objs.size, .none, .none, .none, .bool false, .none] }, g, d, t, os⟩) (hrest : rest.length ≤ sizeLine := by size_fits) :
    wpAny (model prog w) A (Builtin.«type.__call__» ⟨.ref C :: rest, []⟩) Q E ⟨h, g, d, t, os⟩ := by
  repeat (first | with_reducible refine wpAny_loadPart_at hC ?_ | with_reducible refine wpAny_madeBy_exc hC ?_ | wp_step)
  refine codeAny_call_builtin_code (Code.quiet_builtin _ F.quiet) (wpAny_check_new_sub F hC ?_)
  refine codeAny_exc_new_sub F hC ?_ hrest
  show wpAny _ _ _ _ _ _
  have hC₁ := Heap.get?_push_of_some { cls := .ref C, data := .fields #[.ref h.objs.size, .none, .none, .none, .bool false, .none] }
    (Heap.get?_push_of_some { cls := .type "tuple", data := .seq rest.toArray } hC)
  have hn₁ : ((h.push { cls := .type "tuple", data := .seq rest.toArray }).push { cls := .ref C, data := .fields #[.ref h.objs.size, .none, .none, .none, .bool false, .none] }).Ns N mN :=
    let ⟨o, es, ep, e, r⟩ := hn; ⟨o, es, ep, Heap.get?_push_of_some _ (Heap.get?_push_of_some _ e), r⟩
  have hget : ((h.push { cls := .type "tuple", data := .seq rest.toArray }).push
      { cls := .ref C, data := .fields #[.ref h.objs.size, .none, .none, .none, .bool false, .none] }).get? (h.objs.size + 1) = some
      { cls := .ref C, data := .fields #[.ref h.objs.size, .none, .none, .none, .bool false, .none] } := by heap_get
  have hcC : (Value.ref C :: bm).contains (.ref C) = true := by simp
  unfold isInstance
  repeat (first | with_reducible refine wpAny_loadPart_at hget ?_ | (with_reducible refine wpAny_isSubtype_exc hC₁ ?_; rw [hcC]) | wp_step)
  show wpAny _ _ (typeLookup (.ref C) _) _ _ _
  refine wpAny_typeLookup_exc hC₁ hn₁ F.mroIs F.init.lookup ?_
  rw [hni]
  dsimp only
  refine wpAny_holding (wpAny_bind ((bind_fn (Y.keeps fun b o e => Heap.get?_push_of_some _ (Heap.get?_push_of_some _ e)) _ hfn).here ?_))
  dsimp only
  refine wpAny_bind (wpAny_call (codeAny_mono hq fun r s' hr => ?_))
  match r, hr with
  | .ok (.ret v), ⟨e1, e2⟩ =>
    subst e1
    exact wpAny_pure (wpAny_pure e2)
  | .error e, hr => exact hr

theorem call_init (F : ExcBaseFacts B newId initId bm) {mN : Str → Option Value} {rest : List Value} {fI : Addr} {Q : Value → Shared → Prop} {K : Frag} (Y : K.In h)
    (hC : h.get? C = some (excClassObj nm q C N bs bm hdct sn sub ab col dd k0 k1 k2 k3 k5 newId)) (hn : h.Ns N mN) (hni : mN "__init__" = some (.ref fI)) (hfn : typeIn K (.ref fI) = some (.type "function"))
    (hq : codeAny (model prog w) (A.under (.builtin "type.__call__" ⟨.ref C :: rest, []⟩)) (.call (.ref fI) ⟨.ref (h.objs.size + 1) :: rest, []⟩) (fun r s' => match r with | .ok (.ret v) => v = .none ∧ Q (.ref (h.objs.size + 1)) s' | .ok _ => False | .error e => E e s')
       ⟨(h.push { cls := .type "tuple", data := .seq rest.toArray }).push { cls := .ref C, data := .fields #[.ref h.objs.size, .none, .none, .none, .bool false, .none] }, g, d, t, os⟩) (hrest : rest.length ≤ sizeLine := by size_fits) :
    wpAny (model prog w) A (call (.ref C) rest) Q E ⟨h, g, d, t, os⟩ := by
  have f1 := tc_lookup
  have f2 := tc_bind (.ref C)
  have hT : (⟨h, g, d, t, os⟩ : Shared).TypeIs (.ref C) "type" := ⟨_, hC, rfl⟩
  refine wpAny_call (codeAny_of_tree ?_)
  show wpAny _ _ (callAny (.ref C) _) _ _ _
  repeat (any_goals (first | assumption | with_reducible refine wpAny_loadPart_at hC ?_ | wp_step))
  refine ⟨rfl, ?_⟩
  refine codeAny_call_builtin_at (Code.quiet_builtin _ (by decide +kernel)) entry_typeCall (wpAny_check_type_call_sub hC (type_call_init (hrest := hrest) F Y hC hn hni hfn ?_))
  exact hq
end
end Mine
open PySem PySem.W PyProof.Rows PySem.Calls PySem.Spec
namespace Mine
set_option maxRecDepth 100000
abbrev excO (C t : Addr) : Obj := { cls := .ref C, data := .fields #[.ref t, .none, .none, .none, .bool false, .none] }
abbrev tupO (l : List Value) : Obj := { cls := .type "tuple", data := .seq l.toArray }
theorem meta_Exception : typeOf (.type "Exception") = pure (.type "type") := by with_unfolding_all rfl
theorem stub_Exception : Manifest.isStub "Exception" = false := by decide +kernel
section
variable {prog : Program} {w : World} {A : Around} {E : Value → Shared → Prop} {s : Shared} {h₀ : Heap} {L : Addr} {m : Str → Option Value} {news : List (Addr × Obj)}
variable {nm q : Str} {C N : Addr} {bs bm : List Value} {hdct : Bool} {sn : List Str} {sub : List Value} {ab : Bool} {col : Option Bool} {dd : Option Addr} {k0 k1 k2 k3 k5 : Option Value} {B newId initId : String}
/-- the base's __init__ upon an exception of the ledger lays new arguments -/
theorem exc_init {rest : List Value} {e t₀ : Addr} {Q : Value → Shared → Prop} (XB : ExcBaseFacts B newId initId bm) (F : Fr h₀ L s.heap m) (Nw : News h₀ L s.heap ((e, excO C t₀) :: news)) (hne : ∀ r ∈ news, r.1 ≠ e)
    (hC : s.heap.get? C = some (excClassObj nm q C N bs bm hdct sn sub ab col dd k0 k1 k2 k3 k5 newId))
    (h : ∀ t₁ h', Fr h₀ L h' m → News h₀ L h' ((t₁, tupO rest) :: (e, excO C t₁) :: news) → Q .none { s with heap := h' }) (hrest : rest.length ≤ sizeLine := by size_fits) :
    wpAny (model prog w) A (call (.builtin initId) (.ref e :: rest)) Q E s := by
  obtain ⟨hp, g, d, t, os⟩ := s
  have hget := (Nw (e, excO C t₀) (.head _)).1
  refine wpAny_call (codeAny_call_builtin XB.init.plain XB.initEntry (wpAny_check_init_sub XB hC hget rfl ?_))
  wp_walk
  have e_lt : e < hp.objs.size := Heap.lt_size hget
  obtain ⟨F2, N2⟩ := news_upd (f := Obj.mapFields fun x => x.setIfInBounds 0 (Value.ref hp.objs.size)) (o' := excO C hp.objs.size) (pre := [(hp.objs.size, tupO rest)]) (post := news) (F.push (tupO rest)) (News.push F Nw (tupO rest))
    (fun r hr => by rw [List.mem_singleton.mp hr]; exact Nat.ne_of_gt e_lt) hne rfl rfl
  exact h hp.objs.size _ F2 N2
end
theorem ns_some_of {K : Frag} {h : Heap} {N : Addr} {mg : Str → Option Value} {n : Str} {v : Value} (X : K.In h) (G : h.Ns N mg) (e : nsIn K N n = some (some v)) : mg n = some v := by
  obtain ⟨o, es, ep, ho, hd, _, hf⟩ := G
  unfold nsIn at e
  split at e
  · rename_i q
    have y := X _ _ q
    rw [ho] at y
    cases y
    cases hd
    split at e
    · rename_i en he
      cases e
      rw [← hf]
      unfold nsFind findBy
      rw [← Array.find?_toList, he]
      rfl
    · split at e <;> cases e
  · cases e
end Mine
open PySem PySem.W PyProof.Rows PySem.Calls PySem.Spec
namespace Mine
set_option maxRecDepth 100000
abbrev TheM (w : World) : Model := model PySem.Challenge.rw_jq0004_03.row.prog w

theorem clsK (w : World) : ∃ nm q bs a1 a2 a3 a4 a5 a6 k0 k1 k2 k3 k5, (hd.heap_39 w.params).lookup 32 = some (excClassObj nm q 32 31 bs [.type "Exception", .type "BaseException", .type "object"] a1 a2 a3 a4 a5 a6 k0 k1 k2 k3 k5 "Exception.__new__") := by
  have hfill : (fun _ : OpenLaw => hd.heap_39) PySem.Challenge.rw_jq0004_03 = hd.heap_39 := by (k_fill; rfl)
  exact ⟨_, _, _, _, _, _, _, _, _, _, _, _, _, _, by k_dflt k_is⟩

set_option maxHeartbeats 8000000 in
theorem init_walk (w : World) {p : Program} {loose : List Str} {mean : ExcName → Option Value} {mg mb : Str → Option Value}
   (A : Around) (g : Heap) (s : Shared) (R : Result → Shared → Prop) (x : Str) (tx : Tok) (e t0 : Addr)
   (X : (hd.heap_39 w.params).In g) (T : Top p loose mean mg mb g) (hg : g.StaysIn s.heap) (hsz : g.objs.size ≤ s.heap.objs.size)
   (N : Led g s.heap [(e, excO 32 t0)]) (hdp : A.depth < recursionLimit)
   (hret : ∀ h' tk t1, g.StaysIn h' → Led g h' [(t1, tupO [.str x tx]), (e, excO 32 t1)] → R (.ok (.ret .none)) { s with heap := h', toks := tk }) :
   codeAny (TheM w) A (.call (.ref 29) ⟨[.ref e, .str x tx], []⟩) R s := by
  have hfill : (fun _ : OpenLaw => hd.heap_39) PySem.Challenge.rw_jq0004_03 = hd.heap_39 := by (k_fill; rfl)
  clear hfill
  k_dflt (refine' enter_def hg hsz N X T ?k6 ?k7 ?k8 ?k9 ?kB ?_ ?c2 ?c3 ?c4 ?c5; (case k6 => k_is); (case k7 => k_is); (case k8 => exact hdp); (case k9 => exact binds_K (X.keeps hg) rfl (by k_is) rfl rfl rfl); (case c5 => decide); (case kB => exact locs rfl); (case c2 => exact rfl); (case c3 => exact rfl); (case c4 => exact rfl); k_whole; intro L' h' F' N' l1; (try dsimp only); (try k_fold))
  obtain ⟨_, _, _, _, _, _, _, _, _, _, _, _, _, _, hCK⟩ := clsK w
  k_with_none
  k_with "getMethod type:Exception" => (refine' method_type ?F ?X meta_Exception stub_Exception ?e ?h ?_; (case F => k_asm); (case X => k_asm); (case e => k_dflt k_is); (case h => k_handed))
  k_with "call builtin:Exception.__init__" => ((rename Fr _ _ _ _ => kF); (rename News _ _ _ _ => kN); refine' exc_init PySem.F.excBase_Exception kF kN (fun _ h => nomatch h) (kF.keep _ _ (X _ _ hCK)) ?_; intro t1 h1 F1 N1)
  k_steps
  all_goals exact hret _ _ _ (Fr.keep (by assumption)) (Led.of_news (by assumption))

/-- the class of the errors, called with a text -/
theorem call_ADE (w : World) {p : Program} {loose : List Str} {mean : ExcName → Option Value} {mg mb : Str → Option Value} {A : Around} {s : Shared} {Q E : Value → Shared → Prop} {x : Str} {tx : Tok}
   (X : (hd.heap_39 w.params).In s.heap) (T : Top p loose mean mg mb s.heap) (hdp : A.depth + 1 < recursionLimit)
   (hQ : ∀ ea h' tk, Heap.MadeExcOf s.heap h' ea (.ref 32) [.str x tx] → Q (.ref ea) { s with heap := h', toks := tk }) :
   wpAny (TheM w) A (call (.ref 32) [.str x tx]) Q E s := by
  obtain ⟨h, gs, d, t, os⟩ := s
  have hfill : (fun _ : OpenLaw => hd.heap_39) PySem.Challenge.rw_jq0004_03 = hd.heap_39 := by (k_fill; rfl)
  clear hfill
  obtain ⟨_, _, _, _, _, _, _, _, _, _, _, _, _, _, hCK⟩ := clsK w
  have hns : h.Ns 31 (h.nsMap 31) := Heap.Ns.of_isNs (isNs_of_in X (by kernel_rfl))
  refine call_init PySem.F.excBase_Exception X (X _ _ hCK) hns (ns_some_of X hns (v := .ref 29) (by k_dflt k_is)) (by k_dflt k_is) ?_ (show 1 ≤ sizeLine from by decide)
  have hst : h.StaysIn ((h.push { cls := .type "tuple", data := .seq [Value.str x tx].toArray }).push { cls := .ref 32, data := .fields #[.ref h.objs.size, .none, .none, .none, .bool false, .none] }) := fun b o e => Heap.get?_push_of_some _ (Heap.get?_push_of_some _ e)
  refine init_walk w (g := h) (t0 := h.objs.size) (X := X) (T := T) (hg := hst) (hsz := ?_) (N := ?_) (hdp := ?_) (hret := ?_)
  · show h.objs.size ≤ ((h.push _).push _).objs.size
    rw [Heap.size_push, Heap.size_push]; omega
  · intro r hr
    rw [List.mem_singleton.mp hr]
    exact ⟨by heap_get, Heap.get?_none_of_le (Nat.le_succ _)⟩
  · rw [depth_under_make]; exact hdp
  · intro h' tk t1 k1 k2
    refine ⟨rfl, hQ _ h' tk ⟨k1, (k2 _ (.tail _ (.head _))).2, t1, (k2 _ (.tail _ (.head _))).1, (k2 _ (.head _)).2, (k2 _ (.head _)).1⟩⟩

/-- what the message's reckoning must hand on -/
def Told1 (C : Addr) (h₀ : Heap) (E : Value → Shared → Prop) (vs : List Value) (s₂ : Shared) : Prop :=
  ∃ x tx, vs = [.str x tx] ∧ h₀.StaysIn s₂.heap ∧ ∀ h' ea tk, Heap.MadeExcOf s₂.heap h' ea (.ref C) [.str x tx] → E (.ref ea) { s₂ with heap := h', toks := tk }

theorem Raise_ADE (w : World) {p : Program} {loose : List Str} {mean : ExcName → Option Value} {mg mb : Str → Option Value} {A : Around} {s : Shared} {Q : Flow → Shared → Prop} {E : Value → Shared → Prop}
   {h₀ : Heap} {L a : Addr} {m : Str → Option Value} {cn : Str} {cs : Scope} {ccd : Value} {cl : List (Str × Addr)} {e₀ : Expr} {np cpos pos : Pos}
   (F : Fr h₀ L s.heap m) (X : (hd.heap_39 w.params).In h₀) (T : Top p loose mean mg mb h₀) (hh : A.handled = none) (hdp : A.depth + 1 < recursionLimit)
   (h : wpAny (TheM w) A (spliced (backTo cpos (starEach [e₀] (envX cn cs L a ccd cl)))) (Told1 32 h₀ E) E s)
   (he : starEach [e₀] (envX cn cs L a ccd cl) = [(false, eval e₀ (envX cn cs L a ccd cl))] := by rfl)
   (hk : cs.kind = .function := by rfl) (hx : (envX cn cs L a ccd cl).kindOf (Str.ofString "ApplyDeltaError") = some .globalImplicit := by rfl) :
   wpAny (TheM w) A (exec (.Raise (some (.Call (.Name (Str.ofString "ApplyDeltaError") np) [e₀] [] cpos)) none pos) (envX cn cs L a ccd cl)) Q E s := by
  have hfill : (fun _ : OpenLaw => hd.heap_39) PySem.Challenge.rw_jq0004_03 = hd.heap_39 := by (k_fill; rfl)
  clear hfill
  obtain ⟨nm, q, bs, a1, a2, a3, a4, a5, a6, k0, k1, k2, k3, k5, hCK⟩ := clsK w
  rw [arm_exec_Raise]
  simp only [evalOpt, Option.map]
  refine wpAny_bind (wpAny_standAt (wpAny_raiseStmt_made_sub (C := 32) (nm := nm) (q := q) (N := 31) (bs := bs) (bm := [.type "Exception", .type "BaseException", .type "object"]) (hdct := a1) (sn := a2) (sub := a3) (ab := a4) (col := a5) (dd := a6) (k0 := k0) (k1 := k1) (k2 := k2) (k3 := k3) (k5 := k5) (newId := "Exception.__new__")
    (by decide) hh (wpAny_bind (wpAny_mono (wpAny_Call_ofName (nameX_K F X (topRead_of T) (v := .ref 32) (by k_dflt k_is) ?_ hk hx (by decide))) (fun v s₃ h₃ => wpAny_bind (wpAny_standAt (wpAny_pure h₃))) fun _ _ x => x))))
  refine callWith_K (K := hd.heap_39 w.params) X (by k_dflt k_is) (wpAny_mono h (fun vs s₂ h₂ => ?_) fun _ _ x => x) he (by rfl)
  obtain ⟨x, tx, rfl, hst, hE⟩ := h₂
  refine ⟨X.keeps hst, ?_⟩
  refine call_ADE w (X.keeps hst) (T.keeps hst) hdp fun ea h' tk hm => ?_
  obtain ⟨t, ht, _, _⟩ := hm.there
  exact ⟨ea, t, rfl, hm.keeps _ _ (X.keeps hst _ _ hCK), ht, hE h' ea tk hm⟩
end Mine
open PySem PySem.W PyProof.Rows PySem.Calls PySem.Spec
namespace Mine
set_option maxRecDepth 100000
/-- the part from i to j of a list, as Python cuts it for bounds that are not negative -/
def cut (ks : List Int) (i j : Int) : List Int := (ks.drop i.toNat).take (j.toNat - i.toNat)
theorem cut_len (ks : List Int) (i j : Int) (h0 : 0 ≤ i) (h1 : i ≤ j) (h2 : j ≤ ks.length) : ((cut ks i j).length : Int) = j - i := by
  unfold cut
  obtain ⟨a, rfl⟩ := Int.eq_ofNat_of_zero_le h0
  obtain ⟨b, rfl⟩ := Int.eq_ofNat_of_zero_le (Int.le_trans h0 h1)
  rw [List.length_take, List.length_drop, Int.toNat_natCast, Int.toNat_natCast, Nat.min_eq_left (Nat.sub_le_sub_right (Int.ofNat_le.mp h2) a), Int.ofNat_sub (Int.ofNat_le.mp h1)]
theorem cut_len_le (ks : List Int) (i j : Int) : (cut ks i j).length ≤ ks.length := by
  unfold cut; rw [List.length_take, List.length_drop]; exact Nat.le_trans (Nat.min_le_right _ _) (Nat.sub_le _ _)
theorem clip_up (n : Nat) {i : Int} (h : 0 ≤ i) : clipAt n i = min i.toNat n := by
  unfold clipAt
  obtain ⟨a, rfl⟩ := Int.eq_ofNat_of_zero_le h
  rw [if_neg (Int.not_lt.mpr h), Int.max_eq_right (Int.le_min.mpr ⟨h, Int.natCast_nonneg n⟩), Int.toNat_natCast]
  by_cases q : a ≤ n
  · rw [Int.min_eq_left (Int.ofNat_le.mpr q), Nat.min_eq_left q]; rfl
  · have q2 := Nat.le_of_not_le q
    rw [Int.min_eq_right (Int.ofNat_le.mpr q2), Nat.min_eq_right q2]; rfl
theorem cut_clip (ks : List Int) {i j : Int} (hi : 0 ≤ i) (hj : 0 ≤ j) : (ks.drop (clipAt ks.length i)).take (clipAt ks.length j - clipAt ks.length i) = cut ks i j := by
  rw [clip_up _ hi, clip_up _ hj]
  unfold cut
  by_cases h : i.toNat ≤ ks.length
  · rw [Nat.min_eq_left h]
    by_cases h2 : j.toNat ≤ ks.length
    · rw [Nat.min_eq_left h2]
    · rw [Nat.min_eq_right (by omega), List.take_of_length_le (by rw [List.length_drop]; exact Nat.le_refl _), List.take_of_length_le (by rw [List.length_drop]; omega)]
  · rw [Nat.min_eq_right (by omega : ks.length ≤ i.toNat), List.drop_of_length_le (Nat.le_refl _), List.drop_of_length_le (by omega)]
    simp
theorem cut_one (ks : List Int) (i : Int) (h0 : 0 ≤ i) (h1 : i < ks.length) : cut ks i (i + 1) = [ks.getD i.toNat 0] := by
  unfold cut
  have e : (i + 1).toNat - i.toNat = 1 := by omega
  rw [e]
  have hl : i.toNat < ks.length := by omega
  rw [List.drop_eq_getElem_cons hl, List.take_succ_cons, List.take_zero, List.getD_eq_getElem?_getD, List.getElem?_eq_getElem hl]
  rfl
theorem cut_one' (ks : List Int) (i j : Int) (h0 : 0 ≤ i) (h1 : i < ks.length) (e : j = i + 1) : cut ks i j = [ks.getD i.toNat 0] := by subst e; exact cut_one ks i h0 h1
/-- octets -/
def Oct (ks : List Int) : Prop := ∀ k ∈ ks, 0 ≤ k ∧ k < 256
theorem oct_of {b : Array UInt8} {ks : List Int} (h : KBw.bInts b = ks) : Oct ks := by subst h; exact fun k hk => KBw.ints_in hk
theorem Oct.getD {ks : List Int} (h : Oct ks) (j : Nat) : 0 ≤ ks.getD j 0 ∧ ks.getD j 0 < 256 := KBw.getD_in h
theorem size_of {b : Array UInt8} {ks : List Int} (h : KBw.bInts b = ks) : b.size = ks.length := by subst h; exact (KBw.ints_length b).symm
section
variable {prog : Program} {w : World} {A : Around} {E : Value → Shared → Prop} {s : Shared} {value slice : PySem.Expr} {b : Array UInt8} {t : Tok} {h₀ : Heap} {L : Addr} {m : PySem.Str → Option Value} {news : List (Addr × Obj)} {Q : Value → Shared → Prop} {ks : List Int}
theorem ord_bytes {c : Array UInt8} {v : Int} (hc : KBw.bInts c = [v]) (h : ∀ t k, 0 ≤ v → v < 256 → Q (.int v t) { s with toks := k }) : wpAny (model prog w) A (call (.builtin "ord") [.bytes c t]) Q E s := by
  have hin := KBw.ints_in (b := c) (k := v) (by rw [hc]; exact .head _)
  obtain ⟨l⟩ := c
  match l, hc with
  | [x], hc =>
    have hx : (x.toNat : Int) = v := by simpa [KBw.bInts] using hc
    refine call_function_entry F.kind_ord F.plain_ord F.entry_ord (F.args_ord1 _) ?_
    refine wpAny_mono (Q := fun fin s' => fin = .done (.ret (.int (x.toNat : Nat) s.toks)) ∧ s' = { s with toks := s.toks + 1 }) (E := E) ?_ (fun fin s' z => ?_) fun _ _ z => z
    · exact fun Γ p hΓ => ⟨rfl, rfl⟩
    · obtain ⟨rfl, rfl⟩ := z
      exact ⟨_, rfl, by rw [hx]; exact h _ _ hin.1 hin.2⟩
theorem slice_ij {i j : Int} {ti tj : Tok} (hF : Fr h₀ L s.heap m) (hN : News h₀ L s.heap news) (hk : KBw.bInts b = ks) (hi : 0 ≤ i) (hj : 0 ≤ j) (hz : ks.length ≤ 16777216)
    (h : ∀ c h' t' k, Fr h₀ L h' m → News h₀ L h' news → KBw.bInts c = cut ks i j → Q (.bytes c t') { s with heap := h', toks := k })
    (hs : subscripted slice false (.bytes b t) (.ref s.heap.objs.size) = operate [.ref s.heap.objs.size, .bytes b t] (getItem (.bytes b t) (.ref s.heap.objs.size)) := by with_unfolding_all rfl)
    (ht : ∀ r, letTemporaryGo value (.bytes b t) r = pure () := by intro _; with_unfolding_all rfl) :
    wpAny (model prog w) A (subscriptTail value slice (.bytes b t) (.ref s.heap.objs.size)) Q E { s with heap := s.heap.push { cls := .type "slice", data := .fields #[.int i ti, .int j tj, .none] } } :=
  KBc.slice_K hF hN hk (.int i ti) (.int j tj) hz (fun h' t' k F' N' e => h _ h' t' k F' N' (by rw [e]; exact cut_clip ks hi hj)) hs ht
theorem slice_i {i : Int} {ti : Tok} (hF : Fr h₀ L s.heap m) (hN : News h₀ L s.heap news) (hk : KBw.bInts b = ks) (hi : 0 ≤ i) (hz : ks.length ≤ 16777216)
    (h : ∀ c h' t' k, Fr h₀ L h' m → News h₀ L h' news → KBw.bInts c = ks.drop i.toNat → Q (.bytes c t') { s with heap := h', toks := k })
    (hs : subscripted slice false (.bytes b t) (.ref s.heap.objs.size) = operate [.ref s.heap.objs.size, .bytes b t] (getItem (.bytes b t) (.ref s.heap.objs.size)) := by with_unfolding_all rfl)
    (ht : ∀ r, letTemporaryGo value (.bytes b t) r = pure () := by intro _; with_unfolding_all rfl) :
    wpAny (model prog w) A (subscriptTail value slice (.bytes b t) (.ref s.heap.objs.size)) Q E { s with heap := s.heap.push { cls := .type "slice", data := .fields #[.int i ti, .none, .none] } } := by
  refine KBc.slice_K hF hN hk (.int i ti) .none hz (fun h' t' k F' N' e => h _ h' t' k F' N' ?_) hs ht
  rw [e]
  show (ks.drop (clipAt ks.length i)).take (ks.length - clipAt ks.length i) = ks.drop i.toNat
  rw [List.take_of_length_le (by rw [List.length_drop]; exact Nat.le_refl _), clip_up _ hi]
  by_cases h : i.toNat ≤ ks.length
  · rw [Nat.min_eq_left h]
  · rw [Nat.min_eq_right (by omega), List.drop_of_length_le (Nat.le_refl _), List.drop_of_length_le (by omega)]
theorem len_b (hk : KBw.bInts b = ks) (hz : ks.length ≤ 1099511627776) (h : ∀ t k, Q (.int ks.length t) { s with toks := k }) : wpAny (model prog w) A (call (.builtin "len") [.bytes b t]) Q E s :=
  KBw.len_K hk hz (h _ _)
end
theorem loadX_L {M : Model} {A : Around} {E : Value → Shared → Prop} {s : Shared} {h₀ : Heap} {L a : Addr} {m : Str → Option Value} {cn : Str} {cs : Scope} {ccd : Value} {cl : List (Str × Addr)} {x : Str} {v : Value} {Q : Value → Shared → Prop}
    (F : Fr h₀ L s.heap m) (hv : m x = some v) (h : Q v s) (hk : cs.kind = .function := by rfl) (hx : (envX cn cs L a ccd cl).kindOf x = some .local := by rfl) :
    wpAny M A (loadName (envX cn cs L a ccd cl) x) Q E s := wpAny_loadName_local hk hx F.ns hv h
end Mine
namespace Mine
section
variable {prog : Program} {w : World} {A : Around} {E : Value → Shared → Prop} {s : Shared}
theorem lshift_any {a n : Int} {t u : Tok} {Q : Value → Shared → Prop} (hn : 0 ≤ n) (hn2 : n ≤ 1000000) (ha : a.natAbs < 2 ^ 64) (h : ∀ t' k, Q (.int (a * 2 ^ n.toNat) t') { s with toks := k }) :
    wpAny (model prog w) A (binaryOp .LShift (.int a t) (.int n u)) Q E s := lshift_int_small hn hn2 ha (h _ _)
theorem fmt_int {a : Int} {t : Tok} {Q : Value → Shared → Prop} (hh : A.handled = none) (hn : s.heap.NoDigits) (hb : a.natAbs < 2 ^ 12900)
    (h : ∀ x t' k, Str.length x ≤ 4301 → Q (.str x t') { s with toks := k }) : wpAny (model prog w) A (formatField (.int a t) Str.empty) Q E s :=
  formatField_int hh hn (fun h1 => h _ _ _ (by rw [PySem.ofString_length]; exact int_text_length_le10 (by decide) h1)) (fun h2 => absurd hb (Nat.not_lt.mpr (Nat.le_trans pow_lo h2)))
end
end Mine
open PySem PySem.W PyProof.Rows PySem.Calls PySem.Spec
namespace Mine
/-- git's length: the value and the number of octets -/
def sizeL : List Int → Option (Int × Nat)
  | [] => none
  | c :: r => if c < 128 then some (c, 1) else (sizeL r).map fun q => (c - 128 + 128 * q.1, q.2 + 1)
/-- between the turns of the loop that reads a length from place i₀ on -/
def hdrInv (ks : List Int) (i₀ : Int) (index size i : Int) : Prop :=
  ∃ j : Nat, i = 7 * (j : Int) ∧ index = i₀ + j ∧ 0 ≤ size ∧ size < 2 ^ (7 * j) ∧ index ≤ ks.length ∧
    sizeL (ks.drop i₀.toNat) = (sizeL (ks.drop index.toNat)).map fun q => (size + 2 ^ (7 * j) * q.1, j + q.2)
theorem hdrInv_start (ks : List Int) (i₀ : Int) (h : i₀ ≤ ks.length) : hdrInv ks i₀ i₀ 0 0 :=
  ⟨0, by simp, by simp, by simp, by simp, h, by cases sizeL (ks.drop i₀.toNat) <;> simp⟩
theorem oct_bits : ∀ n : Fin 256, Builtin.bitAnd ((n.val : Nat) : Int) (Builtin.bitNot 128) = ((n.val % 128 : Nat) : Int) ∧ Builtin.bitAnd ((n.val : Nat) : Int) 128 = (if n.val < 128 then 0 else 128) := by decide +kernel
theorem oct_low {c : Int} (h0 : 0 ≤ c) (h1 : c < 256) : Builtin.bitAnd c (Builtin.bitNot 128) = c % 128 := by
  have h := (oct_bits ⟨c.toNat, by omega⟩).1
  have e : ((c.toNat : Nat) : Int) = c := Int.toNat_of_nonneg h0
  simp only at h
  rw [e] at h
  rw [h]; omega
theorem oct_high {c : Int} (h0 : 0 ≤ c) (h1 : c < 256) : Builtin.bitAnd c 128 = if c < 128 then 0 else 128 := by
  have h := (oct_bits ⟨c.toNat, by omega⟩).2
  have e : ((c.toNat : Nat) : Int) = c := Int.toNat_of_nonneg h0
  simp only at h
  rw [e] at h
  rw [h]
  by_cases hc : c < 128
  · rw [if_pos hc, if_pos (by omega)]
  · rw [if_neg hc, if_neg (by omega)]
theorem nat_or (k a v : Nat) (h : a < 2 ^ k) : a ||| v * 2 ^ k = a + v * 2 ^ k := by
  have := Nat.two_pow_add_eq_or_of_lt h v
  rw [Nat.mul_comm (2 ^ k) v] at this
  rw [Nat.or_comm, ← this, Nat.add_comm]
theorem bitOr_nat (a b : Nat) : Builtin.bitOr (a : Int) (b : Int) = ((a ||| b : Nat) : Int) := by
  unfold Builtin.bitOr Builtin.bitAnd Builtin.bitNot
  have h1 : decide ((0 : Int) ≤ -(a : Int) - 1) = false := decide_eq_false (by omega)
  have h2 : decide ((0 : Int) ≤ -(b : Int) - 1) = false := decide_eq_false (by omega)
  simp only [h1, h2]
  have e1 : (-(-(a : Int) - 1) - 1).toNat = a := by omega
  have e2 : (-(-(b : Int) - 1) - 1).toNat = b := by omega
  simp only [e1, e2]
  omega
/-- what is laid above the bits there are is added -/
theorem or_above {a v : Int} {k : Nat} (h0 : 0 ≤ a) (h1 : a < 2 ^ k) (hv : 0 ≤ v) : Builtin.bitOr a (v * 2 ^ k) = a + v * 2 ^ k := by
  obtain ⟨a, rfl⟩ := Int.eq_ofNat_of_zero_le h0
  obtain ⟨v, rfl⟩ := Int.eq_ofNat_of_zero_le hv
  have e : ((v : Int) * 2 ^ k) = ((v * 2 ^ k : Nat) : Int) := by push_cast; rfl
  have h1' : a < 2 ^ k := by
    have : ((a : Nat) : Int) < ((2 ^ k : Nat) : Int) := by push_cast; exact h1
    exact_mod_cast this
  rw [e, bitOr_nat, nat_or k a v h1']
  push_cast; rfl
section
variable {ks : List Int} {i₀ ix sz sh : Int}
theorem drop_at (h0 : 0 ≤ ix) (h1 : ¬ (ks.length : Int) ≤ ix) : ks.drop ix.toNat = ks.getD ix.toNat 0 :: ks.drop (ix + 1).toNat := by
  have hl : ix.toNat < ks.length := by omega
  have e : (ix + 1).toNat = ix.toNat + 1 := by omega
  rw [e, List.drop_eq_getElem_cons hl, List.getD_eq_getElem?_getD, List.getElem?_eq_getElem hl]
  rfl
theorem hdr_fail (h : hdrInv ks i₀ ix sz sh) (h0 : 0 ≤ i₀) (h1 : (ks.length : Int) ≤ ix) : sizeL (ks.drop i₀.toNat) = none := by
  obtain ⟨j, _, e2, _, _, _, e⟩ := h
  rw [e, List.drop_of_length_le (by omega)]
  rfl
theorem hdr_next (h : hdrInv ks i₀ ix sz sh) (h0 : 0 ≤ i₀) (h1 : ¬ (ks.length : Int) ≤ ix) (hlo : 0 ≤ ks.getD ix.toNat 0) (hhi : ks.getD ix.toNat 0 < 256) (hb : Builtin.bitAnd (ks.getD ix.toNat 0) 128 ≠ 0) :
    hdrInv ks i₀ (ix + 1) (Builtin.bitOr sz (Builtin.bitAnd (ks.getD ix.toNat 0) (Builtin.bitNot 128) * 2 ^ sh.toNat)) (sh + 7) := by
  obtain ⟨j, rfl, e2, hs0, hs1, _, e⟩ := h
  have hsh : (7 * (j : Int)).toNat = 7 * j := by omega
  rw [oct_high hlo hhi] at hb
  rw [oct_low hlo hhi, hsh, or_above hs0 hs1 (by omega)]
  have hc : ¬ ks.getD ix.toNat 0 < 128 := fun q => hb (if_pos q)
  rw [drop_at (by omega) h1] at e
  simp only [sizeL] at e
  rw [if_neg hc] at e
  generalize ks.getD ix.toNat 0 = c at *
  have p1 : (2 : Int) ^ (7 * (j + 1)) = 2 ^ (7 * j) * 128 := by rw [Nat.mul_add, Int.pow_add]; rfl
  have pp : (0 : Int) < 2 ^ (7 * j) := kbt_pos _
  have hm : c % 128 = c - 128 := by omega
  have hmul : (c - 128) * 2 ^ (7 * j) ≤ 127 * 2 ^ (7 * j) := Int.mul_le_mul_of_nonneg_right (by omega) (Int.le_of_lt pp)
  have hmul0 : 0 ≤ (c - 128) * 2 ^ (7 * j) := Int.mul_nonneg (by omega) (Int.le_of_lt pp)
  refine ⟨j + 1, by push_cast; omega, by push_cast; omega, by rw [hm]; omega, by rw [hm, p1]; omega, by omega, ?_⟩
  rw [e]
  cases sizeL (List.drop (ix + 1).toNat ks) with
  | none => rfl
  | some q =>
    simp only [Option.map_some, Option.some.injEq, Prod.mk.injEq]
    refine ⟨?_, by omega⟩
    rw [hm, p1, Int.mul_add, Int.mul_comm (c - 128) (2 ^ (7 * j)), Int.mul_assoc]
    omega
theorem hdr_done (h : hdrInv ks i₀ ix sz sh) (h0 : 0 ≤ i₀) (h1 : ¬ (ks.length : Int) ≤ ix) (hlo : 0 ≤ ks.getD ix.toNat 0) (hhi : ks.getD ix.toNat 0 < 256) (hb : Builtin.bitAnd (ks.getD ix.toNat 0) 128 = 0) :
    ∃ k : Nat, sizeL (ks.drop i₀.toNat) = some (Builtin.bitOr sz (Builtin.bitAnd (ks.getD ix.toNat 0) (Builtin.bitNot 128) * 2 ^ sh.toNat), k) ∧ ix + 1 = i₀ + k := by
  obtain ⟨j, rfl, e2, hs0, hs1, _, e⟩ := h
  have hsh : (7 * (j : Int)).toNat = 7 * j := by omega
  rw [oct_high hlo hhi] at hb
  rw [oct_low hlo hhi, hsh, or_above hs0 hs1 (by omega)]
  have hc : ks.getD ix.toNat 0 < 128 := by
    by_cases q : ks.getD ix.toNat 0 < 128
    · exact q
    · rw [if_neg q] at hb; exact absurd hb (by decide)
  rw [drop_at (by omega) h1] at e
  simp only [sizeL] at e
  rw [if_pos hc] at e
  generalize ks.getD ix.toNat 0 = c at *
  refine ⟨j + 1, ?_, by push_cast; omega⟩
  rw [e]
  have hm : c % 128 = c := by omega
  simp only [Option.map_some, hm, Int.mul_comm]
theorem shift_oct {c : Int} (h0 : 0 ≤ c) (h1 : c < 256) : (Builtin.bitAnd c (Builtin.bitNot 128)).natAbs < 2 ^ 64 := by
  rw [oct_low h0 h1]; omega
end
end Mine
namespace Mine
set_option maxRecDepth 100000
section
variable {prog : Program} {w : World} {A : Around} {E : Value → Shared → Prop} {Q : Flow → Shared → Prop} {s : Shared} {env : Env} {h₀ : Heap} {L : Addr}
abbrev HdrS := Int × Tok × Int × Tok × Int × Tok
abbrev hdrPs (c : HdrS) : List (Str × Value) := [(Str.ofString "index", .int c.1 c.2.1), (Str.ofString "size", .int c.2.2.1 c.2.2.2.1), (Str.ofString "i", .int c.2.2.2.2.1 c.2.2.2.2.2)]
abbrev hdrStored : List Str := ["index", "size", "i", "cmd"]
abbrev hdrP (ks : List Int) (i₀ : Int) (c : HdrS) : Prop := hdrInv ks i₀ c.1 c.2.2.1 c.2.2.2.2.1
abbrev hdrM (ks : List Int) (c : HdrS) : Nat := (ks.length - c.1).toNat
theorem hdr_loop {test : Expr} {body : List Stmt} {pos : Pos} {m₀ : Str → Option Value} {news : List (Addr × Obj)} (ks : List Int) {i₀ : Int} {t1 t2 t3 : Tok} (F : Fr h₀ L s.heap m₀) (N : News h₀ L s.heap news)
    (h1 : m₀ (Str.ofString "index") = some (.int i₀ t1)) (h2 : m₀ (Str.ofString "size") = some (.int 0 t2)) (h3 : m₀ (Str.ofString "i") = some (.int 0 t3)) (hi : i₀ ≤ ks.length)
    (turn : ∀ ix ixt sz szt sh sht (u : Str → Option Value) h tk, hdrInv ks i₀ ix sz sh →
      Fr h₀ L h (kstB (fun z => if hdrStored.contains z then u z else m₀ z) [(Str.ofString "index", .int ix ixt), (Str.ofString "size", .int sz szt), (Str.ofString "i", .int sh sht)]) → News h₀ L h news →
      wpAny (model prog w) A (isTrue test env (eval test env)) (fun b s₂ =>
        if b = true then wpAny (model prog w) A (execs body env) (KswPost h₀ L s (fun _ => news) hdrPs (fun _ => True) hdrStored m₀ (hdrP ks i₀) (hdrM ks) Q (ix, ixt, sz, szt, sh, sht)) E s₂ else Q .next s₂) E { s with heap := h, toks := tk })
    (hE : PassesOwn (model prog w) A env E) :
    wpAny (model prog w) A (exec (.While test body [] pos) env) Q E s := by
  refine ksw_while (fun _ => news) hdrPs (fun _ => True) hdrStored (hdrP ks i₀) (hdrM ks) (i₀, t1, 0, t2, 0, t3) F N trivial ?_ (hdrInv_start ks i₀ hi) (fun c u h tk _ hp F' N' => turn _ _ _ _ _ _ u h tk hp F' N') hE
  intro p hp
  simp only [hdrPs, List.mem_cons, List.not_mem_nil, or_false] at hp
  rcases hp with rfl | rfl | rfl
  · exact h1
  · exact h2
  · exact h3
theorem hdr_end {ks : List Int} {i₀ ix sz sh a b c : Int} {ixt szt sht t1 t2 t3 : Tok} {m₀ m' : Str → Option Value} {news : List (Addr × Obj)} {h' : Heap} {tk : Nat} (F : Fr h₀ L h' m') (N : News h₀ L h' news)
    (h1 : m' (Str.ofString "index") = some (.int a t1)) (h2 : m' (Str.ofString "size") = some (.int b t2)) (h3 : m' (Str.ofString "i") = some (.int c t3))
    (hr : ∀ z, z ≠ Str.ofString "index" → z ≠ Str.ofString "size" → z ≠ Str.ofString "i" → z ≠ Str.ofString "cmd" → m' z = m₀ z) (hp : hdrInv ks i₀ a b c) (hm : ix < a) :
    KswEnd h₀ L s (fun _ => news) hdrPs (fun _ => True) hdrStored m₀ (hdrP ks i₀) (hdrM ks) (ix, ixt, sz, szt, sh, sht) { s with heap := h', toks := tk } := by
  refine ksw_end (a, t1, b, t2, c, t3) F N (fun _ h => h) trivial ?_ (fun z _ h2 => ?_) hp ?_
  · intro p hp
    simp only [hdrPs, List.mem_cons, List.not_mem_nil, or_false] at hp
    rcases hp with rfl | rfl | rfl
    · exact h1
    · exact h2
    · exact h3
  · simp only [hdrStored, List.contains_cons, List.contains_nil, Bool.or_false, Bool.or_eq_false_iff, beq_eq_false_iff_ne, ne_eq] at h2
    exact hr z h2.1 h2.2.1 h2.2.2.1 h2.2.2.2
  · obtain ⟨_, _, _, _, _, hl, _⟩ := hp
    show (ks.length - a).toNat < (ks.length - ix).toNat
    omega
end
end Mine
open PySem PySem.W PyProof.Rows PySem.Calls PySem.Spec
namespace Mine
set_option maxRecDepth 100000
open Builtin in
theorem slot_join : Slot "bytes" "join" "bytes.join" :=
  .of (owner := "bytes") (n := "join") (by rw [typeLookup_type, builtinLookup_eq_fast]; kernel_rfl) (by decide +kernel) (by decide +kernel) (by decide +kernel)
    (by first | exact .inl (by decide +kernel) | exact .inr (by decide +kernel)) (by rw [isSubtype_type]; kernel_rfl)
theorem type_join : typeOf (.builtin "bytes.join") = pure (.type "method_descriptor") := by show builtinType _ = _; rw [builtinType_eq_fast]; kernel_rfl
theorem entry_join : entryFor table "bytes.join" = some Builtin.«bytes.join» := entryFor_of_tree (by kernel_rfl)
theorem args_join (a b : Value) : argsOk "bytes.join" ⟨[a, b], []⟩ := by unfold argsOk; kernel_rfl
/-- a list of bytes values and the octets of each -/
inductive BytesAre : List Value → List (List Int) → Prop
  | nil : BytesAre [] []
  | cons {b : Array UInt8} {t : Tok} {c : List Int} {vs : List Value} {cs : List (List Int)} : KBw.bInts b = c → BytesAre vs cs → BytesAre (.bytes b t :: vs) (c :: cs)
theorem BytesAre.length {vs : List Value} {cs : List (List Int)} (h : BytesAre vs cs) : vs.length = cs.length := by
  induction h with
  | nil => rfl
  | cons _ _ ih => simp [ih]
theorem BytesAre.append {vs vs' : List Value} {cs cs' : List (List Int)} (h : BytesAre vs cs) (h' : BytesAre vs' cs') : BytesAre (vs ++ vs') (cs ++ cs') := by
  induction h with
  | nil => exact h'
  | cons e _ ih => exact .cons e ih
theorem take_bytes {id : String} {b : Array UInt8} {t : Tok} : Builtin.Bytes.takeBufferQuiet? id (.bytes b t) 0 = pure (some (b, none)) := by
  have h : Builtin.Bytes.takeBuffer? id (.bytes b t) 0 = pure (some (b, none)) := by
    unfold Builtin.Bytes.takeBuffer?
    rw [KBy.special_eq KBy.look_buffer, KBy.own_buffer]
    simp only [pure_bind]
    rw [if_neg (by decide), show ((0 : Int) == Builtin.Bytes.fullReadOnly) = false from by decide, KBy.buffer_eq]
    rfl
  unfold Builtin.Bytes.takeBufferQuiet?
  rw [h]
  rfl
theorem BytesAre.pairs {vs : List Value} {cs : List (List Int)} (h : BytesAre vs cs) : ∃ bs : List (Array UInt8 × Tok), vs = bs.map (fun q => .bytes q.1 q.2) ∧ cs = bs.map fun q => KBw.bInts q.1 := by
  induction h with
  | nil => exact ⟨[], rfl, rfl⟩
  | @cons b t c vs cs e _ ih =>
    obtain ⟨bs, e1, e2⟩ := ih
    exact ⟨(b, t) :: bs, by rw [e1]; rfl, by rw [e2, ← e]; rfl⟩
theorem joined_nil (l : List (Array UInt8)) : KBw.bInts (Builtin.Bytes.joined #[] l) = (l.map KBw.bInts).flatten := by
  unfold Builtin.Bytes.joined
  have key : ∀ (l : List (Array UInt8)) (k : Nat) (o : Array UInt8), KBw.bInts ((l.zipIdx k).foldl (fun out (p, i) => (if i > 0 then out ++ (#[] : Array UInt8) else out) ++ p) o) = KBw.bInts o ++ (l.map KBw.bInts).flatten := by
    intro l
    induction l with
    | nil => intro k o; simp
    | cons p r ih =>
      intro k o
      rw [List.zipIdx_cons, List.foldl_cons, ih]
      have e : (if k > 0 then o ++ (#[] : Array UInt8) else o) = o := by split <;> simp
      dsimp only
      rw [e, List.map_cons, List.flatten_cons, ← List.append_assoc]
      congr 1
      simp [KBw.bInts]
  have := key l 0 #[]
  simpa [KBw.bInts] using this
theorem ints_map (bs : List (Array UInt8 × Tok)) : (bs.map (·.1)).map KBw.bInts = bs.map fun q => KBw.bInts q.1 := by rw [List.map_map]; rfl
theorem off_heap (bs : List (Array UInt8 × Tok)) : ((bs.map fun q => ((Value.bytes q.1 q.2, none) : Value × Option Value)).any fun q => q.1.onHeap) = false := by
  induction bs with
  | nil => rfl
  | cons _ _ ih => rw [List.map_cons, List.any_cons, ih]; rfl
theorem none_all (bs : List (Array UInt8 × Tok)) : ∀ q ∈ bs.map (fun q => ((Value.bytes q.1 q.2, none) : Value × Option Value)), q.2 = none := by
  intro q hq
  obtain ⟨r, _, rfl⟩ := List.mem_map.mp hq
  rfl
theorem foldl_size (l : List (Array UInt8)) (k : Nat) : l.foldl (fun a p => a + p.size) k = k + ((l.map KBw.bInts).flatten).length := by
  induction l generalizing k with
  | nil => simp
  | cons p r ih => rw [List.foldl_cons, ih, List.map_cons, List.flatten_cons, List.length_append, KBw.ints_length]; omega
section
variable {prog : Program} {w : World} {A : Around} {s : Shared} {E : Value → Shared → Prop}
theorem let_go {M : Model} {A : Around} {keep : List Value} {Q : Unit → Shared → Prop} : ∀ (taken : List (Value × Option Value)), (∀ q ∈ taken, q.2 = none) → Q () s → wpAny M A (Builtin.Bytes.joinLetGo taken keep) Q E s
  | [], _, h => wpAny_pure h
  | (x, u) :: r, hn, h => by
    obtain rfl : u = none := hn _ (.head _)
    unfold Builtin.Bytes.joinLetGo
    dsimp only
    refine wpAny_bind ?_
    unfold letGo
    exact wpAny_bind (wpAny_holding (wpAny_point (by unfold letGo; exact wpAny_pure (let_go r (fun q hq => hn q (.tail _ hq)) h))))
theorem join_many {vs : List Value} {cs : List (List Int)} {l : Addr} {t0 : Tok} {Q : Fin → Shared → Prop} (hl : s.heap.IsList l vs.toArray) (hv : BytesAre vs cs) (hsz : cs.flatten.length ≤ 16777216)
    (h : ∀ c t k, KBw.bInts c = cs.flatten → Q (.done (.ret (.bytes c t))) { s with toks := k }) :
    wpAny (model prog w) A (Builtin.«bytes.join» ⟨[.bytes #[] t0, .ref l], []⟩) Q E s := by
  unfold Builtin.«bytes.join» Builtin.Bytes.joinM
  have hT := hl.typeIs (s := s)
  obtain ⟨o, ho, hc, nn, hd⟩ := hl
  obtain ⟨bs, rfl, rfl⟩ := hv.pairs
  refine wpAny_bind (wpAny_of_eq (a := (Value.bytes #[] t0, Value.ref l)) rfl ?_)
  dsimp only
  rw [if_pos (by decide)]
  unfold Builtin.Bytes.joinItems
  refine wpAny_bind (wpAny_bind (wpAny_typeOf hT ?_))
  rw [if_pos (by decide)]
  refine wpAny_pure (wpAny_bind (wpAny_seqItems ho hd ?_))
  dsimp only
  rw [if_pos (by decide)]
  have hsize : (List.map (fun q : Array UInt8 × Tok => Value.bytes q.1 q.2) bs).toArray.size = bs.length := by simp
  have many : ∀ (K : Array (Array UInt8) × List (Value × Option Value) → Sem PySem.Fin) (f : Nat → Array (Array UInt8) × List (Value × Option Value) → Sem (ForInStep (Array (Array UInt8) × List (Value × Option Value)))),
      (∀ i b, i < bs.length → b = (((bs.take i).map (·.1)).toArray, (bs.take i).map fun q => (Value.bytes q.1 q.2, none)) → wpAny (model prog w) A (f i b) (fun r s' => r = .yield (((bs.take (i + 1)).map (·.1)).toArray, (bs.take (i + 1)).map fun q => (Value.bytes q.1 q.2, none)) ∧ s' = s) E s) →
      wpAny (model prog w) A (K ((bs.map (·.1)).toArray, bs.map fun q => (Value.bytes q.1 q.2, none))) Q E s →
      wpAny (model prog w) A (forIn [0:(List.map (fun q : Array UInt8 × Tok => Value.bytes q.1 q.2) bs).toArray.size] (#[], []) f >>= K) Q E s := by
    intro K f hf hK
    refine wpAny_bind ?_
    rw [Std.Legacy.Range.forIn_eq_forIn_range', hsize]
    simp only [Std.Legacy.Range.size, Nat.sub_zero, Nat.add_sub_cancel, Nat.div_one]
    refine wpAny_forIn_list _ (fun rest b s' => ∃ i, i ≤ bs.length ∧ rest = List.range' i (bs.length - i) ∧ b = (((bs.take i).map (·.1)).toArray, (bs.take i).map fun q => (Value.bytes q.1 q.2, none)) ∧ s' = s) _ ?_ ?_ _ _ ⟨0, Nat.zero_le _, rfl, rfl, rfl⟩
    · rintro x rest b s' ⟨i, hi, e1, e2, rfl⟩
      have hlt : i < bs.length := by
        by_cases q : i < bs.length
        · exact q
        · rw [show bs.length - i = 0 by omega] at e1; cases e1
      rw [show bs.length - i = (bs.length - (i + 1)) + 1 by omega, List.range'_succ] at e1
      obtain ⟨ex, er⟩ := List.cons.inj e1
      rw [ex, er]
      refine wpAny_mono (hf i b hlt e2) (fun r s'' hr => ?_) fun _ _ z => z
      obtain ⟨rfl, rfl⟩ := hr
      exact ⟨i + 1, hlt, rfl, rfl, rfl⟩
    · rintro b s' ⟨i, hi, e1, e2, rfl⟩
      have hi' : i = bs.length := by
        by_cases q : i = bs.length
        · exact q
        · have := congrArg List.length e1
          simp at this; omega
      rw [hi'] at e2
      rw [e2, List.take_length]
      exact hK
  have turn : ∀ i, i < bs.length → (List.map (fun q : Array UInt8 × Tok => Value.bytes q.1 q.2) bs).toArray.getD i Value.none = .bytes (bs.getD i (#[], 0)).1 (bs.getD i (#[], 0)).2 := by
    intro i hi
    simp [Array.getD, hi, List.getD_eq_getElem?_getD]
  have next : ∀ i, i < bs.length → bs.take (i + 1) = bs.take i ++ [bs.getD i (#[], 0)] := by
    intro i hi
    rw [List.take_add_one, List.getD_eq_getElem?_getD, List.getElem?_eq_getElem hi]
    rfl
  match bs, hsz, h, hd, many, turn, next with
  | [q], _, h, hd, _, _, _ =>
    change wpAny (model prog w) A (typeOf (.bytes q.1 q.2) >>= _) Q E s
    refine wpAny_bind (wpAny_typeOf (typeIs_bytes _ _ _) ?_)
    rw [if_pos (by decide)]
    exact wpAny_bind (wpAny_rule (wpAny_pure (h _ _ _ (by simp))))
  | [], hsz, h, hd, many, turn, next =>
    change wpAny (model prog w) A (forIn _ _ _ >>= _) Q E s
    refine many _ _ (fun i b hi _ => absurd hi (Nat.not_lt_zero _)) ?_
    refine wpAny_bind (wpAny_of_eq (a := (#[] : Array UInt8)) rfl ?_)
    rw [if_neg (by rw [KBy.tooLong_not (by rw [← Array.foldl_toList, foldl_size, ints_map]; simpa using hsz)]; decide)]
    refine wpAny_bind (m := mkBytes _) (wpAny_mkBytes ?_ (by rw [size_of (joined_nil _), sizeLine_eq, ints_map]; exact hsz))
    refine wpAny_bind (wpAny_holding (wpAny_point ?_))
    refine wpAny_bind (let_go _ (none_all _) ?_)
    exact wpAny_pure (h _ _ _ (by rw [joined_nil, ints_map]))
  | q1 :: q2 :: r, hsz, h, hd, many, turn, next =>
    change wpAny (model prog w) A (forIn _ _ _ >>= _) Q E s
    refine many _ _ (fun i b hi hb => ?_) ?_
    · subst hb
      refine wpAny_bind (wpAny_seqItems ho hd ?_)
      dsimp only
      rw [turn i hi, if_neg (by rw [off_heap]; decide)]
      refine wpAny_bind (wpAny_holding (wpAny_of_eq take_bytes ?_))
      dsimp only
      refine wpAny_bind (wpAny_seqItems ho hd ?_)
      dsimp only
      rw [if_neg (by simp)]
      refine wpAny_pure ⟨?_, rfl⟩
      rw [next i hi]
      simp
    · skip
      refine wpAny_bind (wpAny_of_eq (a := (#[] : Array UInt8)) rfl ?_)
      rw [if_neg (by rw [KBy.tooLong_not (by rw [← Array.foldl_toList, foldl_size, ints_map]; simpa using hsz)]; decide)]
      refine wpAny_bind (m := mkBytes _) (wpAny_mkBytes ?_ (by rw [size_of (joined_nil _), sizeLine_eq, ints_map]; exact hsz))
      refine wpAny_bind (wpAny_holding (wpAny_point ?_))
      refine wpAny_bind (let_go _ (none_all _) ?_)
      exact wpAny_pure (h _ _ _ (by rw [joined_nil, ints_map]))
end
end Mine
namespace Mine
section
variable {prog : Program} {w : World} {A : Around} {s : Shared} {E : Value → Shared → Prop}
theorem meets_join {vs : List Value} {cs : List (List Int)} {l : Addr} {t0 : Tok} (hv : BytesAre vs cs) (hsz : cs.flatten.length ≤ 16777216) :
    Meets (Builtin.«bytes.join» ⟨[.bytes #[] t0, .ref l], []⟩) (fun _ R s => s.heap.IsList l vs.toArray ∧ ∀ c t k, KBw.bInts c = cs.flatten → R (.ok (.ret (.bytes c t))) { s with toks := k }) := by
  refine .of_wp fun prog w A R s hS => ?_
  obtain ⟨hl, h⟩ := hS
  exact join_many hl hv hsz fun c t k e => ⟨_, rfl, h c t k e⟩
theorem join_K {vs : List Value} {cs : List (List Int)} {l : Addr} {t0 : Tok} {Q : Value → Shared → Prop} (hl : s.heap.IsList l vs.toArray) (hv : BytesAre vs cs) (hsz : cs.flatten.length ≤ 16777216)
    (h : ∀ c t k, KBw.bInts c = cs.flatten → Q (.bytes c t) { s with toks := k }) : wpAny (model prog w) A (call (.builtin "bytes.join") [.bytes #[] t0, .ref l]) Q E s :=
  call_meets slot_join (typeIs_bytes _ _ _) entry_join (args_join _ _) (meets_join hv hsz) ⟨hl, h⟩
theorem method_join {M : Model} {b : Array UInt8} {t : Tok} {pl : Sem Bool} {Q : Value × List Value → Shared → Prop} (h : Q (.builtin "bytes.join", [.bytes b t]) s) : wpAny M A (getMethod (.bytes b t) (Str.ofString "join") pl) Q E s := by
  with_reducible exact KBd.method_of (.bytes b t) (typeIs_bytes _ _ _) slot_join type_join KBd.noRef h
end
end Mine
open PySem PySem.W PyProof.Rows PySem.Calls PySem.Spec
namespace Mine
set_option maxRecDepth 100000
section
variable {prog : Program} {w : World} {A : Around} {E : Value → Shared → Prop} {s : Shared} {env : Env} {scope : Scope} {h₀ : Heap} {L : Addr} {m : Str → Option Value} {news : List (Addr × Obj)} {Q : Value → Shared → Prop}
/-- a comprehension without a test over any list: the element's rule is given -/
theorem comp_list {x : Str} {elt : Expr} {l : Addr} {vs : List Value} {R : Value → Value → Prop} (hh : A.handled = none) (F : Fr h₀ L s.heap m) (N : News h₀ L s.heap news) (hl : s.heap.IsList l vs.toArray) (hz : vs.length ≤ sizeLine)
    (helt : ∀ C v s₃ m₃ E', v ∈ vs → s₃.heap.Ns C m₃ → m₃ x = some v → (∀ b o, h₀.get? b = some o → s₃.heap.get? b = some o) →
      wpAny (model prog w) A (eval elt (compEnv scope C env)) (fun y s₄ => R v y ∧ Keeps s₃ s₄) E' s₃)
    (h : ∀ D ys h' tk n, Fr h₀ L h' m → News h₀ L h' ((D, listOf ys.toArray n) :: news) → (∀ q ∈ news, q.1 ≠ D) → Paired R vs ys → Q (.ref D) { s with heap := h', toks := tk }) :
    wpAny (model prog w) A (pyIter (.ref l)) (CompPost prog w A env scope x [] elt Q) E s := by
  refine wpAny_pyIter_list hl ?_
  have hlt : l < s.heap.objs.size := let ⟨_, e, _⟩ := hl; Heap.lt_size e
  have hne : l ≠ s.heap.objs.size := Nat.ne_of_lt hlt
  have keep1 : ∀ b o, s.heap.get? b = some o → (s.heap.push { cls := .type "list_iterator", data := .fields #[.ref l, .int 0 0] }).get? b = some o := fun b o e => Heap.get?_push_of_some _ e
  refine ⟨fun _ => true, R, s.heap.objs.size, [s.heap.objs.size, l], [s.heap.objs.size], vs.toArray.size, _, _, rfl, Walks.list hh s.heap.objs.size l hne vs.toArray, by simpa using hz, ?_, ?_, ?_, ?_⟩
  · exact ⟨⟨_, Heap.get?_push_size _ rfl, rfl, rfl⟩, let ⟨o, e, r⟩ := hl; ⟨o, keep1 _ _ e, r⟩⟩
  · intro b hb
    have hs : ∀ o : Obj, (s.heap.push o).objs.size = s.heap.objs.size + 1 := fun o => Heap.size_push ..
    show b < (s.heap.push _).objs.size
    rw [hs]
    simp at hb
    rcases hb with rfl | rfl
    · exact Nat.lt_succ_self _
    · exact Nat.lt_succ_of_lt hlt
  · refine ⟨fun C i v s₃ m₃ E' _ _ _ _ _ => ?_, fun C i v s₃ m₃ E' hP _ hns hx hk _ => ?_⟩
    · rw [List.forIn_nil]
      exact wpAny_pure ⟨rfl, _, _, rfl, fun _ _ e => e⟩
    · refine helt C v s₃ m₃ E' ?_ hns hx fun b o e => ?_
      · have := List.mem_of_getElem? (by simpa using hP : vs[i]? = some v)
        exact this
      · have e2 := F.keep b o e
        exact hk b o (by simp only [List.mem_singleton]; exact Nat.ne_of_lt (Heap.lt_size e2)) (keep1 b o e2)
  · intro D h' tk ys vs' hD _ hP hlen hvs hpair hk
    have k2 : ∀ b o, s.heap.get? b = some o → h'.get? b = some o := fun b o e => hk b o (by simp only [List.mem_singleton]; exact Nat.ne_of_lt (Heap.lt_size e)) (keep1 b o e)
    have evs : vs' = vs := by
      refine List.ext_getElem? fun j => ?_
      cases hj : vs'[j]? with
      | none =>
        have : vs'.length ≤ j := List.getElem?_eq_none_iff.mp hj
        rw [List.getElem?_eq_none (by simp at hlen; omega)]
      | some v => have := hvs j v hj; simpa using this.symm
    obtain ⟨n, hDn⟩ := hP
    have hD0 : s.heap.get? D = none := by
      cases q : s.heap.get? D with
      | none => rfl
      | some o => have := keep1 _ _ q; rw [hD] at this; cases this
    have apart : ∀ {b : Addr} {o : Obj}, s.heap.get? b = some o → b ≠ D := fun e q => by rw [q, hD0] at e; cases e
    subst evs
    obtain ⟨ysl⟩ := ys
    refine h D ysl h' tk n (F.keeps k2) (fun q hq => ?_) (fun q hq => apart (N q hq).1) (by rw [List.filter_eq_self.mpr (fun _ _ => rfl)] at hpair; exact hpair)
    rcases List.mem_cons.mp hq with rfl | hq
    · obtain ⟨oL, _, _, hL, _⟩ := F.ns
      refine ⟨hDn, Ne.symm (apart hL), ?_⟩
      cases q : h₀.get? D with
      | none => rfl
      | some o => have := F.keep _ _ q; rw [hD0] at this; cases this
    · exact ⟨k2 _ _ (N q hq).1, (N q hq).2⟩
/-- len of a local within a comprehension's block -/
theorem len_local {C : Addr} {x : Str} {np cp ap : Pos} {b : Array UInt8} {t : Tok} {m₃ mg mb : Str → Option Value} {p : Program} {loose : List Str} {mean : ExcName → Option Value} {Q : Value → Shared → Prop} {K : Frag}
    (hns : s.heap.Ns C m₃) (hx : m₃ x = some (.bytes b t)) (hk : ∀ b o, h₀.get? b = some o → s.heap.get? b = some o) (X : K.In h₀) (T : Top p loose mean mg mb h₀) (e : nsIn K mainGlobals "len" = some none)
    (hz : b.size ≤ 1099511627776) (h : ∀ t' tk, Q (.int (b.size : Nat) t') { s with toks := tk })
    (hkind : scope.kind = .function) (hl : scope.names.lookup (Str.ofString "len") = some .globalImplicit) (hxl : scope.names.lookup x = some .local) (hd : (x == ("__debug__" : Str)) = false) (hg : env.globals = mainGlobals) (hb : env.builtins = builtinsNs) :
    wpAny (model prog w) A (eval (.Call (.Name "len" np) [.Name x ap] [] cp) (compEnv scope C env)) Q E s := by
  refine wpAny_Call_ofName (Name_function_global hkind hl (loadGlobal_builtin (mg := mg) (mb := mb) (by show s.heap.Ns env.globals mg; rw [hg]; exact T.g.keeps hk) (mg_none_of X T.g e) (by show s.heap.Ns env.builtins mb; rw [hb]; exact T.b.keeps hk) ((T.builtins "len" (by decide)).trans boot_len) ?_))
  refine callWith_builtin (by rfl) (evalArgs_plain (spliced_cons ?_))
  refine wpAny_Name (wpAny_loadName_local (v := .bytes b t) hkind hxl hns hx ?_) hd
  show wpAny _ _ (spliced []) _ _ _
  rw [spliced]
  refine wpAny_pure ?_
  exact len_b rfl (by rw [KBw.ints_length]; exact hz) (fun t' tk => by rw [KBw.ints_length]; exact h t' tk)
end
end Mine
namespace Mine
def LenOf (v y : Value) : Prop := ∃ b t t', v = .bytes b t ∧ y = .int ((Array.size b : Nat) : Int) t'
theorem lens_are : ∀ {vs ys : List Value} {cs : List (List Int)}, BytesAre vs cs → Paired LenOf vs ys → IntsAre ys (cs.map fun c => (c.length : Int))
  | _, _, _, .nil, .nil => .nil
  | _, _, _, .cons e hv, .cons ⟨b, t, t', e1, e2⟩ hp => by
    cases e1
    subst e2
    rw [List.map_cons, ← size_of e]
    exact .cons _ _ (lens_are hv hp)
theorem sum_lens (cs : List (List Int)) : (cs.map fun c => (c.length : Int)).sum = (cs.flatten.length : Int) := by
  induction cs with
  | nil => rfl
  | cons c r ih => rw [List.map_cons, List.sum_cons, ih, List.flatten_cons, List.length_append]; push_cast; rfl
theorem BytesAre.mem {vs : List Value} {cs : List (List Int)} (h : BytesAre vs cs) {v : Value} (hv : v ∈ vs) : ∃ b t, v = .bytes b t ∧ KBw.bInts b ∈ cs := by
  induction h with
  | nil => cases hv
  | cons e _ ih =>
    cases hv with
    | head => exact ⟨_, _, rfl, by rw [e]; exact .head _⟩
    | tail _ hv => obtain ⟨b, t, e1, e2⟩ := ih hv; exact ⟨b, t, e1, .tail _ e2⟩
end Mine
open PySem PySem.W PyProof.Rows PySem.Calls PySem.Spec
namespace Mine
set_option maxRecDepth 100000
theorem sizeL_facts : ∀ {r : List Int} {v : Int} {k : Nat}, Oct r → sizeL r = some (v, k) → 0 ≤ v ∧ v < 2 ^ (7 * k) ∧ 1 ≤ k ∧ k ≤ r.length
  | [], _, _, _, h => by cases h
  | c :: r, v, k, ho, h => by
    have hc := ho c (.head _)
    unfold sizeL at h
    split at h
    · cases h
      refine ⟨hc.1, ?_, Nat.le_refl _, by simp⟩
      show c < 2 ^ 7
      omega
    · simp only [Option.map_eq_some_iff] at h
      obtain ⟨⟨v', k'⟩, h1, h2⟩ := h
      have ih := sizeL_facts (fun x hx => ho x (.tail _ hx)) h1
      cases h2
      have p1 : (2 : Int) ^ (7 * (k' + 1)) = 2 ^ (7 * k') * 128 := by rw [Nat.mul_add, Int.pow_add]; rfl
      refine ⟨by omega, by rw [p1]; omega, by omega, by simp only [List.length_cons]; omega⟩
theorem Oct.drop {r : List Int} (h : Oct r) (n : Nat) : Oct (r.drop n) := fun x hx => h x (List.mem_of_mem_drop hx)
theorem sizeL_at {ks : List Int} {i v : Int} {k : Nat} (h : Oct ks) (h0 : 0 ≤ i) (hi : i ≤ ks.length) (e : sizeL (ks.drop i.toNat) = some (v, k)) : 0 ≤ v ∧ v < 2 ^ (7 * k) ∧ 1 ≤ k ∧ i + (k : Int) ≤ ks.length := by
  have q := sizeL_facts (h.drop _) e
  rw [List.length_drop] at q
  omega
/-- the octets that follow a copy's first: those that its bits k .. k + n - 1 name, the least first -/
def fieldsL (c : Int) : Nat → Nat → List Int → Option (Int × List Int)
  | _, 0, r => some (0, r)
  | k, n + 1, r => if c / 2 ^ k % 2 = 1 then (match r with | [] => none | x :: q => (fieldsL c (k + 1) n q).map fun p => (x + 256 * p.1, p.2)) else (fieldsL c (k + 1) n r).map fun p => (256 * p.1, p.2)
/-- between the turns of the loop that reads such octets -/
def fldInv (ks : List Int) (c : Int) (k₀ n : Nat) (i₀ : Int) (j : Nat) (idx off : Int) : Prop :=
  0 ≤ off ∧ off < 256 ^ j ∧ i₀ ≤ idx ∧ idx ≤ ks.length ∧ fieldsL c k₀ n (ks.drop i₀.toNat) = (fieldsL c (k₀ + j) (n - j) (ks.drop idx.toNat)).map fun p => (off + 256 ^ j * p.1, p.2)
theorem fldInv_start (ks : List Int) (c : Int) (k₀ n : Nat) (i₀ : Int) (h : i₀ ≤ ks.length) : fldInv ks c k₀ n i₀ 0 i₀ 0 :=
  ⟨Int.le_refl _, by decide, Int.le_refl _, h, by cases fieldsL c k₀ n (ks.drop i₀.toNat) <;> simp [*]⟩
section
variable {ks : List Int} {c i₀ idx off : Int} {k₀ n j : Nat}
theorem fld_skip (h : fldInv ks c k₀ n i₀ j idx off) (hj : j < n) (hb : ¬ c / 2 ^ (k₀ + j) % 2 = 1) : fldInv ks c k₀ n i₀ (j + 1) idx off := by
  obtain ⟨h0, h1, h2, h3, e⟩ := h
  have pp : (0 : Int) < 256 ^ j := pow_pos_of (by decide) j
  have p1 : (256 : Int) ^ (j + 1) = 256 ^ j * 256 := Int.pow_succ ..
  refine ⟨h0, by rw [p1]; omega, h2, h3, ?_⟩
  rw [e, show n - j = (n - (j + 1)) + 1 by omega]
  simp only [fieldsL]
  rw [if_neg hb, show k₀ + j + 1 = k₀ + (j + 1) by omega]
  cases fieldsL c (k₀ + (j + 1)) (n - (j + 1)) (ks.drop idx.toNat) with
  | none => rfl
  | some p => simp only [Option.map_some, Option.some.injEq, Prod.mk.injEq, and_true]; rw [p1, Int.mul_assoc]
theorem fld_take (h : fldInv ks c k₀ n i₀ j idx off) (h00 : 0 ≤ i₀) (hj : j < n) (hb : c / 2 ^ (k₀ + j) % 2 = 1) (hl : idx < ks.length) (hlo : 0 ≤ ks.getD idx.toNat 0) (hhi : ks.getD idx.toNat 0 < 256) :
    fldInv ks c k₀ n i₀ (j + 1) (idx + 1) (Builtin.bitOr off (ks.getD idx.toNat 0 * 2 ^ (j * 8))) := by
  obtain ⟨h0, h1, h2, h3, e⟩ := h
  have pe : (2 : Int) ^ (j * 8) = 256 ^ j := by rw [Nat.mul_comm, Int.pow_mul]; rfl
  have pp : (0 : Int) < 256 ^ j := pow_pos_of (by decide) j
  have p1 : (256 : Int) ^ (j + 1) = 256 ^ j * 256 := Int.pow_succ ..
  rw [or_above h0 (by rw [pe]; exact h1) hlo, pe]
  rw [drop_at (ix := idx) (by omega) (by omega)] at e
  generalize ks.getD idx.toNat 0 = x at *
  have m1 : x * 256 ^ j ≤ 255 * 256 ^ j := Int.mul_le_mul_of_nonneg_right (by omega) (Int.le_of_lt pp)
  have m0 : 0 ≤ x * 256 ^ j := Int.mul_nonneg hlo (Int.le_of_lt pp)
  refine ⟨by omega, by rw [p1]; omega, by omega, by omega, ?_⟩
  rw [e, show n - j = (n - (j + 1)) + 1 by omega]
  simp only [fieldsL]
  rw [if_pos hb, show k₀ + j + 1 = k₀ + (j + 1) by omega]
  cases fieldsL c (k₀ + (j + 1)) (n - (j + 1)) (ks.drop (idx + 1).toNat) with
  | none => rfl
  | some p =>
    simp only [Option.map_some, Option.some.injEq, Prod.mk.injEq, and_true]
    rw [p1, Int.mul_add, Int.mul_comm x, Int.mul_assoc]
    omega
theorem fld_fail (h : fldInv ks c k₀ n i₀ j idx off) (hj : j < n) (hb : c / 2 ^ (k₀ + j) % 2 = 1) (hl : (ks.length : Int) ≤ idx) : fieldsL c k₀ n (ks.drop i₀.toNat) = none := by
  obtain ⟨h0, h1, h2, h3, e⟩ := h
  rw [e, show n - j = (n - (j + 1)) + 1 by omega, List.drop_of_length_le (by omega)]
  simp only [fieldsL]
  rw [if_pos hb]
  rfl
theorem fld_done (h : fldInv ks c k₀ n i₀ n idx off) : fieldsL c k₀ n (ks.drop i₀.toNat) = some (off, ks.drop idx.toNat) := by
  obtain ⟨h0, h1, h2, h3, e⟩ := h
  rw [e, Nat.sub_self]
  simp [fieldsL]
end
section
variable {prog : Program} {w : World} {A : Around} {E : Value → Shared → Prop} {s : Shared} {env : Env} {h₀ : Heap} {body : List Stmt} {Q : Flow → Shared → Prop}
abbrev FldS := Obj × Int × Tok × Int × Tok
abbrev fldLed (ci : Addr) (rest : List (Addr × Obj)) (c : FldS) : List (Addr × Obj) := (ci, c.1) :: rest
abbrev fldFacts (c : FldS) : Prop := c.1.data = .cell (some (.int c.2.1 c.2.2.1))
def FldPost (h₀ : Heap) (L : Addr) (ci : Addr) (rest : List (Addr × Obj)) (offn : Str) (m₀ : Str → Option Value) (ks : List Int) (cc : Int) (k₀ n : Nat) (i₀ : Int) (j : Nat) (own : List (Addr × Obj)) (s : Shared) (Q : Flow → Shared → Prop) (f : Flow) (s₂ : Shared) : Prop :=
  match f with
  | .ret v => Q (.ret v) s₂
  | .brk => Q .next s₂
  | _ => ∃ h' tk m' news' oi idx tidx off toff, s₂ = { s with heap := h', toks := tk } ∧ Fr h₀ L h' m' ∧ News h₀ L h' news' ∧ (∀ q ∈ (ci, oi) :: rest, q ∈ news') ∧ (∀ q ∈ own, q ∈ news') ∧ oi.data = .cell (some (.int idx tidx)) ∧ m' offn = some (.int off toff) ∧
     (∀ z : Str, z ≠ Str.ofString "i" → z ≠ offn → z ≠ Str.ofString "x" → m' z = m₀ z) ∧ fldInv ks cc k₀ n i₀ (j + 1) idx off
theorem for_fields {r : Addr} {t₀ u₀ v₀ : Tok} {m₀ : Str → Option Value} {news : List (Addr × Obj)} (ks : List Int) (cc : Int) (k₀ n : Nat) {i₀ : Int} {ti to : Tok} {oi : Obj} {ci : Addr} (rest : List (Addr × Obj)) (offn : Str)
    {nI : Int} (hh : A.handled = none) (hr : IsRange s.heap r 0 nI 1 t₀ u₀ v₀) (hnI : nI = (n : Int)) (hn : n ≤ 10) (F : Fr h₀ env.locals s.heap m₀) (N : News h₀ env.locals s.heap news) (hci : (ci, oi) ∈ news) (hrest : ∀ q ∈ rest, q ∈ news)
    (hd : oi.data = .cell (some (.int i₀ ti))) (ho : m₀ offn = some (.int 0 to)) (hi : i₀ ≤ ks.length) (hne : offn ≠ "i") (hne2 : offn ≠ "x")
    (turn : ∀ (j : Nat) oi idx tidx off toff t (u : Str → Option Value) h tk own, j < n → OwnOff own (ci :: rest.map (·.1)) → oi.data = .cell (some (.int idx tidx)) → fldInv ks cc k₀ n i₀ j idx off →
      Fr h₀ env.locals h (fun y => if y = "i" then some (.int (j : Int) t) else kstB (fun z => if [Str.ofString "i", offn, Str.ofString "x"].contains z then u z else m₀ z) [(offn, .int off toff)] y) → News h₀ env.locals h ((ci, oi) :: (rest ++ own)) →
      wpAny (model prog w) A (execs body env) (FldPost h₀ env.locals ci rest offn m₀ ks cc k₀ n i₀ j own { s with heap := h, toks := tk } Q) E { s with heap := h, toks := tk })
    (done : ∀ oi idx tidx off toff (u : Str → Option Value) h tk, oi.data = .cell (some (.int idx tidx)) → fldInv ks cc k₀ n i₀ n idx off →
      Fr h₀ env.locals h (fun y => if y = "i" then u y else kstB (fun z => if [Str.ofString "i", offn, Str.ofString "x"].contains z then u z else m₀ z) [(offn, .int off toff)] y) → News h₀ env.locals h ((ci, oi) :: rest) → Q .next { s with heap := h, toks := tk }) :
    wpAny (model prog w) A (pyIter (.ref r)) (fun it s₂ => LoopAtV prog w A h₀ env "i" body Q E it s₂) E s := by
  subst hnI
  have N1 : News h₀ env.locals s.heap (fldLed ci rest (oi, i₀, ti, 0, to)) := fun q hq => by
    rcases List.mem_cons.mp hq with rfl | hq
    · exact N _ hci
    · exact N _ (hrest q hq)
  refine kst_range (x := "i") (n := n) (fldLed ci rest) (fun c => [(offn, .int c.2.2.2.1 c.2.2.2.2)]) fldFacts [Str.ofString "i", offn, Str.ofString "x"] (fun pre c => fldInv ks cc k₀ n i₀ pre.length c.2.1 c.2.2.2.1) (oi, i₀, ti, 0, to) hh hr ?_ ?_ F N1 hd ?_ (fldInv_start ks cc k₀ n i₀ hi) ?_ ?_
  · have : ∀ k : Fin 11, Builtin.Range.small 0 ((k.val : Nat) : Int) 1 = true := by decide +kernel
    exact this ⟨n, by omega⟩
  · have : ∀ k : Fin 11, Builtin.Range.rangeSize 0 ((k.val : Nat) : Int) 1 = ((k.val : Nat) : Int) := by decide +kernel
    exact this ⟨n, by omega⟩
  · intro p hp
    rw [List.mem_singleton.mp hp]; exact ho
  · rintro ⟨oi, idx, tidx, off, toff⟩ pre k t u h tk own hk hlt hoff hf hp F' N'
    have hk' : k = (pre.length : Int) := by omega
    subst hk'
    refine wpAny_mono (turn pre.length oi idx tidx off toff t u h tk own hlt (by simpa using hoff) hf hp F' N') (fun f s₂ z => ?_) fun _ _ z => z
    have up : FldPost h₀ env.locals ci rest offn m₀ ks cc k₀ n i₀ pre.length own { s with heap := h, toks := tk } Q .next s₂ → InvEndN h₀ env.locals (KstS (fldLed ci rest) (fun c => [(offn, .int c.2.2.2.1 c.2.2.2.2)]) fldFacts "i" [Str.ofString "i", offn, Str.ofString "x"] m₀ (fun pre c => fldInv ks cc k₀ n i₀ pre.length c.2.1 c.2.2.2.1) (pre ++ [(pre.length : Int)])) own ((fldLed ci rest (oi, i₀, ti, 0, to)).map (·.1)) { s with heap := h, toks := tk } s₂ := by
      rintro ⟨h', tk', m', news', oi', idx', tidx', off', toff', rfl, F2, N2, a1, a2, a3, a4, a5, a6⟩
      refine kst_end (oi', idx', tidx', off', toff') F2 N2 a1 a2 rfl a3 ?_ ?_ (by simpa using a6)
      · intro p hp
        rw [List.mem_singleton.mp hp]; exact a4
      · intro z hz _ hs
        simp only [List.contains_cons, List.contains_nil, Bool.or_false, Bool.or_eq_false_iff, beq_eq_false_iff_ne, ne_eq] at hs
        exact a5 z hs.1 hs.2.1 hs.2.2
    cases f with
    | ret v => exact z
    | brk => exact z
    | next => exact up z
    | cont => exact up z
  · rintro ⟨oi, idx, tidx, off, toff⟩ u h tk hf hp F' N'
    exact done oi idx tidx off toff u h tk hf (by simpa [rangeKs_length] using hp) F' N'
end
end Mine
open PySem PySem.W PyProof.Rows PySem.Calls PySem.Spec
namespace Mine
set_option maxRecDepth 100000
def copySz (s : Int) : Int := if s = 0 then 65536 else s
/-- the steps of a delta upon the text bk; r: the octets left, rem: the length left, acc: the target so far -/
def opsL (bk : List Int) : Nat → List Int → Int → List Int → Option (List Int)
  | 0, _, _, _ => none
  | n + 1, r, rem, acc => match r with
    | [] => if rem = 0 then some acc else none
    | c :: q =>
      if 128 ≤ c then
        match fieldsL c 0 4 q with
        | none => none
        | some (off, q1) => match fieldsL c 4 3 q1 with
          | none => none
          | some (sz, q2) => if off + copySz sz > bk.length ∨ copySz sz > rem then (if q2 = [] ∧ rem = 0 then some acc else none) else opsL bk n q2 (rem - copySz sz) (acc ++ cut bk off (off + copySz sz))
      else if c = 0 then none
      else if c > rem ∨ c > q.length then none
      else opsL bk n (q.drop c.toNat) (rem - c) (acc ++ q.take c.toNat)
def readOps (bk r : List Int) (rem : Int) (acc : List Int) : Option (List Int) := opsL bk (r.length + 1) r rem acc
def readDelta (bk dk : List Int) : Option (List Int) := match sizeL dk with
  | none => none
  | some (s1, k1) => match sizeL (dk.drop k1) with
    | none => none
    | some (s2, k2) => if s1 = bk.length then readOps bk (dk.drop (k1 + k2)) s2 [] else none
theorem fieldsL_len {c : Int} : ∀ {n k : Nat} {r : List Int} {v : Int} {q : List Int}, fieldsL c k n r = some (v, q) → q.length ≤ r.length
  | 0, _, r, v, q, h => by simp [fieldsL] at h; rw [h.2]; exact Nat.le_refl _
  | n + 1, k, r, v, q, h => by
    unfold fieldsL at h
    split at h
    · cases r with
      | nil => cases h
      | cons x r =>
        simp only [Option.map_eq_some_iff] at h
        obtain ⟨⟨v', q'⟩, h1, h2⟩ := h
        have := fieldsL_len h1
        cases h2
        simp only [List.length_cons]; omega
    · simp only [Option.map_eq_some_iff] at h
      obtain ⟨⟨v', q'⟩, h1, h2⟩ := h
      have := fieldsL_len h1
      cases h2
      exact this
theorem opsL_cons (bk : List Int) (n : Nat) (c : Int) (q : List Int) (rem : Int) (acc : List Int) : opsL bk (n + 1) (c :: q) rem acc =
    if 128 ≤ c then
      match fieldsL c 0 4 q with
      | none => none
      | some (off, q1) => match fieldsL c 4 3 q1 with
        | none => none
        | some (sz, q2) => if off + copySz sz > bk.length ∨ copySz sz > rem then (if q2 = [] ∧ rem = 0 then some acc else none) else opsL bk n q2 (rem - copySz sz) (acc ++ cut bk off (off + copySz sz))
    else if c = 0 then none
    else if c > rem ∨ c > q.length then none
    else opsL bk n (q.drop c.toNat) (rem - c) (acc ++ q.take c.toNat) := rfl
theorem opsL_fuel (bk : List Int) : ∀ (n m : Nat) (r : List Int) (rem : Int) (acc : List Int), r.length < n → r.length < m → opsL bk n r rem acc = opsL bk m r rem acc
  | 0, _, _, _, _, h, _ => absurd h (Nat.not_lt_zero _)
  | _, 0, _, _, _, _, h => absurd h (Nat.not_lt_zero _)
  | n + 1, m + 1, [], rem, acc, _, _ => by simp only [opsL]
  | n + 1, m + 1, c :: q, rem, acc, hn, hm => by
    simp only [List.length_cons] at hn hm
    rw [opsL_cons, opsL_cons]
    cases h1 : fieldsL c 0 4 q with
    | none => simp only []; rw [opsL_fuel bk n m _ _ _ (by rw [List.length_drop]; omega) (by rw [List.length_drop]; omega)]
    | some p =>
      obtain ⟨off, q1⟩ := p
      have l1 := fieldsL_len h1
      cases h2 : fieldsL c 4 3 q1 with
      | none => simp only [h2]; rw [opsL_fuel bk n m _ _ _ (by rw [List.length_drop]; omega) (by rw [List.length_drop]; omega)]
      | some p2 =>
        obtain ⟨sz, q2⟩ := p2
        have l2 := fieldsL_len h2
        simp only [h2]
        rw [opsL_fuel bk n m q2 _ _ (by omega) (by omega), opsL_fuel bk n m (q.drop _) _ _ (by rw [List.length_drop]; omega) (by rw [List.length_drop]; omega)]
theorem readOps_of (bk : List Int) {n : Nat} {r : List Int} {rem : Int} {acc : List Int} (h : r.length < n) : opsL bk n r rem acc = readOps bk r rem acc := opsL_fuel bk _ _ _ _ _ h (Nat.lt_succ_self _)
section
variable {bk q q1 q2 acc : List Int} {c rem off sz : Int}
theorem ops_nil : readOps bk [] rem acc = if rem = 0 then some acc else none := rfl
theorem ops_none0 (hc : 128 ≤ c) (h1 : fieldsL c 0 4 q = none) : readOps bk (c :: q) rem acc = none := by
  unfold readOps
  rw [List.length_cons, opsL_cons]
  rw [if_pos hc, h1]
theorem ops_none1 (hc : 128 ≤ c) (h1 : fieldsL c 0 4 q = some (off, q1)) (h2 : fieldsL c 4 3 q1 = none) : readOps bk (c :: q) rem acc = none := by
  unfold readOps
  rw [List.length_cons, opsL_cons]
  rw [if_pos hc, h1]
  simp only [h2]
theorem ops_copy (hc : 128 ≤ c) (h1 : fieldsL c 0 4 q = some (off, q1)) (h2 : fieldsL c 4 3 q1 = some (sz, q2)) (hf1 : off + copySz sz ≤ bk.length) (hf2 : copySz sz ≤ rem) :
    readOps bk (c :: q) rem acc = readOps bk q2 (rem - copySz sz) (acc ++ cut bk off (off + copySz sz)) := by
  have l1 := fieldsL_len h1
  have l2 := fieldsL_len h2
  conv => lhs; unfold readOps
  rw [List.length_cons, opsL_cons]
  rw [if_pos hc, h1]
  simp only [h2]
  rw [if_neg (by omega), readOps_of bk (by omega)]
theorem ops_bad (hc : 128 ≤ c) (h1 : fieldsL c 0 4 q = some (off, q1)) (h2 : fieldsL c 4 3 q1 = some (sz, q2)) (hf : off + copySz sz > bk.length ∨ copySz sz > rem) :
    readOps bk (c :: q) rem acc = if q2 = [] ∧ rem = 0 then some acc else none := by
  unfold readOps
  rw [List.length_cons, opsL_cons]
  rw [if_pos hc, h1]
  simp only [h2]
  rw [if_pos hf]
theorem ops_zero : readOps bk (0 :: q) rem acc = none := by
  unfold readOps
  rw [List.length_cons, opsL_cons, if_neg (by decide), if_pos rfl]
theorem ops_long (hc : ¬ 128 ≤ c) (h : c > rem ∨ c > q.length) : readOps bk (c :: q) rem acc = none := by
  unfold readOps
  rw [List.length_cons, opsL_cons]
  rw [if_neg hc, if_pos h]
  simp
theorem ops_insert (hc : ¬ 128 ≤ c) (h0 : c ≠ 0) (h1 : c ≤ rem) (h2 : c ≤ q.length) : readOps bk (c :: q) rem acc = readOps bk (q.drop c.toNat) (rem - c) (acc ++ q.take c.toNat) := by
  conv => lhs; unfold readOps
  rw [List.length_cons, opsL_cons]
  rw [if_neg hc, if_neg h0, if_neg (by omega), readOps_of bk (by rw [List.length_drop]; omega)]
end
end Mine
open PySem PySem.W PyProof.Rows PySem.Calls PySem.Spec
namespace Mine
set_option maxRecDepth 100000
def mainInv (bk dk : List Int) (R : Option (List Int)) (dest idx rem : Int) (cs : List (List Int)) : Prop :=
  0 ≤ idx ∧ idx ≤ dk.length ∧ 0 ≤ rem ∧ rem + cs.flatten.length = dest ∧ (cs.length : Int) ≤ idx ∧ (cs.flatten.length : Int) ≤ 200000 * idx ∧ readOps bk (dk.drop idx.toNat) rem cs.flatten = R
def afterInv (dk : List Int) (R : Option (List Int)) (dest idx rem : Int) (cs : List (List Int)) : Prop :=
  0 ≤ idx ∧ idx ≤ dk.length ∧ 0 ≤ rem ∧ rem + cs.flatten.length = dest ∧ (cs.length : Int) ≤ dk.length ∧ (cs.flatten.length : Int) ≤ 200000 * dk.length ∧ R = (if idx = dk.length ∧ rem = 0 then some cs.flatten else none)
theorem start_main {bk dk : List Int} {ix1 ix2 s1 s2 : Int} {k1 k2 : Nat} (h1 : sizeL (dk.drop (Int.toNat 0)) = some (s1, k1)) (e1 : ix1 = 0 + (k1 : Int)) (h2 : sizeL (dk.drop ix1.toNat) = some (s2, k2)) (e2 : ix2 = ix1 + k2)
    (hs : s1 = bk.length) (h0 : 0 ≤ s2) (hl : ix2 ≤ dk.length) : mainInv bk dk (readDelta bk dk) s2 ix2 s2 [] := by
  refine ⟨by omega, hl, h0, by simp, by simp; omega, by simp; omega, ?_⟩
  have a1 : sizeL dk = some (s1, k1) := by simpa using h1
  have a2 : ix1.toNat = k1 := by omega
  have a3 : ix2.toNat = k1 + k2 := by omega
  rw [a2] at h2
  unfold readDelta
  rw [a1]
  simp only [h2]
  rw [if_pos hs, a3]
  rfl
theorem delta_none1 {bk dk : List Int} (h1 : sizeL (dk.drop (Int.toNat 0)) = none) : readDelta bk dk = none := by
  have a1 : sizeL dk = none := by simpa using h1
  unfold readDelta
  rw [a1]
theorem delta_none2 {bk dk : List Int} {ix1 s1 : Int} {k1 : Nat} (h1 : sizeL (dk.drop (Int.toNat 0)) = some (s1, k1)) (e1 : ix1 = 0 + (k1 : Int)) (h2 : sizeL (dk.drop ix1.toNat) = none) : readDelta bk dk = none := by
  have a1 : sizeL dk = some (s1, k1) := by simpa using h1
  have a2 : ix1.toNat = k1 := by omega
  rw [a2] at h2
  unfold readDelta
  rw [a1]
  simp only [h2]
theorem delta_none3 {bk dk : List Int} {ix1 s1 s2 : Int} {k1 k2 : Nat} (h1 : sizeL (dk.drop (Int.toNat 0)) = some (s1, k1)) (e1 : ix1 = 0 + (k1 : Int)) (h2 : sizeL (dk.drop ix1.toNat) = some (s2, k2)) (hs : s1 ≠ bk.length) : readDelta bk dk = none := by
  have a1 : sizeL dk = some (s1, k1) := by simpa using h1
  have a2 : ix1.toNat = k1 := by omega
  rw [a2] at h2
  unfold readDelta
  rw [a1]
  simp only [h2]
  rw [if_neg hs]
theorem digits_ok {v : Int} {k : Nat} (h0 : 0 ≤ v) (h1 : v < 2 ^ (7 * k)) (hk : k ≤ 1842) : v.natAbs < 2 ^ 12900 := by
  obtain ⟨n, rfl⟩ := Int.eq_ofNat_of_zero_le h0
  rw [← kbt_cast] at h1
  have h2 : n < 2 ^ (7 * k) := Int.ofNat_lt.mp h1
  rw [Int.natAbs_natCast]
  exact Nat.lt_of_lt_of_le h2 (Nat.pow_le_pow_right (by decide) (by omega))
theorem main_out {bk dk : List Int} {R : Option (List Int)} {dest idx rem : Int} {cs : List (List Int)} (h : mainInv bk dk R dest idx rem cs) (hl : ¬ idx < dk.length) : afterInv dk R dest idx rem cs := by
  obtain ⟨h1, h2, h3, h4, h5, h6, h7⟩ := h
  refine ⟨h1, h2, h3, h4, by omega, by omega, ?_⟩
  rw [← h7, List.drop_of_length_le (by omega), ops_nil]
  have e : idx = dk.length := by omega
  by_cases q : rem = 0
  · rw [if_pos q, if_pos ⟨e, q⟩]
  · rw [if_neg q, if_neg fun z => q z.2]
section
variable {prog : Program} {w : World} {A : Around} {E : Value → Shared → Prop} {Q : Flow → Shared → Prop} {s : Shared} {env : Env} {h₀ : Heap} {L : Addr}
abbrev mainStored : List Str := ["remaining", "cmd", "cp_off", "i", "x", "cp_size"]
abbrev MainS := Obj × Int × Tok × Int × Tok × List Value × List (List Int) × Nat
abbrev mainLed (ci lo : Addr) (fixed : List (Addr × Obj)) (c : MainS) : List (Addr × Obj) := (ci, c.1) :: (lo, listOf c.2.2.2.2.2.1.toArray c.2.2.2.2.2.2.2) :: fixed
abbrev mainPs (c : MainS) : List (Str × Value) := [(Str.ofString "remaining", .int c.2.2.2.1 c.2.2.2.2.1)]
abbrev mainFacts (c : MainS) : Prop := c.1.data = .cell (some (.int c.2.1 c.2.2.1)) ∧ BytesAre c.2.2.2.2.2.1 c.2.2.2.2.2.2.1
def MainAt (h₀ : Heap) (L : Addr) (ci lo : Addr) (fixed : List (Addr × Obj)) (m₀ : Str → Option Value) (s : Shared) (I : Int → Int → List (List Int) → Prop) (s₂ : Shared) : Prop :=
  ∃ h' tk m' news' oi idx tidx rem trem vs cs nn, s₂ = { s with heap := h', toks := tk } ∧ Fr h₀ L h' m' ∧ News h₀ L h' news' ∧ (∀ q ∈ (ci, oi) :: (lo, listOf (List.toArray vs) nn) :: fixed, q ∈ news') ∧ oi.data = .cell (some (.int idx tidx)) ∧ BytesAre vs cs ∧
    m' (Str.ofString "remaining") = some (.int rem trem) ∧ (∀ z : Str, z ≠ Str.ofString "remaining" → z ≠ Str.ofString "cmd" → z ≠ Str.ofString "cp_off" → z ≠ Str.ofString "i" → z ≠ Str.ofString "x" → z ≠ Str.ofString "cp_size" → m' z = m₀ z) ∧ I idx rem cs
def MainPost (h₀ : Heap) (L : Addr) (ci lo : Addr) (fixed : List (Addr × Obj)) (m₀ : Str → Option Value) (s : Shared) (Q : Flow → Shared → Prop) (I J : Int → Int → List (List Int) → Prop) (f : Flow) (s₂ : Shared) : Prop :=
  match f with
  | .ret v => Q (.ret v) s₂
  | .brk => MainAt h₀ L ci lo fixed m₀ s J s₂
  | _ => MainAt h₀ L ci lo fixed m₀ s I s₂
theorem main_loop {test : Expr} {body : List Stmt} {pos : Pos} {m₀ : Str → Option Value} {news : List (Addr × Obj)} (bk dk : List Int) (R : Option (List Int)) (dest : Int) {idx : Int} {tidx trem : Tok} {oi : Obj} {ci lo : Addr} {nn : Nat} (fixed : List (Addr × Obj))
    (F : Fr h₀ L s.heap m₀) (N : News h₀ L s.heap news) (hci : (ci, oi) ∈ news) (hlo : (lo, listOf #[] nn) ∈ news) (hfix : ∀ q ∈ fixed, q ∈ news)
    (hd : oi.data = .cell (some (.int idx tidx))) (hm : m₀ (Str.ofString "remaining") = some (.int dest trem)) (hp : mainInv bk dk R dest idx dest [])
    (turn : ∀ oi idx tidx rem trem vs cs nn (u : Str → Option Value) h tk, oi.data = .cell (some (.int idx tidx)) → BytesAre vs cs → mainInv bk dk R dest idx rem cs →
      Fr h₀ L h (kstB (fun z => if mainStored.contains z then u z else m₀ z) [(Str.ofString "remaining", .int rem trem)]) → News h₀ L h ((ci, oi) :: (lo, listOf (List.toArray vs) nn) :: fixed) →
      wpAny (model prog w) A (isTrue test env (eval test env)) (fun b s₂ =>
        if b = true then wpAny (model prog w) A (execs body env) (MainPost h₀ L ci lo fixed m₀ s Q (fun i r c => mainInv bk dk R dest i r c ∧ idx < i) (fun i r c => afterInv dk R dest i r c)) E s₂ else MainAt h₀ L ci lo fixed m₀ s (fun i r c => afterInv dk R dest i r c) s₂) E { s with heap := h, toks := tk })
    (after : ∀ oi idx tidx rem trem vs cs nn (u : Str → Option Value) h tk, oi.data = .cell (some (.int idx tidx)) → BytesAre vs cs → afterInv dk R dest idx rem cs →
      Fr h₀ L h (kstB (fun z => if mainStored.contains z then u z else m₀ z) [(Str.ofString "remaining", .int rem trem)]) → News h₀ L h ((ci, oi) :: (lo, listOf (List.toArray vs) nn) :: fixed) → Q .next { s with heap := h, toks := tk })
    (hE : PassesOwn (model prog w) A env E) :
    wpAny (model prog w) A (exec (.While test body [] pos) env) Q E s := by
  have N1 : News h₀ L s.heap (mainLed ci lo fixed (oi, idx, tidx, dest, trem, [], [], nn)) := fun q hq => by
    rcases List.mem_cons.mp hq with rfl | hq
    · exact N _ hci
    · rcases List.mem_cons.mp hq with rfl | hq
      · exact N _ hlo
      · exact N _ (hfix q hq)
  have out : ∀ s₂, MainAt h₀ L ci lo fixed m₀ s (fun i r c => afterInv dk R dest i r c) s₂ → Q .next s₂ := by
    rintro _ ⟨h', tk, m', news', oi, idx, tidx, rem, trem, vs, cs, nn, rfl, F2, N2, a1, a2, a3, a4, a5, a6⟩
    refine after oi idx tidx rem trem vs cs nn m' h' tk a2 a3 a6 (ksw_fr ?_ ?_ F2) fun q hq => N2 q (a1 q hq)
    · intro p hp; rw [List.mem_singleton.mp hp]; exact a4
    · intro z hz hs
      simp only [mainStored, List.contains_cons, List.contains_nil, Bool.or_false, Bool.or_eq_false_iff, beq_eq_false_iff_ne, ne_eq] at hs
      exact a5 z hs.1 hs.2.1 hs.2.2.1 hs.2.2.2.1 hs.2.2.2.2.1 hs.2.2.2.2.2
  refine ksw_while (mainLed ci lo fixed) mainPs mainFacts mainStored (fun c => mainInv bk dk R dest c.2.1 c.2.2.2.1 c.2.2.2.2.2.2.1) (fun c => (dk.length - c.2.1).toNat) (oi, idx, tidx, dest, trem, [], [], nn) F N1 ⟨hd, .nil⟩ ?_ hp ?_ hE
  · intro p hp; rw [List.mem_singleton.mp hp]; exact hm
  · rintro ⟨oi, idx, tidx, rem, trem, vs, cs, nn⟩ u h tk ⟨f1, f2⟩ hp F' N'
    refine wpAny_mono (turn oi idx tidx rem trem vs cs nn u h tk f1 f2 hp F' N') (fun b s₂ z => ?_) fun _ _ z => z
    cases b with
    | false =>
      simp only [Bool.false_eq_true, if_false] at z ⊢
      exact out s₂ z
    | true =>
      simp only [if_true] at z ⊢
      refine wpAny_mono z (fun f s₃ y => ?_) fun _ _ z => z
      have up : MainAt h₀ L ci lo fixed m₀ s (fun i r c => mainInv bk dk R dest i r c ∧ idx < i) s₃ → KswEnd h₀ L s (mainLed ci lo fixed) mainPs mainFacts mainStored m₀ (fun c => mainInv bk dk R dest c.2.1 c.2.2.2.1 c.2.2.2.2.2.2.1) (fun c => (dk.length - c.2.1).toNat) (oi, idx, tidx, rem, trem, vs, cs, nn) s₃ := by
        rintro ⟨h', tk, m', news', oi', idx', tidx', rem', trem', vs', cs', nn', rfl, F2, N2, a1, a2, a3, a4, a5, a6, a7⟩
        refine ksw_end (oi', idx', tidx', rem', trem', vs', cs', nn') F2 N2 a1 ⟨a2, a3⟩ ?_ ?_ a6 ?_
        · intro p hp; rw [List.mem_singleton.mp hp]; exact a4
        · intro z _ hs
          simp only [mainStored, List.contains_cons, List.contains_nil, Bool.or_false, Bool.or_eq_false_iff, beq_eq_false_iff_ne, ne_eq] at hs
          exact a5 z hs.1 hs.2.1 hs.2.2.1 hs.2.2.2.1 hs.2.2.2.2.1 hs.2.2.2.2.2
        · obtain ⟨b1, b2, _⟩ := a6
          obtain ⟨c1, c2, _⟩ := hp
          show (dk.length - idx').toNat < (dk.length - idx).toNat
          omega
      cases f with
      | ret v => exact y
      | brk => exact out s₃ y
      | next => exact up y
      | cont => exact up y
end
end Mine
open PySem PySem.W PyProof.Rows PySem.Calls PySem.Spec
namespace Mine
set_option maxRecDepth 100000
theorem slot_bytes_repr : Slot "bytes" "__repr__" "bytes.__repr__" :=
  .of (owner := "bytes") (n := "__repr__") (by rw [typeLookup_type, builtinLookup_eq_fast]; kernel_rfl) (by decide +kernel) (by decide +kernel) (by decide +kernel)
    (by first | exact .inl (by decide +kernel) | exact .inr (by decide +kernel)) (by rw [isSubtype_type]; kernel_rfl)
theorem entry_bytes_repr : entryFor table "bytes.__repr__" = some Builtin.«bytes.__repr__» := entryFor_of_tree (by kernel_rfl)
theorem args_bytes_repr (a : Value) : argsOk "bytes.__repr__" ⟨[a], []⟩ := by unfold argsOk; kernel_rfl
theorem gives_bytes_repr {b : Array UInt8} {t : Tok} (h : 4 * b.size + 3 ≤ 16777216) : Gives (Builtin.«bytes.__repr__» ⟨[.bytes b t], []⟩) (.str (Builtin.Bytes.literal b)) := by
  show Gives (Builtin.Bytes.literalAsked b >>= fun r => _) _
  unfold Builtin.Bytes.literalAsked
  rw [KBy.tooLong_not (by simpa using h)]
  exact .of_eq rfl
theorem fold_size (f : UInt8 → Array Nat) (hf : ∀ c, (f c).size ≤ 4) : ∀ (l : List UInt8) (a : Array Nat), (l.foldl (fun acc c => acc ++ f c) a).size ≤ a.size + 4 * l.length
  | [], a => by simp
  | c :: r, a => by
    rw [List.foldl_cons]
    have h := fold_size f hf r (a ++ f c)
    have h2 := hf c
    rw [Array.size_append] at h
    simp only [List.length_cons]
    omega
theorem lit_len (b : Array UInt8) : (Builtin.Bytes.literal b).length ≤ 4 * b.size + 3 := by
  unfold Builtin.Bytes.literal
  show (Array.push _ _).size ≤ _
  rw [Array.size_push, ← Array.foldl_toList]
  refine Nat.le_trans (Nat.succ_le_succ (fold_size _ (fun c => ?_) _ _)) ?_
  · dsimp only
    (repeat' split) <;> simp
  · simp only [Array.length_toList]
    show 2 + 4 * b.size + 1 ≤ _
    omega
section
variable {prog : Program} {w : World} {A : Around} {s : Shared} {E : Value → Shared → Prop}
theorem repr_b {b : Array UInt8} {t : Tok} {Q : Value → Shared → Prop} (hz : 4 * b.size + 3 ≤ 16777216) (h : ∀ x t' k, Str.length x ≤ 4 * b.size + 3 → Q (.str x t') { s with toks := k }) : wpAny (model prog w) A (pyReprObj (.bytes b t)) Q E s :=
  wpAny_pyReprObj_gives (typeIs_bytes _ _ _) slot_bytes_repr entry_bytes_repr (args_bytes_repr _) (gives_bytes_repr hz) (h _ _ _ (lit_len b)) rfl (by rw [sizeLine_eq]; exact Nat.le_trans (lit_len b) hz)
end
theorem own_apart {own n : List (Addr × Obj)} {as : List Addr} (h : OwnOff own as) (hs : ∀ r ∈ n, r.1 ∈ as) : ∀ q ∈ own, ∀ r ∈ n, q.1 ≠ r.1 := fun q hq r hr => h q hq r.1 (hs r hr)
theorem bit_eq (c : Int) (k : Nat) : Builtin.bitAnd c (1 * 2 ^ k) = (c / 2 ^ k % 2) * 2 ^ k := by rw [Int.one_mul, kbt_bit]
theorem bit_of {c : Int} {k : Nat} (h : Builtin.bitAnd c (1 * 2 ^ k) ≠ 0) : c / 2 ^ k % 2 = 1 := by
  rw [bit_eq] at h
  have h2 := Int.emod_two_eq (c / 2 ^ k)
  rcases h2 with e | e
  · rw [e, Int.zero_mul] at h; exact absurd rfl h
  · exact e
theorem bit_no {c : Int} {k : Nat} (h : Builtin.bitAnd c (1 * 2 ^ k) = 0) : ¬ c / 2 ^ k % 2 = 1 := by
  rw [bit_eq] at h
  intro e
  rw [e, Int.one_mul] at h
  have pp : (0 : Int) < 2 ^ k := kbt_pos k
  omega
theorem drop_small {b : Array UInt8} {ks : List Int} {n : Nat} (h : KBw.bInts b = ks.drop n) (hl : ks.length ≤ 1800) : b.size ≤ 1800 := by
  have e := size_of h
  rw [List.length_drop] at e
  omega
end Mine
open PySem PySem.W PyProof.Rows PySem.Calls PySem.Spec
namespace Mine
set_option maxRecDepth 100000
section
variable {prog : Program} {w : World} {A : Around} {E : Value → Shared → Prop} {Q : Flow → Shared → Prop} {s : Shared} {env : Env} {h₀ : Heap} {L : Addr}
/-- what both ways of an if leave: the name x holds v -/
def CutPost (h₀ : Heap) (L : Addr) (news : List (Addr × Obj)) (x : Str) (v : Int) (m₀ : Str → Option Value) (s : Shared) (f : Flow) (s₂ : Shared) : Prop :=
  ∃ h' tk m' t, f = .next ∧ s₂ = { s with heap := h', toks := tk } ∧ Fr h₀ L h' m' ∧ News h₀ L h' news ∧ m' x = some (.int v t) ∧ (∀ z, z ≠ x → m' z = m₀ z)
theorem cut_if {stmt : Stmt} {news : List (Addr × Obj)} {m₀ : Str → Option Value} (x : Str) (v : Int) (_F : Fr h₀ L s.heap m₀) (_N : News h₀ L s.heap news)
    (hIf : wpAny (model prog w) A (exec stmt env) (CutPost h₀ L news x v m₀ s) E s)
    (hrest : ∀ (u : Str → Option Value) h tk t, Fr h₀ L h (kstB (fun z => if [x].contains z then u z else m₀ z) [(x, .int v t)]) → News h₀ L h news → Q .next { s with heap := h, toks := tk }) :
    wpAny (model prog w) A (exec stmt env) Q E s := by
  refine wpAny_mono hIf (fun f s₂ h => ?_) fun _ _ z => z
  obtain ⟨h', tk, m', t, rfl, rfl, F2, N2, a1, a2⟩ := h
  refine hrest m' h' tk t (ksw_fr ?_ ?_ F2) N2
  · intro p hp
    rw [List.mem_singleton.mp hp]; exact a1
  · intro z hz _
    exact a2 z (hz _ (List.mem_singleton.mpr rfl))
theorem cut_end {news : List (Addr × Obj)} {m₀ m' : Str → Option Value} {x : Str} {v v' : Int} {t : Tok} {h' : Heap} {tk : Nat} (F2 : Fr h₀ L h' m') (N2 : News h₀ L h' news) (a1 : m' x = some (.int v' t)) (e : v' = v) (a2 : ∀ z, z ≠ x → m' z = m₀ z) :
    CutPost h₀ L news x v m₀ s .next { s with heap := h', toks := tk } := ⟨h', tk, m', t, rfl, rfl, F2, N2, e ▸ a1, a2⟩
end
theorem copySz_bd {sz : Int} (h0 : 0 ≤ sz) (h1 : sz ≤ 16777215) : 1 ≤ copySz sz ∧ copySz sz ≤ 16777215 := by unfold copySz; split <;> omega
end Mine
open PySem PySem.W PyProof.Rows PySem.Calls PySem.Spec
namespace Mine
set_option maxRecDepth 100000
set_option maxHeartbeats 400000 in
theorem hdr_spec (w : World) {p : Program} {loose : List Str} {mean : ExcName → Option Value} {mg mb : Str → Option Value}
   {oc od0 : _} {osl : _} {nm ql : Str} {ps : Arguments} {bd : List Stmt} {sc : Scope} {dV kV dc pm0 cdv ct : Value} {an : Option Addr}
   (hK : List.lookup 47 (hd.heap_39 w.params) = some ⟨oc, od0, .func (fnOf nm ql ps bd sc dV kV dc pm0 an cdv ct), osl⟩)
   {fname bind : Str} {params : Arguments} {fbody : List Stmt} {fscope : Scope} {pos : Pos} (hdef : bd[5]? = some (.FunctionDef fname params fbody [] none [] fscope none bind pos))
   {base : Heap} (X₀ : (hd.heap_39 w.params).In base) (T₀ : Top p loose mean mg mb base)
   (codeHd : CodeHd base 46 42) (dp un : Nat) (gd : Option (List Code)) (l : List Env) (hdp : dp + 5 < recursionLimit) (hu : un + 40 < cLine)
   {qual : Str} {doc pm ctv : Value} {f c cd : Addr} {oc' od : Obj} {vs' : Array Value} {t' : Tok} (hc1 : oc'.data = .fields vs') (hc2 : vs'[1]? = some (.str qual t'))
   {d : Array UInt8} {dk : List Int} (hdk : KBw.bInts d = dk) (hd0 : dk.length ≤ 1800) {tl : Tok} (hcell : od.data = .cell (some (.int dk.length tl)))
   (td : Tok) {i : Int} (ti : Tok) (hi0 : 0 ≤ i) (hi1 : i ≤ dk.length) :
   Spec PySem.Challenge.rw_jq0004_03.row.prog w (aTop dp un gd l) base l (.ref f) [.bytes d td, .int i ti] [(f, fnMade fname qual params fbody fscope [("delta_length", cd)] doc pm c ctv), (c, oc'), (cd, od)]
     (fun v n' => ∃ D sz t1 ix t2 k, v = .ref D ∧ n' = [(D, tupO [.int sz t1, .int ix t2]), (f, fnMade fname qual params fbody fscope [("delta_length", cd)] doc pm c ctv), (c, oc'), (cd, od)] ∧ sizeL (dk.drop i.toNat) = some (sz, k) ∧ ix = i + (k : Nat))
     (.ref 32) (fun n' => n' = [(f, fnMade fname qual params fbody fscope [("delta_length", cd)] doc pm c ctv), (c, oc'), (cd, od)] ∧ sizeL (dk.drop i.toNat) = none) := by
  have hfill : (fun _ : OpenLaw => hd.heap_39) PySem.Challenge.rw_jq0004_03 = hd.heap_39 := by (k_fill; rfl)
  clear hfill
  have hK' := (by k_dflt k_is : List.lookup 47 (hd.heap_39 w.params) = some ⟨_, _, .func (fnOf _ _ _ _ _ _ _ _ _ _ _ _), _⟩)
  rw [hK'] at hK
  cases hK
  cases hdef
  clear hK'
  intro g s Q E B hg hsz N hret hexc
  have X := X₀.keeps B.stays
  have T := T₀.keeps B.stays
  refine wpAny_call ?_
  k_dflt (refine' enter_nest hg hsz N T (by k_mem) ⟨c, oc', vs', t', rfl, (N _ (.tail _ (.head _))).1, hc1, hc2⟩ ?k8 (BindsTo.of_eq rfl) (locs rfl) ?_ rfl rfl rfl (by decide); (case k8 => ktr_room); intro L' h' F' N' l1; (try k_lt l1); (try dsimp only); (try k_fold))
  k_with_none
  k_with "execs cons" => k_fold
  k_with "eval Call" => k_fold
  k_with "storeName" => (k_here; k_dflt (first | (refine' storeI_L ?F ?N ?_ ?a ?b; (case F => k_asm); (case N => k_asm); (case a => rfl); (case b => rfl); k_whole; intro h' tk' t' F' N'; (try k_sweep); (try dsimp only); (try k_fold)) | (refine' storeB_L ?F ?N ?_ ?a ?b; (case F => k_asm); (case N => k_asm); (case a => rfl); (case b => rfl); k_whole; intro h' tk' t' F' N'; (try k_sweep); (try dsimp only); (try k_fold)) | (refine' storeG_L ?F ?N ?_ ?a ?b; (case F => k_asm); (case N => k_asm); (case a => rfl); (case b => rfl); k_whole; intro h' tk' F' N'; (try k_sweep); (try dsimp only); (try k_fold))))
  k_with "exec Raise some none" => (k_extra "raise")
  k_with "exec While Constant cons nil" => (k_extra "while")
  k_with "exec While Compare cons nil" => (k_extra "while")
  k_with "KswEnd" => (k_extra "turn")
  k_with "subscriptTail Name Slice bytes ref" => (k_here; (with_reducible show wpAny _ _ (subscriptTail _ (PySem.Expr.Slice (some _) (some _) none _) (Value.bytes _ _) (Value.ref _)) _ _ _); (with_reducible rename Fr _ _ _ _ => F'); (with_reducible rename News _ _ _ _ => N'); (refine slice_ij (s := ⟨_, _, _, _, _⟩) F' N' (by assumption) (by omega) (by omega) (by omega) ?_); intro _ _ _ _ _ _ hcut)
  k_with "call builtin:len" => (k_here; (with_reducible show wpAny _ _ (call (Value.builtin "len") [Value.bytes _ _]) _ _ _); (refine len_b (by assumption) (by omega) ?_); intro _ _)
  k_with "call builtin:ord" => (k_here; (with_reducible show wpAny _ _ (call (Value.builtin "ord") [Value.bytes _ _]) _ _ _); (refine ord_bytes (Eq.trans (by assumption) (cut_one' _ _ _ (by omega) (by omega) (by omega))) ?_); intro _ _ hlo hhi)
  k_with "loadName" => (k_here; k_dflt (refine' loadX_L ?F ?v ?_ ?hk ?hx; (case F => k_asm); (case v => rfl); (case hk => rfl); (case hx => rfl); k_whole))
  k_with "leaving ref" => (k_here; k_dflt (refine' leave_made ?B ?hx ?F ?N (fun _ h => h) ?hf ?hk ?_; (case hx => assumption); (case B => assumption); (case F => k_asm); (case N => k_asm); (case hf => exact rfl); (case hk => exact rfl)); intro h' fl'; (try dsimp only))
  k_with "leaving" => (k_here; k_dflt (refine' leave_on ?B ?F ?x (fun _ h => h) ?hf ?_; (case x => assumption); (case B => assumption); (case F => k_asm); (case hf => exact rfl)); intro h' fl'; (try dsimp only))
  k_with "binaryOp LShift int int" => (k_here; (refine lshift_any (by omega) (by omega) (by k_extra "shift") ?_); intro _ _)
  k_with "raise" => (k_here; (with_reducible show wpAny _ _ (exec (Stmt.Raise (some (Expr.Call (Expr.Name _ _) [_] [] _)) none _) _) _ _ _); k_dflt (refine' Raise_ADE w ?F ?X ?T ?hh ?hdp ?_ ?he ?hk ?hx; (case F => k_asm); (case X => k_asm); (case T => k_asm); (case hh => exact rfl); (case hdp => ktr_room); (case he => exact rfl); (case hk => exact rfl); (case hx => exact rfl)))
  k_with "Told1" => (refine ⟨_, _, rfl, Fr.keep (by assumption), ?_⟩; intro h9 ea9 tk9 hm9)
  k_with "while" => ((rename Fr _ _ _ _ => kF); (rename News _ _ _ _ => kN); k_dflt (refine' hdr_loop dk kF kN ?h1 ?h2 ?h3 ?hi ?_ ?hE; (case h1 => exact rfl); (case h2 => exact rfl); (case h3 => exact rfl); (case hi => omega); (case hE => first | passes_own | with_unfolding_all passes_own); (intro ix ixt sz szt sh sht kU kH kTk kInv kFr kNews); (have kInv' := kInv); (obtain ⟨j, hj1, hj2, hj3, hj4, hj5, hj6⟩ := kInv'); (try dsimp only); (try k_fold)))
  k_with "shift" => exact shift_oct (by assumption) (by assumption)
  k_steps
  · exact hexc _ _ _ _ ⟨rfl, hdr_fail (by assumption) hi0 (by assumption)⟩ (by assumption)
  · (rename Fr _ _ _ _ => kF); (rename News _ _ _ _ => kN)
    refine hdr_end kF kN rfl rfl rfl (by intro z a1 a2 a3 a4; simp [kstB, a1, a2, a3, a4]) (hdr_next (ix := ix) (sz := sz) (sh := sh) (by assumption) hi0 (by assumption) (by assumption) (by assumption) (by assumption)) (by omega)
  · obtain ⟨k, e1, e2⟩ := hdr_done (ks := dk) (i₀ := i) (ix := ix) (sz := sz) (sh := sh) (by assumption) hi0 (by assumption) (by assumption) (by assumption) (by assumption)
    exact hret _ _ _ _ ⟨_, _, _, _, _, k, rfl, rfl, e1, e2⟩ (Fr.keep (by assumption)) (Led.of_news (by assumption))

set_option maxHeartbeats 400000 in
theorem byte_spec (w : World) {p : Program} {loose : List Str} {mean : ExcName → Option Value} {mg mb : Str → Option Value}
   {oc od0 : _} {osl : _} {nm ql : Str} {ps : Arguments} {bd : List Stmt} {sc : Scope} {dV kV dc pm0 cdv ct : Value} {an : Option Addr}
   (hK : List.lookup 47 (hd.heap_39 w.params) = some ⟨oc, od0, .func (fnOf nm ql ps bd sc dV kV dc pm0 an cdv ct), osl⟩)
   {fname bind : Str} {params : Arguments} {fbody : List Stmt} {fscope : Scope} {pos : Pos} (hdef : bd[6]? = some (.FunctionDef fname params fbody [] none [] fscope none bind pos))
   {base : Heap} (X₀ : (hd.heap_39 w.params).In base) (T₀ : Top p loose mean mg mb base)
   (codeHd : CodeHd base 46 42) (dp un : Nat) (gd : Option (List Code)) (l : List Env) (hdp : dp + 5 < recursionLimit) (hu : un + 40 < cLine)
   {qual : Str} {doc pm ctv : Value} {f c ci cd : Addr} {oc' oi od : Obj} {vs' : Array Value} {t' : Tok} (hc1 : oc'.data = .fields vs') (hc2 : vs'[1]? = some (.str qual t'))
   {d : Array UInt8} {dk : List Int} (hdk : KBw.bInts d = dk) (hd0 : dk.length ≤ 1800) {tl : Tok} (hcell : od.data = .cell (some (.int dk.length tl)))
   {i : Int} {ti : Tok} (hidx : oi.data = .cell (some (.int i ti))) (td : Tok) (hi0 : 0 ≤ i) (hne1 : f ≠ ci) (hne2 : c ≠ ci) (hne3 : cd ≠ ci) :
   Spec PySem.Challenge.rw_jq0004_03.row.prog w (aTop dp un gd l) base l (.ref f) [.bytes d td] [(f, fnMade fname qual params fbody fscope [(Str.ofString "index", ci), (Str.ofString "delta_length", cd)] doc pm c ctv), (c, oc'), (ci, oi), (cd, od)]
     (fun v n' => ∃ t1 oi' t2, v = .int (dk.getD i.toNat 0) t1 ∧ n' = [(f, fnMade fname qual params fbody fscope [(Str.ofString "index", ci), (Str.ofString "delta_length", cd)] doc pm c ctv), (c, oc'), (ci, oi'), (cd, od)] ∧ oi'.data = .cell (some (.int (i + 1) t2)) ∧ i < dk.length)
     (.ref 32) (fun n' => n' = [(f, fnMade fname qual params fbody fscope [(Str.ofString "index", ci), (Str.ofString "delta_length", cd)] doc pm c ctv), (c, oc'), (ci, oi), (cd, od)] ∧ dk.length ≤ i) := by
  have hfill : (fun _ : OpenLaw => hd.heap_39) PySem.Challenge.rw_jq0004_03 = hd.heap_39 := by (k_fill; rfl)
  clear hfill
  have hK' := (by k_dflt k_is : List.lookup 47 (hd.heap_39 w.params) = some ⟨_, _, .func (fnOf _ _ _ _ _ _ _ _ _ _ _ _), _⟩)
  rw [hK'] at hK
  cases hK
  cases hdef
  clear hK'
  intro g s Q E B hg hsz N hret hexc
  have X := X₀.keeps B.stays
  have T := T₀.keeps B.stays
  refine wpAny_call ?_
  k_dflt (refine' enter_nest hg hsz N T (by k_mem) ⟨c, oc', vs', t', rfl, (N _ (.tail _ (.head _))).1, hc1, hc2⟩ ?k8 (BindsTo.of_eq rfl) (locs rfl) ?_ rfl rfl rfl (by decide); (case k8 => ktr_room); intro L' h' F' N' l1; (try k_lt l1); (try dsimp only); (try k_fold))
  k_with_none
  k_with "execs cons" => k_fold
  k_with "eval Call" => k_fold
  k_with "storeName" => (k_here; k_dflt (first | (refine' storeI_L ?F ?N ?_ ?a ?b; (case F => k_asm); (case N => k_asm); (case a => rfl); (case b => rfl); k_whole; intro h' tk' t' F' N'; (try k_sweep); (try dsimp only); (try k_fold)) | (refine' storeB_L ?F ?N ?_ ?a ?b; (case F => k_asm); (case N => k_asm); (case a => rfl); (case b => rfl); k_whole; intro h' tk' t' F' N'; (try k_sweep); (try dsimp only); (try k_fold)) | (refine' storeG_L ?F ?N ?_ ?a ?b; (case F => k_asm); (case N => k_asm); (case a => rfl); (case b => rfl); k_whole; intro h' tk' F' N'; (try k_sweep); (try dsimp only); (try k_fold))))
  k_with "exec Raise some none" => (k_extra "raise")
  k_with "exec While Constant cons nil" => (k_extra "while")
  k_with "exec While Compare cons nil" => (k_extra "while")
  k_with "KswEnd" => (k_extra "turn")
  k_with "subscriptTail Name Slice bytes ref" => (k_here; (with_reducible show wpAny _ _ (subscriptTail _ (PySem.Expr.Slice (some _) (some _) none _) (Value.bytes _ _) (Value.ref _)) _ _ _); (with_reducible rename Fr _ _ _ _ => F'); (with_reducible rename News _ _ _ _ => N'); (refine slice_ij (s := ⟨_, _, _, _, _⟩) F' N' (by assumption) (by omega) (by omega) (by omega) ?_); intro _ _ _ _ _ _ hcut)
  k_with "call builtin:len" => (k_here; (with_reducible show wpAny _ _ (call (Value.builtin "len") [Value.bytes _ _]) _ _ _); (refine len_b (by assumption) (by omega) ?_); intro _ _)
  k_with "call builtin:ord" => (k_here; (with_reducible show wpAny _ _ (call (Value.builtin "ord") [Value.bytes _ _]) _ _ _); (refine ord_bytes (Eq.trans (by assumption) (cut_one' _ _ _ (by omega) (by omega) (by omega))) ?_); intro _ _ hlo hhi)
  k_with "loadName" => (k_here; k_dflt (refine' loadX_L ?F ?v ?_ ?hk ?hx; (case F => k_asm); (case v => rfl); (case hk => rfl); (case hx => rfl); k_whole))
  k_with "leaving ref" => (k_here; k_dflt (refine' leave_made ?B ?hx ?F ?N (fun _ h => h) ?hf ?hk ?_; (case hx => assumption); (case B => assumption); (case F => k_asm); (case N => k_asm); (case hf => exact rfl); (case hk => exact rfl)); intro h' fl'; (try dsimp only))
  k_with "leaving" => (k_here; k_dflt (refine' leave_on ?B ?F ?x (fun _ h => h) ?hf ?_; (case x => assumption); (case B => assumption); (case F => k_asm); (case hf => exact rfl)); intro h' fl'; (try dsimp only))
  k_with "binaryOp LShift int int" => (k_here; (refine lshift_any (by omega) (by omega) (by k_extra "shift") ?_); intro _ _)
  k_with "raise" => (k_here; (with_reducible show wpAny _ _ (exec (Stmt.Raise (some (Expr.Call (Expr.Name _ _) [_] [] _)) none _) _) _ _ _); k_dflt (refine' Raise_ADE w ?F ?X ?T ?hh ?hdp ?_ ?he ?hk ?hx; (case F => k_asm); (case X => k_asm); (case T => k_asm); (case hh => exact rfl); (case hdp => ktr_room); (case he => exact rfl); (case hk => exact rfl); (case hx => exact rfl)))
  k_with "Told1" => (refine ⟨_, _, rfl, Fr.keep (by assumption), ?_⟩; intro h9 ea9 tk9 hm9)
  k_steps
  · exact hexc _ _ _ _ ⟨rfl, by assumption⟩ (by assumption)
  · have e : i + 1 - 1 = i := by omega
    exact hret _ _ _ _ ⟨_, _, _, congrArg (fun z => Value.int (dk.getD (Int.toNat z) 0) _) e, rfl, by assumption, by omega⟩ (Fr.keep (by assumption)) (Led.of_news (by assumption))


theorem len_flat {c : List Int} {cs : List (List Int)} (h : c ∈ cs) : c.length ≤ cs.flatten.length := by
  induction cs with
  | nil => cases h
  | cons d r ih =>
    rw [List.flatten_cons, List.length_append]
    cases h with
    | head => omega
    | tail _ h => have := ih h; omega
set_option maxHeartbeats 8000000 in
theorem chunks_spec (w : World) {p : Program} {loose : List Str} {mean : ExcName → Option Value} {mg mb : Str → Option Value}
   {base : Heap} (X₀ : (hd.heap_39 w.params).In base) (T₀ : Top p loose mean mg mb base)
   (dp un : Nat) (gd : Option (List Code)) (l : List Env) (hdp : dp + 5 < recursionLimit) (hu : un + 40 < cLine)
   {lo : Addr} {vs : List Value} {cs : List (List Int)} {nn : Nat} (hv : BytesAre vs cs) (hlen : cs.length ≤ 2000) (htot : cs.flatten.length ≤ 1099511627776) :
   Spec PySem.Challenge.rw_jq0004_03.row.prog w (aTop dp un gd l) base l (.ref 40) [.ref lo] [(lo, listOf vs.toArray nn)]
     (fun v n' => ∃ t, v = .int (cs.flatten.length : Nat) t ∧ n' = [(lo, listOf vs.toArray nn)])
     (.ref 32) (fun _ => False) := by
  have hfill : (fun _ : OpenLaw => hd.heap_39) PySem.Challenge.rw_jq0004_03 = hd.heap_39 := by (k_fill; rfl)
  clear hfill
  intro g s Q E B hg hsz N hret hexc
  have X := X₀.keeps B.stays
  have T := T₀.keeps B.stays
  refine wpAny_call ?_
  k_dflt (refine' enter_def hg hsz N X T ?k6 ?k7 ?k8 ?k9 ?kB ?_ ?c2 ?c3 ?c4 ?c5; (case k6 => k_is); (case k7 => k_is); (case k8 => ktr_room); (case k9 => exact BindsTo.of_eq rfl); (case c5 => decide); (case kB => exact locs rfl); (case c2 => exact rfl); (case c3 => exact rfl); (case c4 => exact rfl); k_whole; intro L' h' F' N' l1; (try k_lt l1); (try dsimp only); (try k_fold))
  k_with_none
  k_with "execs cons" => k_fold
  k_with "eval Call" => k_fold
  k_with "storeName" => (k_here; k_dflt (first | (refine' storeI_L ?F ?N ?_ ?a ?b; (case F => k_asm); (case N => k_asm); (case a => rfl); (case b => rfl); k_whole; intro h' tk' t' F' N'; (try k_sweep); (try dsimp only); (try k_fold)) | (refine' storeB_L ?F ?N ?_ ?a ?b; (case F => k_asm); (case N => k_asm); (case a => rfl); (case b => rfl); k_whole; intro h' tk' t' F' N'; (try k_sweep); (try dsimp only); (try k_fold)) | (refine' storeG_L ?F ?N ?_ ?a ?b; (case F => k_asm); (case N => k_asm); (case a => rfl); (case b => rfl); k_whole; intro h' tk' F' N'; (try k_sweep); (try dsimp only); (try k_fold))))
  k_with "exec Raise some none" => k_extra "raise"
  k_with "exec While Constant cons nil" => k_extra "while"
  k_with "exec While Compare cons nil" => k_extra "while"
  k_with "KswEnd" => k_extra "turn"
  k_with "subscriptTail Name Slice bytes ref" => (k_here; (with_reducible show wpAny _ _ (subscriptTail _ (PySem.Expr.Slice (some _) (some _) none _) (Value.bytes _ _) (Value.ref _)) _ _ _); (with_reducible rename Fr _ _ _ _ => F'); (with_reducible rename News _ _ _ _ => N'); (refine slice_ij (s := ⟨_, _, _, _, _⟩) F' N' (by assumption) (by omega) (by omega) (by omega) ?_); intro _ _ _ _ _ _ hcut)
  k_with "call builtin:len" => (k_here; (with_reducible show wpAny _ _ (call (Value.builtin "len") [Value.bytes _ _]) _ _ _); (refine len_b (by assumption) (by omega) ?_); intro _ _)
  k_with "call builtin:ord" => (k_here; (with_reducible show wpAny _ _ (call (Value.builtin "ord") [Value.bytes _ _]) _ _ _); (refine ord_bytes (Eq.trans (by assumption) (cut_one' _ _ _ (by omega) (by omega) (by omega))) ?_); intro _ _ hlo hhi)
  k_with "loadName" => (k_here; k_dflt (refine' loadX_L ?F ?v ?_ ?hk ?hx; (case F => k_asm); (case v => rfl); (case hk => rfl); (case hx => rfl); k_whole))
  k_with "leaving ref" => (k_here; k_dflt (refine' leave_made ?B ?hx ?F ?N (fun _ h => h) ?hf ?hk ?_; (case hx => assumption); (case B => assumption); (case F => k_asm); (case N => k_asm); (case hf => exact rfl); (case hk => exact rfl)); intro h' fl'; (try dsimp only))
  k_with "leaving" => (k_here; k_dflt (refine' leave_on ?B ?F ?x (fun _ h => h) ?hf ?_; (case x => assumption); (case B => assumption); (case F => k_asm); (case hf => exact rfl)); intro h' fl'; (try dsimp only))
  k_with "binaryOp LShift int int" => (k_here; (refine lshift_any (by omega) (by omega) (by k_extra "shift") ?_); intro _ _)
  k_with "pyIter ref" => ((with_reducible show wpAny _ _ (pyIter _) (CompPost _ _ _ _ _ _ _ _ _) _ _); (rename Fr _ _ _ _ => kF); (rename News _ _ _ _ => kN); refine' comp_list (R := LenOf) (vs := vs) rfl kF kN ⟨_, (kN _ (by k_mem)).1, rfl, _, rfl⟩ ?hz ?he ?_; (case hz => rw [hv.length, sizeLine_eq]; omega); (case he => (intro C v s₃ m₃ E' hvm hns hx hk9; obtain ⟨b9, t9, rfl, hb9⟩ := hv.mem hvm; exact len_local hns hx hk9 X T (by k_dflt k_is) (by rw [← KBw.ints_length]; exact Nat.le_trans (len_flat hb9) (by omega)) (fun t' tk => ⟨⟨b9, t9, t', rfl, rfl⟩, _, _, rfl, fun _ _ e => e⟩) rfl rfl rfl rfl rfl rfl)); intro D9 ys9 h9 tk9 n9 F9 N9 l9 hp9; (have hi9 := lens_are hv hp9))
  k_steps
  · rw [sum_lens]
    exact hret _ _ _ _ ⟨_, rfl, rfl⟩ (Fr.keep (by assumption)) (Led.sub (Led.of_news (by assumption)) fun q hq => .tail _ hq)

theorem oct_getD {ks : List Int} (h : Oct ks) (n : Nat) : 0 ≤ ks.getD n 0 ∧ ks.getD n 0 < 256 := by
  rw [List.getD_eq_getElem?_getD]
  by_cases q : n < ks.length
  · rw [List.getElem?_eq_getElem q]
    exact h _ (List.getElem_mem q)
  · rw [List.getElem?_eq_none (by omega)]
    decide
theorem oct_shift {ks : List Int} (h : Oct ks) (n : Nat) : (ks.getD n 0).natAbs < 2 ^ 64 := by
  have := oct_getD h n
  omega
theorem top_bit {c : Int} (h0 : 0 ≤ c) (h1 : c < 256) (h : Builtin.bitAnd c 128 ≠ 0) : 128 ≤ c := by
  rw [oct_high h0 h1] at h
  split at h <;> omega
theorem no_top {c : Int} (h0 : 0 ≤ c) (h1 : c < 256) (h : Builtin.bitAnd c 128 = 0) : ¬ 128 ≤ c := by
  rw [oct_high h0 h1] at h
  split at h <;> omega
section
variable {bk dk : List Int} {R : Option (List Int)} {dest ix rem : Int} {cs : List (List Int)}
theorem drop_nil {iz : Int} (h0 : 0 ≤ iz) (h1 : iz ≤ dk.length) : dk.drop iz.toNat = [] ↔ iz = dk.length := by
  rw [List.drop_eq_nil_iff]; omega
theorem end_copy {off sz cpz iy iz : Int} (hbl : bk.length ≤ 200000) (h : mainInv bk dk R dest ix rem cs) (hl : ix < dk.length) (h8 : Builtin.bitAnd (dk.getD ix.toNat 0) 128 ≠ 0) (c0 : 0 ≤ dk.getD ix.toNat 0) (c1 : dk.getD ix.toNat 0 < 256)
    (d1 : fieldsL (dk.getD ix.toNat 0) 0 4 (dk.drop (ix + 1).toNat) = some (off, dk.drop iy.toNat)) (d2 : fieldsL (dk.getD ix.toNat 0) 4 3 (dk.drop iy.toNat) = some (sz, dk.drop iz.toNat))
    (i1 : ix + 1 ≤ iy) (i2 : iy ≤ iz) (i3 : iz ≤ dk.length) (o0 : 0 ≤ off) (s0 : 0 ≤ sz) (hc : cpz = copySz sz) (f1 : off + cpz ≤ bk.length) (f2 : cpz ≤ rem) :
    mainInv bk dk R dest iz (rem - cpz) (cs ++ [cut bk off (off + cpz)]) ∧ ix < iz := by
  obtain ⟨a1, a2, a3, a4, a5, a6, a7⟩ := h
  have p : 0 ≤ cpz := by rw [hc]; unfold copySz; split <;> omega
  have cl := cut_len bk off (off + cpz) o0 (by omega) f1
  have fl : (cs ++ [cut bk off (off + cpz)]).flatten = cs.flatten ++ cut bk off (off + cpz) := by simp
  refine ⟨⟨by omega, i3, by omega, ?_, ?_, ?_, ?_⟩, by omega⟩
  · rw [fl, List.length_append]; omega
  · simp only [List.length_append, List.length_cons, List.length_nil]; omega
  · rw [fl, List.length_append]; omega
  · rw [fl, ← a7, drop_at a1 (by omega)]
    subst hc
    exact (ops_copy (top_bit c0 c1 h8) d1 d2 f1 f2).symm
theorem end_bad {off sz cpz iy iz : Int} (h : mainInv bk dk R dest ix rem cs) (hl : ix < dk.length) (h8 : Builtin.bitAnd (dk.getD ix.toNat 0) 128 ≠ 0) (c0 : 0 ≤ dk.getD ix.toNat 0) (c1 : dk.getD ix.toNat 0 < 256)
    (d1 : fieldsL (dk.getD ix.toNat 0) 0 4 (dk.drop (ix + 1).toNat) = some (off, dk.drop iy.toNat)) (d2 : fieldsL (dk.getD ix.toNat 0) 4 3 (dk.drop iy.toNat) = some (sz, dk.drop iz.toNat))
    (i1 : ix + 1 ≤ iy) (i2 : iy ≤ iz) (i3 : iz ≤ dk.length) (hc : cpz = copySz sz) (f : off + cpz > bk.length ∨ cpz > rem) : afterInv dk R dest iz rem cs := by
  obtain ⟨a1, a2, a3, a4, a5, a6, a7⟩ := h
  refine ⟨by omega, i3, a3, a4, by omega, by omega, ?_⟩
  rw [← a7, drop_at a1 (by omega)]
  subst hc
  rw [ops_bad (top_bit c0 c1 h8) d1 d2 f]
  simp only [drop_nil (show 0 ≤ iz by omega) i3]
theorem end_insert (hdl : dk.length ≤ 1800) (h : mainInv bk dk R dest ix rem cs) (hl : ix < dk.length) (h8 : Builtin.bitAnd (dk.getD ix.toNat 0) 128 = 0) (c0 : 0 ≤ dk.getD ix.toNat 0) (c1 : dk.getD ix.toNat 0 < 256)
    (hz : dk.getD ix.toNat 0 ≠ 0) (f1 : ¬ rem < dk.getD ix.toNat 0) (f2 : ¬ (dk.length : Int) < ix + 1 + dk.getD ix.toNat 0) :
    mainInv bk dk R dest (ix + 1 + dk.getD ix.toNat 0) (rem - dk.getD ix.toNat 0) (cs ++ [cut dk (ix + 1) (ix + 1 + dk.getD ix.toNat 0)]) ∧ ix < ix + 1 + dk.getD ix.toNat 0 := by
  obtain ⟨a1, a2, a3, a4, a5, a6, a7⟩ := h
  have hd := drop_at (ks := dk) a1 (by omega)
  generalize dk.getD ix.toNat 0 = c at *
  have cl := cut_len dk (ix + 1) (ix + 1 + c) (by omega) (by omega) (by omega)
  have fl : (cs ++ [cut dk (ix + 1) (ix + 1 + c)]).flatten = cs.flatten ++ cut dk (ix + 1) (ix + 1 + c) := by simp
  refine ⟨⟨by omega, by omega, by omega, ?_, ?_, ?_, ?_⟩, by omega⟩
  · rw [fl, List.length_append]; omega
  · simp only [List.length_append, List.length_cons, List.length_nil]; omega
  · rw [fl, List.length_append]; omega
  · rw [fl, ← a7, hd, ops_insert (no_top c0 c1 h8) hz (by omega) (by rw [List.length_drop]; omega), List.drop_drop]
    congr 2
    · omega
    · unfold cut
      congr 1
      omega
theorem none_long (h : mainInv bk dk R dest ix rem cs) (hl : ix < dk.length) (h8 : Builtin.bitAnd (dk.getD ix.toNat 0) 128 = 0) (c0 : 0 ≤ dk.getD ix.toNat 0) (c1 : dk.getD ix.toNat 0 < 256)
    (f : rem < dk.getD ix.toNat 0 ∨ (dk.length : Int) < ix + 1 + dk.getD ix.toNat 0) : R = none := by
  obtain ⟨a1, a2, a3, a4, a5, a6, a7⟩ := h
  rw [← a7, drop_at a1 (by omega)]
  refine ops_long (no_top c0 c1 h8) ?_
  rcases f with f | f
  · exact .inl f
  · right; rw [List.length_drop]; omega
theorem none_zero (h : mainInv bk dk R dest ix rem cs) (hl : ix < dk.length) (hz : dk.getD ix.toNat 0 = 0) : R = none := by
  obtain ⟨a1, a2, a3, a4, a5, a6, a7⟩ := h
  rw [← a7, drop_at a1 (by omega), hz]
  exact ops_zero
theorem none_off {iy off : Int} {j : Nat} (h : mainInv bk dk R dest ix rem cs) (hl : ix < dk.length) (h8 : Builtin.bitAnd (dk.getD ix.toNat 0) 128 ≠ 0) (c0 : 0 ≤ dk.getD ix.toNat 0) (c1 : dk.getD ix.toNat 0 < 256)
    (hI : fldInv dk (dk.getD ix.toNat 0) 0 4 (ix + 1) j iy off) (hj : j < 4) (hb : Builtin.bitAnd (dk.getD ix.toNat 0) (1 * 2 ^ ((j : Nat) : Int).toNat) ≠ 0) (hx : (dk.length : Int) ≤ iy) : R = none := by
  obtain ⟨a1, a2, a3, a4, a5, a6, a7⟩ := h
  rw [← a7, drop_at a1 (by omega)]
  exact ops_none0 (top_bit c0 c1 h8) (fld_fail hI hj (by rw [Nat.zero_add]; exact bit_of hb) hx)
theorem none_sz {iy iz off sz : Int} {j : Nat} (h : mainInv bk dk R dest ix rem cs) (hl : ix < dk.length) (h8 : Builtin.bitAnd (dk.getD ix.toNat 0) 128 ≠ 0) (c0 : 0 ≤ dk.getD ix.toNat 0) (c1 : dk.getD ix.toNat 0 < 256)
    (d1 : fieldsL (dk.getD ix.toNat 0) 0 4 (dk.drop (ix + 1).toNat) = some (off, dk.drop iy.toNat))
    (hI : fldInv dk (dk.getD ix.toNat 0) 4 3 iy j iz sz) (hj : j < 3) (hb : Builtin.bitAnd (dk.getD ix.toNat 0) (1 * 2 ^ (4 + ((j : Nat) : Int)).toNat) ≠ 0) (hx : (dk.length : Int) ≤ iz) : R = none := by
  obtain ⟨a1, a2, a3, a4, a5, a6, a7⟩ := h
  rw [← a7, drop_at a1 (by omega)]
  have e : (4 + ((j : Nat) : Int)).toNat = 4 + j := by omega
  rw [e] at hb
  exact ops_none1 (top_bit c0 c1 h8) d1 (fld_fail hI hj (bit_of hb) hx)
theorem none_after1 (h : afterInv dk R dest ix rem cs) (hx : ix ≠ dk.length) : R = none := by
  rw [h.2.2.2.2.2.2, if_neg (fun q => hx q.1)]
theorem none_after2 (h : afterInv dk R dest ix rem cs) (hx : dest ≠ cs.flatten.length) : R = none := by
  rw [h.2.2.2.2.2.2, if_neg (fun q => hx (by have := h.2.2.2.1; omega))]
theorem some_after (h : afterInv dk R dest ix rem cs) (hx : ix = dk.length) (hy : dest = cs.flatten.length) : R = some cs.flatten := by
  rw [h.2.2.2.2.2.2, if_pos ⟨hx, by have := h.2.2.2.1; omega⟩]
end
section
variable {h₀ h' : Heap} {L ci : Addr} {rest own : List (Addr × Obj)} {offn : Str} {m₀ m' : Str → Option Value} {ks : List Int} {cc : Int} {i₀ : Int} {s : Shared} {Q : Flow → Shared → Prop} {tk : Nat}
   {news' : List (Addr × Obj)} {oi oi' : Obj} {idx off : Int} {j : Nat}
theorem fld_ends {k₀ n : Nat} {tidx toff : Tok} (F2 : Fr h₀ L h' m') (N2 : News h₀ L h' news') (hd : oi.data = .cell (some (.int idx tidx))) (a1 : ∀ q ∈ (ci, oi) :: rest, q ∈ news') (a2 : ∀ q ∈ own, q ∈ news') (a4 : m' offn = some (.int off toff))
    (a5 : ∀ z : Str, z ≠ Str.ofString "i" → z ≠ offn → z ≠ Str.ofString "x" → m' z = m₀ z) (a6 : fldInv ks cc k₀ n i₀ (j + 1) idx off) :
    FldPost h₀ L ci rest offn m₀ ks cc k₀ n i₀ j own s Q .next { s with heap := h', toks := tk } :=
  ⟨_, _, _, _, _, _, _, _, _, rfl, F2, N2, a1, a2, hd, a4, a5, a6⟩
theorem skip0 {n : Nat} (h : fldInv ks cc 0 n i₀ j idx off) (hj : j < n) (hb : Builtin.bitAnd cc (1 * 2 ^ ((j : Nat) : Int).toNat) = 0) : fldInv ks cc 0 n i₀ (j + 1) idx off :=
  fld_skip h hj (by rw [Nat.zero_add]; exact bit_no hb)
theorem skip4 {n : Nat} (h : fldInv ks cc 4 n i₀ j idx off) (hj : j < n) (hb : Builtin.bitAnd cc (1 * 2 ^ (4 + ((j : Nat) : Int)).toNat) = 0) : fldInv ks cc 4 n i₀ (j + 1) idx off := by
  have e : (4 + ((j : Nat) : Int)).toNat = 4 + j := by omega
  rw [e] at hb
  exact fld_skip h hj (bit_no hb)
theorem take0 {n : Nat} (ho : Oct ks) (h : fldInv ks cc 0 n i₀ j idx off) (h00 : 0 ≤ i₀) (hj : j < n) (hb : Builtin.bitAnd cc (1 * 2 ^ ((j : Nat) : Int).toNat) ≠ 0) (hl : idx < ks.length) :
    fldInv ks cc 0 n i₀ (j + 1) (idx + 1) (Builtin.bitOr off (ks.getD idx.toNat 0 * 2 ^ (((j : Nat) : Int) * 8).toNat)) := by
  have e : (((j : Nat) : Int) * 8).toNat = j * 8 := by omega
  rw [e]
  have := oct_getD ho idx.toNat
  exact fld_take h h00 hj (by rw [Nat.zero_add]; exact bit_of hb) hl this.1 this.2
theorem take4 {n : Nat} (ho : Oct ks) (h : fldInv ks cc 4 n i₀ j idx off) (h00 : 0 ≤ i₀) (hj : j < n) (hb : Builtin.bitAnd cc (1 * 2 ^ (4 + ((j : Nat) : Int)).toNat) ≠ 0) (hl : idx < ks.length) :
    fldInv ks cc 4 n i₀ (j + 1) (idx + 1) (Builtin.bitOr off (ks.getD idx.toNat 0 * 2 ^ (((j : Nat) : Int) * 8).toNat)) := by
  have e : (((j : Nat) : Int) * 8).toNat = j * 8 := by omega
  have e' : (4 + ((j : Nat) : Int)).toNat = 4 + j := by omega
  rw [e' ] at hb
  rw [e]
  have := oct_getD ho idx.toNat
  exact fld_take h h00 hj (bit_of hb) hl this.1 this.2
end
section
variable {h₀ h' : Heap} {L ci lo : Addr} {fixed : List (Addr × Obj)} {m₀ m' : Str → Option Value} {s : Shared} {tk : Nat} {I : Int → Int → List (List Int) → Prop}
   {news' : List (Addr × Obj)} {oi : Obj} {idx rem : Int} {vs : List Value} {cs : List (List Int)} {nn : Nat}
theorem main_ends {tidx trem : Tok} (F2 : Fr h₀ L h' m') (N2 : News h₀ L h' news') (hd : oi.data = .cell (some (.int idx tidx))) (a1 : ∀ q ∈ (ci, oi) :: (lo, listOf (List.toArray vs) nn) :: fixed, q ∈ news') (hv : BytesAre vs cs) (a4 : m' (Str.ofString "remaining") = some (.int rem trem))
    (a5 : ∀ z : Str, z ≠ Str.ofString "remaining" → z ≠ Str.ofString "cmd" → z ≠ Str.ofString "cp_off" → z ≠ Str.ofString "i" → z ≠ Str.ofString "x" → z ≠ Str.ofString "cp_size" → m' z = m₀ z) (a6 : I idx rem cs) :
    MainAt h₀ L ci lo fixed m₀ s I { s with heap := h', toks := tk } :=
  ⟨_, _, _, _, _, _, _, _, _, _, _, _, rfl, F2, N2, a1, hd, hv, a4, a5, a6⟩
theorem main_push {tidx trem t : Tok} {c : Array UInt8} {x : List Int} (F2 : Fr h₀ L h' m') (N2 : News h₀ L h' news') (hd : oi.data = .cell (some (.int idx tidx))) (a1 : ∀ q ∈ (ci, oi) :: (lo, listOf ((List.toArray vs).push (.bytes c t)) nn) :: fixed, q ∈ news') (hv : BytesAre vs cs) (hc : KBw.bInts c = x) (a4 : m' (Str.ofString "remaining") = some (.int rem trem))
    (a5 : ∀ z : Str, z ≠ Str.ofString "remaining" → z ≠ Str.ofString "cmd" → z ≠ Str.ofString "cp_off" → z ≠ Str.ofString "i" → z ≠ Str.ofString "x" → z ≠ Str.ofString "cp_size" → m' z = m₀ z) (a6 : I idx rem (cs ++ [x])) :
    MainAt h₀ L ci lo fixed m₀ s I { s with heap := h', toks := tk } := by
  have e : (List.toArray vs).push (.bytes c t) = List.toArray (vs ++ [.bytes c t]) := by simp
  rw [e] at a1
  exact main_ends F2 N2 hd a1 (hv.append (.cons hc .nil)) a4 a5 a6
end
theorem cp0 {sz : Int} (h : sz = 0) : (65536 : Int) = copySz sz := by unfold copySz; rw [if_pos h]
theorem cp1 {sz : Int} (h : sz ≠ 0) : sz = copySz sz := by unfold copySz; rw [if_neg h]
theorem apart_bytes {x lo f1 c1 f2 c2 p q : Nat} (h1 : q < p) (h2 : p < x) (h3 : x < lo) (h4 : lo < c1) (h5 : c1 < f1) (h6 : f1 < c2) (h7 : c2 < f2) : List.Pairwise (α := Nat) (· ≠ ·) [x, lo, f1, c1, f2, c2, p, q] :=
  .cons (List.forall_mem_cons.mpr ⟨(Nat.ne_of_lt h3), List.forall_mem_cons.mpr ⟨(Nat.ne_of_lt (Nat.lt_trans h3 (Nat.lt_trans h4 h5))), List.forall_mem_cons.mpr ⟨(Nat.ne_of_lt (Nat.lt_trans h3 h4)), List.forall_mem_cons.mpr ⟨(Nat.ne_of_lt (Nat.lt_trans (Nat.lt_trans h3 h4) (Nat.lt_trans h5 (Nat.lt_trans h6 h7)))), List.forall_mem_cons.mpr ⟨(Nat.ne_of_lt (Nat.lt_trans (Nat.lt_trans h3 h4) (Nat.lt_trans h5 h6))), List.forall_mem_cons.mpr ⟨(Nat.ne_of_gt h2), List.forall_mem_cons.mpr ⟨(Nat.ne_of_gt (Nat.lt_trans h1 h2)), List.forall_mem_nil _⟩⟩⟩⟩⟩⟩⟩) (.cons (List.forall_mem_cons.mpr ⟨(Nat.ne_of_lt (Nat.lt_trans h4 h5)), List.forall_mem_cons.mpr ⟨(Nat.ne_of_lt h4), List.forall_mem_cons.mpr ⟨(Nat.ne_of_lt (Nat.lt_trans (Nat.lt_trans h4 h5) (Nat.lt_trans h6 h7))), List.forall_mem_cons.mpr ⟨(Nat.ne_of_lt (Nat.lt_trans h4 (Nat.lt_trans h5 h6))), List.forall_mem_cons.mpr ⟨(Nat.ne_of_gt (Nat.lt_trans h2 h3)), List.forall_mem_cons.mpr ⟨(Nat.ne_of_gt (Nat.lt_trans h1 (Nat.lt_trans h2 h3))), List.forall_mem_nil _⟩⟩⟩⟩⟩⟩) (.cons (List.forall_mem_cons.mpr ⟨(Nat.ne_of_gt h5), List.forall_mem_cons.mpr ⟨(Nat.ne_of_lt (Nat.lt_trans h6 h7)), List.forall_mem_cons.mpr ⟨(Nat.ne_of_lt h6), List.forall_mem_cons.mpr ⟨(Nat.ne_of_gt (Nat.lt_trans (Nat.lt_trans h2 h3) (Nat.lt_trans h4 h5))), List.forall_mem_cons.mpr ⟨(Nat.ne_of_gt (Nat.lt_trans (Nat.lt_trans h1 h2) (Nat.lt_trans h3 (Nat.lt_trans h4 h5)))), List.forall_mem_nil _⟩⟩⟩⟩⟩) (.cons (List.forall_mem_cons.mpr ⟨(Nat.ne_of_lt (Nat.lt_trans h5 (Nat.lt_trans h6 h7))), List.forall_mem_cons.mpr ⟨(Nat.ne_of_lt (Nat.lt_trans h5 h6)), List.forall_mem_cons.mpr ⟨(Nat.ne_of_gt (Nat.lt_trans h2 (Nat.lt_trans h3 h4))), List.forall_mem_cons.mpr ⟨(Nat.ne_of_gt (Nat.lt_trans (Nat.lt_trans h1 h2) (Nat.lt_trans h3 h4))), List.forall_mem_nil _⟩⟩⟩⟩) (.cons (List.forall_mem_cons.mpr ⟨(Nat.ne_of_gt h7), List.forall_mem_cons.mpr ⟨(Nat.ne_of_gt (Nat.lt_trans h2 (Nat.lt_trans (Nat.lt_trans h3 h4) (Nat.lt_trans h5 (Nat.lt_trans h6 h7))))), List.forall_mem_cons.mpr ⟨(Nat.ne_of_gt (Nat.lt_trans (Nat.lt_trans h1 h2) (Nat.lt_trans (Nat.lt_trans h3 h4) (Nat.lt_trans h5 (Nat.lt_trans h6 h7))))), List.forall_mem_nil _⟩⟩⟩) (.cons (List.forall_mem_cons.mpr ⟨(Nat.ne_of_gt (Nat.lt_trans (Nat.lt_trans h2 h3) (Nat.lt_trans h4 (Nat.lt_trans h5 h6)))), List.forall_mem_cons.mpr ⟨(Nat.ne_of_gt (Nat.lt_trans h1 (Nat.lt_trans (Nat.lt_trans h2 h3) (Nat.lt_trans h4 (Nat.lt_trans h5 h6))))), List.forall_mem_nil _⟩⟩) (.cons (List.forall_mem_cons.mpr ⟨(Nat.ne_of_gt h1), List.forall_mem_nil _⟩) (.cons (List.forall_mem_nil _) (.nil))))))))
theorem apart_lists {x lo f1 c1 f2 c2 p q : Nat} (h1 : q < p) (h2 : p < x) (h3 : x < lo) (h4 : lo < f1) (h5 : f1 < f2) (h6 : c1 < p) (h7 : c2 < p) (n1 : c1 ≠ c2) (n2 : c1 ≠ q) (n3 : c2 ≠ q) : List.Pairwise (α := Nat) (· ≠ ·) [x, lo, f1, c1, f2, c2, p, q] :=
  .cons (List.forall_mem_cons.mpr ⟨(Nat.ne_of_lt h3), List.forall_mem_cons.mpr ⟨(Nat.ne_of_lt (Nat.lt_trans h3 h4)), List.forall_mem_cons.mpr ⟨(Nat.ne_of_gt (Nat.lt_trans h6 h2)), List.forall_mem_cons.mpr ⟨(Nat.ne_of_lt (Nat.lt_trans h3 (Nat.lt_trans h4 h5))), List.forall_mem_cons.mpr ⟨(Nat.ne_of_gt (Nat.lt_trans h7 h2)), List.forall_mem_cons.mpr ⟨(Nat.ne_of_gt h2), List.forall_mem_cons.mpr ⟨(Nat.ne_of_gt (Nat.lt_trans h1 h2)), List.forall_mem_nil _⟩⟩⟩⟩⟩⟩⟩) (.cons (List.forall_mem_cons.mpr ⟨(Nat.ne_of_lt h4), List.forall_mem_cons.mpr ⟨(Nat.ne_of_gt (Nat.lt_trans h6 (Nat.lt_trans h2 h3))), List.forall_mem_cons.mpr ⟨(Nat.ne_of_lt (Nat.lt_trans h4 h5)), List.forall_mem_cons.mpr ⟨(Nat.ne_of_gt (Nat.lt_trans h7 (Nat.lt_trans h2 h3))), List.forall_mem_cons.mpr ⟨(Nat.ne_of_gt (Nat.lt_trans h2 h3)), List.forall_mem_cons.mpr ⟨(Nat.ne_of_gt (Nat.lt_trans h1 (Nat.lt_trans h2 h3))), List.forall_mem_nil _⟩⟩⟩⟩⟩⟩) (.cons (List.forall_mem_cons.mpr ⟨(Nat.ne_of_gt (Nat.lt_trans h6 (Nat.lt_trans h2 (Nat.lt_trans h3 h4)))), List.forall_mem_cons.mpr ⟨(Nat.ne_of_lt h5), List.forall_mem_cons.mpr ⟨(Nat.ne_of_gt (Nat.lt_trans h7 (Nat.lt_trans h2 (Nat.lt_trans h3 h4)))), List.forall_mem_cons.mpr ⟨(Nat.ne_of_gt (Nat.lt_trans h2 (Nat.lt_trans h3 h4))), List.forall_mem_cons.mpr ⟨(Nat.ne_of_gt (Nat.lt_trans (Nat.lt_trans h1 h2) (Nat.lt_trans h3 h4))), List.forall_mem_nil _⟩⟩⟩⟩⟩) (.cons (List.forall_mem_cons.mpr ⟨(Nat.ne_of_lt (Nat.lt_trans (Nat.lt_trans h6 h2) (Nat.lt_trans h3 (Nat.lt_trans h4 h5)))), List.forall_mem_cons.mpr ⟨n1, List.forall_mem_cons.mpr ⟨(Nat.ne_of_lt h6), List.forall_mem_cons.mpr ⟨n2, List.forall_mem_nil _⟩⟩⟩⟩) (.cons (List.forall_mem_cons.mpr ⟨(Nat.ne_of_gt (Nat.lt_trans (Nat.lt_trans h7 h2) (Nat.lt_trans h3 (Nat.lt_trans h4 h5)))), List.forall_mem_cons.mpr ⟨(Nat.ne_of_gt (Nat.lt_trans (Nat.lt_trans h2 h3) (Nat.lt_trans h4 h5))), List.forall_mem_cons.mpr ⟨(Nat.ne_of_gt (Nat.lt_trans (Nat.lt_trans h1 h2) (Nat.lt_trans h3 (Nat.lt_trans h4 h5)))), List.forall_mem_nil _⟩⟩⟩) (.cons (List.forall_mem_cons.mpr ⟨(Nat.ne_of_lt h7), List.forall_mem_cons.mpr ⟨n3, List.forall_mem_nil _⟩⟩) (.cons (List.forall_mem_cons.mpr ⟨(Nat.ne_of_gt h1), List.forall_mem_nil _⟩) (.cons (List.forall_mem_nil _) (.nil))))))))


local macro_rules | `(tactic| k_ne) => `(tactic| walk_at "k_ne")
abbrev fnO (fd : FuncData) : Obj := { cls := .type "function", data := .func fd }
set_option maxHeartbeats 8000000 in
theorem apply_core (w : World) {p : Program} {loose : List Str} {mean : ExcName → Option Value} {mg mb : Str → Option Value}
   {oc od0 : _} {osl : _} {nm ql : Str} {ps : Arguments} {bd : List Stmt} {sc : Scope} {dV kV dc pm0 cdv ct : Value} {an : Option Addr}
   (hK : List.lookup 47 (hd.heap_39 w.params) = some ⟨oc, od0, .func (fnOf nm ql ps bd sc dV kV dc pm0 an cdv ct), osl⟩)
   {base : Heap} (X₀ : (hd.heap_39 w.params).In base) (T₀ : Top p loose mean mg mb base) (codeHd : CodeHd base 46 42)
   (dp un : Nat) (gd : Option (List Code)) (l : List Env) (hdp : dp + 12 < recursionLimit) (hu : un + 100 < cLine)
   {b d : Array UInt8} {bk dk : List Int} {tb td : Tok} (hbk : KBw.bInts b = bk) (hdk : KBw.bInts d = dk) (hb : bk.length ≤ 200000) (hd0 : dk.length ≤ 1800)
   {g : Heap} {s : Shared} {Q E : Value → Shared → Prop} (B : Below (aTop dp un gd l) base l g) {L' : Addr} {m : Str → Option Value} {f1 f2 c1 c2 lo : Addr} {fd1 fd2 : FuncData} {oc1 oc2 oi od o42 : Obj} {nn : Nat} {t0 tl : Tok}
   (F : Fr g L' s.heap (kstB m [(Str.ofString "src_buf", .bytes b tb), (Str.ofString "delta", .bytes d td), (Str.ofString "out", .ref lo), (Str.ofString "get_delta_header_size", .ref f1), (Str.ofString "read_byte", .ref f2)]))
   (N : News g L' s.heap [(L' + 1 + 1, oi), (lo, listOf #[] nn), (f1, fnO fd1), (c1, oc1), (f2, fnO fd2), (c2, oc2), (L' + 1, od), (42, o42)])
   (hoi : oi.data = .cell (some (.int 0 t0))) (hod : od.data = .cell (some (.int dk.length tl)))
   (hap : List.Pairwise (α := Nat) (· ≠ ·) [L' + 1 + 1, lo, f1, c1, f2, c2, L' + 1, 42])
   (H1 : ∀ (i : Int) ti, 0 ≤ i → i ≤ dk.length → Spec PySem.Challenge.rw_jq0004_03.row.prog w (aTop (dp + 1) (un + 3) gd (envOfC ql sc L' 47 cdv :: l)) base (envOfC ql sc L' 47 cdv :: l) (.ref f1) [.bytes d td, .int i ti] [(f1, fnO fd1), (c1, oc1), (L' + 1, od)]
     (fun v n' => ∃ D sz t1 ix t2 k, v = .ref D ∧ n' = [(D, tupO [.int sz t1, .int ix t2]), (f1, fnO fd1), (c1, oc1), (L' + 1, od)] ∧ sizeL (dk.drop i.toNat) = some (sz, k) ∧ ix = i + (k : Nat))
     (.ref 32) (fun n' => n' = [(f1, fnO fd1), (c1, oc1), (L' + 1, od)] ∧ sizeL (dk.drop i.toNat) = none))
   (H2 : ∀ (i : Int) ti oi, oi.data = .cell (some (.int i ti)) → 0 ≤ i → Spec PySem.Challenge.rw_jq0004_03.row.prog w (aTop (dp + 1) (un + 3) gd (envOfC ql sc L' 47 cdv :: l)) base (envOfC ql sc L' 47 cdv :: l) (.ref f2) [.bytes d td] [(f2, fnO fd2), (c2, oc2), (L' + 1 + 1, oi), (L' + 1, od)]
     (fun v n' => ∃ t1 oi' t2, v = .int (dk.getD i.toNat 0) t1 ∧ n' = [(f2, fnO fd2), (c2, oc2), (L' + 1 + 1, oi'), (L' + 1, od)] ∧ oi'.data = .cell (some (.int (i + 1) t2)) ∧ i < dk.length)
     (.ref 32) (fun n' => n' = [(f2, fnO fd2), (c2, oc2), (L' + 1 + 1, oi), (L' + 1, od)] ∧ dk.length ≤ i))
   (hret : ∀ v h' tk n', (∃ lo vs cs nn, v = .ref lo ∧ BytesAre vs cs ∧ readDelta bk dk = some cs.flatten ∧ n' = [(lo, listOf (List.toArray vs) nn), (42, o42), (c1, oc1), (c2, oc2)]) → g.StaysIn h' → Led g h' n' → Q v { s with heap := h', toks := tk })
   (hexc : ∀ e h' tk n', (n' = [(42, o42), (c1, oc1), (c2, oc2)] ∧ readDelta bk dk = none) → Flies base g l (.ref 32) n' e h' → E e { s with heap := h', toks := tk }) :
   wpAny (TheM w) ((aTop dp un gd l).deeper (envOfC ql sc L' 47 cdv)) (execs (bd.drop 7) (envOfC ql sc L' 47 cdv))
     (fun fl s' => Q (match fl with | .ret v => v | _ => .none) s')
     (fun e s' => wpAny (TheM w) ((aTop dp un gd l).deeper (envOfC ql sc L' 47 cdv)) (leaving (envOfC ql sc L' 47 cdv) e) (fun _ s'' => E e s'') (fun e' s'' => E e' s'') s') s := by
  have hfill : (fun _ : OpenLaw => hd.heap_39) PySem.Challenge.rw_jq0004_03 = hd.heap_39 := by (k_fill; rfl)
  clear hfill
  have hK' := (by k_dflt k_is : List.lookup 47 (hd.heap_39 w.params) = some ⟨_, _, .func (fnOf _ _ _ _ _ _ _ _ _ _ _ _), _⟩)
  rw [hK'] at hK
  cases hK
  clear hK'
  have hoct := oct_of hdk
  have X := X₀.keeps B.stays
  have T := T₀.keeps B.stays
  simp only [List.pairwise_cons, List.forall_mem_cons, List.not_mem_nil, false_implies, implies_true, and_true, List.Pairwise.nil] at hap
  obtain ⟨⟨a1, a2, a3, a4, a5, a6, a7⟩, ⟨b1, b2, b3, b4, b5, b6⟩, ⟨e1, e2, e3, e4, e5⟩, ⟨i1, i2, i3, i4⟩, ⟨j1, j2, j3⟩, ⟨q1, q2⟩, r1⟩ := hap
  dsimp only [List.drop]
  k_with_none
  k_with "k_ne" => (refine neN ?_; (try dsimp only); first | assumption | exact Ne.symm (by assumption))
  k_with "execs cons" => k_fold
  k_with "eval Call" => k_fold
  k_with "storeName" => (k_here; k_dflt (first | (refine' storeI_L ?F ?N ?_ ?a ?b; (case F => k_asm); (case N => k_asm); (case a => rfl); (case b => rfl); k_whole; intro h' tk' t' F' N'; (try k_sweep); (try dsimp only); (try k_fold)) | (refine' storeB_L ?F ?N ?_ ?a ?b; (case F => k_asm); (case N => k_asm); (case a => rfl); (case b => rfl); k_whole; intro h' tk' t' F' N'; (try k_sweep); (try dsimp only); (try k_fold)) | (refine' storeG_L ?F ?N ?_ ?a ?b; (case F => k_asm); (case N => k_asm); (case a => rfl); (case b => rfl); k_whole; intro h' tk' F' N'; (try k_sweep); (try dsimp only); (try k_fold))))
  k_with "exec Raise some none" => (k_extra "raise")
  k_with "exec While Constant cons nil" => (k_extra "while")
  k_with "exec While Compare cons nil" => (k_extra "while")
  k_with "KswEnd" => (k_extra "turn")
  k_with "subscriptTail Name Slice bytes ref" => (k_here; (with_reducible show wpAny _ _ (subscriptTail _ (PySem.Expr.Slice (some _) (some _) none _) (Value.bytes _ _) (Value.ref _)) _ _ _); (with_reducible rename Fr _ _ _ _ => F'); (with_reducible rename News _ _ _ _ => N'); (refine slice_ij (s := ⟨_, _, _, _, _⟩) F' N' (by assumption) (by omega) (by omega) (by omega) ?_); intro _ _ _ _ _ _ hcut)
  k_with "call builtin:len" => (k_here; (with_reducible show wpAny _ _ (call (Value.builtin "len") [Value.bytes _ _]) _ _ _); (refine len_b (by assumption) (by omega) ?_); intro _ _)
  k_with "call builtin:ord" => (k_here; (with_reducible show wpAny _ _ (call (Value.builtin "ord") [Value.bytes _ _]) _ _ _); (refine ord_bytes (Eq.trans (by assumption) (cut_one' _ _ _ (by omega) (by omega) (by omega))) ?_); intro _ _ hlo hhi)
  k_with "loadName" => (k_here; k_dflt (refine' loadX_L ?F ?v ?_ ?hk ?hx; (case F => k_asm); (case v => rfl); (case hk => rfl); (case hx => rfl); k_whole))
  k_with "leaving ref" => (k_here; k_dflt (refine' leave_made ?B ?hx ?F ?N (fun _ h => h) ?hf ?hk ?_; (case hx => assumption); (case B => assumption); (case F => k_asm); (case N => k_asm); (case hf => exact rfl); (case hk => exact rfl)); intro h' fl'; (try dsimp only))
  k_with "leaving" => (k_here; k_dflt (refine' leave_on2 ?B ?F ?x ?hr ?hf ?_; (case x => assumption); (case hr => assumption); (case B => assumption); (case F => k_asm); (case hf => exact rfl)); intro h' fl'; (try dsimp only [List.cons_append, List.nil_append]))
  k_with "binaryOp LShift int int" => (k_here; (refine lshift_any (by omega) (by omega) (by k_extra "shift") ?_); intro _ _)
  k_with "call ref" => (k_extra "call")
  k_with "formatField int" => (k_here; (with_reducible rename Fr _ _ _ _ => kF); (refine fmt_int rfl (Heap.NoDigits.keeps (Top.nodigits (by assumption)) (Fr.keep kF)) (by k_extra "digits") ?_); intro _ _ _ hfm)
  k_with "exec For Name Call cons nil" => (k_extra "for")
  k_with "pyIter ref" => (k_extra "iter")
  k_with "subscriptTail Name Slice bytes ref" => (k_here; (with_reducible show wpAny _ _ (subscriptTail _ (PySem.Expr.Slice (some _) none none _) (Value.bytes _ _) (Value.ref _)) _ _ _); (with_reducible rename Fr _ _ _ _ => F'); (with_reducible rename News _ _ _ _ => N'); (refine slice_i (s := ⟨_, _, _, _, _⟩) F' N' (by assumption) (by omega) (by omega) ?_); intro _ _ _ _ _ _ hcut)
  k_with "pyReprObj bytes" => (k_here; (have hsm := drop_small (by assumption) (by assumption)); (refine repr_b (by omega) ?_); intro _ _ _ hxl)
  k_with "call builtin:list.append" => (k_here; k_dflt (refine' append_K ?k1 ?k2 ?k3 ?_ ?z; (case k1 => k_asm); (case k2 => k_asm); (case k3 => k_upd); (case z => k_extra "append"); k_whole); intro h' F' N'; (try k_sweep))
  k_with "MainPost" => (dsimp only [MainPost])
  k_with "k_memx" => (first | k_mem | with_reducible (repeat' (first | exact List.Mem.head _ | refine List.Mem.tail _ ?_)))
  k_with "k_mems" => (repeat' (first | exact List.forall_mem_nil _ | refine List.forall_mem_cons.mpr ⟨by walk_at "k_memx", ?_⟩))
  k_with "k_subl" => (exact fun q9 hq9 => List.Sublist.subset (by with_reducible (repeat (first | exact List.Sublist.refl _ | refine List.Sublist.cons_cons _ ?_ | refine List.Sublist.cons _ ?_))) hq9)
  k_with "k_none" => (first
      | exact delta_none1 (by assumption)
      | exact delta_none2 (by assumption) (by assumption) (by assumption)
      | exact none_zero (by assumption) (by assumption) (by assumption)
      | exact none_long (by assumption) (by assumption) (by assumption) (by assumption) (by assumption) (.inl (by assumption))
      | exact none_long (by assumption) (by assumption) (by assumption) (by assumption) (by assumption) (.inr (by assumption))
      | exact none_off (by assumption) (by assumption) (by assumption) (by assumption) (by assumption) (by assumption) (by assumption) (by assumption) (by assumption)
      | exact none_sz (by assumption) (by assumption) (by assumption) (by assumption) (by assumption) (by assumption) (by assumption) (by assumption) (by assumption) (by assumption)
      | exact none_after1 (by assumption) (by assumption)
      | exact none_after2 (by assumption) (by assumption)
      | exact delta_none3 (by assumption) (by assumption) (by assumption) (by assumption))
  k_with "k_copy" => (first
      | exact end_copy (by assumption) (by assumption) (by assumption) (by assumption) (by assumption) (by assumption) (by assumption) (by assumption) (by omega) (by omega) (by omega) (by omega) (by omega) rfl (by omega) (by omega)
      | exact end_insert (by assumption) (by assumption) (by assumption) (by assumption) (by assumption) (by assumption) (by assumption) (by assumption) (by assumption))
  k_with "k_bad" => (first
      | exact main_out (by assumption) (by assumption)
      | exact end_bad (by assumption) (by assumption) (by assumption) (by assumption) (by assumption) (by assumption) (by assumption) (by omega) (by omega) (by omega) rfl (by omega))
  k_with "k_fin" => (first
      | ((with_reducible show MainAt _ _ _ _ _ _ _ _ _); first
         | exact main_push (by assumption) (by assumption) (by assumption) (by walk_at "k_mems") (by assumption) (by assumption) rfl (by intro z n1 n2 n3 n4 n5 n6; simp [kstB, n1, n2, n3, n4, n5, n6]) (by walk_at "k_copy")
         | exact main_ends (by assumption) (by assumption) (by assumption) (by walk_at "k_mems") (by assumption) rfl (by intro z n1 n2 n3 n4 n5 n6; simp [kstB, n1, n2, n3, n4, n5, n6]) (by walk_at "k_bad"))
      | ((with_reducible show FldPost _ _ _ _ _ _ _ _ _ _ _ _ _ _ _ _ _);
         exact fld_ends (by assumption) (by assumption) (by assumption) (by walk_at "k_mems") (by walk_at "k_subl") rfl (by intro z n1 n2 n3; simp [kstB, n1, n2, n3])
           (by first | exact skip0 (by assumption) (by assumption) (by assumption) | exact skip4 (by assumption) (by assumption) (by assumption) | exact take0 (by assumption) (by assumption) (by omega) (by assumption) (by assumption) (by assumption) | exact take4 (by assumption) (by assumption) (by omega) (by assumption) (by assumption) (by assumption)))
      | (exfalso; omega))
  k_with "raise" => (k_here; (with_reducible show wpAny _ _ (exec (Stmt.Raise (some (Expr.Call (Expr.Name _ _) [_] [] _)) none _) _) _ _ _); k_dflt (refine' Raise_ADE w ?F ?X ?T ?hh ?hdp ?_ ?he ?hk ?hx; (case F => k_asm); (case X => k_asm); (case T => k_asm); (case hh => exact rfl); (case hdp => ktr_room); (case he => exact rfl); (case hk => exact rfl); (case hx => exact rfl)))
  k_with "Told1" => (refine ⟨_, _, rfl, Fr.keep (by assumption), ?_⟩; intro h9 ea9 tk9 hm9)
  k_with "call" => ((with_reducible show wpAny _ _ (call _ [_, _]) _ _ _); (rename Fr _ _ _ _ => kF); (rename News _ _ _ _ => kN); k_dflt (refine' Spec.use (A₀ := aTop dp un gd l) (H1 _ _ ?h0 ?h1) B kF kN [(L' + 1 + 1, _), (lo, listOf #[] nn), (f2, fnO fd2), (c2, oc2), (42, o42)] ?hn ?hr ?hd rfl rfl ?_ ?_; (case h0 => omega); (case h1 => omega); (case hn => repeat' (first | exact List.forall_mem_nil _ | refine List.forall_mem_cons.mpr ⟨by k_mem, ?_⟩)); (case hr => repeat' (first | exact List.forall_mem_nil _ | refine List.forall_mem_cons.mpr ⟨by k_mem, ?_⟩)); (case hd => ((repeat' (first | exact List.forall_mem_nil _ | refine List.forall_mem_cons.mpr ⟨?_, ?_⟩)) <;> k_ne))); (rotate_left); ((intro e9 h9 tk9 n9 g9 hx9 F9 hr9 fl9; obtain ⟨rfl, hx9⟩ := hx9; (try k_fold))); (rotate_left); ((intro v9 h9 tk9 n9 hr9 F9 N9 ap9; obtain ⟨D9, sz9, t91, ix9, t92, kk9, rfl, rfl, hz9, hix9⟩ := hr9; (have hf9 := sizeL_at hoct (by omega) (by omega) hz9); (obtain ⟨hv91, hv92, hv93, hv94⟩ := hf9); (have hD9 : @Ne Nat D9 (L' + 1 + 1) := ap9 _ (List.Mem.head _) _ (List.Mem.head _)); clear ap9; dsimp only [List.cons_append, List.nil_append] at N9; (try k_fold))))
  k_with "digits" => first | exact digits_ok (by assumption) (by assumption) (by omega) | exact digits_len (by assumption)
  k_with "while" => ((rename Fr _ _ _ _ => kF); (rename News _ _ _ _ => kN); k_dflt (refine' main_loop bk dk (readDelta bk dk) _ (ci := L' + 1 + 1) (lo := lo) [(f1, fnO fd1), (c1, oc1), (f2, fnO fd2), (c2, oc2), (L' + 1, od), (42, o42)] kF kN ?hci ?hlo ?hfix ?hd ?hm ?hp ?_ ?_ ?hE; (case hci => k_mem); (case hlo => k_mem); (case hfix => repeat' (first | exact List.forall_mem_nil _ | refine List.forall_mem_cons.mpr ⟨by k_mem, ?_⟩)); (case hd => assumption); (case hm => exact rfl); (case hp => exact start_main (by assumption) (by assumption) (by assumption) (by assumption) (by assumption) (by assumption) (by omega)); (case hE => first | passes_own | with_unfolding_all passes_own)); (clear kF kN); (rotate_left); (intro oix ix ixt rm rmt vs cs nx kU kH kTk hoix hvs kInv kFr kNews; (have kInv' := kInv); obtain ⟨hm1, hm2, hm3, hm4, hm5, hm6, hm7⟩ := kInv'; (try k_fold)); (rotate_left); (intro oix ix ixt rm rmt vs cs nx kU kH kTk hoix hvs kInv kFr kNews; (have kInv' := kInv); obtain ⟨hm1, hm2, hm3, hm4, hm5, hm6, hm7⟩ := kInv'; (try k_fold)))
  k_with "for" => kpr_for
  k_with "iter" => ((rename Fr _ _ _ _ => kF); (rename News _ _ _ _ => kN); (rename IsRange _ _ _ _ _ _ _ _ => rgX); first
   | (k_dflt (refine' for_fields (n := 4) (ci := L' + 1 + 1) dk (dk.getD ix.toNat 0) 0 ((lo, listOf (List.toArray vs) nx) :: [(f1, fnO fd1), (c1, oc1), (f2, fnO fd2), (c2, oc2), (L' + 1, od), (42, o42)]) (Str.ofString "cp_off") rfl rgX rfl (by decide) kF kN ?hci ?hrest ?hd ?ho ?hi (by decide) (by decide) ?_ ?_; (case hci => k_mem); (case hrest => repeat' (first | exact List.forall_mem_nil _ | refine List.forall_mem_cons.mpr ⟨by k_mem, ?_⟩)); (case hd => assumption); (case ho => exact rfl); (case hi => omega)); (clear kF kN rgX); (rotate_left); (intro oiy iy iyt ofv ofvt kU kH kTk hoiy kInv kFr kNews; (have kInv' := kInv); unfold fldInv at kInv'; obtain ⟨hq1, hq2, hq3, hq4, hq5⟩ := kInv'; (have hdn := fld_done kInv); (try k_fold)); (rotate_left); (intro j oiy iy iyt ofv ofvt tj kU kH kTk own hjn hoff hoiy kInv kFr kNews; (have kInv' := kInv); unfold fldInv at kInv'; obtain ⟨hq1, hq2, hq3, hq4, hq5⟩ := kInv'; dsimp only [List.cons_append, List.nil_append] at kNews; (try k_fold)))
   | (k_dflt (refine' for_fields (n := 3) (ci := L' + 1 + 1) dk (dk.getD ix.toNat 0) 4 ((lo, listOf (List.toArray vs) nx) :: [(f1, fnO fd1), (c1, oc1), (f2, fnO fd2), (c2, oc2), (L' + 1, od), (42, o42)]) (Str.ofString "cp_size") rfl rgX rfl (by decide) kF kN ?hci ?hrest ?hd ?ho ?hi (by decide) (by decide) ?_ ?_; (case hci => k_mem); (case hrest => repeat' (first | exact List.forall_mem_nil _ | refine List.forall_mem_cons.mpr ⟨by k_mem, ?_⟩)); (case hd => assumption); (case ho => exact rfl); (case hi => omega)); (clear kF kN rgX); (rotate_left); (intro oiy iy iyt ofv ofvt kU kH kTk hoiy kInv kFr kNews; (have kInv' := kInv); unfold fldInv at kInv'; obtain ⟨hq1, hq2, hq3, hq4, hq5⟩ := kInv'; (have hdn := fld_done kInv); (try k_fold)); (rotate_left); (intro j oiy iy iyt ofv ofvt tj kU kH kTk own hjn hoff hoiy kInv kFr kNews; (have kInv' := kInv); unfold fldInv at kInv'; obtain ⟨hq1, hq2, hq3, hq4, hq5⟩ := kInv'; dsimp only [List.cons_append, List.nil_append] at kNews; (try k_fold))))
  k_with "call" => ((with_reducible show wpAny _ _ (call _ [Value.bytes _ _]) _ _ _); (rename OwnOff _ _ => hoff); (rename Fr _ _ _ _ => kF); (rename News _ _ _ _ => kN); k_dflt (refine' Spec.use (A₀ := aTop dp un gd l) (H2 _ _ _ ?hoi ?h0) B kF kN ((lo, listOf (List.toArray vs) nx) :: (f1, fnO fd1) :: (c1, oc1) :: (42, o42) :: own) ?hn ?hr ?hd rfl rfl ?_ ?_; (case hoi => assumption); (case h0 => omega); (case hn => repeat' (first | exact List.forall_mem_nil _ | refine List.forall_mem_cons.mpr ⟨by walk_at "k_memx", ?_⟩)); (case hr => exact fun q9 hq9 => List.Sublist.subset (by with_reducible (repeat (first | exact List.Sublist.refl _ | refine List.Sublist.cons_cons _ ?_ | refine List.Sublist.cons _ ?_))) hq9); (case hd => ((repeat' (first | exact List.forall_mem_nil _ | exact own_apart hoff (by simp) | refine List.forall_mem_cons.mpr ⟨?_, ?_⟩)) <;> k_ne))); (rotate_left); ((intro e9 h9 tk9 n9 g9 hx9 F9 hr9 fl9; obtain ⟨rfl, hx9⟩ := hx9; (try k_fold))); (rotate_left); ((intro v9 h9 tk9 n9 hr9 F9 N9 ap9; obtain ⟨t91, oi9, t92, rfl, rfl, hoi9, hlt9⟩ := hr9; clear ap9; dsimp only [List.cons_append, List.nil_append] at N9; (try k_fold))))
  k_with "call" => ((with_reducible show wpAny _ _ (call _ [Value.bytes _ _]) _ _ _); (fail_if_success rename OwnOff _ _ => hoff); (rename Fr _ _ _ _ => kF); (rename News _ _ _ _ => kN); k_dflt (refine' Spec.use (A₀ := aTop dp un gd l) (H2 _ _ _ ?hoi ?h0) B kF kN ((lo, listOf (List.toArray vs) nx) :: (f1, fnO fd1) :: (c1, oc1) :: (42, o42) :: []) ?hn ?hr ?hd rfl rfl ?_ ?_; (case hoi => assumption); (case h0 => omega); (case hn => repeat' (first | exact List.forall_mem_nil _ | refine List.forall_mem_cons.mpr ⟨by k_mem, ?_⟩)); (case hr => repeat' (first | (intro q9 hq9; repeat (first | exact hq9 | refine List.Mem.tail _ ?_); done) | refine List.forall_mem_cons.mpr ⟨by k_mem, ?_⟩)); (case hd => ((repeat' (first | exact List.forall_mem_nil _ | refine List.forall_mem_cons.mpr ⟨?_, ?_⟩)) <;> k_ne))); (rotate_left); ((intro e9 h9 tk9 n9 g9 hx9 F9 hr9 fl9; obtain ⟨rfl, hx9⟩ := hx9; (try k_fold))); (rotate_left); ((intro v9 h9 tk9 n9 hr9 F9 N9 ap9; obtain ⟨t91, oi9, t92, rfl, rfl, hoi9, hlt9⟩ := hr9; clear ap9; dsimp only [List.cons_append, List.nil_append] at N9; (try k_fold))))
  k_with "call" => ((with_reducible show wpAny _ _ (call (Value.ref 40) [_]) _ _ _); (rename Fr _ _ _ _ => kF); (rename News _ _ _ _ => kN); k_dflt (refine' Spec.use (A₀ := aTop dp un gd l) (chunks_spec w X₀ T₀ (dp + 1) (un + 3) gd _ ?d1 ?u1 hvs ?z1 ?z2) B kF kN [(42, o42), (c1, oc1), (c2, oc2)] ?hn ?hr ?hd rfl rfl ?_ ?_; (case d1 => omega); (case u1 => omega); (case z1 => omega); (case z2 => omega); (case hn => repeat' (first | exact List.forall_mem_nil _ | refine List.forall_mem_cons.mpr ⟨by k_mem, ?_⟩)); (case hr => repeat' (first | exact List.forall_mem_nil _ | refine List.forall_mem_cons.mpr ⟨by k_mem, ?_⟩)); (case hd => ((repeat' (first | exact List.forall_mem_nil _ | refine List.forall_mem_cons.mpr ⟨?_, ?_⟩)) <;> k_ne))); (rotate_left); ((intro e9 h9 tk9 n9 g9 hx9; exact hx9.elim)); ((intro v9 h9 tk9 n9 hr9 F9 N9 ap9; obtain ⟨t91, rfl, rfl⟩ := hr9; clear ap9; dsimp only [List.cons_append, List.nil_append] at N9; (try k_fold))))
  k_with "exec If" => (k_here; (fail_if_success (have h9 := hcs0)); (with_reducible show wpAny _ _ (exec (Stmt.If (PySem.Expr.Compare (PySem.Expr.Name "cp_size" _) _ _ _) _ _ _) _) _ _ _); (rename Fr _ _ _ _ => kF); (rename News _ _ _ _ => kN); (have hcs := copySz_bd (sz := ofv) (by omega) (by omega)); obtain ⟨hcs0, hcs1⟩ := hcs; k_dflt (refine' cut_if (s := ⟨_, _, _, _, _⟩) (Str.ofString "cp_size") (copySz ofv) kF kN ?_ ?_); (rotate_left); (clear kF kN; intro kU kH kTk ts kFr kNews; (try k_fold)); (rotate_left); (try k_fold))
  k_with "CutPost" => ((rename Fr _ _ _ _ => kF); (rename News _ _ _ _ => kN); k_dflt (exact cut_end kF kN rfl (by first | exact cp0 (by omega) | exact cp1 (by omega)) (by intro z a1; simp [kstB, a1])))
  k_with "shift" => exact oct_shift (by assumption) _
  k_with "append" => (rw [List.size_toArray, hvs.length, sizeLine_eq]; omega)
  k_steps
  all_goals (try walk_at "k_fin")
  all_goals (try exact hexc _ _ _ _ ⟨rfl, by walk_at "k_none"⟩ (Flies.sub (by assumption) (by walk_at "k_mems")))
  all_goals (try exact hret _ _ _ _ ⟨_, _, _, _, rfl, by assumption, some_after (by assumption) (by assumption) (by assumption), rfl⟩ (Fr.keep (by assumption)) (Led.of_news (by assumption)))

def CodeOk (q : Str) (oc : Obj) : Prop := ∃ vs t, oc.data = .fields vs ∧ vs[1]? = some (.str q t)
abbrev tabFull (c1 c2 : Addr) : Obj := tabObj (#[] ++ #[rawInt (21 : Nat), rawInt (4 : Nat), Value.ref c1] ++ #[rawInt (35 : Nat), rawInt (4 : Nat), Value.ref c2])
/-- the code objects of the two nested defs stand in the table -/
def Tab (n : List (Addr × Obj)) : Prop := ∃ c1 oc1 c2 oc2, n = [(42, tabFull c1 c2), (c1, oc1), (c2, oc2)] ∧ CodeOk (Str.ofString "_apply_delta_py.<locals>.get_delta_header_size") oc1 ∧ CodeOk (Str.ofString "_apply_delta_py.<locals>.read_byte") oc2 ∧ @Ne Nat c1 c2 ∧ @Ne Nat c1 42 ∧ @Ne Nat c2 42
theorem fr_names {g h : Heap} {L : Addr} {m : Str → Option Value} {ps : List (Str × Value)} (F : Fr g L h m) (hp : ∀ p ∈ ps, m p.1 = some p.2) : Fr g L h (kstB m ps) := by
  have em : kstB m ps = m := by
    funext y
    exact kstB_eq hp fun _ => rfl
  rw [em]; exact F
theorem codeOk_of {q q' : Str} {oc : Obj} {vs : Array Value} {t : Tok} (h1 : oc.data = .fields vs) (h2 : vs[1]? = some (.str q' t)) (e : q' = q) : CodeOk q oc := ⟨vs, t, h1, e ▸ h2⟩
theorem news_sub {g h : Heap} {L : Addr} {n n' : List (Addr × Obj)} (N : News g L h n) (hs : ∀ q ∈ n', q ∈ n) : News g L h n' := fun q hq => N q (hs q hq)
theorem apply_core2 (w : World) {p : Program} {loose : List Str} {mean : ExcName → Option Value} {mg mb : Str → Option Value}
   {oc od0 : _} {osl : _} {nm ql : Str} {ps : Arguments} {bd : List Stmt} {sc : Scope} {dV kV dc pm0 cdv ct : Value} {an : Option Addr}
   (hK : List.lookup 47 (hd.heap_39 w.params) = some ⟨oc, od0, .func (fnOf nm ql ps bd sc dV kV dc pm0 an cdv ct), osl⟩)
   {base : Heap} (X₀ : (hd.heap_39 w.params).In base) (T₀ : Top p loose mean mg mb base) (codeHd : CodeHd base 46 42)
   (dp un : Nat) (gd : Option (List Code)) (l : List Env) (hdp : dp + 12 < recursionLimit) (hu : un + 100 < cLine)
   {b d : Array UInt8} {bk dk : List Int} {tb td : Tok} (hbk : KBw.bInts b = bk) (hdk : KBw.bInts d = dk) (hb : bk.length ≤ 200000) (hd0 : dk.length ≤ 1800)
   {g : Heap} {s : Shared} {Q E : Value → Shared → Prop} (B : Below (aTop dp un gd l) base l g) {L' : Addr} {m : Str → Option Value} {f1 f2 c1 c2 lo : Addr} {fd1 fd2 : FuncData} {oc1 oc2 oi od o42 : Obj} {nn : Nat} {t0 tl : Tok}
   (F : Fr g L' s.heap (kstB m [(Str.ofString "src_buf", .bytes b tb), (Str.ofString "delta", .bytes d td), (Str.ofString "out", .ref lo), (Str.ofString "get_delta_header_size", .ref f1), (Str.ofString "read_byte", .ref f2)]))
   (N : News g L' s.heap [(L' + 1 + 1, oi), (lo, listOf #[] nn), (f1, fnO fd1), (c1, oc1), (f2, fnO fd2), (c2, oc2), (L' + 1, od), (42, o42)])
   (hoi : oi.data = .cell (some (.int 0 t0))) (hod : od.data = .cell (some (.int dk.length tl)))
   (hap : List.Pairwise (α := Nat) (· ≠ ·) [L' + 1 + 1, lo, f1, c1, f2, c2, L' + 1, 42])
   (H1 : ∀ (i : Int) ti, 0 ≤ i → i ≤ dk.length → Spec PySem.Challenge.rw_jq0004_03.row.prog w (aTop (dp + 1) (un + 3) gd (envOfC ql sc L' 47 cdv :: l)) base (envOfC ql sc L' 47 cdv :: l) (.ref f1) [.bytes d td, .int i ti] [(f1, fnO fd1), (c1, oc1), (L' + 1, od)]
     (fun v n' => ∃ D sz t1 ix t2 k, v = .ref D ∧ n' = [(D, tupO [.int sz t1, .int ix t2]), (f1, fnO fd1), (c1, oc1), (L' + 1, od)] ∧ sizeL (dk.drop i.toNat) = some (sz, k) ∧ ix = i + (k : Nat))
     (.ref 32) (fun n' => n' = [(f1, fnO fd1), (c1, oc1), (L' + 1, od)] ∧ sizeL (dk.drop i.toNat) = none))
   (H2 : ∀ (i : Int) ti oi, oi.data = .cell (some (.int i ti)) → 0 ≤ i → Spec PySem.Challenge.rw_jq0004_03.row.prog w (aTop (dp + 1) (un + 3) gd (envOfC ql sc L' 47 cdv :: l)) base (envOfC ql sc L' 47 cdv :: l) (.ref f2) [.bytes d td] [(f2, fnO fd2), (c2, oc2), (L' + 1 + 1, oi), (L' + 1, od)]
     (fun v n' => ∃ t1 oi' t2, v = .int (dk.getD i.toNat 0) t1 ∧ n' = [(f2, fnO fd2), (c2, oc2), (L' + 1 + 1, oi'), (L' + 1, od)] ∧ oi'.data = .cell (some (.int (i + 1) t2)) ∧ i < dk.length)
     (.ref 32) (fun n' => n' = [(f2, fnO fd2), (c2, oc2), (L' + 1 + 1, oi), (L' + 1, od)] ∧ dk.length ≤ i))
   (hret : ∀ v h' tk n', (∃ lo vs cs nn, v = .ref lo ∧ BytesAre vs cs ∧ readDelta bk dk = some cs.flatten ∧ n' = [(lo, listOf (List.toArray vs) nn), (42, o42), (c1, oc1), (c2, oc2)]) → g.StaysIn h' → Led g h' n' → Q v { s with heap := h', toks := tk })
   (hexc : ∀ e h' tk n', (n' = [(42, o42), (c1, oc1), (c2, oc2)] ∧ readDelta bk dk = none) → Flies base g l (.ref 32) n' e h' → E e { s with heap := h', toks := tk })
   {stmts : List Stmt} {Pn : Flow → Shared → Prop} {En : Value → Shared → Prop} {Am : Around} {env : Env} (hst : bd.drop 7 = stmts) (henv : envOfC ql sc L' 47 cdv = env) (hA : (aTop dp un gd l).deeper (envOfC ql sc L' 47 cdv) = Am)
   (hP : ∀ fl s', Q (match fl with | .ret v => v | _ => .none) s' → Pn fl s')
   (hE : ∀ e s', wpAny (TheM w) ((aTop dp un gd l).deeper (envOfC ql sc L' 47 cdv)) (leaving (envOfC ql sc L' 47 cdv) e) (fun _ s'' => E e s'') (fun e' s'' => E e' s'') s' → En e s') :
   wpAny (TheM w) Am (execs stmts env) Pn En s := by
  subst hst henv hA
  exact wpAny_mono (apply_core w hK X₀ T₀ codeHd dp un gd l hdp hu hbk hdk hb hd0 B F N hoi hod hap H1 H2 hret hexc) hP hE

set_option maxHeartbeats 8000000 in
theorem apply_first (w : World) {p : Program} {loose : List Str} {mean : ExcName → Option Value} {mg mb : Str → Option Value}
   {base : Heap} (X₀ : (hd.heap_39 w.params).In base) (T₀ : Top p loose mean mg mb base) (codeHd : CodeHd base 46 42)
   (dp un : Nat) (gd : Option (List Code)) (l : List Env) (hdp : dp + 12 < recursionLimit) (hu : un + 100 < cLine)
   {b d : Array UInt8} {bk dk : List Int} (tb td : Tok) (hbk : KBw.bInts b = bk) (hdk : KBw.bInts d = dk) (hb : bk.length ≤ 200000) (hd0 : dk.length ≤ 1800) :
   Spec PySem.Challenge.rw_jq0004_03.row.prog w (aTop dp un gd l) base l (.ref 47) [.bytes b tb, .bytes d td] [(42, tabObj #[])]
     (fun v n' => ∃ lo vs cs nn n1, v = .ref lo ∧ BytesAre vs cs ∧ readDelta bk dk = some cs.flatten ∧ n' = (lo, listOf (List.toArray vs) nn) :: n1 ∧ Tab n1)
     (.ref 32) (fun n' => Tab n' ∧ readDelta bk dk = none) := by
  intro g s Q E B hg hsz N hret hexc
  have hfill : (fun _ : OpenLaw => hd.heap_39) PySem.Challenge.rw_jq0004_03 = hd.heap_39 := by (k_fill; rfl)
  clear hfill
  have X := X₀.keeps B.stays
  have T := T₀.keeps B.stays
  refine wpAny_call ?_
  k_dflt (refine' enter_defC hg hsz N X T ?k6 ?k7 ?k8 ?k9 ?kB ?kD ?_ ?c2 ?c3 ?c4; (case k6 => k_is); (case k7 => k_is); (case k8 => ktr_room); (case k9 => exact BindsTo.of_eq rfl); (case kB => exact rfl); (case kD => decide +kernel); (case c2 => exact rfl); (case c3 => exact rfl); (case c4 => exact rfl); k_whole; intro L' h' tk' cells' F' N' Y' l1; (try k_lt l1); k_cells Y'; (try simp only [List.cons_append, List.nil_append] at N'); (try dsimp only); (try k_fold))
  k_with_none
  k_with "execs cons" => k_fold
  k_with "eval Call" => k_fold
  k_with "storeName" => (k_here; k_dflt (first | (refine' storeI_L ?F ?N ?_ ?a ?b; (case F => k_asm); (case N => k_asm); (case a => rfl); (case b => rfl); k_whole; intro h' tk' t' F' N'; (try k_sweep); (try dsimp only); (try k_fold)) | (refine' storeB_L ?F ?N ?_ ?a ?b; (case F => k_asm); (case N => k_asm); (case a => rfl); (case b => rfl); k_whole; intro h' tk' t' F' N'; (try k_sweep); (try dsimp only); (try k_fold)) | (refine' storeG_L ?F ?N ?_ ?a ?b; (case F => k_asm); (case N => k_asm); (case a => rfl); (case b => rfl); k_whole; intro h' tk' F' N'; (try k_sweep); (try dsimp only); (try k_fold))))
  k_with "k_memx" => (first | k_mem | with_reducible (repeat' (first | exact List.Mem.head _ | refine List.Mem.tail _ ?_)))
  k_with "exec Raise some none" => k_extra "raise"
  k_with "exec While Constant cons nil" => k_extra "while"
  k_with "exec While Compare cons nil" => k_extra "while"
  k_with "KswEnd" => k_extra "turn"
  k_with "subscriptTail Name Slice bytes ref" => (k_here; (with_reducible show wpAny _ _ (subscriptTail _ (PySem.Expr.Slice (some _) (some _) none _) (Value.bytes _ _) (Value.ref _)) _ _ _); (with_reducible rename Fr _ _ _ _ => F'); (with_reducible rename News _ _ _ _ => N'); (refine slice_ij (s := ⟨_, _, _, _, _⟩) F' N' (by assumption) (by omega) (by omega) (by omega) ?_); intro _ _ _ _ _ _ hcut)
  k_with "call builtin:len" => (k_here; (with_reducible show wpAny _ _ (call (Value.builtin "len") [Value.bytes _ _]) _ _ _); (refine len_b (by assumption) (by omega) ?_); intro _ _)
  k_with "call builtin:ord" => (k_here; (with_reducible show wpAny _ _ (call (Value.builtin "ord") [Value.bytes _ _]) _ _ _); (refine ord_bytes (Eq.trans (by assumption) (cut_one' _ _ _ (by omega) (by omega) (by omega))) ?_); intro _ _ hlo hhi)
  k_with "loadName" => (k_here; k_dflt (refine' loadX_L ?F ?v ?_ ?hk ?hx; (case F => k_asm); (case v => rfl); (case hk => rfl); (case hx => rfl); k_whole))
  k_with "leaving ref" => (k_here; k_dflt (refine' leave_made ?B ?hx ?F ?N (fun _ h => h) ?hf ?hk ?_; (case hx => assumption); (case B => assumption); (case F => k_asm); (case N => k_asm); (case hf => exact rfl); (case hk => exact rfl)); intro h' fl'; (try dsimp only))
  k_with "leaving" => (k_here; k_dflt (refine' leave_on2 ?B ?F ?x ?hr ?hf ?_; (case x => assumption); (case hr => assumption); (case B => assumption); (case F => k_asm); (case hf => exact rfl)); intro h' fl'; (try dsimp only [List.cons_append, List.nil_append]))
  k_with "binaryOp LShift int int" => (k_here; (refine lshift_any (by omega) (by omega) (by k_extra "shift") ?_); intro _ _)
  k_with "call ref" => k_extra "call"
  k_with "formatField int" => (k_here; (with_reducible rename Fr _ _ _ _ => kF); (refine fmt_int rfl (Heap.NoDigits.keeps (Top.nodigits (by assumption)) (Fr.keep kF)) (by k_extra "digits") ?_); intro _ _ _ hfm)
  k_with "exec For Name Call cons nil" => k_extra "for"
  k_with "pyIter ref" => k_extra "iter"
  k_with "subscriptTail Name Slice bytes ref" => (k_here; (with_reducible show wpAny _ _ (subscriptTail _ (PySem.Expr.Slice (some _) none none _) (Value.bytes _ _) (Value.ref _)) _ _ _); (with_reducible rename Fr _ _ _ _ => F'); (with_reducible rename News _ _ _ _ => N'); (refine slice_i (s := ⟨_, _, _, _, _⟩) F' N' (by assumption) (by omega) (by omega) ?_); intro _ _ _ _ _ _ hcut)
  k_with "pyReprObj bytes" => (k_here; (have hsm := drop_small (by assumption) (by assumption)); (refine repr_b (by omega) ?_); intro _ _ _ hxl)
  k_with "call builtin:list.append" => (k_here; k_dflt (refine' append_K ?k1 ?k2 ?k3 ?_ ?z; (case k1 => k_asm); (case k2 => k_asm); (case k3 => k_upd); (case z => k_extra "append"); k_whole); intro h' F' N'; (try k_sweep))
  k_with "MainPost" => (dsimp only [MainPost])
  k_with "execs cons Assign cons" => k_extra "core"
  have hK := (by k_dflt k_is : List.lookup 47 (hd.heap_39 w.params) = some ⟨_, _, .func (fnOf _ _ _ _ _ _ _ _ _ _ _ _), _⟩)
  k_with "core" => ((with_reducible show wpAny _ _ (execs (Stmt.Assign [Expr.Tuple _ _ _] _ _ :: _) _) _ _ _); (rename Fr _ _ _ _ => kF); (rename News _ _ _ _ => kN); k_dflt ((refine' apply_core2 (Q := Q) (E := E) w hK X₀ T₀ codeHd dp un gd l hdp hu hbk hdk hb hd0 B ?F ?N ?hoi ?hod ?hap ?H1 ?H2 ?hret ?hexc ?hst ?henv ?hA ?hP ?hE); (case hst => exact rfl); (case henv => exact rfl); (case hA => exact rfl); (case hP => exact fun _ _ z => z); (case hE => exact fun _ _ z => z); (case F => refine fr_names kF ?_; (repeat' (first | exact List.forall_mem_nil _ | refine List.forall_mem_cons.mpr ⟨by exact rfl, ?_⟩)))); (case N => (k_dflt (exact news_sub kN (List.forall_mem_cons.mpr ⟨(List.Mem.tail _ (List.Mem.tail _ (List.Mem.tail _ (List.Mem.tail _ (List.Mem.tail _ (List.Mem.head _)))))), List.forall_mem_cons.mpr ⟨(List.Mem.tail _ (List.Mem.tail _ (List.Mem.tail _ (List.Mem.tail _ (List.Mem.head _))))), List.forall_mem_cons.mpr ⟨(List.Mem.tail _ (List.Mem.tail _ (List.Mem.head _))), List.forall_mem_cons.mpr ⟨(List.Mem.tail _ (List.Mem.tail _ (List.Mem.tail _ (List.Mem.head _)))), List.forall_mem_cons.mpr ⟨(List.Mem.head _), List.forall_mem_cons.mpr ⟨(List.Mem.tail _ (List.Mem.head _)), List.forall_mem_cons.mpr ⟨(List.Mem.tail _ (List.Mem.tail _ (List.Mem.tail _ (List.Mem.tail _ (List.Mem.tail _ (List.Mem.tail _ (List.Mem.head _))))))), List.forall_mem_cons.mpr ⟨(List.Mem.tail _ (List.Mem.tail _ (List.Mem.tail _ (List.Mem.tail _ (List.Mem.tail _ (List.Mem.tail _ (List.Mem.tail _ (List.Mem.head _)))))))), List.forall_mem_nil _⟩⟩⟩⟩⟩⟩⟩⟩)))); (case hoi => assumption); (case hod => assumption); (case hap => exact apart_bytes (Nat.lt_succ_of_lt (by first | assumption | exact And.left (by assumption) | omega)) (Nat.lt_succ_self _) (by first | assumption | exact And.left (by assumption) | omega) (by first | assumption | exact And.left (by assumption) | omega) (by first | assumption | exact And.left (by assumption) | omega) (by first | assumption | exact And.left (by assumption) | omega) (by first | assumption | exact And.left (by assumption) | omega)); (case H1 => (k_dflt (intro i ti h0 h1; exact hdr_spec w hK rfl X₀ T₀ codeHd (dp + 1) (un + 3) gd _ (by omega) (by omega) (by assumption) (by assumption) hdk hd0 (by assumption) td ti h0 h1))); (case H2 => (k_dflt (intro i ti oi hoi h0; exact byte_spec w hK rfl X₀ T₀ codeHd (dp + 1) (un + 3) gd _ (by omega) (by omega) (by assumption) (by assumption) hdk hd0 (by assumption) hoi td h0 (show @Ne Nat _ _ by omega) (show @Ne Nat _ _ by omega) (show @Ne Nat _ _ by omega)))); (case hexc => (rintro e h' tk n' ⟨rfl, hn⟩ fl; exact hexc _ _ _ _ ⟨⟨_, _, _, _, rfl, codeOk_of (by assumption) (by assumption) (by kernel_rfl), codeOk_of (by assumption) (by assumption) (by kernel_rfl), by omega, by omega, by omega⟩, hn⟩ fl)); (case hret => (rintro v h' tk n' ⟨lo, vs, cs, nn, rfl, hb, hr, rfl⟩ hs hl; exact hret _ _ _ _ ⟨lo, vs, cs, nn, _, rfl, hb, hr, rfl, ⟨_, _, _, _, rfl, codeOk_of (by assumption) (by assumption) (by kernel_rfl), codeOk_of (by assumption) (by assumption) (by kernel_rfl), by omega, by omega, by omega⟩⟩ hs hl)))
  k_steps

theorem name_of {q q' : Str} {vs : Array Value} {t : Tok} (h : vs[1]? = some (.str q t)) (e : q = q') : vs[1]? = some (.str q' t) := e ▸ h
set_option maxHeartbeats 8000000 in
theorem apply_lists (w : World) {p : Program} {loose : List Str} {mean : ExcName → Option Value} {mg mb : Str → Option Value}
   {base : Heap} (X₀ : (hd.heap_39 w.params).In base) (T₀ : Top p loose mean mg mb base) (codeHd : CodeHd base 46 42)
   (dp un : Nat) (gd : Option (List Code)) (l : List Env) (hdp : dp + 12 < recursionLimit) (hu : un + 100 < cLine)
   {bk dk : List Int} {ls ld : Addr} {vs vd : List Value} {cb cd : List (List Int)} {nb nd : Nat} (hvb : BytesAre vs cb) (hvd : BytesAre vd cd) {n : List (Addr × Obj)} (hn : Tab n) (hbk : cb.flatten = bk) (hdk : cd.flatten = dk) (hb : bk.length ≤ 200000) (hd0 : dk.length ≤ 1800) :
   Spec PySem.Challenge.rw_jq0004_03.row.prog w (aTop dp un gd l) base l (.ref 47) [.ref ls, .ref ld] ((ls, listOf (List.toArray vs) nb) :: (ld, listOf (List.toArray vd) nd) :: n)
     (fun v n' => ∃ lo vs cs nn n1, v = .ref lo ∧ BytesAre vs cs ∧ readDelta bk dk = some cs.flatten ∧ n' = (lo, listOf (List.toArray vs) nn) :: n1 ∧ Tab n1)
     (.ref 32) (fun n' => Tab n' ∧ readDelta bk dk = none) := by
  obtain ⟨c1, oc1, c2, oc2, rfl, ⟨vs1, t1, k1, k2⟩, ⟨vs2, t2, k3, k4⟩, hc12, hc1, hc2⟩ := hn
  intro g s Q E B hg hsz N hret hexc
  have hfill : (fun _ : OpenLaw => hd.heap_39) PySem.Challenge.rw_jq0004_03 = hd.heap_39 := by (k_fill; rfl)
  clear hfill
  have X := X₀.keeps B.stays
  have T := T₀.keeps B.stays
  refine wpAny_call ?_
  k_dflt (refine' enter_defC hg hsz N X T ?k6 ?k7 ?k8 ?k9 ?kB ?kD ?_ ?c2 ?c3 ?c4; (case k6 => k_is); (case k7 => k_is); (case k8 => ktr_room); (case k9 => exact BindsTo.of_eq rfl); (case kB => exact rfl); (case kD => decide +kernel); (case c2 => exact rfl); (case c3 => exact rfl); (case c4 => exact rfl); k_whole; intro L' h' tk' cells' F' N' Y' l1; (try k_lt l1); k_cells Y'; (try simp only [List.cons_append, List.nil_append] at N'); (try dsimp only); (try k_fold))
  k_with_none
  k_with "execs cons" => k_fold
  k_with "eval Call" => k_fold
  k_with "storeName" => (k_here; k_dflt (first | (refine' storeI_L ?F ?N ?_ ?a ?b; (case F => k_asm); (case N => k_asm); (case a => rfl); (case b => rfl); k_whole; intro h' tk' t' F' N'; (try k_sweep); (try dsimp only); (try k_fold)) | (refine' storeB_L ?F ?N ?_ ?a ?b; (case F => k_asm); (case N => k_asm); (case a => rfl); (case b => rfl); k_whole; intro h' tk' t' F' N'; (try k_sweep); (try dsimp only); (try k_fold)) | (refine' storeG_L ?F ?N ?_ ?a ?b; (case F => k_asm); (case N => k_asm); (case a => rfl); (case b => rfl); k_whole; intro h' tk' F' N'; (try k_sweep); (try dsimp only); (try k_fold))))
  k_with "k_memx" => (first | k_mem | with_reducible (repeat' (first | exact List.Mem.head _ | refine List.Mem.tail _ ?_)))
  k_with "exec Raise some none" => k_extra "raise"
  k_with "exec While Constant cons nil" => k_extra "while"
  k_with "exec While Compare cons nil" => k_extra "while"
  k_with "KswEnd" => k_extra "turn"
  k_with "subscriptTail Name Slice bytes ref" => (k_here; (with_reducible show wpAny _ _ (subscriptTail _ (PySem.Expr.Slice (some _) (some _) none _) (Value.bytes _ _) (Value.ref _)) _ _ _); (with_reducible rename Fr _ _ _ _ => F'); (with_reducible rename News _ _ _ _ => N'); (refine slice_ij (s := ⟨_, _, _, _, _⟩) F' N' (by assumption) (by omega) (by omega) (by omega) ?_); intro _ _ _ _ _ _ hcut)
  k_with "call builtin:len" => (k_here; (with_reducible show wpAny _ _ (call (Value.builtin "len") [Value.bytes _ _]) _ _ _); (refine len_b (by assumption) (by omega) ?_); intro _ _)
  k_with "call builtin:ord" => (k_here; (with_reducible show wpAny _ _ (call (Value.builtin "ord") [Value.bytes _ _]) _ _ _); (refine ord_bytes (Eq.trans (by assumption) (cut_one' _ _ _ (by omega) (by omega) (by omega))) ?_); intro _ _ hlo hhi)
  k_with "loadName" => (k_here; k_dflt (refine' loadX_L ?F ?v ?_ ?hk ?hx; (case F => k_asm); (case v => rfl); (case hk => rfl); (case hx => rfl); k_whole))
  k_with "leaving ref" => (k_here; k_dflt (refine' leave_made ?B ?hx ?F ?N (fun _ h => h) ?hf ?hk ?_; (case hx => assumption); (case B => assumption); (case F => k_asm); (case N => k_asm); (case hf => exact rfl); (case hk => exact rfl)); intro h' fl'; (try dsimp only))
  k_with "leaving" => (k_here; k_dflt (refine' leave_on2 ?B ?F ?x ?hr ?hf ?_; (case x => assumption); (case hr => assumption); (case B => assumption); (case F => k_asm); (case hf => exact rfl)); intro h' fl'; (try dsimp only [List.cons_append, List.nil_append]))
  k_with "binaryOp LShift int int" => (k_here; (refine lshift_any (by omega) (by omega) (by k_extra "shift") ?_); intro _ _)
  k_with "call ref" => k_extra "call"
  k_with "formatField int" => (k_here; (with_reducible rename Fr _ _ _ _ => kF); (refine fmt_int rfl (Heap.NoDigits.keeps (Top.nodigits (by assumption)) (Fr.keep kF)) (by k_extra "digits") ?_); intro _ _ _ hfm)
  k_with "exec For Name Call cons nil" => k_extra "for"
  k_with "pyIter ref" => k_extra "iter"
  k_with "subscriptTail Name Slice bytes ref" => (k_here; (with_reducible show wpAny _ _ (subscriptTail _ (PySem.Expr.Slice (some _) none none _) (Value.bytes _ _) (Value.ref _)) _ _ _); (with_reducible rename Fr _ _ _ _ => F'); (with_reducible rename News _ _ _ _ => N'); (refine slice_i (s := ⟨_, _, _, _, _⟩) F' N' (by assumption) (by omega) (by omega) ?_); intro _ _ _ _ _ _ hcut)
  k_with "pyReprObj bytes" => (k_here; (have hsm := drop_small (by assumption) (by assumption)); (refine repr_b (by omega) ?_); intro _ _ _ hxl)
  k_with "call builtin:list.append" => (k_here; k_dflt (refine' append_K ?k1 ?k2 ?k3 ?_ ?z; (case k1 => k_asm); (case k2 => k_asm); (case k3 => k_upd); (case z => k_extra "append"); k_whole); intro h' F' N'; (try k_sweep))
  k_with "MainPost" => (dsimp only [MainPost])
  k_with "execs cons Assign cons" => k_extra "core"
  k_with "getMethod bytes" => k_extra "meth"
  k_with "call builtin:bytes.join" => k_extra "join"
  have hK := (by k_dflt k_is : List.lookup 47 (hd.heap_39 w.params) = some ⟨_, _, .func (fnOf _ _ _ _ _ _ _ _ _ _ _ _), _⟩)
  k_with "meth" => (k_here; refine method_join ?_)
  k_with "join" => (k_here; (with_reducible show wpAny _ _ (call _ [_, Value.ref ls]) _ _ _); (with_reducible rename News _ _ _ _ => kN); k_dflt (refine' join_K (vs := vs) (cs := cb) (s := ⟨_, _, _, _, _⟩) ?hl hvb ?hz ?_; (case hz => rw [hbk]; omega); (case hl => exact ⟨_, (kN (ls, listOf (List.toArray vs) nb) (by k_mem)).1, rfl, _, rfl⟩)); intro _ _ _ hj9; replace hj9 := Eq.trans hj9 hbk)
  k_with "join" => (k_here; (with_reducible show wpAny _ _ (call _ [_, Value.ref ld]) _ _ _); (with_reducible rename News _ _ _ _ => kN); k_dflt (refine' join_K (vs := vd) (cs := cd) (s := ⟨_, _, _, _, _⟩) ?hl hvd ?hz ?_; (case hz => rw [hdk]; omega); (case hl => exact ⟨_, (kN (ld, listOf (List.toArray vd) nd) (by k_mem)).1, rfl, _, rfl⟩)); intro _ _ _ hj9; replace hj9 := Eq.trans hj9 hdk)
  k_with "core" => ((with_reducible show wpAny _ _ (execs (Stmt.Assign [Expr.Tuple _ _ _] _ _ :: _) _) _ _ _); (rename Fr _ _ _ _ => kF); (rename News _ _ _ _ => kN); k_dflt ((refine' apply_core2 (Q := Q) (E := E) w hK X₀ T₀ codeHd dp un gd l hdp hu ?e1 ?e2 hb hd0 B ?F ?N ?hoi ?hod ?hap ?H1 ?H2 ?hret ?hexc ?hst ?henv ?hA ?hP ?hE); (case hst => exact rfl); (case henv => exact rfl); (case hA => exact rfl); (case hP => exact fun _ _ z => z); (case hE => exact fun _ _ z => z); (case F => refine fr_names kF ?_; (repeat' (first | exact List.forall_mem_nil _ | refine List.forall_mem_cons.mpr ⟨by exact rfl, ?_⟩)))); (case e1 => assumption); (case e2 => assumption); (case N => (k_dflt (exact news_sub kN (List.forall_mem_cons.mpr ⟨(List.Mem.tail _ (List.Mem.tail _ (List.Mem.tail _ (List.Mem.head _)))), List.forall_mem_cons.mpr ⟨(List.Mem.tail _ (List.Mem.tail _ (List.Mem.head _))), List.forall_mem_cons.mpr ⟨(List.Mem.tail _ (List.Mem.head _)), List.forall_mem_cons.mpr ⟨(List.Mem.tail _ (List.Mem.tail _ (List.Mem.tail _ (List.Mem.tail _ (List.Mem.tail _ (List.Mem.tail _ (List.Mem.tail _ (List.Mem.tail _ (List.Mem.head _))))))))), List.forall_mem_cons.mpr ⟨(List.Mem.head _), List.forall_mem_cons.mpr ⟨(List.Mem.tail _ (List.Mem.tail _ (List.Mem.tail _ (List.Mem.tail _ (List.Mem.tail _ (List.Mem.tail _ (List.Mem.tail _ (List.Mem.tail _ (List.Mem.tail _ (List.Mem.head _)))))))))), List.forall_mem_cons.mpr ⟨(List.Mem.tail _ (List.Mem.tail _ (List.Mem.tail _ (List.Mem.tail _ (List.Mem.head _))))), List.forall_mem_cons.mpr ⟨(List.Mem.tail _ (List.Mem.tail _ (List.Mem.tail _ (List.Mem.tail _ (List.Mem.tail _ (List.Mem.tail _ (List.Mem.tail _ (List.Mem.head _)))))))), List.forall_mem_nil _⟩⟩⟩⟩⟩⟩⟩⟩)))); (case hoi => assumption); (case hod => assumption); (case hap => exact apart_lists (Nat.lt_succ_of_lt (by first | assumption | exact And.left (by assumption) | omega)) (Nat.lt_succ_self _) (by first | assumption | exact And.left (by assumption) | omega) (by first | assumption | exact And.left (by assumption) | omega) (by first | assumption | exact And.left (by assumption) | omega) (Nat.lt_succ_of_lt (by first | assumption | exact And.left (by assumption) | omega)) (Nat.lt_succ_of_lt (by first | assumption | exact And.left (by assumption) | omega)) (by first | assumption | omega) (by first | assumption | omega) (by first | assumption | omega)); (case H1 => (k_dflt (intro i ti h0 h1; exact hdr_spec w hK rfl X₀ T₀ codeHd (dp + 1) (un + 3) gd _ (by omega) (by omega) k1 (name_of k2 (by kernel_rfl)) (by assumption) hd0 (by assumption) _ ti h0 h1))); (case H2 => (k_dflt (intro i ti oi hoi h0; exact byte_spec w hK rfl X₀ T₀ codeHd (dp + 1) (un + 3) gd _ (by omega) (by omega) k3 (name_of k4 (by kernel_rfl)) (by assumption) hd0 (by assumption) hoi _ h0 (show @Ne Nat _ _ by omega) (show @Ne Nat _ _ by omega) (show @Ne Nat _ _ by omega)))); (case hexc => (rintro e h' tk n' ⟨rfl, hn⟩ fl; exact hexc _ _ _ _ ⟨⟨_, _, _, _, rfl, ⟨_, _, k1, k2⟩, ⟨_, _, k3, k4⟩, hc12, hc1, hc2⟩, hn⟩ fl)); (case hret => (rintro v h' tk n' ⟨lo, vs, cs, nn, rfl, hb, hr, rfl⟩ hs hl; exact hret _ _ _ _ ⟨lo, vs, cs, nn, _, rfl, hb, hr, rfl, ⟨_, _, _, _, rfl, ⟨_, _, k1, k2⟩, ⟨_, _, k3, k4⟩, hc12, hc1, hc2⟩⟩ hs hl)))
  k_steps
end Mine
open PySem PySem.W PyProof.Rows PySem.Calls PySem.Spec
namespace Mine
set_option maxRecDepth 100000
section
variable {prog : Program} {w : World} {A₀ : Around} {base h₀ : Heap} {outer : List Env} {env : Env} {f : Value} {args : List Value} {n : List (Addr × Obj)} {ret : Value → List (Addr × Obj) → Prop}
    {s : Shared} {L : Addr} {m : Str → Option Value} {news : List (Addr × Obj)} {Q E : Value → Shared → Prop}
end
end Mine
open PySem PySem.W PyProof.Rows PySem.Calls PySem.Spec
namespace Mine
set_option maxRecDepth 100000
set_option maxHeartbeats 8000000 in
/-- `apply_delta` hands on -/
theorem pass_on (w : World) {p : Program} {loose : List Str} {mean : ExcName → Option Value} {mg mb : Str → Option Value}
   {base : Heap} (X₀ : (hd.heap_39 w.params).In base) (T₀ : Top p loose mean mg mb base)
   (dp un : Nat) (gd : Option (List Code)) (l : List Env) (hdp : dp + 5 < recursionLimit)
   {va vb : Value} {n : List (Addr × Obj)} {ret : Value → List (Addr × Obj) → Prop} {exc : List (Addr × Obj) → Prop}
   (H : ∀ env : Env, Spec PySem.Challenge.rw_jq0004_03.row.prog w (aTop (dp + 1) (un + 3) gd (env :: l)) base (env :: l) (.ref 47) [va, vb] n ret (.ref 32) exc) :
   Spec PySem.Challenge.rw_jq0004_03.row.prog w (aTop dp un gd l) base l (.ref 54) [va, vb] n ret (.ref 32) exc := by
  have hfill : (fun _ : OpenLaw => hd.heap_39) PySem.Challenge.rw_jq0004_03 = hd.heap_39 := by (k_fill; rfl)
  clear hfill
  intro g s Q E B hg hsz N hret hexc
  have X := X₀.keeps B.stays
  have T := T₀.keeps B.stays
  refine wpAny_call ?_
  k_dflt (refine' enter_def hg hsz N X T ?k6 ?k7 ?k8 ?k9 ?kB ?_ ?c2 ?c3 ?c4 ?c5; (case k6 => k_is); (case k7 => k_is); (case k8 => ktr_room); (case k9 => exact BindsTo.of_eq rfl); (case c5 => decide); (case kB => exact locs rfl); (case c2 => exact rfl); (case c3 => exact rfl); (case c4 => exact rfl); k_whole; intro L' h' F' N' l1; (try k_lt l1); (try dsimp only); (try k_fold))
  k_with_none
  k_with "execs cons" => k_fold
  k_with "eval Call" => k_fold
  k_with "storeName" => (k_here; k_dflt (first | (refine' storeI_L ?F ?N ?_ ?a ?b; (case F => k_asm); (case N => k_asm); (case a => rfl); (case b => rfl); k_whole; intro h' tk' t' F' N'; (try k_sweep); (try dsimp only); (try k_fold)) | (refine' storeB_L ?F ?N ?_ ?a ?b; (case F => k_asm); (case N => k_asm); (case a => rfl); (case b => rfl); k_whole; intro h' tk' t' F' N'; (try k_sweep); (try dsimp only); (try k_fold)) | (refine' storeG_L ?F ?N ?_ ?a ?b; (case F => k_asm); (case N => k_asm); (case a => rfl); (case b => rfl); k_whole; intro h' tk' F' N'; (try k_sweep); (try dsimp only); (try k_fold))))
  k_with "leaving" => (k_here; k_dflt (refine' leave_on ?B ?F ?x (fun _ h => h) ?hf ?_; (case x => assumption); (case B => assumption); (case F => k_asm); (case hf => exact rfl)); intro h' fl'; (try dsimp only))
  k_with "call ref" => ((with_reducible show wpAny _ _ (call _ [_, _]) _ _ _); (rename Fr _ _ _ _ => kF); (rename News _ _ _ _ => kN); k_dflt (refine' Spec.use (A₀ := aTop dp un gd l) (H _) B kF kN [] (fun _ h => h) (fun _ h => nomatch h) (fun _ h => nomatch h) rfl rfl ?_ ?_); (rotate_left); ((intro e9 h9 tk9 n9 g9 hx9 F9 hr9 fl9; (try k_fold))); (rotate_left); ((intro v9 h9 tk9 n9 hr9 F9 N9 ap9; rw [List.append_nil] at N9; (try k_fold))))
  k_steps
  all_goals (try exact hexc _ _ _ _ (by assumption) (by assumption))
  all_goals (try exact hret _ _ _ _ (by assumption) (Fr.keep (by assumption)) (Led.of_news (by assumption)))
end Mine
open PySem PySem.W PyProof.Rows PySem.Calls PySem.Spec
namespace Mine
set_option maxRecDepth 100000
section
variable {prog : Program} {w : World} {A : Around} {E : Value → Shared → Prop} {Q : Flow → Shared → Prop} {s : Shared} {env : Env} {h₀ : Heap} {L : Addr}
abbrev OctS := Int × Tok × List Value × List Int × Nat
abbrev octLed (lo : Addr) (c : OctS) : List (Addr × Obj) := [(lo, listOf c.2.2.1.toArray c.2.2.2.2)]
abbrev octPs (nm : Str) (c : OctS) : List (Str × Value) := [(nm, .int c.1 c.2.1)]
abbrev octFacts (c : OctS) : Prop := IntsAre c.2.2.1 c.2.2.2.1
def octInv (size : Int) (ns : List Int) : Prop := ∃ k, 1 ≤ k ∧ ns.length + k ≤ 5 ∧ 0 ≤ size ∧ size < 128 ^ k ∧ Oct ns
theorem octInv_start {n : Int} (h0 : 0 ≤ n) (h1 : n < 268435456) : octInv n [] := ⟨4, by decide, by decide, h0, by exact h1, fun _ h => nomatch h⟩
theorem octInv_next {size : Int} {ns : List Int} (h : octInv size ns) (hl : 127 < size) : octInv (size / 128) (ns ++ [128 + size % 128]) := by
  obtain ⟨k, h1, h2, h3, h4, h5⟩ := h
  match k, h1 with
  | 1, _ => exact absurd h4 (by show ¬ size < 128; omega)
  | k + 2, _ =>
    have p1 : (128 : Int) ^ (k + 2) = 128 ^ (k + 1) * 128 := Int.pow_succ ..
    rw [p1] at h4
    refine ⟨k + 1, by omega, by rw [List.length_append, List.length_singleton]; omega, by omega, by omega, fun x hx => ?_⟩
    rcases List.mem_append.mp hx with hx | hx
    · exact h5 x hx
    · rw [List.mem_singleton.mp hx]; omega
theorem oct_loop {test : Expr} {body : List Stmt} {pos : Pos} {m₀ : Str → Option Value} {news : List (Addr × Obj)} (nm : Str) {lo : Addr} {n0 : Int} {t1 : Tok} {nn : Nat} (F : Fr h₀ L s.heap m₀) (N : News h₀ L s.heap news) (hlo : (lo, listOf #[] nn) ∈ news)
    (h1 : m₀ nm = some (.int n0 t1)) (hi : octInv n0 [])
    (turn : ∀ size tok vs ns nn (u : Str → Option Value) h tk, IntsAre vs ns → octInv size ns →
      Fr h₀ L h (kstB (fun z => if [nm].contains z then u z else m₀ z) [(nm, .int size tok)]) → News h₀ L h [(lo, listOf (List.toArray vs) nn)] →
      wpAny (model prog w) A (isTrue test env (eval test env)) (fun b s₂ =>
        if b = true then wpAny (model prog w) A (execs body env) (KswPost h₀ L s (octLed lo) (octPs nm) octFacts [nm] m₀ (fun c => octInv c.1 c.2.2.2.1) (fun c => c.1.toNat) Q (size, tok, vs, ns, nn)) E s₂ else Q .next s₂) E { s with heap := h, toks := tk })
    (hE : PassesOwn (model prog w) A env E) :
    wpAny (model prog w) A (exec (.While test body [] pos) env) Q E s := by
  refine ksw_while (octLed lo) (octPs nm) octFacts [nm] (fun c => octInv c.1 c.2.2.2.1) (fun c => c.1.toNat) (n0, t1, [], [], nn) F (fun q hq => ?_) .nil ?_ hi ?_ hE
  · rw [List.mem_singleton.mp hq]; exact N _ hlo
  · intro p hp; rw [List.mem_singleton.mp hp]; exact h1
  · rintro ⟨size, tok, vs, ns, nn⟩ u h tk hf hp F' N'
    exact turn size tok vs ns nn u h tk hf hp F' N'
theorem oct_end {nm : Str} {size size' : Int} {tok t1 t : Tok} {vs : List Value} {ns : List Int} {nn nn' : Nat} {x : Int} {m₀ m' : Str → Option Value} {news : List (Addr × Obj)} {h' : Heap} {tk : Nat} {lo : Addr} (F : Fr h₀ L h' m') (N : News h₀ L h' news)
    (hm : (lo, listOf ((List.toArray vs).push (.int x t)) nn') ∈ news) (h1 : m' nm = some (.int size' t1)) (hr : ∀ z, z ≠ nm → m' z = m₀ z) (hv : IntsAre vs ns) (hp : octInv size' (ns ++ [x])) (h0 : 0 ≤ size') (hlt : size' < size) :
    KswEnd h₀ L s (octLed lo) (octPs nm) octFacts [nm] m₀ (fun c => octInv c.1 c.2.2.2.1) (fun c => c.1.toNat) (size, tok, vs, ns, nn) { s with heap := h', toks := tk } := by
  have e : (List.toArray vs).push (.int x t) = List.toArray (vs ++ [.int x t]) := by simp
  rw [e] at hm
  refine ksw_end (size', t1, vs ++ [.int x t], ns ++ [x], nn') F N (fun q hq => ?_) (hv.append (.cons _ _ .nil)) ?_ (fun z _ h2 => ?_) hp ?_
  · rw [List.mem_singleton.mp hq]; exact hm
  · intro p hp; rw [List.mem_singleton.mp hp]; exact h1
  · simp only [List.contains_cons, List.contains_nil, Bool.or_false, beq_eq_false_iff_ne, ne_eq] at h2
    exact hr z h2
  · show size'.toNat < size.toNat
    omega
end
theorem oct_one {ns : List Int} {x : Int} (h : Oct ns) (h0 : 0 ≤ x) (h1 : x < 256) : Oct (ns ++ [x]) := fun y hy => by
  rcases List.mem_append.mp hy with hy | hy
  · exact h y hy
  · rw [List.mem_singleton.mp hy]; exact ⟨h0, h1⟩
theorem bytes_len {ns : List Int} (h : KBa.In ns) : (KBw.bInts (byteArr ns)).length = ns.length := by rw [KBa.ints_make h]
theorem octInv_nextF {size : Int} {ns : List Int} (h : octInv size ns) (hl : 127 < size) : octInv (size.fdiv 128) (ns ++ [128 + size.fmod 128]) := by
  rw [Int.fdiv_eq_ediv_of_nonneg _ (by decide), Int.fmod_eq_emod_of_nonneg _ (by decide)]
  exact octInv_next h hl
theorem fdiv_lt {size : Int} (hl : 127 < size) : 0 ≤ size.fdiv 128 ∧ size.fdiv 128 < size := by
  rw [Int.fdiv_eq_ediv_of_nonneg _ (by decide)]; omega
end Mine
open PySem PySem.W PyProof.Rows PySem.Calls PySem.Spec
namespace Mine
set_option maxRecDepth 100000
section
variable {prog : Program} {w : World} {A : Around} {E : Value → Shared → Prop} {Q : Flow → Shared → Prop} {s : Shared} {env : Env} {h₀ : Heap} {L : Addr} {body : List Stmt}
abbrev LstS := List Value × List Int × Nat
abbrev lstLed (lo : Addr) (c : LstS) : List (Addr × Obj) := [(lo, listOf c.1.toArray c.2.2)]
def LstPost (h₀ : Heap) (L : Addr) (lo : Addr) (stored : List Str) (m₀ : Str → Option Value) (P : List Int → Prop) (own : List (Addr × Obj)) (s : Shared) (Q : Flow → Shared → Prop) (f : Flow) (s₂ : Shared) : Prop :=
  match f with
  | .ret v => Q (.ret v) s₂
  | .brk => Q .next s₂
  | _ => ∃ h' tk m' news' vs ns nn, s₂ = { s with heap := h', toks := tk } ∧ Fr h₀ L h' m' ∧ News h₀ L h' news' ∧ (lo, listOf (List.toArray vs) nn) ∈ news' ∧ (∀ q ∈ own, q ∈ news') ∧ IntsAre vs ns ∧ (∀ z : Str, stored.contains z = false → m' z = m₀ z) ∧ P ns
/-- a loop over range(n) that stores into one list of ints -/
theorem for_lst {x : Str} {n : Nat} {r : Addr} {t₀ u₀ v₀ : Tok} {m₀ : Str → Option Value} {news : List (Addr × Obj)} (stored : List Str) (P : Nat → List Int → Prop) {lo : Addr} {vs0 : List Value} {ns0 : List Int} {nn0 : Nat}
    (hx : stored.contains x = true) (hh : A.handled = none) {nI : Int} (hr : IsRange s.heap r 0 nI 1 t₀ u₀ v₀) (hnI : nI = (n : Int)) (hn : n ≤ 10) (F : Fr h₀ env.locals s.heap m₀) (N : News h₀ env.locals s.heap news) (hlo : (lo, listOf (List.toArray vs0) nn0) ∈ news) (hv0 : IntsAre vs0 ns0) (hp : P 0 ns0)
    (turn : ∀ (j : Nat) vs ns nn t (u : Str → Option Value) h tk own, j < n → OwnOff own [lo] → IntsAre vs ns → P j ns →
      Fr h₀ env.locals h (fun y => if y = x then some (.int (j : Int) t) else kstB (fun z => if stored.contains z then u z else m₀ z) [] y) → News h₀ env.locals h ((lo, listOf (List.toArray vs) nn) :: own) →
      wpAny (model prog w) A (execs body env) (LstPost h₀ env.locals lo stored m₀ (P (j + 1)) own { s with heap := h, toks := tk } Q) E { s with heap := h, toks := tk })
    (done : ∀ vs ns nn (u : Str → Option Value) h tk, IntsAre vs ns → P n ns →
      Fr h₀ env.locals h (fun y => if y = x then u y else kstB (fun z => if stored.contains z then u z else m₀ z) [] y) → News h₀ env.locals h [(lo, listOf (List.toArray vs) nn)] → Q .next { s with heap := h, toks := tk }) :
    wpAny (model prog w) A (pyIter (.ref r)) (fun it s₂ => LoopAtV prog w A h₀ env x body Q E it s₂) E s := by
  subst hnI
  have N1 : News h₀ env.locals s.heap (lstLed lo (vs0, ns0, nn0)) := fun q hq => by rw [List.mem_singleton.mp hq]; exact N _ hlo
  refine kst_range (x := x) (n := n) (lstLed lo) (fun _ => []) (fun c => IntsAre c.1 c.2.1) stored (fun pre c => P pre.length c.2.1) (vs0, ns0, nn0) hh hr ?_ ?_ F N1 hv0 (fun p hp => nomatch hp) hp ?_ ?_
  · have : ∀ k : Fin 11, Builtin.Range.small 0 ((k.val : Nat) : Int) 1 = true := by decide +kernel
    exact this ⟨n, by omega⟩
  · have : ∀ k : Fin 11, Builtin.Range.rangeSize 0 ((k.val : Nat) : Int) 1 = ((k.val : Nat) : Int) := by decide +kernel
    exact this ⟨n, by omega⟩
  · rintro ⟨vs, ns, nn⟩ pre k t u h tk own hk hlt hoff hf hp F' N'
    have hk' : k = (pre.length : Int) := by omega
    subst hk'
    refine wpAny_mono (turn pre.length vs ns nn t u h tk own hlt (by simpa using hoff) hf hp F' N') (fun f s₂ z => ?_) fun _ _ z => z
    have up : LstPost h₀ env.locals lo stored m₀ (P (pre.length + 1)) own { s with heap := h, toks := tk } Q .next s₂ → InvEndN h₀ env.locals (KstS (lstLed lo) (fun _ => []) (fun c => IntsAre c.1 c.2.1) x stored m₀ (fun pre c => P pre.length c.2.1) (pre ++ [(pre.length : Int)])) own ((lstLed lo (vs0, ns0, nn0)).map (·.1)) { s with heap := h, toks := tk } s₂ := by
      rintro ⟨h', tk', m', news', vs', ns', nn', rfl, F2, N2, a1, a2, a3, a5, a6⟩
      exact kst_end (vs', ns', nn') F2 N2 (fun q hq => by rw [List.mem_singleton.mp hq]; exact a1) a2 rfl a3 (fun p hp => nomatch hp) (fun z _ _ hs => a5 z hs) (by simpa using a6)
    cases f with
    | ret v => exact z
    | brk => exact z
    | next => exact up z
    | cont => exact up z
  · rintro ⟨vs, ns, nn⟩ u h tk hf hp F' N'
    exact done vs ns nn u h tk hf (by simpa [rangeKs_length] using hp) F' N'
theorem lst_ends {h' : Heap} {m₀ m' : Str → Option Value} {lo : Addr} {stored : List Str} {own news' : List (Addr × Obj)} {vs : List Value} {ns : List Int} {nn tk : Nat} {P : List Int → Prop} (F2 : Fr h₀ L h' m') (N2 : News h₀ L h' news') (a1 : (lo, listOf (List.toArray vs) nn) ∈ news') (a2 : ∀ q ∈ own, q ∈ news') (hv : IntsAre vs ns)
    (a5 : ∀ z : Str, stored.contains z = false → m' z = m₀ z) (a6 : P ns) :
    LstPost h₀ L lo stored m₀ P own s Q .next { s with heap := h', toks := tk } :=
  ⟨_, _, _, _, _, _, _, rfl, F2, N2, a1, a2, hv, a5, a6⟩
end
end Mine
open PySem PySem.W PyProof.Rows PySem.Calls PySem.Spec
namespace Mine
set_option maxRecDepth 100000
section
variable {prog : Program} {w : World} {A : Around} {E : Value → Shared → Prop} {Q : Flow → Shared → Prop} {s : Shared} {env : Env} {h₀ : Heap} {L : Addr} {body : List Stmt}
abbrev StpS := List Value × List Int × Nat × Int × Tok × Obj
abbrev stpLed (lo cr : Addr) (rest : List (Addr × Obj)) (c : StpS) : List (Addr × Obj) := (lo, listOf c.1.toArray c.2.2.1) :: (cr, c.2.2.2.2.2) :: rest
abbrev stpPs (c : StpS) : List (Str × Value) := [(Str.ofString "total", .int c.2.2.2.1 c.2.2.2.2.1)]
abbrev stpFacts (c : StpS) : Prop := IntsAre c.1 c.2.1 ∧ ∃ v, c.2.2.2.2.2.data = .cell v
abbrev stpStored : List Str := [Str.ofString "total", Str.ofString "number", Str.ofString "kind", Str.ofString "place", Str.ofString "length"]
def stpInv (k : Nat) (os : List Int) (total : Int) : Prop := Oct os ∧ os.length ≤ 128 * k ∧ 0 ≤ total ∧ total ≤ 601 * (k : Int)
def StpPost (h₀ : Heap) (L : Addr) (lo cr : Addr) (rest : List (Addr × Obj)) (m₀ : Str → Option Value) (k : Nat) (own : List (Addr × Obj)) (s : Shared) (Q : Flow → Shared → Prop) (f : Flow) (s₂ : Shared) : Prop :=
  match f with
  | .ret v => Q (.ret v) s₂
  | .brk => Q .next s₂
  | _ => ∃ h' tk m' news' vs os nn total tt oc v, s₂ = { s with heap := h', toks := tk } ∧ Fr h₀ L h' m' ∧ News h₀ L h' news' ∧ (lo, listOf (List.toArray vs) nn) ∈ news' ∧ (cr, oc) ∈ news' ∧ oc.data = .cell v ∧ (∀ q ∈ rest, q ∈ news') ∧ (∀ q ∈ own, q ∈ news') ∧ IntsAre vs os ∧ m' (Str.ofString "total") = some (.int total tt) ∧
     (∀ z : Str, z ≠ Str.ofString "total" → z ≠ Str.ofString "number" → z ≠ Str.ofString "kind" → z ≠ Str.ofString "place" → z ≠ Str.ofString "length" → m' z = m₀ z) ∧ stpInv k os total
theorem for_stp {l lo cr : Addr} {vs : List Value} {ns : List Int} {nn n0 : Nat} {o0 : Obj} {v0 : Option Value} {m₀ : Str → Option Value} {news : List (Addr × Obj)} (rest : List (Addr × Obj)) {t2 : Tok}
    (hh : A.handled = none) (hi : IntsAre vs ns) (F : Fr h₀ env.locals s.heap m₀) (N : News h₀ env.locals s.heap news) (hl : (l, listOf vs.toArray nn) ∈ rest) (hrest : ∀ q ∈ rest, q ∈ news) (hlo : (lo, listOf #[] n0) ∈ news) (hcr : (cr, o0) ∈ news) (ho : o0.data = .cell v0)
    (h2 : m₀ (Str.ofString "total") = some (.int 0 t2))
    (turn : ∀ (k : Nat) (n : Int) ws os nw total tt oc v t (u : Str → Option Value) h tk own, k < ns.length → n ∈ ns → OwnOff own (lo :: cr :: rest.map (·.1)) → IntsAre ws os → oc.data = .cell v → stpInv k os total →
      Fr h₀ env.locals h (fun y => if y = "number" then some (.int n t) else kstB (fun z => if stpStored.contains z then u z else m₀ z) [(Str.ofString "total", .int total tt)] y) → News h₀ env.locals h ((lo, listOf (List.toArray ws) nw) :: (cr, oc) :: (rest ++ own)) →
      wpAny (model prog w) A (execs body env) (StpPost h₀ env.locals lo cr rest m₀ (k + 1) own { s with heap := h, toks := tk } Q) E { s with heap := h, toks := tk })
    (done : ∀ ws os nw total tt oc (u : Str → Option Value) h tk, IntsAre ws os → stpInv ns.length os total →
      Fr h₀ env.locals h (fun y => if y = "number" then u y else kstB (fun z => if stpStored.contains z then u z else m₀ z) [(Str.ofString "total", .int total tt)] y) → News h₀ env.locals h ((lo, listOf (List.toArray ws) nw) :: (cr, oc) :: rest) → Q .next { s with heap := h, toks := tk }) :
    wpAny (model prog w) A (pyIter (.ref l)) (fun it s₂ => LoopAtV prog w A h₀ env "number" body Q E it s₂) E s := by
  have N1 : News h₀ env.locals s.heap (stpLed lo cr rest ([], [], n0, 0, t2, o0)) := fun q hq => by
    rcases List.mem_cons.mp hq with rfl | hq
    · exact N _ hlo
    rcases List.mem_cons.mp hq with rfl | hq
    · exact N _ hcr
    · exact N _ (hrest q hq)
  refine kst_listL (x := "number") (stpLed lo cr rest) stpPs stpFacts stpStored (fun pre c => stpInv pre.length c.2.1 c.2.2.2.1) ([], [], n0, 0, t2, o0) hh (fun _ => List.Mem.tail _ (List.Mem.tail _ hl)) hi F N1 ⟨.nil, v0, ho⟩ ?_ ⟨(fun _ h => nomatch h), Nat.zero_le _, Int.le_refl _, Int.le_refl _⟩ ?_ ?_
  · intro p hp
    rw [List.mem_singleton.mp hp]; exact h2
  · rintro ⟨ws, os, nw, total, tt, oc⟩ pre post n t u h tk own hns hmem hoff ⟨hf, v, hv⟩ hp F' N'
    have hlt : pre.length < ns.length := by rw [hns]; simp
    refine wpAny_mono (turn pre.length n ws os nw total tt oc v t u h tk own hlt hmem (by simpa using hoff) hf hv hp F' N') (fun f s₂ z => ?_) fun _ _ z => z
    have up : StpPost h₀ env.locals lo cr rest m₀ (pre.length + 1) own { s with heap := h, toks := tk } Q .next s₂ → InvEndN h₀ env.locals (KstS (stpLed lo cr rest) stpPs stpFacts "number" stpStored m₀ (fun pre c => stpInv pre.length c.2.1 c.2.2.2.1) (pre ++ [n])) own ((stpLed lo cr rest ([], [], n0, 0, t2, o0)).map (·.1)) { s with heap := h, toks := tk } s₂ := by
      rintro ⟨h', tk', m', news', ws', os', nw', total', tt', oc', v', rfl, F2, N2, a1, a2, a3, a4, a5, a6, a7, a8, a9⟩
      refine kst_end (ws', os', nw', total', tt', oc') F2 N2 (fun q hq => ?_) a5 rfl ⟨a6, v', a3⟩ ?_ (fun z _ _ hs => ?_) (by simpa using a9)
      · rcases List.mem_cons.mp hq with rfl | hq
        · exact a1
        rcases List.mem_cons.mp hq with rfl | hq
        · exact a2
        · exact a4 q hq
      · intro p hp
        rw [List.mem_singleton.mp hp]; exact a7
      · simp only [stpStored, List.contains_cons, List.contains_nil, Bool.or_false, Bool.or_eq_false_iff, beq_eq_false_iff_ne, ne_eq] at hs
        exact a8 z hs.1 hs.2.1 hs.2.2.1 hs.2.2.2.1 hs.2.2.2.2
    cases f with
    | ret v => exact z
    | brk => exact z
    | next => exact up z
    | cont => exact up z
  · rintro ⟨ws, os, nw, total, tt, oc⟩ u h tk ⟨hf, _⟩ hp F' N'
    exact done ws os nw total tt oc u h tk hf hp F' N'
theorem stp_ends {h' : Heap} {m₀ m' : Str → Option Value} {rest own news' : List (Addr × Obj)} {lo cr : Addr} {vs : List Value} {os : List Int} {nn : Nat} {tt : Tok} {oc : Obj} {v : Option Value} {total : Int} {k tk : Nat} (F2 : Fr h₀ L h' m') (N2 : News h₀ L h' news') (a1 : (lo, listOf (List.toArray vs) nn) ∈ news') (a2 : (cr, oc) ∈ news') (a3 : oc.data = .cell v) (a4 : ∀ q ∈ rest, q ∈ news') (a5 : ∀ q ∈ own, q ∈ news') (a6 : IntsAre vs os) (a7 : m' (Str.ofString "total") = some (.int total tt))
    (a8 : ∀ z : Str, z ≠ Str.ofString "total" → z ≠ Str.ofString "number" → z ≠ Str.ofString "kind" → z ≠ Str.ofString "place" → z ≠ Str.ofString "length" → m' z = m₀ z) (a9 : stpInv k os total) :
    StpPost h₀ L lo cr rest m₀ k own s Q .next { s with heap := h', toks := tk } :=
  ⟨_, _, _, _, _, _, _, _, _, _, _, rfl, F2, N2, a1, a2, a3, a4, a5, a6, a7, a8, a9⟩
theorem oct_app {a b : List Int} (h1 : Oct a) (h2 : Oct b) : Oct (a ++ b) := fun y hy => by
  rcases List.mem_append.mp hy with hy | hy
  · exact h1 y hy
  · exact h2 y hy
theorem stpInv_same {k : Nat} {os : List Int} {total : Int} (h : stpInv k os total) : stpInv (k + 1) os total := by
  obtain ⟨h1, h2, h3, h4⟩ := h
  exact ⟨h1, by omega, h3, by omega⟩
theorem stpInv_add {k : Nat} {os ms : List Int} {total len : Int} (h : stpInv k os total) (ho : Oct ms) (hm : ms.length ≤ 128) (h0 : 0 ≤ len) (h1 : len ≤ 601) : stpInv (k + 1) (os ++ ms) (total + len) := by
  obtain ⟨a1, a2, a3, a4⟩ := h
  exact ⟨oct_app a1 ho, by rw [List.length_append]; omega, by omega, by omega⟩
theorem stpInv_zero {k : Nat} {os : List Int} {total : Int} (h : stpInv k os total) : stpInv (k + 1) (os ++ [0]) total := by
  have := stpInv_add h (ms := [0]) (len := 0) (fun y hy => by rw [List.mem_singleton.mp hy]; decide) (by decide) (by decide) (by decide)
  simpa using this
theorem oct_map {g : Int → Int} (hg : ∀ k, 0 ≤ g k ∧ g k < 256) (ks : List Int) : Oct (ks.map g) := fun y hy => by
  obtain ⟨k, _, rfl⟩ := List.mem_map.mp hy
  exact hg k
theorem stpInv_ins {k : Nat} {os ks : List Int} {total len : Int} {g : Int → Int} (h : stpInv k os total) (h0 : 1 ≤ len) (h1 : len ≤ 127) (hk : (ks.length : Int) = len) (hg : ∀ k, 0 ≤ g k ∧ g k < 256) : stpInv (k + 1) ((os ++ [len]) ++ ks.map g) (total + len) := by
  rw [List.append_assoc]
  refine stpInv_add h (oct_app (fun y hy => ?_) (oct_map hg ks)) ?_ (by omega) (by omega)
  · rw [List.mem_singleton.mp hy]; omega
  · rw [List.length_append, List.length_map, List.length_singleton]; omega
end
section
variable {prog : Program} {w : World} {A : Around} {E : Value → Shared → Prop} {s : Shared} {h₀ : Heap} {L D b : Addr} {m : Str → Option Value} {news news' : List (Addr × Obj)} {vs ws : List Value} {os ms : List Int} {n n2 : Nat}
theorem extend_ints {Q : Value → Shared → Prop} (F : Fr h₀ L s.heap m) (N : News h₀ L s.heap news) (hb : (b, listOf ws.toArray n2) ∈ news) (U : Upd D (listOf vs.toArray n) (listOf (vs ++ ws).toArray (n + 1)) news news') (hi : IntsAre vs os) (hj : IntsAre ws ms) (hne : 1 ≤ ms.length) (hz : os.length + ms.length ≤ 1000000)
    (h : ∀ h', Fr h₀ L h' m → News h₀ L h' news' → IntsAre (vs ++ ws) (os ++ ms) → Q .none { s with heap := h' }) : wpAny (model prog w) A (call (.builtin "list.extend") [.ref D, .ref b]) Q E s := by
  have l1 := hi.length
  have l2 := hj.length
  refine kl_extend F N hb (by simp) (by simp; intro e; subst e; simp at l2; omega) U ?_ (by simp; rw [sizeLine_eq]; omega) (by simp; rw [sizeLine_eq]; omega) fun h' F' N' => h h' F' N' (hi.append hj)
  simp only [List.size_toArray]
  intro e
  have : Builtin.List.listTooLong (vs.length + ws.length) = false := by
    unfold Builtin.List.listTooLong
    simp
    rw [sizeLine_eq]
    omega
  rw [this, Bool.and_false] at e
  cases e
end
end Mine
open PySem PySem.W PyProof.Rows PySem.Calls PySem.Spec
namespace Mine
set_option maxRecDepth 100000
/-- between the turns of a reading of a length, place by place -/
def rszInv (ks : List Int) (k : Nat) (number : Int) : Prop := hdrInv ks 0 (k : Int) number (7 * (k : Int)) ∧ k ≤ ks.length
theorem pow128 (k : Nat) : (128 : Int) ^ k = 2 ^ (7 * k) := by rw [Int.pow_mul]; rfl
theorem rszInv_start (ks : List Int) : rszInv ks 0 0 := ⟨hdrInv_start ks 0 (by omega), Nat.zero_le _⟩
theorem rsz_val {ks : List Int} {k : Nat} {number : Int} (h : rszInv ks k number) (hlo : 0 ≤ ks.getD k 0) (hhi : ks.getD k 0 < 256) :
    number + (ks.getD k 0).fmod 128 * 128 ^ k = Builtin.bitOr number (Builtin.bitAnd (ks.getD ((k : Nat) : Int).toNat 0) (Builtin.bitNot 128) * 2 ^ (7 * (k : Int)).toNat) := by
  obtain ⟨⟨j, e1, e2, hs0, hs1, _, e⟩, _⟩ := h
  have ej : j = k := by omega
  subst ej
  have hk : ((j : Nat) : Int).toNat = j := Int.toNat_natCast j
  have hsh : (7 * (j : Int)).toNat = 7 * j := by omega
  rw [hk, oct_low hlo hhi, hsh, or_above hs0 hs1 (by omega), pow128, Int.fmod_eq_emod_of_nonneg _ (by decide)]
theorem rsz_next {ks : List Int} {k : Nat} {number : Int} (h : rszInv ks k number) (hl : k < ks.length) (hlo : 0 ≤ ks.getD k 0) (hhi : ks.getD k 0 < 256) (hb : ¬ ks.getD k 0 < 128) : rszInv ks (k + 1) (number + (ks.getD k 0).fmod 128 * 128 ^ k) := by
  rw [rsz_val h hlo hhi]
  have hk : ((k : Nat) : Int).toNat = k := Int.toNat_natCast k
  have q := hdr_next h.1 (by omega) (by omega) (by rw [hk]; exact hlo) (by rw [hk]; exact hhi) (by rw [hk, oct_high hlo hhi, if_neg hb]; decide)
  refine ⟨?_, hl⟩
  have e1 : ((k + 1 : Nat) : Int) = (k : Int) + 1 := by push_cast; rfl
  have e2 : 7 * ((k + 1 : Nat) : Int) = 7 * (k : Int) + 7 := by push_cast; omega
  rw [e1, show 7 * ((k : Int) + 1) = 7 * (k : Int) + 7 by omega]
  exact q
theorem rsz_done {ks : List Int} {k : Nat} {number : Int} (h : rszInv ks k number) (hl : k < ks.length) (hlo : 0 ≤ ks.getD k 0) (hhi : ks.getD k 0 < 256) (hb : ks.getD k 0 < 128) : sizeL ks = some (number + (ks.getD k 0).fmod 128 * 128 ^ k, k + 1) := by
  rw [rsz_val h hlo hhi]
  have hk : ((k : Nat) : Int).toNat = k := Int.toNat_natCast k
  obtain ⟨m, e1, e2⟩ := hdr_done h.1 (by omega) (by omega) (by rw [hk]; exact hlo) (by rw [hk]; exact hhi) (by rw [hk, oct_high hlo hhi, if_pos hb])
  have em : m = k + 1 := by omega
  rw [em] at e1
  simpa using e1
theorem rsz_fail {ks : List Int} {number : Int} (h : rszInv ks ks.length number) : sizeL ks = none := by
  have q := hdr_fail h.1 (by omega) (by omega)
  simpa using q
section
variable {prog : Program} {w : World} {A : Around} {E : Value → Shared → Prop} {Q : Flow → Shared → Prop} {s : Shared} {env : Env} {h₀ : Heap} {L : Addr} {body : List Stmt}
abbrev RszS := Int × Tok
abbrev rszPs (c : RszS) : List (Str × Value) := [(Str.ofString "number", .int c.1 c.2)]
def RszPost (h₀ : Heap) (L : Addr) (led : List (Addr × Obj)) (m₀ : Str → Option Value) (P : Int → Prop) (own : List (Addr × Obj)) (s : Shared) (Q : Flow → Shared → Prop) (f : Flow) (s₂ : Shared) : Prop :=
  match f with
  | .ret v => Q (.ret v) s₂
  | .brk => Q .next s₂
  | _ => ∃ h' tk m' news' number t, s₂ = { s with heap := h', toks := tk } ∧ Fr h₀ L h' m' ∧ News h₀ L h' news' ∧ (∀ q ∈ led, q ∈ news') ∧ (∀ q ∈ own, q ∈ news') ∧ m' (Str.ofString "number") = some (.int number t) ∧ (∀ z : Str, z ≠ Str.ofString "k" → z ≠ Str.ofString "number" → m' z = m₀ z) ∧ P number
theorem for_rsz {r : Addr} {t₀ u₀ v₀ : Tok} {m₀ : Str → Option Value} {news : List (Addr × Obj)} (ks : List Int) (led : List (Addr × Obj)) {nI : Int} {tn : Tok}
    (hh : A.handled = none) (hr : IsRange s.heap r 0 nI 1 t₀ u₀ v₀) (hnI : nI = (ks.length : Int)) (hn : ks.length ≤ 1800) (F : Fr h₀ env.locals s.heap m₀) (N : News h₀ env.locals s.heap news) (hled : ∀ q ∈ led, q ∈ news) (h1 : m₀ (Str.ofString "number") = some (.int 0 tn))
    (turn : ∀ (j : Nat) number tt t (u : Str → Option Value) h tk own, j < ks.length → OwnOff own (led.map (·.1)) → rszInv ks j number →
      Fr h₀ env.locals h (fun y => if y = "k" then some (.int (j : Int) t) else kstB (fun z => if [Str.ofString "k", Str.ofString "number"].contains z then u z else m₀ z) [(Str.ofString "number", .int number tt)] y) → News h₀ env.locals h (led ++ own) →
      wpAny (model prog w) A (execs body env) (RszPost h₀ env.locals led m₀ (rszInv ks (j + 1)) own { s with heap := h, toks := tk } Q) E { s with heap := h, toks := tk })
    (done : ∀ number tt (u : Str → Option Value) h tk, rszInv ks ks.length number →
      Fr h₀ env.locals h (fun y => if y = "k" then u y else kstB (fun z => if [Str.ofString "k", Str.ofString "number"].contains z then u z else m₀ z) [(Str.ofString "number", .int number tt)] y) → News h₀ env.locals h led → Q .next { s with heap := h, toks := tk }) :
    wpAny (model prog w) A (pyIter (.ref r)) (fun it s₂ => LoopAtV prog w A h₀ env "k" body Q E it s₂) E s := by
  subst hnI
  have N1 : News h₀ env.locals s.heap led := fun q hq => N _ (hled q hq)
  refine kst_range (x := "k") (n := ks.length) (fun _ : RszS => led) rszPs (fun _ => True) [Str.ofString "k", Str.ofString "number"] (fun pre c => rszInv ks pre.length c.1) (0, tn) hh hr ?_ ?_ F N1 trivial ?_ (rszInv_start ks) ?_ ?_
  · have : ∀ k : Fin 1801, Builtin.Range.small 0 ((k.val : Nat) : Int) 1 = true := by decide +kernel
    exact this ⟨ks.length, by omega⟩
  · have : ∀ k : Fin 1801, Builtin.Range.rangeSize 0 ((k.val : Nat) : Int) 1 = ((k.val : Nat) : Int) := by decide +kernel
    exact this ⟨ks.length, by omega⟩
  · intro p hp
    rw [List.mem_singleton.mp hp]; exact h1
  · rintro ⟨number, tt⟩ pre k t u h tk own hk hlt hoff _ hp F' N'
    have hk' : k = (pre.length : Int) := by omega
    subst hk'
    refine wpAny_mono (turn pre.length number tt t u h tk own hlt (by simpa using hoff) hp F' N') (fun f s₂ z => ?_) fun _ _ z => z
    have up : RszPost h₀ env.locals led m₀ (rszInv ks (pre.length + 1)) own { s with heap := h, toks := tk } Q .next s₂ → InvEndN h₀ env.locals (KstS (fun _ : RszS => led) rszPs (fun _ => True) "k" [Str.ofString "k", Str.ofString "number"] m₀ (fun pre c => rszInv ks pre.length c.1) (pre ++ [(pre.length : Int)])) own (led.map (·.1)) { s with heap := h, toks := tk } s₂ := by
      rintro ⟨h', tk', m', news', number', t', rfl, F2, N2, a1, a2, a4, a5, a6⟩
      refine kst_end (number', t') F2 N2 a1 a2 rfl trivial ?_ ?_ (by simpa using a6)
      · intro p hp
        rw [List.mem_singleton.mp hp]; exact a4
      · intro z _ _ hs
        simp only [List.contains_cons, List.contains_nil, Bool.or_false, Bool.or_eq_false_iff, beq_eq_false_iff_ne, ne_eq] at hs
        exact a5 z hs.1 hs.2
    cases f with
    | ret v => exact z
    | brk => exact z
    | next => exact up z
    | cont => exact up z
  · rintro ⟨number, tt⟩ u h tk _ hp F' N'
    exact done number tt u h tk (by simpa [rangeKs_length] using hp) F' N'
theorem rsz_ends {h' : Heap} {m₀ m' : Str → Option Value} {led own news' : List (Addr × Obj)} {tk : Nat} {number : Int} {t : Tok} {P : Int → Prop} (F2 : Fr h₀ L h' m') (N2 : News h₀ L h' news') (a1 : ∀ q ∈ led, q ∈ news') (a2 : ∀ q ∈ own, q ∈ news') (a4 : m' (Str.ofString "number") = some (.int number t))
    (a5 : ∀ z : Str, z ≠ Str.ofString "k" → z ≠ Str.ofString "number" → m' z = m₀ z) (a6 : P number) :
    RszPost h₀ L led m₀ P own s Q .next { s with heap := h', toks := tk } :=
  ⟨_, _, _, _, _, _, rfl, F2, N2, a1, a2, a4, a5, a6⟩
end
end Mine
open PySem PySem.W PyProof.Rows PySem.Calls PySem.Spec
namespace Mine
set_option maxRecDepth 100000
def valL : List Int → Int
  | [] => 0
  | x :: r => x + 256 * valL r
theorem val_set {x : Int} : ∀ {fs : List Int} {j : Nat}, fs.getD j 0 = 0 → j < fs.length → valL (fs.set j x) = valL fs + x * 256 ^ j
  | [], _, _, h => absurd h (Nat.not_lt_zero _)
  | a :: r, 0, e, _ => by
    have e' : a = 0 := e
    show x + 256 * valL r = a + 256 * valL r + x * 256 ^ 0
    rw [e', Int.pow_zero]; omega
  | a :: r, j + 1, e, h => by
    have ih := val_set (x := x) (fs := r) (j := j) (by simpa using e) (Nat.lt_of_succ_lt_succ h)
    show a + 256 * valL (r.set j x) = a + 256 * valL r + x * 256 ^ (j + 1)
    rw [ih, Int.pow_succ, Int.mul_add, ← Int.mul_assoc x]
    omega
theorem fieldsL_add {c : Int} : ∀ {a b k : Nat} {r : List Int}, fieldsL c k (a + b) r = (match fieldsL c k a r with | none => none | some (v, q) => (fieldsL c (k + a) b q).map fun p => (v + 256 ^ a * p.1, p.2))
  | 0, b, k, r => by
    rw [Nat.zero_add]
    simp only [fieldsL, Nat.add_zero]
    cases fieldsL c k b r with
    | none => rfl
    | some p => simp
  | a + 1, b, k, r => by
    rw [show a + 1 + b = (a + b) + 1 by omega]
    simp only [fieldsL]
    have p1 : (256 : Int) ^ (a + 1) = 256 * 256 ^ a := by rw [Int.pow_succ, Int.mul_comm]
    split
    · cases r with
      | nil => rfl
      | cons x q =>
        simp only []
        rw [fieldsL_add (a := a) (b := b), show k + 1 + a = k + (a + 1) by omega]
        cases fieldsL c (k + 1) a q with
        | none => rfl
        | some p =>
          simp only [Option.map_some]
          cases fieldsL c (k + (a + 1)) b p.2 with
          | none => rfl
          | some p2 =>
            simp only [Option.map_some, Option.some.injEq, Prod.mk.injEq, and_true]
            rw [p1, Int.mul_add, ← Int.mul_assoc]; omega
    · rw [fieldsL_add (a := a) (b := b), show k + 1 + a = k + (a + 1) by omega]
      cases fieldsL c (k + 1) a r with
      | none => rfl
      | some p =>
        simp only [Option.map_some]
        cases fieldsL c (k + (a + 1)) b p.2 with
        | none => rfl
        | some p2 =>
          simp only [Option.map_some, Option.some.injEq, Prod.mk.injEq, and_true]
          rw [p1, Int.mul_add, ← Int.mul_assoc]
theorem fieldsL_range {c : Int} : ∀ {n k : Nat} {r : List Int} {v : Int} {q : List Int}, Oct r → fieldsL c k n r = some (v, q) → 0 ≤ v ∧ v < 256 ^ n
  | 0, _, r, v, q, _, h => by simp [fieldsL] at h; rw [← h.1]; exact ⟨Int.le_refl _, by decide⟩
  | n + 1, k, r, v, q, ho, h => by
    have p1 : (256 : Int) ^ (n + 1) = 256 ^ n * 256 := Int.pow_succ ..
    unfold fieldsL at h
    split at h
    · cases r with
      | nil => cases h
      | cons x r =>
        simp only [Option.map_eq_some_iff] at h
        obtain ⟨⟨v', q'⟩, h1, h2⟩ := h
        have ih := fieldsL_range (fun y hy => ho y (.tail _ hy)) h1
        have hx := ho x (.head _)
        cases h2
        rw [p1]; omega
    · simp only [Option.map_eq_some_iff] at h
      obtain ⟨⟨v', q'⟩, h1, h2⟩ := h
      have ih := fieldsL_range ho h1
      cases h2
      rw [p1]; omega
theorem fields_seven_none {c : Int} {q : List Int} (h : fieldsL c 0 7 q = none) {bk acc : List Int} {rem : Int} (hc : 128 ≤ c) : readOps bk (c :: q) rem acc = none := by
  rw [show 7 = 4 + 3 from rfl, fieldsL_add] at h
  cases h1 : fieldsL c 0 4 q with
  | none => exact ops_none0 hc h1
  | some p =>
    obtain ⟨off, q1⟩ := p
    rw [h1] at h
    simp only [Option.map_eq_none_iff] at h
    exact ops_none1 hc h1 (by simpa using h)
theorem fields_seven {c st sz : Int} {q q2 : List Int} (ho : Oct q) (h : fieldsL c 0 7 q = some (st + 4294967296 * sz, q2)) (h0 : 0 ≤ st) (h1 : st < 4294967296) :
    ∃ q1, fieldsL c 0 4 q = some (st, q1) ∧ fieldsL c 4 3 q1 = some (sz, q2) := by
  rw [show 7 = 4 + 3 from rfl, fieldsL_add] at h
  cases e1 : fieldsL c 0 4 q with
  | none => rw [e1] at h; cases h
  | some p =>
    obtain ⟨off, q1⟩ := p
    rw [e1] at h
    simp only [Option.map_eq_some_iff] at h
    obtain ⟨⟨v, q'⟩, e2, e3⟩ := h
    have hr := fieldsL_range ho e1
    have p4 : (256 : Int) ^ 4 = 4294967296 := by decide
    rw [p4] at hr e3
    simp only [Prod.mk.injEq] at e3
    obtain ⟨e4, rfl⟩ := e3
    obtain rfl : off = st := by omega
    obtain rfl : v = sz := by omega
    exact ⟨q1, rfl, by simpa using e2⟩
/-- between the turns of the law's loop that reads a copy's seven octets -/
def sevInv (ks : List Int) (cc i₀ : Int) (j : Nat) (idx : Int) (fs : List Int) : Prop :=
  fs.length = 7 ∧ Oct fs ∧ (∀ i, j ≤ i → fs.getD i 0 = 0) ∧ fldInv ks cc 0 7 i₀ j idx (valL fs)
theorem sevInv_start (ks : List Int) (cc i₀ : Int) (h : i₀ ≤ ks.length) : sevInv ks cc i₀ 0 i₀ [0, 0, 0, 0, 0, 0, 0] :=
  ⟨rfl, fun y hy => by
    have e : y = 0 := by simpa using hy
    rw [e]; decide, fun i _ => by
    rcases Nat.lt_or_ge i 7 with h | h
    · have : ∀ i : Fin 7, [(0 : Int), 0, 0, 0, 0, 0, 0].getD i.val 0 = 0 := by decide
      exact this ⟨i, h⟩
    · rw [List.getD_eq_getElem?_getD, List.getElem?_eq_none (by simpa using h)]; rfl, fldInv_start ks cc 0 7 i₀ h⟩
theorem sev_skip {ks : List Int} {cc i₀ idx : Int} {j : Nat} {fs : List Int} (h : sevInv ks cc i₀ j idx fs) (hj : j < 7) (hb : ¬ cc / 2 ^ j % 2 = 1) : sevInv ks cc i₀ (j + 1) idx fs :=
  ⟨h.1, h.2.1, fun i hi => h.2.2.1 i (by omega), fld_skip h.2.2.2 hj (by rw [Nat.zero_add]; exact hb)⟩
theorem sev_take {ks : List Int} {cc i₀ idx : Int} {j : Nat} {fs : List Int} (h : sevInv ks cc i₀ j idx fs) (h00 : 0 ≤ i₀) (hj : j < 7) (hb : cc / 2 ^ j % 2 = 1) (hl : idx < ks.length) (hlo : 0 ≤ ks.getD idx.toNat 0) (hhi : ks.getD idx.toNat 0 < 256) :
    sevInv ks cc i₀ (j + 1) (idx + 1) (fs.set j (ks.getD idx.toNat 0)) := by
  obtain ⟨h1, h2, h3, h4⟩ := h
  have q := fld_take h4 h00 hj (by rw [Nat.zero_add]; exact hb) hl hlo hhi
  have pe : (2 : Int) ^ (j * 8) = 256 ^ j := by rw [Nat.mul_comm, Int.pow_mul]; rfl
  rw [or_above h4.1 (by rw [pe]; exact h4.2.1) hlo, pe, ← val_set (h3 j (Nat.le_refl _)) (by omega)] at q
  refine ⟨by rw [List.length_set]; exact h1, fun y hy => ?_, fun i hi => ?_, q⟩
  · rcases List.mem_or_eq_of_mem_set hy with hy | hy
    · exact h2 y hy
    · rw [hy]; exact ⟨hlo, hhi⟩
  · rw [List.getD_eq_getElem?_getD, List.getElem?_set_ne (by omega), ← List.getD_eq_getElem?_getD]
    exact h3 i (by omega)
theorem sev_fail {ks : List Int} {cc i₀ idx : Int} {j : Nat} {fs : List Int} (h : sevInv ks cc i₀ j idx fs) (hj : j < 7) (hb : cc / 2 ^ j % 2 = 1) (hl : (ks.length : Int) ≤ idx) : fieldsL cc 0 7 (ks.drop i₀.toNat) = none :=
  fld_fail h.2.2.2 hj (by rw [Nat.zero_add]; exact hb) hl
theorem ints_cons {vs : List Value} {f : Int} {r : List Int} (h : IntsAre vs (f :: r)) : ∃ t vs', vs = .int f t :: vs' ∧ IntsAre vs' r := by
  cases h with
  | cons _ t h => exact ⟨t, _, rfl, h⟩
theorem ints_more {vs : List Value} {fs : List Int} {n : Nat} (h : IntsAre vs fs) (hl : fs.length = n + 1) : ∃ f r t v, fs = f :: r ∧ vs = .int f t :: v ∧ IntsAre v r ∧ r.length = n := by
  cases h with
  | nil => cases hl
  | cons _ t h => exact ⟨_, _, t, _, rfl, rfl, h, Nat.succ.inj hl⟩
theorem ints_none {vs : List Value} {fs : List Int} (h : IntsAre vs fs) (hl : fs.length = 0) : fs = [] ∧ vs = [] := by
  cases h with
  | nil => exact ⟨rfl, rfl⟩
  | cons _ t h => cases hl
def SevP (vs : List Value) (fs : List Int) : Prop := ∃ f0 f1 f2 f3 f4 f5 f6 t0 t1 t2 t3 t4 t5 t6, fs = [f0, f1, f2, f3, f4, f5, f6] ∧ vs = [.int f0 t0, .int f1 t1, .int f2 t2, .int f3 t3, .int f4 t4, .int f5 t5, .int f6 t6]
theorem ints_seven {vs : List Value} {fs : List Int} (h : IntsAre vs fs) (hl : fs.length = 7) : ∃ f0 f1 f2 f3 f4 f5 f6 t0 t1 t2 t3 t4 t5 t6, fs = [f0, f1, f2, f3, f4, f5, f6] ∧ vs = [.int f0 t0, .int f1 t1, .int f2 t2, .int f3 t3, .int f4 t4, .int f5 t5, .int f6 t6] := by
  show SevP vs fs
  obtain ⟨f0, r0, t0, v0, e0, d0, g0, l0⟩ := ints_more h hl
  obtain ⟨f1, r1, t1, v1, e1, d1, g1, l1⟩ := ints_more g0 l0
  obtain ⟨f2, r2, t2, v2, e2, d2, g2, l2⟩ := ints_more g1 l1
  obtain ⟨f3, r3, t3, v3, e3, d3, g3, l3⟩ := ints_more g2 l2
  obtain ⟨f4, r4, t4, v4, e4, d4, g4, l4⟩ := ints_more g3 l3
  obtain ⟨f5, r5, t5, v5, e5, d5, g5, l5⟩ := ints_more g4 l4
  obtain ⟨f6, r6, t6, v6, e6, d6, g6, l6⟩ := ints_more g5 l5
  have z := ints_none g6 l6
  exact ⟨f0, f1, f2, f3, f4, f5, f6, t0, t1, t2, t3, t4, t5, t6, (e0.trans (congrArg (List.cons f0) (e1.trans (congrArg (List.cons f1) (e2.trans (congrArg (List.cons f2) (e3.trans (congrArg (List.cons f3) (e4.trans (congrArg (List.cons f4) (e5.trans (congrArg (List.cons f5) (e6.trans (congrArg (List.cons f6) z.1)))))))))))))), (d0.trans (congrArg (List.cons (Value.int f0 t0)) (d1.trans (congrArg (List.cons (Value.int f1 t1)) (d2.trans (congrArg (List.cons (Value.int f2 t2)) (d3.trans (congrArg (List.cons (Value.int f3 t3)) (d4.trans (congrArg (List.cons (Value.int f4 t4)) (d5.trans (congrArg (List.cons (Value.int f5 t5)) (d6.trans (congrArg (List.cons (Value.int f6 t6)) z.2))))))))))))))⟩
theorem sev_done {ks : List Int} {cc i₀ idx f0 f1 f2 f3 f4 f5 f6 : Int} (h : sevInv ks cc i₀ 7 idx [f0, f1, f2, f3, f4, f5, f6]) : ((0 ≤ f0 ∧ f0 < 256) ∧ (0 ≤ f1 ∧ f1 < 256) ∧ (0 ≤ f2 ∧ f2 < 256) ∧ (0 ≤ f3 ∧ f3 < 256) ∧ (0 ≤ f4 ∧ f4 < 256) ∧ (0 ≤ f5 ∧ f5 < 256) ∧ (0 ≤ f6 ∧ f6 < 256)) ∧ i₀ ≤ idx ∧ idx ≤ ks.length ∧
    fieldsL cc 0 7 (ks.drop i₀.toNat) = some ((f0 + 256 * f1 + 65536 * f2 + 16777216 * f3) + 4294967296 * (f4 + 256 * f5 + 65536 * f6), ks.drop idx.toNat) := by
  obtain ⟨h1, h2, h3, h4⟩ := h
  refine ⟨⟨h2 _ (by simp), h2 _ (by simp), h2 _ (by simp), h2 _ (by simp), h2 _ (by simp), h2 _ (by simp), h2 _ (by simp)⟩, h4.2.2.1, h4.2.2.2.1, ?_⟩
  rw [fld_done h4]
  simp only [valL, Option.some.injEq, Prod.mk.injEq, and_true]
  omega
/-- between the turns of the law's reading -/
def rdInv (bk dk : List Int) (two : Int) (R : Option (List Int)) (at_ : Int) (acc : List Int) : Prop :=
  0 ≤ at_ ∧ at_ ≤ dk.length ∧ (acc.length : Int) ≤ two ∧ acc.length ≤ (bk.length + 1) * at_.toNat ∧ readOps bk (dk.drop at_.toNat) (two - acc.length) acc = R
theorem rd_bound {bk dk acc : List Int} {two at_ : Int} {R : Option (List Int)} (h : rdInv bk dk two R at_ acc) (hb : (bk.length + 1) * dk.length ≤ 16000000) : acc.length ≤ 16000000 :=
  Nat.le_trans h.2.2.2.1 (Nat.le_trans (Nat.mul_le_mul_left _ (by have := h.2.1; have := h.1; omega)) hb)
section
variable {bk dk acc : List Int} {two at_ : Int} {R : Option (List Int)}
theorem rd_at (h : rdInv bk dk two R at_ acc) (hl : at_ < dk.length) : readOps bk (dk.getD at_.toNat 0 :: dk.drop (at_ + 1).toNat) (two - acc.length) acc = R := by
  rw [← drop_at h.1 (by omega)]; exact h.2.2.2.2
theorem rd_zero (h : rdInv bk dk two R at_ acc) (hl : at_ < dk.length) (hz : dk.getD at_.toNat 0 = 0) : R = none := by
  rw [← rd_at h hl, hz]; exact ops_zero
theorem rd_long (h : rdInv bk dk two R at_ acc) (hl : at_ < dk.length) (hc : dk.getD at_.toNat 0 < 128) (hb : (acc.length : Int) + dk.getD at_.toNat 0 > two ∨ at_ + 1 + dk.getD at_.toNat 0 > dk.length) : R = none := by
  have h0 := h.1
  rw [← rd_at h hl]
  refine ops_long (by omega) ?_
  rw [List.length_drop]
  rcases hb with hb | hb
  · left; omega
  · right; omega
theorem cut_drop_take (dk : List Int) (i c : Int) (h0 : 0 ≤ i) (h1 : 0 ≤ c) : (dk.drop i.toNat).take c.toNat = cut dk i (i + c) := by
  unfold cut
  rw [Int.toNat_add h0 h1, Nat.add_sub_cancel_left]
theorem rd_insert (h : rdInv bk dk two R at_ acc) (hl : at_ < dk.length) (hlo : 0 ≤ dk.getD at_.toNat 0) (hc : dk.getD at_.toNat 0 < 128) (hz : dk.getD at_.toNat 0 ≠ 0) (h1 : ¬ (acc.length : Int) + dk.getD at_.toNat 0 > two) (h2 : ¬ at_ + 1 + dk.getD at_.toNat 0 > dk.length) :
    rdInv bk dk two R (at_ + 1 + dk.getD at_.toNat 0) (acc ++ cut dk (at_ + 1) (at_ + 1 + dk.getD at_.toNat 0)) := by
  have e := rd_at h hl
  obtain ⟨a1, a2, a3, a4, a5⟩ := h
  generalize dk.getD at_.toNat 0 = c at *
  rw [ops_insert (by omega) hz (by omega) (by rw [List.length_drop]; omega), cut_drop_take _ _ _ (by omega) hlo, List.drop_drop] at e
  have hcl := cut_len dk (at_ + 1) (at_ + 1 + c) (by omega) (by omega) (by omega)
  have hm : (bk.length + 1) * (at_ + 1 + c).toNat = (bk.length + 1) * at_.toNat + (bk.length + 1) * (1 + c.toNat) := by rw [← Nat.mul_add]; congr 1; omega
  have hm2 : 1 + c.toNat ≤ (bk.length + 1) * (1 + c.toNat) := Nat.le_mul_of_pos_left _ (Nat.succ_pos _)
  refine ⟨by omega, by omega, by rw [List.length_append]; omega, by rw [List.length_append, hm]; omega, ?_⟩
  rw [← e]
  have e1 : (at_ + 1 + c).toNat = (at_ + 1).toNat + c.toNat := by omega
  have e2 : two - ((acc ++ cut dk (at_ + 1) (at_ + 1 + c)).length : Int) = two - acc.length - c := by rw [List.length_append]; push_cast; omega
  rw [e1, e2]
theorem rd_none (h : rdInv bk dk two R at_ acc) (hl : at_ < dk.length) (hc : ¬ dk.getD at_.toNat 0 < 128) (hf : fieldsL (dk.getD at_.toNat 0) 0 7 (dk.drop (at_ + 1).toNat) = none) : R = none := by
  rw [← rd_at h hl]
  exact fields_seven_none hf (by omega)
theorem rd_bad {ix st sz : Int} (ho : Oct dk) (h : rdInv bk dk two R at_ acc) (hl : at_ < dk.length) (hc : ¬ dk.getD at_.toNat 0 < 128) (h0 : 0 ≤ st) (h1 : st < 4294967296) (hix0 : 0 ≤ ix) (hix : ix ≤ dk.length)
    (hf : fieldsL (dk.getD at_.toNat 0) 0 7 (dk.drop (at_ + 1).toNat) = some (st + 4294967296 * sz, dk.drop ix.toNat)) (hb : st + copySz sz > bk.length ∨ (acc.length : Int) + copySz sz > two) (hn : ¬ (ix = dk.length ∧ (acc.length : Int) = two)) : R = none := by
  rw [← rd_at h hl]
  obtain ⟨q1, e1, e2⟩ := fields_seven (ho.drop _) hf h0 h1
  rw [ops_bad (by omega) e1 e2 (by omega), if_neg]
  rintro ⟨z1, z2⟩
  have := congrArg List.length z1
  rw [List.length_drop, List.length_nil] at this
  exact hn ⟨by omega, by omega⟩
theorem rd_copy {ix st sz : Int} (ho : Oct dk) (h : rdInv bk dk two R at_ acc) (hl : at_ < dk.length) (hc : ¬ dk.getD at_.toNat 0 < 128) (h0 : 0 ≤ st) (h1 : st < 4294967296) (hsz : 0 ≤ sz) (hix0 : at_ + 1 ≤ ix) (hix : ix ≤ dk.length)
    (hf : fieldsL (dk.getD at_.toNat 0) 0 7 (dk.drop (at_ + 1).toNat) = some (st + 4294967296 * sz, dk.drop ix.toNat)) (hb1 : ¬ st + copySz sz > bk.length) (hb2 : ¬ (acc.length : Int) + copySz sz > two) :
    rdInv bk dk two R ix (acc ++ cut bk st (st + copySz sz)) := by
  have e := rd_at h hl
  obtain ⟨a1, a2, a3, a4, a5⟩ := h
  obtain ⟨q1, e1, e2⟩ := fields_seven (ho.drop _) hf h0 h1
  have hs0 : 0 ≤ copySz sz := by unfold copySz; split <;> omega
  rw [ops_copy (by omega) e1 e2 (by omega) (by omega)] at e
  have hcl := cut_len bk st (st + copySz sz) h0 (by omega) (by omega)
  have hle := cut_len_le bk st (st + copySz sz)
  have hm : (bk.length + 1) * (at_.toNat + 1) ≤ (bk.length + 1) * ix.toNat := Nat.mul_le_mul_left _ (by omega)
  rw [Nat.mul_add, Nat.mul_one] at hm
  refine ⟨by omega, hix, by rw [List.length_append]; omega, by rw [List.length_append]; omega, ?_⟩
  rw [← e]
  congr 1
  rw [List.length_append]; push_cast; omega
theorem rd_end (h : rdInv bk dk two R at_ acc) (hl : ¬ at_ < dk.length) : R = if (acc.length : Int) = two then some acc else none := by
  obtain ⟨a1, a2, a3, a4, a5⟩ := h
  rw [← a5, List.drop_of_length_le (by omega), ops_nil]
  by_cases q : (acc.length : Int) = two
  · rw [if_pos q, if_pos (by omega)]
  · rw [if_neg q, if_neg (by omega)]
theorem rd_start {ix1 ix2 s1 s2 : Int} {k1 k2 : Nat} (h1 : sizeL (dk.drop (Int.toNat 0)) = some (s1, k1)) (e1 : ix1 = 0 + (k1 : Int)) (h2 : sizeL (dk.drop ix1.toNat) = some (s2, k2)) (e2 : ix2 = ix1 + k2)
    (hs : s1 = bk.length) (h0 : 0 ≤ s2) (hl : ix2 ≤ dk.length) : rdInv bk dk s2 (readDelta bk dk) ix2 [] := by
  have q := (start_main h1 e1 h2 e2 hs h0 hl).2.2.2.2.2.2
  exact ⟨by omega, hl, by simpa using h0, by simp, by simpa using q⟩
end
end Mine
open PySem PySem.W PyProof.Rows PySem.Calls PySem.Spec
namespace Mine
set_option maxRecDepth 100000
section
variable {prog : Program} {w : World} {A : Around} {E : Value → Shared → Prop} {Q : Flow → Shared → Prop} {s : Shared} {env : Env} {h₀ : Heap} {L : Addr} {body : List Stmt}
def TldPost (h₀ : Heap) (L : Addr) (fo : Addr) (rest : List (Addr × Obj)) (m₀ : Str → Option Value) (ks : List Int) (cc i₀ : Int) (j : Nat) (own : List (Addr × Obj)) (s : Shared) (Q : Flow → Shared → Prop) (f : Flow) (s₂ : Shared) : Prop :=
  match f with
  | .ret v => Q (.ret v) s₂
  | .brk => Q .next s₂
  | _ => ∃ h' tk m' news' vs fs nn oa ws nw idx, s₂ = { s with heap := h', toks := tk } ∧ Fr h₀ L h' m' ∧ News h₀ L h' news' ∧ (fo, listOf (List.toArray vs) nn) ∈ news' ∧ (oa, listOf (List.toArray ws) nw) ∈ news' ∧ @Ne Nat fo oa ∧ (∀ q ∈ rest, q ∈ news') ∧ (∀ q ∈ own, q ∈ news') ∧ IntsAre vs fs ∧ IntsAre ws (ks.drop idx.toNat) ∧ m' (Str.ofString "octets") = some (.ref oa) ∧
     (∀ z : Str, z ≠ Str.ofString "k" → z ≠ Str.ofString "octets" → m' z = m₀ z) ∧ sevInv ks cc i₀ (j + 1) idx fs
def tldJ (rest : List (Addr × Obj)) (fo : Addr) (m₀ : Str → Option Value) (ks : List Int) (cc i₀ : Int) (i : Nat) (m₁ : Str → Option Value) (nx : List (Addr × Obj)) : Prop :=
  ∃ vs fs nn oa ws nw idx, nx = (fo, listOf (List.toArray vs) nn) :: (oa, listOf (List.toArray ws) nw) :: rest ∧ @Ne Nat fo oa ∧ IntsAre vs fs ∧ IntsAre ws (ks.drop (Int.toNat idx)) ∧ m₁ (Str.ofString "octets") = some (.ref oa) ∧ (∀ z : Str, z ≠ Str.ofString "k" → z ≠ Str.ofString "octets" → m₁ z = m₀ z) ∧ sevInv ks cc i₀ i idx fs
theorem for_told {r : Addr} {t₀ u₀ v₀ : Tok} {m₀ : Str → Option Value} {news : List (Addr × Obj)} (ks : List Int) (cc : Int) {i₀ : Int} {fo oa : Addr} {vs0 ws0 : List Value} {nn0 nw0 : Nat} (rest : List (Addr × Obj))
    (hh : A.handled = none) (hr : IsRange s.heap r 0 7 1 t₀ u₀ v₀) (F : Fr h₀ env.locals s.heap m₀) (N : News h₀ env.locals s.heap news) (hfo : (fo, listOf (List.toArray vs0) nn0) ∈ news) (hv0 : IntsAre vs0 [0, 0, 0, 0, 0, 0, 0]) (hoa : (oa, listOf (List.toArray ws0) nw0) ∈ news) (hw0 : IntsAre ws0 (ks.drop i₀.toNat)) (hne : @Ne Nat fo oa)
    (hrest : ∀ q ∈ rest, q ∈ news) (ho : m₀ (Str.ofString "octets") = some (.ref oa)) (hi : i₀ ≤ ks.length)
    (turn : ∀ (j : Nat) vs fs nn oa ws nw idx t (u : Str → Option Value) h tk own, j < 7 → OwnOff own (fo :: oa :: rest.map (·.1)) → @Ne Nat fo oa → IntsAre vs fs → IntsAre ws (ks.drop (Int.toNat idx)) → sevInv ks cc i₀ j idx fs →
      Fr h₀ env.locals h (fun y => if y = "k" then some (.int (j : Int) t) else kstB (fun z => if [Str.ofString "k", Str.ofString "octets"].contains z then u z else m₀ z) [(Str.ofString "octets", .ref oa)] y) → News h₀ env.locals h ((fo, listOf (List.toArray vs) nn) :: (oa, listOf (List.toArray ws) nw) :: (rest ++ own)) →
      wpAny (model prog w) A (execs body env) (TldPost h₀ env.locals fo rest m₀ ks cc i₀ j own { s with heap := h, toks := tk } Q) E { s with heap := h, toks := tk })
    (done : ∀ f0 f1 f2 f3 f4 f5 f6 t0 t1 t2 t3 t4 t5 t6 nn oa ws nw idx (u : Str → Option Value) h tk, IntsAre ws (ks.drop (Int.toNat idx)) → sevInv ks cc i₀ 7 idx [f0, f1, f2, f3, f4, f5, f6] →
      Fr h₀ env.locals h (fun y => if y = "k" then u y else kstB (fun z => if [Str.ofString "k", Str.ofString "octets"].contains z then u z else m₀ z) [(Str.ofString "octets", .ref oa)] y) → News h₀ env.locals h ((fo, listOf #[.int f0 t0, .int f1 t1, .int f2 t2, .int f3 t3, .int f4 t4, .int f5 t5, .int f6 t6] nn) :: (oa, listOf (List.toArray ws) nw) :: rest) → Q .next { s with heap := h, toks := tk }) :
    wpAny (model prog w) A (pyIter (.ref r)) (fun it s₂ => LoopAtV prog w A h₀ env "k" body Q E it s₂) E s := by
  refine wpAny_pyIter_range hr (by decide +kernel) ?_
  have W : Walks prog w A s.heap.objs.size [s.heap.objs.size] [s.heap.objs.size] 7 (fun i v => i < 7 ∧ ∃ t, v = .int (0 + i * 1) t)
      (fun i h => IsRangeIter h s.heap.objs.size (0 + (i : Nat) * 1) (((7 : Nat) : Int) - (i : Nat)) 1) := (Walks.range hh _ 0 1 7).bound
  have N1 : News h₀ env.locals s.heap ((fo, listOf (List.toArray vs0) nn0) :: (oa, listOf (List.toArray ws0) nw0) :: rest) := fun q hq => by
    rcases List.mem_cons.mp hq with rfl | hq
    · exact N _ hfo
    rcases List.mem_cons.mp hq with rfl | hq
    · exact N _ hoa
    · exact N _ (hrest q hq)
  refine ⟨s.heap.objs.size, [s.heap.objs.size], [s.heap.objs.size], 7, _, _, m₀, _, tldJ rest fo m₀ ks cc i₀, rfl, W, ?_, ?_, ?_, ?_, F.push _, (fun p hp => ⟨Heap.get?_push_of_some _ (N1 p hp).1, (N1 p hp).2⟩), ⟨vs0, _, nn0, oa, ws0, nw0, i₀, rfl, hne, hv0, hw0, ho, fun _ _ _ => rfl, sevInv_start ks cc i₀ hi⟩, ?_, ?_⟩
  · intro hm
    exact absurd F.ns.lt ((List.mem_singleton.mp hm) ▸ Nat.lt_irrefl _)
  · intro b hb
    rw [List.mem_singleton.mp hb]
    exact next_is_new F
  · intro p hp hI
    exact absurd (Heap.lt_size (N1 p hp).1) ((List.mem_singleton.mp hI) ▸ Nat.lt_irrefl _)
  · show IsRangeIter _ _ _ _ _
    rw [show Builtin.Range.rangeSize 0 7 1 = 7 from by decide +kernel]
    simpa using Heap.get?_push_size _ rfl
  · rintro i v m₁ news₁ s₁ own ⟨hh', tk', rfl⟩ hin ⟨_, t, rfl⟩ ⟨vs, fs, nn, oa, ws, nw, idx, rfl, hne, hv, hw, ho1, hm1, hsev⟩ hoff hfp hget hown hst F₁ N₁
    have hme := hown s.heap.objs.size (List.mem_singleton.mpr rfl) (next_is_new F) _ hst
    have hsep : OwnOff own (fo :: oa :: rest.map (·.1)) := fun p hp b hb e => by
      have h1 := List.mem_singleton.mp (hfp p hp)
      have hb' : b ∈ ((fo, listOf (List.toArray vs) nn) :: (oa, listOf (List.toArray ws) nw) :: rest).map (·.1) := hb
      obtain ⟨q, hq, rfl⟩ := List.mem_map.mp hb'
      exact hoff q hq (List.mem_singleton.mpr (e ▸ h1))
    have e1 : (0 : Int) + (i : Int) * 1 = (i : Int) := by omega
    rw [e1] at F₁
    have N₂ : News h₀ env.locals hh' ((fo, listOf (List.toArray vs) nn) :: (oa, listOf (List.toArray ws) nw) :: (rest ++ own)) := fun p hp => N₁ p (by
      rcases List.mem_cons.mp hp with rfl | hp
      · exact List.mem_append_right _ (List.Mem.head _)
      rcases List.mem_cons.mp hp with rfl | hp
      · exact List.mem_append_right _ (List.Mem.tail _ (List.Mem.head _))
      rcases List.mem_append.mp hp with hp | hp
      · exact List.mem_append_right _ (List.Mem.tail _ (List.Mem.tail _ hp))
      · exact List.mem_append_left _ hp)
    refine wpAny_mono (turn i vs fs nn oa ws nw idx t m₁ hh' tk' own hin hsep hne hv hw hsev (kst_fr (x := "k") (ps := [(Str.ofString "octets", .ref oa)]) (stored := [Str.ofString "k", Str.ofString "octets"]) (fun p hp => by rw [List.mem_singleton.mp hp]; exact ho1) (fun z hz hz2 _ => hm1 z hz (hz2 _ (List.mem_singleton.mpr rfl))) F₁) N₂) (fun f s₂ z => ?_) fun _ _ z => z
    have up : TldPost h₀ env.locals fo rest m₀ ks cc i₀ i own { s with heap := hh', toks := tk' } Q .next s₂ → LoopStepU h₀ env.locals [s.heap.objs.size] own (tldJ rest fo m₀ ks cc i₀ (i + 1)) { s with heap := hh', toks := tk' } .next s₂ := by
      rintro ⟨h', tk, m', news', vs', fs', nn', oa', ws', nw', idx', e, F2, N2, a1, a2, a3, a4, a5, a6, a7, a8, a9, a10⟩
      refine ⟨rfl, h', tk, m', _, e, F2, fun p hp => ?_, fun p hp hI => ?_, ⟨vs', fs', nn', oa', ws', nw', idx', rfl, a3, a6, a7, a8, a9, a10⟩⟩
      · rcases List.mem_append.mp hp with hp | hp
        · exact N2 p (a5 p hp)
        rcases List.mem_cons.mp hp with rfl | hp
        · exact N2 _ a1
        rcases List.mem_cons.mp hp with rfl | hp
        · exact N2 _ a2
        · exact N2 p (a4 p hp)
      · rcases List.mem_cons.mp hp with rfl | hp
        · exact hoff _ (List.Mem.head _) hI
        rcases List.mem_cons.mp hp with rfl | hp
        · have g1 := (N2 _ a2).1
          have g2 := (N2 _ (a5 _ hme)).1
          have e2 := List.mem_singleton.mp hI
          simp only at g1 g2 e2
          rw [e2, g2] at g1
          have g3 := congrArg Obj.data (Option.some.inj g1)
          cases g3
        · exact hoff p (List.Mem.tail _ (List.Mem.tail _ hp)) hI
    cases f with
    | ret v => exact .ret z
    | brk => exact .brk z
    | next => exact .next (up z)
    | cont => exact .cont (up z)
  · rintro h' tk m' news' F' N' _ ⟨vs, fs, nn, oa, ws, nw, idx, rfl, hne, hv, hw, ho1, hm1, hsev⟩
    obtain ⟨f0, f1, f2, f3, f4, f5, f6, t0, t1, t2, t3, t4, t5, t6, rfl, rfl⟩ := ints_seven (vs := vs) (fs := fs) hv hsev.1
    exact done _ _ _ _ _ _ _ t0 t1 t2 t3 t4 t5 t6 nn oa ws nw idx m' h' tk hw hsev (kst_frOut (x := "k") (ps := [(Str.ofString "octets", .ref oa)]) (stored := [Str.ofString "k", Str.ofString "octets"]) (fun p hp => by rw [List.mem_singleton.mp hp]; exact ho1) (fun z hz hz2 _ => hm1 z hz (hz2 _ (List.mem_singleton.mpr rfl))) F') N'
theorem tld_ends {h' : Heap} {m₀ m' : Str → Option Value} {fo oa : Addr} {ks : List Int} {cc i₀ idx : Int} {rest own news' : List (Addr × Obj)} {vs ws : List Value} {fs : List Int} {nn nw j tk : Nat} (F2 : Fr h₀ L h' m') (N2 : News h₀ L h' news') (a1 : (fo, listOf (List.toArray vs) nn) ∈ news') (a2 : (oa, listOf (List.toArray ws) nw) ∈ news') (a3 : @Ne Nat fo oa) (a4 : ∀ q ∈ rest, q ∈ news') (a5 : ∀ q ∈ own, q ∈ news') (a6 : IntsAre vs fs) (a7 : IntsAre ws (ks.drop idx.toNat)) (a8 : m' (Str.ofString "octets") = some (.ref oa))
    (a9 : ∀ z : Str, z ≠ Str.ofString "k" → z ≠ Str.ofString "octets" → m' z = m₀ z) (a10 : sevInv ks cc i₀ (j + 1) idx fs) :
    TldPost h₀ L fo rest m₀ ks cc i₀ j own s Q .next { s with heap := h', toks := tk } :=
  ⟨_, _, _, _, _, _, _, _, _, _, _, rfl, F2, N2, a1, a2, a3, a4, a5, a6, a7, a8, a9, a10⟩
end
end Mine
open PySem PySem.W PyProof.Rows PySem.Calls PySem.Spec
namespace Mine
set_option maxRecDepth 100000
section
variable {prog : Program} {w : World} {A : Around} {E : Value → Shared → Prop} {Q : Flow → Shared → Prop} {s : Shared} {env : Env} {h₀ : Heap} {L : Addr} {body : List Stmt}
abbrev Rd3S := Addr × List Value × Nat × Addr × List Value × List Int × Nat × Int
abbrev rd3Led (rest : List (Addr × Obj)) (c : Rd3S) : List (Addr × Obj) := (c.1, listOf c.2.1.toArray c.2.2.1) :: (c.2.2.2.1, listOf c.2.2.2.2.1.toArray c.2.2.2.2.2.2.1) :: rest
abbrev rd3Ps (c : Rd3S) : List (Str × Value) := [(Str.ofString "octets", .ref c.1), (Str.ofString "found", .ref c.2.2.2.1)]
abbrev rd3Facts (dk : List Int) (c : Rd3S) : Prop := IntsAre c.2.1 (dk.drop c.2.2.2.2.2.2.2.toNat) ∧ IntsAre c.2.2.2.2.1 c.2.2.2.2.2.1
abbrev rd3Stored : List Str := [Str.ofString "octets", Str.ofString "found", Str.ofString "step", Str.ofString "told", Str.ofString "k", Str.ofString "place", Str.ofString "length"]
theorem rd3_loop {test : Expr} {body : List Stmt} {pos : Pos} {m₀ : Str → Option Value} {news : List (Addr × Obj)} (bk dk : List Int) (R : Option (List Int)) (two : Int) (rest : List (Addr × Obj)) {i₀ : Int} {oa fa : Addr} {ws : List Value} {nw nn : Nat} (F : Fr h₀ L s.heap m₀) (N : News h₀ L s.heap news)
    (ho : (oa, listOf (List.toArray ws) nw) ∈ news) (hf : (fa, listOf #[] nn) ∈ news) (hrest : ∀ q ∈ rest, q ∈ news) (hw : IntsAre ws (dk.drop i₀.toNat))
    (h1 : m₀ (Str.ofString "octets") = some (.ref oa)) (h2 : m₀ (Str.ofString "found") = some (.ref fa)) (hp : rdInv bk dk two R i₀ [])
    (turn : ∀ oa ws nw fa vs acc nn ix (u : Str → Option Value) h tk, IntsAre ws (dk.drop (Int.toNat ix)) → IntsAre vs acc → rdInv bk dk two R ix acc →
      Fr h₀ L h (kstB (fun z => if rd3Stored.contains z then u z else m₀ z) [(Str.ofString "octets", .ref oa), (Str.ofString "found", .ref fa)]) → News h₀ L h ((oa, listOf (List.toArray ws) nw) :: (fa, listOf (List.toArray vs) nn) :: rest) →
      wpAny (model prog w) A (isTrue test env (eval test env)) (fun b s₂ =>
        if b = true then wpAny (model prog w) A (execs body env) (KswPost h₀ L s (rd3Led rest) rd3Ps (rd3Facts dk) rd3Stored m₀ (fun c => rdInv bk dk two R c.2.2.2.2.2.2.2 c.2.2.2.2.2.1) (fun c => (dk.length - c.2.2.2.2.2.2.2).toNat) Q (oa, ws, nw, fa, vs, acc, nn, ix)) E s₂ else Q .next s₂) E { s with heap := h, toks := tk })
    (hE : PassesOwn (model prog w) A env E) :
    wpAny (model prog w) A (exec (.While test body [] pos) env) Q E s := by
  refine ksw_while (rd3Led rest) rd3Ps (rd3Facts dk) rd3Stored (fun c => rdInv bk dk two R c.2.2.2.2.2.2.2 c.2.2.2.2.2.1) (fun c => (dk.length - c.2.2.2.2.2.2.2).toNat) (oa, ws, nw, fa, [], [], nn, i₀) F (fun q hq => ?_) ⟨hw, .nil⟩ ?_ hp (fun c u h tk hf hp F' N' => turn _ _ _ _ _ _ _ _ u h tk hf.1 hf.2 hp F' N') hE
  · rcases List.mem_cons.mp hq with rfl | hq
    · exact N _ ho
    rcases List.mem_cons.mp hq with rfl | hq
    · exact N _ hf
    · exact N _ (hrest q hq)
  · intro p hp
    simp only [rd3Ps, List.mem_cons, List.not_mem_nil, or_false] at hp
    rcases hp with rfl | rfl
    · exact h1
    · exact h2
theorem rd3_ends {bk dk acc acc' : List Int} {R : Option (List Int)} {two ix a : Int} {oa fa oa' fa' : Addr} {ws vs ws' vs' : List Value} {nw nn nw' nn' : Nat} {m₀ m' : Str → Option Value} {rest news : List (Addr × Obj)} {h' : Heap} {tk : Nat} (F : Fr h₀ L h' m') (N : News h₀ L h' news)
    (ho : (oa', listOf (List.toArray ws') nw') ∈ news) (hf : (fa', listOf (List.toArray vs') nn') ∈ news) (hrest : ∀ q ∈ rest, q ∈ news) (h1 : m' (Str.ofString "octets") = some (.ref oa')) (h2 : m' (Str.ofString "found") = some (.ref fa')) (hw : IntsAre ws' (dk.drop a.toNat)) (hv : IntsAre vs' acc')
    (hr : ∀ z, z ≠ Str.ofString "octets" → z ≠ Str.ofString "found" → z ≠ Str.ofString "step" → z ≠ Str.ofString "told" → z ≠ Str.ofString "k" → z ≠ Str.ofString "place" → z ≠ Str.ofString "length" → m' z = m₀ z) (hp : rdInv bk dk two R a acc') (hm : ix < a) :
    KswEnd h₀ L s (rd3Led rest) rd3Ps (rd3Facts dk) rd3Stored m₀ (fun c => rdInv bk dk two R c.2.2.2.2.2.2.2 c.2.2.2.2.2.1) (fun c => (dk.length - c.2.2.2.2.2.2.2).toNat) (oa, ws, nw, fa, vs, acc, nn, ix) { s with heap := h', toks := tk } := by
  refine ksw_end (oa', ws', nw', fa', vs', acc', nn', a) F N (fun q hq => ?_) ⟨hw, hv⟩ ?_ (fun z _ h2 => ?_) hp ?_
  · rcases List.mem_cons.mp hq with rfl | hq
    · exact ho
    rcases List.mem_cons.mp hq with rfl | hq
    · exact hf
    · exact hrest q hq
  · intro p hp
    simp only [rd3Ps, List.mem_cons, List.not_mem_nil, or_false] at hp
    rcases hp with rfl | rfl
    · exact h1
    · exact h2
  · simp only [rd3Stored, List.contains_cons, List.contains_nil, Bool.or_false, Bool.or_eq_false_iff, beq_eq_false_iff_ne, ne_eq] at h2
    exact hr z h2.1 h2.2.1 h2.2.2.1 h2.2.2.2.1 h2.2.2.2.2.1 h2.2.2.2.2.2.1 h2.2.2.2.2.2.2
  · have := hp.2.1
    show (dk.length - a).toNat < (dk.length - ix).toNat
    omega
end
theorem d3_none1 {bk dk : List Int} (h1 : sizeL dk = none) : readDelta bk dk = none := delta_none1 (by simpa using h1)
theorem d3_none2 {bk dk : List Int} {s1 : Int} {k1 : Nat} (h1 : sizeL dk = some (s1, k1)) (h2 : sizeL (dk.drop k1) = none) : readDelta bk dk = none := delta_none2 (ix1 := (k1 : Int)) (by simpa using h1) (by omega) (by simpa using h2)
theorem d3_none3 {bk dk : List Int} {s1 s2 : Int} {k1 k2 : Nat} (h1 : sizeL dk = some (s1, k1)) (h2 : sizeL (dk.drop k1) = some (s2, k2)) (hs : s1 ≠ bk.length) : readDelta bk dk = none := delta_none3 (ix1 := (k1 : Int)) (by simpa using h1) (by omega) (by simpa using h2) hs
theorem d3_start {bk dk : List Int} {s1 s2 : Int} {k1 k2 : Nat} (ho : Oct dk) (h1 : sizeL dk = some (s1, k1)) (h2 : sizeL (dk.drop k1) = some (s2, k2)) (hs : s1 = bk.length) : rdInv bk dk s2 (readDelta bk dk) ((k1 + k2 : Nat) : Int) [] := by
  have f1 := sizeL_facts ho h1
  have f2 := sizeL_facts (ho.drop _) h2
  rw [List.length_drop] at f2
  refine rd_start (ix1 := (k1 : Int)) (k1 := k1) (k2 := k2) (s1 := s1) (by simpa using h1) (by omega) (by simpa using h2) (by omega) hs f2.1 (by omega)
theorem d3_drop {dk : List Int} {ws : List Value} {k1 k2 : Nat} (h : IntsAre ws ((dk.drop k1).drop k2)) : IntsAre ws (dk.drop (Int.toNat ((k1 + k2 : Nat) : Int))) := by
  rw [List.drop_drop] at h
  exact h
section
variable {prog : Program} {w : World} {A : Around} {E : Value → Shared → Prop} {s : Shared} {h₀ : Heap} {L a b : Addr} {news : List (Addr × Obj)} {ws : List Value} {ks : List Int} {ix : Int} {n n' : Nat}
theorem nil_at (h0 : 0 ≤ ix) : (ks.drop ix.toNat = []) ↔ ¬ ix < ks.length := by
  constructor
  · intro e
    have := congrArg List.length e
    rw [List.length_drop, List.length_nil] at this
    omega
  · intro h
    exact List.drop_of_length_le (by omega)
theorem ne_nil_at {Q : Value → Shared → Prop} (N : News h₀ L s.heap news) (hl : (a, listOf (List.toArray ws) n) ∈ news) (hl' : (b, listOf #[] n') ∈ news) (hi : IntsAre ws (ks.drop ix.toNat)) (h0 : 0 ≤ ix) (hu : A.units + 64 < cLine) (hT : ix < ks.length → Q (.bool true) s) (hF : ¬ ix < ks.length → Q (.bool false) s) :
    wpAny (model prog w) A (compareOp .NotEq (.ref a) (.ref b)) Q E s := by
  refine ne_intsK (News.isList N hl) hi (us := []) (News.isList N hl') .nil hu ?_
  by_cases h : ix < ks.length
  · rw [decide_eq_false (fun e => (nil_at h0).mp e h)]; exact hT h
  · rw [decide_eq_true ((nil_at h0).mpr h)]; exact hF h
theorem eq_nil_at {Q : Value → Shared → Prop} (N : News h₀ L s.heap news) (hl : (a, listOf (List.toArray ws) n) ∈ news) (hl' : (b, listOf #[] n') ∈ news) (hi : IntsAre ws (ks.drop ix.toNat)) (h0 : 0 ≤ ix) (hu : A.units + 64 < cLine) (hF : ix < ks.length → Q (.bool false) s) (hT : ¬ ix < ks.length → Q (.bool true) s) :
    wpAny (model prog w) A (compareOp .Eq (.ref a) (.ref b)) Q E s := by
  refine eq_intsK (News.isList N hl) hi (us := []) (News.isList N hl') .nil hu ?_
  by_cases h : ix < ks.length
  · rw [decide_eq_false (fun e => (nil_at h0).mp e h)]; exact hF h
  · rw [decide_eq_true ((nil_at h0).mpr h)]; exact hT h
theorem getD_drop0 (h0 : 0 ≤ ix) : (ks.drop ix.toNat).getD (Int.toNat 0) 0 = ks.getD ix.toNat 0 := by
  simp [List.getD_eq_getElem?_getD]
theorem item0_at {value slice : PySem.Expr} {u : Tok} {Q : Value → Shared → Prop} (N : News h₀ L s.heap news) (hm : (a, listOf (List.toArray ws) n) ∈ news) (hi : IntsAre ws (ks.drop ix.toNat)) (h0 : 0 ≤ ix) (h1 : ix < ks.length) (h : ∀ t, Q (.int (ks.getD ix.toNat 0) t) s)
    (hs : subscripted slice false (.ref a) (.int 0 u) = operate [.ref a, .int 0 u] (getItem (.ref a) (.int 0 u))) :
    wpAny (model prog w) A (subscriptTail value slice (.ref a) (.int 0 u)) Q E s :=
  ksa_sub N hm hi (Int.le_refl 0) (by rw [List.length_drop]; omega) (by decide) (by rw [getD_drop0 h0]; exact h) hs
end
theorem d3_next {dk : List Int} {ws : List Value} {ix : Int} (h0 : 0 ≤ ix) (h : IntsAre ws ((dk.drop ix.toNat).drop (Int.toNat 1))) : IntsAre ws (dk.drop (ix + 1).toNat) := by
  rw [List.drop_drop] at h
  rw [Int.toNat_add h0 (by decide)]; exact h
theorem ins_eq {dk : List Int} {ix c : Int} (h0 : 0 ≤ ix) (hc : 0 ≤ c) : ((dk.drop ix.toNat).drop (Int.toNat 1)).take c.toNat = cut dk (ix + 1) (ix + 1 + c) := by
  rw [← cut_drop_take dk (ix + 1) c (Int.add_nonneg h0 (by decide)) hc, List.drop_drop, Int.toNat_add h0 (by decide)]
theorem rest_eq {dk : List Int} {ix c : Int} (h0 : 0 ≤ ix) (hc : 0 ≤ c) : ((dk.drop ix.toNat).drop (Int.toNat 1)).drop c.toNat = dk.drop (ix + 1 + c).toNat := by
  rw [List.drop_drop, List.drop_drop, Int.toNat_add (Int.add_nonneg h0 (by decide)) hc, Int.toNat_add h0 (by decide), Nat.add_assoc]
theorem ints_to {us : List Value} {a b : List Int} (h : IntsAre us a) (e : a = b) : IntsAre us b := e ▸ h
theorem bitF_of {c : Int} {j : Nat} (h : (c.fdiv (2 ^ ((j : Nat) : Int).toNat)).fmod 2 = 1) : c / 2 ^ j % 2 = 1 := by
  have pp : (0 : Int) < 2 ^ j := kbt_pos j
  have e : ((j : Nat) : Int).toNat = j := Int.toNat_natCast j
  rw [e, Int.fdiv_eq_ediv_of_nonneg _ (Int.le_of_lt pp), Int.fmod_eq_emod_of_nonneg _ (by decide)] at h
  exact h
theorem bitF_no {c : Int} {j : Nat} (h : (c.fdiv (2 ^ ((j : Nat) : Int).toNat)).fmod 2 ≠ 1) : ¬ c / 2 ^ j % 2 = 1 := by
  have pp : (0 : Int) < 2 ^ j := kbt_pos j
  have e : ((j : Nat) : Int).toNat = j := Int.toNat_natCast j
  rw [e, Int.fdiv_eq_ediv_of_nonneg _ (Int.le_of_lt pp), Int.fmod_eq_emod_of_nonneg _ (by decide)] at h
  exact h
theorem copy0 {sz : Int} (h : sz = 0) : copySz sz = 65536 := if_pos h
theorem copy1 {sz : Int} (h : sz ≠ 0) : copySz sz = sz := if_neg h
section
variable {prog : Program} {w : World} {A : Around} {E : Value → Shared → Prop} {s : Shared} {h₀ : Heap} {L a : Addr} {news : List (Addr × Obj)} {ws : List Value} {ks : List Int} {n : Nat}
theorem len_at {Q : Value → Shared → Prop} (N : News h₀ L s.heap news) (hm : (a, listOf (List.toArray ws) n) ∈ news) (hi : IntsAre ws ks) (hz : ks.length ≤ 100000000) (h : ∀ t k, Q (.int ks.length t) { s with toks := k }) :
    wpAny (model prog w) A (call (.builtin "len") [.ref a]) Q E s := by
  have e : (List.toArray ws).size = ks.length := by rw [List.size_toArray, hi.length]
  refine PyProof.Rows.len_list (News.isList N hm) (by rw [e]; omega) ?_
  rw [e]
  exact h _ _
end
theorem ins_to {dk acc : List Int} {us : List Value} {ix c : Int} (h0 : 0 ≤ ix) (hc : 0 ≤ c) (h : IntsAre us (acc ++ ((dk.drop ix.toNat).drop (Int.toNat 1)).take c.toNat)) : IntsAre us (acc ++ cut dk (ix + 1) (ix + 1 + c)) := by
  rw [ins_eq h0 hc] at h; exact h
theorem rest_to {dk : List Int} {us : List Value} {ix c : Int} (h0 : 0 ≤ ix) (hc : 0 ≤ c) (h : IntsAre us (((dk.drop ix.toNat).drop (Int.toNat 1)).drop c.toNat)) : IntsAre us (dk.drop (ix + 1 + c).toNat) := by
  rw [rest_eq h0 hc] at h; exact h
theorem cp_to {bk acc : List Int} {us : List Value} {i j st z : Int} (h : IntsAre us (acc ++ (bk.drop i.toNat).take (min j.toNat bk.length - i.toNat))) (hi : i = st) (hj : j = st + z) (hb : st + z ≤ bk.length) (h0 : 0 ≤ st) : IntsAre us (acc ++ cut bk st (st + z)) := by
  subst hi hj
  have e : min (i + z).toNat bk.length = (i + z).toNat := by omega
  rw [e] at h
  exact h
theorem tail_len {dk : List Int} {ix : Int} (h0 : 0 ≤ ix) (hl : ix < dk.length) : (((dk.drop ix.toNat).drop (Int.toNat 1)).length : Int) = dk.length - ix - 1 := by
  rw [List.length_drop, List.length_drop]; omega
theorem ins_fits {dk : List Int} {ix c : Int} (h0 : 0 ≤ ix) (hl : ix < dk.length) (h : ¬ (((dk.drop ix.toNat).drop (Int.toNat 1)).length : Int) < c) : ¬ ix + 1 + c > dk.length := by
  rw [tail_len h0 hl] at h; omega
theorem ins_out {dk : List Int} {ix c a t : Int} (h0 : 0 ≤ ix) (hl : ix < dk.length) (h : (((dk.drop ix.toNat).drop (Int.toNat 1)).length : Int) < c) : a > t ∨ ix + 1 + c > dk.length := by
  rw [tail_len h0 hl] at h; exact .inr (by omega)
theorem place_of {f0 f1 f2 f3 : Int} (a0 : 0 ≤ f0 ∧ f0 < 256) (a1 : 0 ≤ f1 ∧ f1 < 256) (a2 : 0 ≤ f2 ∧ f2 < 256) (a3 : 0 ≤ f3 ∧ f3 < 256) : ∃ st, st = f0 + 256 * f1 + 65536 * f2 + 16777216 * f3 ∧ 0 ≤ st ∧ st < 4294967296 := ⟨_, rfl, by omega, by omega⟩
theorem length_of {f4 f5 f6 : Int} (a4 : 0 ≤ f4 ∧ f4 < 256) (a5 : 0 ≤ f5 ∧ f5 < 256) (a6 : 0 ≤ f6 ∧ f6 < 256) : ∃ sz, sz = f4 + 256 * f5 + 65536 * f6 ∧ 0 ≤ sz ∧ sz ≤ 16777215 := ⟨_, rfl, by omega, by omega⟩
end Mine
open PySem PySem.W PyProof.Rows PySem.Calls PySem.Spec
namespace Mine
set_option maxRecDepth 100000
section
variable {prog : Program} {w : World} {A : Around} {E : Value → Shared → Prop} {s : Shared} {b : Array UInt8} {t : Tok}
theorem hint_bytes {Q : Bool → Shared → Prop} (h : Q false s) : wpAny (model prog w) A (Builtin.List.listLengthHint (.bytes b t)) Q E s := by
  unfold Builtin.List.listLengthHint
  refine wpAny_bind (wpAny_specialOf (typeIs_bytes s b t) FB.slot_bytes_len.lookup ?_)
  generalize hid : ("bytes.__len__" : String) = id0
  wp_delta
  rw [show splitId id0 = some ("bytes", "__len__") from by subst hid; decide +kernel]
  subst hid
  refine wpAny_bind (wpAny_isInstance (T := "bytes") (b := true) (typeIs_bytes s b t) (by rw [isSubtype_type]; kernel_rfl) ?_)
  refine wpAny_ite_split (fun hab => absurd hab (by decide)) (fun _ => ?_)
  refine wpAny_ite_split (fun _ => ?_) (fun hab => absurd (by decide +kernel) hab)
  refine wpAny_bind (wpAny_typeOf (typeIs_bytes s b t) ?_)
  exact wpAny_pure h
theorem call_list_bytes {Q : Value → Shared → Prop} (hh : A.handled = none) (hlen : b.size ≤ 2 ^ 24)
    (hQ : ∀ h' tk acc' c', (∀ a o, s.heap.get? a = some o → h'.get? a = some o) →
      h'.get? s.heap.objs.size = some { cls := .type "list", dict := none, data := .seq acc' c', slots := #[] } → ItemsOf (fun i v => ∃ c u, b[i]? = some c ∧ v = .int (c.toNat : Int) u) acc' b.size → Q (.ref s.heap.objs.size) { s with heap := h', toks := tk }) :
    wpAny (model prog w) A (call (.type "list") [.bytes b t]) Q E s := by
  refine callType_codes (Q₁ := fun obj s₁ => obj = .ref s.heap.objs.size ∧ s₁ = { s with heap := s.heap.push { cls := .type "list", data := .seq #[] } }) F.called_list (F.typeCall_list_1 _) F.entry_list_init
    (code_list_new _ ⟨rfl, rfl⟩) fun obj s₁ h₁ => ?_
  obtain ⟨rfl, rfl⟩ := h₁
  have hS : (s.heap.push { cls := .type "list", data := .seq #[] }).get? s.heap.objs.size = some { cls := .type "list", data := .seq #[] } := Heap.get?_push_size _ rfl
  refine ⟨⟨_, hS, rfl⟩, F.args_list_init_2 _ _, ?_⟩
  generalize hSn : s.heap.objs.size = S at hS ⊢
  have hQ' : ∀ h' tk acc' c', (∀ a o, a ≠ S → (s.heap.push { cls := .type "list", data := .seq #[] }).get? a = some o → h'.get? a = some o) → h'.get? S = some { cls := .type "list", dict := none, data := .seq acc' c', slots := #[] } →
      ItemsOf (fun i v => ∃ c u, b[i]? = some c ∧ v = .int (c.toNat : Int) u) acc' b.size → Q (.ref S) { s with heap := h', toks := tk } := fun h' tk acc' c' hk hS' hacc => by
    subst hSn
    exact hQ h' tk acc' c' (fun a o e => hk a o (Nat.ne_of_lt (Heap.lt_size e)) (Heap.get?_push_of_some _ e)) hS' hacc
  clear hQ
  generalize hhp : s.heap.push { cls := .type "list", data := .seq #[] } = hp at hS hQ' ⊢
  show wpAny _ _ (do let old ← Builtin.List.listItems (.ref S); Builtin.List.listUpdate (.ref S) (fun _ => #[]); letGo old.toList.reverse; Builtin.List.listExtendWith (.ref S) (.bytes b t) .none) _ _ _
  refine wpAny_bind ?_
  unfold Builtin.List.listItems
  refine wpAny_bind (wpAny_seqItems hS rfl (wpAny_pure ?_))
  show wpAny _ _ (updateSeq S (fun _ => #[]) >>= fun _ => letGo (#[] : Array Value).toList.reverse >>= fun _ => Builtin.List.listExtendWith (.ref S) (.bytes b t) .none) _ _ _
  refine wpAny_bind (wpAny_updateSeq hS rfl ?_)
  have hS₂ := Heap.get?_update_self (Obj.mapSeq (fun _ => (#[] : Array Value))) hS rfl
  have oth : ∀ a o, a ≠ S → hp.get? a = some o → (hp.update S (Obj.mapSeq (fun _ => (#[] : Array Value)))).get? a = some o :=
    fun a o hb e => (Heap.get?_update_other _ _ (Ne.symm hb)).trans e
  refine wpAny_bind (wpAny_letGo ?_)
  generalize hp.update S (Obj.mapSeq (fun _ => (#[] : Array Value))) = h2 at hS₂ oth ⊢
  have hSlt : S < h2.objs.size := Heap.lt_size hS₂
  have hSI : S ≠ h2.objs.size := Nat.ne_of_lt hSlt
  have hSf : S ∉ [h2.objs.size] := fun hm => hSI (List.mem_singleton.mp hm)
  have W := (KBw.walks (prog := prog) (w := w) (A := A.in1.in1) hh h2.objs.size b t).toS
  unfold Builtin.List.listExtendWith
  refine wpAny_bind (wpAny_typeOf (typeIs_bytes _ b t) ?_)
  have h1 : Builtin.List.listSameRef (.ref S) (.bytes b t) = false := rfl
  have h2' : (Value.type "bytes" == Value.type "list") = false := by decide
  have h3 : (Value.type "bytes" == Value.type "tuple") = false := by decide
  simp only [h1, h2', h3, Bool.or_false, Bool.false_eq_true, if_false]
  refine wpAny_bind (KBw.pyIter_bytes ?_)
  refine wpAny_bind (wpAny_holding (hint_bytes ?_))
  refine wpAny_ite_split (fun hab => absurd hab (by decide)) (fun _ => wpAny_pure ⟨plainId_quiet F.plain_extend_loop _, ?_⟩)
  have hit₁ : KBw.IsBytesIter (h2.push { cls := .type "bytes_iterator", data := .fields #[.bytes b t, .int 0 0] }) h2.objs.size b t 0 := ⟨_, Heap.get?_push_size _ rfl, rfl, rfl⟩
  have hS₁ := Heap.get?_push_of_some { cls := .type "bytes_iterator", data := .fields #[.bytes b t, .int 0 0] } hS₂
  refine codeAny_extend_loopS W (by rw [sizeLine_eq]; omega) S hSf .none b.size 0 _ #[] _ rfl (Nat.zero_le _) hit₁ hS₁ (ItemsOf.nil _) fun s' acc' c' hm hS' hacc => ?_
  rw [Moved.eq_with hm]
  refine ⟨rfl, hQ' s'.heap s'.toks acc' c' (fun a o hb e => hm.heap a o (fun hmem => ?_) (Heap.get?_push_of_some _ (oth a o hb e))) hS' hacc⟩
  rcases List.mem_cons.mp hmem with e' | hmem
  · exact hb e'
  · exact absurd (Heap.lt_size (oth a o hb e)) (by rw [List.mem_singleton.mp hmem]; exact Nat.lt_irrefl _)
end
theorem items_ints : ∀ (vs : List Value) (b : List UInt8), vs.length = b.length → (∀ (j : Nat) (v : Value), vs[j]? = some v → ∃ c u, b[j]? = some c ∧ v = .int (c.toNat : Int) u) → IntsAre vs (b.map fun c => ((c.toNat : Nat) : Int))
  | [], [], _, _ => IntsAre.nil
  | [], _ :: _, e, _ => by cases e
  | _ :: _, [], e, _ => by cases e
  | v :: r, c :: q, e, h => by
    obtain ⟨c', u, h1, h2⟩ := h 0 v rfl
    have hc : c = c' := Option.some.inj h1
    subst hc h2
    exact IntsAre.cons _ _ (items_ints r q (Nat.succ.inj e) fun j v hj => h (j + 1) v hj)
section
variable {prog : Program} {w : World} {A : Around} {E : Value → Shared → Prop} {s : Shared} {h₀ : Heap} {L : Addr} {m : Str → Option Value} {news : List (Addr × Obj)} {b : Array UInt8} {t : Tok} {ks : List Int}
theorem list_bytes {Q : Value → Shared → Prop} (hh : A.handled = none) (F : Fr h₀ L s.heap m) (N : News h₀ L s.heap news) (hk : KBw.bInts b = ks) (hz : ks.length ≤ 16777216)
    (h : ∀ D us c h' tk, Fr h₀ L h' m → News h₀ L h' ((D, listOf (List.toArray us) c) :: news) → (∀ p ∈ news, p.1 < D) → IntsAre us ks → Q (.ref D) { s with heap := h', toks := tk }) :
    wpAny (model prog w) A (call (.type "list") [.bytes b t]) Q E s := by
  subst hk
  have hsz : b.size ≤ 2 ^ 24 := by rw [KBw.ints_length] at hz; exact hz
  refine call_list_bytes hh hsz fun h' tk acc c hk hD hI => ?_
  have hD' : h'.get? s.heap.objs.size = some (listOf (List.toArray acc.toList) c) := by
    rw [Array.toArray_toList]
    exact hD
  refine h _ acc.toList c h' tk (F.keeps hk) (news_pushed F N hk hD' rfl) (fun p hp => Heap.lt_size (N p hp).1) ?_
  exact items_ints _ _ (by rw [Array.length_toList, Array.length_toList]; exact hI.1) fun j v hj => by
    obtain ⟨c, u, h1, h2⟩ := hI.2 j v (by rw [← hj, Array.getElem?_toList])
    exact ⟨c, u, by rw [Array.getElem?_toList]; exact h1, h2⟩
end
end Mine
open PySem PySem.W PyProof.Rows PySem.Calls PySem.Spec
namespace Mine
set_option maxRecDepth 100000
theorem ops_len (bk : List Int) : ∀ (n : Nat) (r : List Int) (rem : Int) (acc t : List Int), opsL bk n r rem acc = some t → t.length ≤ acc.length + (bk.length + 1) * r.length
  | 0, _, _, _, _, h => by cases h
  | n + 1, [], rem, acc, t, h => by
    unfold opsL at h
    simp only [Option.ite_none_right_eq_some, Option.some.injEq] at h
    rw [h.2]; simp
  | n + 1, c :: q, rem, acc, t, h => by
    rw [opsL_cons] at h
    split at h
    · split at h
      · cases h
      · rename_i off q1 h1
        split at h
        · cases h
        · rename_i sz q2 h2
          have l1 := fieldsL_len h1
          have l2 := fieldsL_len h2
          split at h
          · simp only [Option.ite_none_right_eq_some, Option.some.injEq] at h
            rw [← h.2]; simp
          · have ih := ops_len bk n _ _ _ _ h
            have lc := cut_len_le bk off (off + copySz sz)
            have m1 : (bk.length + 1) * q2.length ≤ (bk.length + 1) * q.length := Nat.mul_le_mul_left _ (by omega)
            rw [List.length_append] at ih
            rw [List.length_cons, Nat.mul_add, Nat.mul_one]
            omega
    · split at h
      · cases h
      · split at h
        · cases h
        · have ih := ops_len bk n _ _ _ _ h
          rw [List.length_append, List.length_take, List.length_drop] at ih
          have m2 : (bk.length + 1) * q.length = (bk.length + 1) * (q.length - c.toNat) + (bk.length + 1) * (min c.toNat q.length) := by
            rw [← Nat.mul_add]; congr 1; omega
          have m3 : min c.toNat q.length ≤ (bk.length + 1) * (min c.toNat q.length) := Nat.le_mul_of_pos_left _ (Nat.succ_pos _)
          rw [List.length_cons, Nat.mul_add, Nat.mul_one]
          omega
theorem readDelta_len {bk dk t : List Int} (h : readDelta bk dk = some t) : t.length ≤ (bk.length + 1) * dk.length := by
  unfold readDelta at h
  split at h
  · cases h
  · split at h
    · cases h
    · split at h
      · have := ops_len _ _ _ _ _ _ h
        rw [List.length_drop, List.length_nil, Nat.zero_add] at this
        exact Nat.le_trans this (Nat.mul_le_mul_left _ (by omega))
      · cases h
end Mine
open PySem PySem.W PyProof.Rows PySem.Calls PySem.Spec
namespace Mine
set_option maxRecDepth 100000
section
variable {prog : Program} {w : World} {A : Around} {E : Value → Shared → Prop} {Q : Flow → Shared → Prop} {s : Shared} {env : Env} {h₀ : Heap} {L : Addr}
theorem execs_app {M : Model} {b : List Stmt} : ∀ (a : List Stmt) {s : Shared}, wpAny M A (execs a env) (fun f s' => match f with | .next => wpAny M A (execs b env) Q E s' | f => Q f s') E s → wpAny M A (execs (a ++ b) env) Q E s := by
  have key : ∀ (a : List Stmt) (Γ : PySem.Ctx) (p : Pos) (s : Shared), Γ.In A → Sem.wp M Γ (execs a env) (fun f _ s' => match f with | .next => wpAny M A (execs b env) Q E s' | f => Q f s') (fun e _ s' => E e s') p s →
      Sem.wp M Γ (execs (a ++ b) env) (fun f _ s' => Q f s') (fun e _ s' => E e s') p s := by
    intro a
    induction a with
    | nil => intro Γ p s hΓ h; exact h Γ p hΓ
    | cons st r ih =>
      intro Γ p s hΓ h
      rw [execs_cons, Sem.wp_bind'] at h
      rw [List.cons_append, execs_cons, Sem.wp_bind']
      refine Sem.wp_mono M Γ _ (fun f p' s' h' => ?_) (fun _ _ _ h' => h') _ _ h
      cases f <;> first | exact ih Γ p' s' hΓ h' | exact h'
  exact fun a s h Γ p hΓ => key a Γ p s hΓ (h Γ p hΓ)
end
end Mine
open PySem PySem.W PyProof.Rows PySem.Calls PySem.Spec
namespace Mine
set_option maxRecDepth 100000
section
variable {prog : Program} {w : World} {A : Around} {E : Value → Shared → Prop} {Q : Flow → Shared → Prop} {s : Shared} {env : Env} {h₀ : Heap} {L : Addr}
/-- what a statement leaves that lays an int under a name -/
def IntPst (h₀ : Heap) (L : Addr) (keep : List (Addr × Obj)) (x : Str) (P : Int → Prop) (m₀ : Str → Option Value) (s : Shared) (f : Flow) (s₂ : Shared) : Prop :=
  ∃ h' tk m' news' v t, f = .next ∧ s₂ = { s with heap := h', toks := tk } ∧ Fr h₀ L h' m' ∧ News h₀ L h' news' ∧ (∀ q ∈ keep, q ∈ news') ∧ P v ∧ m' x = some (.int v t) ∧ (∀ z, z ≠ x → m' z = m₀ z)
theorem cut_int {stmt : Stmt} {m₀ : Str → Option Value} {news : List (Addr × Obj)} (keep : List (Addr × Obj)) (x : Str) (P : Int → Prop) (_F : Fr h₀ L s.heap m₀) (_N : News h₀ L s.heap news) (_hk : ∀ q ∈ keep, q ∈ news)
    (hS : wpAny (model prog w) A (exec stmt env) (IntPst h₀ L keep x P m₀ s) E s)
    (hrest : ∀ (u : Str → Option Value) h tk v t, P v → Fr h₀ L h (kstB (fun z => if [x].contains z then u z else m₀ z) [(x, .int v t)]) → News h₀ L h keep → Q .next { s with heap := h, toks := tk }) :
    wpAny (model prog w) A (exec stmt env) Q E s := by
  refine wpAny_mono hS (fun f s₂ h => ?_) fun _ _ z => z
  obtain ⟨h', tk, m', news', v, t, rfl, rfl, F2, N2, a1, a2, a3, a4⟩ := h
  refine hrest m' h' tk v t a2 (ksw_fr ?_ ?_ F2) (fun q hq => N2 q (a1 q hq))
  · intro p hp
    rw [List.mem_singleton.mp hp]; exact a3
  · intro z hz _
    exact a4 z (hz _ (List.mem_singleton.mpr rfl))
theorem int_pst {keep news' : List (Addr × Obj)} {x : Str} {P : Int → Prop} {m₀ m' : Str → Option Value} {h' : Heap} {tk : Nat} {v : Int} {t : Tok} (F2 : Fr h₀ L h' m') (N2 : News h₀ L h' news') (a1 : ∀ q ∈ keep, q ∈ news') (a3 : m' x = some (.int v t)) (a2 : P v) (a4 : ∀ z, z ≠ x → m' z = m₀ z) :
    IntPst h₀ L keep x P m₀ s .next { s with heap := h', toks := tk } := ⟨_, _, _, _, _, _, rfl, rfl, F2, N2, a1, a2, a3, a4⟩
/-- what statements leave that lay a list of ints under a name -/
def LstPst (h₀ : Heap) (L : Addr) (keep : List (Addr × Obj)) (x : Str) (P : List Int → Prop) (away : List Addr) (m₀ : Str → Option Value) (s : Shared) (f : Flow) (s₂ : Shared) : Prop :=
  ∃ h' tk m' news' lo vs os nn, f = .next ∧ s₂ = { s with heap := h', toks := tk } ∧ Fr h₀ L h' m' ∧ News h₀ L h' news' ∧ (∀ q ∈ keep, q ∈ news') ∧ (lo, listOf (List.toArray vs) nn) ∈ news' ∧ IntsAre vs os ∧ P os ∧ (∀ b ∈ away, @Ne Nat lo b) ∧ m' x = some (.ref lo) ∧ (∀ z, z ≠ x → m' z = m₀ z)
theorem lst_use {m₀ : Str → Option Value} {keep : List (Addr × Obj)} {x : Str} {P : List Int → Prop} {away : List Addr} {R : Shared → Prop}
    (hrest : ∀ (u : Str → Option Value) h tk lo vs os nn, IntsAre vs os → P os → (∀ b ∈ away, @Ne Nat lo b) → Fr h₀ L h (kstB (fun z => if [x].contains z then u z else m₀ z) [(x, .ref lo)]) → News h₀ L h ((lo, listOf (List.toArray vs) nn) :: keep) → R { s with heap := h, toks := tk })
    {f : Flow} {s₂ : Shared} (h : LstPst h₀ L keep x P away m₀ s f s₂) : f = .next ∧ R s₂ := by
  obtain ⟨h', tk, m', news', lo, vs, os, nn, rfl, rfl, F2, N2, a1, a2, a3, a4, a5, a6, a7⟩ := h
  refine ⟨rfl, hrest m' h' tk lo vs os nn a3 a4 a5 (ksw_fr ?_ ?_ F2) (fun q hq => ?_)⟩
  · intro p hp
    rw [List.mem_singleton.mp hp]; exact a6
  · intro z hz _
    exact a7 z (hz _ (List.mem_singleton.mpr rfl))
  · rcases List.mem_cons.mp hq with rfl | hq
    · exact N2 _ a2
    · exact N2 q (a1 q hq)
theorem cut_lst {stmt : Stmt} {m₀ : Str → Option Value} {news : List (Addr × Obj)} (keep : List (Addr × Obj)) (x : Str) (P : List Int → Prop) (away : List Addr) (_F : Fr h₀ L s.heap m₀) (_N : News h₀ L s.heap news) (_hk : ∀ q ∈ keep, q ∈ news)
    (hS : wpAny (model prog w) A (exec stmt env) (LstPst h₀ L keep x P away m₀ s) E s)
    (hrest : ∀ (u : Str → Option Value) h tk lo vs os nn, IntsAre vs os → P os → (∀ b ∈ away, @Ne Nat lo b) → Fr h₀ L h (kstB (fun z => if [x].contains z then u z else m₀ z) [(x, .ref lo)]) → News h₀ L h ((lo, listOf (List.toArray vs) nn) :: keep) → Q .next { s with heap := h, toks := tk }) :
    wpAny (model prog w) A (exec stmt env) Q E s := by
  refine wpAny_mono hS (fun f s₂ h => ?_) fun _ _ z => z
  obtain ⟨rfl, h2⟩ := lst_use (R := fun s' => Q .next s') hrest h
  exact h2
theorem cut_lst3 {a1 a2 a3 : Stmt} {rest : List Stmt} {m₀ : Str → Option Value} {news : List (Addr × Obj)} (keep : List (Addr × Obj)) (x : Str) (P : List Int → Prop) (away : List Addr) (_F : Fr h₀ L s.heap m₀) (_N : News h₀ L s.heap news) (_hk : ∀ q ∈ keep, q ∈ news)
    (hS : wpAny (model prog w) A (execs [a1, a2, a3] env) (LstPst h₀ L keep x P away m₀ s) E s)
    (hrest : ∀ (u : Str → Option Value) h tk lo vs os nn, IntsAre vs os → P os → (∀ b ∈ away, @Ne Nat lo b) → Fr h₀ L h (kstB (fun z => if [x].contains z then u z else m₀ z) [(x, .ref lo)]) → News h₀ L h ((lo, listOf (List.toArray vs) nn) :: keep) → wpAny (model prog w) A (execs rest env) Q E { s with heap := h, toks := tk }) :
    wpAny (model prog w) A (execs (a1 :: a2 :: a3 :: rest) env) Q E s := by
  refine execs_app [a1, a2, a3] (wpAny_mono hS (fun f s₂ h => ?_) fun _ _ z => z)
  obtain ⟨rfl, h2⟩ := lst_use (R := fun s' => wpAny (model prog w) A (execs rest env) Q E s') hrest h
  exact h2
theorem lst_pst {keep news' : List (Addr × Obj)} {x : Str} {P : List Int → Prop} {away : List Addr} {m₀ m' : Str → Option Value} {h' : Heap} {tk : Nat} {lo : Addr} {vs : List Value} {os : List Int} {nn : Nat} (F2 : Fr h₀ L h' m') (N2 : News h₀ L h' news') (a6 : m' x = some (.ref lo)) (a1 : ∀ q ∈ keep, q ∈ news') (a2 : (lo, listOf (List.toArray vs) nn) ∈ news') (a3 : IntsAre vs os) (a4 : P os) (a5 : ∀ b ∈ away, @Ne Nat lo b) (a7 : ∀ z, z ≠ x → m' z = m₀ z) :
    LstPst h₀ L keep x P away m₀ s .next { s with heap := h', toks := tk } := ⟨_, _, _, _, _, _, _, _, rfl, rfl, F2, N2, a1, a2, a3, a4, a5, a6, a7⟩
end
theorem abs_nn (x : Int) : 0 ≤ (if x < 0 then -x else x) := by split <;> omega
theorem abs_all (ns : List Int) : ∀ x ∈ ns.map (fun k => if k < 0 then -k else k), 0 ≤ x := fun x hx => by
  obtain ⟨k, _, rfl⟩ := List.mem_map.mp hx
  exact abs_nn k
theorem menu4 (i : Nat) : 0 ≤ [(0 : Int), 0, 1, 0].getD i 0 ∧ [(0 : Int), 0, 1, 0].getD i 0 ≤ 1 := by
  match i with
  | 0 | 1 | 2 | 3 => decide
  | n + 4 => exact ⟨by simp, by simp⟩
theorem fdiv_bd {x d b : Int} (h0 : 0 ≤ x) (hd : 0 < d) (hb : x < d * (b + 1)) : 0 ≤ x.fdiv d ∧ x.fdiv d ≤ b := by
  rw [Int.fdiv_eq_ediv_of_nonneg _ (Int.le_of_lt hd)]
  have h1 : 0 ≤ x / d := Int.ediv_nonneg h0 (Int.le_of_lt hd)
  have h2 : x / d < b + 1 := Int.ediv_lt_of_lt_mul hd (by rw [Int.mul_comm]; exact hb)
  omega
theorem fdiv_nn {x d : Int} (h0 : 0 ≤ x) (hd : 0 < d) : 0 ≤ x.fdiv d := by
  rw [Int.fdiv_eq_ediv_of_nonneg _ (Int.le_of_lt hd)]
  exact Int.ediv_nonneg h0 (Int.le_of_lt hd)
theorem oct_take {ns : List Int} (h : Oct ns) (k : Nat) : Oct (ns.take k) := fun y hy => h y (List.mem_of_mem_take hy)
theorem oct_drop' {ns : List Int} (h : Oct ns) (k : Nat) : Oct (ns.drop k) := fun y hy => h y (List.mem_of_mem_drop hy)
theorem oct_single {x : Int} (h0 : 0 ≤ x) (h1 : x < 256) : Oct [x] := fun y hy => by rw [List.mem_singleton.mp hy]; exact ⟨h0, h1⟩
end Mine
open PySem PySem.W PyProof.Rows PySem.Calls PySem.Spec
namespace Mine
set_option maxRecDepth 100000
theorem news_push {g h : Heap} {L l : Addr} {vs : List Value} {v : Value} {n : Nat} {r : List (Addr × Obj)} (N : News g L h ((l, listOf ((List.toArray vs).push v) n) :: r)) : News g L h ((l, listOf (List.toArray (vs ++ [v])) n) :: r) := by
  rwa [List.push_toArray] at N
theorem oct_set {ns : List Int} {j : Nat} {x : Int} (h : Oct ns) (h0 : 0 ≤ x) (h1 : x < 256) : Oct (ns.set j x) := fun y hy => by
  rcases List.mem_or_eq_of_mem_set hy with hy | hy
  · exact h y hy
  · rw [hy]; exact ⟨h0, h1⟩
theorem last_get (ns : List Int) (x : Int) : (ns ++ [x]).getD (((ns.length + 1 : Nat) : Int) - 1).toNat 0 = x := by
  have e : (((ns.length + 1 : Nat) : Int) - 1).toNat = ns.length := by omega
  rw [e, List.getD_eq_getElem?_getD, List.getElem?_append_right (Nat.le_refl _), Nat.sub_self]; rfl
theorem oct_last {ns : List Int} {sz : Int} (h : Oct ns) (h0 : 0 ≤ sz) (h1 : ¬ 127 < sz) :
    Oct (((ns ++ [sz]).set (((ns.length + 1 : Nat) : Int) - 1).toNat ((ns ++ [sz]).getD (((ns.length + 1 : Nat) : Int) - 1).toNat 0 + 128)) ++ [0]) := by
  rw [last_get]
  exact oct_one (oct_set (oct_one h h0 (by omega)) (by omega) (by omega)) (by decide) (by decide)
set_option maxHeartbeats 8000000 in
theorem size3_spec (w : World) {p : Program} {loose : List Str} {mean : ExcName → Option Value} {mg mb : Str → Option Value}
   {base : Heap} (X₀ : (hd.heap_39 w.params).In base) (T₀ : Top p loose mean mg mb base)
   (dp un : Nat) (gd : Option (List Code)) (l : List Env) (hdp : dp + 15 < recursionLimit)
   {n0 mr : Int} {t0 tm : Tok} (h0 : 0 ≤ n0) (h1 : n0 < 268435456) (hm0 : 0 ≤ mr) (hm1 : mr ≤ 1) :
   Spec PySem.Challenge.rw_jq0004_03.row.prog w (aTop dp un gd l) base l (.ref 61) [.int n0 t0, .int mr tm] []
     (fun v n' => ∃ D vs ns nn, v = .ref D ∧ n' = [(D, listOf (List.toArray vs) nn)] ∧ IntsAre vs ns ∧ Oct ns ∧ 1 ≤ ns.length ∧ ns.length ≤ 7) (.ref 32) (fun _ => False) := by
  have hfill : (fun _ : OpenLaw => hd.heap_39) PySem.Challenge.rw_jq0004_03 = hd.heap_39 := by (k_fill; rfl)
  clear hfill
  intro g s Q E B hg hsz N hret hexc
  have X := X₀.keeps B.stays
  have T := T₀.keeps B.stays
  rcases (show mr = 0 ∨ mr = 1 by omega) with rfl | rfl
  all_goals refine wpAny_call ?_
  all_goals k_dflt (refine' enter_def hg hsz N X T ?k6 ?k7 ?k8 ?k9 ?kB ?_ ?c2 ?c3 ?c4 ?c5; (case k6 => k_is); (case k7 => k_is); (case k8 => ktr_room); (case k9 => exact BindsTo.of_eq rfl); (case c5 => decide); (case kB => exact locs rfl); (case c2 => exact rfl); (case c3 => exact rfl); (case c4 => exact rfl); k_whole; intro L' h' F' N' l1; (try k_lt l1); (try dsimp only); (try k_fold))
  k_with_none
  k_with "execs cons" => k_fold
  k_with "eval Call" => k_fold
  k_with "storeName" => (k_here; k_dflt (first | (refine' storeI_L ?F ?N ?_ ?a ?b; (case F => k_asm); (case N => k_asm); (case a => rfl); (case b => rfl); k_whole; intro h' tk' t' F' N'; (try k_sweep); (try dsimp only); (try k_fold)) | (refine' storeB_L ?F ?N ?_ ?a ?b; (case F => k_asm); (case N => k_asm); (case a => rfl); (case b => rfl); k_whole; intro h' tk' t' F' N'; (try k_sweep); (try dsimp only); (try k_fold)) | (refine' storeG_L ?F ?N ?_ ?a ?b; (case F => k_asm); (case N => k_asm); (case a => rfl); (case b => rfl); k_whole; intro h' tk' F' N'; (try k_sweep); (try dsimp only); (try k_fold))))
  k_with "exec While Compare cons nil" => (k_extra "while")
  k_with "KswEnd" => (first | k_extra "turn" | exact oct_end (by assumption) (by assumption) (List.Mem.head _) rfl (by intro z a1; simp [kstB, a1]) (by assumption) (octInv_nextF (by assumption) (by assumption)) (fdiv_lt (by assumption)).1 (fdiv_lt (by assumption)).2)
  k_with "call builtin:list.append" => (k_here; k_dflt (refine' append_K ?k1 ?k2 ?k3 ?_ ?z; (case k1 => k_asm); (case k2 => k_asm); (case k3 => k_upd); (case z => k_extra "append"); k_whole); intro h' F' N'; (try k_sweep); (try simp only [List.push_toArray] at N'); k_extra "appended")
  k_with "k_ix" => ((try simp only [List.length_append, List.length_cons, List.length_nil, List.length_set]); omega)
  k_with "setItem ref int" => (k_here; (with_reducible show wpAny _ _ (PySem.setItem (Value.ref _) (Value.int _ _) (Value.int _ _)) _ _ _); k_dflt (refine' ksa_set ?k1 ?k2 ?k3 ?k4 ?k5 ?k6 ?k7 ?_; (case k1 => k_asm); (case k2 => k_asm); (case k3 => k_upd); (case k4 => exact IntsAre.append (by assumption) (.cons _ _ .nil)); (case k5 => walk_at "k_ix"); (case k6 => walk_at "k_ix"); (case k7 => walk_at "k_ix"); k_whole); intro h' F' N' hi' hl' hs'; (try k_sweep))
  k_with "while" => ((rename Fr _ _ _ _ => kF); (rename News _ _ _ _ => kN); k_dflt (refine' oct_loop (Str.ofString "number") kF kN ?hlo ?h1 ?hi ?_ ?hE; (case hlo => k_mem); (case h1 => exact rfl); (case hi => exact octInv_start h0 h1); (case hE => first | passes_own | with_unfolding_all passes_own)); (intro sz szt vs ns nn kU kH kTk hvs kInv kFr kNews); (have kInv' := kInv); (obtain ⟨kk, hj1, hj2, hj3, hj4, hj5⟩ := kInv'); (try dsimp only); (try k_fold))
  k_with "append" => (first | (rw [List.size_toArray, IntsAre.length (by assumption), sizeLine_eq]; (try simp only [List.length_append, List.length_set, List.length_cons, List.length_nil]); omega))
  k_with "appended" => ((with_reducible rename IntsAre _ _ => hI8); (have hI7 := IntsAre.append hI8 (.cons _ _ .nil)))
  all_goals k_steps
  all_goals (try exact oct_end (by assumption) (by assumption) (List.Mem.head _) rfl (by intro z a1; simp [kstB, a1]) (by assumption) (octInv_nextF kInv (by assumption)) (fdiv_lt (by assumption)).1 (fdiv_lt (by assumption)).2)
  · exact hret _ _ _ _ ⟨_, _, _, _, rfl, rfl, IntsAre.append (by assumption) (.cons _ _ .nil), oct_one hj5 hj3 (by omega), by walk_at "k_ix", by walk_at "k_ix"⟩ (Fr.keep (by assumption)) (Led.of_news (by assumption))
  · exact hret _ _ _ _ ⟨_, _, _, _, rfl, rfl, IntsAre.append (by assumption) (.cons _ _ .nil), oct_last hj5 hj3 (by assumption), by walk_at "k_ix", by walk_at "k_ix"⟩ (Fr.keep (by assumption)) (Led.of_news (news_push (by assumption)))
end Mine
open PySem PySem.W PyProof.Rows PySem.Calls PySem.Spec
namespace Mine
set_option maxRecDepth 100000
def cpInv (j : Nat) (ns : List Int) : Prop := Oct ns ∧ 1 ≤ ns.length ∧ ns.length ≤ j + 1 ∧ ns.getD 0 0 < 128 + 2 ^ j
theorem cpInv_start : cpInv 0 [128] := ⟨fun y hy => by rw [List.mem_singleton.mp hy]; decide, by decide, by decide, by decide⟩
theorem cpInv_skip {j : Nat} {ns : List Int} (h : cpInv j ns) : cpInv (j + 1) ns := by
  obtain ⟨h1, h2, h3, h4⟩ := h
  have p1 : (2 : Int) ^ (j + 1) = 2 ^ j * 2 := Int.pow_succ ..
  have pp : (0 : Int) < 2 ^ j := kbt_pos j
  exact ⟨h1, h2, by omega, by rw [p1]; omega⟩
theorem cpInv_take {j : Nat} {ns : List Int} {v : Int} (h : cpInv j ns) (hj : j < 7) (h0 : 0 ≤ v) (h1' : v < 256) : cpInv (j + 1) (ns.set (Int.toNat 0) (ns.getD (Int.toNat 0) 0 + 2 ^ ((j : Nat) : Int).toNat) ++ [v]) := by
  obtain ⟨h1, h2, h3, h4⟩ := h
  have e : ((j : Nat) : Int).toNat = j := Int.toNat_natCast j
  rw [e, show Int.toNat 0 = 0 from rfl]
  have p1 : (2 : Int) ^ (j + 1) = 2 ^ j * 2 := Int.pow_succ ..
  have pp : (0 : Int) < 2 ^ j := kbt_pos j
  have p7 : (2 : Int) ^ j ≤ 64 := by
    have : ∀ k : Fin 7, (2 : Int) ^ k.val ≤ 64 := by decide
    exact this ⟨j, hj⟩
  have hg := h1.getD 0
  refine ⟨oct_one (oct_set h1 (by omega) (by omega)) h0 h1', by rw [List.length_append, List.length_set]; omega, by rw [List.length_append, List.length_set, List.length_singleton]; omega, ?_⟩
  cases ns with
  | nil => exact absurd h2 (by decide)
  | cons a r =>
    simp only [List.set_cons_zero, List.cons_append, List.getD_cons_zero] at h4 hg ⊢
    omega
theorem fmod_bd (a : Int) {k : Int} (hk : 0 < k) : 0 ≤ a.fmod k ∧ a.fmod k < k := by
  rw [Int.fmod_eq_emod_of_nonneg _ (Int.le_of_lt hk)]
  exact ⟨Int.emod_nonneg _ (by omega), Int.emod_lt_of_pos _ hk⟩
theorem pow_ne (n : Nat) : (256 : Int) ^ n ≠ 0 := Int.pow_ne_zero (by decide)
section
variable {prog : Program} {w : World} {A : Around} {s : Shared} {E : Value → Shared → Prop}
theorem fdiv_256 {a e : Int} {t u : Tok} {Q : Value → Shared → Prop} (he : e ≤ 3) (h : ∀ t' k, Q (.int (a.fdiv (256 ^ e.toNat)) t') { s with toks := k }) : wpAny (model prog w) A (binaryOp .FloorDiv (.int a t) (.int (256 ^ e.toNat) u)) Q E s := by
  refine PyProof.Rows.floordiv_int (pow_ne _) (h _ _) (Or.inl (PyProof.noPylong_small ?_))
  have : ∀ k : Fin 4, ((256 : Int) ^ k.val).natAbs < 1073741824 := by decide
  exact this ⟨e.toNat, by omega⟩
end
theorem cp_off {m₀ m' : Str → Option Value} (h : ∀ z : Str, z ≠ Str.ofString "k" → z ≠ Str.ofString "value" → m' z = m₀ z) : ∀ z : Str, [Str.ofString "k", Str.ofString "value"].contains z = false → m' z = m₀ z := fun z hs => by
  simp only [List.contains_cons, List.contains_nil, Bool.or_false, Bool.or_eq_false_iff, beq_eq_false_iff_ne, ne_eq] at hs
  exact h z hs.1 hs.2
set_option maxHeartbeats 8000000 in
theorem copy3_spec (w : World) {p : Program} {loose : List Str} {mean : ExcName → Option Value} {mg mb : Str → Option Value}
   {base : Heap} (X₀ : (hd.heap_39 w.params).In base) (T₀ : Top p loose mean mg mb base)
   (dp un : Nat) (gd : Option (List Code)) (l : List Env) (hdp : dp + 15 < recursionLimit)
   {pl ln nd : Int} {t1 t2 t3 : Tok} (hp0 : 0 ≤ pl) (hp1 : pl < 4294967296) (hl0 : 0 ≤ ln) (hl1 : ln < 4294967296) (hn0 : 0 ≤ nd) (hn1 : nd < 4294967296) :
   Spec PySem.Challenge.rw_jq0004_03.row.prog w (aTop dp un gd l) base l (.ref 68) [.int pl t1, .int ln t2, .int nd t3] []
     (fun v n' => ∃ D vs ns nn, v = .ref D ∧ n' = [(D, listOf (List.toArray vs) nn)] ∧ IntsAre vs ns ∧ Oct ns ∧ 1 ≤ ns.length ∧ ns.length ≤ 8) (.ref 32) (fun _ => False) := by
  have hfill : (fun _ : OpenLaw => hd.heap_39) PySem.Challenge.rw_jq0004_03 = hd.heap_39 := by (k_fill; rfl)
  clear hfill
  intro g s Q E B hg hsz N hret hexc
  have X := X₀.keeps B.stays
  have T := T₀.keeps B.stays
  refine wpAny_call ?_
  k_dflt (refine' enter_def hg hsz N X T ?k6 ?k7 ?k8 ?k9 ?kB ?_ ?c2 ?c3 ?c4 ?c5; (case k6 => k_is); (case k7 => k_is); (case k8 => ktr_room); (case k9 => exact BindsTo.of_eq rfl); (case c5 => decide); (case kB => exact locs rfl); (case c2 => exact rfl); (case c3 => exact rfl); (case c4 => exact rfl); k_whole; intro L' h' F' N' l1; (try k_lt l1); (try dsimp only); (try k_fold))
  k_with_none
  k_with "execs cons" => k_fold
  k_with "eval Call" => k_fold
  k_with "storeName" => (k_here; k_dflt (first | (refine' storeI_L ?F ?N ?_ ?a ?b; (case F => k_asm); (case N => k_asm); (case a => rfl); (case b => rfl); k_whole; intro h' tk' t' F' N'; (try k_sweep); (try dsimp only); (try k_fold)) | (refine' storeB_L ?F ?N ?_ ?a ?b; (case F => k_asm); (case N => k_asm); (case a => rfl); (case b => rfl); k_whole; intro h' tk' t' F' N'; (try k_sweep); (try dsimp only); (try k_fold)) | (refine' storeG_L ?F ?N ?_ ?a ?b; (case F => k_asm); (case N => k_asm); (case a => rfl); (case b => rfl); k_whole; intro h' tk' F' N'; (try k_sweep); (try dsimp only); (try k_fold))))
  k_with "exec For Name Call cons nil" => (k_extra "for")
  k_with "pyIter ref" => (k_extra "iter")
  k_with "call builtin:list.append" => (k_here; k_dflt (refine' append_K ?k1 ?k2 ?k3 ?_ ?z; (case k1 => k_asm); (case k2 => k_asm); (case k3 => k_upd); (case z => k_extra "append"); k_whole); intro h' F' N'; (try k_sweep))
  k_with "binaryOp FloorDiv int int" => (k_here; (refine fdiv_256 (by omega) ?_); intro _ _)
  k_with "k_ix" => ((try simp only [List.length_append, List.length_cons, List.length_nil, List.length_set]); omega)
  k_with "setItem ref int" => (k_here; (with_reducible show wpAny _ _ (PySem.setItem (Value.ref _) (Value.int _ _) (Value.int _ _)) _ _ _); k_dflt (refine' ksa_set ?k1 ?k2 ?k3 ?k4 ?k5 ?k6 ?k7 ?_; (case k1 => k_asm); (case k2 => k_asm); (case k3 => k_upd); (case k4 => assumption); (case k5 => walk_at "k_ix"); (case k6 => walk_at "k_ix"); (case k7 => walk_at "k_ix"); k_whole); intro h' F' N' hi' hl' hs'; (try k_sweep))
  k_with "LstPost" => (k_extra "lst")
  k_with "for" => kpr_for
  k_with "iter" => ((rename Fr _ _ _ _ => kF); (rename News _ _ _ _ => kN); (rename IsRange _ _ _ _ _ _ _ _ => rgX); (k_dflt (refine' for_lst (n := 7) [Str.ofString "k", Str.ofString "value"] cpInv ?hx rfl rgX rfl (by decide) kF kN ?hlo ?hv ?hp ?_ ?_; (case hx => exact rfl); (case hlo => exact List.Mem.head _); (case hv => exact .cons _ _ .nil); (case hp => exact cpInv_start))); (clear kF kN rgX); (rotate_left); (intro vs ns nx kU kH kTk hvs kP kFr kNews; (have kP' := kP); unfold cpInv at kP'; obtain ⟨hq1, hq2, hq3, hq4⟩ := kP'; (try k_fold)); (rotate_left); (intro j vs ns nx tj kU kH kTk own hjn hoff hvs kP kFr kNews; (have kP' := kP); unfold cpInv at kP'; obtain ⟨hq1, hq2, hq3, hq4⟩ := kP'; (try k_fold)))
  k_with "append" => (rw [List.size_toArray]; (try simp only [List.length_set]); rw [IntsAre.length hvs, sizeLine_eq]; omega)
  k_with "lst" => ((rename News _ _ _ _ => kN); (rename Fr _ _ _ _ => kF); (rename IntsAre _ _ => kI); first
    | k_dflt (exact lst_ends kF kN (List.Mem.head _) (fun q hq => List.Mem.tail _ hq) kI (cp_off (by intro z a1 a2; simp [kstB, a1, a2])) (cpInv_skip kP))
    | k_dflt (exact lst_ends kF (news_push kN) (List.Mem.head _) (fun q hq => List.Mem.tail _ hq) (IntsAre.append kI (.cons _ _ .nil)) (cp_off (by intro z a1 a2; simp [kstB, a1, a2])) (cpInv_take kP hjn (fmod_bd _ (by decide)).1 (fmod_bd _ (by decide)).2)))
  k_steps
  all_goals exact hret _ _ _ _ ⟨_, _, _, _, rfl, rfl, hvs, hq1, hq2, hq3⟩ (Fr.keep (by assumption)) (Led.of_news (by assumption))
end Mine
open PySem PySem.W PyProof.Rows PySem.Calls PySem.Spec
namespace Mine
set_option maxRecDepth 100000
section
variable {prog : Program} {w : World} {A : Around} {s : Shared} {E : Value → Shared → Prop}
theorem mul_oct {a b : Int} {t u : Tok} {Q : Value → Shared → Prop} (h0 : 0 ≤ a) (h1 : a < 256) (h : ∀ t' k, Q (.int (a * b) t') { s with toks := k }) : wpAny (model prog w) A (binaryOp .Mult (.int a t) (.int b u)) Q E s :=
  PyProof.Rows.mul_int (h _ _) (IntMulOk.of_left (intBits_le_64 (by omega) (by omega)))
theorem fmod_oct (c : Int) : 0 ≤ c.fmod 128 ∧ c.fmod 128 < 256 := by rw [Int.fmod_eq_emod_of_nonneg _ (by decide)]; omega
end
set_option maxHeartbeats 8000000 in
theorem rsize3_spec (w : World) {p : Program} {loose : List Str} {mean : ExcName → Option Value} {mg mb : Str → Option Value}
   {base : Heap} (X₀ : (hd.heap_39 w.params).In base) (T₀ : Top p loose mean mg mb base)
   (dp un : Nat) (gd : Option (List Code)) (l : List Env) (hdp : dp + 15 < recursionLimit)
   {lo : Addr} {vs : List Value} {dk : List Int} {nn : Nat} (hv : IntsAre vs dk) (ho : Oct dk) (hl : dk.length ≤ 1800) :
   Spec PySem.Challenge.rw_jq0004_03.row.prog w (aTop dp un gd l) base l (.ref 80) [.ref lo] [(lo, listOf (List.toArray vs) nn)]
     (fun v n' => ∃ D x R ws rs nr, v = .ref D ∧ n' = [(D, tupO [x, .ref R]), (R, listOf (List.toArray ws) nr), (lo, listOf (List.toArray vs) nn)] ∧ IntsAre ws rs ∧ @Ne Nat R lo ∧ ((x = .none ∧ sizeL dk = none ∧ rs = []) ∨ (∃ sz t k, x = .int sz t ∧ sizeL dk = some (sz, k) ∧ rs = dk.drop k)))
     (.ref 32) (fun _ => False) := by
  have hfill : (fun _ : OpenLaw => hd.heap_39) PySem.Challenge.rw_jq0004_03 = hd.heap_39 := by (k_fill; rfl)
  clear hfill
  have hvl := hv.length
  intro g s Q E B hg hsz N hret hexc
  have X := X₀.keeps B.stays
  have T := T₀.keeps B.stays
  refine wpAny_call ?_
  k_dflt (refine' enter_def hg hsz N X T ?k6 ?k7 ?k8 ?k9 ?kB ?_ ?c2 ?c3 ?c4 ?c5; (case k6 => k_is); (case k7 => k_is); (case k8 => ktr_room); (case k9 => exact BindsTo.of_eq rfl); (case c5 => decide); (case kB => exact locs rfl); (case c2 => exact rfl); (case c3 => exact rfl); (case c4 => exact rfl); k_whole; intro L' h' F' N' l1; (try k_lt l1); (try dsimp only); (try k_fold))
  k_with_none
  k_with "execs cons" => k_fold
  k_with "eval Call" => k_fold
  k_with "storeName" => (k_here; k_dflt (first | (refine' storeI_L ?F ?N ?_ ?a ?b; (case F => k_asm); (case N => k_asm); (case a => rfl); (case b => rfl); k_whole; intro h' tk' t' F' N'; (try k_sweep); (try dsimp only); (try k_fold)) | (refine' storeB_L ?F ?N ?_ ?a ?b; (case F => k_asm); (case N => k_asm); (case a => rfl); (case b => rfl); k_whole; intro h' tk' t' F' N'; (try k_sweep); (try dsimp only); (try k_fold)) | (refine' storeG_L ?F ?N ?_ ?a ?b; (case F => k_asm); (case N => k_asm); (case a => rfl); (case b => rfl); k_whole; intro h' tk' F' N'; (try k_sweep); (try dsimp only); (try k_fold))))
  k_with "exec For Name Call cons nil" => (k_extra "for")
  k_with "pyIter ref" => (k_extra "iter")
  k_with "binaryOp Mult int int" => (k_here; (refine mul_oct (fmod_oct _).1 (fmod_oct _).2 ?_); intro _ _)
  k_with "RszPost" => (k_extra "rsz")
  k_with "for" => kpr_for
  k_with "iter" => ((rename Fr _ _ _ _ => kF); (rename News _ _ _ _ => kN); (rename IsRange _ _ _ _ _ _ _ _ => rgX); (k_dflt (refine' for_rsz dk [(lo, listOf (List.toArray vs) nn)] rfl rgX ?hnI hl kF kN ?hled ?h1 ?_ ?_; (case hnI => omega); (case hled => intro q hq; rw [List.mem_singleton.mp hq]; k_mem); (case h1 => exact rfl))); (clear kF kN rgX); (rotate_left); (intro nu nut kU kH kTk kP kFr kNews; (try k_fold)); (rotate_left); (intro j nu nut tj kU kH kTk own hjn hoff kP kFr kNews; (have hjo := ho.getD j); obtain ⟨hjo1, hjo2⟩ := hjo; dsimp only [List.cons_append, List.nil_append] at kNews; (try k_fold)))
  k_with "rsz" => ((with_reducible show RszPost _ _ _ _ _ _ _ _ Flow.next _); (rename News _ _ _ _ => kN); (rename Fr _ _ _ _ => kF); k_dflt (exact rsz_ends kF kN (fun q hq => by rw [List.mem_singleton.mp hq]; exact List.Mem.head _) (fun q hq => List.Mem.tail _ hq) rfl (by intro z a1 a2; simp [kstB, a1, a2]) (rsz_next kP hjn hjo1 hjo2 (by assumption))))
  k_with "rsz" => ((rename News _ _ _ _ => kN); (rename Fr _ _ _ _ => kF); (rename IntsAre _ _ => kI); k_dflt (exact hret _ _ _ _ ⟨_, _, _, _, _, _, rfl, rfl, kI, (by show @Ne Nat _ _; omega), .inr ⟨_, _, _, rfl, rsz_done kP hjn hjo1 hjo2 (by assumption), rfl⟩⟩ (Fr.keep kF) (Led.sub (Led.of_news kN) fun q hq => List.Sublist.subset (List.Sublist.cons_cons _ (List.Sublist.cons_cons _ (List.Sublist.cons_cons _ (List.nil_sublist _)))) hq)))
  k_steps
  · (rename Fr _ _ _ _ => kF); (rename News _ _ _ _ => kN)
    refine hret _ _ _ _ ⟨_, _, _, [], _, _, rfl, rfl, .nil, ?_, .inl ⟨rfl, rsz_fail kP, rfl⟩⟩ (Fr.keep kF) (Led.of_news kN)
    show @Ne Nat _ _
    omega
end Mine
open PySem PySem.W PyProof.Rows PySem.Calls PySem.Spec
namespace Mine
set_option maxRecDepth 100000
set_option maxHeartbeats 4000000 in
theorem steps3_spec (w : World) {p : Program} {loose : List Str} {mean : ExcName → Option Value} {mg mb : Str → Option Value}
   {base : Heap} (X₀ : (hd.heap_39 w.params).In base) (T₀ : Top p loose mean mg mb base)
   (dp un : Nat) (gd : Option (List Code)) (l : List Env) (hdp : dp + 20 < recursionLimit)
   {ls ln : Addr} {vs wn : List Value} {src nums : List Int} {n1 n2 : Nat} (hvs : IntsAre vs src) (hwn : IntsAre wn nums) (hs : src.length ≤ 300) (hn : nums.length ≤ 10) (hpos : ∀ x ∈ nums, 0 ≤ x) :
   Spec PySem.Challenge.rw_jq0004_03.row.prog w (aTop dp un gd l) base l (.ref 73) [.ref ls, .ref ln] [(ls, listOf (List.toArray vs) n1), (ln, listOf (List.toArray wn) n2)]
     (fun v n' => ∃ D lo ws os nw total tt, v = .ref D ∧ n' = [(D, tupO [.ref lo, .int total tt]), (lo, listOf (List.toArray ws) nw), (ls, listOf (List.toArray vs) n1), (ln, listOf (List.toArray wn) n2)] ∧ IntsAre ws os ∧ Oct os ∧ os.length ≤ 1280 ∧ 0 ≤ total ∧ total ≤ 6010) (.ref 32) (fun _ => False) := by
  have hfill : (fun _ : OpenLaw => hd.heap_39) PySem.Challenge.rw_jq0004_03 = hd.heap_39 := by (k_fill; rfl)
  clear hfill
  have hvl := hvs.length
  have hwl := hwn.length
  intro g s Q E B hg hsz N hret hexc
  have X := X₀.keeps B.stays
  have T := T₀.keeps B.stays
  refine wpAny_call ?_
  k_dflt (refine' enter_defC hg hsz N X T ?k6 ?k7 ?k8 ?k9 ?kB ?kD ?_ ?c2 ?c3 ?c4; (case k6 => k_is); (case k7 => k_is); (case k8 => ktr_room); (case k9 => exact BindsTo.of_eq rfl); (case kB => exact rfl); (case kD => decide +kernel); (case c2 => exact rfl); (case c3 => exact rfl); (case c4 => exact rfl); k_whole; intro L' h' tk' cells' F' N' Y' l1; (try k_lt l1); k_cells Y'; (try simp only [List.cons_append, List.nil_append] at N'); (try dsimp only); (try k_fold))
  k_with_none
  k_with "execs cons" => k_fold
  k_with "eval Call" => k_fold
  k_with "storeName" => (k_here; k_dflt (first | (refine' storeI_L ?F ?N ?_ ?a ?b; (case F => k_asm); (case N => k_asm); (case a => rfl); (case b => rfl); k_whole; intro h' tk' t' F' N'; (try k_sweep); (try dsimp only); (try k_fold)) | (refine' storeB_L ?F ?N ?_ ?a ?b; (case F => k_asm); (case N => k_asm); (case a => rfl); (case b => rfl); k_whole; intro h' tk' t' F' N'; (try k_sweep); (try dsimp only); (try k_fold)) | (refine' storeG_L ?F ?N ?_ ?a ?b; (case F => k_asm); (case N => k_asm); (case a => rfl); (case b => rfl); k_whole; intro h' tk' F' N'; (try k_sweep); (try dsimp only); (try k_fold))))
  k_with "exec For" => (k_here; (with_reducible show wpAny _ _ (exec (Stmt.For (Expr.Name _ _) (Expr.Name _ _) _ [] _) _) _ _ _); (rename Fr _ _ _ _ => lF'); (with_unfolding_all refine' For_invVF lF' ?k1 ?k2 ?_; (case k1 => exact rfl); (case k2 => exact rfl); k_whole))
  k_with "pyIter ref" => ((rename Fr _ _ _ _ => kF); (rename News _ _ _ _ => kN); (rename Obj.data _ = Data.cell _ => kO); (k_dflt (refine' for_stp (cr := L' + 1) [(ls, listOf (List.toArray vs) n1), (ln, listOf (List.toArray wn) n2)] rfl hwn kF kN ?hl ?hrest ?hlo ?hcr kO ?h2 ?_ ?_; (case hl => exact List.Mem.tail _ (List.Mem.head _)); (case hrest => repeat' (first | exact List.forall_mem_nil _ | refine List.forall_mem_cons.mpr ⟨by k_mem, ?_⟩)); (case hlo => exact List.Mem.head _); (case hcr => exact List.Mem.tail _ (List.Mem.head _)); (case h2 => exact rfl))); (clear kF kN kO); (rotate_left); (intro ws os nw tot tott oc kU kH kTk hws kInv kFr kNews; (have kInv' := kInv); unfold stpInv at kInv'; obtain ⟨hq1, hq2, hq3, hq4⟩ := kInv'; (try k_fold)); (rotate_left); (intro k n ws os nw tot tott oc v tn kU kH kTk own hkn hmem hoff hws hoc kInv kFr kNews; (have kInv' := kInv); unfold stpInv at kInv'; obtain ⟨hq1, hq2, hq3, hq4⟩ := kInv'; (have hn0 := hpos n hmem); (have hwsl := hws.length); (have u1 := fmod_bd (n.fdiv 8) (show (0 : Int) < (src.length : Int) + 1 by omega)); obtain ⟨u10, u11⟩ := u1; (have u2 := fmod_bd ((n.fdiv 8).fdiv 512) (show (0 : Int) < (src.length : Int) - (n.fdiv 8).fmod ((src.length : Int) + 1) + 1 by omega)); obtain ⟨u20, u21⟩ := u2; (have u3 := fmod_bd ((n.fdiv 8).fdiv 2359296) (show (0 : Int) < 300 by decide)); obtain ⟨u30, u31⟩ := u3; (have u4 := fmod_bd ((n.fdiv 8).fdiv 7) (show (0 : Int) < 128 by decide)); obtain ⟨u40, u41⟩ := u4; (have u5 := fmod_bd (n.fdiv 8) (show (0 : Int) < 127 by decide)); obtain ⟨u50, u51⟩ := u5; (have u6 := fmod_bd (n.fdiv 8) (show (0 : Int) < 5 by decide)); obtain ⟨u60, u61⟩ := u6; dsimp only [List.cons_append, List.nil_append] at kNews; (try k_fold)))
  k_with "call ref" => ((with_reducible show wpAny _ _ (call (Value.ref 68) [_, _, _]) _ _ _); (rename Fr _ _ _ _ => kF); (rename News _ _ _ _ => kN); k_dflt (refine' Spec.use (A₀ := aTop dp un gd l) (copy3_spec w X₀ T₀ (dp + 1) (un + 3) gd _ ?hdp ?p0 ?p1 ?l0 ?l1 ?m0 ?m1) B kF kN _ (fun _ h => nomatch h) (fun _ h => h) (fun _ _ _ h => nomatch h) rfl rfl ?_ ?_; (case hdp => omega); (case p0 => omega); (case p1 => omega); (case l0 => omega); (case l1 => omega); (case m0 => omega); (case m1 => omega)); (rotate_left); ((intro e9 h9 tk9 n9 g9 hx9; exact hx9.elim)); (intro v9 h9 tk9 n9 hr9 F9 N9 ap9; obtain ⟨D9, vs9, ns9, nn9, rfl, rfl, hI9, hO9, hL90, hL91⟩ := hr9; (have hD9 : @Ne Nat D9 _ := ap9 _ (List.Mem.head _) _ (List.Mem.head _)); clear ap9; dsimp only [List.cons_append, List.nil_append] at N9; (try k_fold)))
  k_with "call builtin:list.append" => ((k_here; k_dflt (refine' append_K ?k1 ?k2 ?k3 ?_ ?z; (case k1 => k_asm); (case k2 => k_asm); (case k3 => k_upd); (case z => rw [List.size_toArray, hwsl, sizeLine_eq]; omega); k_whole); intro h' F' N'; (try k_sweep); (with_reducible rename News _ _ _ _ => kN); (have kN2 := news_push kN); clear kN))
  k_with "call builtin:list.extend" => (k_here; (with_reducible show wpAny _ _ (call (Value.builtin _) [Value.ref _, Value.ref _]) _ _ _); k_dflt (refine' extend_ints ?F ?N ?b ?U ?i ?j ?ne ?z ?_; (case F => k_asm); (case N => k_asm); (case b => k_mem); (case U => k_upd); (case i => first | assumption | exact IntsAre.append hws (.cons _ _ .nil)); (case j => assumption); (case ne => (try simp only [List.length_map, rangeKs_length]); omega); (case z => (try simp only [List.length_append, List.length_cons, List.length_nil, List.length_map, rangeKs_length]); omega); k_whole); intro h' F' N' hws2; (try k_sweep))
  k_with "sub" => (exact fun q9 hq9 => List.Sublist.subset (by with_reducible (repeat (first | exact List.Sublist.refl _ | exact List.nil_sublist _ | refine List.Sublist.cons_cons _ ?_ | refine List.Sublist.cons _ ?_))) hq9)
  k_with "StpPost" => (((rename Fr _ _ _ _ => kF); (rename News _ _ _ _ => kN); k_dflt (exact stp_ends kF kN (by k_mem) (by k_mem) (by assumption) (by walk_at "sub") (by walk_at "sub") (by first | assumption | exact IntsAre.append hws (.cons _ _ .nil)) rfl (by intro z n1 n2 n3 n4 n5; simp [kstB, stpStored, n1, n2, n3, n4, n5]) (by first | exact stpInv_same kInv | exact stpInv_zero kInv | exact stpInv_add kInv hO9 (by omega) (by omega) (by omega) | exact stpInv_ins kInv (by omega) (by omega) (by rw [rangeKs_length]; omega) (fun k => fmod_bd _ (by decide))))))
  k_steps
  show Q _ _
  exact hret _ _ _ _ ⟨_, _, _, _, _, _, _, rfl, rfl, hws, hq1, by omega, hq3, by omega⟩ (Fr.keep (by assumption)) (Led.sub (Led.of_news (by assumption)) (by walk_at "sub"))
end Mine
open PySem PySem.W PyProof.Rows PySem.Calls PySem.Spec
namespace Mine
set_option maxRecDepth 100000
set_option maxHeartbeats 4000000 in
theorem read3_spec (w : World) {p : Program} {loose : List Str} {mean : ExcName → Option Value} {mg mb : Str → Option Value}
   {base : Heap} (X₀ : (hd.heap_39 w.params).In base) (T₀ : Top p loose mean mg mb base)
   (dp un : Nat) (gd : Option (List Code)) (l : List Env) (hdp : dp + 25 < recursionLimit) (hu : un + 100 < cLine)
   {ls lo : Addr} {vb vd : List Value} {bk dk : List Int} {n1 n2 : Nat} (hne : @Ne Nat ls lo) (hvb : IntsAre vb bk) (hvd : IntsAre vd dk) (hoct : Oct dk) (hb : bk.length ≤ 300) (hd0 : dk.length ≤ 1800) :
   Spec PySem.Challenge.rw_jq0004_03.row.prog w (aTop dp un gd l) base l (.ref 87) [.ref ls, .ref lo] [(ls, listOf (List.toArray vb) n1), (lo, listOf (List.toArray vd) n2)]
     (fun v n' => (v = .none ∧ readDelta bk dk = none ∧ n' = [(ls, listOf (List.toArray vb) n1), (lo, listOf (List.toArray vd) n2)]) ∨ ((∃ t, v = .str (Str.ofString "open") t) ∧ n' = []) ∨ (∃ R vs acc nn, v = .ref R ∧ n' = [(R, listOf (List.toArray vs) nn), (ls, listOf (List.toArray vb) n1), (lo, listOf (List.toArray vd) n2)] ∧ IntsAre vs acc ∧ readDelta bk dk = some acc))
     (.ref 32) (fun _ => False) := by
  have hfill : (fun _ : OpenLaw => hd.heap_39) PySem.Challenge.rw_jq0004_03 = hd.heap_39 := by (k_fill; rfl)
  clear hfill
  have hvbl := hvb.length
  have hvdl := hvd.length
  have hbd : (bk.length + 1) * dk.length ≤ 16000000 := Nat.le_trans (Nat.mul_le_mul (show bk.length + 1 ≤ 301 by omega) hd0) (by decide)
  intro g s Q E B hg hsz N hret hexc
  have X := X₀.keeps B.stays
  have T := T₀.keeps B.stays
  refine wpAny_call ?_
  k_dflt (refine' enter_def hg hsz N X T ?k6 ?k7 ?k8 ?k9 ?kB ?_ ?c2 ?c3 ?c4 ?c5; (case k6 => k_is); (case k7 => k_is); (case k8 => ktr_room); (case k9 => exact BindsTo.of_eq rfl); (case c5 => decide); (case kB => exact locs rfl); (case c2 => exact rfl); (case c3 => exact rfl); (case c4 => exact rfl); k_whole; intro L' h' F' N' l1; (try k_lt l1); (try dsimp only); (try k_fold))
  k_with_none
  k_with "execs cons" => k_fold
  k_with "eval Call" => k_fold
  k_with "storeName" => (k_here; k_dflt (first | (refine' storeI_L ?F ?N ?_ ?a ?b; (case F => k_asm); (case N => k_asm); (case a => rfl); (case b => rfl); k_whole; intro h' tk' t' F' N'; (try k_sweep); (try dsimp only); (try k_fold)) | (refine' storeB_L ?F ?N ?_ ?a ?b; (case F => k_asm); (case N => k_asm); (case a => rfl); (case b => rfl); k_whole; intro h' tk' t' F' N'; (try k_sweep); (try dsimp only); (try k_fold)) | (refine' storeG_L ?F ?N ?_ ?a ?b; (case F => k_asm); (case N => k_asm); (case a => rfl); (case b => rfl); k_whole; intro h' tk' F' N'; (try k_sweep); (try dsimp only); (try k_fold))))
  k_with "sub" => (exact fun q9 hq9 => List.Sublist.subset (by with_reducible (repeat (first | exact List.Sublist.refl _ | exact List.nil_sublist _ | refine List.Sublist.cons_cons _ ?_ | refine List.Sublist.cons _ ?_))) hq9)
  k_with "call ref" => ((with_reducible show wpAny _ _ (call (Value.ref 80) [Value.ref lo]) _ _ _); (rename Fr _ _ _ _ => kF); (rename News _ _ _ _ => kN); k_dflt (refine' Spec.use (A₀ := aTop dp un gd l) (rsize3_spec w X₀ T₀ (dp + 1) (un + 3) gd _ ?hdp hvd hoct hd0) B kF kN [(ls, listOf (List.toArray vb) n1)] ?hn ?hr ?hd rfl rfl ?_ ?_; (case hdp => omega); (case hn => intro q hq; rw [List.mem_singleton.mp hq]; exact List.Mem.tail _ (List.Mem.head _)); (case hr => intro q hq; rw [List.mem_singleton.mp hq]; exact List.Mem.head _); (case hd => intro q hq r hr; rw [List.mem_singleton.mp hq, List.mem_singleton.mp hr]; exact hne)); (rotate_left); ((intro e9 h9 tk9 n9 g9 hx9; exact hx9.elim)); (intro v9 h9 tk9 n9 hr9 F9 N9 ap9; (try dsimp only); (try k_fold); obtain ⟨D9, x9, R9, ws9, rs9, nr9, rfl, rfl, hI9, hRl, hx9⟩ := hr9; (have hRs : @Ne Nat R9 ls := ap9 _ (List.Mem.tail _ (List.Mem.head _)) _ (List.Mem.head _)); clear ap9; dsimp only [List.cons_append, List.nil_append] at N9; (rcases hx9 with ⟨rfl, hz9, rfl⟩ | ⟨sz9, t9, kk9, rfl, hz9, rfl⟩) <;> (try k_fold)))
  k_with "call ref" => ((with_reducible show wpAny _ _ (call (Value.ref 80) [Value.ref R9]) _ _ _); (rename Fr _ _ _ _ => kF); (rename News _ _ _ _ => kN); k_dflt (refine' Spec.use (A₀ := aTop dp un gd l) (rsize3_spec w X₀ T₀ (dp + 1) (un + 3) gd _ ?hdp hI9 ?ho ?hl) B kF kN [(lo, listOf (List.toArray vd) n2), (ls, listOf (List.toArray vb) n1)] ?hn ?hr ?hd rfl rfl ?_ ?_; (case hdp => omega); (case ho => first | exact hoct.drop _ | exact fun _ h => nomatch h); (case hl => first | (rw [List.length_drop]; omega) | exact Nat.zero_le _); (case hn => intro q hq; rw [List.mem_singleton.mp hq]; k_mem); (case hr => repeat' (first | exact List.forall_mem_nil _ | refine List.forall_mem_cons.mpr ⟨by k_mem, ?_⟩)); (case hd => exact List.forall_mem_cons.mpr ⟨fun r hr => by rw [List.mem_singleton.mp hr]; exact Ne.symm hRl, List.forall_mem_cons.mpr ⟨fun r hr => by rw [List.mem_singleton.mp hr]; exact Ne.symm hRs, List.forall_mem_nil _⟩⟩)); (rotate_left); ((intro e9 h9 tk9 n9 g9 hx9; exact hx9.elim)); (intro v9 h9 tk9 n9 hr9 F9 N9 ap9; (try dsimp only); (try k_fold); obtain ⟨D8, x8, R8, ws8, rs8, nr8, rfl, rfl, hI8, hRl8, hx8⟩ := hr9; (have hR81 : @Ne Nat R8 lo := ap9 _ (List.Mem.tail _ (List.Mem.head _)) _ (List.Mem.head _)); (have hR82 : @Ne Nat R8 ls := ap9 _ (List.Mem.tail _ (List.Mem.head _)) _ (List.Mem.tail _ (List.Mem.head _))); clear ap9; dsimp only [List.cons_append, List.nil_append] at N9; (rcases hx8 with ⟨rfl, hz8, rfl⟩ | ⟨sz8, t8, kk8, rfl, hz8, rfl⟩) <;> (try k_fold)))
  k_with "exec While Compare cons nil" => ((rename Fr _ _ _ _ => kF); (rename News _ _ _ _ => kN); k_dflt (refine' rd3_loop bk dk (readDelta bk dk) sz8 [(ls, listOf (List.toArray vb) n1), (lo, listOf (List.toArray vd) n2)] kF kN ?ho ?hf ?hrest (d3_drop hI8) ?h1 ?h2 ?hp ?_ ?hE; (case ho => k_mem); (case hf => k_mem); (case hrest => repeat' (first | exact List.forall_mem_nil _ | refine List.forall_mem_cons.mpr ⟨by k_mem, ?_⟩)); (case h1 => exact rfl); (case h2 => exact rfl); (case hp => exact d3_start hoct hz9 hz8 (by omega)); (case hE => first | passes_own | with_unfolding_all passes_own)); (clear kF kN); (try clear hRl); (try clear hRs); (try clear hRl8); (try clear hR81); (try clear hR82); (try clear hne); (intro oa ws nw fa vs acc nn ix kU kH kTk hws hvs kInv kFr kNews); (have kInv' := kInv); (obtain ⟨hj1, hj2, hj3, hj4, hj5⟩ := kInv'); (have hbd1 := rd_bound kInv hbd); (have hdl := List.length_drop (i := ix.toNat) (l := dk)); (have hgd := hoct.getD ix.toNat); obtain ⟨hgd0, hgd1⟩ := hgd; (try dsimp only); (try k_fold))
  k_with "compareOp NotEq ref ref" => (k_here; (with_reducible show wpAny _ _ (compareOp CmpOp.NotEq (Value.ref _) (Value.ref _)) _ _ _); (rename News _ _ _ _ => kN); k_dflt (refine' ne_nil_at kN ?m1 ?m2 hws hj1 ?hu ?_ ?_; (case m1 => k_mem); (case m2 => k_mem); (case hu => show un + 3 + 64 < cLine; omega)); (intro hlt9))
  k_with "subscriptTail Name Constant ref int" => (k_here; (with_reducible show wpAny _ _ (subscriptTail _ _ (Value.ref _) (Value.int 0 _)) _ _ _); (rename News _ _ _ _ => kN); k_dflt (refine' item0_at kN ?m1 hws hj1 hlt9 ?_ ?hs; (case m1 => k_mem); (case hs => with_unfolding_all rfl)); intro t9)
  k_with "call builtin:len" => (k_here; (with_reducible show wpAny _ _ (call (Value.builtin "len") [Value.ref fa]) _ _ _); (rename News _ _ _ _ => kN); k_dflt (refine' len_at kN ?m hvs ?z ?_; (case m => k_mem); (case z => omega)); intro _ _)
  k_with "binaryOp Add ref ref" => (k_here; (with_reducible show wpAny _ _ (binaryOp _ (Value.ref fa) (Value.ref _)) _ _ _); k_dflt (refine' kmk_add_ints ?F ?N ?a ?b hvs ?j ?_ ?z; (case F => k_asm); (case N => k_asm); (case a => kmk_list); (case b => kmk_list); (case j => assumption); (case z => rw [sizeLine_eq]; omega); k_whole); intro D9 us9 h9 F9 N9 l9 hus9; (try k_lt l9))
  k_with "exec For Name Call cons nil" => kpr_for
  k_with "binaryOp Mult int int" => (k_here; (with_reducible show wpAny _ _ (binaryOp _ (Value.int _ _) (Value.int _ _)) _ _ _); (refine PyProof.Rows.mul_int ?_ (IntMulOk.of_left (intBits_le_64 (by omega) (by omega)))))
  k_with "setItem ref int" => (k_here; (with_reducible show wpAny _ _ (PySem.setItem (Value.ref _) (Value.int _ _) (Value.int _ _)) _ _ _); k_dflt (refine' ksa_set ?k1 ?k2 ?k3 ?k4 ?k5 ?k6 ?k7 ?_; (case k1 => k_asm); (case k2 => k_asm); (case k3 => k_upd); (case k4 => exact hvs2); (case k5 => omega); (case k6 => omega); (case k7 => omega); k_whole); intro h' F' N' hi' hl' hs'; (try k_sweep))
  k_with "pyIter ref" => ((rename Fr _ _ _ _ => kF); (rename News _ _ _ _ => kN); (rename IsRange _ _ _ _ _ _ _ _ => rgX); (with_reducible rename IntsAre _ (List.drop 1 _) => hw1); (have hw2 := d3_next hj1 hw1); (k_dflt (refine' for_told dk (dk.getD ix.toNat 0) (i₀ := ix + 1) [(fa, listOf (List.toArray vs) nn), (ls, listOf (List.toArray vb) n1), (lo, listOf (List.toArray vd) n2)] rfl rgX kF kN ?hfo ?hv ?hoa hw2 ?hne ?hrest ?ho ?hi ?_ ?_; (case ho => exact rfl); (case hfo => exact List.Mem.head _); (case hv => exact .cons _ _ (.cons _ _ (.cons _ _ (.cons _ _ (.cons _ _ (.cons _ _ (.cons _ _ .nil))))))); (case hoa => k_mem); (case hne => show @Ne Nat _ _; omega); (case hrest => repeat' (first | exact List.forall_mem_nil _ | refine List.forall_mem_cons.mpr ⟨by k_mem, ?_⟩)); (case hi => omega))); (clear kF kN rgX); (rotate_left); (intro f0 f1 f2 f3 f4 f5 f6 t0 t1 t2 t3 t4 t5 t6 nx oa2 ws2 nw2 iy kU kH kTk hws2 kSev kFr kNews; obtain ⟨⟨⟨b00, b01⟩, ⟨b10, b11⟩, ⟨b20, b21⟩, ⟨b30, b31⟩, ⟨b40, b41⟩, ⟨b50, b51⟩, ⟨b60, b61⟩⟩, hiy0, hiy1, hfl⟩ := sev_done kSev; (have E0 : [f0, f1, f2, f3, f4, f5, f6].getD (Int.toNat 0) 0 = f0 := rfl); (have E1 : [f0, f1, f2, f3, f4, f5, f6].getD (Int.toNat 1) 0 = f1 := rfl); (have E2 : [f0, f1, f2, f3, f4, f5, f6].getD (Int.toNat 2) 0 = f2 := rfl); (have E3 : [f0, f1, f2, f3, f4, f5, f6].getD (Int.toNat 3) 0 = f3 := rfl); (have E4 : [f0, f1, f2, f3, f4, f5, f6].getD (Int.toNat 4) 0 = f4 := rfl); (have E5 : [f0, f1, f2, f3, f4, f5, f6].getD (Int.toNat 5) 0 = f5 := rfl); (have E6 : [f0, f1, f2, f3, f4, f5, f6].getD (Int.toNat 6) 0 = f6 := rfl); obtain ⟨st, hst, st0, st1⟩ := place_of ⟨b00, b01⟩ ⟨b10, b11⟩ ⟨b20, b21⟩ ⟨b30, b31⟩; obtain ⟨zz, hzz, zz0, zz1⟩ := length_of ⟨b40, b41⟩ ⟨b50, b51⟩ ⟨b60, b61⟩; rw [← hst, ← hzz] at hfl; (try k_fold)); (rotate_left); (intro j vs2 fs nx oa2 ws2 nw2 iy tj kU kH kTk own hjn hoff hne2 hvs2 hws2 kSev kFr kNews; (have kSev' := kSev); unfold sevInv fldInv at kSev'; obtain ⟨hq1, hq2, hq3, hq4, hq5, hiy0, hiy1, hq8⟩ := kSev'; dsimp only [List.cons_append, List.nil_append] at kNews; (try k_fold)))
  k_with "compareOp Eq ref ref" => (k_here; (with_reducible show wpAny _ _ (compareOp CmpOp.Eq (Value.ref _) (Value.ref _)) _ _ _); (rename News _ _ _ _ => kN); k_dflt (refine' eq_nil_at kN ?m1 ?m2 hws2 ?h0 ?hu ?_ ?_; (case m1 => k_mem); (case m2 => k_mem); (case h0 => omega); (case hu => show un + 3 + 64 < cLine; omega)); (intro hlt8))
  k_with "subscriptTail Name Constant ref int" => (k_here; (with_reducible show wpAny _ _ (subscriptTail _ _ (Value.ref _) (Value.int 0 _)) _ _ _); (rename News _ _ _ _ => kN); k_dflt (refine' item0_at kN ?m1 hws2 ?h0 hlt8 ?_ ?hs; (case m1 => k_mem); (case h0 => omega); (case hs => with_unfolding_all rfl)); intro t9)
  k_with "exec Assign" => ((k_here; (fail_if_success (have h9 := inPl)); (with_reducible show wpAny _ _ (exec (Stmt.Assign [PySem.Expr.Name "place" _] _ _) _) _ _ _); (rename Fr _ _ _ _ => kF); (rename News _ _ _ _ => kN); k_dflt (refine' cut_if (s := ⟨_, _, _, _, _⟩) (Str.ofString "place") st kF kN ?_ ?_); (rotate_left); (clear kF kN hst E0 E1 E2 E3 b00 b01 b10 b11 b20 b21 b30 b31; intro kU kH kTk ts kFr kNews; (try k_fold)); (rotate_left); ((have inPl : True := trivial); clear hzz E4 E5 E6 b40 b41 b50 b51 b60 b61; (try k_fold))))
  k_with "exec Assign" => ((k_here; (fail_if_success (have h9 := inLe)); (with_reducible show wpAny _ _ (exec (Stmt.Assign [PySem.Expr.Name "length" _] (PySem.Expr.BinOp _ _ _ _) _) _) _ _ _); (rename Fr _ _ _ _ => kF); (rename News _ _ _ _ => kN); k_dflt (refine' cut_if (s := ⟨_, _, _, _, _⟩) (Str.ofString "length") zz kF kN ?_ ?_); (rotate_left); (clear kF kN hzz E4 E5 E6 b40 b41 b50 b51 b60 b61; intro kU kH kTk ts kFr kNews; (try k_fold)); (rotate_left); ((have inLe : True := trivial); (try k_fold))))
  k_with "exec If" => (k_here; (fail_if_success (have h9 := hcs0)); (with_reducible show wpAny _ _ (exec (Stmt.If (PySem.Expr.Compare (PySem.Expr.Name "length" _) _ _ _) _ _ _) _) _ _ _); (rename Fr _ _ _ _ => kF); (rename News _ _ _ _ => kN); (have hcs := copySz_bd zz0 zz1); obtain ⟨hcs0, hcs1⟩ := hcs; k_dflt (refine' cut_if (s := ⟨_, _, _, _, _⟩) (Str.ofString "length") (copySz zz) kF kN ?_ ?_); (rotate_left); (clear kF kN; intro kU kH kTk ts kFr kNews; (try k_fold)); (rotate_left); (try k_fold))
  k_with "CutPost" => ((rename Fr _ _ _ _ => kF); (rename News _ _ _ _ => kN); k_dflt (exact cut_end kF kN rfl (by first | exact hst.symm | exact hzz.symm | exact (copy0 (by assumption)).symm | exact (copy1 (by assumption)).symm | exact (copy0 (by omega)).symm | exact (by rw [copy1 (by omega)]; omega)) (by intro z a1; simp [kstB, a1])))
  k_with "ref3" => (first
    | exact d3_none1 hz9
    | exact d3_none2 hz9 hz8
    | exact d3_none3 hz9 hz8 (by omega)
    | exact rd_zero kInv hlt9 (by assumption)
    | exact rd_long kInv hlt9 (by assumption) (ins_out hj1 hlt9 (by assumption))
    | exact rd_long kInv hlt9 (by assumption) (.inl (by omega))
    | exact rd_long kInv hlt9 (by assumption) (by omega)
    | exact rd_none kInv hlt9 (by assumption) (sev_fail kSev hjn (bitF_of (by assumption)) (by omega))
    | exact (rd_end kInv (by assumption)).trans (if_neg (by omega))
    | exact rd_bad hoct kInv hlt9 (by assumption) (by omega) (by omega) (by omega) (by omega) hfl (by omega) (by omega))
  k_steps
  all_goals (rename Fr _ _ _ _ => kF)
  all_goals (rename News _ _ _ _ => kN)
  all_goals (try exact hret _ _ _ _ (.inl ⟨rfl, by walk_at "ref3", rfl⟩) (Fr.keep kF) (Led.sub (Led.of_news kN) (List.forall_mem_cons.mpr ⟨by k_mem, List.forall_mem_cons.mpr ⟨by k_mem, List.forall_mem_nil _⟩⟩)))
  all_goals (try exact hret _ _ _ _ (.inr (.inl ⟨⟨_, rfl⟩, rfl⟩)) (Fr.keep kF) (fun _ h => nomatch h))
  all_goals (try exact hret _ _ _ _ (.inr (.inr ⟨_, _, _, _, rfl, rfl, hvs, (rd_end kInv (by assumption)).trans (if_pos (by omega))⟩)) (Fr.keep kF) (Led.sub (Led.of_news kN) (List.forall_mem_cons.mpr ⟨by k_mem, List.forall_mem_cons.mpr ⟨by k_mem, List.forall_mem_cons.mpr ⟨by k_mem, List.forall_mem_nil _⟩⟩⟩)))
  all_goals (try (show TldPost _ _ _ _ _ _ _ _ _ _ _ _ Flow.next _; first
    | exact tld_ends kF kN (List.Mem.head _) (List.Mem.tail _ (List.Mem.head _)) hne2 (by walk_at "sub") (by walk_at "sub") hvs2 hws2 rfl (by intro z a1 a2; simp [kstB, a1, a2]) (sev_skip kSev hjn (bitF_no (by assumption)))
    | exact tld_ends kF kN (by k_mem) (by k_mem) (by show @Ne Nat _ _; omega) (by walk_at "sub") (by walk_at "sub") (by assumption) (d3_next (by omega) (by assumption)) rfl (by intro z a1 a2; simp [kstB, a1, a2]) (sev_take kSev (by omega) hjn (bitF_of (by assumption)) (by omega) (hoct.getD _).1 (hoct.getD _).2)))
  all_goals (first
    | exact rd3_ends (a := ix + 1 + dk.getD ix.toNat 0) kF kN (by k_mem) (by k_mem) (by walk_at "sub") rfl rfl (rest_to hj1 (hoct.getD _).1 (by assumption)) (ins_to hj1 (hoct.getD _).1 hus9) (by intro z a1 a2 a3 a4 a5 a6 a7; simp [kstB, a1, a2, a3, a4, a5, a6, a7]) (rd_insert kInv hlt9 (hoct.getD _).1 (by assumption) (by assumption) (by omega) (by first | exact ins_fits hj1 hlt9 (by assumption) | omega)) (by clear kInv; omega)
    | exact rd3_ends (a := iy) kF kN (by k_mem) (by k_mem) (by walk_at "sub") rfl rfl hws2 (cp_to (st := st) (z := copySz zz) hus9 rfl rfl (by omega) (by omega)) (by intro z a1 a2 a3 a4 a5 a6 a7; simp [kstB, a1, a2, a3, a4, a5, a6, a7]) (rd_copy hoct kInv hlt9 (by assumption) (by omega) (by omega) (by omega) (by omega) (by omega) hfl (by omega) (by omega)) (by omega))
end Mine
open PySem PySem.W PyProof.Rows PySem.Calls PySem.Spec
namespace Mine
set_option maxRecDepth 100000
/-- what the law holds of a reading: None, or a list -/
def DueIs (bk dk : List Int) (v : Value) (R : Addr) (vs : List Value) : Prop :=
  (v = .none ∧ readDelta bk dk = none) ∨ (v = .ref R ∧ ∃ acc, IntsAre vs acc ∧ readDelta bk dk = some acc)
section
variable {prog : Program} {w : World} {A : Around} {E : Value → Shared → Prop} {Q : Flow → Shared → Prop} {s : Shared} {env : Env} {h₀ : Heap} {L : Addr}
def TryPost (h₀ : Heap) (L : Addr) (rest : List (Addr × Obj)) (bk dk : List Int) (m₀ : Str → Option Value) (s : Shared) (f : Flow) (s₂ : Shared) : Prop :=
  ∃ h' tk m' tv T vt nt n1 news', f = .next ∧ s₂ = { s with heap := h', toks := tk } ∧ Fr h₀ L h' m' ∧ News h₀ L h' news' ∧ (T, listOf (List.toArray vt) nt) ∈ news' ∧ Tab n1 ∧ (∀ q ∈ n1, q ∈ news') ∧ (∀ q ∈ n1, ∀ r ∈ rest, q.1 ≠ r.1) ∧ (∀ q ∈ rest, q ∈ news') ∧ DueIs bk dk tv T vt ∧ m' (Str.ofString "told") = some tv ∧ (∀ z, z ≠ Str.ofString "told" → m' z = m₀ z)
theorem cut_try {stmt : Stmt} {m₀ : Str → Option Value} {news : List (Addr × Obj)} (rest : List (Addr × Obj)) (bk dk : List Int) (_F : Fr h₀ L s.heap m₀) (_N : News h₀ L s.heap news) (_hr : ∀ q ∈ rest, q ∈ news)
    (hTry : wpAny (model prog w) A (exec stmt env) (TryPost h₀ L rest bk dk m₀ s) E s)
    (hrest : ∀ (u : Str → Option Value) h tk tv T vt nt ca oca cb ocb, CodeOk (Str.ofString "_apply_delta_py.<locals>.get_delta_header_size") oca → CodeOk (Str.ofString "_apply_delta_py.<locals>.read_byte") ocb → @Ne Nat ca cb → @Ne Nat ca 42 → @Ne Nat cb 42 → (∀ r ∈ rest, @Ne Nat ca r.1) → (∀ r ∈ rest, @Ne Nat cb r.1) → DueIs bk dk tv T vt →
      Fr h₀ L h (kstB (fun z => if [Str.ofString "told"].contains z then u z else m₀ z) [(Str.ofString "told", tv)]) → News h₀ L h ((T, listOf (List.toArray vt) nt) :: (42, tabFull ca cb) :: (ca, oca) :: (cb, ocb) :: rest) → Q .next { s with heap := h, toks := tk }) :
    wpAny (model prog w) A (exec stmt env) Q E s := by
  refine wpAny_mono hTry (fun f s₂ h => ?_) fun _ _ z => z
  obtain ⟨h', tk, m', tv, T, vt, nt, n1, news', rfl, rfl, F2, N2, a1, ⟨ca, oca, cb, ocb, rfl, k1, k2, k3, k4, k5⟩, a3, a4, a5, a6, a7, a8⟩ := h
  refine hrest m' h' tk tv T vt nt ca oca cb ocb k1 k2 k3 k4 k5 (fun r hr => a4 _ (List.Mem.tail _ (List.Mem.head _)) r hr) (fun r hr => a4 _ (List.Mem.tail _ (List.Mem.tail _ (List.Mem.head _))) r hr) a6 (ksw_fr ?_ ?_ F2) (fun q hq => ?_)
  · intro p hp
    rw [List.mem_singleton.mp hp]; exact a7
  · intro z hz _
    exact a8 z (hz _ (List.mem_singleton.mpr rfl))
  · rcases List.mem_cons.mp hq with rfl | hq
    · exact N2 _ a1
    rcases List.mem_cons.mp hq with rfl | hq
    · exact N2 _ (a3 _ (List.Mem.head _))
    rcases List.mem_cons.mp hq with rfl | hq
    · exact N2 _ (a3 _ (List.Mem.tail _ (List.Mem.head _)))
    rcases List.mem_cons.mp hq with rfl | hq
    · exact N2 _ (a3 _ (List.Mem.tail _ (List.Mem.tail _ (List.Mem.head _))))
    · exact N2 _ (a5 q hq)
theorem try_end {rest news' n1 : List (Addr × Obj)} {bk dk : List Int} {m₀ m' : Str → Option Value} {h' : Heap} {tk : Nat} {tv : Value} {T : Addr} {vt : List Value} {nt : Nat} (F2 : Fr h₀ L h' m') (N2 : News h₀ L h' news') (a1 : (T, listOf (List.toArray vt) nt) ∈ news') (a2 : Tab n1) (a3 : ∀ q ∈ n1, q ∈ news') (a4 : ∀ q ∈ n1, ∀ r ∈ rest, q.1 ≠ r.1) (a5 : ∀ q ∈ rest, q ∈ news') (a6 : DueIs bk dk tv T vt) (a7 : m' (Str.ofString "told") = some tv) (a8 : ∀ z, z ≠ Str.ofString "told" → m' z = m₀ z) :
    TryPost h₀ L rest bk dk m₀ s .next { s with heap := h', toks := tk } := ⟨_, _, _, _, _, _, _, _, _, rfl, rfl, F2, N2, a1, a2, a3, a4, a5, a6, a7, a8⟩
end
/-- an exception that flies up to the law's own frame: what the frame's ledger held beside stands -/
theorem flies_K {h₀ g h' : Heap} {env : Env} {L : Addr} {cls e : Value} {n' rest : List (Addr × Obj)} (x : Flies h₀ g [env] cls n' e h') (hr : ∀ q ∈ rest, g.get? q.1 = some q.2 ∧ h₀.get? q.1 = none ∧ q.1 ≠ L) (hf : env.frame = some L) :
    ∃ ea t vs, e = .ref ea ∧ RaisedK h₀ [env] ea cls t vs (n' ++ rest) h' ∧ g.UpToSlots h' := by
  obtain ⟨ea, t, vs, rfl, ⟨⟨W, h1, h2, h3, h4, h5⟩, h6⟩, h7⟩ := x
  refine ⟨ea, t, vs, rfl, ⟨⟨W, h1, fun q hq => ?_, h4, h5⟩, h6⟩, h7⟩
  rcases List.mem_append.mp hq with hq | hq
  · exact ⟨(h3 q hq).1, (h3 q hq).2.2⟩
  · obtain ⟨r1, r2, r3⟩ := hr q hq
    refine ⟨h2 _ _ r1 fun hm => r3 ?_, r2⟩
    obtain ⟨v, hv, hb⟩ := List.mem_filterMap.mp hm
    rw [List.mem_singleton.mp hv, hf] at hb
    exact (Option.some.inj hb).symm
theorem flies_apart {base g h' : Heap} {l : List Env} {cls e : Value} {n' rest : List (Addr × Obj)} {P : Addr × Obj → Prop} (x : Flies base g l cls n' e h') (hr : ∀ q ∈ rest, g.get? q.1 = some q.2 ∧ P q) : ∀ q ∈ n', ∀ r ∈ rest, q.1 ≠ r.1 := fun q hq r hr' e => by
  obtain ⟨ea, t, vs, _, ⟨⟨W, h1, h2, h3, h4, h5⟩, h6⟩, h7⟩ := x
  have k1 := (h3 q hq).2.1
  rw [e, (hr r hr').1] at k1
  cases k1
theorem halves (ks : List Int) (k : Nat) : [ks.take k, (ks.drop k).take (ks.length - k)].flatten = ks := by
  simp only [List.flatten_cons, List.flatten_nil, List.append_nil]
  rw [List.take_of_length_le (l := ks.drop k) (by rw [List.length_drop]; omega)]
  exact List.take_append_drop k ks
theorem thirds (ks : List Int) (k : Nat) : [ks.take k, [], (ks.drop k).take (ks.length - k)].flatten = ks := by
  have := halves ks k
  simpa using this
section
variable {prog : Program} {w : World} {A : Around} {s : Shared} {E : Value → Shared → Prop} {h₀ : Heap} {L T R : Addr} {news : List (Addr × Obj)} {bk dk : List Int} {tv dv : Value} {vt vd : List Value} {nt nd : Nat}
theorem ne_due {Q : Value → Shared → Prop} (N : News h₀ L s.heap news) (m1 : (T, listOf (List.toArray vt) nt) ∈ news) (m2 : (R, listOf (List.toArray vd) nd) ∈ news) (hT : DueIs bk dk tv T vt) (hD : DueIs bk dk dv R vd) (hu : A.units + 64 < cLine) (h : Q (.bool false) s) :
    wpAny (model prog w) A (compareOp .NotEq tv dv) Q E s := by
  rcases hT with ⟨rfl, e1⟩ | ⟨rfl, a1, i1, e1⟩ <;> rcases hD with ⟨rfl, e2⟩ | ⟨rfl, a2, i2, e2⟩
  · exact EqNone.ne_none_none h
  · rw [e1] at e2; cases e2
  · rw [e1] at e2; cases e2
  · rw [e1] at e2
    obtain rfl := Option.some.inj e2
    refine ne_intsK (News.isList N m1) i1 (News.isList N m2) i2 hu ?_
    rw [decide_eq_true rfl]
    exact h
end
section
variable {A₀ : Around} {E : Value → Shared → Prop} {s : Shared} {h₀ g : Heap} {L a e t : Addr} {m : Str → Option Value} {cn : Str} {cs : Scope} {ccd : Value} {cl : List (Str × Addr)}
  {vs : List Value} {b₀ : Stmt} {suite : List Stmt} {pos np : Pos} {rest : List ExceptHandler} {Q : Flow → Shared → Prop} {news : List (Addr × Obj)}
/-- an ApplyDeltaError comes to the law's own except: its frame may have cells -/
theorem caught_law (w : World) {p : Program} {loose : List Str} {mean : ExcName → Option Value} {mg mb : Str → Option Value}
    (B : Below A₀ h₀ [] h₀) (F : Fr h₀ L g m) (hu : g.UpToSlots s.heap) (R : RaisedK h₀ [envX cn cs L a ccd cl] e (.ref 32) t vs news s.heap) (X : (hd.heap_39 w.params).In h₀) (T : Top p loose mean mg mb h₀)
    (k : ∀ h', Fr h₀ L h' m → News h₀ L h' news → wpAny (TheM w) ((A₀.deeper (envX cn cs L a ccd cl)).mark (some (.ref e))) (execs (b₀ :: suite) (envX cn cs L a ccd cl)) Q E { s with heap := h' })
    (hk : cs.kind = .function) (hx : (envX cn cs L a ccd cl).kindOf (Str.ofString "ApplyDeltaError") = some .globalImplicit)
    (hE : PassesOwnAt (TheM w) ((A₀.deeper (envX cn cs L a ccd cl)).mark (some (.ref e))) (A₀.deeper (envX cn cs L a ccd cl)) (envX cn cs L a ccd cl) E) :
    wpAny (TheM w) (A₀.deeper (envX cn cs L a ccd cl)) (noteFrame (.ref e) (envX cn cs L a ccd cl))
      (fun _ s₂ => wpAny (TheM w) (A₀.deeper (envX cn cs L a ccd cl)) (setFlight (.ref e) none) (fun _ s₃ =>
        wpAny (TheM w) (A₀.deeper (envX cn cs L a ccd cl)) (handleBy (.ref e) (envX cn cs L a ccd cl) (.ExceptHandler (some (.Name (Str.ofString "ApplyDeltaError") np)) none (b₀ :: suite) pos :: rest)) Q E s₃) E s₂) E s := by
  have hfill : (fun _ : OpenLaw => hd.heap_39) PySem.Challenge.rw_jq0004_03 = hd.heap_39 := by (k_fill; rfl)
  clear hfill
  obtain ⟨⟨W, hW, hl, hfl, _⟩, _⟩ := R
  have hWL : W.get? L = none := by
    obtain ⟨_, ⟨L', _, hf, hn, _⟩, _⟩ := hfl.2.2.1
    exact (Option.some.inj hf : L = L') ▸ hn
  obtain ⟨_, _, _, _, _, _, _, _, _, _, _, _, _, _, hCK⟩ := clsK w
  refine wpAny_looks_onW (Around.frames_deeper B.stack) rfl hfl fun h1 y1 u1 => ?_
  refine wpAny_landsW y1 fun h2 y2 u2 => ?_
  have z2 := flyingW_base hW y2
  have F2 := F.of_stays z2.1 (hu.trans (u1.trans u2))
  obtain ⟨ob, k1, k2⟩ := z2.there
  refine wpAny_handleBy_cons (codeAny_handlers_test (nameX_K F2 X (topRead_of T) (v := .ref 32) (by k_dflt k_is) ?_ hk hx (by decide))) (by intro q; cases q)
  refine wpAny_excMatches_sub_self (F2.keep _ _ (X _ _ hCK)) k1 k2 (by decide) (codeAny_handlers_suite ?_)
  refine lands_againW y2 fun h3 y3 u3 => ?_
  refine wpAny_passesOwnAt hE (k h3 (F.of_stays (flyingW_base hW y3).1 ((hu.trans (u1.trans u2)).trans u3)) fun q hq => ⟨y3.1 _ _ (hl q hq).1, fun z => ?_, (hl q hq).2⟩)
  have := (hl q hq).1
  rw [z, hWL] at this
  cases this
end
end Mine
open PySem PySem.W PyProof.Rows PySem.Calls PySem.Spec
namespace Mine
set_option maxRecDepth 100000
set_option maxHeartbeats 4000000 in
theorem law_fin3 (w : World) {p : Program} {loose : List Str} {mean : ExcName → Option Value} {mg mb : Str → Option Value}
   {oc od0 : _} {osl : _} {nm ql : Str} {ps : Arguments} {bd : List Stmt} {sc : Scope} {dV kV dc pm0 cdv ct fc : Value} {an : Option Addr} {fa : Addr}
   (hK : List.lookup 92 (hd.heap_39 w.params) = some ⟨oc, od0, .func (fnOf nm ql ps bd sc dV kV dc pm0 an cdv ct), osl⟩)
   {g0 : Heap} (X : (hd.heap_39 w.params).In g0) (T : Top p loose mean mg mb g0) (codeHd : CodeHd g0 46 42) (B : Below callerA g0 [] g0)
   {s : Shared} {L ls lo : Addr} {m : Str → Option Value} {ws wo : List Value} {bk dk : List Int} {n1 n2 : Nat} {a : Int} {ta : Tok} {dv : Value} {R : Addr} {vd : List Value} {nd : Nat}
   (F : Fr g0 L s.heap (kstB m [(Str.ofString "source", .ref ls), (Str.ofString "octets", .ref lo), (Str.ofString "at", .int a ta), (Str.ofString "due", dv)])) (N : News g0 L s.heap ((ls, listOf (List.toArray ws) n1) :: (lo, listOf (List.toArray wo) n2) :: (42, tabObj #[]) :: (R, listOf (List.toArray vd) nd) :: []))
   (hws : IntsAre ws bk) (hwo : IntsAre wo dk) (hbo : KBa.In bk) (hdo : KBa.In dk) (hbl : bk.length ≤ 300) (hdl : dk.length ≤ 1800) (ha0 : 0 ≤ a) (ha1 : a < 1000000) (n42a : @Ne Nat ls 42) (n42b : @Ne Nat lo 42) (n42c : @Ne Nat R 42) (hbig : ∀ t, readDelta bk dk = some t → t.length ≤ 16777216) (hdue : DueIs bk dk dv R vd)
   {Pn : Flow → Shared → Prop} {E : Value → Shared → Prop}
   (hP : ∀ h' tk m' qs, Fr g0 L h' m' → News g0 L h' [(42, tabObj qs)] → Pn (.ret (.bool true)) { s with heap := h', toks := tk }) :
   wpAny (TheM w) (callerA.deeper (envOfC ql sc L fa fc)) (execs (bd.drop 13) (envOfC ql sc L fa fc)) Pn
     (fun e s' => wpAny (TheM w) (callerA.deeper (envOfC ql sc L fa fc)) (leaving (envOfC ql sc L fa fc) e) (fun _ s'' => E e s'') (fun e' s'' => E e' s'') s') s := by
  have hfill : (fun _ : OpenLaw => hd.heap_39) PySem.Challenge.rw_jq0004_03 = hd.heap_39 := by (k_fill; rfl)
  clear hfill
  have hK' := (by k_dflt k_is : List.lookup 92 (hd.heap_39 w.params) = some ⟨_, _, .func (fnOf _ _ _ _ _ _ _ _ _ _ _ _), _⟩)
  rw [hK'] at hK
  cases hK
  clear hK'
  dsimp only [List.drop]
  have hwsl := hws.length
  have hwol := hwo.length
  k_with_none
  k_with "execs cons" => k_fold
  k_with "eval Call" => k_fold
  k_with "storeName" => (k_here; k_dflt (first | (refine' storeI_L ?F ?N ?_ ?a ?b; (case F => k_asm); (case N => k_asm); (case a => rfl); (case b => rfl); k_whole; intro h' tk' t' F' N'; (try k_sweep); (try dsimp only); (try k_fold)) | (refine' storeB_L ?F ?N ?_ ?a ?b; (case F => k_asm); (case N => k_asm); (case a => rfl); (case b => rfl); k_whole; intro h' tk' t' F' N'; (try k_sweep); (try dsimp only); (try k_fold)) | (refine' storeG_L ?F ?N ?_ ?a ?b; (case F => k_asm); (case N => k_asm); (case a => rfl); (case b => rfl); k_whole; intro h' tk' F' N'; (try k_sweep); (try dsimp only); (try k_fold))))
  k_with "call type:bytes" => (k_here; (with_reducible show wpAny _ _ (call (Value.type "bytes") [Value.ref ls]) _ _ _); k_dflt (refine' KBa.make_K ?kbaF ?kbaN ?kbah ?kbal hws hbo ?kban ?_; (case kbaF => k_asm); (case kbaN => k_asm); (case kbah => rfl); (case kbal => kba_isList); (case kban => omega)); intro _ _ _ F' N' kbaIn)
  k_with "call type:bytes" => (k_here; (with_reducible show wpAny _ _ (call (Value.type "bytes") [Value.ref lo]) _ _ _); k_dflt (refine' KBa.make_K ?kbaF ?kbaN ?kbah ?kbal hwo hdo ?kban ?_; (case kbaF => k_asm); (case kbaN => k_asm); (case kbah => rfl); (case kbal => kba_isList); (case kban => omega)); intro _ _ _ F' N' kbaIn)
  k_with "exec Try" => ((k_here; (fail_if_success (have h9 := inTry)); (with_reducible show wpAny _ _ (exec _ _) _ _ _); (rename Fr _ _ _ _ => kF); (rename News _ _ _ _ => kN); k_dflt (first | refine cut_try [_, _, _, _, _, _, _] bk dk kF kN (List.forall_mem_cons.mpr ⟨List.Mem.head _, List.forall_mem_cons.mpr ⟨List.Mem.tail _ (List.Mem.tail _ (List.Mem.tail _ (List.Mem.tail _ (List.Mem.tail _ (List.Mem.head _))))), List.forall_mem_cons.mpr ⟨List.Mem.tail _ (List.Mem.tail _ (List.Mem.tail _ (List.Mem.tail _ (List.Mem.tail _ (List.Mem.tail _ (List.Mem.head _)))))), List.forall_mem_cons.mpr ⟨List.Mem.tail _ (List.Mem.tail _ (List.Mem.tail _ (List.Mem.tail _ (List.Mem.tail _ (List.Mem.tail _ (List.Mem.tail _ (List.Mem.tail _ (List.Mem.tail _ (List.Mem.head _))))))))), List.forall_mem_cons.mpr ⟨List.Mem.tail _ (List.Mem.tail _ (List.Mem.tail _ (List.Mem.tail _ (List.Mem.tail _ (List.Mem.tail _ (List.Mem.tail _ (List.Mem.tail _ (List.Mem.tail _ (List.Mem.tail _ (List.Mem.head _)))))))))), List.forall_mem_cons.mpr ⟨List.Mem.tail _ (List.Mem.tail _ (List.Mem.tail _ (List.Mem.tail _ (List.Mem.tail _ (List.Mem.tail _ (List.Mem.tail _ (List.Mem.tail _ (List.Mem.tail _ (List.Mem.tail _ (List.Mem.tail _ (List.Mem.head _))))))))))), List.forall_mem_cons.mpr ⟨List.Mem.tail _ (List.Mem.tail _ (List.Mem.tail _ (List.Mem.tail _ (List.Mem.tail _ (List.Mem.tail _ (List.Mem.tail _ (List.Mem.tail _ (List.Mem.tail _ (List.Mem.tail _ (List.Mem.tail _ (List.Mem.tail _ (List.Mem.head _)))))))))))), List.forall_mem_nil _⟩⟩⟩⟩⟩⟩⟩) ?_ ?_ | refine cut_try [_, _, _, _, _, _, _, _, _] bk dk kF kN (List.forall_mem_cons.mpr ⟨List.Mem.head _, List.forall_mem_cons.mpr ⟨List.Mem.tail _ (List.Mem.head _), List.forall_mem_cons.mpr ⟨List.Mem.tail _ (List.Mem.tail _ (List.Mem.head _)), List.forall_mem_cons.mpr ⟨List.Mem.tail _ (List.Mem.tail _ (List.Mem.tail _ (List.Mem.head _))), List.forall_mem_cons.mpr ⟨List.Mem.tail _ (List.Mem.tail _ (List.Mem.tail _ (List.Mem.tail _ (List.Mem.head _)))), List.forall_mem_cons.mpr ⟨List.Mem.tail _ (List.Mem.tail _ (List.Mem.tail _ (List.Mem.tail _ (List.Mem.tail _ (List.Mem.head _))))), List.forall_mem_cons.mpr ⟨List.Mem.tail _ (List.Mem.tail _ (List.Mem.tail _ (List.Mem.tail _ (List.Mem.tail _ (List.Mem.tail _ (List.Mem.head _)))))), List.forall_mem_cons.mpr ⟨List.Mem.tail _ (List.Mem.tail _ (List.Mem.tail _ (List.Mem.tail _ (List.Mem.tail _ (List.Mem.tail _ (List.Mem.tail _ (List.Mem.head _))))))), List.forall_mem_cons.mpr ⟨List.Mem.tail _ (List.Mem.tail _ (List.Mem.tail _ (List.Mem.tail _ (List.Mem.tail _ (List.Mem.tail _ (List.Mem.tail _ (List.Mem.tail _ (List.Mem.tail _ (List.Mem.head _))))))))), List.forall_mem_nil _⟩⟩⟩⟩⟩⟩⟩⟩⟩) ?_ ?_); (rotate_left); (clear kF kN; intro kU kH kTk tv1 T1 vt1 nt1 ca1 oca1 cb1 ocb1 k1a k1b k1c k1d k1e k1f k1g hdu1 kFr kNews; (have kA := k1f _ (List.Mem.head _)); (have kB := k1g _ (List.Mem.head _)); dsimp only at kA kB; (try k_fold)); (rotate_left); ((have inTry : True := trivial); (try k_fold))))
  k_with "call ref" => ((with_reducible show wpAny _ _ (call (Value.ref 54) [Value.bytes _ _, Value.bytes _ _]) _ _ _); (rename Fr _ _ _ _ => kF); (rename News _ _ _ _ => kN); k_dflt (refine Spec.use (A₀ := callerA) (pass_on w X T (1 + claimMargin + 1) (4 + 3) (some []) [_] ?hdp fun env => apply_first w X T codeHd (1 + claimMargin + 1 + 1) (4 + 3 + 3) (some []) (env :: [_]) ?hdp2 ?hu _ _ (KBa.ints_make hbo) (KBa.ints_make hdo) ?hb ?hd0) B kF kN [_, _, _, _, _, _, _, _, _] ?hn (List.forall_mem_cons.mpr ⟨List.Mem.head _, List.forall_mem_cons.mpr ⟨List.Mem.tail _ (List.Mem.head _), List.forall_mem_cons.mpr ⟨List.Mem.tail _ (List.Mem.tail _ (List.Mem.head _)), List.forall_mem_cons.mpr ⟨List.Mem.tail _ (List.Mem.tail _ (List.Mem.tail _ (List.Mem.head _))), List.forall_mem_cons.mpr ⟨List.Mem.tail _ (List.Mem.tail _ (List.Mem.tail _ (List.Mem.tail _ (List.Mem.head _)))), List.forall_mem_cons.mpr ⟨List.Mem.tail _ (List.Mem.tail _ (List.Mem.tail _ (List.Mem.tail _ (List.Mem.tail _ (List.Mem.head _))))), List.forall_mem_cons.mpr ⟨List.Mem.tail _ (List.Mem.tail _ (List.Mem.tail _ (List.Mem.tail _ (List.Mem.tail _ (List.Mem.tail _ (List.Mem.head _)))))), List.forall_mem_cons.mpr ⟨List.Mem.tail _ (List.Mem.tail _ (List.Mem.tail _ (List.Mem.tail _ (List.Mem.tail _ (List.Mem.tail _ (List.Mem.tail _ (List.Mem.head _))))))), List.forall_mem_cons.mpr ⟨List.Mem.tail _ (List.Mem.tail _ (List.Mem.tail _ (List.Mem.tail _ (List.Mem.tail _ (List.Mem.tail _ (List.Mem.tail _ (List.Mem.tail _ (List.Mem.tail _ (List.Mem.head _))))))))), List.forall_mem_nil _⟩⟩⟩⟩⟩⟩⟩⟩⟩) ?hd rfl rfl ?_ ?_; (case hdp => decide); (case hdp2 => decide); (case hu => decide); (case hb => omega); (case hd0 => omega); (case hn => (intro q hq; rw [List.mem_singleton.mp hq]; k_mem)); (case hd => (repeat' (first | exact List.forall_mem_nil _ | refine List.forall_mem_cons.mpr ⟨fun r hr => by rw [List.mem_singleton.mp hr]; (show @Ne Nat _ _); omega, ?_⟩)))); (rotate_left); (intro e9 h9 tk9 n9 g9 hx9 F9 hr9 fl9; (try dsimp only); (try k_fold); obtain ⟨ht9, hx8⟩ := hx9; (have hap9 := flies_apart fl9 hr9); obtain ⟨ea9, et9, ev9, rfl, kR9, kU9⟩ := flies_K fl9 hr9 rfl; (unfold Tab at ht9); obtain ⟨ca, oca, cb, ocb, en9, hoca, hocb, hcab, hca, hcb⟩ := ht9; subst en9; dsimp only [List.cons_append, List.nil_append] at kR9; (try k_fold)); (rotate_left); (intro v9 h9 tk9 n9 hr9 F9 N9 ap9; (try dsimp only); (try k_fold); obtain ⟨lo9, vs9, cs9, nn9, n19, rfl, hv9, hrd9, rfl, ht9⟩ := hr9; (have hb9 := hbig _ hrd9); (have hap9 := fun q (hq : q ∈ n19) => ap9 q (List.Mem.tail _ hq)); clear ap9; (unfold Tab at ht9); obtain ⟨ca, oca, cb, ocb, en9, hoca, hocb, hcab, hca, hcb⟩ := ht9; subst en9; dsimp only [List.cons_append, List.nil_append] at N9; (try k_fold)))
  k_with "call ref" => (((with_reducible show wpAny _ _ (call (Value.ref 54) [Value.ref _, Value.ref _]) _ _ _); (rename Fr _ _ _ _ => kF); (rename News _ _ _ _ => kN); k_dflt (refine' Spec.use (A₀ := callerA) (pass_on w X T (1 + claimMargin + 1) (4 + 3) (some []) [_] ?hdp fun env => apply_lists w X T codeHd (1 + claimMargin + 1 + 1) (4 + 3 + 3) (some []) (env :: [_]) ?hdp2 ?hu (bk := bk) (dk := dk) (vs := [_, _]) (vd := [_, _, _])  (cb := [List.take (clipAt bk.length a) bk, List.take (bk.length - clipAt bk.length a) (List.drop (clipAt bk.length a) bk)]) (cd := [List.take (clipAt dk.length a) dk, [], List.take (dk.length - clipAt dk.length a) (List.drop (clipAt dk.length a) dk)]) ?hvb ?hvd (n := [(42, tabFull ca1 cb1), (ca1, oca1), (cb1, ocb1)]) ⟨ca1, oca1, cb1, ocb1, rfl, k1a, k1b, k1c, k1d, k1e⟩ ?hbk ?hdk ?hb ?hd0) B kF kN [_, _, _, _, _, _, _] (List.forall_mem_cons.mpr ⟨List.Mem.tail _ (List.Mem.tail _ (List.Mem.tail _ (List.Mem.tail _ (List.Mem.tail _ (List.Mem.tail _ (List.Mem.tail _ (List.Mem.tail _ (List.Mem.head _)))))))), List.forall_mem_cons.mpr ⟨List.Mem.tail _ (List.Mem.tail _ (List.Mem.tail _ (List.Mem.tail _ (List.Mem.tail _ (List.Mem.tail _ (List.Mem.tail _ (List.Mem.head _))))))), List.forall_mem_cons.mpr ⟨List.Mem.tail _ (List.Mem.tail _ (List.Mem.head _)), List.forall_mem_cons.mpr ⟨List.Mem.tail _ (List.Mem.tail _ (List.Mem.tail _ (List.Mem.head _))), List.forall_mem_cons.mpr ⟨List.Mem.tail _ (List.Mem.tail _ (List.Mem.tail _ (List.Mem.tail _ (List.Mem.head _)))), List.forall_mem_nil _⟩⟩⟩⟩⟩) (List.forall_mem_cons.mpr ⟨List.Mem.head _, List.forall_mem_cons.mpr ⟨List.Mem.tail _ (List.Mem.tail _ (List.Mem.tail _ (List.Mem.tail _ (List.Mem.tail _ (List.Mem.head _))))), List.forall_mem_cons.mpr ⟨List.Mem.tail _ (List.Mem.tail _ (List.Mem.tail _ (List.Mem.tail _ (List.Mem.tail _ (List.Mem.tail _ (List.Mem.head _)))))), List.forall_mem_cons.mpr ⟨List.Mem.tail _ (List.Mem.tail _ (List.Mem.tail _ (List.Mem.tail _ (List.Mem.tail _ (List.Mem.tail _ (List.Mem.tail _ (List.Mem.tail _ (List.Mem.tail _ (List.Mem.head _))))))))), List.forall_mem_cons.mpr ⟨List.Mem.tail _ (List.Mem.tail _ (List.Mem.tail _ (List.Mem.tail _ (List.Mem.tail _ (List.Mem.tail _ (List.Mem.tail _ (List.Mem.tail _ (List.Mem.tail _ (List.Mem.tail _ (List.Mem.head _)))))))))), List.forall_mem_cons.mpr ⟨List.Mem.tail _ (List.Mem.tail _ (List.Mem.tail _ (List.Mem.tail _ (List.Mem.tail _ (List.Mem.tail _ (List.Mem.tail _ (List.Mem.tail _ (List.Mem.tail _ (List.Mem.tail _ (List.Mem.tail _ (List.Mem.head _))))))))))), List.forall_mem_cons.mpr ⟨List.Mem.tail _ (List.Mem.tail _ (List.Mem.tail _ (List.Mem.tail _ (List.Mem.tail _ (List.Mem.tail _ (List.Mem.tail _ (List.Mem.tail _ (List.Mem.tail _ (List.Mem.tail _ (List.Mem.tail _ (List.Mem.tail _ (List.Mem.head _)))))))))))), List.forall_mem_nil _⟩⟩⟩⟩⟩⟩⟩) ?hd rfl rfl ?_ ?_; (case hdp => decide); (case hdp2 => decide); (case hu => decide); (case hb => omega); (case hd0 => omega); (case hvb => exact .cons (by assumption) (.cons (by assumption) .nil)); (case hvd => exact .cons (by assumption) (.cons rfl (.cons (by assumption) .nil))); (case hbk => exact halves _ _); (case hdk => exact thirds _ _); (case hd => ((repeat' (first | exact List.forall_mem_nil _ | refine List.forall_mem_cons.mpr ⟨?_, ?_⟩)) <;> ((show @Ne Nat _ _); first | exact Ne.symm (k1f (_, _) (by k_mem)) | exact Ne.symm (k1g (_, _) (by k_mem)) | omega)))); (rotate_left); (intro e9 h9 tk9 n9 g9 hx9 F9 hr9 fl9; (try dsimp only); (try k_fold); obtain ⟨ht9, hx8⟩ := hx9; (have hap9 := flies_apart fl9 hr9); obtain ⟨ea9, et9, ev9, rfl, kR9, kU9⟩ := flies_K fl9 hr9 rfl; (unfold Tab at ht9); obtain ⟨ca, oca, cb, ocb, en9, hoca, hocb, hcab, hca, hcb⟩ := ht9; subst en9; dsimp only [List.cons_append, List.nil_append] at kR9; (try k_fold)); (rotate_left); (intro v9 h9 tk9 n9 hr9 F9 N9 ap9; (try dsimp only); (try k_fold); obtain ⟨lo9, vs9, cs9, nn9, n19, rfl, hv9, hrd9, rfl, ht9⟩ := hr9; (have hb9 := hbig _ hrd9); (have hap9 := fun q (hq : q ∈ n19) => ap9 q (List.Mem.tail _ hq)); clear ap9; (unfold Tab at ht9); obtain ⟨ca, oca, cb, ocb, en9, hoca, hocb, hcab, hca, hcb⟩ := ht9; subst en9; dsimp only [List.cons_append, List.nil_append] at N9; (try k_fold))))
  k_with "getMethod bytes" => (k_here; refine method_join ?_)
  k_with "call builtin:bytes.join" => (k_here; (with_reducible show wpAny _ _ (call _ [_, Value.ref _]) _ _ _); (with_reducible rename News _ _ _ _ => kN); (with_reducible rename BytesAre _ _ => hv8); k_dflt (refine' join_K (s := ⟨_, _, _, _, _⟩) ?hl hv8 ?hz ?_; (case hz => assumption); (case hl => exact ⟨_, (kN _ (List.Mem.head _)).1, rfl, _, rfl⟩)); intro _ _ _ hj9)
  k_with "call type:list" => (k_here; (with_reducible show wpAny _ _ (call (Value.type "list") [Value.bytes _ _]) _ _ _); k_dflt (refine' list_bytes rfl ?F ?N hj9 hb9 ?_; (case F => k_asm); (case N => k_asm)); intro D8 us8 c8 h8 tk8 F8 N8 l8 hus8; (try k_lt l8))
  k_with "sub" => (exact fun q9 hq9 => List.Sublist.subset (by with_reducible (repeat (first | exact List.Sublist.refl _ | exact List.nil_sublist _ | refine List.Sublist.cons_cons _ ?_ | refine List.Sublist.cons _ ?_))) hq9)
  k_with "TryPost" => (((rename Fr _ _ _ _ => kF); (rename News _ _ _ _ => kN); k_dflt (exact try_end kF kN (by k_mem) ⟨ca, oca, cb, ocb, rfl, hoca, hocb, hcab, hca, hcb⟩ (by walk_at "sub") hap9 (by walk_at "sub") (by first | exact .inl ⟨rfl, hx8⟩ | exact .inr ⟨rfl, _, hus8, hrd9⟩) rfl (by intro z a1; simp [kstB, a1]))))
  k_with "compareOp NotEq" => ((k_here; (with_reducible show wpAny _ _ (compareOp CmpOp.NotEq tv1 dv) _ _ _); (rename News _ _ _ _ => kN); k_dflt (refine' ne_due kN ?m1 ?m2 hdu1 hdue ?hu ?_; (case m1 => exact List.Mem.head _); (case m2 => k_mem); (case hu => exact (by decide : (7 : Nat) + 64 < cLine))); clear hdu1))
  k_with "exec Try" => (k_here; (have h9 := inTry); (with_reducible show wpAny _ _ (exec (Stmt.Try _ (_ :: _) _ [] _) _) _ _ _); refine wpAny_Try_except ?_)
  k_with "noteFrame ref" => ((k_here; (rename RaisedK _ _ _ _ _ _ _ _ => kR); (rename Fr _ _ _ _ => kF); k_dflt (refine' caught_law w B kF ?hu kR X T ?_ ?hk ?hx ?hE; (case hu => assumption); (case hk => exact rfl); (case hx => exact rfl); (case hE => passes_own)); intro h7 F7 N7; (try k_sweep); (try dsimp only); (try k_fold)))
  k_steps
  (rename Fr _ _ _ _ => kF); (rename News _ _ _ _ => kN)
  exact hP _ _ _ _ kF (news_sub kN (fun q hq => by rw [List.mem_singleton.mp hq]; k_mem))
theorem law_fin3_2 (w : World) {p : Program} {loose : List Str} {mean : ExcName → Option Value} {mg mb : Str → Option Value}
   {oc od0 : _} {osl : _} {nm ql : Str} {ps : Arguments} {bd : List Stmt} {sc : Scope} {dV kV dc pm0 cdv ct fc : Value} {an : Option Addr} {fa : Addr}
   (hK : List.lookup 92 (hd.heap_39 w.params) = some ⟨oc, od0, .func (fnOf nm ql ps bd sc dV kV dc pm0 an cdv ct), osl⟩)
   {g0 : Heap} (X : (hd.heap_39 w.params).In g0) (T : Top p loose mean mg mb g0) (codeHd : CodeHd g0 46 42) (B : Below callerA g0 [] g0)
   {s : Shared} {L ls lo : Addr} {m : Str → Option Value} {ws wo : List Value} {bk dk : List Int} {n1 n2 : Nat} {a : Int} {ta : Tok} {dv : Value} {R : Addr} {vd : List Value} {nd : Nat}
   (F : Fr g0 L s.heap (kstB m [(Str.ofString "source", .ref ls), (Str.ofString "octets", .ref lo), (Str.ofString "at", .int a ta), (Str.ofString "due", dv)])) (N : News g0 L s.heap ((ls, listOf (List.toArray ws) n1) :: (lo, listOf (List.toArray wo) n2) :: (42, tabObj #[]) :: (R, listOf (List.toArray vd) nd) :: []))
   (hws : IntsAre ws bk) (hwo : IntsAre wo dk) (hbo : KBa.In bk) (hdo : KBa.In dk) (hbl : bk.length ≤ 300) (hdl : dk.length ≤ 1800) (ha0 : 0 ≤ a) (ha1 : a < 1000000) (n42a : @Ne Nat ls 42) (n42b : @Ne Nat lo 42) (n42c : @Ne Nat R 42) (hbig : ∀ t, readDelta bk dk = some t → t.length ≤ 16777216) (hdue : DueIs bk dk dv R vd)
   {E : Value → Shared → Prop} {stmts : List Stmt} {Pn : Flow → Shared → Prop} {En : Value → Shared → Prop} {Am : Around} {env : Env} (hst : bd.drop 13 = stmts) (henv : envOfC ql sc L fa fc = env) (hA : callerA.deeper (envOfC ql sc L fa fc) = Am)
   (hE : ∀ e s', wpAny (TheM w) (callerA.deeper (envOfC ql sc L fa fc)) (leaving (envOfC ql sc L fa fc) e) (fun _ s'' => E e s'') (fun e' s'' => E e' s'') s' → En e s')
   (hP : ∀ h' tk m' qs, Fr g0 L h' m' → News g0 L h' [(42, tabObj qs)] → Pn (.ret (.bool true)) { s with heap := h', toks := tk }) :
   wpAny (TheM w) Am (execs stmts env) Pn En s := by
  subst hst henv hA
  exact wpAny_mono (law_fin3 w hK X T codeHd B F N hws hwo hbo hdo hbl hdl ha0 ha1 n42a n42b n42c hbig hdue hP) (fun _ _ z => z) hE
end Mine
open PySem PySem.W PyProof.Rows PySem.Calls PySem.Spec
namespace Mine
set_option maxRecDepth 100000
set_option maxHeartbeats 4000000 in
theorem law_end3 (w : World) {p : Program} {loose : List Str} {mean : ExcName → Option Value} {mg mb : Str → Option Value}
   {oc od0 : _} {osl : _} {nm ql : Str} {ps : Arguments} {bd : List Stmt} {sc : Scope} {dV kV dc pm0 cdv ct fc : Value} {an : Option Addr} {fa : Addr}
   (hK : List.lookup 92 (hd.heap_39 w.params) = some ⟨oc, od0, .func (fnOf nm ql ps bd sc dV kV dc pm0 an cdv ct), osl⟩)
   {g0 : Heap} (X : (hd.heap_39 w.params).In g0) (T : Top p loose mean mg mb g0) (codeHd : CodeHd g0 46 42) (B : Below callerA g0 [] g0)
   {s : Shared} {L ls lo : Addr} {m : Str → Option Value} {ws wo : List Value} {bk dk : List Int} {n1 n2 : Nat} {a : Int} {ta : Tok}
   (F : Fr g0 L s.heap (kstB m [(Str.ofString "source", .ref ls), (Str.ofString "octets", .ref lo), (Str.ofString "at", .int a ta)])) (N : News g0 L s.heap [(ls, listOf (List.toArray ws) n1), (lo, listOf (List.toArray wo) n2), (42, tabObj #[])])
   (hws : IntsAre ws bk) (hwo : IntsAre wo dk) (hbo : KBa.In bk) (hdo : KBa.In dk) (hbl : bk.length ≤ 300) (hdl : dk.length ≤ 1800) (ha0 : 0 ≤ a) (ha1 : a < 1000000) (n42a : @Ne Nat ls 42) (n42b : @Ne Nat lo 42) (nne : @Ne Nat ls lo)
   {Pn : Flow → Shared → Prop} {E : Value → Shared → Prop}
   (hP : ∀ h' tk m' qs, Fr g0 L h' m' → News g0 L h' [(42, tabObj qs)] → Pn (.ret (.bool true)) { s with heap := h', toks := tk }) :
   wpAny (TheM w) (callerA.deeper (envOfC ql sc L fa fc)) (execs (bd.drop 11) (envOfC ql sc L fa fc)) Pn
     (fun e s' => wpAny (TheM w) (callerA.deeper (envOfC ql sc L fa fc)) (leaving (envOfC ql sc L fa fc) e) (fun _ s'' => E e s'') (fun e' s'' => E e' s'') s') s := by
  have hfill : (fun _ : OpenLaw => hd.heap_39) PySem.Challenge.rw_jq0004_03 = hd.heap_39 := by (k_fill; rfl)
  clear hfill
  have hK' := (by k_dflt k_is : List.lookup 92 (hd.heap_39 w.params) = some ⟨_, _, .func (fnOf _ _ _ _ _ _ _ _ _ _ _ _), _⟩)
  rw [hK'] at hK
  cases hK
  dsimp only [List.drop]
  have hbig : ∀ t, readDelta bk dk = some t → t.length ≤ 16777216 := fun t h => Nat.le_trans (readDelta_len h) (Nat.le_trans (Nat.mul_le_mul (show bk.length + 1 ≤ 301 by omega) hdl) (by decide))
  have hoct : Oct dk := hdo
  k_with_none
  k_with "execs cons" => k_fold
  k_with "eval Call" => k_fold
  k_with "storeName" => (k_here; k_dflt (first | (refine' storeI_L ?F ?N ?_ ?a ?b; (case F => k_asm); (case N => k_asm); (case a => rfl); (case b => rfl); k_whole; intro h' tk' t' F' N'; (try k_sweep); (try dsimp only); (try k_fold)) | (refine' storeB_L ?F ?N ?_ ?a ?b; (case F => k_asm); (case N => k_asm); (case a => rfl); (case b => rfl); k_whole; intro h' tk' t' F' N'; (try k_sweep); (try dsimp only); (try k_fold)) | (refine' storeG_L ?F ?N ?_ ?a ?b; (case F => k_asm); (case N => k_asm); (case a => rfl); (case b => rfl); k_whole; intro h' tk' F' N'; (try k_sweep); (try dsimp only); (try k_fold))))
  k_with "call ref" => ((with_reducible show wpAny _ _ (call (Value.ref 87) [_, _]) _ _ _); (rename Fr _ _ _ _ => kF); (rename News _ _ _ _ => kN); k_dflt (refine' Spec.use (A₀ := callerA) (read3_spec w X T (1 + claimMargin + 1) (4 + 3) (some []) [_] ?hdp ?hu nne hws hwo hoct hbl hdl) B kF kN [(42, tabObj #[])] ?hn ?hr ?hd rfl rfl ?_ ?_; (case hdp => decide); (case hu => decide); (case hn => repeat' (first | exact List.forall_mem_nil _ | refine List.forall_mem_cons.mpr ⟨by k_mem, ?_⟩)); (case hr => intro q hq; rw [List.mem_singleton.mp hq]; k_mem); (case hd => intro q hq; rw [List.mem_singleton.mp hq]; exact List.forall_mem_cons.mpr ⟨Ne.symm n42a, List.forall_mem_cons.mpr ⟨Ne.symm n42b, List.forall_mem_nil _⟩⟩)); (rotate_left); ((intro e9 h9 tk9 n9 g9 hx9; exact hx9.elim)); (intro v9 h9 tk9 n9 hr9 F9 N9 ap9; (try dsimp only); (try k_fold); (rcases hr9 with ⟨rfl, hrd, rfl⟩ | ⟨⟨t9, rfl⟩, rfl⟩ | ⟨R9, vs9, acc9, nn9, rfl, rfl, hv9, hrd⟩) <;> (dsimp only [List.cons_append, List.nil_append] at N9; (try k_fold))))
  k_with "execs cons Assign cons" => ((with_reducible show wpAny _ _ (execs (Stmt.Assign [Expr.Name "whole" _] _ _ :: _) _) _ _ _); (rename Fr _ _ _ _ => kF); (rename News _ _ _ _ => kN); first
    | k_dflt (refine' law_fin3_2 (E := E) w hK' X T codeHd B ?F ?N hws hwo hbo hdo hbl hdl ha0 ha1 n42a n42b n42a hbig (.inl ⟨rfl, hrd⟩) ?hst ?henv ?hA ?hE ?hP; (case hst => exact rfl); (case henv => exact rfl); (case hA => exact rfl); (case hE => exact fun _ _ z => z); (case F => refine fr_names kF ?_; (repeat' (first | exact List.forall_mem_nil _ | refine List.forall_mem_cons.mpr ⟨by exact rfl, ?_⟩))); (case N => exact news_sub kN (List.forall_mem_cons.mpr ⟨by k_mem, List.forall_mem_cons.mpr ⟨by k_mem, List.forall_mem_cons.mpr ⟨by k_mem, List.forall_mem_cons.mpr ⟨by k_mem, List.forall_mem_nil _⟩⟩⟩⟩)); (case hP => exact fun h' tk m' qs F9 N9 => hP h' tk m' qs F9 N9))
    | k_dflt (refine' law_fin3_2 (E := E) w hK' X T codeHd B ?F ?N hws hwo hbo hdo hbl hdl ha0 ha1 n42a n42b ?n42c hbig (.inr ⟨rfl, _, hv9, hrd⟩) ?hst ?henv ?hA ?hE ?hP; (case hst => exact rfl); (case henv => exact rfl); (case hA => exact rfl); (case hE => exact fun _ _ z => z); (case F => refine fr_names kF ?_; (repeat' (first | exact List.forall_mem_nil _ | refine List.forall_mem_cons.mpr ⟨by exact rfl, ?_⟩))); (case N => exact news_sub kN (List.forall_mem_cons.mpr ⟨by k_mem, List.forall_mem_cons.mpr ⟨by k_mem, List.forall_mem_cons.mpr ⟨by k_mem, List.forall_mem_cons.mpr ⟨by k_mem, List.forall_mem_nil _⟩⟩⟩⟩)); (case n42c => exact ap9 _ (List.Mem.head _) _ (List.Mem.head _)); (case hP => exact fun h' tk m' qs F9 N9 => hP h' tk m' qs F9 N9)))
  k_with "compareOp Eq ref str" => (k_here; (with_reducible show wpAny _ _ (compareOp CmpOp.Eq (Value.ref R9) (Value.str _ _)) _ _ _); (rename News _ _ _ _ => kN); k_dflt (refine' PySem.SeqAt.RcAt.list_str _ _ (News.isList kN (List.Mem.head _)) ?hu _ _ _ _ ?_; (case hu => exact (by decide : (7 : Nat) < cLine))))
  k_steps
  (rename Fr _ _ _ _ => kF); (rename News _ _ _ _ => kN)
  exact hP _ _ _ _ kF kN
theorem law_end3_2 (w : World) {p : Program} {loose : List Str} {mean : ExcName → Option Value} {mg mb : Str → Option Value}
   {oc od0 : _} {osl : _} {nm ql : Str} {ps : Arguments} {bd : List Stmt} {sc : Scope} {dV kV dc pm0 cdv ct fc : Value} {an : Option Addr} {fa : Addr}
   (hK : List.lookup 92 (hd.heap_39 w.params) = some ⟨oc, od0, .func (fnOf nm ql ps bd sc dV kV dc pm0 an cdv ct), osl⟩)
   {g0 : Heap} (X : (hd.heap_39 w.params).In g0) (T : Top p loose mean mg mb g0) (codeHd : CodeHd g0 46 42) (B : Below callerA g0 [] g0)
   {s : Shared} {L ls lo : Addr} {m : Str → Option Value} {ws wo : List Value} {bk dk : List Int} {n1 n2 : Nat} {a : Int} {ta : Tok}
   (F : Fr g0 L s.heap (kstB m [(Str.ofString "source", .ref ls), (Str.ofString "octets", .ref lo), (Str.ofString "at", .int a ta)])) (N : News g0 L s.heap [(ls, listOf (List.toArray ws) n1), (lo, listOf (List.toArray wo) n2), (42, tabObj #[])])
   (hws : IntsAre ws bk) (hwo : IntsAre wo dk) (hbo : KBa.In bk) (hdo : KBa.In dk) (hbl : bk.length ≤ 300) (hdl : dk.length ≤ 1800) (ha0 : 0 ≤ a) (ha1 : a < 1000000) (n42a : @Ne Nat ls 42) (n42b : @Ne Nat lo 42) (nne : @Ne Nat ls lo)
   {E : Value → Shared → Prop} {stmts : List Stmt} {Pn : Flow → Shared → Prop} {En : Value → Shared → Prop} {Am : Around} {env : Env} (hst : bd.drop 11 = stmts) (henv : envOfC ql sc L fa fc = env) (hA : callerA.deeper (envOfC ql sc L fa fc) = Am)
   (hE : ∀ e s', wpAny (TheM w) (callerA.deeper (envOfC ql sc L fa fc)) (leaving (envOfC ql sc L fa fc) e) (fun _ s'' => E e s'') (fun e' s'' => E e' s'') s' → En e s')
   (hP : ∀ h' tk m' qs, Fr g0 L h' m' → News g0 L h' [(42, tabObj qs)] → Pn (.ret (.bool true)) { s with heap := h', toks := tk }) :
   wpAny (TheM w) Am (execs stmts env) Pn En s := by
  subst hst henv hA
  exact wpAny_mono (law_end3 w hK X T codeHd B F N hws hwo hbo hdo hbl hdl ha0 ha1 n42a n42b nne hP) (fun _ _ z => z) hE
end Mine
open PySem PySem.W PyProof.Rows PySem.Calls PySem.Spec
namespace Mine
set_option maxRecDepth 100000
def sizP (os : List Int) : Prop := Oct os ∧ 1 ≤ os.length ∧ os.length ≤ 14
def octP (os : List Int) : Prop := Oct os ∧ os.length ≤ 1300
set_option maxHeartbeats 4000000 in
theorem law_rest3 (w : World) {p : Program} {loose : List Str} {mean : ExcName → Option Value} {mg mb : Str → Option Value}
   {oc od0 : _} {osl : _} {nm ql : Str} {ps : Arguments} {bd : List Stmt} {sc : Scope} {dV kV dc pm0 cdv ct fc : Value} {an : Option Addr} {fa : Addr}
   (hK : List.lookup 92 (hd.heap_39 w.params) = some ⟨oc, od0, .func (fnOf nm ql ps bd sc dV kV dc pm0 an cdv ct), osl⟩)
   {g0 : Heap} (X : (hd.heap_39 w.params).In g0) (T : Top p loose mean mg mb g0) (codeHd : CodeHd g0 46 42) (B : Below callerA g0 [] g0)
   {s : Shared} {L ls lx : Addr} {m : Str → Option Value} {ws vs : List Value} {bk ns : List Int} {n1 : Nat}
   (F : Fr g0 L s.heap (kstB m [(Str.ofString "script", .ref lx), (Str.ofString "source", .ref ls)])) (N : News g0 L s.heap [(ls, listOf (List.toArray ws) n1), (42, tabObj #[])])
   (hx : g0.IsList lx vs.toArray) (hvs : IntsAre vs ns) (hns : ns.length ≤ 63) (hws : IntsAre ws bk) (hbo : KBa.In bk) (hbl : bk.length ≤ 300) (n42a : @Ne Nat ls 42)
   {Pn : Flow → Shared → Prop} {E : Value → Shared → Prop}
   (hP : ∀ h' tk m' qs, Fr g0 L h' m' → News g0 L h' [(42, tabObj qs)] → Pn (.ret (.bool true)) { s with heap := h', toks := tk }) :
   wpAny (TheM w) (callerA.deeper (envOfC ql sc L fa fc)) (execs (bd.drop 2) (envOfC ql sc L fa fc)) Pn
     (fun e s' => wpAny (TheM w) (callerA.deeper (envOfC ql sc L fa fc)) (leaving (envOfC ql sc L fa fc) e) (fun _ s'' => E e s'') (fun e' s'' => E e' s'') s') s := by
  have hfill : (fun _ : OpenLaw => hd.heap_39) PySem.Challenge.rw_jq0004_03 = hd.heap_39 := by (k_fill; rfl)
  clear hfill
  have hK' := (by k_dflt k_is : List.lookup 92 (hd.heap_39 w.params) = some ⟨_, _, .func (fnOf _ _ _ _ _ _ _ _ _ _ _ _), _⟩)
  rw [hK'] at hK
  cases hK
  dsimp only [List.drop]
  have hwsl := hws.length
  have hvsl := hvs.length
  k_with_none
  k_with "execs cons" => k_fold
  k_with "eval Call" => k_fold
  k_with "storeName" => (k_here; k_dflt (first | (refine' storeI_L ?F ?N ?_ ?a ?b; (case F => k_asm); (case N => k_asm); (case a => rfl); (case b => rfl); k_whole; intro h' tk' t' F' N'; (try k_sweep); (try dsimp only); (try k_fold)) | (refine' storeB_L ?F ?N ?_ ?a ?b; (case F => k_asm); (case N => k_asm); (case a => rfl); (case b => rfl); k_whole; intro h' tk' t' F' N'; (try k_sweep); (try dsimp only); (try k_fold)) | (refine' storeG_L ?F ?N ?_ ?a ?b; (case F => k_asm); (case N => k_asm); (case a => rfl); (case b => rfl); k_whole; intro h' tk' F' N'; (try k_sweep); (try dsimp only); (try k_fold))))
  k_with "sub" => (exact fun q9 hq9 => List.Sublist.subset (by with_reducible (repeat (first | exact List.Sublist.refl _ | exact List.nil_sublist _ | refine List.Sublist.cons_cons _ ?_ | refine List.Sublist.cons _ ?_))) hq9)
  k_with "call ref" => (((with_reducible show wpAny _ _ (call (Value.ref 73) [Value.ref _, Value.ref _]) _ _ _); (rename Fr _ _ _ _ => kF); (rename News _ _ _ _ => kN); (with_reducible rename IntsAre _ (List.map _ _) => hab); k_dflt (refine' Spec.use (A₀ := callerA) (steps3_spec w X T (1 + claimMargin + 1) (4 + 3) (some []) [_] ?hdp hws hab hbl ?hn10 (abs_all _)) B kF kN [(42, tabObj #[])] ?hn ?hr ?hd rfl rfl ?_ ?_; (case hdp => decide); (case hn10 => simp only [List.length_map, List.length_take, List.length_drop]; omega); (case hn => exact List.forall_mem_cons.mpr ⟨by k_mem, List.forall_mem_cons.mpr ⟨by k_mem, List.forall_mem_nil _⟩⟩); (case hr => intro q hq; rw [List.mem_singleton.mp hq]; k_mem); (case hd => intro q hq; rw [List.mem_singleton.mp hq]; exact List.forall_mem_cons.mpr ⟨Ne.symm n42a, List.forall_mem_cons.mpr ⟨by show @Ne Nat _ _; omega, List.forall_mem_nil _⟩⟩)); (rotate_left); ((intro e9 h9 tk9 n9 g9 hx9; exact hx9.elim)); (intro v9 h9 tk9 n9 hr9 F9 N9 ap9; (try dsimp only); (try k_fold); obtain ⟨D9, lo9, ws9, os9, nw9, tot, tt9, rfl, rfl, hI9, hO9, hL9, ht0, ht1⟩ := hr9; clear ap9; dsimp only [List.cons_append, List.nil_append] at N9; (try k_fold))))
  k_with "exec Assign" => ((k_here; (fail_if_success (have h9 := inMore)); (with_reducible show wpAny _ _ (exec (Stmt.Assign [Expr.Name "more" _] _ _) _) _ _ _); (rename Fr _ _ _ _ => kF); (rename News _ _ _ _ => kN); k_dflt (refine' cut_int [(lo9, listOf (List.toArray ws9) nw9), (ls, listOf (List.toArray ws) n1), (42, tabObj #[])] (Str.ofString "more") (fun v => 0 ≤ v) kF kN ?hk ?_ ?_; (case hk => repeat' (first | exact List.forall_mem_nil _ | refine List.forall_mem_cons.mpr ⟨by k_mem, ?_⟩))); (rotate_left); (clear kF kN; intro kU kH kTk mo tmo hmo kFr kNews; (have u1 := fmod_bd (mo.fdiv 5) (show (0 : Int) < 8 by decide)); obtain ⟨u10, u11⟩ := u1; (have u2 := fmod_bd mo (show (0 : Int) < 5 by decide)); obtain ⟨u20, u21⟩ := u2; (have u3 := fdiv_bd (d := 4) (b := 1) u20 (by decide) (by omega)); obtain ⟨u30, u31⟩ := u3; (have u4 := fdiv_bd (d := 3) (b := 1) u20 (by decide) (by omega)); obtain ⟨u40, u41⟩ := u4; (have u5 := fmod_bd ((mo.fdiv 5).fmod 8) (show (0 : Int) < 4 by decide)); obtain ⟨u50, u51⟩ := u5; (have u6 := fmod_bd (mo.fdiv 320) (show (0 : Int) < 256 by decide)); obtain ⟨u60, u61⟩ := u6; (have u7 := menu4 (((mo.fdiv 5).fmod 8).fmod 4).toNat); obtain ⟨u70, u71⟩ := u7; (try k_fold)); (rotate_left); ((have inMore : True := trivial); (try k_fold))))
  k_with "IntPst" => (((rename Fr _ _ _ _ => kF); (rename News _ _ _ _ => kN); k_dflt (exact int_pst kF kN (by walk_at "sub") rfl (by first | exact abs_nn _ | exact Int.le_refl 0) (by intro z a1; simp [kstB, a1]))))
  k_with "subscriptTail" => (k_here; (with_reducible show wpAny _ _ (subscriptTail (PySem.Expr.List _ _) _ (Value.ref _) (Value.int _ _)) _ _ _); k_dflt (refine' ksa_sub (ns := [0, 0, 1, 0]) ?k1 ?k2 ?k3 u50 ?k5 ?k6 ?_ ?k7; (case k1 => k_asm); (case k2 => exact List.Mem.head _); (case k3 => exact .cons _ _ (.cons _ _ (.cons _ _ (.cons _ _ .nil)))); (case k5 => exact u51); (case k6 => omega); (case k7 => with_unfolding_all rfl); k_whole); intro _)
  k_with "exec Assign" => ((k_here; (fail_if_success (have h9 := inSiz)); (with_reducible show wpAny _ _ (exec (Stmt.Assign [Expr.Name "sizes" _] _ _) _) _ _ _); (rename Fr _ _ _ _ => kF); (rename News _ _ _ _ => kN); k_dflt (refine' cut_lst [(lo9, listOf (List.toArray ws9) nw9), (ls, listOf (List.toArray ws) n1), (42, tabObj #[])] (Str.ofString "sizes") sizP [] kF kN ?hk ?_ ?_; (case hk => repeat' (first | exact List.forall_mem_nil _ | refine List.forall_mem_cons.mpr ⟨by k_mem, ?_⟩))); (rotate_left); (clear kF kN; intro kU kH kTk lz wz oz nz hIz hPz haz kFr kNews; (unfold sizP at hPz); obtain ⟨hOz, hz1, hz2⟩ := hPz; clear haz; (try k_fold)); (rotate_left); ((have inSiz : True := trivial); (try k_fold))))
  k_with "call ref" => ((with_reducible show wpAny _ _ (call (Value.ref 61) [_, _]) _ _ _); (rename Fr _ _ _ _ => kF); (rename News _ _ _ _ => kN); k_dflt (refine' Spec.use (A₀ := callerA) (size3_spec w X T (1 + claimMargin + 1) (4 + 3) (some []) [_] ?hdp ?h0 ?h1 ?m0 ?m1) B kF kN _ (fun _ h => nomatch h) (fun _ h => h) (fun _ _ _ h => nomatch h) rfl rfl ?_ ?_; (case hdp => decide); (case h0 => first | omega | (split <;> (rename_i hq9; simp only [decide_eq_true_eq, beq_iff_eq, decide_eq_false_iff_not, Bool.not_eq_true, beq_eq_false_iff_ne, ne_eq] at hq9; omega))); (case h1 => first | omega | (split <;> (rename_i hq9; simp only [decide_eq_true_eq, beq_iff_eq, decide_eq_false_iff_not, Bool.not_eq_true, beq_eq_false_iff_ne, ne_eq] at hq9; omega))); (case m0 => omega); (case m1 => omega)); (rotate_left); ((intro e9 h9 tk9 n9 g9 hx9; exact hx9.elim)); (intro v9 h9 tk9 n9 hr9 F9 N9 ap9; (try dsimp only); (try k_fold); obtain ⟨D8, vs8, ns8, nn8, rfl, rfl, hI8, hO8, hl81, hl82⟩ := hr9; clear ap9; dsimp only [List.cons_append, List.nil_append] at N9; (try k_fold)))
  k_with "LstPst" => ((rename Fr _ _ _ _ => kF); (rename News _ _ _ _ => kN); k_dflt (exact lst_pst (P := sizP) kF kN rfl (by walk_at "sub") (List.Mem.head _) (by assumption) ⟨oct_app (by assumption) hO8, by rw [List.length_append]; omega, by rw [List.length_append]; omega⟩ (by (repeat' (first | exact List.forall_mem_nil _ | refine List.forall_mem_cons.mpr ⟨?_, ?_⟩)) <;> (show @Ne Nat _ _; omega)) (by intro z a1; simp [kstB, a1])))
  k_with "LstPst" => ((have h9 := inIfs); (rename Fr _ _ _ _ => kF); (rename News _ _ _ _ => kN); first
    | k_dflt (exact lst_pst (P := octP) kF kN rfl (by walk_at "sub") (by k_mem) hI7 ⟨oct_app hOz hO9, by omega⟩ (by (repeat' (first | exact List.forall_mem_nil _ | refine List.forall_mem_cons.mpr ⟨?_, ?_⟩)) <;> (show @Ne Nat _ _; omega)) (by intro z a1; simp [kstB, a1]))
    | k_dflt (exact lst_pst (P := octP) kF kN rfl (by walk_at "sub") (by k_mem) (by assumption) ⟨oct_take (oct_app hOz hO9) _, by rw [List.length_take]; omega⟩ (by (repeat' (first | exact List.forall_mem_nil _ | refine List.forall_mem_cons.mpr ⟨?_, ?_⟩)) <;> (show @Ne Nat _ _; omega)) (by intro z a1; simp [kstB, a1]))
    | k_dflt (exact lst_pst (P := octP) kF kN rfl (by walk_at "sub") (by k_mem) (by assumption) ⟨oct_app (oct_app hOz hO9) (oct_single u60 u61), by rw [List.length_append, List.length_singleton]; omega⟩ (by (repeat' (first | exact List.forall_mem_nil _ | refine List.forall_mem_cons.mpr ⟨?_, ?_⟩)) <;> (show @Ne Nat _ _; omega)) (by intro z a1; simp [kstB, a1]))
    | k_dflt (exact lst_pst (P := octP) kF kN rfl (by walk_at "sub") (by k_mem) (by assumption) ⟨oct_app (oct_app (oct_take (oct_app hOz hO9) _) (oct_single u60 u61)) (oct_drop' (oct_app hOz hO9) _), by simp only [List.length_append, List.length_singleton, List.length_take, List.length_drop]; omega⟩ (by (repeat' (first | exact List.forall_mem_nil _ | refine List.forall_mem_cons.mpr ⟨?_, ?_⟩)) <;> (show @Ne Nat _ _; omega)) (by intro z a1; simp [kstB, a1]))
    | (exfalso; omega))
  k_with "binaryOp Add ref ref" => (k_here; (with_reducible show wpAny _ _ (binaryOp _ (Value.ref lz) (Value.ref lo9)) _ _ _); k_dflt (refine' kmk_add_ints ?F ?N ?a ?b hIz hI9 ?_ ?z; (case F => k_asm); (case N => k_asm); (case a => kmk_list); (case b => kmk_list); (case z => rw [sizeLine_eq]; omega); k_whole); intro D7 us7 h7 F7 N7 l7 hI7; (try k_lt l7); (have hl7 := List.length_append (as := oz) (bs := os9)); (have u8 := fmod_bd (mo.fdiv 40) (show (0 : Int) < ((oz ++ os9).length : Int) by omega)); obtain ⟨u80, u81⟩ := u8; (have u9 : (oz ++ os9).length = us7.length := hI7.length.symm))
  k_with "call builtin:len" => (k_here; (with_reducible show wpAny _ _ (call (Value.builtin "len") [Value.ref D7]) _ _ _); (rename News _ _ _ _ => kN); k_dflt (refine' len_at kN ?m hI7 ?z ?_; (case m => k_mem); (case z => omega)); intro _ _)
  k_with "subscriptTail Name Slice ref ref" => ((have h9 := inIfs); exfalso; omega)
  k_with "subscriptTail Name Slice ref ref" => (k_here; (with_reducible show wpAny _ _ (subscriptTail _ (PySem.Expr.Slice none (some _) none _) (Value.ref D7) (Value.ref _)) _ _ _); k_dflt (refine' kmk_slice_ints ?sl1F ?sl1N ?sl1l ?sl1p ?sl1q hI7 (kmk_upto hI7 ?sl1h0) rfl ?_ ?sl1s ?sl1t ?sl1z; (case sl1F => k_asm); (case sl1N => k_asm); (case sl1l => kmk_list); (case sl1p => kmk_part); (case sl1q => kmk_part); (case sl1h0 => omega); (case sl1s => with_unfolding_all rfl); (case sl1t => kmk_pure); (case sl1z => rw [List.size_toArray, sizeLine_eq]; omega)); intro D6 ws6 h6 F6 N6 l6 hI6 hC6 hL6; (try k_lt l6); (try k_sweep))
  k_with "subscriptTail Name Slice ref ref" => (k_here; (with_reducible show wpAny _ _ (subscriptTail _ (PySem.Expr.Slice (some _) none none _) (Value.ref D7) (Value.ref _)) _ _ _); k_dflt (refine' kmk_slice_ints ?sl2F ?sl2N ?sl2l ?sl2p ?sl2q hI7 (kmk_from hI7 ?sl2h0) rfl ?_ ?sl2s ?sl2t ?sl2z; (case sl2F => k_asm); (case sl2N => k_asm); (case sl2l => kmk_list); (case sl2p => kmk_part); (case sl2q => kmk_part); (case sl2h0 => omega); (case sl2s => with_unfolding_all rfl); (case sl2t => kmk_pure); (case sl2z => rw [List.size_toArray, sizeLine_eq]; omega)); intro D6 ws6 h6 F6 N6 l6 hI6 hC6 hL6; (try k_lt l6); (try k_sweep))
  k_with "execs cons If" => (((fail_if_success (have h9 := inIfs)); (with_reducible show wpAny _ _ (execs (Stmt.If _ _ _ _ :: Stmt.If _ _ _ _ :: Stmt.If _ _ _ _ :: _ :: _) _) _ _ _); (rename Fr _ _ _ _ => kF); (rename News _ _ _ _ => kN); k_dflt (refine' cut_lst3 [(ls, listOf (List.toArray ws) n1), (42, tabObj #[])] (Str.ofString "octets") octP [42, ls] kF kN ?hk ?_ ?_; (case hk => repeat' (first | exact List.forall_mem_nil _ | refine List.forall_mem_cons.mpr ⟨by k_mem, ?_⟩))); (rotate_left); (clear kF kN; intro kU kH kTk lq wq oq nq hIq hPq haq kFr kNews; (unfold octP at hPq); obtain ⟨hOq, hq1⟩ := hPq; (simp only [List.forall_mem_cons, List.not_mem_nil, false_implies, implies_true, and_true] at haq); obtain ⟨hqa, hqb⟩ := haq; (try k_fold)); (rotate_left); ((have inIfs : True := trivial); (try k_fold))))
  k_with "execs cons Assign cons" => (((with_reducible show wpAny _ _ (execs (Stmt.Assign [Expr.Name "due" _] _ _ :: _) _) _ _ _); (rename Fr _ _ _ _ => kF); (rename News _ _ _ _ => kN); k_dflt (refine' law_end3_2 (E := E) w hK' X T codeHd B ?F ?N hws hIq hbo hOq hbl ?hdl u80 ?ha1 n42a hqa (Ne.symm hqb) ?hst ?henv ?hA ?hE ?hP; (case hst => exact rfl); (case henv => exact rfl); (case hA => exact rfl); (case hE => exact fun _ _ z => z); (case F => refine fr_names kF ?_; (repeat' (first | exact List.forall_mem_nil _ | refine List.forall_mem_cons.mpr ⟨by exact rfl, ?_⟩))); (case N => exact news_sub kN (List.forall_mem_cons.mpr ⟨by k_mem, List.forall_mem_cons.mpr ⟨by k_mem, List.forall_mem_cons.mpr ⟨by k_mem, List.forall_mem_nil _⟩⟩⟩)); (case hdl => omega); (case ha1 => omega); (case hP => exact fun h' tk m' qs F9 N9 => hP h' tk m' qs F9 N9))))
  k_steps
theorem law_rest3_2 (w : World) {p : Program} {loose : List Str} {mean : ExcName → Option Value} {mg mb : Str → Option Value}
   {oc od0 : _} {osl : _} {nm ql : Str} {ps : Arguments} {bd : List Stmt} {sc : Scope} {dV kV dc pm0 cdv ct fc : Value} {an : Option Addr} {fa : Addr}
   (hK : List.lookup 92 (hd.heap_39 w.params) = some ⟨oc, od0, .func (fnOf nm ql ps bd sc dV kV dc pm0 an cdv ct), osl⟩)
   {g0 : Heap} (X : (hd.heap_39 w.params).In g0) (T : Top p loose mean mg mb g0) (codeHd : CodeHd g0 46 42) (B : Below callerA g0 [] g0)
   {s : Shared} {L ls lx : Addr} {m : Str → Option Value} {ws vs : List Value} {bk ns : List Int} {n1 : Nat}
   (F : Fr g0 L s.heap (kstB m [(Str.ofString "script", .ref lx), (Str.ofString "source", .ref ls)])) (N : News g0 L s.heap [(ls, listOf (List.toArray ws) n1), (42, tabObj #[])])
   (hx : g0.IsList lx vs.toArray) (hvs : IntsAre vs ns) (hns : ns.length ≤ 63) (hws : IntsAre ws bk) (hbo : KBa.In bk) (hbl : bk.length ≤ 300) (n42a : @Ne Nat ls 42)
   {E : Value → Shared → Prop} {stmts : List Stmt} {Pn : Flow → Shared → Prop} {En : Value → Shared → Prop} {Am : Around} {env : Env} (hst : bd.drop 2 = stmts) (henv : envOfC ql sc L fa fc = env) (hA : callerA.deeper (envOfC ql sc L fa fc) = Am)
   (hE : ∀ e s', wpAny (TheM w) (callerA.deeper (envOfC ql sc L fa fc)) (leaving (envOfC ql sc L fa fc) e) (fun _ s'' => E e s'') (fun e' s'' => E e' s'') s' → En e s')
   (hP : ∀ h' tk m' qs, Fr g0 L h' m' → News g0 L h' [(42, tabObj qs)] → Pn (.ret (.bool true)) { s with heap := h', toks := tk }) :
   wpAny (TheM w) Am (execs stmts env) Pn En s := by
  subst hst henv hA
  exact wpAny_mono (law_rest3 w hK X T codeHd B F N hx hvs hns hws hbo hbl n42a hP) (fun _ _ z => z) hE
end Mine
open PySem PySem.W PyProof.Rows PySem.Calls PySem.Spec
namespace Mine
set_option maxRecDepth 100000
theorem in_mod (f : Int → Int) (ks : List Int) : KBa.In (ks.map fun k => (f k).fmod 256) := oct_map (g := fun k => (f k).fmod 256) (fun k => fmod_bd (f k) (by decide)) ks
set_option maxHeartbeats 8000000 in
theorem holds : PySem.Challenge.rw_jq0004_03.Holds := by
  refine Mine.hd ?_
  k_go0
  rename World => wX
  k_with_none
  k_with "execs cons" => k_fold
  k_with "eval Call" => k_fold
  k_with "storeName" => (k_here; k_dflt (first | (refine' storeI_L ?F ?N ?_ ?a ?b; (case F => k_asm); (case N => k_asm); (case a => rfl); (case b => rfl); k_whole; intro h' tk' t' F' N'; (try k_sweep); (try dsimp only); (try k_fold)) | (refine' storeB_L ?F ?N ?_ ?a ?b; (case F => k_asm); (case N => k_asm); (case a => rfl); (case b => rfl); k_whole; intro h' tk' t' F' N'; (try k_sweep); (try dsimp only); (try k_fold)) | (refine' storeG_L ?F ?N ?_ ?a ?b; (case F => k_asm); (case N => k_asm); (case a => rfl); (case b => rfl); k_whole; intro h' tk' F' N'; (try k_sweep); (try dsimp only); (try k_fold))))
  k_with "k_ledg" => (exact fun q9 hq9 => List.Sublist.subset (by with_reducible (repeat (first | exact List.Sublist.refl _ | exact List.nil_sublist _ | refine List.Sublist.cons_cons _ ?_ | refine List.Sublist.cons _ ?_))) hq9)
  k_with "execs cons Assign cons" => (((with_reducible show wpAny _ _ (execs (Stmt.Assign [Expr.Tuple _ _ _] _ _ :: _) _) _ _ _); (rename Fr _ _ _ _ => kF); (rename News _ _ _ _ => kN); (with_reducible rename IntsAre _ (List.map _ (rangeKs _ _)) => hab); (with_reducible rename Heap.IsList _ _ _ => hxl); (rename Below _ _ _ _ => kB); (have hK' := (by k_dflt k_is : List.lookup 92 (hd.heap_39 wX.params) = some ⟨_, _, .func (fnOf _ _ _ _ _ _ _ _ _ _ _ _), _⟩)); k_dflt (refine' law_rest3_2 wX hK' ?X ?T ?C kB ?F ?N ?hx ?hv ?hns hab (in_mod _ _) ?hbl ?n42 ?hst ?henv ?hA ?hE ?_; (case hst => exact rfl); (case henv => exact rfl); (case hA => exact rfl); (case hE => exact fun _ _ z => z); (case X => assumption); (case T => assumption); (case C => assumption); (case F => refine fr_names kF ?_; (repeat' (first | exact List.forall_mem_nil _ | refine List.forall_mem_cons.mpr ⟨by exact rfl, ?_⟩))); (case N => exact news_sub kN (List.forall_mem_cons.mpr ⟨by k_mem, List.forall_mem_cons.mpr ⟨by k_mem, List.forall_mem_nil _⟩⟩)); (case hx => exact hxl); (case hv => assumption); (case hns => omega); (case hbl => rw [List.length_map, rangeKs_length]; omega); (case n42 => show @Ne Nat _ _; omega)); (intro h9 tk9 m9 qs9 F9 N9)))
  k_steps
end Mine
theorem PySem.Challenge.cw_jq0004_03_holds : PySem.Challenge.rw_jq0004_03.Holds := by
  exact Mine.holds
