import PyProof.Rows.All
import Wide.All
import OpenK.AllK
import Wide.FinOn
import KE.KPairTest
import KE.KCompFold
import KE.BytesMulAny
import KE.KLcTest
import Wide.BytesRules
import PyProof.EqKinds
import KE.KTryDeep
import KE.KStateDown
import PySem.Challenge.RW_jq0004_02
set_option Elab.async false
set_option rowWalk.seconds 3000
set_option maxHeartbeats 4000000
open PySem PySem.W PyProof.Rows
namespace Mine
section
local macro_rules | `(tactic| o_head $H) => `(tactic| assumption)
set_option maxRecDepth 100000 in
set_option maxHeartbeats 8000000 in
theorem hd (h : PySem.Challenge.rw_jq0004_02.row.Holds) : PySem.Challenge.rw_jq0004_02.row.Holds := by k_head
end
end Mine
theorem Mine.top_off : True := by
  w_top off
  trivial
local macro_rules | `(tactic| walk_at $s:str) => `(tactic| k_extra $s)
open PySem PySem.W PyProof.Rows PySem.Calls PySem.Spec
section
local macro_rules | `(tactic| omega) => `(tactic| lia)
namespace Mine
set_option maxRecDepth 100000

/-- all of a cons; a light form (the proof term is a third of `List.forall_mem_cons`'s) -/
theorem fmc {α : Type} {p : α → Prop} {a : α} {l : List α} (h : p a) (t : ∀ x ∈ l, p x) : ∀ x ∈ a :: l, p x := List.forall_mem_cons.2 (.intro h t)
theorem kst_nil {rest : Str → Option Value} {z : Str} : kstB rest [] z = rest z := rfl
theorem kst_skip {rest : Str → Option Value} {z : Str} {x : Option Value} {a : Str} {v : Value} {r : List (Str × Value)} (h : z ≠ a) (t : kstB rest r z = x) : kstB rest ((a, v) :: r) z = x := (if_neg h).trans t

noncomputable abbrev aTop (dp un : Nat) (gd : Option (List Code)) (l : List Env) : Around := { handled := none, depth := dp, frames := some l, guards := gd, units := un }

noncomputable def Led (g h : Heap) (n : List (Addr × Obj)) : Prop := ∀ q ∈ n, h.get? q.1 = some q.2 ∧ g.get? q.1 = none

theorem Led.nil {g h : Heap} : Led g h [] := fun _ hq => nomatch hq
theorem Led.of_news {g h : Heap} {L : Addr} {n : List (Addr × Obj)} (N : News g L h n) : Led g h n := fun q hq => ⟨(N q hq).1, (N q hq).2.2⟩
theorem Led.sub {g h : Heap} {n n' : List (Addr × Obj)} (N : Led g h n) (hs : ∀ q ∈ n', q ∈ n) : Led g h n' := fun q hq => N q (hs q hq)

section
variable {prog : Program} {w : World} {A : Around} {s : Shared} {base g : Heap} {l : List Env} {K : Frag} {R : Result → Shared → Prop} {name qual : Str} {params : Arguments} {body : List Stmt} {scope : Scope}
  {dV kV doc pm cdv ct oc : Value} {an od : Option Addr} {osl : Array (Option Value)} {f : Addr} {args : Args} {binds : List (Str × Value)} {p : Program} {loose : List Str} {mean : ExcName → Option Value} {mg mb : Str → Option Value} {n : List (Addr × Obj)}

theorem news_in {g h h₁ : Heap} {n : List (Addr × Obj)} (N : Led g h n) (k : ∀ b o, h.get? b = some o → h₁.get? b = some o) : News g h.objs.size h₁ n :=
  fun q hq => ⟨k _ _ (N q hq).1, Nat.ne_of_lt (Heap.lt_size (N q hq).1), (N q hq).2⟩

/-- a def of the text is entered from any state that bears the base -/
theorem enter_def (hg : g.StaysIn s.heap) (hsz : g.objs.size ≤ s.heap.objs.size) (N : Led g s.heap n) (X : K.In g) (T : Top p loose mean mg mb g)
    (ho : K.lookup f = some ⟨oc, od, .func (fnOf name qual params body scope dV kV doc pm an cdv ct), osl⟩) (hcd : codeIn K cdv qual = true) (hroom : A.depth < recursionLimit)
    (hbind : BindsTo s (fnOf name qual params body scope dV kV doc pm an cdv ct) args binds) (hloc : ∀ y ∈ binds, scope.names.lookup y.1 = some .local)
    (h : ∀ L' h₁, Fr g L' h₁ (fun y => binds.reverse.lookup y) → News g L' h₁ n → (∀ q ∈ n, q.1 < L') →
      wpAny (model prog w) (A.deeper (envOf qual scope L' f cdv)) (execs body (envOf qual scope L' f cdv))
        (fun fl s' => R (.ok (.ret (match fl with | .ret v => v | _ => .none))) s')
        (fun e s' => wpAny (model prog w) (A.deeper (envOf qual scope L' f cdv)) (leaving (envOf qual scope L' f cdv) e) (fun _ s'' => R (.error e) s'') (fun e' s'' => R (.error e') s'') s')
        { s with heap := h₁, toks := s.toks + binds.length })
    (hco : scope.isCoroutine = false) (hgen : scope.isGenerator = false) (hk : scope.kind = .function)
    (hcell : ∀ x ∈ scope.names, x.2 ≠ .cell) : codeAny (model prog w) A (.call (.ref f) args) R s := by
  have hKs := X.keeps hg
  refine codeAny_call_def (fd := fnOf name qual params body scope dV kV doc pm an cdv ct) (body := body) (binds := binds) hroom (hKs _ _ ho) rfl (T.nolimit.keeps hg) (codeRec_of hKs hcd) rfl hbind hcell hloc (fun h₁ hns hk₁ => ?_) hco hgen hk
  exact h s.heap.objs.size h₁ ⟨hns, fun b o e => hk₁ b o (hg b o e), hsz⟩ (news_in N hk₁) fun q hq => Heap.lt_size (N q hq).1

/-- the same where the def has cells -/
theorem enter_defC (hg : g.StaysIn s.heap) (hsz : g.objs.size ≤ s.heap.objs.size) (N : Led g s.heap n) (X : K.In g) (T : Top p loose mean mg mb g)
    (ho : K.lookup f = some ⟨oc, od, .func (fnOf name qual params body scope dV kV doc pm an cdv ct), osl⟩) (hcd : codeIn K cdv qual = true) (hroom : A.depth < recursionLimit)
    (hbind : BindsTo s (fnOf name qual params body scope dV kV doc pm an cdv ct) args binds) (hkind : (binds.all fun y => scope.names.lookup y.1 == some .local || scope.names.lookup y.1 == some .cell) = true)
    (hnd : ((cellsFrom 0 scope.names []).map (·.1)).Nodup)
    (h : ∀ L' h₁ tk cells, Fr g L' h₁ (bindL (envOfC qual scope L' f cdv).kindOf binds fun _ => none) → News g L' h₁ (cells ++ n) →
      CellsAre (bindC (envOfC qual scope L' f cdv).kindOf binds fun _ => none) (cellsFrom (L' + 1) scope.names []) cells → (∀ q ∈ n, q.1 < L') →
      wpAny (model prog w) (A.deeper (envOfC qual scope L' f cdv)) (execs body (envOfC qual scope L' f cdv))
        (fun fl s' => R (.ok (.ret (match fl with | .ret v => v | _ => .none))) s')
        (fun e s' => wpAny (model prog w) (A.deeper (envOfC qual scope L' f cdv)) (leaving (envOfC qual scope L' f cdv) e) (fun _ s'' => R (.error e) s'') (fun e' s'' => R (.error e') s'') s')
        { s with heap := h₁, toks := tk })
    (hco : scope.isCoroutine = false) (hgen : scope.isGenerator = false) (hk : scope.kind = .function) : codeAny (model prog w) A (.call (.ref f) args) R s := by
  have hKs := X.keeps hg
  refine codeAny_call_function hroom (hKs _ _ ho) rfl hco hgen rfl (codeRec_of hKs hcd) (hbind _ _ _ _ ?_)
  refine wpAny_newFunctionEnv_cells hk (kindsX hkind _) fun env' he s' x => ?_
  subst he
  have hk₁ := x.toInCall.keep
  refine ⟨(T.nolimit.keeps hg).keeps hk₁, codeAny_func ?_⟩
  obtain ⟨h₁, tk, rfl, _⟩ := x.done
  obtain ⟨cells, NC, Y⟩ := Cl.news (h₀ := s.heap) (Nat.le_refl _) fun n c hm => ⟨x.cell n c (lookup_of_mem_nodup (cellsFrom_names scope.names 0 (s.heap.objs.size + 1) [] [] rfl ▸ hnd) hm), x.above n c hm⟩
  refine h s.heap.objs.size h₁ tk cells ⟨x.toInCall.ns, fun b o e => hk₁ b o (hg b o e), hsz⟩ (fun q hq => ?_) Y fun q hq => Heap.lt_size (N q hq).1
  rcases List.mem_append.mp hq with hq | hq
  · refine ⟨(NC q hq).1, (NC q hq).2.1, ?_⟩
    cases e : g.get? q.1 with
    | none => rfl
    | some o => have := hg _ _ e; rw [(NC q hq).2.2] at this; cases this
  · exact news_in N hk₁ q hq

/-- a def that the call itself has made (it stands on the ledger) -/
theorem enter_nest {cl : List (Str × Addr)} {ctv : Value} {c' : Addr} (hg : g.StaysIn s.heap) (hsz : g.objs.size ≤ s.heap.objs.size) (N : Led g s.heap n) (T : Top p loose mean mg mb g)
    (ho : (f, fnMade name qual params body scope cl doc pm c' ctv) ∈ n) (hcd : s.heap.CodeRec (.ref c') qual) (hroom : A.depth < recursionLimit)
    (hbind : BindsTo s (fnX name qual params body scope cl .none .none doc pm none (.ref c') ctv) args binds) (hloc : ∀ y ∈ binds, scope.names.lookup y.1 = some .local)
    (h : ∀ L' h₁, Fr g L' h₁ (fun y => binds.reverse.lookup y) → News g L' h₁ n → (∀ q ∈ n, q.1 < L') →
      wpAny (model prog w) (A.deeper (envX qual scope L' f (.ref c') cl)) (execs body (envX qual scope L' f (.ref c') cl))
        (fun fl s' => R (.ok (.ret (match fl with | .ret v => v | _ => .none))) s')
        (fun e s' => wpAny (model prog w) (A.deeper (envX qual scope L' f (.ref c') cl)) (leaving (envX qual scope L' f (.ref c') cl) e) (fun _ s'' => R (.error e) s'') (fun e' s'' => R (.error e') s'') s')
        { s with heap := h₁, toks := s.toks + binds.length })
    (hco : scope.isCoroutine = false) (hgen : scope.isGenerator = false) (hk : scope.kind = .function)
    (hcell : ∀ x ∈ scope.names, x.2 ≠ .cell) : codeAny (model prog w) A (.call (.ref f) args) R s := by
  refine codeAny_call_def (fd := fnX name qual params body scope cl .none .none doc pm none (.ref c') ctv) (body := body) (binds := binds) hroom (N _ ho).1 rfl (T.nolimit.keeps hg) hcd rfl hbind hcell hloc (fun h₁ hns hk₁ => ?_) hco hgen hk
  exact h s.heap.objs.size h₁ ⟨hns, fun b o e => hk₁ b o (hg b o e), hsz⟩ (news_in N hk₁) fun q hq => Heap.lt_size (N q hq).1
end

/-- what a raise hands up: the exception flies over the frames l; what stood in G and is no frame stands; the ledger n stands -/
noncomputable def Flies (base G : Heap) (l : List Env) (cls : Value) (n : List (Addr × Obj)) (e : Value) (h : Heap) : Prop :=
  ∃ ea t vs, e = .ref ea ∧ RaisedS base G l ea cls t vs n h ∧ G.UpToSlots h

theorem raisedS_sub {base G h : Heap} {l : List Env} {e t : Addr} {cls : Value} {vs : List Value} {n n' : List (Addr × Obj)} (R : RaisedS base G l e cls t vs n h) (hs : ∀ q ∈ n', q ∈ n) : RaisedS base G l e cls t vs n' h := by
  obtain ⟨⟨B, h1, h2, h3, h4⟩, h5⟩ := R
  exact ⟨⟨B, h1, h2, fun q hq => h3 q (hs q hq), h4⟩, h5⟩
theorem Flies.sub {base G h : Heap} {l : List Env} {cls e : Value} {n n' : List (Addr × Obj)} (x : Flies base G l cls n e h) (hs : ∀ q ∈ n', q ∈ n) : Flies base G l cls n' e h := by
  obtain ⟨ea, t, vs, h1, h2, h3⟩ := x
  exact ⟨ea, t, vs, h1, raisedS_sub h2 hs, h3⟩

section
variable {M : Model} {A : Around} {E : Value → Shared → Prop} {s' : Shared} {base g g₂ h : Heap} {outer : List Env} {L : Addr} {m : Str → Option Value} {env : Env} {Q : Unit → Shared → Prop} {n n' : List (Addr × Obj)} {cls e : Value}

theorem frames_of {env : Env} {l : List Env} {b : Addr} (hm : b ∈ (env :: l).filterMap (·.frame)) : env.frame = some b ∨ b ∈ l.filterMap (·.frame) := by
  obtain ⟨v, hv, hf⟩ := List.mem_filterMap.mp hm
  cases hv with
  | head => exact .inl hf
  | tail _ hv => exact .inr (List.mem_filterMap.mpr ⟨v, hv, hf⟩)

/-- a raise made here leaves the frame -/
theorem leave_made {ea : Addr} {vs : List Value} (B : Below A base outer g) (hx : Heap.MadeExcOf h s'.heap ea cls vs) (F : Fr g L h m) (N : News g L h n) (hs : ∀ q ∈ n', q ∈ n)
    (hf : env.frame = some L) (hk : env.scope.kind = .function)
    (hQ : ∀ h', Flies base g outer cls n' (.ref ea) h' → Q () { s' with heap := h' }) :
    wpAny M (A.deeper env) (leaving env (.ref ea)) Q E s' := by
  have B₁ := pushX B F hf hk
  let fs := (env :: outer).filterMap (·.frame)
  have self : g.get? L = none := kts_self F
  have apart : ∀ q ∈ n, q.1 ∉ fs := fun q hq hm => by
    rcases frames_of hm with z | z
    · rw [hf] at z; exact (N q hq).2.1 (Option.some.inj z).symm
    · obtain ⟨_, o, ho, _⟩ := B.frames.mem z
      rw [(N q hq).2.2] at ho; cases ho
  refine wpAny_leaves_madeW (base := hideAll h fs) B₁.stack hf (fun b o q => of_hideAll _ q) (funFrames_hide B₁.frames fun v hv b hb => List.mem_filterMap.mpr ⟨v, hv, hb⟩) hx fun h' t x1 x2 x3 x4 => ?_
  refine hQ h' ⟨ea, t, vs, rfl, ⟨⟨hideAll h fs, fun b o q => ?_, fun b o q nm => ?_, fun q hq => ?_, x1, x3⟩, x2⟩, ((Heap.UpToSlots.of_keeps F.keep).trans (Heap.UpToSlots.of_keeps hx.keeps)).trans x4⟩
  · refine hideAll_get _ (B₁.stays b o q) fun hm => ?_
    rw [(B₁.frames.mem hm).1] at q; cases q
  · refine hideAll_get _ (F.keep b o q) fun hm => ?_
    rcases frames_of hm with z | z
    · rw [hf] at z; rw [← Option.some.inj z, self] at q; cases q
    · exact nm z
  · exact ⟨hideAll_get _ (N q (hs q hq)).1 (apart q (hs q hq)), (N q (hs q hq)).2.2, fresh_of_stays B.stays (N q (hs q hq)).2.2⟩

/-- a raise from below goes on through the frame -/
theorem leave_on (B : Below A base outer g) (F : Fr g L g₂ m) (x : Flies base g₂ (env :: outer) cls n e s'.heap) (hs : ∀ q ∈ n', q ∈ n) (hf : env.frame = some L)
    (hQ : ∀ h', Flies base g outer cls n' e h' → Q () { s' with heap := h' }) :
    wpAny M (A.deeper env) (leaving env e) Q E s' := by
  obtain ⟨ea, t, vs, rfl, ⟨⟨W, h1, h2, h3, h4, h5⟩, h6⟩, h7⟩ := x
  have self : g.get? L = none := kts_self F
  refine wpAny_leaves_onW (Around.frames_deeper B.stack) hf h4 fun h' x1 x2 => ?_
  refine hQ h' ⟨ea, t, vs, rfl, ⟨⟨W, h1, fun b o q nm => h2 b o (F.keep b o q) fun hm => ?_, fun q hq => ?_, x1, h5⟩, h6.of_slots x2⟩, (Heap.UpToSlots.of_keeps F.keep).trans (h7.trans x2)⟩
  · rcases frames_of hm with z | z
    · rw [hf] at z; rw [← Option.some.inj z, self] at q; cases q
    · exact nm z
  · have y := h3 q (hs q hq)
    exact ⟨y.1, kts_none F.keep y.2.1, y.2.2⟩
/-- a raise from below goes on through the frame; what the frame's ledger held beside stands -/
theorem leave_on2 {rest : List (Addr × Obj)} (B : Below A base outer g) (F : Fr g L g₂ m) (x : Flies base g₂ (env :: outer) cls n e s'.heap) (hr : ∀ q ∈ rest, g₂.get? q.1 = some q.2 ∧ g.get? q.1 = none ∧ q.1 ≠ L) (hf : env.frame = some L)
    (hQ : ∀ h', Flies base g outer cls (n ++ rest) e h' → Q () { s' with heap := h' }) :
    wpAny M (A.deeper env) (leaving env e) Q E s' := by
  obtain ⟨ea, t, vs, rfl, ⟨⟨W, h1, h2, h3, h4, h5⟩, h6⟩, h7⟩ := x
  have self : g.get? L = none := kts_self F
  refine wpAny_leaves_onW (Around.frames_deeper B.stack) hf h4 fun h' x1 x2 => ?_
  refine hQ h' ⟨ea, t, vs, rfl, ⟨⟨W, h1, fun b o q nm => h2 b o (F.keep b o q) fun hm => ?_, fun q hq => ?_, x1, h5⟩, h6.of_slots x2⟩, (Heap.UpToSlots.of_keeps F.keep).trans (h7.trans x2)⟩
  · rcases frames_of hm with z | z
    · rw [hf] at z; rw [← Option.some.inj z, self] at q; cases q
    · exact nm z
  · rcases List.mem_append.mp hq with hq | hq
    · have y := h3 q hq
      exact ⟨y.1, kts_none F.keep y.2.1, y.2.2⟩
    · obtain ⟨r1, r2, r3⟩ := hr q hq
      refine ⟨h2 _ _ r1 fun hm => ?_, r2, fresh_of_stays B.stays r2⟩
      rcases frames_of hm with z | z
      · rw [hf] at z; exact r3 (Option.some.inj z).symm
      · obtain ⟨_, o, ho, _⟩ := B.frames.mem z
        rw [r2] at ho; cases ho
end

/-- a CONTRACT: what a call does from any state above the base. n: the ledger at the start; ret: what comes back with which ledger; exc: when it raises -/
noncomputable def Spec (prog : Program) (w : World) (A : Around) (base : Heap) (l : List Env) (f : Value) (args : List Value) (n : List (Addr × Obj)) (ret : Value → List (Addr × Obj) → Prop) (cls : Value) (exc : List (Addr × Obj) → Prop) : Prop :=
  ∀ (g : Heap) (s : Shared) (Q E : Value → Shared → Prop), Below A base l g → g.StaysIn s.heap → g.objs.size ≤ s.heap.objs.size → Led g s.heap n →
    (∀ v h' tk n', ret v n' → g.StaysIn h' → Led g h' n' → Q v { s with heap := h', toks := tk }) →
    (∀ e h' tk n', exc n' → Flies base g l cls n' e h' → E e { s with heap := h', toks := tk }) →
    wpAny (model prog w) A (call f args) Q E s

theorem Spec.use {prog : Program} {w : World} {A₀ : Around} {base h₀ : Heap} {outer : List Env} {env : Env} {f : Value} {args : List Value} {n : List (Addr × Obj)} {ret : Value → List (Addr × Obj) → Prop} {cls : Value} {exc : List (Addr × Obj) → Prop}
    {s : Shared} {L : Addr} {m : Str → Option Value} {news : List (Addr × Obj)} {Q E : Value → Shared → Prop} (S : Spec prog w (A₀.deeper env) base (env :: outer) f args n ret cls exc)
    (B : Below A₀ base outer h₀) (F : Fr h₀ L s.heap m) (N : News h₀ L s.heap news) (rest : List (Addr × Obj)) (hn : ∀ q ∈ n, q ∈ news) (hr : ∀ q ∈ rest, q ∈ news) (hd : ∀ q ∈ rest, ∀ r ∈ n, q.1 ≠ r.1)
    (hf : env.frame = some L) (hk : env.scope.kind = .function)
    (hQ : ∀ v h' tk n', ret v n' → Fr h₀ L h' m → News h₀ L h' (n' ++ rest) → (∀ q ∈ n', ∀ r ∈ rest, q.1 ≠ r.1) → Q v { s with heap := h', toks := tk })
    (hE : ∀ e h' tk n' g, exc n' → Fr h₀ L g m → (∀ q ∈ rest, g.get? q.1 = some q.2 ∧ h₀.get? q.1 = none ∧ q.1 ≠ L) → Flies base g (env :: outer) cls n' e h' → E e { s with heap := h', toks := tk }) :
    wpAny (model prog w) (A₀.deeper env) (call f args) Q E s := by
  have B₁ := pushX B F hf hk
  have base_ne : ∀ b o, h₀.get? b = some o → b ∉ n.map (·.1) := fun b o e q => by
    obtain ⟨r, hr', rfl⟩ := List.mem_map.mp q
    rw [(N r (hn r hr')).2.2] at e; cases e
  have L_ne : L ∉ n.map (·.1) := fun q => by
    obtain ⟨r, hr', e⟩ := List.mem_map.mp q
    exact (N r (hn r hr')).2.1 e
  have st : h₀.StaysIn (hideAll s.heap (n.map (·.1))) := fun b o e => hideAll_get _ (F.keep b o e) (base_ne b o e)
  obtain ⟨oL, es, ep, hL, hLd, hLk, hLf⟩ := F.ns
  have hLg := hideAll_get (n.map (·.1)) hL L_ne
  have FG : Fr h₀ L (hideAll s.heap (n.map (·.1))) m := ⟨⟨oL, es, ep, hLg, hLd, hLk, hLf⟩, st, F.above⟩
  have rest_in : ∀ q ∈ rest, (hideAll s.heap (n.map (·.1))).get? q.1 = some q.2 := fun q hq => hideAll_get _ (N q (hr q hq)).1 fun hm => by
    obtain ⟨r, hr', e⟩ := List.mem_map.mp hm
    exact hd q hq r hr' e.symm
  refine S (hideAll s.heap (n.map (·.1))) s Q E ⟨B₁.stack, fun b o e => st b o (B.stays b o e), funFrames_hideAll B₁.frames fun v hv b hb hfr => ?_⟩ (fun b o e => of_hideAll _ e) (Nat.le_of_eq (hideAll_size _ _))
    (fun q hq => ⟨(N q (hn q hq)).1, hideAll_none _ (List.mem_map_of_mem hq)⟩) (fun v h' tk n' hret k1 k2 => ?_) fun e h' tk n' hexc hfl => hE e h' tk n' _ hexc FG (fun q hq => ⟨rest_in q hq, (N q (hr q hq)).2.2, (N q (hr q hq)).2.1⟩) hfl
  · cases hv with
    | head => rw [hf] at hfr; exact L_ne ((Option.some.inj hfr : L = b) ▸ hb)
    | tail _ hv =>
      obtain ⟨L₁, o₁, hf₁, ho₁⟩ := funFrames_in B.frames v hv
      rw [hf₁] at hfr
      exact base_ne L₁ o₁ ho₁ ((Option.some.inj hfr : L₁ = b) ▸ hb)
  · refine hQ v h' tk n' hret ⟨⟨oL, es, ep, k1 L oL hLg, hLd, hLk, hLf⟩, fun b o e => k1 b o (st b o e), F.above⟩ (fun q hq => ?_) fun q hq r hr' e => ?_
    · rcases List.mem_append.mp hq with hq | hq
      · refine ⟨(k2 q hq).1, fun z => ?_, ?_⟩
        · have := (k2 q hq).2; rw [z, hLg] at this; cases this
        · cases z : h₀.get? q.1 with
          | none => rfl
          | some o => have := (k2 q hq).2; rw [st _ _ z] at this; cases this
      · exact ⟨k1 _ _ (rest_in q hq), (N q (hr q hq)).2⟩
    · have := (k2 q hq).2
      rw [e, rest_in r hr'] at this; cases this
end Mine
open PySem PySem.W PyProof.Rows PySem.Calls PySem.Spec
namespace Mine
set_option maxRecDepth 100000
section
variable {prog : Program} {w : World} {A : Around} {E : Value → Shared → Prop} {h : Heap} {g : Array GenState} {d : Drawn} {t : Nat} {os : OsState}
variable {nm q : Str} {C N : Addr} {bs bm : List Value} {hdct : Bool} {sn : List Str} {sub : List Value} {ab : Bool} {col : Option Bool} {dd : Option Addr} {k0 k1 k2 k3 k5 : Option Value} {B newId initId : String}
theorem type_call_init (F : ExcBaseFacts B newId initId bm) {mN : Str → Option Value} {rest : List Value} {fI : Addr} {Q : Fin → Shared → Prop} {K : Frag} (Y : K.In h)
    (hC : h.get? C = some (excClassObj nm q C N bs bm hdct sn sub ab col dd k0 k1 k2 k3 k5 newId)) (hn : h.Ns N mN) (hni : mN "__init__" = some (.ref fI)) (hfn : typeIn K (.ref fI) = some (.type "function"))
    (hq : codeAny (model prog w) A (.call (.ref fI) ⟨.ref (h.objs.size + 1) :: rest, []⟩) (fun r s' => match r with | .ok (.ret v) => v = .none ∧ Q (.done (.ret (.ref (h.objs.size + 1)))) s' | .ok _ => False | .error e => E e s')
       ⟨(h.push { cls := .type "tuple", data := .seq rest.toArray }).push { cls := .ref C, data := .fields #[.ref h.objs.size, .none, .none, .none, .bool false, .none] }, g, d, t, os⟩) (hrest : rest.length ≤ sizeLine := by size_fits) :
    wpAny (model prog w) A (Builtin.«type.__call__» ⟨.ref C :: rest, []⟩) Q E ⟨h, g, d, t, os⟩ := by
  repeat (first | with_reducible refine wpAny_loadPart_at hC ?_ | with_reducible refine wpAny_madeBy_exc hC ?_ | wp_step)
  refine codeAny_call_builtin_code (Code.quiet_builtin _ F.quiet) (wpAny_check_new_sub F hC ?_)
  refine codeAny_exc_new_sub F hC ?_ hrest
  show wpAny _ _ _ _ _ _
  have hC₁ := Heap.get?_push_of_some { cls := .ref C, data := .fields #[.ref h.objs.size, .none, .none, .none, .bool false, .none] }
    (Heap.get?_push_of_some { cls := .type "tuple", data := .seq rest.toArray } hC)
  have hn₁ : ((h.push { cls := .type "tuple", data := .seq rest.toArray }).push { cls := .ref C, data := .fields #[.ref h.objs.size, .none, .none, .none, .bool false, .none] }).Ns N mN :=
    let ⟨o, es, ep, e, r⟩ := hn; ⟨o, es, ep, Heap.get?_push_of_some _ (Heap.get?_push_of_some _ e), r⟩
  have hget : ((h.push { cls := .type "tuple", data := .seq rest.toArray }).push
      { cls := .ref C, data := .fields #[.ref h.objs.size, .none, .none, .none, .bool false, .none] }).get? (h.objs.size + 1) = some
      { cls := .ref C, data := .fields #[.ref h.objs.size, .none, .none, .none, .bool false, .none] } := by heap_get
  have hcC : (Value.ref C :: bm).contains (.ref C) = true := by simp
  unfold isInstance
  repeat (first | with_reducible refine wpAny_loadPart_at hget ?_ | (with_reducible refine wpAny_isSubtype_exc hC₁ ?_; rw [hcC]) | wp_step)
  show wpAny _ _ (typeLookup (.ref C) _) _ _ _
  refine wpAny_typeLookup_exc hC₁ hn₁ F.mroIs F.init.lookup ?_
  rw [hni]
  dsimp only
  refine wpAny_holding (wpAny_bind ((bind_fn (Y.keeps fun b o e => Heap.get?_push_of_some _ (Heap.get?_push_of_some _ e)) _ hfn).here ?_))
  dsimp only
  refine wpAny_bind (wpAny_call (codeAny_mono hq fun r s' hr => ?_))
  match r, hr with
  | .ok (.ret v), ⟨e1, e2⟩ =>
    subst e1
    exact wpAny_pure (wpAny_pure e2)
  | .error e, hr => exact hr

theorem call_init (F : ExcBaseFacts B newId initId bm) {mN : Str → Option Value} {rest : List Value} {fI : Addr} {Q : Value → Shared → Prop} {K : Frag} (Y : K.In h)
    (hC : h.get? C = some (excClassObj nm q C N bs bm hdct sn sub ab col dd k0 k1 k2 k3 k5 newId)) (hn : h.Ns N mN) (hni : mN "__init__" = some (.ref fI)) (hfn : typeIn K (.ref fI) = some (.type "function"))
    (hq : codeAny (model prog w) (A.under (.builtin "type.__call__" ⟨.ref C :: rest, []⟩)) (.call (.ref fI) ⟨.ref (h.objs.size + 1) :: rest, []⟩) (fun r s' => match r with | .ok (.ret v) => v = .none ∧ Q (.ref (h.objs.size + 1)) s' | .ok _ => False | .error e => E e s')
       ⟨(h.push { cls := .type "tuple", data := .seq rest.toArray }).push { cls := .ref C, data := .fields #[.ref h.objs.size, .none, .none, .none, .bool false, .none] }, g, d, t, os⟩) (hrest : rest.length ≤ sizeLine := by size_fits) :
    wpAny (model prog w) A (call (.ref C) rest) Q E ⟨h, g, d, t, os⟩ := by
  have f1 := tc_lookup
  have f2 := tc_bind (.ref C)
  have hT : (⟨h, g, d, t, os⟩ : Shared).TypeIs (.ref C) "type" := ⟨_, hC, rfl⟩
  refine wpAny_call (codeAny_of_tree ?_)
  show wpAny _ _ (callAny (.ref C) _) _ _ _
  repeat (any_goals (first | assumption | with_reducible refine wpAny_loadPart_at hC ?_ | wp_step))
  refine ⟨rfl, ?_⟩
  refine codeAny_call_builtin_at (Code.quiet_builtin _ (by decide +kernel)) entry_typeCall (wpAny_check_type_call_sub hC (type_call_init (hrest := hrest) F Y hC hn hni hfn ?_))
  exact hq
end
end Mine
open PySem PySem.W PyProof.Rows PySem.Calls PySem.Spec
namespace Mine
set_option maxRecDepth 100000
noncomputable abbrev excO (C t : Addr) : Obj := { cls := .ref C, data := .fields #[.ref t, .none, .none, .none, .bool false, .none] }
noncomputable abbrev tupO (l : List Value) : Obj := { cls := .type "tuple", data := .seq l.toArray }
theorem meta_Exception : typeOf (.type "Exception") = pure (.type "type") := by with_unfolding_all rfl
theorem stub_Exception : Manifest.isStub "Exception" = false := by decide +kernel
section
variable {prog : Program} {w : World} {A : Around} {E : Value → Shared → Prop} {s : Shared} {h₀ : Heap} {L : Addr} {m : Str → Option Value} {news : List (Addr × Obj)}
variable {nm q : Str} {C N : Addr} {bs bm : List Value} {hdct : Bool} {sn : List Str} {sub : List Value} {ab : Bool} {col : Option Bool} {dd : Option Addr} {k0 k1 k2 k3 k5 : Option Value} {B newId initId : String}
/-- the base's __init__ upon an exception of the ledger lays new arguments -/
theorem exc_init {rest : List Value} {e t₀ : Addr} {Q : Value → Shared → Prop} (XB : ExcBaseFacts B newId initId bm) (F : Fr h₀ L s.heap m) (Nw : News h₀ L s.heap ((e, excO C t₀) :: news)) (hne : ∀ r ∈ news, r.1 ≠ e)
    (hC : s.heap.get? C = some (excClassObj nm q C N bs bm hdct sn sub ab col dd k0 k1 k2 k3 k5 newId))
    (h : ∀ t₁ h', Fr h₀ L h' m → News h₀ L h' ((t₁, tupO rest) :: (e, excO C t₁) :: news) → Q .none { s with heap := h' }) (hrest : rest.length ≤ sizeLine := by size_fits) :
    wpAny (model prog w) A (call (.builtin initId) (.ref e :: rest)) Q E s := by
  obtain ⟨hp, g, d, t, os⟩ := s
  have hget := (Nw (e, excO C t₀) (.head _)).1
  refine wpAny_call (codeAny_call_builtin XB.init.plain XB.initEntry (wpAny_check_init_sub XB hC hget rfl ?_))
  wp_walk
  have e_lt : e < hp.objs.size := Heap.lt_size hget
  obtain ⟨F2, N2⟩ := news_upd (f := Obj.mapFields fun x => x.setIfInBounds 0 (Value.ref hp.objs.size)) (o' := excO C hp.objs.size) (pre := [(hp.objs.size, tupO rest)]) (post := news) (F.push (tupO rest)) (News.push F Nw (tupO rest))
    (fun r hr => by rw [List.mem_singleton.mp hr]; exact Nat.ne_of_gt e_lt) hne rfl rfl
  exact h hp.objs.size _ F2 N2
end
theorem ns_some_of {K : Frag} {h : Heap} {N : Addr} {mg : Str → Option Value} {n : Str} {v : Value} (X : K.In h) (G : h.Ns N mg) (e : nsIn K N n = some (some v)) : mg n = some v := by
  obtain ⟨o, es, ep, ho, hd, _, hf⟩ := G
  unfold nsIn at e
  split at e
  · rename_i q
    have y := X _ _ q
    rw [ho] at y
    cases y
    cases hd
    split at e
    · rename_i en he
      cases e
      rw [← hf]
      unfold nsFind findBy
      rw [← Array.find?_toList, he]
      rfl
    · split at e <;> cases e
  · cases e
end Mine
open PySem PySem.W PyProof.Rows PySem.Calls PySem.Spec
namespace Mine
set_option maxRecDepth 100000
noncomputable abbrev TheM (w : World) : Model := model PySem.Challenge.rw_jq0004_02.row.prog w

theorem clsK (w : World) : ∃ nm q bs a1 a2 a3 a4 a5 a6 k0 k1 k2 k3 k5, (hd.heap_1 w.params).lookup 32 = some (excClassObj nm q 32 31 bs [.type "Exception", .type "BaseException", .type "object"] a1 a2 a3 a4 a5 a6 k0 k1 k2 k3 k5 "Exception.__new__") := by
  have hfill : (fun _ : OpenLaw => hd.heap_1) PySem.Challenge.rw_jq0004_02 = hd.heap_1 := by (k_fill; rfl)
  exact ⟨_, _, _, _, _, _, _, _, _, _, _, _, _, _, by k_dflt k_is⟩

set_option maxHeartbeats 8000000 in
theorem init_walk (w : World) {p : Program} {loose : List Str} {mean : ExcName → Option Value} {mg mb : Str → Option Value}
   (A : Around) (g : Heap) (s : Shared) (R : Result → Shared → Prop) (x : Str) (tx : Tok) (e t0 : Addr)
   (X : (hd.heap_1 w.params).In g) (T : Top p loose mean mg mb g) (hg : g.StaysIn s.heap) (hsz : g.objs.size ≤ s.heap.objs.size)
   (N : Led g s.heap [(e, excO 32 t0)]) (hdp : A.depth < recursionLimit)
   (hret : ∀ h' tk t1, g.StaysIn h' → Led g h' [(t1, tupO [.str x tx]), (e, excO 32 t1)] → R (.ok (.ret .none)) { s with heap := h', toks := tk }) :
   codeAny (TheM w) A (.call (.ref 29) ⟨[.ref e, .str x tx], []⟩) R s := by
  have hfill : (fun _ : OpenLaw => hd.heap_1) PySem.Challenge.rw_jq0004_02 = hd.heap_1 := by (k_fill; rfl)
  clear hfill
  k_dflt (refine' enter_def hg hsz N X T ?k6 ?k7 ?k8 ?k9 ?kB ?_ ?c2 ?c3 ?c4 ?c5; (case k6 => k_is); (case k7 => k_is); (case k8 => exact hdp); (case k9 => exact binds_K (X.keeps hg) rfl (by k_is) rfl rfl rfl); (case c5 => decide); (case kB => exact locs rfl); (case c2 => exact rfl); (case c3 => exact rfl); (case c4 => exact rfl); k_whole; intro L' h' F' N' l1; (try dsimp only); (try k_fold))
  obtain ⟨_, _, _, _, _, _, _, _, _, _, _, _, _, _, hCK⟩ := clsK w
  k_with_none
  k_with "getMethod type:Exception" => (refine' method_type ?F ?X meta_Exception stub_Exception ?e ?h ?_; (case F => k_asm); (case X => k_asm); (case e => k_dflt k_is); (case h => k_handed))
  k_with "call builtin:Exception.__init__" => ((rename Fr _ _ _ _ => kF); (rename News _ _ _ _ => kN); refine' exc_init PySem.F.excBase_Exception kF kN (fun _ h => nomatch h) (kF.keep _ _ (X _ _ hCK)) ?_; intro t1 h1 F1 N1)
  k_steps
  all_goals exact hret _ _ _ (Fr.keep (by assumption)) (Led.of_news (by assumption))

/-- the class of the errors, called with a text -/
theorem call_ADE (w : World) {p : Program} {loose : List Str} {mean : ExcName → Option Value} {mg mb : Str → Option Value} {A : Around} {s : Shared} {Q E : Value → Shared → Prop} {x : Str} {tx : Tok}
   (X : (hd.heap_1 w.params).In s.heap) (T : Top p loose mean mg mb s.heap) (hdp : A.depth + 1 < recursionLimit)
   (hQ : ∀ ea h' tk, Heap.MadeExcOf s.heap h' ea (.ref 32) [.str x tx] → Q (.ref ea) { s with heap := h', toks := tk }) :
   wpAny (TheM w) A (call (.ref 32) [.str x tx]) Q E s := by
  obtain ⟨h, gs, d, t, os⟩ := s
  have hfill : (fun _ : OpenLaw => hd.heap_1) PySem.Challenge.rw_jq0004_02 = hd.heap_1 := by (k_fill; rfl)
  clear hfill
  obtain ⟨_, _, _, _, _, _, _, _, _, _, _, _, _, _, hCK⟩ := clsK w
  have hns : h.Ns 31 (h.nsMap 31) := Heap.Ns.of_isNs (isNs_of_in X (by kernel_rfl))
  refine call_init PySem.F.excBase_Exception X (X _ _ hCK) hns (ns_some_of X hns (v := .ref 29) (by k_dflt k_is)) (by k_dflt k_is) ?_ (show 1 ≤ sizeLine from by decide)
  have hst : h.StaysIn ((h.push { cls := .type "tuple", data := .seq [Value.str x tx].toArray }).push { cls := .ref 32, data := .fields #[.ref h.objs.size, .none, .none, .none, .bool false, .none] }) := fun b o e => Heap.get?_push_of_some _ (Heap.get?_push_of_some _ e)
  refine init_walk w (g := h) (t0 := h.objs.size) (X := X) (T := T) (hg := hst) (hsz := ?_) (N := ?_) (hdp := ?_) (hret := ?_)
  · show h.objs.size ≤ ((h.push _).push _).objs.size
    rw [Heap.size_push, Heap.size_push]; omega
  · intro r hr
    rw [List.mem_singleton.mp hr]
    exact ⟨by heap_get, Heap.get?_none_of_le (Nat.le_succ _)⟩
  · rw [depth_under_make]; exact hdp
  · intro h' tk t1 k1 k2
    refine ⟨rfl, hQ _ h' tk ⟨k1, (k2 _ (.tail _ (.head _))).2, t1, (k2 _ (.tail _ (.head _))).1, (k2 _ (.head _)).2, (k2 _ (.head _)).1⟩⟩

/-- what the message's reckoning must hand on -/
noncomputable def Told1 (C : Addr) (h₀ : Heap) (E : Value → Shared → Prop) (vs : List Value) (s₂ : Shared) : Prop :=
  ∃ x tx, vs = [.str x tx] ∧ h₀.StaysIn s₂.heap ∧ ∀ h' ea tk, Heap.MadeExcOf s₂.heap h' ea (.ref C) [.str x tx] → E (.ref ea) { s₂ with heap := h', toks := tk }

theorem Raise_ADE (w : World) {p : Program} {loose : List Str} {mean : ExcName → Option Value} {mg mb : Str → Option Value} {A : Around} {s : Shared} {Q : Flow → Shared → Prop} {E : Value → Shared → Prop}
   {h₀ : Heap} {L a : Addr} {m : Str → Option Value} {cn : Str} {cs : Scope} {ccd : Value} {cl : List (Str × Addr)} {e₀ : Expr} {np cpos pos : Pos}
   (F : Fr h₀ L s.heap m) (X : (hd.heap_1 w.params).In h₀) (T : Top p loose mean mg mb h₀) (hh : A.handled = none) (hdp : A.depth + 1 < recursionLimit)
   (h : wpAny (TheM w) A (spliced (backTo cpos (starEach [e₀] (envX cn cs L a ccd cl)))) (Told1 32 h₀ E) E s)
   (he : starEach [e₀] (envX cn cs L a ccd cl) = [(false, eval e₀ (envX cn cs L a ccd cl))] := by rfl)
   (hk : cs.kind = .function := by rfl) (hx : (envX cn cs L a ccd cl).kindOf (Str.ofString "ApplyDeltaError") = some .globalImplicit := by rfl) :
   wpAny (TheM w) A (exec (.Raise (some (.Call (.Name (Str.ofString "ApplyDeltaError") np) [e₀] [] cpos)) none pos) (envX cn cs L a ccd cl)) Q E s := by
  have hfill : (fun _ : OpenLaw => hd.heap_1) PySem.Challenge.rw_jq0004_02 = hd.heap_1 := by (k_fill; rfl)
  clear hfill
  obtain ⟨nm, q, bs, a1, a2, a3, a4, a5, a6, k0, k1, k2, k3, k5, hCK⟩ := clsK w
  rw [arm_exec_Raise]
  rw [arm_evalOpt_some]
  dsimp only [Option.map]
  refine wpAny_bind (wpAny_standAt (wpAny_raiseStmt_made_sub (C := 32) (nm := nm) (q := q) (N := 31) (bs := bs) (bm := [.type "Exception", .type "BaseException", .type "object"]) (hdct := a1) (sn := a2) (sub := a3) (ab := a4) (col := a5) (dd := a6) (k0 := k0) (k1 := k1) (k2 := k2) (k3 := k3) (k5 := k5) (newId := "Exception.__new__")
    (by decide) hh (wpAny_bind (wpAny_mono (wpAny_Call_ofName (nameX_K F X (topRead_of T) (v := .ref 32) (by k_dflt k_is) ?_ hk hx (by decide))) (fun v s₃ h₃ => wpAny_bind (wpAny_standAt (wpAny_pure h₃))) fun _ _ x => x))))
  refine callWith_K (K := hd.heap_1 w.params) X (by k_dflt k_is) (wpAny_mono h (fun vs s₂ h₂ => ?_) fun _ _ x => x) he (by rfl)
  obtain ⟨x, tx, rfl, hst, hE⟩ := h₂
  refine ⟨X.keeps hst, ?_⟩
  refine call_ADE w (X.keeps hst) (T.keeps hst) hdp fun ea h' tk hm => ?_
  obtain ⟨t, ht, _, _⟩ := hm.there
  exact ⟨ea, t, rfl, hm.keeps _ _ (X.keeps hst _ _ hCK), ht, hE h' ea tk hm⟩
end Mine
open PySem PySem.W PyProof.Rows PySem.Calls PySem.Spec
namespace Mine
set_option maxRecDepth 100000
/-- the part from i to j of a list, as Python cuts it for bounds that are not negative -/
noncomputable def cut (ks : List Int) (i j : Int) : List Int := (ks.drop i.toNat).take (j.toNat - i.toNat)
theorem cut_len (ks : List Int) (i j : Int) (h0 : 0 ≤ i) (h1 : i ≤ j) (h2 : j ≤ ks.length) : ((cut ks i j).length : Int) = j - i := by
  unfold cut
  obtain ⟨a, rfl⟩ := Int.eq_ofNat_of_zero_le h0
  obtain ⟨b, rfl⟩ := Int.eq_ofNat_of_zero_le (Int.le_trans h0 h1)
  rw [List.length_take, List.length_drop, Int.toNat_natCast, Int.toNat_natCast, Nat.min_eq_left (Nat.sub_le_sub_right (Int.ofNat_le.mp h2) a), Int.ofNat_sub (Int.ofNat_le.mp h1)]
theorem cut_len_le (ks : List Int) (i j : Int) : (cut ks i j).length ≤ ks.length := by
  unfold cut; rw [List.length_take, List.length_drop]; exact Nat.le_trans (Nat.min_le_right _ _) (Nat.sub_le _ _)
theorem clip_up (n : Nat) {i : Int} (h : 0 ≤ i) : clipAt n i = min i.toNat n := by
  unfold clipAt
  obtain ⟨a, rfl⟩ := Int.eq_ofNat_of_zero_le h
  rw [if_neg (Int.not_lt.mpr h), Int.max_eq_right (Int.le_min.mpr ⟨h, Int.natCast_nonneg n⟩), Int.toNat_natCast]
  by_cases q : a ≤ n
  · rw [Int.min_eq_left (Int.ofNat_le.mpr q), Nat.min_eq_left q]; rfl
  · have q2 := Nat.le_of_not_le q
    rw [Int.min_eq_right (Int.ofNat_le.mpr q2), Nat.min_eq_right q2]; rfl
theorem cut_clip (ks : List Int) {i j : Int} (hi : 0 ≤ i) (hj : 0 ≤ j) : (ks.drop (clipAt ks.length i)).take (clipAt ks.length j - clipAt ks.length i) = cut ks i j := by
  rw [clip_up _ hi, clip_up _ hj]
  unfold cut
  by_cases h : i.toNat ≤ ks.length
  · rw [Nat.min_eq_left h]
    by_cases h2 : j.toNat ≤ ks.length
    · rw [Nat.min_eq_left h2]
    · rw [Nat.min_eq_right (by omega), List.take_of_length_le (by rw [List.length_drop]; exact Nat.le_refl _), List.take_of_length_le (by rw [List.length_drop]; omega)]
  · rw [Nat.min_eq_right (by omega : ks.length ≤ i.toNat), List.drop_of_length_le (Nat.le_refl _), List.drop_of_length_le (by omega)]
    simp
theorem cut_one (ks : List Int) (i : Int) (h0 : 0 ≤ i) (h1 : i < ks.length) : cut ks i (i + 1) = [ks.getD i.toNat 0] := by
  unfold cut
  have e : (i + 1).toNat - i.toNat = 1 := by omega
  rw [e]
  have hl : i.toNat < ks.length := by omega
  rw [List.drop_eq_getElem_cons hl, List.take_succ_cons, List.take_zero, List.getD_eq_getElem?_getD, List.getElem?_eq_getElem hl]
  rfl
theorem cut_one' (ks : List Int) (i j : Int) (h0 : 0 ≤ i) (h1 : i < ks.length) (e : j = i + 1) : cut ks i j = [ks.getD i.toNat 0] := by subst e; exact cut_one ks i h0 h1
/-- octets -/
noncomputable def Oct (ks : List Int) : Prop := ∀ k ∈ ks, 0 ≤ k ∧ k < 256
theorem oct_of {b : Array UInt8} {ks : List Int} (h : KBw.bInts b = ks) : Oct ks := by subst h; exact fun k hk => KBw.ints_in hk
theorem size_of {b : Array UInt8} {ks : List Int} (h : KBw.bInts b = ks) : b.size = ks.length := by subst h; exact (KBw.ints_length b).symm
section
variable {prog : Program} {w : World} {A : Around} {E : Value → Shared → Prop} {s : Shared} {value slice : PySem.Expr} {b : Array UInt8} {t : Tok} {h₀ : Heap} {L : Addr} {m : PySem.Str → Option Value} {news : List (Addr × Obj)} {Q : Value → Shared → Prop} {ks : List Int}
theorem ord_bytes {c : Array UInt8} {v : Int} (hc : KBw.bInts c = [v]) (h : ∀ t k, 0 ≤ v → v < 256 → Q (.int v t) { s with toks := k }) : wpAny (model prog w) A (call (.builtin "ord") [.bytes c t]) Q E s := by
  have hin := KBw.ints_in (b := c) (k := v) (by rw [hc]; exact .head _)
  obtain ⟨l⟩ := c
  match l, hc with
  | [x], hc =>
    have hx : (x.toNat : Int) = v := by simpa [KBw.bInts] using hc
    refine call_function_entry F.kind_ord F.plain_ord F.entry_ord (F.args_ord1 _) ?_
    refine wpAny_mono (Q := fun fin s' => fin = .done (.ret (.int (x.toNat : Nat) s.toks)) ∧ s' = { s with toks := s.toks + 1 }) (E := E) ?_ (fun fin s' z => ?_) fun _ _ z => z
    · exact fun Γ p hΓ => ⟨rfl, rfl⟩
    · obtain ⟨rfl, rfl⟩ := z
      exact ⟨_, rfl, by rw [hx]; exact h _ _ hin.1 hin.2⟩
theorem slice_ij {i j : Int} {ti tj : Tok} (hF : Fr h₀ L s.heap m) (hN : News h₀ L s.heap news) (hk : KBw.bInts b = ks) (hi : 0 ≤ i) (hj : 0 ≤ j) (hz : ks.length ≤ 16777216)
    (h : ∀ c h' t' k, Fr h₀ L h' m → News h₀ L h' news → KBw.bInts c = cut ks i j → Q (.bytes c t') { s with heap := h', toks := k })
    (hs : subscripted slice false (.bytes b t) (.ref s.heap.objs.size) = operate [.ref s.heap.objs.size, .bytes b t] (getItem (.bytes b t) (.ref s.heap.objs.size)) := by with_unfolding_all rfl)
    (ht : ∀ r, letTemporaryGo value (.bytes b t) r = pure () := by intro _; with_unfolding_all rfl) :
    wpAny (model prog w) A (subscriptTail value slice (.bytes b t) (.ref s.heap.objs.size)) Q E { s with heap := s.heap.push { cls := .type "slice", data := .fields #[.int i ti, .int j tj, .none] } } :=
  KBc.slice_K hF hN hk (.int i ti) (.int j tj) hz (fun h' t' k F' N' e => h _ h' t' k F' N' (by rw [e]; exact cut_clip ks hi hj)) hs ht
theorem slice_i {i : Int} {ti : Tok} (hF : Fr h₀ L s.heap m) (hN : News h₀ L s.heap news) (hk : KBw.bInts b = ks) (hi : 0 ≤ i) (hz : ks.length ≤ 16777216)
    (h : ∀ c h' t' k, Fr h₀ L h' m → News h₀ L h' news → KBw.bInts c = ks.drop i.toNat → Q (.bytes c t') { s with heap := h', toks := k })
    (hs : subscripted slice false (.bytes b t) (.ref s.heap.objs.size) = operate [.ref s.heap.objs.size, .bytes b t] (getItem (.bytes b t) (.ref s.heap.objs.size)) := by with_unfolding_all rfl)
    (ht : ∀ r, letTemporaryGo value (.bytes b t) r = pure () := by intro _; with_unfolding_all rfl) :
    wpAny (model prog w) A (subscriptTail value slice (.bytes b t) (.ref s.heap.objs.size)) Q E { s with heap := s.heap.push { cls := .type "slice", data := .fields #[.int i ti, .none, .none] } } := by
  refine KBc.slice_K hF hN hk (.int i ti) .none hz (fun h' t' k F' N' e => h _ h' t' k F' N' ?_) hs ht
  rw [e]
  show (ks.drop (clipAt ks.length i)).take (ks.length - clipAt ks.length i) = ks.drop i.toNat
  rw [List.take_of_length_le (by rw [List.length_drop]; exact Nat.le_refl _), clip_up _ hi]
  by_cases h : i.toNat ≤ ks.length
  · rw [Nat.min_eq_left h]
  · rw [Nat.min_eq_right (by omega), List.drop_of_length_le (Nat.le_refl _), List.drop_of_length_le (by omega)]
theorem slice_j {j : Int} {tj : Tok} (hF : Fr h₀ L s.heap m) (hN : News h₀ L s.heap news) (hk : KBw.bInts b = ks) (hj : 0 ≤ j) (hz : ks.length ≤ 16777216)
    (h : ∀ c h' t' k, Fr h₀ L h' m → News h₀ L h' news → KBw.bInts c = ks.take j.toNat → Q (.bytes c t') { s with heap := h', toks := k })
    (hs : subscripted slice false (.bytes b t) (.ref s.heap.objs.size) = operate [.ref s.heap.objs.size, .bytes b t] (getItem (.bytes b t) (.ref s.heap.objs.size)) := by with_unfolding_all rfl)
    (ht : ∀ r, letTemporaryGo value (.bytes b t) r = pure () := by intro _; with_unfolding_all rfl) :
    wpAny (model prog w) A (subscriptTail value slice (.bytes b t) (.ref s.heap.objs.size)) Q E { s with heap := s.heap.push { cls := .type "slice", data := .fields #[.none, .int j tj, .none] } } := by
  refine KBc.slice_K hF hN hk .none (.int j tj) hz (fun h' t' k F' N' e => h _ h' t' k F' N' ?_) hs ht
  rw [e]
  show (ks.drop 0).take (clipAt ks.length j - 0) = ks.take j.toNat
  rw [List.drop_zero, Nat.sub_zero, clip_up _ hj]
  by_cases h : j.toNat ≤ ks.length
  · rw [Nat.min_eq_left h]
  · rw [Nat.min_eq_right (by omega), List.take_of_length_le (Nat.le_refl _), List.take_of_length_le (by omega)]
theorem len_b (hk : KBw.bInts b = ks) (hz : ks.length ≤ 1099511627776) (h : ∀ t k, Q (.int ks.length t) { s with toks := k }) : wpAny (model prog w) A (call (.builtin "len") [.bytes b t]) Q E s :=
  KBw.len_K hk hz (h _ _)
end
theorem loadX_L {M : Model} {A : Around} {E : Value → Shared → Prop} {s : Shared} {h₀ : Heap} {L a : Addr} {m : Str → Option Value} {cn : Str} {cs : Scope} {ccd : Value} {cl : List (Str × Addr)} {x : Str} {v : Value} {Q : Value → Shared → Prop}
    (F : Fr h₀ L s.heap m) (hv : m x = some v) (h : Q v s) (hk : cs.kind = .function := by rfl) (hx : (envX cn cs L a ccd cl).kindOf x = some .local := by rfl) :
    wpAny M A (loadName (envX cn cs L a ccd cl) x) Q E s := wpAny_loadName_local hk hx F.ns hv h
end Mine
namespace Mine
section
variable {prog : Program} {w : World} {A : Around} {E : Value → Shared → Prop} {s : Shared}
theorem lshift_any {a n : Int} {t u : Tok} {Q : Value → Shared → Prop} (hn : 0 ≤ n) (hn2 : n ≤ 1000000) (ha : a.natAbs < 2 ^ 64) (h : ∀ t' k, Q (.int (a * 2 ^ n.toNat) t') { s with toks := k }) :
    wpAny (model prog w) A (binaryOp .LShift (.int a t) (.int n u)) Q E s := lshift_int_small hn hn2 ha (h _ _)
theorem fmt_int {a : Int} {t : Tok} {Q : Value → Shared → Prop} (hh : A.handled = none) (hn : s.heap.NoDigits) (hb : a.natAbs < 2 ^ 12900)
    (h : ∀ x t' k, Str.length x ≤ 4301 → Q (.str x t') { s with toks := k }) : wpAny (model prog w) A (formatField (.int a t) Str.empty) Q E s :=
  formatField_int hh hn (fun h1 => h _ _ _ (by rw [PySem.ofString_length]; exact int_text_length_le10 (by decide) h1)) (fun h2 => absurd hb (Nat.not_lt.mpr (Nat.le_trans pow_lo h2)))
end
end Mine
open PySem PySem.W PyProof.Rows PySem.Calls PySem.Spec
namespace Mine
/-- git's length: the value and the number of octets -/
noncomputable def sizeL : List Int → Option (Int × Nat)
  | [] => none
  | c :: r => if c < 128 then some (c, 1) else (sizeL r).map fun q => (c - 128 + 128 * q.1, q.2 + 1)
/-- between the turns of the loop that reads a length from place i₀ on -/
noncomputable def hdrInv (ks : List Int) (i₀ : Int) (index size i : Int) : Prop :=
  ∃ j : Nat, i = 7 * (j : Int) ∧ index = i₀ + j ∧ 0 ≤ size ∧ size < 2 ^ (7 * j) ∧ index ≤ ks.length ∧
    sizeL (ks.drop i₀.toNat) = (sizeL (ks.drop index.toNat)).map fun q => (size + 2 ^ (7 * j) * q.1, j + q.2)
theorem hdrInv_start (ks : List Int) (i₀ : Int) (h : i₀ ≤ ks.length) : hdrInv ks i₀ i₀ 0 0 :=
  ⟨0, by simp, by simp, by simp, by simp, h, by cases sizeL (ks.drop i₀.toNat) <;> simp⟩
theorem oct_bits : ∀ n : Fin 256, Builtin.bitAnd ((n.val : Nat) : Int) (Builtin.bitNot 128) = ((n.val % 128 : Nat) : Int) ∧ Builtin.bitAnd ((n.val : Nat) : Int) 128 = (if n.val < 128 then 0 else 128) := by decide +kernel
theorem oct_low {c : Int} (h0 : 0 ≤ c) (h1 : c < 256) : Builtin.bitAnd c (Builtin.bitNot 128) = c % 128 := by
  have h := (oct_bits ⟨c.toNat, by omega⟩).1
  have e : ((c.toNat : Nat) : Int) = c := Int.toNat_of_nonneg h0
  simp only at h
  rw [e] at h
  rw [h]; omega
theorem oct_high {c : Int} (h0 : 0 ≤ c) (h1 : c < 256) : Builtin.bitAnd c 128 = if c < 128 then 0 else 128 := by
  have h := (oct_bits ⟨c.toNat, by omega⟩).2
  have e : ((c.toNat : Nat) : Int) = c := Int.toNat_of_nonneg h0
  simp only at h
  rw [e] at h
  rw [h]
  by_cases hc : c < 128
  · rw [if_pos hc, if_pos (by omega)]
  · rw [if_neg hc, if_neg (by omega)]
theorem nat_or (k a v : Nat) (h : a < 2 ^ k) : a ||| v * 2 ^ k = a + v * 2 ^ k := by
  have := Nat.two_pow_add_eq_or_of_lt h v
  rw [Nat.mul_comm (2 ^ k) v] at this
  rw [Nat.or_comm, ← this, Nat.add_comm]
theorem bitOr_nat (a b : Nat) : Builtin.bitOr (a : Int) (b : Int) = ((a ||| b : Nat) : Int) := by
  unfold Builtin.bitOr Builtin.bitAnd Builtin.bitNot
  have h1 : decide ((0 : Int) ≤ -(a : Int) - 1) = false := decide_eq_false (by omega)
  have h2 : decide ((0 : Int) ≤ -(b : Int) - 1) = false := decide_eq_false (by omega)
  simp only [h1, h2]
  have e1 : (-(-(a : Int) - 1) - 1).toNat = a := by omega
  have e2 : (-(-(b : Int) - 1) - 1).toNat = b := by omega
  simp only [e1, e2]
  omega
/-- what is laid above the bits there are is added -/
theorem or_above {a v : Int} {k : Nat} (h0 : 0 ≤ a) (h1 : a < 2 ^ k) (hv : 0 ≤ v) : Builtin.bitOr a (v * 2 ^ k) = a + v * 2 ^ k := by
  obtain ⟨a, rfl⟩ := Int.eq_ofNat_of_zero_le h0
  obtain ⟨v, rfl⟩ := Int.eq_ofNat_of_zero_le hv
  have e : ((v : Int) * 2 ^ k) = ((v * 2 ^ k : Nat) : Int) := by push_cast; rfl
  have h1' : a < 2 ^ k := by
    have : ((a : Nat) : Int) < ((2 ^ k : Nat) : Int) := by push_cast; exact h1
    exact_mod_cast this
  rw [e, bitOr_nat, nat_or k a v h1']
  push_cast; rfl
section
variable {ks : List Int} {i₀ ix sz sh : Int}
theorem drop_at (h0 : 0 ≤ ix) (h1 : ¬ (ks.length : Int) ≤ ix) : ks.drop ix.toNat = ks.getD ix.toNat 0 :: ks.drop (ix + 1).toNat := by
  have hl : ix.toNat < ks.length := by omega
  have e : (ix + 1).toNat = ix.toNat + 1 := by omega
  rw [e, List.drop_eq_getElem_cons hl, List.getD_eq_getElem?_getD, List.getElem?_eq_getElem hl]
  rfl
theorem hdr_fail (h : hdrInv ks i₀ ix sz sh) (h0 : 0 ≤ i₀) (h1 : (ks.length : Int) ≤ ix) : sizeL (ks.drop i₀.toNat) = none := by
  obtain ⟨j, _, e2, _, _, _, e⟩ := h
  rw [e, List.drop_of_length_le (by omega)]
  rfl
theorem hdr_next (h : hdrInv ks i₀ ix sz sh) (h0 : 0 ≤ i₀) (h1 : ¬ (ks.length : Int) ≤ ix) (hlo : 0 ≤ ks.getD ix.toNat 0) (hhi : ks.getD ix.toNat 0 < 256) (hb : Builtin.bitAnd (ks.getD ix.toNat 0) 128 ≠ 0) :
    hdrInv ks i₀ (ix + 1) (Builtin.bitOr sz (Builtin.bitAnd (ks.getD ix.toNat 0) (Builtin.bitNot 128) * 2 ^ sh.toNat)) (sh + 7) := by
  obtain ⟨j, rfl, e2, hs0, hs1, _, e⟩ := h
  have hsh : (7 * (j : Int)).toNat = 7 * j := by omega
  rw [oct_high hlo hhi] at hb
  rw [oct_low hlo hhi, hsh, or_above hs0 hs1 (by omega)]
  have hc : ¬ ks.getD ix.toNat 0 < 128 := fun q => hb (if_pos q)
  rw [drop_at (by omega) h1] at e
  simp only [sizeL] at e
  rw [if_neg hc] at e
  generalize ks.getD ix.toNat 0 = c at *
  have p1 : (2 : Int) ^ (7 * (j + 1)) = 2 ^ (7 * j) * 128 := by rw [Nat.mul_add, Int.pow_add]; rfl
  have pp : (0 : Int) < 2 ^ (7 * j) := kbt_pos _
  have hm : c % 128 = c - 128 := by omega
  have hmul : (c - 128) * 2 ^ (7 * j) ≤ 127 * 2 ^ (7 * j) := Int.mul_le_mul_of_nonneg_right (by omega) (Int.le_of_lt pp)
  have hmul0 : 0 ≤ (c - 128) * 2 ^ (7 * j) := Int.mul_nonneg (by omega) (Int.le_of_lt pp)
  refine ⟨j + 1, by push_cast; omega, by push_cast; omega, by rw [hm]; omega, by rw [hm, p1]; omega, by omega, ?_⟩
  rw [e]
  cases sizeL (List.drop (ix + 1).toNat ks) with
  | none => rfl
  | some q =>
    simp only [Option.map_some, Option.some.injEq, Prod.mk.injEq]
    refine ⟨?_, by omega⟩
    rw [hm, p1, Int.mul_add, Int.mul_comm (c - 128) (2 ^ (7 * j)), Int.mul_assoc]
    omega
theorem hdr_done (h : hdrInv ks i₀ ix sz sh) (h0 : 0 ≤ i₀) (h1 : ¬ (ks.length : Int) ≤ ix) (hlo : 0 ≤ ks.getD ix.toNat 0) (hhi : ks.getD ix.toNat 0 < 256) (hb : Builtin.bitAnd (ks.getD ix.toNat 0) 128 = 0) :
    ∃ k : Nat, sizeL (ks.drop i₀.toNat) = some (Builtin.bitOr sz (Builtin.bitAnd (ks.getD ix.toNat 0) (Builtin.bitNot 128) * 2 ^ sh.toNat), k) ∧ ix + 1 = i₀ + k := by
  obtain ⟨j, rfl, e2, hs0, hs1, _, e⟩ := h
  have hsh : (7 * (j : Int)).toNat = 7 * j := by omega
  rw [oct_high hlo hhi] at hb
  rw [oct_low hlo hhi, hsh, or_above hs0 hs1 (by omega)]
  have hc : ks.getD ix.toNat 0 < 128 := by
    by_cases q : ks.getD ix.toNat 0 < 128
    · exact q
    · rw [if_neg q] at hb; exact absurd hb (by decide)
  rw [drop_at (by omega) h1] at e
  simp only [sizeL] at e
  rw [if_pos hc] at e
  generalize ks.getD ix.toNat 0 = c at *
  refine ⟨j + 1, ?_, by push_cast; omega⟩
  rw [e]
  have hm : c % 128 = c := by omega
  simp only [Option.map_some, hm, Int.mul_comm]
theorem shift_oct {c : Int} (h0 : 0 ≤ c) (h1 : c < 256) : (Builtin.bitAnd c (Builtin.bitNot 128)).natAbs < 2 ^ 64 := by
  rw [oct_low h0 h1]; omega
end
end Mine
namespace Mine
set_option maxRecDepth 100000
section
variable {prog : Program} {w : World} {A : Around} {E : Value → Shared → Prop} {Q : Flow → Shared → Prop} {s : Shared} {env : Env} {h₀ : Heap} {L : Addr}
noncomputable abbrev HdrS := Int × Tok × Int × Tok × Int × Tok
noncomputable abbrev hdrPs (c : HdrS) : List (Str × Value) := [(Str.ofString "index", .int c.1 c.2.1), (Str.ofString "size", .int c.2.2.1 c.2.2.2.1), (Str.ofString "i", .int c.2.2.2.2.1 c.2.2.2.2.2)]
noncomputable abbrev hdrStored : List Str := ["index", "size", "i", "cmd"]
noncomputable abbrev hdrP (ks : List Int) (i₀ : Int) (c : HdrS) : Prop := hdrInv ks i₀ c.1 c.2.2.1 c.2.2.2.2.1
noncomputable abbrev hdrM (ks : List Int) (c : HdrS) : Nat := (ks.length - c.1).toNat
theorem hdr_loop {test : Expr} {body : List Stmt} {pos : Pos} {m₀ : Str → Option Value} {news : List (Addr × Obj)} (ks : List Int) {i₀ : Int} {t1 t2 t3 : Tok} (F : Fr h₀ L s.heap m₀) (N : News h₀ L s.heap news)
    (h1 : m₀ (Str.ofString "index") = some (.int i₀ t1)) (h2 : m₀ (Str.ofString "size") = some (.int 0 t2)) (h3 : m₀ (Str.ofString "i") = some (.int 0 t3)) (hi : i₀ ≤ ks.length)
    (turn : ∀ ix ixt sz szt sh sht (u : Str → Option Value) h tk, hdrInv ks i₀ ix sz sh →
      Fr h₀ L h (kstB (fun z => if hdrStored.contains z then u z else m₀ z) [(Str.ofString "index", .int ix ixt), (Str.ofString "size", .int sz szt), (Str.ofString "i", .int sh sht)]) → News h₀ L h news →
      wpAny (model prog w) A (isTrue test env (eval test env)) (fun b s₂ =>
        if b = true then wpAny (model prog w) A (execs body env) (KswPost h₀ L s (fun _ => news) hdrPs (fun _ => True) hdrStored m₀ (hdrP ks i₀) (hdrM ks) Q (ix, ixt, sz, szt, sh, sht)) E s₂ else Q .next s₂) E { s with heap := h, toks := tk })
    (hE : PassesOwn (model prog w) A env E) :
    wpAny (model prog w) A (exec (.While test body [] pos) env) Q E s := by
  refine ksw_while (fun _ => news) hdrPs (fun _ => True) hdrStored (hdrP ks i₀) (hdrM ks) (i₀, t1, 0, t2, 0, t3) F N trivial ?_ (hdrInv_start ks i₀ hi) (fun c u h tk _ hp F' N' => turn _ _ _ _ _ _ u h tk hp F' N') hE
  intro p hp
  simp only [hdrPs, List.mem_cons, List.not_mem_nil, or_false] at hp
  rcases hp with rfl | rfl | rfl
  · exact h1
  · exact h2
  · exact h3
theorem hdr_end {ks : List Int} {i₀ ix sz sh a b c : Int} {ixt szt sht t1 t2 t3 : Tok} {m₀ m' : Str → Option Value} {news : List (Addr × Obj)} {h' : Heap} {tk : Nat} (F : Fr h₀ L h' m') (N : News h₀ L h' news)
    (h1 : m' (Str.ofString "index") = some (.int a t1)) (h2 : m' (Str.ofString "size") = some (.int b t2)) (h3 : m' (Str.ofString "i") = some (.int c t3))
    (hr : ∀ z, z ≠ Str.ofString "index" → z ≠ Str.ofString "size" → z ≠ Str.ofString "i" → z ≠ Str.ofString "cmd" → m' z = m₀ z) (hp : hdrInv ks i₀ a b c) (hm : ix < a) :
    KswEnd h₀ L s (fun _ => news) hdrPs (fun _ => True) hdrStored m₀ (hdrP ks i₀) (hdrM ks) (ix, ixt, sz, szt, sh, sht) { s with heap := h', toks := tk } := by
  refine ksw_end (a, t1, b, t2, c, t3) F N (fun _ h => h) trivial ?_ (fun z _ h2 => ?_) hp ?_
  · intro p hp
    simp only [hdrPs, List.mem_cons, List.not_mem_nil, or_false] at hp
    rcases hp with rfl | rfl | rfl
    · exact h1
    · exact h2
    · exact h3
  · simp only [hdrStored, List.contains_cons, List.contains_nil, Bool.or_false, Bool.or_eq_false_iff, beq_eq_false_iff_ne, ne_eq] at h2
    exact hr z h2.1 h2.2.1 h2.2.2.1 h2.2.2.2
  · obtain ⟨_, _, _, _, _, hl, _⟩ := hp
    show (ks.length - a).toNat < (ks.length - ix).toNat
    omega
end
end Mine
open PySem PySem.W PyProof.Rows PySem.Calls PySem.Spec
namespace Mine
set_option maxRecDepth 100000
open Builtin in
theorem slot_join : Slot "bytes" "join" "bytes.join" :=
  .of (owner := "bytes") (n := "join") (by rw [typeLookup_type, builtinLookup_eq_fast]; kernel_rfl) (by decide +kernel) (by decide +kernel) (by decide +kernel)
    (by first | exact .inl (by decide +kernel) | exact .inr (by decide +kernel)) (by rw [isSubtype_type]; kernel_rfl)
theorem type_join : typeOf (.builtin "bytes.join") = pure (.type "method_descriptor") := by show builtinType _ = _; rw [builtinType_eq_fast]; kernel_rfl
theorem entry_join : entryFor table "bytes.join" = some Builtin.«bytes.join» := entryFor_of_tree (by kernel_rfl)
theorem args_join (a b : Value) : argsOk "bytes.join" ⟨[a, b], []⟩ := by unfold argsOk; kernel_rfl
/-- a list of bytes values and the octets of each -/
inductive BytesAre : List Value → List (List Int) → Prop
  | nil : BytesAre [] []
  | cons {b : Array UInt8} {t : Tok} {c : List Int} {vs : List Value} {cs : List (List Int)} : KBw.bInts b = c → BytesAre vs cs → BytesAre (.bytes b t :: vs) (c :: cs)
theorem BytesAre.length {vs : List Value} {cs : List (List Int)} (h : BytesAre vs cs) : vs.length = cs.length := by
  induction h with
  | nil => rfl
  | cons _ _ ih => simp [ih]
theorem BytesAre.append {vs vs' : List Value} {cs cs' : List (List Int)} (h : BytesAre vs cs) (h' : BytesAre vs' cs') : BytesAre (vs ++ vs') (cs ++ cs') := by
  induction h with
  | nil => exact h'
  | cons e _ ih => exact .cons e ih
theorem take_bytes {id : String} {b : Array UInt8} {t : Tok} : Builtin.Bytes.takeBufferQuiet? id (.bytes b t) 0 = pure (some (b, none)) := by
  have h : Builtin.Bytes.takeBuffer? id (.bytes b t) 0 = pure (some (b, none)) := by
    unfold Builtin.Bytes.takeBuffer?
    rw [KBy.special_eq KBy.look_buffer, KBy.own_buffer]
    show (Builtin.Bytes.buffer? id (.bytes b t) (full := (0 : Int) == Builtin.Bytes.fullReadOnly) >>= fun x => pure (x.map (·, none))) = _
    rw [show ((0 : Int) == Builtin.Bytes.fullReadOnly) = false from by decide, KBy.buffer_eq]
    rfl
  unfold Builtin.Bytes.takeBufferQuiet?
  rw [h]
  rfl
theorem BytesAre.pairs {vs : List Value} {cs : List (List Int)} (h : BytesAre vs cs) : ∃ bs : List (Array UInt8 × Tok), vs = bs.map (fun q => .bytes q.1 q.2) ∧ cs = bs.map fun q => KBw.bInts q.1 := by
  induction h with
  | nil => exact ⟨[], rfl, rfl⟩
  | @cons b t c vs cs e _ ih =>
    obtain ⟨bs, e1, e2⟩ := ih
    exact ⟨(b, t) :: bs, by rw [e1]; rfl, by rw [e2, ← e]; rfl⟩
theorem joined_nil (l : List (Array UInt8)) : KBw.bInts (Builtin.Bytes.joined #[] l) = (l.map KBw.bInts).flatten := by
  unfold Builtin.Bytes.joined
  have key : ∀ (l : List (Array UInt8)) (k : Nat) (o : Array UInt8), KBw.bInts ((l.zipIdx k).foldl (fun out (p, i) => (if i > 0 then out ++ (#[] : Array UInt8) else out) ++ p) o) = KBw.bInts o ++ (l.map KBw.bInts).flatten := by
    intro l
    induction l with
    | nil => intro k o; simp
    | cons p r ih =>
      intro k o
      rw [List.zipIdx_cons, List.foldl_cons, ih]
      have e : (if k > 0 then o ++ (#[] : Array UInt8) else o) = o := by split <;> simp
      dsimp only
      rw [e, List.map_cons, List.flatten_cons, ← List.append_assoc]
      congr 1
      simp [KBw.bInts]
  have := key l 0 #[]
  simpa [KBw.bInts] using this
theorem ints_map (bs : List (Array UInt8 × Tok)) : (bs.map (·.1)).map KBw.bInts = bs.map fun q => KBw.bInts q.1 := by rw [List.map_map]; rfl
theorem off_heap (bs : List (Array UInt8 × Tok)) : ((bs.map fun q => ((Value.bytes q.1 q.2, none) : Value × Option Value)).any fun q => q.1.onHeap) = false := by
  induction bs with
  | nil => rfl
  | cons _ _ ih => rw [List.map_cons, List.any_cons, ih]; rfl
theorem none_all (bs : List (Array UInt8 × Tok)) : ∀ q ∈ bs.map (fun q => ((Value.bytes q.1 q.2, none) : Value × Option Value)), q.2 = none := by
  intro q hq
  obtain ⟨r, _, rfl⟩ := List.mem_map.mp hq
  rfl
theorem foldl_size (l : List (Array UInt8)) (k : Nat) : l.foldl (fun a p => a + p.size) k = k + ((l.map KBw.bInts).flatten).length := by
  induction l generalizing k with
  | nil => simp
  | cons p r ih => rw [List.foldl_cons, ih, List.map_cons, List.flatten_cons, List.length_append, KBw.ints_length]; omega
section
variable {prog : Program} {w : World} {A : Around} {s : Shared} {E : Value → Shared → Prop}
theorem let_go {M : Model} {A : Around} {keep : List Value} {Q : Unit → Shared → Prop} : ∀ (taken : List (Value × Option Value)), (∀ q ∈ taken, q.2 = none) → Q () s → wpAny M A (Builtin.Bytes.joinLetGo taken keep) Q E s
  | [], _, h => wpAny_pure h
  | (x, u) :: r, hn, h => by
    obtain rfl : u = none := hn _ (.head _)
    unfold Builtin.Bytes.joinLetGo
    dsimp only
    refine wpAny_bind ?_
    unfold letGo
    exact wpAny_bind (wpAny_holding (wpAny_point (by unfold letGo; exact wpAny_pure (let_go r (fun q hq => hn q (.tail _ hq)) h))))
theorem join_many {vs : List Value} {cs : List (List Int)} {l : Addr} {t0 : Tok} {Q : Fin → Shared → Prop} (hl : s.heap.IsList l vs.toArray) (hv : BytesAre vs cs) (hsz : cs.flatten.length ≤ 16777216)
    (h : ∀ c t k, KBw.bInts c = cs.flatten → Q (.done (.ret (.bytes c t))) { s with toks := k }) :
    wpAny (model prog w) A (Builtin.«bytes.join» ⟨[.bytes #[] t0, .ref l], []⟩) Q E s := by
  unfold Builtin.«bytes.join» Builtin.Bytes.joinM
  have hT := hl.typeIs (s := s)
  obtain ⟨o, ho, hc, nn, hd⟩ := hl
  obtain ⟨bs, rfl, rfl⟩ := hv.pairs
  refine wpAny_bind (wpAny_of_eq (a := (Value.bytes #[] t0, Value.ref l)) rfl ?_)
  dsimp only
  rw [if_pos (by decide)]
  unfold Builtin.Bytes.joinItems
  refine wpAny_bind (wpAny_bind (wpAny_typeOf hT ?_))
  rw [if_pos (by decide)]
  refine wpAny_pure (wpAny_bind (wpAny_seqItems ho hd ?_))
  dsimp only
  rw [if_pos (by decide)]
  have hsize : (List.map (fun q : Array UInt8 × Tok => Value.bytes q.1 q.2) bs).toArray.size = bs.length := by simp
  have many : ∀ (K : Array (Array UInt8) × List (Value × Option Value) → Sem PySem.Fin) (f : Nat → Array (Array UInt8) × List (Value × Option Value) → Sem (ForInStep (Array (Array UInt8) × List (Value × Option Value)))),
      (∀ i b, i < bs.length → b = (((bs.take i).map (·.1)).toArray, (bs.take i).map fun q => (Value.bytes q.1 q.2, none)) → wpAny (model prog w) A (f i b) (fun r s' => r = .yield (((bs.take (i + 1)).map (·.1)).toArray, (bs.take (i + 1)).map fun q => (Value.bytes q.1 q.2, none)) ∧ s' = s) E s) →
      wpAny (model prog w) A (K ((bs.map (·.1)).toArray, bs.map fun q => (Value.bytes q.1 q.2, none))) Q E s →
      wpAny (model prog w) A (forIn [0:(List.map (fun q : Array UInt8 × Tok => Value.bytes q.1 q.2) bs).toArray.size] (#[], []) f >>= K) Q E s := by
    intro K f hf hK
    refine wpAny_bind ?_
    rw [Std.Legacy.Range.forIn_eq_forIn_range', hsize]
    simp only [Std.Legacy.Range.size, Nat.sub_zero, Nat.add_sub_cancel, Nat.div_one]
    refine wpAny_forIn_list _ (fun rest b s' => ∃ i, i ≤ bs.length ∧ rest = List.range' i (bs.length - i) ∧ b = (((bs.take i).map (·.1)).toArray, (bs.take i).map fun q => (Value.bytes q.1 q.2, none)) ∧ s' = s) _ ?_ ?_ _ _ ⟨0, Nat.zero_le _, rfl, rfl, rfl⟩
    · rintro x rest b s' ⟨i, hi, e1, e2, rfl⟩
      have hlt : i < bs.length := by
        by_cases q : i < bs.length
        · exact q
        · rw [show bs.length - i = 0 by omega] at e1; cases e1
      rw [show bs.length - i = (bs.length - (i + 1)) + 1 by omega, List.range'_succ] at e1
      obtain ⟨ex, er⟩ := List.cons.inj e1
      rw [ex, er]
      refine wpAny_mono (hf i b hlt e2) (fun r s'' hr => ?_) fun _ _ z => z
      obtain ⟨rfl, rfl⟩ := hr
      exact ⟨i + 1, hlt, rfl, rfl, rfl⟩
    · rintro b s' ⟨i, hi, e1, e2, rfl⟩
      have hi' : i = bs.length := by
        by_cases q : i = bs.length
        · exact q
        · have := congrArg List.length e1
          simp at this; omega
      rw [hi'] at e2
      rw [e2, List.take_length]
      exact hK
  have turn : ∀ i, i < bs.length → (List.map (fun q : Array UInt8 × Tok => Value.bytes q.1 q.2) bs).toArray.getD i Value.none = .bytes (bs.getD i (#[], 0)).1 (bs.getD i (#[], 0)).2 := by
    intro i hi
    simp [Array.getD, hi, List.getD_eq_getElem?_getD]
  have next : ∀ i, i < bs.length → bs.take (i + 1) = bs.take i ++ [bs.getD i (#[], 0)] := by
    intro i hi
    rw [List.take_add_one, List.getD_eq_getElem?_getD, List.getElem?_eq_getElem hi]
    rfl
  match bs, hsz, h, hd, many, turn, next with
  | [q], _, h, hd, _, _, _ =>
    change wpAny (model prog w) A (typeOf (.bytes q.1 q.2) >>= _) Q E s
    refine wpAny_bind (wpAny_typeOf (typeIs_bytes _ _ _) ?_)
    rw [if_pos (by decide)]
    exact wpAny_bind (wpAny_rule (wpAny_pure (h _ _ _ (by simp))))
  | [], hsz, h, hd, many, turn, next =>
    change wpAny (model prog w) A (forIn _ _ _ >>= _) Q E s
    refine many _ _ (fun i b hi _ => absurd hi (Nat.not_lt_zero _)) ?_
    refine wpAny_bind (wpAny_of_eq (a := (#[] : Array UInt8)) rfl ?_)
    rw [if_neg (by rw [KBy.tooLong_not (by rw [← Array.foldl_toList, foldl_size, ints_map]; simpa using hsz)]; decide)]
    refine wpAny_bind (m := mkBytes _) (wpAny_mkBytes ?_ (by rw [size_of (joined_nil _), sizeLine_eq, ints_map]; exact hsz))
    refine wpAny_bind (wpAny_holding (wpAny_point ?_))
    refine wpAny_bind (let_go _ (none_all _) ?_)
    exact wpAny_pure (h _ _ _ (by rw [joined_nil, ints_map]))
  | q1 :: q2 :: r, hsz, h, hd, many, turn, next =>
    change wpAny (model prog w) A (forIn _ _ _ >>= _) Q E s
    refine many _ _ (fun i b hi hb => ?_) ?_
    · subst hb
      refine wpAny_bind (wpAny_seqItems ho hd ?_)
      dsimp only
      rw [turn i hi, if_neg (by rw [off_heap]; decide)]
      refine wpAny_bind (wpAny_holding (wpAny_of_eq take_bytes ?_))
      dsimp only
      refine wpAny_bind (wpAny_seqItems ho hd ?_)
      dsimp only
      rw [if_neg (by simp)]
      refine wpAny_pure ⟨?_, rfl⟩
      rw [next i hi]
      simp
    · skip
      refine wpAny_bind (wpAny_of_eq (a := (#[] : Array UInt8)) rfl ?_)
      rw [if_neg (by rw [KBy.tooLong_not (by rw [← Array.foldl_toList, foldl_size, ints_map]; simpa using hsz)]; decide)]
      refine wpAny_bind (m := mkBytes _) (wpAny_mkBytes ?_ (by rw [size_of (joined_nil _), sizeLine_eq, ints_map]; exact hsz))
      refine wpAny_bind (wpAny_holding (wpAny_point ?_))
      refine wpAny_bind (let_go _ (none_all _) ?_)
      exact wpAny_pure (h _ _ _ (by rw [joined_nil, ints_map]))
end
end Mine
namespace Mine
section
variable {prog : Program} {w : World} {A : Around} {s : Shared} {E : Value → Shared → Prop}
theorem meets_join {vs : List Value} {cs : List (List Int)} {l : Addr} {t0 : Tok} (hv : BytesAre vs cs) (hsz : cs.flatten.length ≤ 16777216) :
    Meets (Builtin.«bytes.join» ⟨[.bytes #[] t0, .ref l], []⟩) (fun _ R s => s.heap.IsList l vs.toArray ∧ ∀ c t k, KBw.bInts c = cs.flatten → R (.ok (.ret (.bytes c t))) { s with toks := k }) := by
  refine .of_wp fun prog w A R s hS => ?_
  obtain ⟨hl, h⟩ := hS
  exact join_many hl hv hsz fun c t k e => ⟨_, rfl, h c t k e⟩
theorem join_K {vs : List Value} {cs : List (List Int)} {l : Addr} {t0 : Tok} {Q : Value → Shared → Prop} (hl : s.heap.IsList l vs.toArray) (hv : BytesAre vs cs) (hsz : cs.flatten.length ≤ 16777216)
    (h : ∀ c t k, KBw.bInts c = cs.flatten → Q (.bytes c t) { s with toks := k }) : wpAny (model prog w) A (call (.builtin "bytes.join") [.bytes #[] t0, .ref l]) Q E s :=
  call_meets slot_join (typeIs_bytes _ _ _) entry_join (args_join _ _) (meets_join hv hsz) ⟨hl, h⟩
theorem method_join {M : Model} {b : Array UInt8} {t : Tok} {pl : Sem Bool} {Q : Value × List Value → Shared → Prop} (h : Q (.builtin "bytes.join", [.bytes b t]) s) : wpAny M A (getMethod (.bytes b t) (Str.ofString "join") pl) Q E s := by
  with_reducible exact KBd.method_of (.bytes b t) (typeIs_bytes _ _ _) slot_join type_join KBd.noRef h
end
end Mine
open PySem PySem.W PyProof.Rows PySem.Calls PySem.Spec
namespace Mine
set_option maxRecDepth 100000
section
variable {prog : Program} {w : World} {A : Around} {E : Value → Shared → Prop} {s : Shared} {env : Env} {scope : Scope} {h₀ : Heap} {L : Addr} {m : Str → Option Value} {news : List (Addr × Obj)} {Q : Value → Shared → Prop}
/-- a comprehension without a test over any list: the element's rule is given -/
theorem comp_list {x : Str} {elt : Expr} {l : Addr} {vs : List Value} {R : Value → Value → Prop} (hh : A.handled = none) (F : Fr h₀ L s.heap m) (N : News h₀ L s.heap news) (hl : s.heap.IsList l vs.toArray) (hz : vs.length ≤ sizeLine)
    (helt : ∀ C v s₃ m₃ E', v ∈ vs → s₃.heap.Ns C m₃ → m₃ x = some v → (∀ b o, h₀.get? b = some o → s₃.heap.get? b = some o) →
      wpAny (model prog w) A (eval elt (compEnv scope C env)) (fun y s₄ => R v y ∧ Keeps s₃ s₄) E' s₃)
    (h : ∀ D ys h' tk n, Fr h₀ L h' m → News h₀ L h' ((D, listOf ys.toArray n) :: news) → (∀ q ∈ news, q.1 ≠ D) → Paired R vs ys → Q (.ref D) { s with heap := h', toks := tk }) :
    wpAny (model prog w) A (pyIter (.ref l)) (CompPost prog w A env scope x [] elt Q) E s := by
  refine wpAny_pyIter_list hl ?_
  have hlt : l < s.heap.objs.size := let ⟨_, e, _⟩ := hl; Heap.lt_size e
  have hne : l ≠ s.heap.objs.size := Nat.ne_of_lt hlt
  have keep1 : ∀ b o, s.heap.get? b = some o → (s.heap.push { cls := .type "list_iterator", data := .fields #[.ref l, .int 0 0] }).get? b = some o := fun b o e => Heap.get?_push_of_some _ e
  refine ⟨fun _ => true, R, s.heap.objs.size, [s.heap.objs.size, l], [s.heap.objs.size], vs.toArray.size, _, _, rfl, Walks.list hh s.heap.objs.size l hne vs.toArray, by simpa using hz, ?_, ?_, ?_, ?_⟩
  · exact ⟨⟨_, Heap.get?_push_size _ rfl, rfl, rfl⟩, let ⟨o, e, r⟩ := hl; ⟨o, keep1 _ _ e, r⟩⟩
  · intro b hb
    have hs : ∀ o : Obj, (s.heap.push o).objs.size = s.heap.objs.size + 1 := fun o => Heap.size_push ..
    show b < (s.heap.push _).objs.size
    rw [hs]
    simp at hb
    rcases hb with rfl | rfl
    · exact Nat.lt_succ_self _
    · exact Nat.lt_succ_of_lt hlt
  · refine ⟨fun C i v s₃ m₃ E' _ _ _ _ _ => ?_, fun C i v s₃ m₃ E' hP _ hns hx hk _ => ?_⟩
    · rw [List.forIn_nil]
      exact wpAny_pure ⟨rfl, _, _, rfl, fun _ _ e => e⟩
    · refine helt C v s₃ m₃ E' ?_ hns hx fun b o e => ?_
      · have := List.mem_of_getElem? (by simpa using hP : vs[i]? = some v)
        exact this
      · have e2 := F.keep b o e
        exact hk b o (by simp only [List.mem_singleton]; exact Nat.ne_of_lt (Heap.lt_size e2)) (keep1 b o e2)
  · intro D h' tk ys vs' hD _ hP hlen hvs hpair hk
    have k2 : ∀ b o, s.heap.get? b = some o → h'.get? b = some o := fun b o e => hk b o (by simp only [List.mem_singleton]; exact Nat.ne_of_lt (Heap.lt_size e)) (keep1 b o e)
    have evs : vs' = vs := by
      refine List.ext_getElem? fun j => ?_
      cases hj : vs'[j]? with
      | none =>
        have : vs'.length ≤ j := List.getElem?_eq_none_iff.mp hj
        rw [List.getElem?_eq_none (by simp at hlen; omega)]
      | some v => have := hvs j v hj; simpa using this.symm
    obtain ⟨n, hDn⟩ := hP
    have hD0 : s.heap.get? D = none := by
      cases q : s.heap.get? D with
      | none => rfl
      | some o => have := keep1 _ _ q; rw [hD] at this; cases this
    have apart : ∀ {b : Addr} {o : Obj}, s.heap.get? b = some o → b ≠ D := fun e q => by rw [q, hD0] at e; cases e
    subst evs
    obtain ⟨ysl⟩ := ys
    refine h D ysl h' tk n (F.keeps k2) (fun q hq => ?_) (fun q hq => apart (N q hq).1) (by rw [List.filter_eq_self.mpr (fun _ _ => rfl)] at hpair; exact hpair)
    rcases List.mem_cons.mp hq with rfl | hq
    · obtain ⟨oL, _, _, hL, _⟩ := F.ns
      refine ⟨hDn, Ne.symm (apart hL), ?_⟩
      cases q : h₀.get? D with
      | none => rfl
      | some o => have := F.keep _ _ q; rw [hD0] at this; cases this
    · exact ⟨k2 _ _ (N q hq).1, (N q hq).2⟩
/-- len of a local within a comprehension's block -/
theorem len_local {C : Addr} {x : Str} {np cp ap : Pos} {b : Array UInt8} {t : Tok} {m₃ mg mb : Str → Option Value} {p : Program} {loose : List Str} {mean : ExcName → Option Value} {Q : Value → Shared → Prop} {K : Frag}
    (hns : s.heap.Ns C m₃) (hx : m₃ x = some (.bytes b t)) (hk : ∀ b o, h₀.get? b = some o → s.heap.get? b = some o) (X : K.In h₀) (T : Top p loose mean mg mb h₀) (e : nsIn K mainGlobals "len" = some none)
    (hz : b.size ≤ 1099511627776) (h : ∀ t' tk, Q (.int (b.size : Nat) t') { s with toks := tk })
    (hkind : scope.kind = .function) (hl : scope.names.lookup (Str.ofString "len") = some .globalImplicit) (hxl : scope.names.lookup x = some .local) (hd : (x == ("__debug__" : Str)) = false) (hg : env.globals = mainGlobals) (hb : env.builtins = builtinsNs) :
    wpAny (model prog w) A (eval (.Call (.Name "len" np) [.Name x ap] [] cp) (compEnv scope C env)) Q E s := by
  refine wpAny_Call_ofName (Name_function_global hkind hl (loadGlobal_builtin (mg := mg) (mb := mb) (by show s.heap.Ns env.globals mg; rw [hg]; exact T.g.keeps hk) (mg_none_of X T.g e) (by show s.heap.Ns env.builtins mb; rw [hb]; exact T.b.keeps hk) ((T.builtins "len" (by decide)).trans boot_len) ?_))
  refine callWith_builtin (by rfl) (evalArgs_plain (spliced_cons ?_))
  refine wpAny_Name (wpAny_loadName_local (v := .bytes b t) hkind hxl hns hx ?_) hd
  show wpAny _ _ (spliced []) _ _ _
  rw [spliced]
  refine wpAny_pure ?_
  exact len_b rfl (by rw [KBw.ints_length]; exact hz) (fun t' tk => by rw [KBw.ints_length]; exact h t' tk)
end
end Mine
namespace Mine
noncomputable def LenOf (v y : Value) : Prop := ∃ b t t', v = .bytes b t ∧ y = .int ((Array.size b : Nat) : Int) t'
theorem lens_are {vs ys : List Value} {cs : List (List Int)} (hv : BytesAre vs cs) (hp : Paired LenOf vs ys) : IntsAre ys (cs.map fun c => (c.length : Int)) := by
  induction hv generalizing ys with
  | nil => cases hp; exact .nil
  | cons e _ ih =>
    cases hp with
    | cons h1 h2 =>
      obtain ⟨b, t, t', e1, e2⟩ := h1
      cases e1
      subst e2
      rw [List.map_cons, ← size_of e]
      exact .cons _ _ (ih h2)
theorem sum_lens (cs : List (List Int)) : (cs.map fun c => (c.length : Int)).sum = (cs.flatten.length : Int) := by
  induction cs with
  | nil => rfl
  | cons c r ih => rw [List.map_cons, List.sum_cons, ih, List.flatten_cons, List.length_append]; push_cast; rfl
theorem BytesAre.mem {vs : List Value} {cs : List (List Int)} (h : BytesAre vs cs) {v : Value} (hv : v ∈ vs) : ∃ b t, v = .bytes b t ∧ KBw.bInts b ∈ cs := by
  induction h with
  | nil => cases hv
  | cons e _ ih =>
    cases hv with
    | head => exact ⟨_, _, rfl, by rw [e]; exact .head _⟩
    | tail _ hv => obtain ⟨b, t, e1, e2⟩ := ih hv; exact ⟨b, t, e1, .tail _ e2⟩
end Mine
open PySem PySem.W PyProof.Rows PySem.Calls PySem.Spec
namespace Mine
set_option maxRecDepth 100000
theorem sizeL_facts : ∀ {r : List Int} {v : Int} {k : Nat}, Oct r → sizeL r = some (v, k) → 0 ≤ v ∧ v < 2 ^ (7 * k) ∧ 1 ≤ k ∧ k ≤ r.length
  | [], _, _, _, h => by cases h
  | c :: r, v, k, ho, h => by
    have hc := ho c (.head _)
    unfold sizeL at h
    split at h
    · cases h
      refine ⟨hc.1, ?_, Nat.le_refl _, by simp⟩
      show c < 2 ^ 7
      omega
    · simp only [Option.map_eq_some_iff] at h
      obtain ⟨⟨v', k'⟩, h1, h2⟩ := h
      have ih := sizeL_facts (fun x hx => ho x (.tail _ hx)) h1
      cases h2
      have p1 : (2 : Int) ^ (7 * (k' + 1)) = 2 ^ (7 * k') * 128 := by rw [Nat.mul_add, Int.pow_add]; rfl
      refine ⟨by omega, by rw [p1]; omega, by omega, by simp only [List.length_cons]; omega⟩
theorem Oct.drop {r : List Int} (h : Oct r) (n : Nat) : Oct (r.drop n) := fun x hx => h x (List.mem_of_mem_drop hx)
theorem sizeL_at {ks : List Int} {i v : Int} {k : Nat} (h : Oct ks) (h0 : 0 ≤ i) (hi : i ≤ ks.length) (e : sizeL (ks.drop i.toNat) = some (v, k)) : 0 ≤ v ∧ v < 2 ^ (7 * k) ∧ 1 ≤ k ∧ i + (k : Int) ≤ ks.length := by
  have q := sizeL_facts (h.drop _) e
  rw [List.length_drop] at q
  omega
/-- the octets that follow a copy's first: those that its bits k .. k + n - 1 name, the least first -/
noncomputable def fieldsL (c : Int) : Nat → Nat → List Int → Option (Int × List Int)
  | _, 0, r => some (0, r)
  | k, n + 1, r => if c / 2 ^ k % 2 = 1 then (match r with | [] => none | x :: q => (fieldsL c (k + 1) n q).map fun p => (x + 256 * p.1, p.2)) else (fieldsL c (k + 1) n r).map fun p => (256 * p.1, p.2)
/-- between the turns of the loop that reads such octets -/
noncomputable def fldInv (ks : List Int) (c : Int) (k₀ n : Nat) (i₀ : Int) (j : Nat) (idx off : Int) : Prop :=
  0 ≤ off ∧ off < 256 ^ j ∧ i₀ ≤ idx ∧ idx ≤ ks.length ∧ fieldsL c k₀ n (ks.drop i₀.toNat) = (fieldsL c (k₀ + j) (n - j) (ks.drop idx.toNat)).map fun p => (off + 256 ^ j * p.1, p.2)
theorem fldInv_start (ks : List Int) (c : Int) (k₀ n : Nat) (i₀ : Int) (h : i₀ ≤ ks.length) : fldInv ks c k₀ n i₀ 0 i₀ 0 :=
  ⟨Int.le_refl _, by decide, Int.le_refl _, h, by cases fieldsL c k₀ n (ks.drop i₀.toNat) <;> simp [*]⟩
section
variable {ks : List Int} {c i₀ idx off : Int} {k₀ n j : Nat}
theorem fld_skip (h : fldInv ks c k₀ n i₀ j idx off) (hj : j < n) (hb : ¬ c / 2 ^ (k₀ + j) % 2 = 1) : fldInv ks c k₀ n i₀ (j + 1) idx off := by
  obtain ⟨h0, h1, h2, h3, e⟩ := h
  have pp : (0 : Int) < 256 ^ j := pow_pos_of (by decide) j
  have p1 : (256 : Int) ^ (j + 1) = 256 ^ j * 256 := Int.pow_succ ..
  refine ⟨h0, by rw [p1]; omega, h2, h3, ?_⟩
  rw [e, show n - j = (n - (j + 1)) + 1 by omega]
  simp only [fieldsL]
  rw [if_neg hb, show k₀ + j + 1 = k₀ + (j + 1) by omega]
  cases fieldsL c (k₀ + (j + 1)) (n - (j + 1)) (ks.drop idx.toNat) with
  | none => rfl
  | some p => simp only [Option.map_some, Option.some.injEq, Prod.mk.injEq, and_true]; rw [p1, Int.mul_assoc]
theorem fld_take (h : fldInv ks c k₀ n i₀ j idx off) (h00 : 0 ≤ i₀) (hj : j < n) (hb : c / 2 ^ (k₀ + j) % 2 = 1) (hl : idx < ks.length) (hlo : 0 ≤ ks.getD idx.toNat 0) (hhi : ks.getD idx.toNat 0 < 256) :
    fldInv ks c k₀ n i₀ (j + 1) (idx + 1) (Builtin.bitOr off (ks.getD idx.toNat 0 * 2 ^ (j * 8))) := by
  obtain ⟨h0, h1, h2, h3, e⟩ := h
  have pe : (2 : Int) ^ (j * 8) = 256 ^ j := by rw [Nat.mul_comm, Int.pow_mul]; rfl
  have pp : (0 : Int) < 256 ^ j := pow_pos_of (by decide) j
  have p1 : (256 : Int) ^ (j + 1) = 256 ^ j * 256 := Int.pow_succ ..
  rw [or_above h0 (by rw [pe]; exact h1) hlo, pe]
  rw [drop_at (ix := idx) (by omega) (by omega)] at e
  generalize ks.getD idx.toNat 0 = x at *
  have m1 : x * 256 ^ j ≤ 255 * 256 ^ j := Int.mul_le_mul_of_nonneg_right (by omega) (Int.le_of_lt pp)
  have m0 : 0 ≤ x * 256 ^ j := Int.mul_nonneg hlo (Int.le_of_lt pp)
  refine ⟨by omega, by rw [p1]; omega, by omega, by omega, ?_⟩
  rw [e, show n - j = (n - (j + 1)) + 1 by omega]
  simp only [fieldsL]
  rw [if_pos hb, show k₀ + j + 1 = k₀ + (j + 1) by omega]
  cases fieldsL c (k₀ + (j + 1)) (n - (j + 1)) (ks.drop (idx + 1).toNat) with
  | none => rfl
  | some p =>
    simp only [Option.map_some, Option.some.injEq, Prod.mk.injEq, and_true]
    rw [p1, Int.mul_add, Int.mul_comm x, Int.mul_assoc]
    omega
theorem fld_fail (h : fldInv ks c k₀ n i₀ j idx off) (hj : j < n) (hb : c / 2 ^ (k₀ + j) % 2 = 1) (hl : (ks.length : Int) ≤ idx) : fieldsL c k₀ n (ks.drop i₀.toNat) = none := by
  obtain ⟨h0, h1, h2, h3, e⟩ := h
  rw [e, show n - j = (n - (j + 1)) + 1 by omega, List.drop_of_length_le (by omega)]
  simp only [fieldsL]
  rw [if_pos hb]
  rfl
theorem fld_done (h : fldInv ks c k₀ n i₀ n idx off) : fieldsL c k₀ n (ks.drop i₀.toNat) = some (off, ks.drop idx.toNat) := by
  obtain ⟨h0, h1, h2, h3, e⟩ := h
  rw [e, Nat.sub_self]
  simp [fieldsL]
end
section
variable {prog : Program} {w : World} {A : Around} {E : Value → Shared → Prop} {s : Shared} {env : Env} {h₀ : Heap} {body : List Stmt} {Q : Flow → Shared → Prop}
noncomputable abbrev FldS := Obj × Int × Tok × Int × Tok
noncomputable abbrev fldLed (ci : Addr) (rest : List (Addr × Obj)) (c : FldS) : List (Addr × Obj) := (ci, c.1) :: rest
noncomputable abbrev fldFacts (c : FldS) : Prop := c.1.data = .cell (some (.int c.2.1 c.2.2.1))
noncomputable def FldPost (h₀ : Heap) (L : Addr) (ci : Addr) (rest : List (Addr × Obj)) (offn : Str) (m₀ : Str → Option Value) (ks : List Int) (cc : Int) (k₀ n : Nat) (i₀ : Int) (j : Nat) (own : List (Addr × Obj)) (s : Shared) (Q : Flow → Shared → Prop) (f : Flow) (s₂ : Shared) : Prop :=
  match f with
  | .ret v => Q (.ret v) s₂
  | .brk => Q .next s₂
  | _ => ∃ h' tk m' news' oi idx tidx off toff, s₂ = { s with heap := h', toks := tk } ∧ Fr h₀ L h' m' ∧ News h₀ L h' news' ∧ (∀ q ∈ (ci, oi) :: rest, q ∈ news') ∧ (∀ q ∈ own, q ∈ news') ∧ oi.data = .cell (some (.int idx tidx)) ∧ m' offn = some (.int off toff) ∧
     (∀ z : Str, z ≠ Str.ofString "i" → z ≠ offn → z ≠ Str.ofString "x" → m' z = m₀ z) ∧ fldInv ks cc k₀ n i₀ (j + 1) idx off
theorem for_fields {r : Addr} {t₀ u₀ v₀ : Tok} {m₀ : Str → Option Value} {news : List (Addr × Obj)} (ks : List Int) (cc : Int) (k₀ n : Nat) {i₀ : Int} {ti to : Tok} {oi : Obj} {ci : Addr} (rest : List (Addr × Obj)) (offn : Str)
    {nI : Int} (hh : A.handled = none) (hr : IsRange s.heap r 0 nI 1 t₀ u₀ v₀) (hnI : nI = (n : Int)) (hn : n ≤ 10) (F : Fr h₀ env.locals s.heap m₀) (N : News h₀ env.locals s.heap news) (hci : (ci, oi) ∈ news) (hrest : ∀ q ∈ rest, q ∈ news)
    (hd : oi.data = .cell (some (.int i₀ ti))) (ho : m₀ offn = some (.int 0 to)) (hi : i₀ ≤ ks.length) (hne : offn ≠ "i") (hne2 : offn ≠ "x")
    (turn : ∀ (j : Nat) oi idx tidx off toff t (u : Str → Option Value) h tk own, j < n → OwnOff own (ci :: rest.map (·.1)) → oi.data = .cell (some (.int idx tidx)) → fldInv ks cc k₀ n i₀ j idx off →
      Fr h₀ env.locals h (fun y => if y = "i" then some (.int (j : Int) t) else kstB (fun z => if [Str.ofString "i", offn, Str.ofString "x"].contains z then u z else m₀ z) [(offn, .int off toff)] y) → News h₀ env.locals h ((ci, oi) :: (rest ++ own)) →
      wpAny (model prog w) A (execs body env) (FldPost h₀ env.locals ci rest offn m₀ ks cc k₀ n i₀ j own { s with heap := h, toks := tk } Q) E { s with heap := h, toks := tk })
    (done : ∀ oi idx tidx off toff (u : Str → Option Value) h tk, oi.data = .cell (some (.int idx tidx)) → fldInv ks cc k₀ n i₀ n idx off →
      Fr h₀ env.locals h (fun y => if y = "i" then u y else kstB (fun z => if [Str.ofString "i", offn, Str.ofString "x"].contains z then u z else m₀ z) [(offn, .int off toff)] y) → News h₀ env.locals h ((ci, oi) :: rest) → Q .next { s with heap := h, toks := tk }) :
    wpAny (model prog w) A (pyIter (.ref r)) (fun it s₂ => LoopAtV prog w A h₀ env "i" body Q E it s₂) E s := by
  subst hnI
  have N1 : News h₀ env.locals s.heap (fldLed ci rest (oi, i₀, ti, 0, to)) := fun q hq => by
    rcases List.mem_cons.mp hq with rfl | hq
    · exact N _ hci
    · exact N _ (hrest q hq)
  refine kst_range (x := "i") (n := n) (fldLed ci rest) (fun c => [(offn, .int c.2.2.2.1 c.2.2.2.2)]) fldFacts [Str.ofString "i", offn, Str.ofString "x"] (fun pre c => fldInv ks cc k₀ n i₀ pre.length c.2.1 c.2.2.2.1) (oi, i₀, ti, 0, to) hh hr ?_ ?_ F N1 hd ?_ (fldInv_start ks cc k₀ n i₀ hi) ?_ ?_
  · have : ∀ k : Fin 11, Builtin.Range.small 0 ((k.val : Nat) : Int) 1 = true := by decide +kernel
    exact this ⟨n, by omega⟩
  · have : ∀ k : Fin 11, Builtin.Range.rangeSize 0 ((k.val : Nat) : Int) 1 = ((k.val : Nat) : Int) := by decide +kernel
    exact this ⟨n, by omega⟩
  · intro p hp
    rw [List.mem_singleton.mp hp]; exact ho
  · rintro ⟨oi, idx, tidx, off, toff⟩ pre k t u h tk own hk hlt hoff hf hp F' N'
    have hk' : k = (pre.length : Int) := by omega
    subst hk'
    refine wpAny_mono (turn pre.length oi idx tidx off toff t u h tk own hlt (by simpa using hoff) hf hp F' N') (fun f s₂ z => ?_) fun _ _ z => z
    have up : FldPost h₀ env.locals ci rest offn m₀ ks cc k₀ n i₀ pre.length own { s with heap := h, toks := tk } Q .next s₂ → InvEndN h₀ env.locals (KstS (fldLed ci rest) (fun c => [(offn, .int c.2.2.2.1 c.2.2.2.2)]) fldFacts "i" [Str.ofString "i", offn, Str.ofString "x"] m₀ (fun pre c => fldInv ks cc k₀ n i₀ pre.length c.2.1 c.2.2.2.1) (pre ++ [(pre.length : Int)])) own ((fldLed ci rest (oi, i₀, ti, 0, to)).map (·.1)) { s with heap := h, toks := tk } s₂ := by
      rintro ⟨h', tk', m', news', oi', idx', tidx', off', toff', rfl, F2, N2, a1, a2, a3, a4, a5, a6⟩
      refine kst_end (oi', idx', tidx', off', toff') F2 N2 a1 a2 rfl a3 ?_ ?_ (by simpa using a6)
      · intro p hp
        rw [List.mem_singleton.mp hp]; exact a4
      · intro z hz _ hs
        simp only [List.contains_cons, List.contains_nil, Bool.or_false, Bool.or_eq_false_iff, beq_eq_false_iff_ne, ne_eq] at hs
        exact a5 z hs.1 hs.2.1 hs.2.2
    cases f with
    | ret v => exact z
    | brk => exact z
    | next => exact up z
    | cont => exact up z
  · rintro ⟨oi, idx, tidx, off, toff⟩ u h tk hf hp F' N'
    exact done oi idx tidx off toff u h tk hf (by simpa [rangeKs_length] using hp) F' N'
end
end Mine
open PySem PySem.W PyProof.Rows PySem.Calls PySem.Spec
namespace Mine
set_option maxRecDepth 100000
section
variable {prog : Program} {w : World} {A : Around} {E : Value → Shared → Prop} {Q : Flow → Shared → Prop} {s : Shared} {env : Env} {h₀ : Heap} {L : Addr} {body : List Stmt}
noncomputable abbrev LstS := List Value × List Int × Nat
end
end Mine
open PySem PySem.W PyProof.Rows PySem.Calls PySem.Spec
namespace Mine
set_option maxRecDepth 100000
section
variable {prog : Program} {w : World} {A : Around} {E : Value → Shared → Prop} {Q : Flow → Shared → Prop} {s : Shared} {env : Env} {h₀ : Heap} {L : Addr}
noncomputable abbrev OctS := Int × Tok × List Value × List Int × Nat
noncomputable abbrev octLed (lo : Addr) (c : OctS) : List (Addr × Obj) := [(lo, listOf c.2.2.1.toArray c.2.2.2.2)]
noncomputable abbrev octFacts (c : OctS) : Prop := IntsAre c.2.2.1 c.2.2.2.1
noncomputable def octInv (size : Int) (ns : List Int) : Prop := ∃ k, 1 ≤ k ∧ ns.length + k ≤ 5 ∧ 0 ≤ size ∧ size < 128 ^ k ∧ Oct ns
end
end Mine
open PySem PySem.W PyProof.Rows PySem.Calls PySem.Spec
namespace Mine
set_option maxRecDepth 100000
section
variable {prog : Program} {w : World} {A : Around} {E : Value → Shared → Prop} {Q : Flow → Shared → Prop} {s : Shared} {env : Env} {h₀ : Heap} {L : Addr} {body : List Stmt}
noncomputable abbrev StpS := List Value × List Int × Nat × Int × Tok × Obj
noncomputable abbrev stpLed (lo cr : Addr) (rest : List (Addr × Obj)) (c : StpS) : List (Addr × Obj) := (lo, listOf c.1.toArray c.2.2.1) :: (cr, c.2.2.2.2.2) :: rest
noncomputable abbrev stpFacts (c : StpS) : Prop := IntsAre c.1 c.2.1 ∧ ∃ v, c.2.2.2.2.2.data = .cell v
noncomputable abbrev stpStored : List Str := [Str.ofString "total", Str.ofString "number", Str.ofString "kind", Str.ofString "place", Str.ofString "length"]
noncomputable def stpInv (k : Nat) (os : List Int) (total : Int) : Prop := Oct os ∧ os.length ≤ 128 * k ∧ 0 ≤ total ∧ total ≤ 601 * (k : Int)
end
section
variable {prog : Program} {w : World} {A : Around} {E : Value → Shared → Prop} {s : Shared} {h₀ : Heap} {L D b : Addr} {m : Str → Option Value} {news news' : List (Addr × Obj)} {vs ws : List Value} {os ms : List Int} {n n2 : Nat}
end
end Mine
open PySem PySem.W PyProof.Rows PySem.Calls PySem.Spec
namespace Mine
set_option maxRecDepth 100000
noncomputable def copySz (s : Int) : Int := if s = 0 then 65536 else s
/-- the steps of a delta upon the text bk; r: the octets left, rem: the length left, acc: the target so far -/
noncomputable def opsL (bk : List Int) : Nat → List Int → Int → List Int → Option (List Int)
  | 0, _, _, _ => none
  | n + 1, r, rem, acc => match r with
    | [] => if rem = 0 then some acc else none
    | c :: q =>
      if 128 ≤ c then
        match fieldsL c 0 4 q with
        | none => none
        | some (off, q1) => match fieldsL c 4 3 q1 with
          | none => none
          | some (sz, q2) => if off + copySz sz > bk.length ∨ copySz sz > rem then (if q2 = [] ∧ rem = 0 then some acc else none) else opsL bk n q2 (rem - copySz sz) (acc ++ cut bk off (off + copySz sz))
      else if c = 0 then none
      else if c > rem ∨ c > q.length then none
      else opsL bk n (q.drop c.toNat) (rem - c) (acc ++ q.take c.toNat)
noncomputable def readOps (bk r : List Int) (rem : Int) (acc : List Int) : Option (List Int) := opsL bk (r.length + 1) r rem acc
noncomputable def readDelta (bk dk : List Int) : Option (List Int) := match sizeL dk with
  | none => none
  | some (s1, k1) => match sizeL (dk.drop k1) with
    | none => none
    | some (s2, k2) => if s1 = bk.length then readOps bk (dk.drop (k1 + k2)) s2 [] else none
theorem fieldsL_len {c : Int} : ∀ {n k : Nat} {r : List Int} {v : Int} {q : List Int}, fieldsL c k n r = some (v, q) → q.length ≤ r.length
  | 0, _, r, v, q, h => by simp [fieldsL] at h; rw [h.2]; exact Nat.le_refl _
  | n + 1, k, r, v, q, h => by
    unfold fieldsL at h
    split at h
    · cases r with
      | nil => cases h
      | cons x r =>
        simp only [Option.map_eq_some_iff] at h
        obtain ⟨⟨v', q'⟩, h1, h2⟩ := h
        have := fieldsL_len h1
        cases h2
        simp only [List.length_cons]; omega
    · simp only [Option.map_eq_some_iff] at h
      obtain ⟨⟨v', q'⟩, h1, h2⟩ := h
      have := fieldsL_len h1
      cases h2
      exact this
theorem opsL_cons (bk : List Int) (n : Nat) (c : Int) (q : List Int) (rem : Int) (acc : List Int) : opsL bk (n + 1) (c :: q) rem acc =
    if 128 ≤ c then
      match fieldsL c 0 4 q with
      | none => none
      | some (off, q1) => match fieldsL c 4 3 q1 with
        | none => none
        | some (sz, q2) => if off + copySz sz > bk.length ∨ copySz sz > rem then (if q2 = [] ∧ rem = 0 then some acc else none) else opsL bk n q2 (rem - copySz sz) (acc ++ cut bk off (off + copySz sz))
    else if c = 0 then none
    else if c > rem ∨ c > q.length then none
    else opsL bk n (q.drop c.toNat) (rem - c) (acc ++ q.take c.toNat) := rfl
theorem opsL_fuel (bk : List Int) : ∀ (n m : Nat) (r : List Int) (rem : Int) (acc : List Int), r.length < n → r.length < m → opsL bk n r rem acc = opsL bk m r rem acc
  | 0, _, _, _, _, h, _ => absurd h (Nat.not_lt_zero _)
  | _, 0, _, _, _, _, h => absurd h (Nat.not_lt_zero _)
  | n + 1, m + 1, [], rem, acc, _, _ => by simp only [opsL]
  | n + 1, m + 1, c :: q, rem, acc, hn, hm => by
    simp only [List.length_cons] at hn hm
    rw [opsL_cons, opsL_cons]
    cases h1 : fieldsL c 0 4 q with
    | none => simp only []; rw [opsL_fuel bk n m _ _ _ (by rw [List.length_drop]; omega) (by rw [List.length_drop]; omega)]
    | some p =>
      obtain ⟨off, q1⟩ := p
      have l1 := fieldsL_len h1
      cases h2 : fieldsL c 4 3 q1 with
      | none => simp only [h2]; rw [opsL_fuel bk n m _ _ _ (by rw [List.length_drop]; omega) (by rw [List.length_drop]; omega)]
      | some p2 =>
        obtain ⟨sz, q2⟩ := p2
        have l2 := fieldsL_len h2
        simp only [h2]
        rw [opsL_fuel bk n m q2 _ _ (by omega) (by omega), opsL_fuel bk n m (q.drop _) _ _ (by rw [List.length_drop]; omega) (by rw [List.length_drop]; omega)]
theorem readOps_of (bk : List Int) {n : Nat} {r : List Int} {rem : Int} {acc : List Int} (h : r.length < n) : opsL bk n r rem acc = readOps bk r rem acc := opsL_fuel bk _ _ _ _ _ h (Nat.lt_succ_self _)
section
variable {bk q q1 q2 acc : List Int} {c rem off sz : Int}
theorem ops_nil : readOps bk [] rem acc = if rem = 0 then some acc else none := rfl
theorem ops_none0 (hc : 128 ≤ c) (h1 : fieldsL c 0 4 q = none) : readOps bk (c :: q) rem acc = none := by
  unfold readOps
  rw [List.length_cons, opsL_cons]
  rw [if_pos hc, h1]
theorem ops_none1 (hc : 128 ≤ c) (h1 : fieldsL c 0 4 q = some (off, q1)) (h2 : fieldsL c 4 3 q1 = none) : readOps bk (c :: q) rem acc = none := by
  unfold readOps
  rw [List.length_cons, opsL_cons]
  rw [if_pos hc, h1]
  simp only [h2]
theorem ops_copy (hc : 128 ≤ c) (h1 : fieldsL c 0 4 q = some (off, q1)) (h2 : fieldsL c 4 3 q1 = some (sz, q2)) (hf1 : off + copySz sz ≤ bk.length) (hf2 : copySz sz ≤ rem) :
    readOps bk (c :: q) rem acc = readOps bk q2 (rem - copySz sz) (acc ++ cut bk off (off + copySz sz)) := by
  have l1 := fieldsL_len h1
  have l2 := fieldsL_len h2
  conv => lhs; unfold readOps
  rw [List.length_cons, opsL_cons]
  rw [if_pos hc, h1]
  simp only [h2]
  rw [if_neg (by omega), readOps_of bk (by omega)]
theorem ops_bad (hc : 128 ≤ c) (h1 : fieldsL c 0 4 q = some (off, q1)) (h2 : fieldsL c 4 3 q1 = some (sz, q2)) (hf : off + copySz sz > bk.length ∨ copySz sz > rem) :
    readOps bk (c :: q) rem acc = if q2 = [] ∧ rem = 0 then some acc else none := by
  unfold readOps
  rw [List.length_cons, opsL_cons]
  rw [if_pos hc, h1]
  simp only [h2]
  rw [if_pos hf]
theorem ops_zero : readOps bk (0 :: q) rem acc = none := by
  unfold readOps
  rw [List.length_cons, opsL_cons, if_neg (by decide), if_pos rfl]
theorem ops_long (hc : ¬ 128 ≤ c) (h : c > rem ∨ c > q.length) : readOps bk (c :: q) rem acc = none := by
  unfold readOps
  rw [List.length_cons, opsL_cons]
  rw [if_neg hc, if_pos h]
  simp
theorem ops_insert (hc : ¬ 128 ≤ c) (h0 : c ≠ 0) (h1 : c ≤ rem) (h2 : c ≤ q.length) : readOps bk (c :: q) rem acc = readOps bk (q.drop c.toNat) (rem - c) (acc ++ q.take c.toNat) := by
  conv => lhs; unfold readOps
  rw [List.length_cons, opsL_cons]
  rw [if_neg hc, if_neg h0, if_neg (by omega), readOps_of bk (by rw [List.length_drop]; omega)]
end
end Mine
open PySem PySem.W PyProof.Rows PySem.Calls PySem.Spec
namespace Mine
set_option maxRecDepth 100000
section
variable {prog : Program} {w : World} {A : Around} {E : Value → Shared → Prop} {Q : Flow → Shared → Prop} {s : Shared} {env : Env} {h₀ : Heap} {L : Addr}
/-- what both ways of an if leave: the name x holds v -/
noncomputable def CutPost (h₀ : Heap) (L : Addr) (news : List (Addr × Obj)) (x : Str) (v : Int) (m₀ : Str → Option Value) (s : Shared) (f : Flow) (s₂ : Shared) : Prop :=
  ∃ h' tk m' t, f = .next ∧ s₂ = { s with heap := h', toks := tk } ∧ Fr h₀ L h' m' ∧ News h₀ L h' news ∧ m' x = some (.int v t) ∧ (∀ z, z ≠ x → m' z = m₀ z)
theorem cut_if {stmt : Stmt} {news : List (Addr × Obj)} {m₀ : Str → Option Value} (x : Str) (v : Int) (_F : Fr h₀ L s.heap m₀) (_N : News h₀ L s.heap news)
    (hIf : wpAny (model prog w) A (exec stmt env) (CutPost h₀ L news x v m₀ s) E s)
    (hrest : ∀ (u : Str → Option Value) h tk t, Fr h₀ L h (kstB (fun z => if [x].contains z then u z else m₀ z) [(x, .int v t)]) → News h₀ L h news → Q .next { s with heap := h, toks := tk }) :
    wpAny (model prog w) A (exec stmt env) Q E s := by
  refine wpAny_mono hIf (fun f s₂ h => ?_) fun _ _ z => z
  obtain ⟨h', tk, m', t, rfl, rfl, F2, N2, a1, a2⟩ := h
  refine hrest m' h' tk t (ksw_fr ?_ ?_ F2) N2
  · intro p hp
    rw [List.mem_singleton.mp hp]; exact a1
  · intro z hz _
    exact a2 z (hz _ (List.mem_singleton.mpr rfl))
theorem cut_end {news : List (Addr × Obj)} {m₀ m' : Str → Option Value} {x : Str} {v v' : Int} {t : Tok} {h' : Heap} {tk : Nat} (F2 : Fr h₀ L h' m') (N2 : News h₀ L h' news) (a1 : m' x = some (.int v' t)) (e : v' = v) (a2 : ∀ z, z ≠ x → m' z = m₀ z) :
    CutPost h₀ L news x v m₀ s .next { s with heap := h', toks := tk } := ⟨h', tk, m', t, rfl, rfl, F2, N2, e ▸ a1, a2⟩
end
theorem copySz_bd {sz : Int} (h0 : 0 ≤ sz) (h1 : sz ≤ 16777215) : 1 ≤ copySz sz ∧ copySz sz ≤ 16777215 := by unfold copySz; split <;> omega
end Mine
open PySem PySem.W PyProof.Rows PySem.Calls PySem.Spec
namespace Mine
set_option maxRecDepth 100000
section
variable {M : Model} {A : Around} {E : Value → Shared → Prop} {s : Shared} {h₀ : Heap} {L a : Addr} {m : Str → Option Value} {cn : Str} {cs : Scope} {ccd : Value} {cl : List (Str × Addr)} {x : Str} {Q : Unit → Shared → Prop} {news : List (Addr × Obj)}
/-- a store, with what it reckons of tokens forgotten -/
theorem storeG_L {v : Value} (F : Fr h₀ L s.heap m) (N : News h₀ L s.heap news)
    (h : ∀ h' tk, Fr h₀ L h' (fun y => if y = x then some v else m y) → News h₀ L h' news → Q () { s with heap := h', toks := tk })
    (hk : cs.kind = .function) (hx : (envX cn cs L a ccd cl).kindOf x = some .local) : wpAny M A (storeName (envX cn cs L a ccd cl) x v) Q E s :=
  storeX_L F N (fun h' => h h' (s.toks + 1)) hk hx
theorem storeI_L {n : Int} {t₀ : Tok} (F : Fr h₀ L s.heap m) (N : News h₀ L s.heap news)
    (h : ∀ h' tk t, Fr h₀ L h' (fun y => if y = x then some (.int n t) else m y) → News h₀ L h' news → Q () { s with heap := h', toks := tk })
    (hk : cs.kind = .function) (hx : (envX cn cs L a ccd cl).kindOf x = some .local) : wpAny M A (storeName (envX cn cs L a ccd cl) x (.int n t₀)) Q E s :=
  storeX_L F N (fun h' => h h' (s.toks + 1) t₀) hk hx
theorem storeB_L {b : Array UInt8} {t₀ : Tok} (F : Fr h₀ L s.heap m) (N : News h₀ L s.heap news)
    (h : ∀ h' tk t, Fr h₀ L h' (fun y => if y = x then some (.bytes b t) else m y) → News h₀ L h' news → Q () { s with heap := h', toks := tk })
    (hk : cs.kind = .function) (hx : (envX cn cs L a ccd cl).kindOf x = some .local) : wpAny M A (storeName (envX cn cs L a ccd cl) x (.bytes b t₀)) Q E s :=
  storeX_L F N (fun h' => h h' (s.toks + 1) t₀) hk hx
end
end Mine
open PySem PySem.W PyProof.Rows PySem.Calls PySem.Spec
namespace Mine
set_option maxRecDepth 100000
section
variable {prog : Program} {w : World} {A : Around} {E : Value → Shared → Prop} {Q : Flow → Shared → Prop} {s : Shared} {env : Env} {h₀ : Heap} {L : Addr}
/-- what a statement leaves that lays an int under a name -/
noncomputable def IntPst (h₀ : Heap) (L : Addr) (keep : List (Addr × Obj)) (x : Str) (P : Int → Prop) (m₀ : Str → Option Value) (s : Shared) (f : Flow) (s₂ : Shared) : Prop :=
  ∃ h' tk m' news' v t, f = .next ∧ s₂ = { s with heap := h', toks := tk } ∧ Fr h₀ L h' m' ∧ News h₀ L h' news' ∧ (∀ q ∈ keep, q ∈ news') ∧ P v ∧ m' x = some (.int v t) ∧ (∀ z, z ≠ x → m' z = m₀ z)
theorem cut_int {stmt : Stmt} {m₀ : Str → Option Value} {news : List (Addr × Obj)} (keep : List (Addr × Obj)) (x : Str) (P : Int → Prop) (_F : Fr h₀ L s.heap m₀) (_N : News h₀ L s.heap news) (_hk : ∀ q ∈ keep, q ∈ news)
    (hS : wpAny (model prog w) A (exec stmt env) (IntPst h₀ L keep x P m₀ s) E s)
    (hrest : ∀ (u : Str → Option Value) h tk v t, P v → Fr h₀ L h (kstB (fun z => if [x].contains z then u z else m₀ z) [(x, .int v t)]) → News h₀ L h keep → Q .next { s with heap := h, toks := tk }) :
    wpAny (model prog w) A (exec stmt env) Q E s := by
  refine wpAny_mono hS (fun f s₂ h => ?_) fun _ _ z => z
  obtain ⟨h', tk, m', news', v, t, rfl, rfl, F2, N2, a1, a2, a3, a4⟩ := h
  refine hrest m' h' tk v t a2 (ksw_fr ?_ ?_ F2) (fun q hq => N2 q (a1 q hq))
  · intro p hp
    rw [List.mem_singleton.mp hp]; exact a3
  · intro z hz _
    exact a4 z (hz _ (List.mem_singleton.mpr rfl))
theorem int_pst {keep news' : List (Addr × Obj)} {x : Str} {P : Int → Prop} {m₀ m' : Str → Option Value} {h' : Heap} {tk : Nat} {v : Int} {t : Tok} (F2 : Fr h₀ L h' m') (N2 : News h₀ L h' news') (a1 : ∀ q ∈ keep, q ∈ news') (a3 : m' x = some (.int v t)) (a2 : P v) (a4 : ∀ z, z ≠ x → m' z = m₀ z) :
    IntPst h₀ L keep x P m₀ s .next { s with heap := h', toks := tk } := ⟨_, _, _, _, _, _, rfl, rfl, F2, N2, a1, a2, a3, a4⟩
end
theorem fdiv_bd {x d b : Int} (h0 : 0 ≤ x) (hd : 0 < d) (hb : x < d * (b + 1)) : 0 ≤ x.fdiv d ∧ x.fdiv d ≤ b := by
  rw [Int.fdiv_eq_ediv_of_nonneg _ (Int.le_of_lt hd)]
  have h1 : 0 ≤ x / d := Int.ediv_nonneg h0 (Int.le_of_lt hd)
  have h2 : x / d < b + 1 := Int.ediv_lt_of_lt_mul hd (by rw [Int.mul_comm]; exact hb)
  omega
theorem fdiv_nn {x d : Int} (h0 : 0 ≤ x) (hd : 0 < d) : 0 ≤ x.fdiv d := by
  rw [Int.fdiv_eq_ediv_of_nonneg _ (Int.le_of_lt hd)]
  exact Int.ediv_nonneg h0 (Int.le_of_lt hd)
end Mine
open PySem PySem.W PyProof.Rows PySem.Calls PySem.Spec
namespace Mine
set_option maxRecDepth 100000
theorem fmod_bd (a : Int) {k : Int} (hk : 0 < k) : 0 ≤ a.fmod k ∧ a.fmod k < k := by
  rw [Int.fmod_eq_emod_of_nonneg _ (Int.le_of_lt hk)]
  exact ⟨Int.emod_nonneg _ (by omega), Int.emod_lt_of_pos _ hk⟩
theorem pw_log {c n : Nat} (h1 : 2 ≤ c) (h2 : c ≤ 256) (hn : n ≤ 11) : (((c : Nat) : Int) ^ n).natAbs.log2 < 9000 := by
  rw [Int.natAbs_pow, Int.natAbs_natCast]
  have hp : 0 < c ^ n := Nat.pow_pos (by omega)
  rw [Nat.log2_lt (by omega)]
  have e1 : c ^ n ≤ 256 ^ 11 := Nat.le_trans (Nat.pow_le_pow_left h2 n) (Nat.pow_le_pow_right (by decide) hn)
  have e2 : (256 : Nat) ^ 11 < 2 ^ 9000 := by
    have : (256 : Nat) ^ 11 = 2 ^ 88 := by decide
    rw [this]
    exact Nat.pow_lt_pow_right (by decide) (by decide)
  exact Nat.lt_of_le_of_lt e1 e2
section
variable {prog : Program} {w : World} {A : Around} {s : Shared} {E : Value → Shared → Prop}
/-- // by a power -/
theorem fdiv_pw {a e : Int} {t u : Tok} {Q : Value → Shared → Prop} (c : Int) (h1 : 2 ≤ c) (h2 : c ≤ 256) (he : e ≤ 11) (h : ∀ t' k, Q (.int (a.fdiv (c ^ e.toNat)) t') { s with toks := k }) : wpAny (model prog w) A (binaryOp .FloorDiv (.int a t) (.int (c ^ e.toNat) u)) Q E s := by
  obtain ⟨n, rfl⟩ := Int.eq_ofNat_of_zero_le (show 0 ≤ c by omega)
  exact floordiv_int (Int.pow_ne_zero (by omega)) (h _ _) (Or.inl (PyProof.noPylong_of_log2 (pw_log (by omega) (by omega) (by omega))))
end
end Mine
open PySem PySem.W PyProof.Rows PySem.Calls PySem.Spec
namespace Mine
set_option maxRecDepth 100000
section
variable {prog : Program} {w : World} {A : Around} {E : Value → Shared → Prop} {Q : Flow → Shared → Prop} {s : Shared} {env : Env} {h₀ : Heap} {L : Addr}
noncomputable abbrev whlPs (nm : Str) (c : Int × Tok) : List (Str × Value) := [(nm, .int c.1 c.2)]
/-- a while that turns one int of the frame's -/
theorem int_loop {test : Expr} {body : List Stmt} {pos : Pos} {m₀ : Str → Option Value} {news : List (Addr × Obj)} (nm : Str) (led : List (Addr × Obj)) (P : Int → Prop) (M : Int → Nat) {n0 : Int} {t1 : Tok} (F : Fr h₀ L s.heap m₀) (N : News h₀ L s.heap news) (hled : ∀ q ∈ led, q ∈ news)
    (h1 : m₀ nm = some (.int n0 t1)) (hp : P n0)
    (turn : ∀ n tok (u : Str → Option Value) h tk, P n → Fr h₀ L h (kstB (fun z => if [nm].contains z then u z else m₀ z) [(nm, .int n tok)]) → News h₀ L h led →
      wpAny (model prog w) A (isTrue test env (eval test env)) (fun b s₂ =>
        if b = true then wpAny (model prog w) A (execs body env) (KswPost h₀ L s (fun _ => led) (whlPs nm) (fun _ => True) [nm] m₀ (fun c => P c.1) (fun c => M c.1) Q (n, tok)) E s₂ else Q .next s₂) E { s with heap := h, toks := tk })
    (hE : PassesOwn (model prog w) A env E) :
    wpAny (model prog w) A (exec (.While test body [] pos) env) Q E s := by
  refine ksw_while (fun _ => led) (whlPs nm) (fun _ => True) [nm] (fun c => P c.1) (fun c => M c.1) (n0, t1) F (fun q hq => N _ (hled q hq)) trivial ?_ hp ?_ hE
  · intro p hp; rw [List.mem_singleton.mp hp]; exact h1
  · rintro ⟨n, tok⟩ u h tk hf hp F' N'
    exact turn n tok u h tk hp F' N'
theorem int_end {nm : Str} {led news : List (Addr × Obj)} {P : Int → Prop} {M : Int → Nat} {n n' : Int} {tok t' : Tok} {m₀ m' : Str → Option Value} {h' : Heap} {tk : Nat} (F : Fr h₀ L h' m') (N : News h₀ L h' news) (hled : ∀ q ∈ led, q ∈ news)
    (h1 : m' nm = some (.int n' t')) (hr : ∀ z, z ≠ nm → m' z = m₀ z) (hp : P n') (hlt : M n' < M n) :
    KswEnd h₀ L s (fun _ => led) (whlPs nm) (fun _ => True) [nm] m₀ (fun c => P c.1) (fun c => M c.1) (n, tok) { s with heap := h', toks := tk } := by
  refine ksw_end (n', t') F N hled trivial ?_ (fun z _ h2 => ?_) hp hlt
  · intro p hp; rw [List.mem_singleton.mp hp]; exact h1
  · simp only [List.contains_cons, List.contains_nil, Bool.or_false, beq_eq_false_iff_ne, ne_eq] at h2
    exact hr z h2
noncomputable abbrev celLed (cr : Addr) (led : List (Addr × Obj)) (c : Int × Tok × Obj) : List (Addr × Obj) := (cr, c.2.2) :: led
noncomputable abbrev celFacts (c : Int × Tok × Obj) : Prop := c.2.2.data = .cell (some (.int c.1 c.2.1))
/-- a while that turns one int that lies in a cell -/
theorem cell_loop {test : Expr} {body : List Stmt} {pos : Pos} {m₀ : Str → Option Value} {news : List (Addr × Obj)} (cr : Addr) (led : List (Addr × Obj)) (P : Int → Prop) (M : Int → Nat) {n0 : Int} {t1 : Tok} {oc : Obj} (F : Fr h₀ L s.heap m₀) (N : News h₀ L s.heap news) (hcr : (cr, oc) ∈ news) (hled : ∀ q ∈ led, q ∈ news)
    (h1 : oc.data = .cell (some (.int n0 t1))) (hp : P n0)
    (turn : ∀ n tok oc h tk, P n → oc.data = .cell (some (.int n tok)) → Fr h₀ L h m₀ → News h₀ L h ((cr, oc) :: led) →
      wpAny (model prog w) A (isTrue test env (eval test env)) (fun b s₂ =>
        if b = true then wpAny (model prog w) A (execs body env) (KswPost h₀ L s (celLed cr led) (fun _ => []) celFacts [] m₀ (fun c => P c.1) (fun c => M c.1) Q (n, tok, oc)) E s₂ else Q .next s₂) E { s with heap := h, toks := tk })
    (hE : PassesOwn (model prog w) A env E) :
    wpAny (model prog w) A (exec (.While test body [] pos) env) Q E s := by
  refine ksw_while (celLed cr led) (fun _ => []) celFacts [] (fun c => P c.1) (fun c => M c.1) (n0, t1, oc) F (fun q hq => ?_) h1 (fun p hp => nomatch hp) hp ?_ hE
  · rcases List.mem_cons.mp hq with rfl | hq
    · exact N _ hcr
    · exact N _ (hled q hq)
  · rintro ⟨n, tok, oc⟩ u h tk hf hp F' N'
    exact turn n tok oc h tk hp hf (by simpa [kstB] using F') N'
theorem cell_end {cr : Addr} {led news : List (Addr × Obj)} {P : Int → Prop} {M : Int → Nat} {n n' : Int} {tok t' : Tok} {oc oc' : Obj} {m₀ m' : Str → Option Value} {h' : Heap} {tk : Nat} (F : Fr h₀ L h' m') (N : News h₀ L h' news) (hcr : (cr, oc') ∈ news) (hled : ∀ q ∈ led, q ∈ news)
    (h1 : oc'.data = .cell (some (.int n' t'))) (hr : ∀ z, m' z = m₀ z) (hp : P n') (hlt : M n' < M n) :
    KswEnd h₀ L s (celLed cr led) (fun _ => []) celFacts [] m₀ (fun c => P c.1) (fun c => M c.1) (n, tok, oc) { s with heap := h', toks := tk } := by
  refine ksw_end (n', t', oc') F N (fun q hq => ?_) h1 (fun p hp => nomatch hp) (fun z _ _ => hr z) hp hlt
  rcases List.mem_cons.mp hq with rfl | hq
  · exact hcr
  · exact hled q hq
end
end Mine
end
open PySem PySem.W PyProof.Rows PySem.Calls PySem.Spec
namespace Mine
set_option maxRecDepth 100000
theorem lt_sz {h : Heap} {a : Nat} {o : Obj} (e : h.get? a = some o) : @LT.lt Nat _ a h.objs.size := Heap.lt_size e
theorem nS {S i j : Nat} (h : i ≠ j) : @Ne Addr (S + i) (S + j) := fun e => h (Nat.add_left_cancel e)
theorem nS0 {S i : Nat} (h : i ≠ 0) : @Ne Addr (S + i) S := fun e => h (Nat.add_eq_left.mp e)
theorem nS1 {S i : Nat} (h : i ≠ 0) : @Ne Addr S (S + i) := fun e => h (Nat.add_eq_left.mp e.symm)
theorem bS {S b i : Nat} (h : b < S) : @Ne Addr b (S + i) := fun e => Nat.not_lt_of_le (Nat.le_add_right S i) (e ▸ h)
theorem bS0 {S b : Nat} (h : b < S) : @Ne Addr b S := fun e => Nat.lt_irrefl _ (e ▸ h)
theorem bS1 {S b i : Nat} (h : b < S) : @Ne Addr (S + i) b := (bS h).symm
theorem bS2 {S b : Nat} (h : b < S) : @Ne Addr S b := (bS0 h).symm
theorem ane {a b : Nat} (h : a < b ∨ b < a) : @Ne Addr a b := fun e => by
  have : a = b := e
  omega
/-- what a comprehension over enumerate(xs) with a test of the item yields -/
noncomputable def enumSel (p : Int → Bool) (f : Nat → Int → Int) : Nat → List Int → List Int
  | _, [] => []
  | n, k :: r => if p k then f n k :: enumSel p f (n + 1) r else enumSel p f (n + 1) r
noncomputable def TstPure (b : Bool) (s : Shared) (ok : Bool) (s' : Shared) : Prop := ok = b ∧ ∃ tk, s' = { s with toks := tk }
noncomputable def ElPure (v : Int) (s : Shared) (y : Value) (s' : Shared) : Prop := (∃ t, y = .int v t) ∧ ∃ tk, s' = { s with toks := tk }
/-- what follows the evaluation of enumerate(..) in a comprehension -/
noncomputable def EnumSrc (prog : Program) (w : World) (A : Around) (E : Value → Shared → Prop) (elt iter c : PySem.Expr) (a b : Str) (pa pb tp : Pos) (kk : Nat) (scope : Scope) (cl : List (Str × Addr)) (pos : Pos) (env : Env) (Q : Value → Shared → Prop) (xv : Value) (s₁ : Shared) : Prop :=
  wpAny (model prog w) A (pyIter xv) (fun it s₂ => wpAny (model prog w) A (newList []) (fun acc s₃ => wpAny (model prog w) A (newFunctionEnv scope env.globals cl [] env.qual none .none (some env)) (fun cenv s₄ =>
    codeAny (model prog w) A (.compStart (.ListComp elt [⟨.Tuple [.Name a pa, .Name b pb] kk tp, iter, [c], 0⟩] scope pos) 0 it acc { cenv with scope := relabel scope env }) (compPost (model prog w) A E none Q acc cenv.locals) s₄) E s₃) E s₂) E s₁
section
variable {prog : Program} {w : World} {A : Around} {E : Value → Shared → Prop} {s : Shared} {h₀ : Heap} {L : Addr} {m : Str → Option Value} {env : Env} {news : List (Addr × Obj)}
theorem enum_comp {elt iter c : PySem.Expr} {a b : Str} {pa pb tp : Pos} {kk : Nat} {scope : Scope} {cl : List (Str × Addr)} {pos : Pos} {Q : Value → Shared → Prop}
    (hclos : closureFor scope env = pure cl) (hkind : scope.kind = .function) (hnames : ∀ y ∈ scope.names, y.2 = .local → scope.names.lookup y.1 = some .local)
    (h : wpAny (model prog w) A (eval iter env) (EnumSrc prog w A E elt iter c a b pa pb tp kk scope cl pos env Q) E s)
    (hs : ∀ x, foldedSetIterable iter env x = pure x := by intro _; rfl) :
    wpAny (model prog w) A (eval (.ListComp elt [⟨.Tuple [.Name a pa, .Name b pb] kk tp, iter, [c], 0⟩] scope pos) env) Q E s := by
  rw [eval_ListComp]
  exact wpAny_comprehension_free (use := none) rfl hs hclos hkind hnames h
theorem ints_at {vs : List Value} {xs : List Int} (h : IntsAre vs xs) (i : Nat) {v : Value} (e : vs[i]? = some v) : ∃ k t, xs[i]? = some k ∧ v = .int k t := by
  obtain ⟨k, t, e1, e2⟩ := IntsAre.at h i v e
  exact ⟨k, t, e2, e1⟩
theorem enum_call {elt iter c : PySem.Expr} {a b : Str} {pa pb tp : Pos} {kk : Nat} {scope : Scope} {cl : List (Str × Addr)} {pos : Pos} {Q : Value → Shared → Prop} {l : Addr} {vs : List Value} {xs : List Int} {nn : Nat}
    (p : Int → Bool) (f : Nat → Int → Int) (hh : A.handled = none) (F : Fr h₀ L s.heap m) (N : News h₀ L s.heap news) (hl : (l, listOf vs.toArray nn) ∈ news) (hv : IntsAre vs xs) (hz : xs.length ≤ 100)
    (hcell : ∀ y ∈ scope.names, y.2 ≠ .cell) (hkind : scope.kind = .function) (hxa : scope.names.lookup a = some .local) (hxb : scope.names.lookup b = some .local) (hab : ¬ a = b)
    (tst : ∀ n k t t' C oC m₂ h tk (E' : Value → Shared → Prop), n < xs.length → k ∈ xs → LCg.NsObj oC m₂ → m₂ a = some (.int ((n : Nat) : Int) t) → m₂ b = some (.int k t') → Fr h₀ L h m → News h₀ L h ((C, oC) :: news) →
      wpAny (model prog w) A (isTrue c (compEnvC scope cl C env) (eval c (compEnvC scope cl C env))) (TstPure (p k) { s with heap := h, toks := tk }) E' { s with heap := h, toks := tk })
    (el : ∀ n k t t' C oC m₂ h tk (E' : Value → Shared → Prop), n < xs.length → k ∈ xs → p k = true → LCg.NsObj oC m₂ → m₂ a = some (.int ((n : Nat) : Int) t) → m₂ b = some (.int k t') → Fr h₀ L h m → News h₀ L h ((C, oC) :: news) →
      wpAny (model prog w) A (eval elt (compEnvC scope cl C env)) (ElPure (f n k) { s with heap := h, toks := tk }) E' { s with heap := h, toks := tk })
    (fin : ∀ D ys h tk, IntsAre ys (enumSel p f 0 xs) → Fr h₀ L h m → News h₀ L h ((D, LCg.lst ys) :: news) → (∀ q ∈ news, q.1 < D) → Q (.ref D) { s with heap := h, toks := tk }) :
    wpAny (model prog w) A (call (.type "enumerate") [.ref l]) (EnumSrc prog w A E elt iter c a b pa pb tp kk scope cl pos env Q) E s := by
  have hL : s.heap.IsList l vs.toArray := ⟨_, (N _ hl).1, rfl, _, rfl⟩
  have hlS : @LT.lt Nat _ l s.heap.objs.size := lt_sz (N _ hl).1
  refine call_enumerate_list hL fun h1 hE hI hsz hk1 => ?_
  unfold EnumSrc
  refine wpAny_pyIter_enum hE ?_
  refine wpAny_newObj_type (wpAny_newFunctionEnv hcell (by intro y hy; simp at hy) (fun h₁ hns₁ hsb₁ => ?_) hkind)
  dsimp only at hns₁ hsb₁ ⊢
  generalize hH2 : h1.push { cls := .type "list", dict := none, data := .seq ([] : List Value).toArray } = H2 at hns₁ hsb₁ ⊢
  have hC : H2.objs.size = s.heap.objs.size + 3 := by rw [← hH2, Heap.size_push, hsz]
  have hD : h1.objs.size = s.heap.objs.size + 2 := hsz
  generalize hSn : s.heap.objs.size = S at *
  have old1 : ∀ b o, h1.get? b = some o → h₁.get? b = some o := fun b o e => by
    have hb := lt_sz e
    exact hsb₁.extBut b o (by first | exact nS (by decide) | exact nS0 (by decide) | exact nS1 (by decide) | exact bS (by assumption) | exact bS0 (by assumption) | exact bS1 (by assumption) | exact bS2 (by assumption) | exact ane (by omega)) (Heap.get?_push_of_some _ (hH2 ▸ Heap.get?_push_of_some _ e))
  have hacc : h₁.get? h1.objs.size = some (LCg.lst []) := hsb₁.extBut _ _ (by first | exact nS (by decide) | exact nS0 (by decide) | exact nS1 (by decide) | exact bS (by assumption) | exact bS0 (by assumption) | exact bS1 (by assumption) | exact bS2 (by assumption) | exact ane (by omega)) (Heap.get?_push_of_some _ (hH2 ▸ Heap.get?_push_size _ rfl))
  rw [hC] at hns₁
  rw [hD] at hacc
  have W := KTurns.ofWalksU (elts := [.Name a pa, .Name b pb]) (k := kk) (pos := tp) (WalksT.enumerate (prog := prog) (w := w) (A := A) hh (S + 1) S l (by first | exact nS (by decide) | exact nS0 (by decide) | exact nS1 (by decide) | exact bS (by assumption) | exact bS0 (by assumption) | exact bS1 (by assumption) | exact bS2 (by assumption) | exact ane (by omega)) (by first | exact nS (by decide) | exact nS0 (by decide) | exact nS1 (by decide) | exact bS (by assumption) | exact bS0 (by assumption) | exact bS1 (by assumption) | exact bS2 (by assumption) | exact ane (by omega)) (by first | exact nS (by decide) | exact nS0 (by decide) | exact nS1 (by decide) | exact bS (by assumption) | exact bS0 (by assumption) | exact bS1 (by assumption) | exact bS2 (by assumption) | exact ane (by omega)) vs.toArray).toU
  have hvl := hv.length
  have len : vs.toArray.size = xs.length := by rw [List.size_toArray]; exact hvl
  rw [len] at W
  have fresh₀ : ∀ a : Nat, S ≤ a → h₀.get? a = none := fun a ha => by
    cases e : h₀.get? a with
    | none => rfl
    | some o' => have := lt_sz (F.keep a o' e); omega
  have st1 : (∃ old, IsEnum h₁ (S + 1) S ((0 : Nat) : Int) old) ∧ h₁.IsListIter S l 0 ∧ h₁.IsList l vs.toArray :=
    ⟨⟨_, old1 _ _ hE⟩, hI.at fun o e => old1 _ o e, hL.at fun o e => old1 _ o (hk1 _ o e)⟩
  have loop : ∀ s₃ : Shared, s₃ = { s with heap := h₁, toks := s.toks + ([] : List (Str × Value)).length } →
      codeAny (model prog w) A (.compLoop (.ListComp elt [⟨.Tuple [.Name a pa, .Name b pb] kk tp, iter, [c], 0⟩] scope pos) 0 (.ref (S + 1)) (.ref (S + 2)) (compEnvC scope cl (S + 3) env))
        (compPost (model prog w) A E none Q (.ref (S + 2)) (S + 3)) s₃ := by
    rintro s₃ rfl
    refine kct_loop (fun q s' => ∃ H tk i ys m' acc, s' = { s with heap := H, toks := tk } ∧ i ≤ xs.length ∧ q = xs.length + 1 - i ∧ ys.length ≤ i ∧
        ((∃ old, IsEnum H (S + 1) S ((i : Nat) : Int) old) ∧ H.IsListIter S l i ∧ H.IsList l vs.toArray) ∧ (∀ b o, s.heap.get? b = some o → H.get? b = some o) ∧ H.Ns (S + 3) m' ∧ H.get? (S + 2) = some (LCg.lst ys) ∧
        IntsAre ys acc ∧ acc ++ enumSel p f i (xs.drop i) = enumSel p f 0 xs) ?_ (xs.length + 1)
      ⟨h₁, _, 0, [], _, [], rfl, Nat.zero_le _, rfl, Nat.le_refl _, st1, fun b o e => old1 b o (hk1 b o e), hns₁, hacc, .nil, by rw [List.drop_zero, List.nil_append]⟩
    rintro q s' ⟨H, tk, i, ys, m', acc, rfl, hi, rfl, hyl, hst, hold, hn, hDD, hys, hsum⟩
    by_cases hlt : i < xs.length
    · refine W.item i _ _ _ hlt hst fun v h₂ tk₂ hMd hk₂ => ?_
      refine W.go i v _ _ _ hMd fun h₃ hP hst₃ hk₃ => ?_
      obtain ⟨T, vals, rfl, ⟨t, x, hx, rfl⟩, hT⟩ := hP
      obtain ⟨k, t', hxk, rfl⟩ := ints_at hv i (by simpa using hx)
      have up₃ : ∀ b o, b ≠ S + 1 → b ≠ S → H.get? b = some o → h₃.get? b = some o := fun b o e1 e2 e => hk₃ b o (by simp [e1, e2]) (hk₂ b o (by simp [e1, e2]) e)
      refine kcp_assign (env := compEnvC scope cl (S + 3) env) hh hT (lookup_relabel_local hxa) (lookup_relabel_local hxb) (by simp [compEnvC, relabel, hkind]) (hn.at' fun o e => up₃ _ o (show @Ne Addr (S + 3) (S + 1) by first | exact nS (by decide) | exact nS0 (by decide) | exact nS1 (by decide) | exact bS (by assumption) | exact bS0 (by assumption) | exact bS1 (by assumption) | exact bS2 (by assumption) | exact ane (by omega)) (show @Ne Addr (S + 3) (S) by first | exact nS (by decide) | exact nS0 (by decide) | exact nS1 (by decide) | exact bS (by assumption) | exact bS0 (by assumption) | exact bS1 (by assumption) | exact bS2 (by assumption) | exact ane (by omega)) e) fun h₄ tk₄ hn₄ hs₄ => ?_
      have up : ∀ b o, b ≠ S + 1 → b ≠ S → b ≠ S + 3 → H.get? b = some o → h₄.get? b = some o := fun b o e1 e2 e3 e => hs₄ b o e3 (up₃ b o e1 e2 e)
      have hold₄ : ∀ b o, s.heap.get? b = some o → h₄.get? b = some o := fun b o e => by
        have hb := lt_sz e
        rw [hSn] at hb
        exact up b o (by first | exact nS (by decide) | exact nS0 (by decide) | exact nS1 (by decide) | exact bS (by assumption) | exact bS0 (by assumption) | exact bS1 (by assumption) | exact bS2 (by assumption) | exact ane (by omega)) (by first | exact nS (by decide) | exact nS0 (by decide) | exact nS1 (by decide) | exact bS (by assumption) | exact bS0 (by assumption) | exact bS1 (by assumption) | exact bS2 (by assumption) | exact ane (by omega)) (by first | exact nS (by decide) | exact nS0 (by decide) | exact nS1 (by decide) | exact bS (by assumption) | exact bS0 (by assumption) | exact bS1 (by assumption) | exact bS2 (by assumption) | exact ane (by omega)) (hold b o e)
      have hst₄ : (∃ old, IsEnum h₄ (S + 1) S ((i + 1 : Nat) : Int) old) ∧ h₄.IsListIter S l (i + 1) ∧ h₄.IsList l vs.toArray :=
        W.frame (i + 1) h₃ h₄ hst₃ fun b hb o e => hs₄ b o (by
          have hb' : @Eq Nat b (S + 1) ∨ @Eq Nat b S ∨ @Eq Nat b l := by simpa using hb
          exact ane (a := b) (b := S + 3) (by omega)) e
      have hDD₄ : h₄.get? (S + 2) = some (LCg.lst ys) := up _ _ (by first | exact nS (by decide) | exact nS0 (by decide) | exact nS1 (by decide) | exact bS (by assumption) | exact bS0 (by assumption) | exact bS1 (by assumption) | exact bS2 (by assumption) | exact ane (by omega)) (by first | exact nS (by decide) | exact nS0 (by decide) | exact nS1 (by decide) | exact bS (by assumption) | exact bS0 (by assumption) | exact bS1 (by assumption) | exact bS2 (by assumption) | exact ane (by omega)) (show @Ne Addr (S + 2) (S + 3) by first | exact nS (by decide) | exact nS0 (by decide) | exact nS1 (by decide) | exact bS (by assumption) | exact bS0 (by assumption) | exact bS1 (by assumption) | exact bS2 (by assumption) | exact ane (by omega)) hDD
      obtain ⟨oC, heC, hoC⟩ := LCg.ns_obj hn₄
      have F₄ : Fr h₀ L h₄ m := F.keeps hold₄
      have N₄ : News h₀ L h₄ ((S + 3, oC) :: news) := fun r hr => by
        rcases List.mem_cons.mp hr with rfl | hr
        · exact ⟨heC, ane (by have : @LT.lt Nat _ L _ := F.ns.lt; omega), fresh₀ _ (Nat.le_add_right S 3)⟩
        · exact ⟨hold₄ _ _ (N r hr).1, (N r hr).2⟩
      have hdrop : xs.drop i = k :: xs.drop (i + 1) := by
        rw [List.drop_eq_getElem_cons hlt]
        congr 1
        exact Option.some.inj ((List.getElem?_eq_getElem hlt).symm.trans hxk)
      have hmem : k ∈ xs := List.mem_of_getElem? hxk
      refine wpAny_mono (tst i k t t' (S + 3) oC _ h₄ _ _ hlt hmem hoC (by simp [hab]) (by simp) F₄ N₄) (fun ok s₅ h₅ => ?_) fun _ _ e => e
      obtain ⟨rfl, tk₅, rfl⟩ := h₅
      rw [hdrop] at hsum
      cases hp : p k with
      | false =>
        rw [if_neg (by simp)]
        refine ⟨xs.length + 1 - (i + 1), by omega, h₄, tk₅, i + 1, ys, _, acc, rfl, hlt, rfl, by omega, hst₄, hold₄, hn₄, hDD₄, hys, ?_⟩
        rw [← hsum]
        conv => rhs; unfold enumSel
        rw [if_neg (by simp [hp])]
      | true =>
        rw [if_pos rfl]
        refine wpAny_mono (el i k t t' (S + 3) oC _ h₄ _ _ hlt hmem hp hoC (by simp [hab]) (by simp) F₄ N₄) (fun y s₆ h₆ => ?_) fun _ _ e => e
        obtain ⟨⟨ty, rfl⟩, tk₆, rfl⟩ := h₆
        refine append_at (hsz := by show ys.toArray.size ≤ sizeLine; rw [List.size_toArray, sizeLine_eq]; omega) hDD₄ fun h₆ hs₆ hD₆ => ?_
        have up₆ : ∀ b o, b ≠ S + 2 → h₄.get? b = some o → h₆.get? b = some o := fun b o e1 e => hs₆.extBut b o e1 e
        refine ⟨xs.length + 1 - (i + 1), by omega, h₆, _, i + 1, ys ++ [.int (f i k) ty], _, acc ++ [f i k], rfl, hlt, rfl, by rw [List.length_append, List.length_singleton]; omega, ?_, fun b o e => ?_, hn₄.sameBut hs₆ (show @Ne Addr (S + 3) (S + 2) by first | exact nS (by decide) | exact nS0 (by decide) | exact nS1 (by decide) | exact bS (by assumption) | exact bS0 (by assumption) | exact bS1 (by assumption) | exact bS2 (by assumption) | exact ane (by omega)), hD₆.trans (congrArg some (LCg.lst_snoc ys _)), IntsAre.append hys (.cons _ _ .nil), ?_⟩
        · exact W.frame (i + 1) h₄ h₆ hst₄ fun b hb o e => up₆ b o (by
            have hb' : @Eq Nat b (S + 1) ∨ @Eq Nat b S ∨ @Eq Nat b l := by simpa using hb
            exact ane (by show @LT.lt Nat _ b _ ∨ @LT.lt Nat _ _ b; omega)) e
        · have hb := lt_sz e
          rw [hSn] at hb
          exact up₆ b o (by first | exact nS (by decide) | exact nS0 (by decide) | exact nS1 (by decide) | exact bS (by assumption) | exact bS0 (by assumption) | exact bS1 (by assumption) | exact bS2 (by assumption) | exact ane (by omega)) (hold₄ b o e)
        · rw [← hsum]
          conv => rhs; unfold enumSel
          rw [if_pos hp, List.append_assoc]; rfl
    · have hin : i = xs.length := by omega
      subst hin
      refine W.done _ _ _ hst fun h₂ tk₂ hk₂ => ?_
      have up₂ : ∀ b o, b ≠ S + 1 → b ≠ S → H.get? b = some o → h₂.get? b = some o := fun b o e1 e2 e => hk₂ b o (by simp [e1, e2]) e
      refine ⟨m', hn.at' fun o e => up₂ _ o (by first | exact nS (by decide) | exact nS0 (by decide) | exact nS1 (by decide) | exact bS (by assumption) | exact bS0 (by assumption) | exact bS1 (by assumption) | exact bS2 (by assumption) | exact ane (by omega)) (by first | exact nS (by decide) | exact nS0 (by decide) | exact nS1 (by decide) | exact bS (by assumption) | exact bS0 (by assumption) | exact bS1 (by assumption) | exact bS2 (by assumption) | exact ane (by omega)) e, fun h'' hs'' => ?_⟩
      have hold₂ : ∀ b o, s.heap.get? b = some o → h''.get? b = some o := fun b o e => by
        have hb := lt_sz e
        rw [hSn] at hb
        exact hs''.extBut b o (by first | exact nS (by decide) | exact nS0 (by decide) | exact nS1 (by decide) | exact bS (by assumption) | exact bS0 (by assumption) | exact bS1 (by assumption) | exact bS2 (by assumption) | exact ane (by omega)) (up₂ b o (by first | exact nS (by decide) | exact nS0 (by decide) | exact nS1 (by decide) | exact bS (by assumption) | exact bS0 (by assumption) | exact bS1 (by assumption) | exact bS2 (by assumption) | exact ane (by omega)) (by first | exact nS (by decide) | exact nS0 (by decide) | exact nS1 (by decide) | exact bS (by assumption) | exact bS0 (by assumption) | exact bS1 (by assumption) | exact bS2 (by assumption) | exact ane (by omega)) (hold b o e))
      have hys' : IntsAre ys (enumSel p f 0 xs) := by
        rw [← hsum, List.drop_length]
        simpa [enumSel] using hys
      refine fin (S + 2) ys h'' tk₂ hys' (F.keeps hold₂) (fun r hr => ?_) fun r hr => ?_
      · rcases List.mem_cons.mp hr with rfl | hr
        · exact ⟨hs''.extBut _ _ (by first | exact nS (by decide) | exact nS0 (by decide) | exact nS1 (by decide) | exact bS (by assumption) | exact bS0 (by assumption) | exact bS1 (by assumption) | exact bS2 (by assumption) | exact ane (by omega)) (up₂ _ _ (by first | exact nS (by decide) | exact nS0 (by decide) | exact nS1 (by decide) | exact bS (by assumption) | exact bS0 (by assumption) | exact bS1 (by assumption) | exact bS2 (by assumption) | exact ane (by omega)) (by first | exact nS (by decide) | exact nS0 (by decide) | exact nS1 (by decide) | exact bS (by assumption) | exact bS0 (by assumption) | exact bS1 (by assumption) | exact bS2 (by assumption) | exact ane (by omega)) hDD), ane (by have : @LT.lt Nat _ L _ := F.ns.lt; omega), fresh₀ _ (Nat.le_add_right S 2)⟩
        · exact ⟨hold₂ _ _ (N r hr).1, (N r hr).2⟩
      · have := lt_sz (N r hr).1
        rw [hSn] at this
        show @LT.lt Nat _ r.1 (S + 2)
        omega
  rw [hD]
  have key := codeAny_compStart_list (loop _ rfl) (wpAny_pyIter_enum (old1 _ _ hE) (loop _ rfl))
  rw [← hC] at key
  exact key
end
end Mine
section
local macro_rules | `(tactic| omega) => `(tactic| lia)
open PySem PySem.W PyProof.Rows PySem.Calls PySem.Spec
namespace Mine
set_option maxRecDepth 100000
/-- a row: a copy (start, size) or octets put in -/
inductive Row
  | copy (st sz : Int)
  | ins (ks : List Int)
noncomputable abbrev bitP (c : Int) (k : Int) : Bool := decide ((c.fdiv (2 ^ k.toNat)).fmod 2 = 1)
noncomputable abbrev bitsL (c : Int) : List Int := (rangeKs 0 7).filter (bitP c)
noncomputable def startL (c : Int) (q : List Int) : Int := (enumSel (fun k => decide (k < 4)) (fun n k => q.getD n 0 * 256 ^ k.toNat) 0 (bitsL c)).sum
noncomputable def sizL (c : Int) (q : List Int) : Int := (enumSel (fun k => decide (3 < k)) (fun n k => q.getD n 0 * 256 ^ (k - 4).toNat) 0 (bitsL c)).sum
noncomputable def greatSz (n : Int) : Int := if 0 < n then n else 65536
noncomputable def rowsF : Nat → List Int → Option (List Row)
  | 0, _ => none
  | n + 1, r => match r with
    | [] => some []
    | c :: q =>
      if 128 ≤ c then
        if q.length < (bitsL c).length then none else (rowsF n (q.drop (bitsL c).length)).map (Row.copy (startL c q) (greatSz (sizL c q)) :: ·)
      else if c = 0 ∨ (q.length : Int) < c then none
      else (rowsF n (q.drop c.toNat)).map (Row.ins (q.take c.toNat) :: ·)
theorem rowsF_cons (n : Nat) (c : Int) (q : List Int) : rowsF (n + 1) (c :: q) =
    if 128 ≤ c then
      if q.length < (bitsL c).length then none else (rowsF n (q.drop (bitsL c).length)).map (Row.copy (startL c q) (greatSz (sizL c q)) :: ·)
    else if c = 0 ∨ (q.length : Int) < c then none
    else (rowsF n (q.drop c.toNat)).map (Row.ins (q.take c.toNat) :: ·) := rfl
theorem rowsF_fuel : ∀ (n m : Nat) (r : List Int), r.length < n → r.length < m → rowsF n r = rowsF m r
  | 0, _, _, h, _ => absurd h (Nat.not_lt_zero _)
  | _, 0, _, _, h => absurd h (Nat.not_lt_zero _)
  | n + 1, m + 1, [], _, _ => rfl
  | n + 1, m + 1, c :: q, hn, hm => by
    simp only [List.length_cons] at hn hm
    have hd : ∀ k : Nat, rowsF n (q.drop k) = rowsF m (q.drop k) := fun k => rowsF_fuel n m _ (by rw [List.length_drop]; omega) (by rw [List.length_drop]; omega)
    rw [rowsF_cons, rowsF_cons, hd, hd]
noncomputable def readRows (r : List Int) : Option (List Row) := rowsF (r.length + 1) r
theorem readRows_of {n : Nat} {r : List Int} (h : r.length < n) : rowsF n r = readRows r := rowsF_fuel _ _ _ h (Nat.lt_succ_self _)
section
variable {c : Int} {q : List Int}
theorem rows_short (h : 128 ≤ c) (h1 : q.length < (bitsL c).length) : readRows (c :: q) = none := by
  unfold readRows; rw [List.length_cons, rowsF_cons, if_pos h, if_pos h1]
theorem rows_copy (h : 128 ≤ c) (h1 : ¬ q.length < (bitsL c).length) : readRows (c :: q) = (readRows (q.drop (bitsL c).length)).map (Row.copy (startL c q) (greatSz (sizL c q)) :: ·) := by
  rw [← readRows_of (n := q.length + 1) (r := q.drop _) (by rw [List.length_drop]; omega +splitDisjunctions)]
  unfold readRows; rw [List.length_cons, rowsF_cons, if_pos h, if_neg h1]
theorem rows_bad (h : ¬ 128 ≤ c) (h1 : c = 0 ∨ (q.length : Int) < c) : readRows (c :: q) = none := by
  unfold readRows; rw [List.length_cons, rowsF_cons, if_neg h, if_pos h1]
theorem rows_ins (h : ¬ 128 ≤ c) (h0 : c ≠ 0) (h1 : ¬ (q.length : Int) < c) : readRows (c :: q) = (readRows (q.drop c.toNat)).map (Row.ins (q.take c.toNat) :: ·) := by
  rw [← readRows_of (n := q.length + 1) (r := q.drop _) (by rw [List.length_drop]; omega)]
  unfold readRows; rw [List.length_cons, rowsF_cons, if_neg h, if_neg (by omega)]
end
/-- values that are rows: bytes, and pairs that stand on the ledger -/
inductive RowsAre (tn : List (Addr × Obj)) : List Value → List Row → Prop
  | nil : RowsAre tn [] []
  | ins {b : Array UInt8} {t : Tok} {ks : List Int} {vs : List Value} {rs : List Row} : KBw.bInts b = ks → RowsAre tn vs rs → RowsAre tn (.bytes b t :: vs) (.ins ks :: rs)
  | copy {a : Addr} {st sz : Int} {t1 t2 : Tok} {vs : List Value} {rs : List Row} : (a, ({ cls := .type "tuple", data := .seq #[.int st t1, .int sz t2] } : Obj)) ∈ tn → RowsAre tn vs rs → RowsAre tn (.ref a :: vs) (.copy st sz :: rs)
theorem RowsAre.length {tn : List (Addr × Obj)} {vs : List Value} {rs : List Row} (h : RowsAre tn vs rs) : vs.length = rs.length := by
  induction h with
  | nil => rfl
  | ins _ _ ih => rw [List.length_cons, List.length_cons, ih]
  | copy _ _ ih => rw [List.length_cons, List.length_cons, ih]
theorem RowsAre.mono {tn tn' : List (Addr × Obj)} {vs : List Value} {rs : List Row} (h : RowsAre tn vs rs) (hs : ∀ q ∈ tn, q ∈ tn') : RowsAre tn' vs rs := by
  induction h with
  | nil => exact .nil
  | ins e _ ih => exact .ins e ih
  | copy e _ ih => exact .copy (hs _ e) ih
theorem RowsAre.append {tn : List (Addr × Obj)} {vs vs' : List Value} {rs rs' : List Row} (h : RowsAre tn vs rs) (h' : RowsAre tn vs' rs') : RowsAre tn (vs ++ vs') (rs ++ rs') := by
  induction h with
  | nil => exact h'
  | ins e _ ih => exact .ins e ih
  | copy e _ ih => exact .copy e ih
end Mine
open PySem PySem.W PyProof.Rows PySem.Calls PySem.Spec
namespace Mine
set_option maxRecDepth 100000
section
variable {prog : Program} {w : World} {A : Around} {E : Value → Shared → Prop} {Q : Flow → Shared → Prop} {s : Shared} {env : Env} {h₀ : Heap} {L : Addr}
/-- what a statement leaves that lays bytes under a name -/
noncomputable def BytPst (h₀ : Heap) (L : Addr) (keep : List (Addr × Obj)) (x : Str) (P : List Int → Prop) (m₀ : Str → Option Value) (s : Shared) (f : Flow) (s₂ : Shared) : Prop :=
  ∃ h' tk m' news' b ks t, f = .next ∧ s₂ = { s with heap := h', toks := tk } ∧ Fr h₀ L h' m' ∧ News h₀ L h' news' ∧ (∀ q ∈ keep, q ∈ news') ∧ KBw.bInts b = ks ∧ P ks ∧ m' x = some (.bytes b t) ∧ (∀ z, z ≠ x → m' z = m₀ z)
theorem cut_byt {stmt : Stmt} {m₀ : Str → Option Value} {news : List (Addr × Obj)} (keep : List (Addr × Obj)) (x : Str) (P : List Int → Prop) (_F : Fr h₀ L s.heap m₀) (_N : News h₀ L s.heap news) (_hk : ∀ q ∈ keep, q ∈ news)
    (hS : wpAny (model prog w) A (exec stmt env) (BytPst h₀ L keep x P m₀ s) E s)
    (hrest : ∀ (u : Str → Option Value) h tk b ks t, KBw.bInts b = ks → P ks → Fr h₀ L h (kstB (fun z => if [x].contains z then u z else m₀ z) [(x, .bytes b t)]) → News h₀ L h keep → Q .next { s with heap := h, toks := tk }) :
    wpAny (model prog w) A (exec stmt env) Q E s := by
  refine wpAny_mono hS (fun f s₂ h => ?_) fun _ _ z => z
  obtain ⟨h', tk, m', news', b, ks, t, rfl, rfl, F2, N2, a1, ab, a2, a3, a4⟩ := h
  refine hrest m' h' tk b ks t ab a2 (ksw_fr ?_ ?_ F2) (fun q hq => N2 q (a1 q hq))
  · intro p hp
    rw [List.mem_singleton.mp hp]; exact a3
  · intro z hz _
    exact a4 z (hz _ (List.mem_singleton.mpr rfl))
theorem byt_pst {keep news' : List (Addr × Obj)} {x : Str} {P : List Int → Prop} {m₀ m' : Str → Option Value} {h' : Heap} {tk : Nat} {b : Array UInt8} {ks : List Int} {t : Tok} (F2 : Fr h₀ L h' m') (N2 : News h₀ L h' news') (a1 : ∀ q ∈ keep, q ∈ news') (a3 : m' x = some (.bytes b t)) (ab : KBw.bInts b = ks) (a2 : P ks) (a4 : ∀ z, z ≠ x → m' z = m₀ z) :
    BytPst h₀ L keep x P m₀ s .next { s with heap := h', toks := tk } := ⟨_, _, _, _, _, _, _, rfl, rfl, F2, N2, a1, ab, a2, a3, a4⟩
end
/-- how many octets are 128 or more -/
noncomputable def hiN (ks : List Int) : Nat := ks.countP fun k => decide (128 ≤ k)
theorem hiN_app (a b : List Int) : hiN (a ++ b) = hiN a + hiN b := List.countP_append
theorem hiN_take (a : List Int) (n : Nat) : hiN (a.take n) ≤ hiN a := List.Sublist.countP_le (List.take_sublist _ _)
theorem hiN_drop (a : List Int) (n : Nat) : hiN (a.drop n) ≤ hiN a := List.Sublist.countP_le (List.drop_sublist _ _)
theorem hiN_len (a : List Int) : hiN a ≤ a.length := List.countP_le_length
theorem hiN_low {a : List Int} (h : ∀ k ∈ a, k < 128) : hiN a = 0 := List.countP_eq_zero.mpr fun k hk => by have := h k hk; simp; omega
end Mine
open PySem PySem.W PyProof.Rows PySem.Calls PySem.Spec
namespace Mine
set_option maxRecDepth 100000
theorem nws_sub {g h : Heap} {L : Addr} {n n' : List (Addr × Obj)} (N : News g L h n) (hs : ∀ q ∈ n', q ∈ n) : News g L h n' := fun q hq => N q (hs q hq)
section
variable {prog : Program} {w : World} {A : Around} {E : Value → Shared → Prop} {s : Shared} {env : Env} {h₀ : Heap} {L : Addr} {m : Str → Option Value} {news : List (Addr × Obj)}
/-- a store into a cell; keep: what of the ledger is kept -/
theorem store_cell {Q : Unit → Shared → Prop} {x : Str} {v : Value} {c : Addr} {o : Obj} {v0 : Option Value} (keep : List (Addr × Obj)) (F : Fr h₀ L s.heap m) (N : News h₀ L s.heap news) (hm : (c, o) ∈ news) (hd : o.data = .cell v0) (hk : ∀ q ∈ keep, q ∈ news ∧ q.1 ≠ c)
    (h : ∀ h' tk o', Fr h₀ L h' m → News h₀ L h' ((c, o') :: keep) → o'.data = .cell (some v) → Q () { s with heap := h', toks := tk })
    (hkind : env.scope.kind = .function) (hl : env.kindOf x = some .cell) (hc : env.cells.lookup x = some c) : wpAny (model prog w) A (storeName env x v) Q E s := by
  refine wpAny_storeName_cell hkind hl hc ⟨o, (N _ hm).1, hd⟩ fun h' hc' hs => ?_
  obtain ⟨o', e1, e2⟩ := hc'
  refine h h' s.toks o' (F.change hs (N _ hm).2.1 (N _ hm).2.2) (fun q hq => ?_) e2
  rcases List.mem_cons.mp hq with rfl | hq
  · exact ⟨e1, (N _ hm).2⟩
  · exact ⟨hs.extBut _ _ (hk q hq).2 (N q (hk q hq).1).1, (N q (hk q hq).1).2⟩
theorem append_led {Q : Value → Shared → Prop} {lo : Addr} {vs : List Value} {n : Nat} {x : Value} (keep : List (Addr × Obj)) (F : Fr h₀ L s.heap m) (N : News h₀ L s.heap news) (hm : (lo, listOf vs.toArray n) ∈ news) (hk : ∀ q ∈ keep, q ∈ news ∧ q.1 ≠ lo)
    (h : ∀ h', Fr h₀ L h' m → News h₀ L h' ((lo, listOf (List.toArray (vs ++ [x])) (n + 1)) :: keep) → Q .none { s with heap := h' }) (hsz : vs.length ≤ sizeLine) :
    wpAny (model prog w) A (call (.builtin "list.append") [.ref lo, x]) Q E s := by
  refine append_at (hsz := by rw [List.size_toArray]; exact hsz) (N _ hm).1 fun h' hs ho => h h' (F.change hs (N _ hm).2.1 (N _ hm).2.2) fun q hq => ?_
  rcases List.mem_cons.mp hq with rfl | hq
  · refine ⟨?_, (N _ hm).2⟩
    rw [List.push_toArray] at ho
    exact ho
  · exact ⟨hs.extBut _ _ (hk q hq).2 (N q (hk q hq).1).1, (N q (hk q hq).1).2⟩
noncomputable abbrev RowsS := Array UInt8 × Tok × Obj × Obj × List Value × List Row × Nat × List (Addr × Obj)
noncomputable abbrev rowsLed (c1 c2 lo : Addr) (c : RowsS) : List (Addr × Obj) := (c1, c.2.2.1) :: (c2, c.2.2.2.1) :: (lo, listOf c.2.2.2.2.1.toArray c.2.2.2.2.2.2.1) :: c.2.2.2.2.2.2.2
noncomputable abbrev rowsApart (c1 c2 lo : Addr) (tn : List (Addr × Obj)) : Prop := ∀ q ∈ tn, q.1 ≠ c1 ∧ q.1 ≠ c2 ∧ q.1 ≠ lo
noncomputable abbrev rowsFacts (c1 c2 lo : Addr) (c : RowsS) : Prop := c.2.2.1.data = .cell (some (.bytes c.1 c.2.1)) ∧ (∃ v, c.2.2.2.1.data = .cell v) ∧ RowsAre c.2.2.2.2.2.2.2 c.2.2.2.2.1 c.2.2.2.2.2.1 ∧ rowsApart c1 c2 lo c.2.2.2.2.2.2.2
noncomputable abbrev rowsStored : List Str := [Str.ofString "shown", Str.ofString "start", Str.ofString "size"]
theorem kst_rows {u m : Str → Option Value} {z : Str} (a1 : z ≠ Str.ofString "shown") (a2 : z ≠ Str.ofString "start") (a3 : z ≠ Str.ofString "size") :
    kstB (fun z => if rowsStored.contains z then u z else m z) [] z = m z := by
  simp [kstB, rowsStored, a1, a2, a3]
noncomputable def rowsInv (dk r : List Int) (rs : List Row) : Prop := readRows dk = (readRows r).map (rs ++ ·) ∧ rs.length + r.length ≤ dk.length
theorem store_code {Q : Unit → Shared → Prop} {x : Str} {v : Value} {c1 c2 lo : Addr} {oc oc2 ol : Obj} {v0 : Option Value} {tn : List (Addr × Obj)} (F : Fr h₀ L s.heap m) (N : News h₀ L s.heap ((c1, oc) :: (c2, oc2) :: (lo, ol) :: tn)) (hd : oc2.data = .cell v0) (hA : rowsApart c1 c2 lo tn) (n12 : c1 ≠ c2) (n2 : c2 ≠ lo)
    (h : ∀ h' tk o', Fr h₀ L h' m → News h₀ L h' ((c1, oc) :: (c2, o') :: (lo, ol) :: tn) → o'.data = .cell (some v) → Q () { s with heap := h', toks := tk })
    (hkind : env.scope.kind = .function) (hl : env.kindOf x = some .cell) (hc : env.cells.lookup x = some c2) : wpAny (model prog w) A (storeName env x v) Q E s :=
  store_cell ((c1, oc) :: (lo, ol) :: tn) F N (.tail _ (.head _)) hd (fmc (⟨.head _, n12⟩) ((fmc (⟨.tail _ (.tail _ (.head _)), Ne.symm n2⟩) (fun q hq => ⟨.tail _ (.tail _ (.tail _ hq)), (hA q hq).2.1⟩))))
    (fun h' tk o' F' N' e => h h' tk o' F' (fun q hq => N' q (by
      rcases List.mem_cons.mp hq with rfl | hq
      · exact .tail _ (.head _)
      rcases List.mem_cons.mp hq with rfl | hq
      · exact .head _
      · exact .tail _ (.tail _ hq))) e) hkind hl hc
theorem store_oct {Q : Unit → Shared → Prop} {x : Str} {v : Value} {c1 c2 lo : Addr} {oc oc2 ol : Obj} {v0 : Option Value} {tn : List (Addr × Obj)} (F : Fr h₀ L s.heap m) (N : News h₀ L s.heap ((c1, oc) :: (c2, oc2) :: (lo, ol) :: tn)) (hd : oc.data = .cell v0) (hA : rowsApart c1 c2 lo tn) (n12 : c1 ≠ c2) (n1 : c1 ≠ lo)
    (h : ∀ h' tk o', Fr h₀ L h' m → News h₀ L h' ((c1, o') :: (c2, oc2) :: (lo, ol) :: tn) → o'.data = .cell (some v) → Q () { s with heap := h', toks := tk })
    (hkind : env.scope.kind = .function) (hl : env.kindOf x = some .cell) (hc : env.cells.lookup x = some c1) : wpAny (model prog w) A (storeName env x v) Q E s :=
  store_cell ((c2, oc2) :: (lo, ol) :: tn) F N (.head _) hd (fmc (⟨.tail _ (.head _), Ne.symm n12⟩) ((fmc (⟨.tail _ (.tail _ (.head _)), Ne.symm n1⟩) (fun q hq => ⟨.tail _ (.tail _ (.tail _ hq)), (hA q hq).1⟩)))) h hkind hl hc
theorem app_row {Q : Value → Shared → Prop} {x : Value} {c1 c2 lo : Addr} {oc oc2 : Obj} {vs : List Value} {nn : Nat} {tn : List (Addr × Obj)} (F : Fr h₀ L s.heap m) (N : News h₀ L s.heap ((c1, oc) :: (c2, oc2) :: (lo, listOf (List.toArray vs) nn) :: tn)) (hA : rowsApart c1 c2 lo tn) (n1 : c1 ≠ lo) (n2 : c2 ≠ lo)
    (h : ∀ h', Fr h₀ L h' m → News h₀ L h' ((c1, oc) :: (c2, oc2) :: (lo, listOf (List.toArray (vs ++ [x])) (nn + 1)) :: tn) → Q .none { s with heap := h' }) (hsz : vs.length ≤ sizeLine) :
    wpAny (model prog w) A (call (.builtin "list.append") [.ref lo, x]) Q E s :=
  append_led ((c1, oc) :: (c2, oc2) :: tn) F N (.tail _ (.tail _ (.head _))) (fmc (⟨.head _, n1⟩) ((fmc (⟨.tail _ (.head _), n2⟩) (fun q hq => ⟨.tail _ (.tail _ (.tail _ hq)), (hA q hq).2.2⟩))))
    (fun h' F' N' => h h' F' (fun q hq => N' q (by
      rcases List.mem_cons.mp hq with rfl | hq
      · exact .tail _ (.head _)
      rcases List.mem_cons.mp hq with rfl | hq
      · exact .tail _ (.tail _ (.head _))
      rcases List.mem_cons.mp hq with rfl | hq
      · exact .head _
      · exact .tail _ (.tail _ (.tail _ hq))))) hsz
theorem apart2 {c1 c2 lo D3 D5 : Addr} {o3 o5 : Obj} {tn : List (Addr × Obj)} (hA : rowsApart c1 c2 lo tn) (a1 : D5 ≠ c1) (a2 : D5 ≠ c2) (a3 : D5 ≠ lo) (b1 : D3 ≠ c1) (b2 : D3 ≠ c2) (b3 : D3 ≠ lo) : rowsApart c1 c2 lo ((D5, o5) :: (D3, o3) :: tn) :=
  fmc (⟨a1, a2, a3⟩) ((fmc (⟨b1, b2, b3⟩) hA))
theorem app_copy {Q : Value → Shared → Prop} {x : Value} {c1 c2 lo D3 D5 : Addr} {oc oc2 o3 o5 : Obj} {vs : List Value} {nn : Nat} {tn : List (Addr × Obj)} (F : Fr h₀ L s.heap m) (N : News h₀ L s.heap news) (m5 : (D5, o5) ∈ news) (m3 : (D3, o3) ∈ news) (m1 : (c1, oc) ∈ news) (m2 : (c2, oc2) ∈ news) (ml : (lo, listOf (List.toArray vs) nn) ∈ news) (mt : ∀ q ∈ tn, q ∈ news)
    (hA : rowsApart c1 c2 lo tn) (n1 : c1 ≠ lo) (n2 : c2 ≠ lo) (a5 : D5 ≠ lo) (a3 : D3 ≠ lo)
    (h : ∀ h', Fr h₀ L h' m → News h₀ L h' ((c1, oc) :: (c2, oc2) :: (lo, listOf (List.toArray (vs ++ [x])) (nn + 1)) :: (D5, o5) :: (D3, o3) :: tn) → Q .none { s with heap := h' }) (hsz : vs.length ≤ sizeLine) :
    wpAny (model prog w) A (call (.builtin "list.append") [.ref lo, x]) Q E s :=
  append_led ((c1, oc) :: (c2, oc2) :: (D5, o5) :: (D3, o3) :: tn) F N ml (fmc (⟨m1, n1⟩) ((fmc (⟨m2, n2⟩) ((fmc (⟨m5, a5⟩) ((fmc (⟨m3, a3⟩) (fun q hq => ⟨mt q hq, (hA q hq).2.2⟩))))))))
    (fun h' F' N' => h h' F' (fun q hq => N' q (by
      rcases List.mem_cons.mp hq with rfl | hq
      · exact .tail _ (.head _)
      rcases List.mem_cons.mp hq with rfl | hq
      · exact .tail _ (.tail _ (.head _))
      rcases List.mem_cons.mp hq with rfl | hq
      · exact .head _
      · exact .tail _ (.tail _ (.tail _ hq))))) hsz
variable {Q : Flow → Shared → Prop}
theorem rows_loop {test : Expr} {body : List Stmt} {pos : Pos} {m₀ : Str → Option Value} (dk : List Int) (c1 c2 lo : Addr) {b0 : Array UInt8} {t0 : Tok} {o1 o2 : Obj} {v2 : Option Value} {n0 : Nat} (F : Fr h₀ L s.heap m₀) (N : News h₀ L s.heap news)
    (hm1 : (c1, o1) ∈ news) (hm2 : (c2, o2) ∈ news) (hml : (lo, listOf #[] n0) ∈ news) (hb : KBw.bInts b0 = dk) (h1 : o1.data = .cell (some (.bytes b0 t0))) (h2 : o2.data = .cell v2)
    (turn : ∀ b t r oc oc2 v2 vs rs nn tn (u : Str → Option Value) h tk, KBw.bInts b = r → oc.data = .cell (some (.bytes b t)) → oc2.data = .cell v2 → RowsAre tn vs rs → rowsApart c1 c2 lo tn → rowsInv dk r rs →
      Fr h₀ L h (kstB (fun z => if rowsStored.contains z then u z else m₀ z) []) → News h₀ L h ((c1, oc) :: (c2, oc2) :: (lo, listOf (List.toArray vs) nn) :: tn) →
      wpAny (model prog w) A (isTrue test env (eval test env)) (fun bb s₂ =>
        if bb = true then wpAny (model prog w) A (execs body env) (KswPost h₀ L s (rowsLed c1 c2 lo) (fun _ => []) (rowsFacts c1 c2 lo) rowsStored m₀ (fun c => rowsInv dk (KBw.bInts c.1) c.2.2.2.2.2.1) (fun c => (KBw.bInts c.1).length) Q (b, t, oc, oc2, vs, rs, nn, tn)) E s₂ else Q .next s₂) E { s with heap := h, toks := tk })
    (hE : PassesOwn (model prog w) A env E) :
    wpAny (model prog w) A (exec (.While test body [] pos) env) Q E s := by
  refine ksw_while (rowsLed c1 c2 lo) (fun _ => []) (rowsFacts c1 c2 lo) rowsStored (fun c => rowsInv dk (KBw.bInts c.1) c.2.2.2.2.2.1) (fun c => (KBw.bInts c.1).length) (b0, t0, o1, o2, [], [], n0, []) F (fun q hq => ?_) ⟨h1, ⟨v2, h2⟩, .nil, fun _ h => nomatch h⟩ (fun p hp => nomatch hp) ?_ ?_ hE
  · rcases List.mem_cons.mp hq with rfl | hq
    · exact N _ hm1
    rcases List.mem_cons.mp hq with rfl | hq
    · exact N _ hm2
    rw [List.mem_singleton.mp hq]; exact N _ hml
  · show rowsInv dk (KBw.bInts b0) []
    rw [hb]
    exact ⟨by cases readRows dk <;> simp, by simp⟩
  · rintro ⟨b, t, oc, oc2, vs, rs, nn, tn⟩ u h tk ⟨f1, ⟨v, f2⟩, f3, f4⟩ hp F' N'
    exact turn b t _ oc oc2 v vs rs nn tn u h tk rfl f1 f2 f3 f4 hp F' N'
theorem rows_end {dk r r' : List Int} {c1 c2 lo : Addr} {b b' : Array UInt8} {t t' : Tok} {oc oc2 oc' oc2' : Obj} {v2 : Option Value} {vs vs' : List Value} {rs rs' : List Row} {nn nn' : Nat} {tn tn' : List (Addr × Obj)} {m₀ m' : Str → Option Value} {h' : Heap} {tk : Nat} (F : Fr h₀ L h' m') (N : News h₀ L h' news)
    (hm1 : (c1, oc') ∈ news) (hm2 : (c2, oc2') ∈ news) (hml : (lo, listOf (List.toArray vs') nn') ∈ news) (hmt : ∀ q ∈ tn', q ∈ news) (h1 : oc'.data = .cell (some (.bytes b' t'))) (h2 : oc2'.data = .cell v2) (hR : RowsAre tn' vs' rs') (hA : rowsApart c1 c2 lo tn')
    (hr : ∀ z : Str, z ≠ Str.ofString "shown" → z ≠ Str.ofString "start" → z ≠ Str.ofString "size" → m' z = m₀ z) (hb : KBw.bInts b = r) (hb' : KBw.bInts b' = r') (hp : rowsInv dk r' rs') (hlt : r'.length < r.length) :
    KswEnd h₀ L s (rowsLed c1 c2 lo) (fun _ => []) (rowsFacts c1 c2 lo) rowsStored m₀ (fun c => rowsInv dk (KBw.bInts c.1) c.2.2.2.2.2.1) (fun c => (KBw.bInts c.1).length) (b, t, oc, oc2, vs, rs, nn, tn) { s with heap := h', toks := tk } := by
  subst hb hb'
  refine ksw_end (b', t', oc', oc2', vs', rs', nn', tn') F N (fun q hq => ?_) ⟨h1, ⟨v2, h2⟩, hR, hA⟩ (fun p hp => nomatch hp) (fun z _ hz => ?_) hp hlt
  · rcases List.mem_cons.mp hq with rfl | hq
    · exact hm1
    rcases List.mem_cons.mp hq with rfl | hq
    · exact hm2
    rcases List.mem_cons.mp hq with rfl | hq
    · exact hml
    · exact hmt q hq
  · simp only [List.contains_cons, List.contains_nil, Bool.or_false, Bool.or_eq_false_iff, beq_eq_false_iff_ne, ne_eq] at hz
    exact hr z hz.1 hz.2.1 hz.2.2
end
section
variable {dk q : List Int} {c : Int} {rs : List Row}
theorem inv_copy (h : rowsInv dk (c :: q) rs) (h1 : 128 ≤ c) (h2 : ¬ q.length < (bitsL c).length) : rowsInv dk (q.drop (bitsL c).length) (rs ++ [Row.copy (startL c q) (greatSz (sizL c q))]) := by
  obtain ⟨e, l⟩ := h
  rw [rows_copy h1 h2] at e
  refine ⟨by rw [e]; cases readRows (q.drop (bitsL c).length) <;> simp, ?_⟩
  rw [List.length_append, List.length_drop, List.length_singleton]
  rw [List.length_cons] at l
  omega +splitDisjunctions
theorem inv_copy2 {g : Int} (h : rowsInv dk (c :: q) rs) (h1 : 128 ≤ c) (h2 : ¬ (q.length : Int) < (bitsL c).length) (e : g = greatSz (sizL c q)) : rowsInv dk (q.drop (((bitsL c).length : Nat) : Int).toNat) (rs ++ [Row.copy (startL c q) g]) := by
  subst e
  rw [Int.toNat_natCast]
  exact inv_copy h h1 (by omega +splitDisjunctions)
theorem great_a {n : Int} (h : 0 < n) : n = greatSz n := by unfold greatSz; rw [if_pos h]
theorem great_b {n : Int} (h : ¬ 0 < n) : 65536 = greatSz n := by unfold greatSz; rw [if_neg h]
theorem inv_ins (h : rowsInv dk (c :: q) rs) (h1 : ¬ 128 ≤ c) (h0 : c ≠ 0) (h2 : ¬ (q.length : Int) < c) : rowsInv dk (q.drop c.toNat) (rs ++ [Row.ins (q.take c.toNat)]) := by
  obtain ⟨e, l⟩ := h
  rw [rows_ins h1 h0 h2] at e
  refine ⟨by rw [e]; cases readRows (q.drop c.toNat) <;> simp, ?_⟩
  rw [List.length_append, List.length_drop, List.length_singleton]
  rw [List.length_cons] at l
  omega
theorem inv_short (h : rowsInv dk (c :: q) rs) (h1 : 128 ≤ c) (h2 : q.length < (bitsL c).length) : readRows dk = none := by
  rw [h.1, rows_short h1 h2]; rfl
theorem inv_bad (h : rowsInv dk (c :: q) rs) (h1 : ¬ 128 ≤ c) (h2 : c = 0 ∨ (q.length : Int) < c) : readRows dk = none := by
  rw [h.1, rows_bad h1 h2]; rfl
theorem inv_done (h : rowsInv dk [] rs) : readRows dk = some rs := by
  rw [h.1]
  show ((rowsF 1 []).map _) = _
  simp [rowsF]
end
end Mine
open PySem PySem.W PyProof.Rows PySem.Calls PySem.Spec
namespace Mine
set_option maxRecDepth 100000
/-- what an element's evaluation leaves -/
noncomputable def RowEnd (h₀ : Heap) (L : Addr) (m : Str → Option Value) (led : List (Addr × Obj)) (P : Value → Prop) (s : Shared) (y : Value) (s' : Shared) : Prop :=
  P y ∧ ∃ h tk, s' = { s with heap := h, toks := tk } ∧ Fr h₀ L h m ∧ News h₀ L h led
theorem row_end {h₀ h : Heap} {L : Addr} {m : Str → Option Value} {led led' : List (Addr × Obj)} {P : Value → Prop} {s : Shared} {y : Value} {tk : Nat} (F : Fr h₀ L h m) (N : News h₀ L h led') (hs : ∀ q ∈ led, q ∈ led') (e : P y) : RowEnd h₀ L m led P s y { s with heap := h, toks := tk } := ⟨e, _, _, rfl, F, fun q hq => N q (hs q hq)⟩
inductive RowVals (G : Row → Value → Prop) : List Row → List Value → Prop
  | nil : RowVals G [] []
  | cons {r : Row} {y : Value} {rs : List Row} {ys : List Value} : G r y → RowVals G rs ys → RowVals G (r :: rs) (y :: ys)
theorem RowVals.snoc {G : Row → Value → Prop} {rs : List Row} {ys : List Value} {r : Row} {y : Value} (h : RowVals G rs ys) (e : G r y) : RowVals G (rs ++ [r]) (ys ++ [y]) := by
  induction h with
  | nil => exact .cons e .nil
  | cons e' _ ih => exact .cons e' ih
/-- one row's value -/
inductive RowIs (tn : List (Addr × Obj)) : Value → Row → Prop
  | ins {b : Array UInt8} {t : Tok} {ks : List Int} : KBw.bInts b = ks → RowIs tn (.bytes b t) (.ins ks)
  | copy {a : Addr} {st sz : Int} {t1 t2 : Tok} : (a, ({ cls := .type "tuple", data := .seq #[.int st t1, .int sz t2] } : Obj)) ∈ tn → RowIs tn (.ref a) (.copy st sz)
theorem RowsAre.at {tn : List (Addr × Obj)} {vs : List Value} {rs : List Row} (h : RowsAre tn vs rs) : ∀ (i : Nat) (v : Value), vs[i]? = some v → ∃ r, rs[i]? = some r ∧ RowIs tn v r := by
  induction h with
  | nil => intro i v e; cases e
  | ins e _ ih =>
    intro i v hv
    cases i with
    | zero => cases hv; exact ⟨_, rfl, .ins e⟩
    | succ i => exact ih i v hv
  | copy e _ ih =>
    intro i v hv
    cases i with
    | zero => cases hv; exact ⟨_, rfl, .copy e⟩
    | succ i => exact ih i v hv
section
variable {prog : Program} {w : World} {A : Around} {h₀ : Heap} {L : Addr} {m : Str → Option Value} {env : Env} {elt : PySem.Expr} {x : Str} {scope : Scope} {cl : List (Str × Addr)} {s : Shared} {S : List (Addr × Obj) → Prop} {Fin : List Value → List (Addr × Obj) → Prop} {news tn : List (Addr × Obj)} {vs : List Value} {rs : List Row}
theorem rows_rest (G : Row → Value → Prop) (hR : RowsAre tn vs rs) (hs : ∀ q ∈ tn, q ∈ news) (hS : S news)
    (turnC : ∀ a st sz t1 t2 I oI C oC D m₂ ys h tk (E' : Value → Shared → Prop), Row.copy st sz ∈ rs → LCg.NsObj oC m₂ → m₂ x = some (.ref a) → Fr h₀ L h m → News h₀ L h ((I, oI) :: (C, oC) :: (D, LCg.lst ys) :: (a, ({ cls := .type "tuple", data := .seq #[.int st t1, .int sz t2] } : Obj)) :: news) →
      wpAny (model prog w) A (eval elt (compEnvC scope cl C env)) (RowEnd h₀ L m ((I, oI) :: (C, oC) :: (D, LCg.lst ys) :: news) (G (.copy st sz)) { s with heap := h, toks := tk }) E' { s with heap := h, toks := tk })
    (turnI : ∀ b t ks I oI C oC D m₂ ys h tk (E' : Value → Shared → Prop), KBw.bInts b = ks → Row.ins ks ∈ rs → LCg.NsObj oC m₂ → m₂ x = some (.bytes b t) → Fr h₀ L h m → News h₀ L h ((I, oI) :: (C, oC) :: (D, LCg.lst ys) :: news) →
      wpAny (model prog w) A (eval elt (compEnvC scope cl C env)) (RowEnd h₀ L m ((I, oI) :: (C, oC) :: (D, LCg.lst ys) :: news) (G (.ins ks)) { s with heap := h, toks := tk }) E' { s with heap := h, toks := tk })
    (fin : ∀ ys, RowVals G rs ys → Fin ys news) : LCg.CompRest prog w A h₀ L m env elt x scope cl s S (fun i v => vs.toArray[i]? = some v) Fin vs.toArray.size 0 [] news := by
  have hl := hR.length
  have key : ∀ (j i : Nat) (ys : List Value), i + j = vs.toArray.size → RowVals G (rs.take i) ys → LCg.CompRest prog w A h₀ L m env elt x scope cl s S (fun i v => vs.toArray[i]? = some v) Fin j i ys news := by
    intro j
    induction j with
    | zero =>
      intro i ys hi hy
      rw [List.size_toArray] at hi
      rw [List.take_of_length_le (by omega)] at hy
      exact LCg.CompRest.zero (fin ys hy)
    | succ j ih =>
      intro i ys hi hy
      refine LCg.CompRest.succ ?_
      intro v I oI C oC D m₂ h tk E' hv hC hx F N off ne
      obtain ⟨r, hr, hI⟩ := hR.at i v (by simpa using hv)
      have step : ∀ (y : Value) (s₂ : Shared), RowEnd h₀ L m ((I, oI) :: (C, oC) :: (D, LCg.lst ys) :: news) (G r) { s with heap := h, toks := tk } y s₂ → LCg.CompEnd h₀ L m { s with heap := h, toks := tk } I oI C oC D (LCg.lst ys) S (fun y news' => LCg.CompRest prog w A h₀ L m env elt x scope cl s S (fun i v => vs.toArray[i]? = some v) Fin j (i + 1) (ys ++ [y]) news') y s₂ := by
        rintro y s₂ ⟨hG, h', tk', rfl, F', N'⟩
        refine ⟨h', tk', news, rfl, F', N', off, hS, ih (i + 1) _ (by omega) ?_⟩
        rw [List.take_add_one, hr]
        exact hy.snoc hG
      cases hI with
      | ins e => exact wpAny_mono (turnI _ _ _ I oI C oC D m₂ ys h tk E' e (List.mem_of_getElem? hr) hC hx F N) (fun y s₂ hq => step y s₂ hq) fun _ _ e => e
      | @copy a st sz t1 t2 e =>
        refine wpAny_mono (turnC a st sz t1 t2 I oI C oC D m₂ ys h tk E' (List.mem_of_getElem? hr) hC hx F (fun q hq => ?_)) (fun y s₂ hq => step y s₂ hq) fun _ _ e => e
        rcases List.mem_cons.mp hq with rfl | hq
        · exact N _ (.head _)
        rcases List.mem_cons.mp hq with rfl | hq
        · exact N _ (.tail _ (.head _))
        rcases List.mem_cons.mp hq with rfl | hq
        · exact N _ (.tail _ (.tail _ (.head _)))
        rcases List.mem_cons.mp hq with rfl | hq
        · exact N _ (.tail _ (.tail _ (.tail _ (hs _ e))))
        · exact N _ (.tail _ (.tail _ (.tail _ hq)))
  exact key _ 0 [] (Nat.zero_add _) (by rw [List.take_zero]; exact .nil)
end
/-- rows as the reader yields them -/
noncomputable def RowsPos (rs : List Row) : Prop := ∀ st sz, Row.copy st sz ∈ rs → 0 ≤ st ∧ 1 ≤ sz
noncomputable def rowPiece (bk : List Int) : Row → List Int
  | .copy st sz => cut bk st (st + sz)
  | .ins ks => ks
noncomputable def rowSz : Row → Int
  | .copy _ sz => sz
  | .ins ks => ks.length
noncomputable def rowSound (bk : List Int) : Row → Bool
  | .copy st sz => decide (st + sz ≤ bk.length)
  | .ins _ => true
noncomputable def PieceV (bk : List Int) (r : Row) (y : Value) : Prop := ∃ b t, y = .bytes b t ∧ KBw.bInts b = rowPiece bk r
noncomputable def SzV (r : Row) (y : Value) : Prop := ∃ t, y = .int (rowSz r) t
noncomputable def SoundV (bk : List Int) (r : Row) (y : Value) : Prop := y = .bool (rowSound bk r)
theorem piece_copy {bk : List Int} {p : Array UInt8} {t : Tok} {st sz : Int} (hp : KBw.bInts p = (bk.drop (clipAt bk.length st)).take (clipAt bk.length (st + sz) - clipAt bk.length st)) (h : 0 ≤ st ∧ 1 ≤ sz) : PieceV bk (.copy st sz) (.bytes p t) := ⟨p, t, rfl, hp.trans (cut_clip bk h.1 (by omega))⟩
theorem piece_ins {bk ks : List Int} {p : Array UInt8} {t : Tok} (hp : KBw.bInts p = ks) : PieceV bk (.ins ks) (.bytes p t) := ⟨p, t, rfl, hp⟩
theorem pieces_are {bk : List Int} {rs : List Row} {ys : List Value} (h : RowVals (PieceV bk) rs ys) : BytesAre ys (rs.map (rowPiece bk)) := by
  induction h with
  | nil => exact .nil
  | cons e _ ih =>
    obtain ⟨b, t, rfl, e⟩ := e
    exact .cons e ih
theorem szs_are {rs : List Row} {ys : List Value} (h : RowVals SzV rs ys) : IntsAre ys (rs.map rowSz) := by
  induction h with
  | nil => exact .nil
  | cons e _ ih =>
    obtain ⟨t, rfl⟩ := e
    exact .cons _ _ ih
theorem sounds_are {bk : List Int} {rs : List Row} {ys : List Value} (h : RowVals (SoundV bk) rs ys) : ys = (rs.map (rowSound bk)).map Value.bool := by
  induction h with
  | nil => rfl
  | cons e _ ih => rw [List.map_cons, List.map_cons, ih, e]
end Mine
open PySem PySem.W PyProof.Rows PySem.Calls PySem.Spec
namespace Mine
set_option maxRecDepth 100000
section
variable {prog : Program} {w : World} {A : Around} {E : Value → Shared → Prop} {s : Shared} {env : Env} {h₀ : Heap} {L : Addr} {news : List (Addr × Obj)}
/-- an expression whose ways meet -/
theorem cut_val {e : PySem.Expr} {m₀ : Str → Option Value} {QV : Value → Shared → Prop} (keep : List (Addr × Obj)) (P : Value → Prop) (_F : Fr h₀ L s.heap m₀) (_N : News h₀ L s.heap news) (_hk : ∀ q ∈ keep, q ∈ news)
    (hS : wpAny (model prog w) A (eval e env) (RowEnd h₀ L m₀ keep P s) E s)
    (hrest : ∀ v h tk, P v → Fr h₀ L h m₀ → News h₀ L h keep → QV v { s with heap := h, toks := tk }) :
    wpAny (model prog w) A (eval e env) QV E s := by
  refine wpAny_mono hS (fun v s₂ z => ?_) fun _ _ z => z
  obtain ⟨hp, h, tk, rfl, F2, N2⟩ := z
  exact hrest v h tk hp F2 N2
/-- what a test leaves -/
noncomputable def BoolEnd (h₀ : Heap) (L : Addr) (m : Str → Option Value) (led : List (Addr × Obj)) (P : Bool → Prop) (s : Shared) (y : Bool) (s' : Shared) : Prop :=
  P y ∧ ∃ h tk, s' = { s with heap := h, toks := tk } ∧ Fr h₀ L h m ∧ News h₀ L h led
theorem bool_end {h : Heap} {m : Str → Option Value} {led led' : List (Addr × Obj)} {P : Bool → Prop} {y : Bool} {tk : Nat} (F : Fr h₀ L h m) (N : News h₀ L h led') (hs : ∀ q ∈ led, q ∈ led') (e : P y) : BoolEnd h₀ L m led P s y { s with heap := h, toks := tk } := ⟨e, _, _, rfl, F, fun q hq => N q (hs q hq)⟩
/-- a test whose ways meet -/
theorem cut_bool {e : PySem.Expr} {m₀ : Str → Option Value} {QV : Bool → Shared → Prop} (keep : List (Addr × Obj)) (P : Bool → Prop) (_F : Fr h₀ L s.heap m₀) (_N : News h₀ L s.heap news) (_hk : ∀ q ∈ keep, q ∈ news)
    (hS : wpAny (model prog w) A (isTrue e env (eval e env)) (BoolEnd h₀ L m₀ keep P s) E s)
    (hrest : ∀ b h tk, P b → Fr h₀ L h m₀ → News h₀ L h keep → QV b { s with heap := h, toks := tk }) :
    wpAny (model prog w) A (isTrue e env (eval e env)) QV E s := by
  refine wpAny_mono hS (fun v s₂ z => ?_) fun _ _ z => z
  obtain ⟨hp, h, tk, rfl, F2, N2⟩ := z
  exact hrest v h tk hp F2 N2
end
end Mine
open PySem PySem.W PyProof.Rows PySem.Calls PySem.Spec
namespace Mine
set_option maxRecDepth 100000
/-- the bits k .. k + n - 1 that are set in c -/
noncomputable def setB (c : Int) : Nat → Nat → List Nat
  | _, 0 => []
  | k, n + 1 => if c / 2 ^ k % 2 = 1 then k :: setB c (k + 1) n else setB c (k + 1) n
theorem setB_ge {c : Int} : ∀ {n k : Nat} {i : Nat}, i ∈ setB c k n → k ≤ i ∧ i < k + n
  | 0, _, _, h => by cases h
  | n + 1, k, i, h => by
    unfold setB at h
    split at h
    · rcases List.mem_cons.mp h with rfl | h
      · omega
      · have := setB_ge h; omega
    · have := setB_ge h; omega
noncomputable def selV : List Nat → Nat → List Int → Int
  | [], _, _ => 0
  | i :: is, k, q => q.headD 0 * 256 ^ (i - k) + selV is k q.tail
theorem selV_up : ∀ {is : List Nat} {k : Nat} {q : List Int}, (∀ i ∈ is, k + 1 ≤ i) → selV is k q = 256 * selV is (k + 1) q
  | [], _, _, _ => by simp [selV]
  | i :: is, k, q, h => by
    have hi := h i (.head _)
    have e : (256 : Int) ^ (i - k) = 256 * 256 ^ (i - (k + 1)) := by
      rw [show i - k = (i - (k + 1)) + 1 by omega, Int.pow_succ, Int.mul_comm]
    unfold selV
    rw [selV_up fun j hj => h j (.tail _ hj), e, Int.mul_add, Int.mul_left_comm]
theorem fields_sel {c : Int} : ∀ (n k : Nat) (r : List Int), fieldsL c k n r = if r.length < (setB c k n).length then none else some (selV (setB c k n) k r, r.drop (setB c k n).length)
  | 0, k, r => by simp [fieldsL, setB, selV]
  | n + 1, k, r => by
    have hg : ∀ i ∈ setB c (k + 1) n, k + 1 ≤ i := fun i hi => (setB_ge hi).1
    unfold fieldsL setB
    split
    · cases r with
      | nil => simp
      | cons x q =>
        dsimp only
        rw [fields_sel n (k + 1) q]
        simp only [List.length_cons, List.drop_succ_cons]
        by_cases hl : q.length < (setB c (k + 1) n).length
        · rw [if_pos hl, if_pos (by omega)]; rfl
        · rw [if_neg hl, if_neg (by omega)]
          simp only [Option.map_some, selV, List.headD_cons, List.tail_cons, Nat.sub_self, Int.pow_zero, Int.mul_one, selV_up hg]
    · rw [fields_sel n (k + 1) r]
      by_cases hl : r.length < (setB c (k + 1) n).length
      · rw [if_pos hl]; simp [hl]
      · rw [if_neg hl]
        simp only [hl, if_false, Option.map_some, selV_up hg]
theorem enum_all {p : Int → Bool} {k0 : Nat} (kf : Int → Nat) (hf : ∀ i : Nat, kf i = i - k0) : ∀ (is : List Nat) (n : Nat) (q : List Int), (∀ i ∈ is, p i = true) →
    (enumSel p (fun n k => q.getD n 0 * 256 ^ kf k) n (is.map fun i => ((i : Nat) : Int))).sum = selV is k0 (q.drop n)
  | [], _, _, _ => by simp [enumSel, selV]
  | i :: is, n, q, h => by
    rw [List.map_cons]
    unfold enumSel selV
    rw [if_pos (h i (.head _)), List.sum_cons, enum_all kf hf is (n + 1) q fun j hj => h j (.tail _ hj), hf]
    have e1 : (q.drop n).headD 0 = q.getD n 0 := by
      rw [List.headD_eq_head?_getD, List.head?_drop, List.getD_eq_getElem?_getD]
    have e2 : (q.drop n).tail = q.drop (n + 1) := by rw [List.tail_drop]
    rw [e1, e2]
theorem enum_none {p : Int → Bool} {f : Nat → Int → Int} : ∀ (ks : List Int) (n : Nat), (∀ k ∈ ks, p k = false) → enumSel p f n ks = []
  | [], _, _ => rfl
  | k :: ks, n, h => by
    unfold enumSel
    rw [if_neg (by rw [h k (.head _)]; decide)]
    exact enum_none ks (n + 1) fun j hj => h j (.tail _ hj)
theorem enum_app {p : Int → Bool} {f : Nat → Int → Int} : ∀ (a b : List Int) (n : Nat), enumSel p f n (a ++ b) = enumSel p f n a ++ enumSel p f (n + a.length) b
  | [], b, n => by simp [enumSel]
  | k :: a, b, n => by
    rw [List.cons_append]
    conv => lhs; unfold enumSel
    conv => rhs; lhs; unfold enumSel
    rw [enum_app a b (n + 1), List.length_cons, show n + 1 + a.length = n + (a.length + 1) by omega]
    split <;> simp
theorem bits_set (c : Int) : ∀ (n k : Nat), ((rangeKs k n).filter (bitP c)) = (setB c k n).map fun i => ((i : Nat) : Int)
  | 0, _ => rfl
  | n + 1, k => by
    have e : rangeKs k (n + 1) = (k : Int) :: rangeKs ((k + 1 : Nat) : Int) n := by
      simp only [rangeKs, List.range_succ_eq_map, List.map_cons, List.map_map, Function.comp_def]
      congr 1
      simp
      intro a _
      omega
    have hb : bitP c k = decide (c / 2 ^ k % 2 = 1) := by
      have p : (0 : Int) < 2 ^ k := Int.pow_pos (by decide)
      show decide ((c.fdiv (2 ^ (k : Int).toNat)).fmod 2 = 1) = _
      rw [Int.toNat_natCast, Int.fdiv_eq_ediv_of_nonneg _ (by omega), Int.fmod_eq_emod_of_nonneg _ (by decide)]
    rw [e, List.filter_cons, hb, bits_set c n (k + 1)]
    conv => rhs; unfold setB
    by_cases h : c / 2 ^ k % 2 = 1
    · rw [if_pos (decide_eq_true h), if_pos h]; rfl
    · rw [if_neg (by simp [h]), if_neg h]
theorem setB_add (c : Int) : ∀ (a b k : Nat), setB c k (a + b) = setB c k a ++ setB c (k + a) b
  | 0, b, k => by simp [setB]
  | a + 1, b, k => by
    rw [show a + 1 + b = (a + b) + 1 by omega]
    conv => lhs; unfold setB
    conv => rhs; lhs; unfold setB
    rw [setB_add c a b (k + 1), show k + 1 + a = k + (a + 1) by omega]
    split <;> simp
theorem bits_two (c : Int) : bitsL c = (setB c 0 4).map (fun i => ((i : Nat) : Int)) ++ (setB c 4 3).map fun i => ((i : Nat) : Int) := by
  have := bits_set c 7 0
  rw [show (7 : Nat) = 4 + 3 from rfl, setB_add, List.map_append] at this
  exact this
theorem start_sel (c : Int) (q : List Int) : startL c q = selV (setB c 0 4) 0 q := by
  unfold startL
  rw [bits_two, enum_app, enum_none ((setB c 4 3).map _), List.append_nil, enum_all (k0 := 0) (fun k => k.toNat) (fun i => by simp)]
  · rw [List.drop_zero]
  · intro i hi; have := setB_ge hi; exact decide_eq_true (by omega)
  · intro k hk
    obtain ⟨i, hi, rfl⟩ := List.mem_map.mp hk
    have := setB_ge hi
    exact decide_eq_false (by omega)
theorem siz_sel (c : Int) (q : List Int) : sizL c q = selV (setB c 4 3) 4 (q.drop (setB c 0 4).length) := by
  unfold sizL
  rw [bits_two, enum_app, enum_none ((setB c 0 4).map _), List.nil_append, enum_all (k0 := 4) (fun k => (k - 4).toNat) (fun i => by omega)]
  · rw [List.length_map, Nat.zero_add]
  · intro i hi; have := setB_ge hi; exact decide_eq_true (by omega)
  · intro k hk
    obtain ⟨i, hi, rfl⟩ := List.mem_map.mp hk
    have := setB_ge hi
    exact decide_eq_false (by omega)
theorem bits_count (c : Int) : (bitsL c).length = (setB c 0 4).length + (setB c 4 3).length := by rw [bits_two, List.length_append, List.length_map, List.length_map]
theorem selV_nn : ∀ {is : List Nat} {k : Nat} {q : List Int}, Oct q → 0 ≤ selV is k q
  | [], _, _, _ => Int.le_refl _
  | i :: is, k, q, h => by
    unfold selV
    have h1 : 0 ≤ selV is k q.tail := selV_nn fun x hx => h x (List.mem_of_mem_tail hx)
    have h2 : 0 ≤ q.headD 0 := by
      cases q with
      | nil => decide
      | cons x r => exact (h x (.head _)).1
    have h3 : (0 : Int) ≤ 256 ^ (i - k) := Int.le_of_lt (Int.pow_pos (by decide))
    have := Int.mul_nonneg h2 h3
    omega
theorem great_copy {n : Int} (h : 0 ≤ n) : copySz n = greatSz n := by unfold copySz greatSz; split <;> split <;> omega
/-- the two readings of a copy's octets -/
theorem fields_none {bk q acc : List Int} {c rem : Int} (hc : 128 ≤ c) (h : q.length < (bitsL c).length) : readOps bk (c :: q) rem acc = none := by
  rw [bits_count] at h
  cases e1 : fieldsL c 0 4 q with
  | none => exact ops_none0 hc e1
  | some p =>
    obtain ⟨off, q1⟩ := p
    refine ops_none1 hc e1 ?_
    rw [fields_sel] at e1
    split at e1
    · cases e1
    · cases e1
      rw [fields_sel, if_pos (by rw [List.length_drop]; omega)]
theorem fields_some {q : List Int} {c : Int} (h : ¬ q.length < (bitsL c).length) : ∃ q1, fieldsL c 0 4 q = some (startL c q, q1) ∧ fieldsL c 4 3 q1 = some (sizL c q, q.drop (bitsL c).length) := by
  rw [bits_count] at h
  refine ⟨q.drop (setB c 0 4).length, ?_, ?_⟩
  · rw [fields_sel, if_neg (by omega), start_sel]
  · rw [fields_sel, if_neg (by rw [List.length_drop]; omega), siz_sel, List.drop_drop, bits_count]
/-- the rows upon the text bk, as apply_delta goes through them -/
noncomputable def opsR (bk : List Int) : List Row → Int → List Int → Option (List Int)
  | [], rem, acc => if rem = 0 then some acc else none
  | .copy st sz :: rs, rem, acc => if st + sz > bk.length ∨ sz > rem then (if rs = [] ∧ rem = 0 then some acc else none) else opsR bk rs (rem - sz) (acc ++ cut bk st (st + sz))
  | .ins ks :: rs, rem, acc => if (ks.length : Int) > rem then none else opsR bk rs (rem - ks.length) (acc ++ ks)
theorem rows_nil {r : List Int} (h : readRows r = some []) : r = [] := by
  cases r with
  | nil => rfl
  | cons c q =>
    unfold readRows at h
    rw [List.length_cons, rowsF_cons] at h
    split at h
    · split at h
      · cases h
      · rename_i n1 n2; cases e : rowsF (q.length + 1) (q.drop (bitsL c).length) <;> rw [e] at h <;> cases h
    · split at h
      · cases h
      · rename_i n1 n2; cases e : rowsF (q.length + 1) (q.drop c.toNat) <;> rw [e] at h <;> cases h
theorem ops_rows (bk : List Int) : ∀ (n : Nat) (r : List Int) (rem : Int) (acc : List Int), r.length < n → Oct r →
    readOps bk r rem acc = match readRows r with
      | none => none
      | some rs => opsR bk rs rem acc
  | 0, _, _, _, h, _ => absurd h (Nat.not_lt_zero _)
  | n + 1, [], rem, acc, _, _ => rfl
  | n + 1, c :: q, rem, acc, hn, ho => by
    simp only [List.length_cons] at hn
    have oq : Oct q := fun x hx => ho x (.tail _ hx)
    by_cases hc : 128 ≤ c
    · by_cases hl : q.length < (bitsL c).length
      · rw [fields_none hc hl, rows_short hc hl]
      · obtain ⟨q1, e1, e2⟩ := fields_some hl
        have hz : 0 ≤ sizL c q := by rw [siz_sel]; exact selV_nn fun x hx => oq x (List.mem_of_mem_drop hx)
        rw [rows_copy hc hl]
        by_cases hf : startL c q + copySz (sizL c q) > bk.length ∨ copySz (sizL c q) > rem
        · rw [ops_bad hc e1 e2 hf]
          cases e : readRows (q.drop (bitsL c).length) with
          | none =>
            have : q.drop (bitsL c).length ≠ [] := fun e' => by rw [e'] at e; cases e
            simp [this]
          | some rs =>
            simp only [Option.map_some, opsR]
            rw [great_copy hz] at hf
            rw [if_pos hf]
            by_cases hr : rs = []
            · subst hr
              simp [rows_nil e]
            · have : q.drop (bitsL c).length ≠ [] := fun e' => by rw [e'] at e; cases e; exact hr rfl
              simp [this, hr]
        · rw [ops_copy hc e1 e2 (by omega) (by omega), ops_rows bk n _ _ _ (by rw [List.length_drop]; omega) fun x hx => oq x (List.mem_of_mem_drop hx)]
          cases e : readRows (q.drop (bitsL c).length) with
          | none => rfl
          | some rs =>
            simp only [Option.map_some, opsR]
            rw [great_copy hz] at hf ⊢
            rw [if_neg hf]
    · have hc0 := (ho c (.head _)).1
      by_cases h0 : c = 0
      · subst h0; rw [ops_zero, rows_bad (by decide) (.inl rfl)]
      · by_cases hl : (q.length : Int) < c
        · rw [ops_long hc (.inr hl), rows_bad hc (.inr hl)]
        · rw [rows_ins hc h0 hl]
          have htl : ((q.take c.toNat).length : Int) = c := by rw [List.length_take]; omega
          by_cases hf : c > rem
          · rw [ops_long hc (.inl hf)]
            cases e : readRows (q.drop c.toNat) with
            | none => rfl
            | some rs => simp only [Option.map_some, opsR, htl]; rw [if_pos hf]
          · rw [ops_insert hc h0 (by omega) (by omega), ops_rows bk n _ _ _ (by rw [List.length_drop]; omega) fun x hx => oq x (List.mem_of_mem_drop hx)]
            cases e : readRows (q.drop c.toNat) with
            | none => rfl
            | some rs => simp only [Option.map_some, opsR, htl]; rw [if_neg hf]
end Mine
open PySem PySem.W PyProof.Rows PySem.Calls PySem.Spec
namespace Mine
set_option maxRecDepth 100000
noncomputable def mainInv (bk dk : List Int) (R : Option (List Int)) (dest idx rem : Int) (cs : List (List Int)) : Prop :=
  0 ≤ idx ∧ idx ≤ dk.length ∧ 0 ≤ rem ∧ rem + cs.flatten.length = dest ∧ (cs.length : Int) ≤ idx ∧ (cs.flatten.length : Int) ≤ 200000 * idx ∧ readOps bk (dk.drop idx.toNat) rem cs.flatten = R
noncomputable def afterInv (dk : List Int) (R : Option (List Int)) (dest idx rem : Int) (cs : List (List Int)) : Prop :=
  0 ≤ idx ∧ idx ≤ dk.length ∧ 0 ≤ rem ∧ rem + cs.flatten.length = dest ∧ (cs.length : Int) ≤ dk.length ∧ (cs.flatten.length : Int) ≤ 200000 * dk.length ∧ R = (if idx = dk.length ∧ rem = 0 then some cs.flatten else none)
theorem start_main {bk dk : List Int} {ix1 ix2 s1 s2 : Int} {k1 k2 : Nat} (h1 : sizeL (dk.drop (Int.toNat 0)) = some (s1, k1)) (e1 : ix1 = 0 + (k1 : Int)) (h2 : sizeL (dk.drop ix1.toNat) = some (s2, k2)) (e2 : ix2 = ix1 + k2)
    (hs : s1 = bk.length) (h0 : 0 ≤ s2) (hl : ix2 ≤ dk.length) : mainInv bk dk (readDelta bk dk) s2 ix2 s2 [] := by
  refine ⟨by omega, hl, h0, by simp, by simp; omega, by simp; omega, ?_⟩
  have a1 : sizeL dk = some (s1, k1) := by simpa using h1
  have a2 : ix1.toNat = k1 := by omega
  have a3 : ix2.toNat = k1 + k2 := by omega
  rw [a2] at h2
  unfold readDelta
  rw [a1]
  simp only [h2]
  rw [if_pos hs, a3]
  rfl
theorem delta_none1 {bk dk : List Int} (h1 : sizeL (dk.drop (Int.toNat 0)) = none) : readDelta bk dk = none := by
  have a1 : sizeL dk = none := by simpa using h1
  unfold readDelta
  rw [a1]
theorem delta_none2 {bk dk : List Int} {ix1 s1 : Int} {k1 : Nat} (h1 : sizeL (dk.drop (Int.toNat 0)) = some (s1, k1)) (e1 : ix1 = 0 + (k1 : Int)) (h2 : sizeL (dk.drop ix1.toNat) = none) : readDelta bk dk = none := by
  have a1 : sizeL dk = some (s1, k1) := by simpa using h1
  have a2 : ix1.toNat = k1 := by omega
  rw [a2] at h2
  unfold readDelta
  rw [a1]
  simp only [h2]
theorem delta_none3 {bk dk : List Int} {ix1 s1 s2 : Int} {k1 k2 : Nat} (h1 : sizeL (dk.drop (Int.toNat 0)) = some (s1, k1)) (e1 : ix1 = 0 + (k1 : Int)) (h2 : sizeL (dk.drop ix1.toNat) = some (s2, k2)) (hs : s1 ≠ bk.length) : readDelta bk dk = none := by
  have a1 : sizeL dk = some (s1, k1) := by simpa using h1
  have a2 : ix1.toNat = k1 := by omega
  rw [a2] at h2
  unfold readDelta
  rw [a1]
  simp only [h2]
  rw [if_neg hs]
theorem digits_ok {v : Int} {k : Nat} (h0 : 0 ≤ v) (h1 : v < 2 ^ (7 * k)) (hk : k ≤ 1842) : v.natAbs < 2 ^ 12900 := by
  obtain ⟨n, rfl⟩ := Int.eq_ofNat_of_zero_le h0
  rw [← kbt_cast] at h1
  have h2 : n < 2 ^ (7 * k) := Int.ofNat_lt.mp h1
  rw [Int.natAbs_natCast]
  exact Nat.lt_of_lt_of_le h2 (Nat.pow_le_pow_right (by decide) (by omega))
theorem main_out {bk dk : List Int} {R : Option (List Int)} {dest idx rem : Int} {cs : List (List Int)} (h : mainInv bk dk R dest idx rem cs) (hl : ¬ idx < dk.length) : afterInv dk R dest idx rem cs := by
  obtain ⟨h1, h2, h3, h4, h5, h6, h7⟩ := h
  refine ⟨h1, h2, h3, h4, by omega, by omega, ?_⟩
  rw [← h7, List.drop_of_length_le (by omega), ops_nil]
  have e : idx = dk.length := by omega
  by_cases q : rem = 0
  · rw [if_pos q, if_pos ⟨e, q⟩]
  · rw [if_neg q, if_neg fun z => q z.2]
section
variable {prog : Program} {w : World} {A : Around} {E : Value → Shared → Prop} {Q : Flow → Shared → Prop} {s : Shared} {env : Env} {h₀ : Heap} {L : Addr}
noncomputable abbrev mainStored : List Str := ["remaining", "cmd", "cp_off", "i", "x", "cp_size"]
noncomputable abbrev MainS := Obj × Int × Tok × Int × Tok × List Value × List (List Int) × Nat
noncomputable abbrev mainLed (ci lo : Addr) (fixed : List (Addr × Obj)) (c : MainS) : List (Addr × Obj) := (ci, c.1) :: (lo, listOf c.2.2.2.2.2.1.toArray c.2.2.2.2.2.2.2) :: fixed
noncomputable abbrev mainPs (c : MainS) : List (Str × Value) := [(Str.ofString "remaining", .int c.2.2.2.1 c.2.2.2.2.1)]
noncomputable abbrev mainFacts (c : MainS) : Prop := c.1.data = .cell (some (.int c.2.1 c.2.2.1)) ∧ BytesAre c.2.2.2.2.2.1 c.2.2.2.2.2.2.1
noncomputable def MainAt (h₀ : Heap) (L : Addr) (ci lo : Addr) (fixed : List (Addr × Obj)) (m₀ : Str → Option Value) (s : Shared) (I : Int → Int → List (List Int) → Prop) (s₂ : Shared) : Prop :=
  ∃ h' tk m' news' oi idx tidx rem trem vs cs nn, s₂ = { s with heap := h', toks := tk } ∧ Fr h₀ L h' m' ∧ News h₀ L h' news' ∧ (∀ q ∈ (ci, oi) :: (lo, listOf (List.toArray vs) nn) :: fixed, q ∈ news') ∧ oi.data = .cell (some (.int idx tidx)) ∧ BytesAre vs cs ∧
    m' (Str.ofString "remaining") = some (.int rem trem) ∧ (∀ z : Str, z ≠ Str.ofString "remaining" → z ≠ Str.ofString "cmd" → z ≠ Str.ofString "cp_off" → z ≠ Str.ofString "i" → z ≠ Str.ofString "x" → z ≠ Str.ofString "cp_size" → m' z = m₀ z) ∧ I idx rem cs
noncomputable def MainPost (h₀ : Heap) (L : Addr) (ci lo : Addr) (fixed : List (Addr × Obj)) (m₀ : Str → Option Value) (s : Shared) (Q : Flow → Shared → Prop) (I J : Int → Int → List (List Int) → Prop) (f : Flow) (s₂ : Shared) : Prop :=
  match f with
  | .ret v => Q (.ret v) s₂
  | .brk => MainAt h₀ L ci lo fixed m₀ s J s₂
  | _ => MainAt h₀ L ci lo fixed m₀ s I s₂
theorem main_loop {test : Expr} {body : List Stmt} {pos : Pos} {m₀ : Str → Option Value} {news : List (Addr × Obj)} (bk dk : List Int) (R : Option (List Int)) (dest : Int) {idx : Int} {tidx trem : Tok} {oi : Obj} {ci lo : Addr} {nn : Nat} (fixed : List (Addr × Obj))
    (F : Fr h₀ L s.heap m₀) (N : News h₀ L s.heap news) (hci : (ci, oi) ∈ news) (hlo : (lo, listOf #[] nn) ∈ news) (hfix : ∀ q ∈ fixed, q ∈ news)
    (hd : oi.data = .cell (some (.int idx tidx))) (hm : m₀ (Str.ofString "remaining") = some (.int dest trem)) (hp : mainInv bk dk R dest idx dest [])
    (turn : ∀ oi idx tidx rem trem vs cs nn (u : Str → Option Value) h tk, oi.data = .cell (some (.int idx tidx)) → BytesAre vs cs → mainInv bk dk R dest idx rem cs →
      Fr h₀ L h (kstB (fun z => if mainStored.contains z then u z else m₀ z) [(Str.ofString "remaining", .int rem trem)]) → News h₀ L h ((ci, oi) :: (lo, listOf (List.toArray vs) nn) :: fixed) →
      wpAny (model prog w) A (isTrue test env (eval test env)) (fun b s₂ =>
        if b = true then wpAny (model prog w) A (execs body env) (MainPost h₀ L ci lo fixed m₀ s Q (fun i r c => mainInv bk dk R dest i r c ∧ idx < i) (fun i r c => afterInv dk R dest i r c)) E s₂ else MainAt h₀ L ci lo fixed m₀ s (fun i r c => afterInv dk R dest i r c) s₂) E { s with heap := h, toks := tk })
    (after : ∀ oi idx tidx rem trem vs cs nn (u : Str → Option Value) h tk, oi.data = .cell (some (.int idx tidx)) → BytesAre vs cs → afterInv dk R dest idx rem cs →
      Fr h₀ L h (kstB (fun z => if mainStored.contains z then u z else m₀ z) [(Str.ofString "remaining", .int rem trem)]) → News h₀ L h ((ci, oi) :: (lo, listOf (List.toArray vs) nn) :: fixed) → Q .next { s with heap := h, toks := tk })
    (hE : PassesOwn (model prog w) A env E) :
    wpAny (model prog w) A (exec (.While test body [] pos) env) Q E s := by
  have N1 : News h₀ L s.heap (mainLed ci lo fixed (oi, idx, tidx, dest, trem, [], [], nn)) := fun q hq => by
    rcases List.mem_cons.mp hq with rfl | hq
    · exact N _ hci
    · rcases List.mem_cons.mp hq with rfl | hq
      · exact N _ hlo
      · exact N _ (hfix q hq)
  have out : ∀ s₂, MainAt h₀ L ci lo fixed m₀ s (fun i r c => afterInv dk R dest i r c) s₂ → Q .next s₂ := by
    rintro _ ⟨h', tk, m', news', oi, idx, tidx, rem, trem, vs, cs, nn, rfl, F2, N2, a1, a2, a3, a4, a5, a6⟩
    refine after oi idx tidx rem trem vs cs nn m' h' tk a2 a3 a6 (ksw_fr ?_ ?_ F2) fun q hq => N2 q (a1 q hq)
    · intro p hp; rw [List.mem_singleton.mp hp]; exact a4
    · intro z hz hs
      simp only [mainStored, List.contains_cons, List.contains_nil, Bool.or_false, Bool.or_eq_false_iff, beq_eq_false_iff_ne, ne_eq] at hs
      exact a5 z hs.1 hs.2.1 hs.2.2.1 hs.2.2.2.1 hs.2.2.2.2.1 hs.2.2.2.2.2
  refine ksw_while (mainLed ci lo fixed) mainPs mainFacts mainStored (fun c => mainInv bk dk R dest c.2.1 c.2.2.2.1 c.2.2.2.2.2.2.1) (fun c => (dk.length - c.2.1).toNat) (oi, idx, tidx, dest, trem, [], [], nn) F N1 ⟨hd, .nil⟩ ?_ hp ?_ hE
  · intro p hp; rw [List.mem_singleton.mp hp]; exact hm
  · rintro ⟨oi, idx, tidx, rem, trem, vs, cs, nn⟩ u h tk ⟨f1, f2⟩ hp F' N'
    refine wpAny_mono (turn oi idx tidx rem trem vs cs nn u h tk f1 f2 hp F' N') (fun b s₂ z => ?_) fun _ _ z => z
    cases b with
    | false =>
      simp only [Bool.false_eq_true, if_false] at z ⊢
      exact out s₂ z
    | true =>
      simp only [if_true] at z ⊢
      refine wpAny_mono z (fun f s₃ y => ?_) fun _ _ z => z
      have up : MainAt h₀ L ci lo fixed m₀ s (fun i r c => mainInv bk dk R dest i r c ∧ idx < i) s₃ → KswEnd h₀ L s (mainLed ci lo fixed) mainPs mainFacts mainStored m₀ (fun c => mainInv bk dk R dest c.2.1 c.2.2.2.1 c.2.2.2.2.2.2.1) (fun c => (dk.length - c.2.1).toNat) (oi, idx, tidx, rem, trem, vs, cs, nn) s₃ := by
        rintro ⟨h', tk, m', news', oi', idx', tidx', rem', trem', vs', cs', nn', rfl, F2, N2, a1, a2, a3, a4, a5, a6, a7⟩
        refine ksw_end (oi', idx', tidx', rem', trem', vs', cs', nn') F2 N2 a1 ⟨a2, a3⟩ ?_ ?_ a6 ?_
        · intro p hp; rw [List.mem_singleton.mp hp]; exact a4
        · intro z _ hs
          simp only [mainStored, List.contains_cons, List.contains_nil, Bool.or_false, Bool.or_eq_false_iff, beq_eq_false_iff_ne, ne_eq] at hs
          exact a5 z hs.1 hs.2.1 hs.2.2.1 hs.2.2.2.1 hs.2.2.2.2.1 hs.2.2.2.2.2
        · obtain ⟨b1, b2, _⟩ := a6
          obtain ⟨c1, c2, _⟩ := hp
          show (dk.length - idx').toNat < (dk.length - idx).toNat
          omega
      cases f with
      | ret v => exact y
      | brk => exact out s₃ y
      | next => exact up y
      | cont => exact up y
end
end Mine
open PySem PySem.W PyProof.Rows PySem.Calls PySem.Spec
namespace Mine
set_option maxRecDepth 100000
noncomputable def sumSz (rs : List Row) : Int := (rs.map rowSz).sum
noncomputable def joinR (bk : List Int) (rs : List Row) : List Int := (rs.map (rowPiece bk)).flatten
noncomputable def soundR (bk : List Int) (rs : List Row) : Prop := ∀ r ∈ rs, rowSound bk r = true
noncomputable def OnesR (rs : List Row) : Prop := ∀ r ∈ rs, 1 ≤ rowSz r
theorem sum_nn : ∀ {rs : List Row}, OnesR rs → 0 ≤ sumSz rs
  | [], _ => Int.le_refl _
  | r :: rs, h => by
    have h1 := h r (.head _)
    have h2 := sum_nn (rs := rs) fun x hx => h x (.tail _ hx)
    unfold sumSz at *
    rw [List.map_cons, List.sum_cons]; omega
theorem sum_cons (r : Row) (rs : List Row) : sumSz (r :: rs) = rowSz r + sumSz rs := by unfold sumSz; rw [List.map_cons, List.sum_cons]
section
variable {bk : List Int}
theorem ops_full : ∀ {rs : List Row} {rem : Int} {acc : List Int}, soundR bk rs → sumSz rs = rem → OnesR rs → opsR bk rs rem acc = some (acc ++ joinR bk rs)
  | [], rem, acc, _, h2, _ => by
    have : rem = 0 := h2.symm
    simp [opsR, this, joinR]
  | .copy st sz :: rs, rem, acc, h1, h2, h3 => by
    have s1 : st + sz ≤ bk.length := of_decide_eq_true (h1 _ (.head _))
    have n := sum_nn (rs := rs) fun x hx => h3 x (.tail _ hx)
    rw [sum_cons] at h2
    simp only [rowSz] at h2
    unfold opsR
    rw [if_neg (by omega), ops_full (fun x hx => h1 x (.tail _ hx)) (by omega) (fun x hx => h3 x (.tail _ hx))]
    simp [joinR, rowPiece]
  | .ins ks :: rs, rem, acc, h1, h2, h3 => by
    have n := sum_nn (rs := rs) fun x hx => h3 x (.tail _ hx)
    rw [sum_cons] at h2
    simp only [rowSz] at h2
    unfold opsR
    rw [if_neg (by omega), ops_full (fun x hx => h1 x (.tail _ hx)) (by omega) (fun x hx => h3 x (.tail _ hx))]
    simp [joinR, rowPiece]
theorem ops_over {st sz : Int} : ∀ {rs : List Row} {rem : Int} {acc : List Int}, soundR bk rs → sumSz rs = rem → OnesR rs → 1 ≤ sz → opsR bk (rs ++ [.copy st sz]) rem acc = some (acc ++ joinR bk rs)
  | [], rem, acc, _, h2, _, h4 => by
    have : rem = 0 := h2.symm
    rw [List.nil_append]
    unfold opsR
    rw [if_pos (by omega), if_pos ⟨rfl, this⟩]
    simp [joinR]
  | .copy s' z' :: rs, rem, acc, h1, h2, h3, h4 => by
    have s1 : s' + z' ≤ bk.length := of_decide_eq_true (h1 _ (.head _))
    have n := sum_nn (rs := rs) fun x hx => h3 x (.tail _ hx)
    rw [sum_cons] at h2
    simp only [rowSz] at h2
    rw [List.cons_append]
    unfold opsR
    rw [if_neg (by omega), ops_over (fun x hx => h1 x (.tail _ hx)) (by omega) (fun x hx => h3 x (.tail _ hx)) h4]
    simp [joinR, rowPiece]
  | .ins ks :: rs, rem, acc, h1, h2, h3, h4 => by
    have n := sum_nn (rs := rs) fun x hx => h3 x (.tail _ hx)
    rw [sum_cons] at h2
    simp only [rowSz] at h2
    rw [List.cons_append]
    unfold opsR
    rw [if_neg (by omega), ops_over (fun x hx => h1 x (.tail _ hx)) (by omega) (fun x hx => h3 x (.tail _ hx)) h4]
    simp [joinR, rowPiece]
/-- where apply_delta takes the rows, they are full, or full but for one more copy -/
theorem ops_taken : ∀ {rs : List Row} {rem : Int} {acc t : List Int}, OnesR rs → opsR bk rs rem acc = some t → (soundR bk rs ∧ sumSz rs = rem) ∨ ∃ init st sz, rs = init ++ [.copy st sz] ∧ soundR bk init ∧ sumSz init = rem
  | [], rem, acc, t, _, h => by
    unfold opsR at h
    split at h
    · rename_i e; exact .inl ⟨fun _ h => (nomatch h), e.symm⟩
    · cases h
  | .copy st sz :: rs, rem, acc, t, h3, h => by
    unfold opsR at h
    split at h
    · split at h
      · rename_i e
        refine .inr ⟨[], st, sz, by rw [e.1]; rfl, fun _ h => (nomatch h), ?_⟩
        rw [e.2]; rfl
      · cases h
    · rename_i hn
      have sd : rowSound bk (.copy st sz) = true := decide_eq_true (by omega)
      rcases ops_taken (fun x hx => h3 x (.tail _ hx)) h with ⟨a, b⟩ | ⟨init, s', z', rfl, a, b⟩
      · exact .inl ⟨(fmc sd a), by rw [sum_cons]; simp only [rowSz]; omega⟩
      · exact .inr ⟨.copy st sz :: init, s', z', rfl, (fmc sd a), by rw [sum_cons]; simp only [rowSz]; omega⟩
  | .ins ks :: rs, rem, acc, t, h3, h => by
    unfold opsR at h
    split at h
    · cases h
    · rcases ops_taken (fun x hx => h3 x (.tail _ hx)) h with ⟨a, b⟩ | ⟨init, s', z', rfl, a, b⟩
      · exact .inl ⟨(fmc rfl a), by rw [sum_cons]; simp only [rowSz]; omega⟩
      · exact .inr ⟨.ins ks :: init, s', z', rfl, (fmc rfl a), by rw [sum_cons]; simp only [rowSz]; omega⟩
end
theorem rows_facts : ∀ (n : Nat) {r : List Int} {rs : List Row}, r.length < n → Oct r → readRows r = some rs → OnesR rs ∧ RowsPos rs
  | 0, _, _, h, _, _ => absurd h (Nat.not_lt_zero _)
  | n + 1, [], rs, _, _, h => by cases h; exact ⟨fun _ h => (nomatch h), fun _ _ h => (nomatch h)⟩
  | n + 1, c :: q, rs, hn, ho, h => by
    simp only [List.length_cons] at hn
    have oq : Oct q := fun x hx => ho x (.tail _ hx)
    have hc0 := (ho c (.head _)).1
    by_cases hc : 128 ≤ c
    · by_cases hl : q.length < (bitsL c).length
      · rw [rows_short hc hl] at h; cases h
      · rw [rows_copy hc hl, Option.map_eq_some_iff] at h
        obtain ⟨rs', e, rfl⟩ := h
        obtain ⟨a, b⟩ := rows_facts n (by rw [List.length_drop]; omega) (fun x hx => oq x (List.mem_of_mem_drop hx)) e
        have hz : 1 ≤ greatSz (sizL c q) := by unfold greatSz; split <;> omega
        have hs : 0 ≤ startL c q := by rw [start_sel]; exact selV_nn oq
        refine ⟨(fmc hz a), fun st sz hm => ?_⟩
        rcases List.mem_cons.mp hm with e' | hm
        · cases e'; exact ⟨hs, hz⟩
        · exact b st sz hm
    · by_cases hb : c = 0 ∨ (q.length : Int) < c
      · rw [rows_bad hc hb] at h; cases h
      · rw [rows_ins hc (fun e => hb (.inl e)) (fun e => hb (.inr e)), Option.map_eq_some_iff] at h
        obtain ⟨rs', e, rfl⟩ := h
        obtain ⟨a, b⟩ := rows_facts n (by rw [List.length_drop]; omega) (fun x hx => oq x (List.mem_of_mem_drop hx)) e
        refine ⟨(fmc ?_ a), fun st sz hm => ?_⟩
        · show 1 ≤ ((q.take c.toNat).length : Int)
          rw [List.length_take]; omega
        · rcases List.mem_cons.mp hm with e' | hm
          · cases e'
          · exact b st sz hm
theorem delta_of {bk dk : List Int} {s1 s2 : Int} {k1 k2 : Nat} (h1 : sizeL dk = some (s1, k1)) (h2 : sizeL (dk.drop k1) = some (s2, k2)) : readDelta bk dk = if s1 = bk.length then readOps bk ((dk.drop k1).drop k2) s2 [] else none := by
  unfold readDelta
  rw [h1]
  dsimp only
  rw [h2]
  dsimp only
  rw [List.drop_drop]
theorem tsz_nat : ∀ (a : Nat) (ks : List Int), Oct ks → (∀ j : Nat, j < a → 128 ≤ ks.getD j 0) → a < ks.length → ks.getD a 0 < 128 → sizeL ks = some ((((List.range (a + 1)).map fun j => ks.getD j 0 % 128 * 128 ^ j)).sum, a + 1)
  | _, [], _, _, h, _ => absurd h (Nat.not_lt_zero _)
  | 0, c :: r, ho, _, _, h => by
    have hc := ho c (.head _)
    have h' : c < 128 := h
    unfold sizeL
    rw [if_pos h']
    have e : c % 128 = c := Int.emod_eq_of_lt hc.1 h'
    simp [e]
  | a + 1, c :: r, ho, h0, h1, h => by
    have hc := ho c (.head _)
    have hb : 128 ≤ c := h0 0 (Nat.succ_pos _)
    have ih := tsz_nat a r (fun x hx => ho x (.tail _ hx)) (fun j hj => h0 (j + 1) (Nat.succ_lt_succ hj)) (by simpa using h1) h
    unfold sizeL
    rw [if_neg (by omega), ih]
    simp only [Option.map_some, Option.some.injEq, Prod.mk.injEq, and_true]
    rw [List.range_succ_eq_map (n := a + 1), List.map_cons, List.sum_cons, List.map_map]
    have e : (List.map ((fun j => (c :: r).getD j 0 % 128 * 128 ^ j) ∘ Nat.succ) (List.range (a + 1))).sum = 128 * (List.map (fun j => r.getD j 0 % 128 * 128 ^ j) (List.range (a + 1))).sum := by
      generalize List.range (a + 1) = l
      induction l with
      | nil => rfl
      | cons j l ih2 =>
        simp only [List.map_cons, List.sum_cons, Function.comp, ih2, Nat.succ_eq_add_one, List.getD_cons_succ, Int.pow_succ]
        rw [Int.mul_add, Int.mul_comm 128 (r.getD j 0 % 128 * 128 ^ j), Int.mul_assoc]
    rw [e]
    simp only [List.getD_cons_zero, Int.pow_zero, Int.mul_one]
    omega
theorem size_none : ∀ (ks : List Int), (∀ j : Nat, j < ks.length → 128 ≤ ks.getD j 0) → sizeL ks = none
  | [], _ => rfl
  | c :: r, h => by
    have hb : 128 ≤ c := h 0 (Nat.succ_pos _)
    unfold sizeL
    rw [if_neg (by omega), size_none r fun j hj => h (j + 1) (Nat.succ_lt_succ hj)]
    rfl
end Mine
open PySem PySem.W PyProof.Rows PySem.Calls PySem.Spec
namespace Mine
set_option maxRecDepth 100000
noncomputable def tszG (ks : List Int) (a : Int) : Int := (ks.getD a.toNat 0).fmod 128 * 128 ^ a.toNat
/-- between the turns: all octets so far are 128 or more -/
noncomputable def tszInv (ks : List Int) (a : Int) : Prop := 0 ≤ a ∧ a ≤ ks.length ∧ ∀ j : Nat, (j : Int) < a → 128 ≤ ks.getD j 0
theorem tsz_next {ks : List Int} {a : Int} (h : tszInv ks a) (h1 : a < ks.length) (h2 : 128 ≤ ks.getD a.toNat 0) : tszInv ks (a + 1) := by
  obtain ⟨q1, q2, q3⟩ := h
  refine ⟨by omega, by omega, fun j hj => ?_⟩
  by_cases e : (j : Int) = a
  · rw [show j = a.toNat by omega]; exact h2
  · exact q3 j (by omega)
theorem tsz_none {ks : List Int} (h : tszInv ks ks.length) : sizeL ks = none := size_none ks fun j hj => h.2.2 j (by omega)
theorem tsz_some {ks : List Int} {a : Int} (ho : Oct ks) (h : tszInv ks a) (h1 : a < ks.length) (h2 : ks.getD a.toNat 0 < 128) : sizeL ks = some (((rangeKs 0 (a + 1 - 0).toNat).map (tszG ks)).sum, (a + 1).toNat) := by
  have h0 := h.1
  have e := tsz_nat a.toNat ks ho (fun j hj => h.2.2 j (by omega)) (by omega) h2
  rw [e, show (a + 1 - 0).toNat = a.toNat + 1 by omega, show (a + 1).toNat = a.toNat + 1 by omega]
  simp only [rangeKs, List.map_map, Option.some.injEq, Prod.mk.injEq, and_true]
  congr 1
  apply List.map_congr_left
  intro j _
  simp only [Function.comp, tszG, Int.zero_add, Int.toNat_natCast]
  rw [Int.fmod_eq_emod_of_nonneg _ (by decide)]
set_option maxHeartbeats 4000000 in
/-- `_law_told_size` -/
theorem tsize2_spec (w : World) {p : Program} {loose : List Str} {mean : ExcName → Option Value} {mg mb : Str → Option Value}
   {base : Heap} (X₀ : (hd.heap_1 w.params).In base) (T₀ : Top p loose mean mg mb base)
   (dp un : Nat) (gd : Option (List Code)) (l : List Env) (hdp : dp + 15 < recursionLimit)
   {d : Array UInt8} {dk : List Int} {td : Tok} (hdk : KBw.bInts d = dk) (hd0 : dk.length ≤ 1800) :
   Spec PySem.Challenge.rw_jq0004_02.row.prog w (aTop dp un gd l) base l (.ref 98) [.bytes d td] []
     (fun v n' => (v = .none ∧ n' = [] ∧ sizeL dk = none) ∨ (∃ D b val k t1 t2, v = .ref D ∧ n' = [(D, tupO [.int val t1, .bytes b t2])] ∧ KBw.bInts b = dk.drop k ∧ sizeL dk = some (val, k))) (.ref 32) (fun _ => False) := by
  have hfill : (fun _ : OpenLaw => hd.heap_1) PySem.Challenge.rw_jq0004_02 = hd.heap_1 := by (k_fill; rfl)
  clear hfill
  intro g s Q E B hg hsz N hret hexc
  have X := X₀.keeps B.stays
  have T := T₀.keeps B.stays
  all_goals refine wpAny_call ?_
  all_goals k_dflt (refine' enter_defC hg hsz N X T ?k6 ?k7 ?k8 ?k9 ?kB ?kD ?_ ?c2 ?c3 ?c4; (case k6 => k_is); (case k7 => k_is); (case k8 => ktr_room); (case k9 => exact BindsTo.of_eq rfl); (case kB => exact rfl); (case kD => decide +kernel); (case c2 => exact rfl); (case c3 => exact rfl); (case c4 => exact rfl); k_whole; intro L' h' tk' cells' F' N' Y' l1; (try k_lt l1); k_cells Y'; (try simp only [List.cons_append, List.nil_append] at N'); (try dsimp only); (try k_fold))
  k_with_none
  k_with "execs cons" => k_fold
  k_with "eval Call" => k_fold
  k_with "storeName" => (k_here; k_dflt (first | (refine' storeI_L ?F ?N ?_ ?a ?b; (case F => k_asm); (case N => k_asm); (case a => rfl); (case b => rfl); k_whole; intro h' tk' t' F' N'; (try k_sweep); (try dsimp only); (try k_fold)) | (refine' storeB_L ?F ?N ?_ ?a ?b; (case F => k_asm); (case N => k_asm); (case a => rfl); (case b => rfl); k_whole; intro h' tk' t' F' N'; (try k_sweep); (try dsimp only); (try k_fold)) | (refine' storeG_L ?F ?N ?_ ?a ?b; (case F => k_asm); (case N => k_asm); (case a => rfl); (case b => rfl); k_whole; intro h' tk' F' N'; (try k_sweep); (try dsimp only); (try k_fold))))
  k_with "sub" => (exact fun q9 hq9 => List.Sublist.subset (by with_reducible (repeat (first | exact List.Sublist.refl _ | exact List.nil_sublist _ | refine List.Sublist.cons_cons _ ?_ | refine List.Sublist.cons _ ?_))) hq9)
  k_with "exec While BoolOp cons nil" => ((rename Fr _ _ _ _ => kF); (rename News _ _ _ _ => kN); k_dflt (refine' cut_int [(L' + 1, _)] (Str.ofString "at") (fun c => tszInv dk c ∧ (c < dk.length → dk.getD c.toNat 0 < 128)) kF kN (fmc (List.Mem.head _) (List.forall_mem_nil _)) ?_ ?_); (rotate_left); (clear kF kN; intro kU kH kTk at_ tat hP kFr kNews; obtain ⟨hP0, hP1⟩ := hP; (have hP2 := hP0.1); (have hP3 := hP0.2.1); (try k_fold)); (rotate_left); (rename Fr _ _ _ _ => kF); (rename News _ _ _ _ => kN); k_dflt (refine' int_loop (Str.ofString "at") [(L' + 1, _)] (tszInv dk) (fun c => (dk.length - c).toNat) kF kN (fmc (List.Mem.head _) (List.forall_mem_nil _)) rfl ⟨Int.le_refl _, by omega, fun j hj => by omega⟩ ?_ ?hE; (case hE => first | passes_own | with_unfolding_all passes_own)); (clear kF kN); (intro at_ tat kU kH kTk hP kFr kNews; (have hP2 := hP.1); (have hP3 := hP.2.1); (try dsimp only); (try k_fold)))
  k_with "CompSrc" => (k_here; k_dflt (refine LCg.CompSrc.range (by rfl) (by k_asm) (by k_asm) (by assumption) (small_one (by omega) (by omega) (by omega) (by omega)) (rangeSize_nat _ _) (by rw [sizeLine_eq]; omega) ?_; intro g'; (refine' kcf_range (tszG dk) (fun k' t' I' oI' C' oC' D' m' ys' h' tk' E' hlo' hhi' hC' hx' F' N' off' ne' hMark' => ?_) ?_); (all_goals (try (simp only [LCg.Off3, and_true] at off'))); kcf_last))
  k_with "KCfEl" => (exact kcf_el (r' := (dk.getD _ 0).fmod 128 * 128 ^ _) rfl rfl rfl)
  k_with "subscriptTail Name Slice bytes ref" => (k_here; (with_reducible show wpAny _ _ (subscriptTail _ (PySem.Expr.Slice (some _) none none _) (Value.bytes _ _) (Value.ref _)) _ _ _); (with_reducible rename Fr _ _ _ _ => kF); (with_reducible rename News _ _ _ _ => kN); (refine slice_i (s := ⟨_, _, _, _, _⟩) kF kN hdk (by omega) (by omega) ?_); intro _ _ _ _ _ _ hcut; (try dsimp only))
  k_with "KswEnd" => ((rename Fr _ _ _ _ => kF); (rename News _ _ _ _ => kN); k_dflt (exact int_end (P := tszInv dk) (M := fun c => (dk.length - c).toNat) kF kN (fmc (List.Mem.head _) (List.forall_mem_nil _)) rfl (by intro z a1; simp [kstB, a1]) (tsz_next hP (by omega) (by assumption)) (by omega)))
  k_with "IntPst" => ((rename Fr _ _ _ _ => kF); (rename News _ _ _ _ => kN); k_dflt (exact int_pst kF kN (fmc (List.Mem.head _) (List.forall_mem_nil _)) rfl ⟨hP, by intro hh; omega⟩ (by intro z a1; simp [kstB, a1])))
  k_steps
  · exact hret _ _ _ _ (.inl ⟨rfl, rfl, tsz_none (by rename at_ = _ => e9; exact e9 ▸ hP0)⟩) (Fr.keep (by assumption)) (Led.nil)
  · exact hret _ _ _ _ (.inr ⟨_, _, _, _, _, _, rfl, rfl, hcut, tsz_some (oct_of hdk) hP0 (by omega) (hP1 (by omega))⟩) (Fr.keep (by assumption)) (Led.sub (Led.of_news (by assumption)) (by walk_at "sub"))
end Mine
open PySem PySem.W PyProof.Rows PySem.Calls PySem.Spec
namespace Mine
set_option maxRecDepth 100000
theorem flat_map_rep {α β : Type} (f : α → β) (l : List α) : ∀ n : Nat, (List.replicate n l).flatten.map f = (List.replicate n (l.map f)).flatten
  | 0 => rfl
  | n + 1 => by rw [List.replicate_succ, List.replicate_succ, List.flatten_cons, List.flatten_cons, List.map_append, flat_map_rep f l n]
section
variable {prog : Program} {w : World} {A : Around} {s : Shared} {E : Value → Shared → Prop}
theorem mul_b {c : Array UInt8} {ks : List Int} {n : Int} {t u : Tok} {Q : Value → Shared → Prop} (hk : KBw.bInts c = ks) (h0 : 0 < ks.length) (h16 : ks.length ≤ 16) (hlo : -1048576 ≤ n) (hn : n ≤ 1048576)
    (h : ∀ d t' k, KBw.bInts d = (List.replicate n.toNat ks).flatten → Q (.bytes d t') { s with toks := k }) : wpAny (model prog w) A (binaryOp .Mult (.bytes c t) (.int n u)) Q E s := by
  have hc := size_of hk
  have e : c = c.toList.toArray := by simp
  have hl : c.toList.length = ks.length := by rw [Array.length_toList, hc]
  rw [e]
  refine bytes_mul_any (b := c.toList) (fun z => by rw [z] at hl; simp only [List.length_nil] at hl; omega) hlo hn (by omega) fun t' k => h _ t' k ?_
  rw [← hk]
  exact flat_map_rep _ _ _
end
theorem rep_len {α : Type} (l : List α) (n : Nat) : (List.replicate n l).flatten.length = n * l.length := by simp
end Mine
open PySem PySem.W PyProof.Rows PySem.Calls PySem.Spec
namespace Mine
set_option maxRecDepth 100000
set_option maxHeartbeats 4000000 in
/-- `_law_text` -/
theorem text2_spec (w : World) {p : Program} {loose : List Str} {mean : ExcName → Option Value} {mg mb : Str → Option Value}
   {base : Heap} (X₀ : (hd.heap_1 w.params).In base) (T₀ : Top p loose mean mg mb base)
   (dp un : Nat) (gd : Option (List Code)) (l : List Env) (hdp : dp + 15 < recursionLimit)
   {n0 sz : Int} {t0 t1 : Tok} (h0 : 0 ≤ n0) (h1 : 0 ≤ sz) (h2 : sz ≤ 131079) :
   Spec PySem.Challenge.rw_jq0004_02.row.prog w (aTop dp un gd l) base l (.ref 59) [.int n0 t0, .int sz t1] []
     (fun v n' => ∃ c ks t, v = .bytes c t ∧ n' = [] ∧ KBw.bInts c = ks ∧ (ks.length : Int) = sz) (.ref 32) (fun _ => False) := by
  have hfill : (fun _ : OpenLaw => hd.heap_1) PySem.Challenge.rw_jq0004_02 = hd.heap_1 := by (k_fill; rfl)
  clear hfill
  have u1 := fdiv_bd (d := 7) (b := 18726) h1 (by decide) (by omega)
  obtain ⟨u10, u11⟩ := u1
  intro g s Q E B hg hsz N hret hexc
  have X := X₀.keeps B.stays
  have T := T₀.keeps B.stays
  all_goals refine wpAny_call ?_
  all_goals k_dflt (refine' enter_defC hg hsz N X T ?k6 ?k7 ?k8 ?k9 ?kB ?kD ?_ ?c2 ?c3 ?c4; (case k6 => k_is); (case k7 => k_is); (case k8 => ktr_room); (case k9 => exact BindsTo.of_eq rfl); (case kB => exact rfl); (case kD => decide +kernel); (case c2 => exact rfl); (case c3 => exact rfl); (case c4 => exact rfl); k_whole; intro L' h' tk' cells' F' N' Y' l1; (try k_lt l1); k_cells Y'; (try simp only [List.cons_append, List.nil_append] at N'); (try dsimp only); (try k_fold))
  k_with_none
  k_with "execs cons" => k_fold
  k_with "eval Call" => k_fold
  k_with "storeName" => (k_here; k_dflt (first | (refine' storeI_L ?F ?N ?_ ?a ?b; (case F => k_asm); (case N => k_asm); (case a => rfl); (case b => rfl); k_whole; intro h' tk' t' F' N'; (try k_sweep); (try dsimp only); (try k_fold)) | (refine' storeB_L ?F ?N ?_ ?a ?b; (case F => k_asm); (case N => k_asm); (case a => rfl); (case b => rfl); k_whole; intro h' tk' t' F' N'; (try k_sweep); (try dsimp only); (try k_fold)) | (refine' storeG_L ?F ?N ?_ ?a ?b; (case F => k_asm); (case N => k_asm); (case a => rfl); (case b => rfl); k_whole; intro h' tk' F' N'; (try k_sweep); (try dsimp only); (try k_fold))))
  k_with "sub" => (exact fun q9 hq9 => List.Sublist.subset (by with_reducible (repeat (first | exact List.Sublist.refl _ | exact List.nil_sublist _ | refine List.Sublist.cons_cons _ ?_ | refine List.Sublist.cons _ ?_))) hq9)
  k_with "binaryOp FloorDiv int int" => (k_here; (refine fdiv_pw 256 (by decide) (by decide) (by omega) ?_); intro _ _; (try dsimp only))
  k_with "binaryOp Mult bytes int" => (k_here; (with_reducible show wpAny _ _ (binaryOp _ (Value.bytes _ _) (Value.int _ _)) _ _ _); (refine mul_b (KBa.ints_make (by assumption)) ?h0 ?h16 (by omega) (by omega) ?_; (case h0 => (rw [List.length_map, rangeKs_length]; decide)); (case h16 => (rw [List.length_map, rangeKs_length]; decide))); intro _ _ _ hmul; (try dsimp only))
  k_with "subscriptTail Name Slice bytes ref" => (k_here; (with_reducible show wpAny _ _ (subscriptTail _ (PySem.Expr.Slice none (some _) none _) (Value.bytes _ _) (Value.ref _)) _ _ _); (with_reducible rename Fr _ _ _ _ => kF); (with_reducible rename News _ _ _ _ => kN); (refine slice_j (s := ⟨_, _, _, _, _⟩) kF kN hmul h1 ?hz ?_; (case hz => (rw [rep_len, List.length_map, rangeKs_length]; omega))); intro _ _ _ _ _ _ hcut; (try dsimp only))
  k_with "CompSrc" => (k_here; k_dflt (refine LCg.CompSrc.range (by rfl) (by k_asm) (by k_asm) (by assumption) (by decide) (by rfl) (by size_fits) ?_; intro g'; (refine' kcf_range (n := 7) (fun a => (n0.fdiv (256 ^ a.toNat) + 37 * a).fmod 256) (fun k' t' I' oI' C' oC' D' m' ys' h' tk' E' hlo' hhi' hC' hx' F' N' off' ne' hMark' => ?_) ?_); (all_goals (try (simp only [LCg.Off3, and_true] at off'))); kcf_last))
  k_steps
  exact hret _ _ _ _ ⟨_, _, _, rfl, rfl, hcut, by rw [List.length_take, rep_len, List.length_map, rangeKs_length, Int.fdiv_eq_ediv_of_nonneg _ (by decide)]; omega⟩ (Fr.keep (by assumption)) (Led.nil)
end Mine
open PySem PySem.W PyProof.Rows PySem.Calls PySem.Spec
namespace Mine
set_option maxRecDepth 100000
section
variable {prog : Program} {w : World} {A : Around} {h₀ : Heap} {L : Addr} {m : Str → Option Value} {env : Env} {ct : Expr} {x : Str} {scope : Scope} {cl : List (Str × Addr)} {s : Shared} {S : List (Addr × Obj) → Prop} {P : Nat → Value → Prop} {Fin : List Value → List (Addr × Obj) → Prop} {news : List (Addr × Obj)}
/-- what a comprehension's test leaves -/
noncomputable def TstEnd (h₀ : Heap) (L : Addr) (m : Str → Option Value) (led : List (Addr × Obj)) (b : Bool) (s : Shared) (ok : Bool) (s' : Shared) : Prop :=
  ok = b ∧ ∃ h tk, s' = { s with heap := h, toks := tk } ∧ Fr h₀ L h m ∧ News h₀ L h led
theorem tst_end {led led' : List (Addr × Obj)} {b ok : Bool} {h : Heap} {tk : Nat} (F : Fr h₀ L h m) (N : News h₀ L h led') (hs : ∀ q ∈ led, q ∈ led') (e : ok = b) : TstEnd h₀ L m led b s ok { s with heap := h, toks := tk } := ⟨e, _, _, rfl, F, fun q hq => N q (hs q hq)⟩
/-- a comprehension that sifts the ints of a range -/
theorem sift_range {n : Nat} {a : Int} {pos : Pos} (p : Int → Bool) (hS : S news)
    (turn : ∀ k t I oI C oC D m₂ ys h tk (E' : Value → Shared → Prop), a ≤ k → k < a + (n : Int) → LCg.NsObj oC m₂ → m₂ x = some (.int k t) → Fr h₀ L h m → News h₀ L h ((I, oI) :: (C, oC) :: (D, LCg.lst ys) :: news) → LCg.Off3 I C D news → ((@Ne Nat I C) ∧ (@Ne Nat I D) ∧ (@Ne Nat C D)) → KPfMark →
      wpAny (model prog w) A (isTrue ct (compEnvC scope cl C env) (eval ct (compEnvC scope cl C env))) (TstEnd h₀ L m ((I, oI) :: (C, oC) :: (D, LCg.lst ys) :: news) (p k) { s with heap := h, toks := tk }) E' { s with heap := h, toks := tk })
    (fin : ∀ ys, IntsAre ys ((rangeKs a n).filter p) → Fin ys news)
    (hk : ∀ C, (compEnvC scope cl C env).scope.kind = .function := by intro _; rfl) (hl : ∀ C, (compEnvC scope cl C env).kindOf x = some .local := by intro _; rfl) (hd : (x == ("__debug__" : Str)) = false := by decide) :
    LCt.CompRestT prog w A h₀ L m env ct (.Name x pos) x scope cl s S (fun i v => ∃ t, v = .int (a + (i : Int)) t) Fin n 0 [] news := by
  have key : ∀ (j i : Nat) (ys : List Value), i + j = n → IntsAre ys (((rangeKs a n).take i).filter p) → LCt.CompRestT prog w A h₀ L m env ct (.Name x pos) x scope cl s S (fun i v => ∃ t, v = .int (a + (i : Int)) t) Fin j i ys news := by
    intro j
    induction j with
    | zero =>
      intro i ys hi hy
      have e : (rangeKs a n).take i = rangeKs a n := List.take_of_length_le (by rw [rangeKs_length]; omega)
      rw [e] at hy
      exact LCt.CompRestT.zero (fin ys hy)
    | succ j ih =>
      intro i ys hi hy
      refine LCt.CompRestT.succ ?_
      intro v I oI C oC D m₂ h tk E' hv hC hx F N off ne
      obtain ⟨t, rfl⟩ := hv
      have hg : (rangeKs a n)[i]? = some (a + (i : Int)) := by
        have : i < n := by omega
        simp [rangeKs, this]
      refine wpAny_mono (turn _ t I oI C oC D m₂ ys h tk E' (by omega) (by omega) hC hx F N off ne True.intro) (fun ok s₂ hq => ?_) fun _ _ e => e
      obtain ⟨hok, h₂, tk₂, rfl, F₂, N₂⟩ := hq
      have et : ((rangeKs a n).take (i + 1)).filter p = ((rangeKs a n).take i).filter p ++ [a + (i : Int)].filter p := by
        rw [List.take_add_one, hg, List.filter_append]; rfl
      cases ok with
      | true =>
        rw [if_pos rfl]
        refine LCgL.ld_own N₂ (List.Mem.tail _ (List.Mem.head _)) hC hx ?_ (hk C) (hl C) hd
        refine ⟨h₂, tk₂, news, rfl, F₂, N₂, off, hS, ih (i + 1) _ (by omega) ?_⟩
        rw [et, List.filter_cons, if_pos hok.symm]
        exact IntsAre.append hy (.cons _ _ .nil)
      | false =>
        rw [if_neg (by decide)]
        refine ⟨h₂, tk₂, news, rfl, F₂, N₂, off, hS, ih (i + 1) _ (by omega) ?_⟩
        rw [et, List.filter_cons, if_neg (by rw [← hok]; decide), List.filter_nil, List.append_nil]
        exact hy
  exact key n 0 [] (by omega) (by simp only [List.take_zero, List.filter_nil]; exact .nil)
end
end Mine
open PySem PySem.W PyProof.Rows PySem.Calls PySem.Spec
namespace Mine
set_option maxRecDepth 100000
noncomputable def octG (n : Int) (a : Int) : Int := (n.fdiv (256 ^ a.toNat)).fmod 256
noncomputable def toldL (st sz : Int) : List Int := (rangeKs 0 4).map (octG st) ++ (rangeKs 0 3).map (octG sz)
noncomputable def shownP (full : Bool) (ts : List Int) (k : Int) : Bool := full || decide (0 < ts.getD k.toNat 0)
noncomputable abbrev shownL (full : Bool) (ts : List Int) : List Int := (rangeKs 0 7).filter (shownP full ts)
noncomputable def copyL (st sz : Int) (full : Bool) : List Int := (128 + ((shownL full (toldL st sz)).map fun k => 2 ^ k.toNat).sum) :: (shownL full (toldL st sz)).map fun k => (toldL st sz).getD k.toNat 0
theorem toldL_len (st sz : Int) : (toldL st sz).length = 7 := by unfold toldL; rw [List.length_append, List.length_map, List.length_map, rangeKs_length, rangeKs_length]
theorem shown_in {full : Bool} {ts : List Int} {k : Int} (h : k ∈ shownL full ts) : 0 ≤ k ∧ k < 7 := by
  have := mem_rangeKs (List.mem_filter.mp h).1
  exact ⟨this.1, by have := this.2; omega⟩
theorem shown_len (full : Bool) (ts : List Int) : (shownL full ts).length ≤ 7 := by
  have := List.length_filter_le (shownP full ts) (rangeKs 0 7)
  rwa [rangeKs_length] at this
theorem shown_a {full : Bool} {ts : List Int} {k : Int} (h : full = true) : true = shownP full ts k := by unfold shownP; rw [h]; rfl
theorem shown_b {full : Bool} {ts : List Int} {k : Int} (h : full = false) (h1 : 0 < ts.getD k.toNat 0) : true = shownP full ts k := by unfold shownP; rw [h, decide_eq_true h1]; rfl
theorem shown_c {full : Bool} {ts : List Int} {k : Int} (h : full = false) (h1 : ¬ 0 < ts.getD k.toNat 0) : false = shownP full ts k := by unfold shownP; rw [h, decide_eq_false h1]; rfl
theorem sum_sift (p : Int → Bool) (f : Int → Int) (hf : ∀ a, 0 ≤ f a) : ∀ l : List Int, 0 ≤ ((l.filter p).map f).sum ∧ ((l.filter p).map f).sum ≤ (l.map f).sum
  | [] => ⟨Int.le_refl _, Int.le_refl _⟩
  | a :: r => by
    have ih := sum_sift p f hf r
    have ha := hf a
    rw [List.filter_cons]
    split
    · simp only [List.map_cons, List.sum_cons]; omega
    · simp only [List.map_cons, List.sum_cons]; omega
theorem octG_bd (n a : Int) : 0 ≤ octG n a ∧ octG n a < 256 := fmod_bd _ (by decide)
theorem toldL_in (st sz : Int) : KBa.In (toldL st sz) := fun y hy => by
  unfold toldL at hy
  rcases List.mem_append.mp hy with hy | hy <;> (obtain ⟨a, _, rfl⟩ := List.mem_map.mp hy; exact octG_bd _ _)
theorem getD_in {ks : List Int} (h : KBa.In ks) (j : Nat) : 0 ≤ ks.getD j 0 ∧ ks.getD j 0 < 256 := by
  rw [List.getD_eq_getElem?_getD]
  cases e : ks[j]? with
  | none => decide
  | some v => exact h v (List.mem_of_getElem? e)
theorem copyL_in (st sz : Int) (full : Bool) : KBa.In (copyL st sz full) := fun y hy => by
  unfold copyL at hy
  rcases List.mem_cons.mp hy with rfl | hy
  · have u := sum_sift (shownP full (toldL st sz)) (fun k => 2 ^ k.toNat) (fun a => Int.le_of_lt (Int.pow_pos (by decide))) (rangeKs 0 7)
    have e : ((rangeKs 0 7).map fun k => (2 : Int) ^ k.toNat).sum = 127 := by decide
    rw [e] at u
    unfold shownL
    omega
  · obtain ⟨a, _, rfl⟩ := List.mem_map.mp hy
    exact getD_in (toldL_in st sz) _
theorem copyL_len (st sz : Int) (full : Bool) : (copyL st sz full).length ≤ 8 := by
  have := shown_len full (toldL st sz)
  unfold copyL
  rw [List.length_cons, List.length_map]
  omega
set_option maxHeartbeats 4000000 in
/-- `_law_copy` -/
theorem copy2_spec (w : World) {p : Program} {loose : List Str} {mean : ExcName → Option Value} {mg mb : Str → Option Value}
   {base : Heap} (X₀ : (hd.heap_1 w.params).In base) (T₀ : Top p loose mean mg mb base)
   (dp un : Nat) (gd : Option (List Code)) (l : List Env) (hdp : dp + 15 < recursionLimit)
   {st sz : Int} {full : Bool} {t0 t1 : Tok} (h0 : 0 ≤ st) (h1 : st < 4294967296) (hm0 : 0 ≤ sz) (hm1 : sz < 16777216) :
   Spec PySem.Challenge.rw_jq0004_02.row.prog w (aTop dp un gd l) base l (.ref 76) [.int st t0, .int sz t1, .bool full] []
     (fun v n' => ∃ b t, v = .bytes b t ∧ n' = [] ∧ KBw.bInts b = copyL st sz full) (.ref 32) (fun _ => False) := by
  have hfill : (fun _ : OpenLaw => hd.heap_1) PySem.Challenge.rw_jq0004_02 = hd.heap_1 := by (k_fill; rfl)
  clear hfill
  intro g s Q E B hg hsz N hret hexc
  have X := X₀.keeps B.stays
  have T := T₀.keeps B.stays
  all_goals refine wpAny_call ?_
  all_goals k_dflt (refine' enter_defC hg hsz N X T ?k6 ?k7 ?k8 ?k9 ?kB ?kD ?_ ?c2 ?c3 ?c4; (case k6 => k_is); (case k7 => k_is); (case k8 => ktr_room); (case k9 => exact BindsTo.of_eq rfl); (case kB => exact rfl); (case kD => decide +kernel); (case c2 => exact rfl); (case c3 => exact rfl); (case c4 => exact rfl); k_whole; intro L' h' tk' cells' F' N' Y' l1; (try k_lt l1); k_cells Y'; (try simp only [List.cons_append, List.nil_append] at N'); (try dsimp only); (try k_fold))
  k_with_none
  k_with "execs cons" => k_fold
  k_with "eval Call" => k_fold
  k_with "storeName" => (k_here; k_dflt (first | (refine' storeI_L ?F ?N ?_ ?a ?b; (case F => k_asm); (case N => k_asm); (case a => rfl); (case b => rfl); k_whole; intro h' tk' t' F' N'; (try k_sweep); (try dsimp only); (try k_fold)) | (refine' storeB_L ?F ?N ?_ ?a ?b; (case F => k_asm); (case N => k_asm); (case a => rfl); (case b => rfl); k_whole; intro h' tk' t' F' N'; (try k_sweep); (try dsimp only); (try k_fold)) | (refine' storeG_L ?F ?N ?_ ?a ?b; (case F => k_asm); (case N => k_asm); (case a => rfl); (case b => rfl); k_whole; intro h' tk' F' N'; (try k_sweep); (try dsimp only); (try k_fold))))
  k_with "sub" => (exact fun q9 hq9 => List.Sublist.subset (by with_reducible (repeat (first | exact List.Sublist.refl _ | exact List.nil_sublist _ | refine List.Sublist.cons_cons _ ?_ | refine List.Sublist.cons _ ?_))) hq9)
  k_with "binaryOp FloorDiv int int" => (k_here; (refine fdiv_pw 256 (by decide) (by decide) (by omega) ?_); intro _ _; (try dsimp only))
  k_with "CompSrc" => (k_here; (with_reducible show LCg.CompSrc _ _ _ _ _ _ _ (Expr.BinOp (Expr.BinOp (Expr.Name "start" _) _ _ _) _ _ _) _ _ _ _ _ _); k_dflt (refine LCg.CompSrc.range (by rfl) (by k_asm) (by k_asm) (by assumption) (by decide) (by rfl) (by size_fits) ?_; intro g'; (refine' kcf_range (n := 4) (octG st) (fun k' t' I' oI' C' oC' D' m' ys' h' tk' E' hlo' hhi' hC' hx' F' N' off' ne' hMark' => ?_) ?_); (all_goals (try (simp only [LCg.Off3, and_true] at off'))); kcf_last))
  k_with "CompSrc" => (k_here; (with_reducible show LCg.CompSrc _ _ _ _ _ _ _ (Expr.BinOp (Expr.BinOp (Expr.Name "size" _) _ _ _) _ _ _) _ _ _ _ _ _); k_dflt (refine LCg.CompSrc.range (by rfl) (by k_asm) (by k_asm) (by assumption) (by decide) (by rfl) (by size_fits) ?_; intro g'; (refine' kcf_range (n := 3) (octG sz) (fun k' t' I' oI' C' oC' D' m' ys' h' tk' E' hlo' hhi' hC' hx' F' N' off' ne' hMark' => ?_) ?_); (all_goals (try (simp only [LCg.Off3, and_true] at off'))); kcf_last))
  k_with "CompSrc" => (k_here; (with_reducible show LCg.CompSrc _ _ _ _ _ _ _ (Expr.BinOp (Expr.Constant _ _ _) _ _ _) _ _ _ _ _ _); k_dflt (refine LCg.CompSrc.ledger (by rfl) (by k_asm) (by k_asm) (by k_mem) (by rw [List.size_toArray, kShl, sizeLine_eq]; exact Nat.le_trans (shown_len _ _) (by decide)) ?_; intro g'; (refine' kcf_list (fun a => 2 ^ a.toNat) kSh (fun k' t' I' oI' C' oC' D' m' ys' h' tk' E' hk' hC' hx' F' N' off' ne' hMark' => ?_) ?_); (all_goals (try (obtain ⟨hb8, hb9⟩ := shown_in hk'))); (all_goals (try (simp only [LCg.Off3, and_true] at off'))); kcf_last))
  k_with "CompSrc" => (k_here; (with_reducible show LCg.CompSrc _ _ _ _ _ _ _ (Expr.Subscript _ _ _) _ _ _ _ _ _); k_dflt (refine LCg.CompSrc.ledger (by rfl) (by k_asm) (by k_asm) (by k_mem) (by rw [List.size_toArray, kShl, sizeLine_eq]; exact Nat.le_trans (shown_len _ _) (by decide)) ?_; intro g'; (refine' kcf_list (fun k => (toldL st sz).getD k.toNat 0) kSh (fun k' t' I' oI' C' oC' D' m' ys' h' tk' E' hk' hC' hx' F' N' off' ne' hMark' => ?_) ?_); (all_goals (try (simp only [LCg.Off3, and_true] at off'))); kcf_last))
  k_with "eval ListComp" => (k_here; k_dflt (refine LCg.ListComp_U (F₀ := by k_asm) (by with_unfolding_all rfl) (by decide) (by rfl) (by decide) (by rfl) ?_))
  k_with "binaryOp Pow int int" => (k_here; (refine pow_int_small ?k1 ?k2 (by decide) ?_); (case k1 => first | omega | exact (shown_in (by assumption)).1); (case k2 => first | omega | (have := (shown_in (by assumption)).2; omega)))
  k_with "TstEnd" => ((rename Fr _ _ _ _ => kF); (rename News _ _ _ _ => kN); k_dflt (exact tst_end kF kN (by walk_at "sub") (by first | exact shown_a (by assumption) | exact shown_b (by assumption) (by assumption) | exact shown_c (by assumption) (by assumption))))
  k_with "binaryOp Add ref ref" => (k_here; (rename IntsAre _ (List.map (fun k => (toldL st sz).getD _ _) _) => kT); k_dflt (refine' kmk_add_ints ?F ?N ?a ?b (.cons _ _ .nil) kT ?_ ?z; (case F => k_asm); (case N => k_asm); (case a => kmk_list); (case b => kmk_list); (case z => (rw [List.length_map, sizeLine_eq]; have := shown_len full (toldL st sz); simp only [List.length_cons, List.length_nil]; omega)); k_whole); intro D7 us7 h7 F7 N7 l7 hI7; (try k_lt l7))
  k_with "call type:bytes" => (k_here; (with_reducible show wpAny _ _ (call (Value.type "bytes") [Value.ref _]) _ _ _); (rename Fr _ _ _ _ => kF); (rename News _ _ _ _ => kN); k_dflt (refine' KBa.make_K (s := ⟨_, _, _, _, _⟩) (ns := copyL st sz full) kF kN rfl (News.isList kN (List.Mem.head _)) hI7 (copyL_in _ _ _) ?hz ?_; (case hz => exact Nat.le_trans (copyL_len _ _ _) (by decide))); intro _ _ _ _ _ kbaIn; (try dsimp only))
  k_with "FinA" => ((unfold LCg.FinA); (rename IntsAre _ _ => kSh); intro D' h' tk' F' N' o1'; (try simp only [LCg.Off1, and_true] at o1'); (try simp only [List.nil_append, List.cons_append] at N'); (change IntsAre _ (shownL full (toldL st sz)) at kSh); (have kShl := kSh.length); (try dsimp only))
  k_with "subscriptTail" => (k_here; (with_reducible show wpAny _ _ (subscriptTail _ _ (Value.ref _) (Value.int _ _)) _ _ _); k_dflt (refine' ksa_sub (ns := toldL st sz) ?k1 ?k2 ?k3 ?k4 ?k5 ?k6 ?_ ?k7; (case k1 => k_asm); (case k2 => k_mem); (case k3 => assumption); (case k4 => first | omega | exact (shown_in (by assumption)).1); (case k5 => rw [toldL_len]; first | omega | exact (shown_in (by assumption)).2); (case k6 => first | omega | (have := (shown_in (by assumption)).2; omega)); (case k7 => with_unfolding_all rfl); k_whole); intro _)
  k_with "KCfEl" => (first | exact kcf_el (r' := (Int.fdiv _ _).fmod _) rfl rfl rfl | exact kcf_el (r' := 2 ^ _) rfl rfl rfl | exact kcf_el (r' := (toldL st sz).getD _ _) rfl rfl rfl)
  k_with "CompSrcT" => (k_here; k_dflt (refine LCt.CompSrcT.range (by rfl) (by k_asm) (by k_asm) (by assumption) (by decide) (by rfl) (by size_fits) ?_; intro g'; (refine' sift_range (n := 7) (shownP full (toldL st sz)) trivial (fun k' t' I' oI' C' oC' D' m' ys' h' tk' E' hlo' hhi' hC' hx' F' N' off' ne' hMark' => ?_) ?_); (all_goals (try (simp only [LCg.Off3, and_true] at off')))))
  k_steps
  all_goals exact hret _ _ _ _ ⟨_, _, rfl, rfl, KBa.ints_make (copyL_in _ _ _)⟩ (Fr.keep (by assumption)) (Led.nil)
end Mine
open PySem PySem.W PyProof.Rows PySem.Calls PySem.Spec
namespace Mine
set_option maxRecDepth 100000
noncomputable def pieG (n : Int) (a : Int) : Int := 64 + (n.fdiv (64 ^ a.toNat) + 9 * a).fmod 64
theorem pieG_bd (n a : Int) : 64 ≤ pieG n a ∧ pieG n a < 128 := by
  have := fmod_bd (n.fdiv (64 ^ a.toNat) + 9 * a) (show (0 : Int) < 64 by decide)
  unfold pieG; omega +splitDisjunctions
theorem pieG_in (n : Int) (ks : List Int) : KBa.In (ks.map (pieG n)) := fun y hy => by
  obtain ⟨a, _, rfl⟩ := List.mem_map.mp hy
  have := pieG_bd n a; omega
theorem two_in {n : Int} : KBa.In [n.fmod 256, (n.fdiv 256).fmod 256] := fmc (fmod_bd _ (by decide)) ((fmc (fmod_bd _ (by decide)) (List.forall_mem_nil _)))
theorem pie_hi (a b n : Int) (m k : Nat) (ks : List Int) : hiN (([a, b] ++ (List.replicate m (ks.map (pieG n))).flatten).take k) ≤ 2 := by
  refine Nat.le_trans (hiN_take _ _) ?_
  rw [hiN_app, hiN_low (a := (List.replicate m _).flatten) fun y hy => ?_]
  · exact hiN_len [a, b]
  · obtain ⟨l, hl, hy⟩ := List.mem_flatten.mp hy
    rw [(List.mem_replicate.mp hl).2] at hy
    obtain ⟨c, _, rfl⟩ := List.mem_map.mp hy
    exact (pieG_bd n c).2
set_option maxHeartbeats 4000000 in
/-- `_law_piece` -/
theorem piece2_spec (w : World) {p : Program} {loose : List Str} {mean : ExcName → Option Value} {mg mb : Str → Option Value}
   {base : Heap} (X₀ : (hd.heap_1 w.params).In base) (T₀ : Top p loose mean mg mb base)
   (dp un : Nat) (gd : Option (List Code)) (l : List Env) (hdp : dp + 15 < recursionLimit)
   {n0 sz : Int} {t0 t1 : Tok} (h1 : 1 ≤ sz) (h2 : sz ≤ 127) :
   Spec PySem.Challenge.rw_jq0004_02.row.prog w (aTop dp un gd l) base l (.ref 81) [.int n0 t0, .int sz t1] []
     (fun v n' => ∃ c ks t, v = .bytes c t ∧ n' = [] ∧ KBw.bInts c = ks ∧ (ks.length : Int) = sz ∧ hiN ks ≤ 2) (.ref 32) (fun _ => False) := by
  have hfill : (fun _ : OpenLaw => hd.heap_1) PySem.Challenge.rw_jq0004_02 = hd.heap_1 := by (k_fill; rfl)
  clear hfill
  intro g s Q E B hg hsz N hret hexc
  have X := X₀.keeps B.stays
  have T := T₀.keeps B.stays
  all_goals refine wpAny_call ?_
  all_goals k_dflt (refine' enter_defC hg hsz N X T ?k6 ?k7 ?k8 ?k9 ?kB ?kD ?_ ?c2 ?c3 ?c4; (case k6 => k_is); (case k7 => k_is); (case k8 => ktr_room); (case k9 => exact BindsTo.of_eq rfl); (case kB => exact rfl); (case kD => decide +kernel); (case c2 => exact rfl); (case c3 => exact rfl); (case c4 => exact rfl); k_whole; intro L' h' tk' cells' F' N' Y' l1; (try k_lt l1); k_cells Y'; (try simp only [List.cons_append, List.nil_append] at N'); (try dsimp only); (try k_fold))
  k_with_none
  k_with "execs cons" => k_fold
  k_with "eval Call" => k_fold
  k_with "storeName" => (k_here; k_dflt (first | (refine' storeI_L ?F ?N ?_ ?a ?b; (case F => k_asm); (case N => k_asm); (case a => rfl); (case b => rfl); k_whole; intro h' tk' t' F' N'; (try k_sweep); (try dsimp only); (try k_fold)) | (refine' storeB_L ?F ?N ?_ ?a ?b; (case F => k_asm); (case N => k_asm); (case a => rfl); (case b => rfl); k_whole; intro h' tk' t' F' N'; (try k_sweep); (try dsimp only); (try k_fold)) | (refine' storeG_L ?F ?N ?_ ?a ?b; (case F => k_asm); (case N => k_asm); (case a => rfl); (case b => rfl); k_whole; intro h' tk' F' N'; (try k_sweep); (try dsimp only); (try k_fold))))
  k_with "sub" => (exact fun q9 hq9 => List.Sublist.subset (by with_reducible (repeat (first | exact List.Sublist.refl _ | exact List.nil_sublist _ | refine List.Sublist.cons_cons _ ?_ | refine List.Sublist.cons _ ?_))) hq9)
  k_with "CompSrc" => (k_here; k_dflt (refine LCg.CompSrc.range (by rfl) (by k_asm) (by k_asm) (by assumption) (by decide) (by rfl) (by size_fits) ?_; intro g'; (refine' kcf_range (n := 7) (pieG n0) (fun k' t' I' oI' C' oC' D' m' ys' h' tk' E' hlo' hhi' hC' hx' F' N' off' ne' hMark' => ?_) ?_); (all_goals (try (simp only [LCg.Off3, and_true] at off'))); kcf_last))
  k_with "binaryOp Pow int int" => (k_here; (refine pow_int_small (by omega) (by omega) (by decide) ?_))
  k_with "binaryOp FloorDiv int int" => (k_here; (refine fdiv_pw 64 (by decide) (by decide) (by omega) ?_); intro _ _; (try dsimp only))
  k_with "KCfEl" => (exact kcf_el (r' := 64 + Int.fmod _ _) rfl rfl rfl)
  k_with "call type:bytes" => (k_here; (with_reducible show wpAny _ _ (call (Value.type "bytes") [Value.ref _]) _ _ _); (rename Fr _ _ _ _ => kF); (rename News _ _ _ _ => kN); k_dflt (first | (refine' KBa.make_K (s := ⟨_, _, _, _, _⟩) (ns := [n0.fmod 256, (n0.fdiv 256).fmod 256]) kF kN rfl (News.isList kN (List.Mem.head _)) (.cons _ _ (.cons _ _ .nil)) two_in (by decide) ?_) | (refine' KBa.make_K (s := ⟨_, _, _, _, _⟩) kF kN rfl (News.isList kN (List.Mem.head _)) (by assumption) (pieG_in n0 _) ?hz ?_; (case hz => rw [List.length_map, rangeKs_length]; decide))); intro _ _ _ _ _ kbaIn; (try dsimp only))
  k_with "binaryOp Mult bytes int" => (k_here; (with_reducible show wpAny _ _ (binaryOp _ (Value.bytes _ _) (Value.int _ _)) _ _ _); (refine mul_b (KBa.ints_make (pieG_in n0 _)) ?h0 ?h16 (by decide) (by decide) ?_; (case h0 => (rw [List.length_map, rangeKs_length]; decide)); (case h16 => (rw [List.length_map, rangeKs_length]; decide))); intro _ _ _ hmul; (try dsimp only))
  k_with "binaryOp Add bytes bytes" => (k_here; (with_reducible show wpAny _ _ (binaryOp _ (Value.bytes _ _) (Value.bytes _ _)) _ _ _); k_dflt (refine KBa.add_K (ks := [n0.fmod 256, (n0.fdiv 256).fmod 256]) (KBa.ints_make two_in) hmul ?hz ?_; (case hz => (rw [rep_len, List.length_map, rangeKs_length]; simp only [List.length_cons, List.length_nil]; decide))); intro _ _ hadd; (try dsimp only))
  k_with "subscriptTail Name Slice bytes ref" => (k_here; (with_reducible show wpAny _ _ (subscriptTail _ (PySem.Expr.Slice none (some _) none _) (Value.bytes _ _) (Value.ref _)) _ _ _); (with_reducible rename Fr _ _ _ _ => kF); (with_reducible rename News _ _ _ _ => kN); (refine slice_j (s := ⟨_, _, _, _, _⟩) kF kN hadd (by omega) ?hz ?_; (case hz => (rw [List.length_append, rep_len, List.length_map, rangeKs_length]; simp only [List.length_cons, List.length_nil]; decide))); intro _ _ _ _ _ _ hcut; (try dsimp only))
  k_steps
  all_goals exact hret _ _ _ _ ⟨_, _, _, rfl, rfl, hcut, (by rw [List.length_take, List.length_append, rep_len, List.length_map, rangeKs_length, List.length_cons, List.length_cons, List.length_nil, show Int.toNat 18 = 18 from rfl]; omega), pie_hi _ _ _ _ _ _⟩ (Fr.keep (by assumption)) (Led.nil)
end Mine
end
open PySem PySem.W PyProof.Rows PySem.Calls PySem.Spec
namespace Mine
set_option maxRecDepth 100000
/-- what a row of the law's is: its octets, and what it yields over the text bk -/
noncomputable def RowOk (bk o p : List Int) : Prop := (o = [(p.length : Int)] ++ p ∧ 1 ≤ p.length ∧ p.length ≤ 127 ∧ hiN p ≤ 2) ∨
  ∃ st sz sz' full, o = copyL st sz full ∧ sz' = (if sz = 0 then 65536 else sz) ∧ p = cut bk st (st + sz') ∧ 0 ≤ st ∧ 0 ≤ sz ∧ sz < 16777216 ∧ st + sz' ≤ bk.length
theorem len_pos {b : Array UInt8} {bk : List Int} (h : (b.toList == #[].toList) = false) (hk : KBw.bInts b = bk) : 0 < (bk.length : Int) := by
  subst hk
  rw [KBw.ints_length]
  rcases Nat.eq_zero_or_pos b.size with e | e
  · rw [Array.size_eq_zero_iff.mp e] at h; cases h
  · omega
theorem one_in {n : Int} (h0 : 0 ≤ n) (h1 : n < 256) : KBa.In [n] := fmc (⟨h0, h1⟩) (List.forall_mem_nil _)
theorem min_mod {x n st : Int} (h : 1 ≤ n - st) : 1 ≤ 1 + x.fmod (if 300 < n - st then 300 else n - st) ∧ st + (1 + x.fmod (if 300 < n - st then 300 else n - st)) ≤ n := by
  split
  · have := fmod_bd x (show (0 : Int) < 300 by decide); omega +splitDisjunctions
  · have := fmod_bd x (show (0 : Int) < n - st by omega +splitDisjunctions); omega +splitDisjunctions
theorem row_ins {bk kp : List Int} {bp : Array UInt8} (hk : KBw.bInts bp = kp) (h1 : 1 ≤ kp.length) (h2 : kp.length ≤ 127) (h3 : hiN kp ≤ 2) : RowOk bk (KBw.bInts (#[((kp.length : Int)).toNat.toUInt8] ++ bp)) (KBw.bInts bp) := by
  have e := KBw.ints_app (KBa.ints_make (one_in (n := kp.length) (by omega) (by omega))) hk
  rw [hk]
  exact .inl ⟨e, h1, h2, h3⟩
theorem row_copy {bk : List Int} {c p : Array UInt8} {st sz sz' : Int} {full : Bool} (hc : KBw.bInts c = copyL st sz full) (hp : KBw.bInts p = (bk.drop (clipAt bk.length st)).take (clipAt bk.length (st + sz') - clipAt bk.length st)) (e : sz' = (if sz = 0 then 65536 else sz)) (h0 : 0 ≤ st) (h1 : 0 ≤ sz) (h2 : sz < 16777216) (h3 : st + sz' ≤ bk.length) :
    RowOk bk (KBw.bInts c) (KBw.bInts p) := .inr ⟨st, sz, sz', full, hc, e, hp.trans (cut_clip bk h0 (by split at e <;> omega)), h0, h1, h2, h3⟩
set_option maxHeartbeats 4000000 in
/-- `_law_row` -/
theorem row2_spec (w : World) {p : Program} {loose : List Str} {mean : ExcName → Option Value} {mg mb : Str → Option Value}
   {base : Heap} (X₀ : (hd.heap_1 w.params).In base) (T₀ : Top p loose mean mg mb base)
   (dp un : Nat) (gd : Option (List Code)) (l : List Env) (hdp : dp + 20 < recursionLimit)
   {b : Array UInt8} {bk : List Int} {n0 : Int} {t0 t1 : Tok} (hbk : KBw.bInts b = bk) (hbl : bk.length ≤ 131079) :
   Spec PySem.Challenge.rw_jq0004_02.row.prog w (aTop dp un gd l) base l (.ref 88) [.bytes b t0, .int n0 t1] []
     (fun v n' => ∃ D c1 c2 t1 t2, v = .ref D ∧ n' = [(D, tupO [.bytes c1 t1, .bytes c2 t2])] ∧ RowOk bk (KBw.bInts c1) (KBw.bInts c2)) (.ref 32) (fun _ => False) := by
  have hfill : (fun _ : OpenLaw => hd.heap_1) PySem.Challenge.rw_jq0004_02 = hd.heap_1 := by (k_fill; rfl)
  clear hfill
  have v1 := fmod_bd (n0.fdiv 6) (show (0 : Int) < 127 by decide)
  have v2 := fmod_bd (n0.fdiv 6) (show (0 : Int) < 9 by decide)
  obtain ⟨v10, v11⟩ := v1
  obtain ⟨v20, v21⟩ := v2
  have ut := fun h : 0 < (bk.length : Int) - 65535 => fmod_bd (n0.fdiv 6) h
  have us := fun h : 0 < (bk.length : Int) => fmod_bd (n0.fdiv 6 * 40503) h
  intro g s Q E B hg hsz N hret hexc
  have X := X₀.keeps B.stays
  have T := T₀.keeps B.stays
  all_goals refine wpAny_call ?_
  all_goals k_dflt (refine' enter_def hg hsz N X T ?k6 ?k7 ?k8 ?k9 ?kB ?_ ?c2 ?c3 ?c4 ?c5; (case k6 => k_is); (case k7 => k_is); (case k8 => ktr_room); (case k9 => exact BindsTo.of_eq rfl); (case c5 => decide); (case kB => exact locs rfl); (case c2 => exact rfl); (case c3 => exact rfl); (case c4 => exact rfl); k_whole; intro L' h' F' N' l1; (try k_lt l1); (try dsimp only); (try k_fold))
  k_with_none
  k_with "execs cons" => k_fold
  k_with "eval Call" => k_fold
  k_with "storeName" => (k_here; k_dflt (first | (refine' storeI_L ?F ?N ?_ ?a ?b; (case F => k_asm); (case N => k_asm); (case a => rfl); (case b => rfl); k_whole; intro h' tk' t' F' N'; (try k_sweep); (try dsimp only); (try k_fold)) | (refine' storeB_L ?F ?N ?_ ?a ?b; (case F => k_asm); (case N => k_asm); (case a => rfl); (case b => rfl); k_whole; intro h' tk' t' F' N'; (try k_sweep); (try dsimp only); (try k_fold)) | (refine' storeG_L ?F ?N ?_ ?a ?b; (case F => k_asm); (case N => k_asm); (case a => rfl); (case b => rfl); k_whole; intro h' tk' F' N'; (try k_sweep); (try dsimp only); (try k_fold))))
  k_with "sub" => (exact fun q9 hq9 => List.Sublist.subset (by with_reducible (repeat (first | exact List.Sublist.refl _ | exact List.nil_sublist _ | refine List.Sublist.cons_cons _ ?_ | refine List.Sublist.cons _ ?_))) hq9)
  k_with "binaryOp Mod int int" => (k_here; (refine mod_int' ?k ?_); (case k => first | decide | (have h8 := us hbb; first | omega | (split <;> omega))))
  k_with "exec Assign" => ((k_here; (fail_if_success (have h9 := inPie)); (with_reducible show wpAny _ _ (exec (Stmt.Assign [Expr.Name "piece" _] _ _) _) _ _ _); (rename Fr _ _ _ _ => kF); (rename News _ _ _ _ => kN); k_dflt (refine' cut_byt [] (Str.ofString "piece") (fun ks => 1 ≤ ks.length ∧ ks.length ≤ 127 ∧ hiN ks ≤ 2) kF kN (List.forall_mem_nil _) ?_ ?_); (rotate_left); (clear kF kN; intro kU kH kTk bp kp tp hkp hP kFr kNews; obtain ⟨hp1, hp2, hp3⟩ := hP; (try k_fold)); (rotate_left); ((have inPie : True := trivial); (try k_fold))))
  k_with "BytPst" => ((rename Fr _ _ _ _ => kF); (rename News _ _ _ _ => kN); k_dflt (exact byt_pst kF kN (List.forall_mem_nil _) rfl hk9 ⟨by omega, by omega, hi9⟩ (by intro z a1; simp [kstB, a1])))
  k_with "call ref" => ((with_reducible show wpAny _ _ (call (Value.ref 81) [_, _]) _ _ _); (rename Fr _ _ _ _ => kF); (rename News _ _ _ _ => kN); k_dflt (refine' Spec.use (A₀ := aTop dp un gd l) (piece2_spec w X₀ T₀ (dp + 1) (un + 3) gd _ ?hdp ?h1 ?h2) B kF kN _ (fun _ h => nomatch h) (fun _ h => h) (fun _ _ _ h => nomatch h) rfl rfl ?_ ?_; (case hdp => omega); (case h1 => omega); (case h2 => omega); skip); (rotate_left); ((intro e9 h9 tk9 n9 g9 hx9; exact hx9.elim)); (intro v9 h9 tk9 n9 hr9 F9 N9 ap9; (try dsimp only); (try k_fold); obtain ⟨c9, ks9, t9, rfl, rfl, hk9, hl9, hi9⟩ := hr9; clear ap9; dsimp only [List.cons_append, List.nil_append] at N9; (try k_fold)))
  k_with "call ref" => ((with_reducible show wpAny _ _ (call (Value.ref 76) [_, _, _]) _ _ _); (rename Fr _ _ _ _ => kF); (rename News _ _ _ _ => kN); k_dflt (refine' Spec.use (A₀ := aTop dp un gd l) (copy2_spec w X₀ T₀ (dp + 1) (un + 3) gd _ ?hdp ?h0 ?h1 ?m0 ?m1) B kF kN _ (fun _ h => nomatch h) (fun _ h => h) (fun _ _ _ h => nomatch h) rfl rfl ?_ ?_; (case hdp => omega); (case h0 => first | omega | exact (ut (by omega)).1); (case h1 => first | omega | exact Int.lt_trans (ut (by omega)).2 (by omega)); (case m0 => omega); (case m1 => omega); skip); (rotate_left); ((intro e9 h9 tk9 n9 g9 hx9; exact hx9.elim)); (intro v9 h9 tk9 n9 hr9 F9 N9 ap9; (try dsimp only); (try k_fold); obtain ⟨c9, t9, rfl, rfl, hk9⟩ := hr9; clear ap9; dsimp only [List.cons_append, List.nil_append] at N9; (try k_fold)))
  k_with "exec If" => ((k_here; (fail_if_success (have h9 := inSiz)); (with_reducible show wpAny _ _ (exec (Stmt.If (Expr.Compare (Expr.Name "kind" _) [CmpOp.Lt] _ _) _ _ _) _) _ _ _); (have h8 := us hbb); obtain ⟨h80, h81⟩ := h8; (rename Fr _ _ _ _ => kF); (rename News _ _ _ _ => kN); k_dflt (refine' cut_int [] (Str.ofString "size") (fun v => 1 ≤ v ∧ (n0.fdiv 6 * 40503).fmod bk.length + v ≤ bk.length) kF kN (List.forall_mem_nil _) ?_ ?_); (rotate_left); (clear kF kN; intro kU kH kTk sz tz hP kFr kNews; obtain ⟨hz1, hz2⟩ := hP; (try k_fold)); (rotate_left); ((have inSiz : True := trivial); (try k_fold))))
  k_with "IntPst" => ((rename Fr _ _ _ _ => kF); (rename News _ _ _ _ => kN); k_dflt (first | exact int_pst kF kN (List.forall_mem_nil _) rfl ⟨by omega, by omega⟩ (by intro z a1; simp [kstB, a1]) | exact int_pst kF kN (List.forall_mem_nil _) rfl (min_mod (by omega)) (by intro z a1; simp [kstB, a1])))
  k_with "isTrue BoolOp" => (k_here; (fail_if_success (have h9 := inOr)); (with_reducible show wpAny _ _ (isTrue (Expr.BoolOp BoolOp.Or _ _) _ _) _ _ _); (rename Fr _ _ _ _ => kF); (rename News _ _ _ _ => kN); k_dflt (refine' cut_bool _ (fun bb => bb = true ∨ 0 < (bk.length : Int)) kF kN (fun _ h => h) ?_ ?_); ((have inOr : True := trivial); (try k_fold)); (rotate_left); (clear kF kN; intro bb h7 tk7 hbb F7 N7; (rcases bb with _ | _); (all_goals (first | (replace hbb := hbb.resolve_left Bool.false_ne_true) | skip)); (all_goals (try k_fold))))
  k_with "isTrue BoolOp" => (k_here; (fail_if_success (have h9 := inAnd)); (with_reducible show wpAny _ _ (isTrue (Expr.BoolOp BoolOp.And _ _) _ _) _ _ _); (rename Fr _ _ _ _ => kF); (rename News _ _ _ _ => kN); k_dflt (refine' cut_bool _ (fun ba => ba = true → 65536 ≤ (bk.length : Int)) kF kN (fun _ h => h) ?_ ?_); ((have inAnd : True := trivial); (try k_fold)); (rotate_left); (clear kF kN; intro ba h7 tk7 hba F7 N7; (rcases ba with _ | _); (all_goals (first | (replace hba := hba rfl) | skip)); (all_goals (try k_fold))))
  k_with "BoolEnd" => ((rename Fr _ _ _ _ => kF); (rename News _ _ _ _ => kN); k_dflt (first | exact bool_end kF kN (by walk_at "sub") (.inl rfl) | exact bool_end kF kN (by walk_at "sub") (.inr (len_pos (by assumption) hbk)) | exact bool_end kF kN (by walk_at "sub") (fun _ => by omega) | exact bool_end kF kN (by walk_at "sub") (fun h => by cases h)))
  k_steps
  · exact hret _ _ _ _ ⟨_, _, _, _, _, rfl, rfl, row_copy hk9 (by assumption) (by rw [if_neg (by omega)]) (by omega) (by omega) (by omega) (by omega)⟩ (Fr.keep (by assumption)) (Led.sub (Led.of_news (by assumption)) (by walk_at "sub"))
  · obtain ⟨w80, w81⟩ := ut (by omega)
    exact hret _ _ _ _ ⟨_, _, _, _, _, rfl, rfl, row_copy hk9 (by assumption) rfl w80 (by decide) (by decide) (by omega)⟩ (Fr.keep (by assumption)) (Led.sub (Led.of_news (by assumption)) (by walk_at "sub"))
  · exact hret _ _ _ _ ⟨_, _, _, _, _, rfl, rfl, row_ins hkp hp1 hp2 hp3⟩ (Fr.keep (by assumption)) (Led.sub (Led.of_news (by assumption)) (by walk_at "sub"))
end Mine
section
local macro_rules | `(tactic| omega) => `(tactic| lia)
open PySem PySem.W PyProof.Rows PySem.Calls PySem.Spec
namespace Mine
set_option maxRecDepth 100000
theorem slot_bytes_repr : Slot "bytes" "__repr__" "bytes.__repr__" :=
  .of (owner := "bytes") (n := "__repr__") (by rw [typeLookup_type, builtinLookup_eq_fast]; kernel_rfl) (by decide +kernel) (by decide +kernel) (by decide +kernel)
    (by first | exact .inl (by decide +kernel) | exact .inr (by decide +kernel)) (by rw [isSubtype_type]; kernel_rfl)
theorem entry_bytes_repr : entryFor table "bytes.__repr__" = some Builtin.«bytes.__repr__» := entryFor_of_tree (by kernel_rfl)
theorem args_bytes_repr (a : Value) : argsOk "bytes.__repr__" ⟨[a], []⟩ := by unfold argsOk; kernel_rfl
theorem gives_bytes_repr {b : Array UInt8} {t : Tok} (h : 4 * b.size + 3 ≤ 16777216) : Gives (Builtin.«bytes.__repr__» ⟨[.bytes b t], []⟩) (.str (Builtin.Bytes.literal b)) := by
  show Gives (Builtin.Bytes.literalAsked b >>= fun r => _) _
  unfold Builtin.Bytes.literalAsked
  rw [KBy.tooLong_not (by simpa using h)]
  exact .of_eq rfl
theorem fold_size (f : UInt8 → Array Nat) (hf : ∀ c, (f c).size ≤ 4) : ∀ (l : List UInt8) (a : Array Nat), (l.foldl (fun acc c => acc ++ f c) a).size ≤ a.size + 4 * l.length
  | [], a => by simp
  | c :: r, a => by
    rw [List.foldl_cons]
    have h := fold_size f hf r (a ++ f c)
    have h2 := hf c
    rw [Array.size_append] at h
    simp only [List.length_cons]
    omega
theorem lit_len (b : Array UInt8) : (Builtin.Bytes.literal b).length ≤ 4 * b.size + 3 := by
  unfold Builtin.Bytes.literal
  show (Array.push _ _).size ≤ _
  rw [Array.size_push, ← Array.foldl_toList]
  refine Nat.le_trans (Nat.succ_le_succ (fold_size _ (fun c => ?_) _ _)) ?_
  · dsimp only
    (repeat' split) <;> simp
  · simp only [Array.length_toList]
    show 2 + 4 * b.size + 1 ≤ _
    omega
section
variable {prog : Program} {w : World} {A : Around} {s : Shared} {E : Value → Shared → Prop}
theorem repr_b {b : Array UInt8} {t : Tok} {Q : Value → Shared → Prop} (hz : 4 * b.size + 3 ≤ 16777216) (h : ∀ x t' k, Str.length x ≤ 4 * b.size + 3 → Q (.str x t') { s with toks := k }) : wpAny (model prog w) A (pyReprObj (.bytes b t)) Q E s :=
  wpAny_pyReprObj_gives (typeIs_bytes _ _ _) slot_bytes_repr entry_bytes_repr (args_bytes_repr _) (gives_bytes_repr hz) (h _ _ _ (lit_len b)) rfl (by rw [sizeLine_eq]; exact Nat.le_trans (lit_len b) hz)
end
theorem own_apart {own n : List (Addr × Obj)} {as : List Addr} (h : OwnOff own as) (hs : ∀ r ∈ n, r.1 ∈ as) : ∀ q ∈ own, ∀ r ∈ n, q.1 ≠ r.1 := fun q hq r hr => h q hq r.1 (hs r hr)
theorem bit_eq (c : Int) (k : Nat) : Builtin.bitAnd c (1 * 2 ^ k) = (c / 2 ^ k % 2) * 2 ^ k := by rw [Int.one_mul, kbt_bit]
theorem bit_of {c : Int} {k : Nat} (h : Builtin.bitAnd c (1 * 2 ^ k) ≠ 0) : c / 2 ^ k % 2 = 1 := by
  rw [bit_eq] at h
  have h2 := Int.emod_two_eq (c / 2 ^ k)
  rcases h2 with e | e
  · rw [e, Int.zero_mul] at h; exact absurd rfl h
  · exact e
theorem bit_no {c : Int} {k : Nat} (h : Builtin.bitAnd c (1 * 2 ^ k) = 0) : ¬ c / 2 ^ k % 2 = 1 := by
  rw [bit_eq] at h
  intro e
  rw [e, Int.one_mul] at h
  have pp : (0 : Int) < 2 ^ k := kbt_pos k
  omega
theorem drop_small {b : Array UInt8} {ks : List Int} {n : Nat} (h : KBw.bInts b = ks.drop n) (hl : ks.length ≤ 1800) : b.size ≤ 1800 := by
  have e := size_of h
  rw [List.length_drop] at e
  omega
end Mine
open PySem PySem.W PyProof.Rows PySem.Calls PySem.Spec
namespace Mine
set_option maxRecDepth 100000
set_option maxHeartbeats 400000 in
theorem hdr_spec (w : World) {p : Program} {loose : List Str} {mean : ExcName → Option Value} {mg mb : Str → Option Value}
   {oc od0 : _} {osl : _} {nm ql : Str} {ps : Arguments} {bd : List Stmt} {sc : Scope} {dV kV dc pm0 cdv ct : Value} {an : Option Addr}
   (hK : List.lookup 47 (hd.heap_1 w.params) = some ⟨oc, od0, .func (fnOf nm ql ps bd sc dV kV dc pm0 an cdv ct), osl⟩)
   {fname bind : Str} {params : Arguments} {fbody : List Stmt} {fscope : Scope} {pos : Pos} (hdef : bd[5]? = some (.FunctionDef fname params fbody [] none [] fscope none bind pos))
   {base : Heap} (X₀ : (hd.heap_1 w.params).In base) (T₀ : Top p loose mean mg mb base)
   (codeHd : CodeHd base 46 42) (dp un : Nat) (gd : Option (List Code)) (l : List Env) (hdp : dp + 5 < recursionLimit) (hu : un + 40 < cLine)
   {qual : Str} {doc pm ctv : Value} {f c cd : Addr} {oc' od : Obj} {vs' : Array Value} {t' : Tok} (hc1 : oc'.data = .fields vs') (hc2 : vs'[1]? = some (.str qual t'))
   {d : Array UInt8} {dk : List Int} (hdk : KBw.bInts d = dk) (hd0 : dk.length ≤ 1800) {tl : Tok} (hcell : od.data = .cell (some (.int dk.length tl)))
   (td : Tok) {i : Int} (ti : Tok) (hi0 : 0 ≤ i) (hi1 : i ≤ dk.length) :
   Spec PySem.Challenge.rw_jq0004_02.row.prog w (aTop dp un gd l) base l (.ref f) [.bytes d td, .int i ti] [(f, fnMade fname qual params fbody fscope [("delta_length", cd)] doc pm c ctv), (c, oc'), (cd, od)]
     (fun v n' => ∃ D sz t1 ix t2 k, v = .ref D ∧ n' = [(D, tupO [.int sz t1, .int ix t2]), (f, fnMade fname qual params fbody fscope [("delta_length", cd)] doc pm c ctv), (c, oc'), (cd, od)] ∧ sizeL (dk.drop i.toNat) = some (sz, k) ∧ ix = i + (k : Nat))
     (.ref 32) (fun n' => n' = [(f, fnMade fname qual params fbody fscope [("delta_length", cd)] doc pm c ctv), (c, oc'), (cd, od)] ∧ sizeL (dk.drop i.toNat) = none) := by
  have hfill : (fun _ : OpenLaw => hd.heap_1) PySem.Challenge.rw_jq0004_02 = hd.heap_1 := by (k_fill; rfl)
  clear hfill
  have hK' := (by k_dflt k_is : List.lookup 47 (hd.heap_1 w.params) = some ⟨_, _, .func (fnOf _ _ _ _ _ _ _ _ _ _ _ _), _⟩)
  rw [hK'] at hK
  cases hK
  cases hdef
  clear hK'
  intro g s Q E B hg hsz N hret hexc
  have X := X₀.keeps B.stays
  have T := T₀.keeps B.stays
  refine wpAny_call ?_
  k_dflt (refine' enter_nest hg hsz N T (by k_mem) ⟨c, oc', vs', t', rfl, (N _ (.tail _ (.head _))).1, hc1, hc2⟩ ?k8 (BindsTo.of_eq rfl) (locs rfl) ?_ rfl rfl rfl (by decide); (case k8 => ktr_room); intro L' h' F' N' l1; (try k_lt l1); (try dsimp only); (try k_fold))
  k_with_none
  k_with "execs cons" => k_fold
  k_with "eval Call" => k_fold
  k_with "storeName" => (k_here; k_dflt (first | (refine' storeI_L ?F ?N ?_ ?a ?b; (case F => k_asm); (case N => k_asm); (case a => rfl); (case b => rfl); k_whole; intro h' tk' t' F' N'; (try k_sweep); (try dsimp only); (try k_fold)) | (refine' storeB_L ?F ?N ?_ ?a ?b; (case F => k_asm); (case N => k_asm); (case a => rfl); (case b => rfl); k_whole; intro h' tk' t' F' N'; (try k_sweep); (try dsimp only); (try k_fold)) | (refine' storeG_L ?F ?N ?_ ?a ?b; (case F => k_asm); (case N => k_asm); (case a => rfl); (case b => rfl); k_whole; intro h' tk' F' N'; (try k_sweep); (try dsimp only); (try k_fold))))
  k_with "exec Raise some none" => (k_extra "raise")
  k_with "exec While Constant cons nil" => (k_extra "while")
  k_with "exec While Compare cons nil" => (k_extra "while")
  k_with "KswEnd" => (k_extra "turn")
  k_with "subscriptTail Name Slice bytes ref" => (k_here; (with_reducible show wpAny _ _ (subscriptTail _ (PySem.Expr.Slice (some _) (some _) none _) (Value.bytes _ _) (Value.ref _)) _ _ _); (with_reducible rename Fr _ _ _ _ => F'); (with_reducible rename News _ _ _ _ => N'); (refine slice_ij (s := ⟨_, _, _, _, _⟩) F' N' (by assumption) (by omega) (by omega) (by omega) ?_); intro _ _ _ _ _ _ hcut)
  k_with "call builtin:len" => (k_here; (with_reducible show wpAny _ _ (call (Value.builtin "len") [Value.bytes _ _]) _ _ _); (refine len_b (by assumption) (by omega) ?_); intro _ _)
  k_with "call builtin:ord" => (k_here; (with_reducible show wpAny _ _ (call (Value.builtin "ord") [Value.bytes _ _]) _ _ _); (refine ord_bytes (Eq.trans (by assumption) (cut_one' _ _ _ (by omega) (by omega) (by omega))) ?_); intro _ _ hlo hhi)
  k_with "loadName" => (k_here; k_dflt (refine' loadX_L ?F ?v ?_ ?hk ?hx; (case F => k_asm); (case v => rfl); (case hk => rfl); (case hx => rfl); k_whole))
  k_with "leaving ref" => (k_here; k_dflt (refine' leave_made ?B ?hx ?F ?N (fun _ h => h) ?hf ?hk ?_; (case hx => assumption); (case B => assumption); (case F => k_asm); (case N => k_asm); (case hf => exact rfl); (case hk => exact rfl)); intro h' fl'; (try dsimp only))
  k_with "leaving" => (k_here; k_dflt (refine' leave_on ?B ?F ?x (fun _ h => h) ?hf ?_; (case x => assumption); (case B => assumption); (case F => k_asm); (case hf => exact rfl)); intro h' fl'; (try dsimp only))
  k_with "binaryOp LShift int int" => (k_here; (refine lshift_any (by omega) (by omega) (by k_extra "shift") ?_); intro _ _)
  k_with "raise" => (k_here; (with_reducible show wpAny _ _ (exec (Stmt.Raise (some (Expr.Call (Expr.Name _ _) [_] [] _)) none _) _) _ _ _); k_dflt (refine' Raise_ADE w ?F ?X ?T ?hh ?hdp ?_ ?he ?hk ?hx; (case F => k_asm); (case X => k_asm); (case T => k_asm); (case hh => exact rfl); (case hdp => ktr_room); (case he => exact rfl); (case hk => exact rfl); (case hx => exact rfl)))
  k_with "Told1" => (refine ⟨_, _, rfl, Fr.keep (by assumption), ?_⟩; intro h9 ea9 tk9 hm9)
  k_with "while" => ((rename Fr _ _ _ _ => kF); (rename News _ _ _ _ => kN); k_dflt (refine' hdr_loop dk kF kN ?h1 ?h2 ?h3 ?hi ?_ ?hE; (case h1 => exact rfl); (case h2 => exact rfl); (case h3 => exact rfl); (case hi => omega); (case hE => first | passes_own | with_unfolding_all passes_own); (intro ix ixt sz szt sh sht kU kH kTk kInv kFr kNews); (have kInv' := kInv); (obtain ⟨j, hj1, hj2, hj3, hj4, hj5, hj6⟩ := kInv'); (try dsimp only); (try k_fold)))
  k_with "shift" => exact shift_oct (by assumption) (by assumption)
  k_steps
  · exact hexc _ _ _ _ ⟨rfl, hdr_fail (by assumption) hi0 (by assumption)⟩ (by assumption)
  · (rename Fr _ _ _ _ => kF); (rename News _ _ _ _ => kN)
    refine hdr_end kF kN rfl rfl rfl (by intro z a1 a2 a3 a4; simp [kstB, a1, a2, a3, a4]) (hdr_next (ix := ix) (sz := sz) (sh := sh) (by assumption) hi0 (by assumption) (by assumption) (by assumption) (by assumption)) (by omega)
  · obtain ⟨k, e1, e2⟩ := hdr_done (ks := dk) (i₀ := i) (ix := ix) (sz := sz) (sh := sh) (by assumption) hi0 (by assumption) (by assumption) (by assumption) (by assumption)
    exact hret _ _ _ _ ⟨_, _, _, _, _, k, rfl, rfl, e1, e2⟩ (Fr.keep (by assumption)) (Led.of_news (by assumption))

set_option maxHeartbeats 400000 in
theorem byte_spec (w : World) {p : Program} {loose : List Str} {mean : ExcName → Option Value} {mg mb : Str → Option Value}
   {oc od0 : _} {osl : _} {nm ql : Str} {ps : Arguments} {bd : List Stmt} {sc : Scope} {dV kV dc pm0 cdv ct : Value} {an : Option Addr}
   (hK : List.lookup 47 (hd.heap_1 w.params) = some ⟨oc, od0, .func (fnOf nm ql ps bd sc dV kV dc pm0 an cdv ct), osl⟩)
   {fname bind : Str} {params : Arguments} {fbody : List Stmt} {fscope : Scope} {pos : Pos} (hdef : bd[6]? = some (.FunctionDef fname params fbody [] none [] fscope none bind pos))
   {base : Heap} (X₀ : (hd.heap_1 w.params).In base) (T₀ : Top p loose mean mg mb base)
   (codeHd : CodeHd base 46 42) (dp un : Nat) (gd : Option (List Code)) (l : List Env) (hdp : dp + 5 < recursionLimit) (hu : un + 40 < cLine)
   {qual : Str} {doc pm ctv : Value} {f c ci cd : Addr} {oc' oi od : Obj} {vs' : Array Value} {t' : Tok} (hc1 : oc'.data = .fields vs') (hc2 : vs'[1]? = some (.str qual t'))
   {d : Array UInt8} {dk : List Int} (hdk : KBw.bInts d = dk) (hd0 : dk.length ≤ 1800) {tl : Tok} (hcell : od.data = .cell (some (.int dk.length tl)))
   {i : Int} {ti : Tok} (hidx : oi.data = .cell (some (.int i ti))) (td : Tok) (hi0 : 0 ≤ i) (hne1 : f ≠ ci) (hne2 : c ≠ ci) (hne3 : cd ≠ ci) :
   Spec PySem.Challenge.rw_jq0004_02.row.prog w (aTop dp un gd l) base l (.ref f) [.bytes d td] [(f, fnMade fname qual params fbody fscope [(Str.ofString "index", ci), (Str.ofString "delta_length", cd)] doc pm c ctv), (c, oc'), (ci, oi), (cd, od)]
     (fun v n' => ∃ t1 oi' t2, v = .int (dk.getD i.toNat 0) t1 ∧ n' = [(f, fnMade fname qual params fbody fscope [(Str.ofString "index", ci), (Str.ofString "delta_length", cd)] doc pm c ctv), (c, oc'), (ci, oi'), (cd, od)] ∧ oi'.data = .cell (some (.int (i + 1) t2)) ∧ i < dk.length)
     (.ref 32) (fun n' => n' = [(f, fnMade fname qual params fbody fscope [(Str.ofString "index", ci), (Str.ofString "delta_length", cd)] doc pm c ctv), (c, oc'), (ci, oi), (cd, od)] ∧ dk.length ≤ i) := by
  have hfill : (fun _ : OpenLaw => hd.heap_1) PySem.Challenge.rw_jq0004_02 = hd.heap_1 := by (k_fill; rfl)
  clear hfill
  have hK' := (by k_dflt k_is : List.lookup 47 (hd.heap_1 w.params) = some ⟨_, _, .func (fnOf _ _ _ _ _ _ _ _ _ _ _ _), _⟩)
  rw [hK'] at hK
  cases hK
  cases hdef
  clear hK'
  intro g s Q E B hg hsz N hret hexc
  have X := X₀.keeps B.stays
  have T := T₀.keeps B.stays
  refine wpAny_call ?_
  k_dflt (refine' enter_nest hg hsz N T (by k_mem) ⟨c, oc', vs', t', rfl, (N _ (.tail _ (.head _))).1, hc1, hc2⟩ ?k8 (BindsTo.of_eq rfl) (locs rfl) ?_ rfl rfl rfl (by decide); (case k8 => ktr_room); intro L' h' F' N' l1; (try k_lt l1); (try dsimp only); (try k_fold))
  k_with_none
  k_with "execs cons" => k_fold
  k_with "eval Call" => k_fold
  k_with "storeName" => (k_here; k_dflt (first | (refine' storeI_L ?F ?N ?_ ?a ?b; (case F => k_asm); (case N => k_asm); (case a => rfl); (case b => rfl); k_whole; intro h' tk' t' F' N'; (try k_sweep); (try dsimp only); (try k_fold)) | (refine' storeB_L ?F ?N ?_ ?a ?b; (case F => k_asm); (case N => k_asm); (case a => rfl); (case b => rfl); k_whole; intro h' tk' t' F' N'; (try k_sweep); (try dsimp only); (try k_fold)) | (refine' storeG_L ?F ?N ?_ ?a ?b; (case F => k_asm); (case N => k_asm); (case a => rfl); (case b => rfl); k_whole; intro h' tk' F' N'; (try k_sweep); (try dsimp only); (try k_fold))))
  k_with "exec Raise some none" => (k_extra "raise")
  k_with "exec While Constant cons nil" => (k_extra "while")
  k_with "exec While Compare cons nil" => (k_extra "while")
  k_with "KswEnd" => (k_extra "turn")
  k_with "subscriptTail Name Slice bytes ref" => (k_here; (with_reducible show wpAny _ _ (subscriptTail _ (PySem.Expr.Slice (some _) (some _) none _) (Value.bytes _ _) (Value.ref _)) _ _ _); (with_reducible rename Fr _ _ _ _ => F'); (with_reducible rename News _ _ _ _ => N'); (refine slice_ij (s := ⟨_, _, _, _, _⟩) F' N' (by assumption) (by omega) (by omega) (by omega) ?_); intro _ _ _ _ _ _ hcut)
  k_with "call builtin:len" => (k_here; (with_reducible show wpAny _ _ (call (Value.builtin "len") [Value.bytes _ _]) _ _ _); (refine len_b (by assumption) (by omega) ?_); intro _ _)
  k_with "call builtin:ord" => (k_here; (with_reducible show wpAny _ _ (call (Value.builtin "ord") [Value.bytes _ _]) _ _ _); (refine ord_bytes (Eq.trans (by assumption) (cut_one' _ _ _ (by omega) (by omega) (by omega))) ?_); intro _ _ hlo hhi)
  k_with "loadName" => (k_here; k_dflt (refine' loadX_L ?F ?v ?_ ?hk ?hx; (case F => k_asm); (case v => rfl); (case hk => rfl); (case hx => rfl); k_whole))
  k_with "leaving ref" => (k_here; k_dflt (refine' leave_made ?B ?hx ?F ?N (fun _ h => h) ?hf ?hk ?_; (case hx => assumption); (case B => assumption); (case F => k_asm); (case N => k_asm); (case hf => exact rfl); (case hk => exact rfl)); intro h' fl'; (try dsimp only))
  k_with "leaving" => (k_here; k_dflt (refine' leave_on ?B ?F ?x (fun _ h => h) ?hf ?_; (case x => assumption); (case B => assumption); (case F => k_asm); (case hf => exact rfl)); intro h' fl'; (try dsimp only))
  k_with "binaryOp LShift int int" => (k_here; (refine lshift_any (by omega) (by omega) (by k_extra "shift") ?_); intro _ _)
  k_with "raise" => (k_here; (with_reducible show wpAny _ _ (exec (Stmt.Raise (some (Expr.Call (Expr.Name _ _) [_] [] _)) none _) _) _ _ _); k_dflt (refine' Raise_ADE w ?F ?X ?T ?hh ?hdp ?_ ?he ?hk ?hx; (case F => k_asm); (case X => k_asm); (case T => k_asm); (case hh => exact rfl); (case hdp => ktr_room); (case he => exact rfl); (case hk => exact rfl); (case hx => exact rfl)))
  k_with "Told1" => (refine ⟨_, _, rfl, Fr.keep (by assumption), ?_⟩; intro h9 ea9 tk9 hm9)
  k_steps
  · exact hexc _ _ _ _ ⟨rfl, by assumption⟩ (by assumption)
  · have e : i + 1 - 1 = i := by omega
    exact hret _ _ _ _ ⟨_, _, _, congrArg (fun z => Value.int (dk.getD (Int.toNat z) 0) _) e, rfl, by assumption, by omega⟩ (Fr.keep (by assumption)) (Led.of_news (by assumption))


theorem len_flat {c : List Int} {cs : List (List Int)} (h : c ∈ cs) : c.length ≤ cs.flatten.length := by
  induction cs with
  | nil => cases h
  | cons d r ih =>
    rw [List.flatten_cons, List.length_append]
    cases h with
    | head => omega
    | tail _ h => have := ih h; omega
set_option maxHeartbeats 8000000 in
theorem chunks_spec (w : World) {p : Program} {loose : List Str} {mean : ExcName → Option Value} {mg mb : Str → Option Value}
   {base : Heap} (X₀ : (hd.heap_1 w.params).In base) (T₀ : Top p loose mean mg mb base)
   (dp un : Nat) (gd : Option (List Code)) (l : List Env) (hdp : dp + 5 < recursionLimit) (hu : un + 40 < cLine)
   {lo : Addr} {vs : List Value} {cs : List (List Int)} {nn : Nat} (hv : BytesAre vs cs) (hlen : cs.length ≤ 2000) (htot : cs.flatten.length ≤ 1099511627776) :
   Spec PySem.Challenge.rw_jq0004_02.row.prog w (aTop dp un gd l) base l (.ref 40) [.ref lo] [(lo, listOf vs.toArray nn)]
     (fun v n' => ∃ t, v = .int (cs.flatten.length : Nat) t ∧ n' = [(lo, listOf vs.toArray nn)])
     (.ref 32) (fun _ => False) := by
  have hfill : (fun _ : OpenLaw => hd.heap_1) PySem.Challenge.rw_jq0004_02 = hd.heap_1 := by (k_fill; rfl)
  clear hfill
  intro g s Q E B hg hsz N hret hexc
  have X := X₀.keeps B.stays
  have T := T₀.keeps B.stays
  refine wpAny_call ?_
  k_dflt (refine' enter_def hg hsz N X T ?k6 ?k7 ?k8 ?k9 ?kB ?_ ?c2 ?c3 ?c4 ?c5; (case k6 => k_is); (case k7 => k_is); (case k8 => ktr_room); (case k9 => exact BindsTo.of_eq rfl); (case c5 => decide); (case kB => exact locs rfl); (case c2 => exact rfl); (case c3 => exact rfl); (case c4 => exact rfl); k_whole; intro L' h' F' N' l1; (try k_lt l1); (try dsimp only); (try k_fold))
  k_with_none
  k_with "execs cons" => k_fold
  k_with "eval Call" => k_fold
  k_with "storeName" => (k_here; k_dflt (first | (refine' storeI_L ?F ?N ?_ ?a ?b; (case F => k_asm); (case N => k_asm); (case a => rfl); (case b => rfl); k_whole; intro h' tk' t' F' N'; (try k_sweep); (try dsimp only); (try k_fold)) | (refine' storeB_L ?F ?N ?_ ?a ?b; (case F => k_asm); (case N => k_asm); (case a => rfl); (case b => rfl); k_whole; intro h' tk' t' F' N'; (try k_sweep); (try dsimp only); (try k_fold)) | (refine' storeG_L ?F ?N ?_ ?a ?b; (case F => k_asm); (case N => k_asm); (case a => rfl); (case b => rfl); k_whole; intro h' tk' F' N'; (try k_sweep); (try dsimp only); (try k_fold))))
  k_with "exec Raise some none" => k_extra "raise"
  k_with "exec While Constant cons nil" => k_extra "while"
  k_with "exec While Compare cons nil" => k_extra "while"
  k_with "KswEnd" => k_extra "turn"
  k_with "subscriptTail Name Slice bytes ref" => (k_here; (with_reducible show wpAny _ _ (subscriptTail _ (PySem.Expr.Slice (some _) (some _) none _) (Value.bytes _ _) (Value.ref _)) _ _ _); (with_reducible rename Fr _ _ _ _ => F'); (with_reducible rename News _ _ _ _ => N'); (refine slice_ij (s := ⟨_, _, _, _, _⟩) F' N' (by assumption) (by omega) (by omega) (by omega) ?_); intro _ _ _ _ _ _ hcut)
  k_with "call builtin:len" => (k_here; (with_reducible show wpAny _ _ (call (Value.builtin "len") [Value.bytes _ _]) _ _ _); (refine len_b (by assumption) (by omega) ?_); intro _ _)
  k_with "call builtin:ord" => (k_here; (with_reducible show wpAny _ _ (call (Value.builtin "ord") [Value.bytes _ _]) _ _ _); (refine ord_bytes (Eq.trans (by assumption) (cut_one' _ _ _ (by omega) (by omega) (by omega))) ?_); intro _ _ hlo hhi)
  k_with "loadName" => (k_here; k_dflt (refine' loadX_L ?F ?v ?_ ?hk ?hx; (case F => k_asm); (case v => rfl); (case hk => rfl); (case hx => rfl); k_whole))
  k_with "leaving ref" => (k_here; k_dflt (refine' leave_made ?B ?hx ?F ?N (fun _ h => h) ?hf ?hk ?_; (case hx => assumption); (case B => assumption); (case F => k_asm); (case N => k_asm); (case hf => exact rfl); (case hk => exact rfl)); intro h' fl'; (try dsimp only))
  k_with "leaving" => (k_here; k_dflt (refine' leave_on ?B ?F ?x (fun _ h => h) ?hf ?_; (case x => assumption); (case B => assumption); (case F => k_asm); (case hf => exact rfl)); intro h' fl'; (try dsimp only))
  k_with "binaryOp LShift int int" => (k_here; (refine lshift_any (by omega) (by omega) (by k_extra "shift") ?_); intro _ _)
  k_with "pyIter ref" => ((with_reducible show wpAny _ _ (pyIter _) (CompPost _ _ _ _ _ _ _ _ _) _ _); (rename Fr _ _ _ _ => kF); (rename News _ _ _ _ => kN); refine' comp_list (R := LenOf) (vs := vs) rfl kF kN ⟨_, (kN _ (by k_mem)).1, rfl, _, rfl⟩ ?hz ?he ?_; (case hz => rw [hv.length, sizeLine_eq]; omega); (case he => (intro C v s₃ m₃ E' hvm hns hx hk9; obtain ⟨b9, t9, rfl, hb9⟩ := hv.mem hvm; exact len_local hns hx hk9 X T (by k_dflt k_is) (by rw [← KBw.ints_length]; exact Nat.le_trans (len_flat hb9) (by omega)) (fun t' tk => ⟨⟨b9, t9, t', rfl, rfl⟩, _, _, rfl, fun _ _ e => e⟩) rfl rfl rfl rfl rfl rfl)); intro D9 ys9 h9 tk9 n9 F9 N9 l9 hp9; (have hi9 := lens_are hv hp9))
  k_steps
  · rw [sum_lens]
    exact hret _ _ _ _ ⟨_, rfl, rfl⟩ (Fr.keep (by assumption)) (Led.sub (Led.of_news (by assumption)) fun q hq => .tail _ hq)

theorem oct_getD {ks : List Int} (h : Oct ks) (n : Nat) : 0 ≤ ks.getD n 0 ∧ ks.getD n 0 < 256 := by
  rw [List.getD_eq_getElem?_getD]
  by_cases q : n < ks.length
  · rw [List.getElem?_eq_getElem q]
    exact h _ (List.getElem_mem q)
  · rw [List.getElem?_eq_none (by omega)]
    decide
theorem oct_shift {ks : List Int} (h : Oct ks) (n : Nat) : (ks.getD n 0).natAbs < 2 ^ 64 := by
  have := oct_getD h n
  omega
theorem top_bit {c : Int} (h0 : 0 ≤ c) (h1 : c < 256) (h : Builtin.bitAnd c 128 ≠ 0) : 128 ≤ c := by
  rw [oct_high h0 h1] at h
  split at h <;> omega
theorem no_top {c : Int} (h0 : 0 ≤ c) (h1 : c < 256) (h : Builtin.bitAnd c 128 = 0) : ¬ 128 ≤ c := by
  rw [oct_high h0 h1] at h
  split at h <;> omega
section
variable {bk dk : List Int} {R : Option (List Int)} {dest ix rem : Int} {cs : List (List Int)}
theorem drop_nil {iz : Int} (h0 : 0 ≤ iz) (h1 : iz ≤ dk.length) : dk.drop iz.toNat = [] ↔ iz = dk.length := by
  rw [List.drop_eq_nil_iff]; omega
theorem end_copy {off sz cpz iy iz : Int} (hbl : bk.length ≤ 200000) (h : mainInv bk dk R dest ix rem cs) (hl : ix < dk.length) (h8 : Builtin.bitAnd (dk.getD ix.toNat 0) 128 ≠ 0) (c0 : 0 ≤ dk.getD ix.toNat 0) (c1 : dk.getD ix.toNat 0 < 256)
    (d1 : fieldsL (dk.getD ix.toNat 0) 0 4 (dk.drop (ix + 1).toNat) = some (off, dk.drop iy.toNat)) (d2 : fieldsL (dk.getD ix.toNat 0) 4 3 (dk.drop iy.toNat) = some (sz, dk.drop iz.toNat))
    (i1 : ix + 1 ≤ iy) (i2 : iy ≤ iz) (i3 : iz ≤ dk.length) (o0 : 0 ≤ off) (s0 : 0 ≤ sz) (hc : cpz = copySz sz) (f1 : off + cpz ≤ bk.length) (f2 : cpz ≤ rem) :
    mainInv bk dk R dest iz (rem - cpz) (cs ++ [cut bk off (off + cpz)]) ∧ ix < iz := by
  obtain ⟨a1, a2, a3, a4, a5, a6, a7⟩ := h
  have p : 0 ≤ cpz := by rw [hc]; unfold copySz; split <;> omega
  have cl := cut_len bk off (off + cpz) o0 (by omega) f1
  have fl : (cs ++ [cut bk off (off + cpz)]).flatten = cs.flatten ++ cut bk off (off + cpz) := by simp
  refine ⟨⟨by omega, i3, by omega, ?_, ?_, ?_, ?_⟩, by omega⟩
  · rw [fl, List.length_append]; omega
  · simp only [List.length_append, List.length_cons, List.length_nil]; omega
  · rw [fl, List.length_append]; omega
  · rw [fl, ← a7, drop_at a1 (by omega)]
    subst hc
    exact (ops_copy (top_bit c0 c1 h8) d1 d2 f1 f2).symm
theorem end_bad {off sz cpz iy iz : Int} (h : mainInv bk dk R dest ix rem cs) (hl : ix < dk.length) (h8 : Builtin.bitAnd (dk.getD ix.toNat 0) 128 ≠ 0) (c0 : 0 ≤ dk.getD ix.toNat 0) (c1 : dk.getD ix.toNat 0 < 256)
    (d1 : fieldsL (dk.getD ix.toNat 0) 0 4 (dk.drop (ix + 1).toNat) = some (off, dk.drop iy.toNat)) (d2 : fieldsL (dk.getD ix.toNat 0) 4 3 (dk.drop iy.toNat) = some (sz, dk.drop iz.toNat))
    (i1 : ix + 1 ≤ iy) (i2 : iy ≤ iz) (i3 : iz ≤ dk.length) (hc : cpz = copySz sz) (f : off + cpz > bk.length ∨ cpz > rem) : afterInv dk R dest iz rem cs := by
  obtain ⟨a1, a2, a3, a4, a5, a6, a7⟩ := h
  refine ⟨by omega, i3, a3, a4, by omega, by omega, ?_⟩
  rw [← a7, drop_at a1 (by omega)]
  subst hc
  rw [ops_bad (top_bit c0 c1 h8) d1 d2 f]
  simp only [drop_nil (show 0 ≤ iz by omega) i3]
theorem nat_more {x c : Int} (h : 0 ≤ x) (hc : 0 ≤ c) : (x + 1 + c).toNat = (x + 1).toNat + c.toNat ∧ (x + 1 + c).toNat - (x + 1).toNat = c.toNat := by omega
theorem end_insert (hdl : dk.length ≤ 1800) (h : mainInv bk dk R dest ix rem cs) (hl : ix < dk.length) (h8 : Builtin.bitAnd (dk.getD ix.toNat 0) 128 = 0) (c0 : 0 ≤ dk.getD ix.toNat 0) (c1 : dk.getD ix.toNat 0 < 256)
    (hz : dk.getD ix.toNat 0 ≠ 0) (f1 : ¬ rem < dk.getD ix.toNat 0) (f2 : ¬ (dk.length : Int) < ix + 1 + dk.getD ix.toNat 0) :
    mainInv bk dk R dest (ix + 1 + dk.getD ix.toNat 0) (rem - dk.getD ix.toNat 0) (cs ++ [cut dk (ix + 1) (ix + 1 + dk.getD ix.toNat 0)]) ∧ ix < ix + 1 + dk.getD ix.toNat 0 := by
  obtain ⟨a1, a2, a3, a4, a5, a6, a7⟩ := h
  have hd := drop_at (ks := dk) a1 (by omega)
  generalize dk.getD ix.toNat 0 = c at *
  have cl := cut_len dk (ix + 1) (ix + 1 + c) (by omega) (by omega) (by omega)
  have fl : (cs ++ [cut dk (ix + 1) (ix + 1 + c)]).flatten = cs.flatten ++ cut dk (ix + 1) (ix + 1 + c) := by simp
  refine ⟨⟨by omega, by omega, by omega, ?_, ?_, ?_, ?_⟩, by omega⟩
  · rw [fl, List.length_append]; omega
  · simp only [List.length_append, List.length_cons, List.length_nil]; omega
  · rw [fl, List.length_append]; omega
  · rw [fl, ← a7, hd, ops_insert (no_top c0 c1 h8) hz (by omega) (by rw [List.length_drop]; omega), List.drop_drop]
    have e1 := nat_more a1 c0
    congr 2
    · exact e1.1
    · unfold cut
      congr 1
      exact e1.2
theorem none_long (h : mainInv bk dk R dest ix rem cs) (hl : ix < dk.length) (h8 : Builtin.bitAnd (dk.getD ix.toNat 0) 128 = 0) (c0 : 0 ≤ dk.getD ix.toNat 0) (c1 : dk.getD ix.toNat 0 < 256)
    (f : rem < dk.getD ix.toNat 0 ∨ (dk.length : Int) < ix + 1 + dk.getD ix.toNat 0) : R = none := by
  obtain ⟨a1, a2, a3, a4, a5, a6, a7⟩ := h
  rw [← a7, drop_at a1 (by omega)]
  refine ops_long (no_top c0 c1 h8) ?_
  rcases f with f | f
  · exact .inl f
  · right; rw [List.length_drop]; omega
theorem none_zero (h : mainInv bk dk R dest ix rem cs) (hl : ix < dk.length) (hz : dk.getD ix.toNat 0 = 0) : R = none := by
  obtain ⟨a1, a2, a3, a4, a5, a6, a7⟩ := h
  rw [← a7, drop_at a1 (by omega), hz]
  exact ops_zero
theorem none_off {iy off : Int} {j : Nat} (h : mainInv bk dk R dest ix rem cs) (hl : ix < dk.length) (h8 : Builtin.bitAnd (dk.getD ix.toNat 0) 128 ≠ 0) (c0 : 0 ≤ dk.getD ix.toNat 0) (c1 : dk.getD ix.toNat 0 < 256)
    (hI : fldInv dk (dk.getD ix.toNat 0) 0 4 (ix + 1) j iy off) (hj : j < 4) (hb : Builtin.bitAnd (dk.getD ix.toNat 0) (1 * 2 ^ ((j : Nat) : Int).toNat) ≠ 0) (hx : (dk.length : Int) ≤ iy) : R = none := by
  obtain ⟨a1, a2, a3, a4, a5, a6, a7⟩ := h
  rw [← a7, drop_at a1 (by omega)]
  exact ops_none0 (top_bit c0 c1 h8) (fld_fail hI hj (by rw [Nat.zero_add]; exact bit_of hb) hx)
theorem none_sz {iy iz off sz : Int} {j : Nat} (h : mainInv bk dk R dest ix rem cs) (hl : ix < dk.length) (h8 : Builtin.bitAnd (dk.getD ix.toNat 0) 128 ≠ 0) (c0 : 0 ≤ dk.getD ix.toNat 0) (c1 : dk.getD ix.toNat 0 < 256)
    (d1 : fieldsL (dk.getD ix.toNat 0) 0 4 (dk.drop (ix + 1).toNat) = some (off, dk.drop iy.toNat))
    (hI : fldInv dk (dk.getD ix.toNat 0) 4 3 iy j iz sz) (hj : j < 3) (hb : Builtin.bitAnd (dk.getD ix.toNat 0) (1 * 2 ^ (4 + ((j : Nat) : Int)).toNat) ≠ 0) (hx : (dk.length : Int) ≤ iz) : R = none := by
  obtain ⟨a1, a2, a3, a4, a5, a6, a7⟩ := h
  rw [← a7, drop_at a1 (by omega)]
  have e : (4 + ((j : Nat) : Int)).toNat = 4 + j := by omega
  rw [e] at hb
  exact ops_none1 (top_bit c0 c1 h8) d1 (fld_fail hI hj (bit_of hb) hx)
theorem none_after1 (h : afterInv dk R dest ix rem cs) (hx : ix ≠ dk.length) : R = none := by
  rw [h.2.2.2.2.2.2, if_neg (fun q => hx q.1)]
theorem none_after2 (h : afterInv dk R dest ix rem cs) (hx : dest ≠ cs.flatten.length) : R = none := by
  rw [h.2.2.2.2.2.2, if_neg (fun q => hx (by have := h.2.2.2.1; omega))]
theorem some_after (h : afterInv dk R dest ix rem cs) (hx : ix = dk.length) (hy : dest = cs.flatten.length) : R = some cs.flatten := by
  rw [h.2.2.2.2.2.2, if_pos ⟨hx, by have := h.2.2.2.1; omega⟩]
end
section
variable {h₀ h' : Heap} {L ci : Addr} {rest own : List (Addr × Obj)} {offn : Str} {m₀ m' : Str → Option Value} {ks : List Int} {cc : Int} {i₀ : Int} {s : Shared} {Q : Flow → Shared → Prop} {tk : Nat}
   {news' : List (Addr × Obj)} {oi oi' : Obj} {idx off : Int} {j : Nat}
theorem fld_ends {k₀ n : Nat} {tidx toff : Tok} (F2 : Fr h₀ L h' m') (N2 : News h₀ L h' news') (hd : oi.data = .cell (some (.int idx tidx))) (a1 : ∀ q ∈ (ci, oi) :: rest, q ∈ news') (a2 : ∀ q ∈ own, q ∈ news') (a4 : m' offn = some (.int off toff))
    (a5 : ∀ z : Str, z ≠ Str.ofString "i" → z ≠ offn → z ≠ Str.ofString "x" → m' z = m₀ z) (a6 : fldInv ks cc k₀ n i₀ (j + 1) idx off) :
    FldPost h₀ L ci rest offn m₀ ks cc k₀ n i₀ j own s Q .next { s with heap := h', toks := tk } :=
  ⟨_, _, _, _, _, _, _, _, _, rfl, F2, N2, a1, a2, hd, a4, a5, a6⟩
theorem skip0 {n : Nat} (h : fldInv ks cc 0 n i₀ j idx off) (hj : j < n) (hb : Builtin.bitAnd cc (1 * 2 ^ ((j : Nat) : Int).toNat) = 0) : fldInv ks cc 0 n i₀ (j + 1) idx off :=
  fld_skip h hj (by rw [Nat.zero_add]; exact bit_no hb)
theorem skip4 {n : Nat} (h : fldInv ks cc 4 n i₀ j idx off) (hj : j < n) (hb : Builtin.bitAnd cc (1 * 2 ^ (4 + ((j : Nat) : Int)).toNat) = 0) : fldInv ks cc 4 n i₀ (j + 1) idx off := by
  have e : (4 + ((j : Nat) : Int)).toNat = 4 + j := by omega
  rw [e] at hb
  exact fld_skip h hj (bit_no hb)
theorem take0 {n : Nat} (ho : Oct ks) (h : fldInv ks cc 0 n i₀ j idx off) (h00 : 0 ≤ i₀) (hj : j < n) (hb : Builtin.bitAnd cc (1 * 2 ^ ((j : Nat) : Int).toNat) ≠ 0) (hl : idx < ks.length) :
    fldInv ks cc 0 n i₀ (j + 1) (idx + 1) (Builtin.bitOr off (ks.getD idx.toNat 0 * 2 ^ (((j : Nat) : Int) * 8).toNat)) := by
  have e : (((j : Nat) : Int) * 8).toNat = j * 8 := by omega
  rw [e]
  have := oct_getD ho idx.toNat
  exact fld_take h h00 hj (by rw [Nat.zero_add]; exact bit_of hb) hl this.1 this.2
theorem take4 {n : Nat} (ho : Oct ks) (h : fldInv ks cc 4 n i₀ j idx off) (h00 : 0 ≤ i₀) (hj : j < n) (hb : Builtin.bitAnd cc (1 * 2 ^ (4 + ((j : Nat) : Int)).toNat) ≠ 0) (hl : idx < ks.length) :
    fldInv ks cc 4 n i₀ (j + 1) (idx + 1) (Builtin.bitOr off (ks.getD idx.toNat 0 * 2 ^ (((j : Nat) : Int) * 8).toNat)) := by
  have e : (((j : Nat) : Int) * 8).toNat = j * 8 := by omega
  have e' : (4 + ((j : Nat) : Int)).toNat = 4 + j := by omega
  rw [e' ] at hb
  rw [e]
  have := oct_getD ho idx.toNat
  exact fld_take h h00 hj (bit_of hb) hl this.1 this.2
end
section
variable {h₀ h' : Heap} {L ci lo : Addr} {fixed : List (Addr × Obj)} {m₀ m' : Str → Option Value} {s : Shared} {tk : Nat} {I : Int → Int → List (List Int) → Prop}
   {news' : List (Addr × Obj)} {oi : Obj} {idx rem : Int} {vs : List Value} {cs : List (List Int)} {nn : Nat}
theorem main_ends {tidx trem : Tok} (F2 : Fr h₀ L h' m') (N2 : News h₀ L h' news') (hd : oi.data = .cell (some (.int idx tidx))) (a1 : ∀ q ∈ (ci, oi) :: (lo, listOf (List.toArray vs) nn) :: fixed, q ∈ news') (hv : BytesAre vs cs) (a4 : m' (Str.ofString "remaining") = some (.int rem trem))
    (a5 : ∀ z : Str, z ≠ Str.ofString "remaining" → z ≠ Str.ofString "cmd" → z ≠ Str.ofString "cp_off" → z ≠ Str.ofString "i" → z ≠ Str.ofString "x" → z ≠ Str.ofString "cp_size" → m' z = m₀ z) (a6 : I idx rem cs) :
    MainAt h₀ L ci lo fixed m₀ s I { s with heap := h', toks := tk } :=
  ⟨_, _, _, _, _, _, _, _, _, _, _, _, rfl, F2, N2, a1, hd, hv, a4, a5, a6⟩
theorem main_push {tidx trem t : Tok} {c : Array UInt8} {x : List Int} (F2 : Fr h₀ L h' m') (N2 : News h₀ L h' news') (hd : oi.data = .cell (some (.int idx tidx))) (a1 : ∀ q ∈ (ci, oi) :: (lo, listOf ((List.toArray vs).push (.bytes c t)) nn) :: fixed, q ∈ news') (hv : BytesAre vs cs) (hc : KBw.bInts c = x) (a4 : m' (Str.ofString "remaining") = some (.int rem trem))
    (a5 : ∀ z : Str, z ≠ Str.ofString "remaining" → z ≠ Str.ofString "cmd" → z ≠ Str.ofString "cp_off" → z ≠ Str.ofString "i" → z ≠ Str.ofString "x" → z ≠ Str.ofString "cp_size" → m' z = m₀ z) (a6 : I idx rem (cs ++ [x])) :
    MainAt h₀ L ci lo fixed m₀ s I { s with heap := h', toks := tk } := by
  have e : (List.toArray vs).push (.bytes c t) = List.toArray (vs ++ [.bytes c t]) := by simp
  rw [e] at a1
  exact main_ends F2 N2 hd a1 (hv.append (.cons hc .nil)) a4 a5 a6
end
theorem cp0 {sz : Int} (h : sz = 0) : (65536 : Int) = copySz sz := by unfold copySz; rw [if_pos h]
theorem cp1 {sz : Int} (h : sz ≠ 0) : sz = copySz sz := by unfold copySz; rw [if_neg h]
theorem apart_bytes {x lo f1 c1 f2 c2 p q : Nat} (h1 : q < p) (h2 : p < x) (h3 : x < lo) (h4 : lo < c1) (h5 : c1 < f1) (h6 : f1 < c2) (h7 : c2 < f2) : List.Pairwise (α := Nat) (· ≠ ·) [x, lo, f1, c1, f2, c2, p, q] :=
  .cons (fmc ((Nat.ne_of_lt h3)) ((fmc ((Nat.ne_of_lt (Nat.lt_trans h3 (Nat.lt_trans h4 h5)))) ((fmc ((Nat.ne_of_lt (Nat.lt_trans h3 h4))) ((fmc ((Nat.ne_of_lt (Nat.lt_trans (Nat.lt_trans h3 h4) (Nat.lt_trans h5 (Nat.lt_trans h6 h7))))) ((fmc ((Nat.ne_of_lt (Nat.lt_trans (Nat.lt_trans h3 h4) (Nat.lt_trans h5 h6)))) ((fmc ((Nat.ne_of_gt h2)) ((fmc ((Nat.ne_of_gt (Nat.lt_trans h1 h2))) (List.forall_mem_nil _)))))))))))))) (.cons (fmc ((Nat.ne_of_lt (Nat.lt_trans h4 h5))) ((fmc ((Nat.ne_of_lt h4)) ((fmc ((Nat.ne_of_lt (Nat.lt_trans (Nat.lt_trans h4 h5) (Nat.lt_trans h6 h7)))) ((fmc ((Nat.ne_of_lt (Nat.lt_trans h4 (Nat.lt_trans h5 h6)))) ((fmc ((Nat.ne_of_gt (Nat.lt_trans h2 h3))) ((fmc ((Nat.ne_of_gt (Nat.lt_trans h1 (Nat.lt_trans h2 h3)))) (List.forall_mem_nil _)))))))))))) (.cons (fmc ((Nat.ne_of_gt h5)) ((fmc ((Nat.ne_of_lt (Nat.lt_trans h6 h7))) ((fmc ((Nat.ne_of_lt h6)) ((fmc ((Nat.ne_of_gt (Nat.lt_trans (Nat.lt_trans h2 h3) (Nat.lt_trans h4 h5)))) ((fmc ((Nat.ne_of_gt (Nat.lt_trans (Nat.lt_trans h1 h2) (Nat.lt_trans h3 (Nat.lt_trans h4 h5))))) (List.forall_mem_nil _)))))))))) (.cons (fmc ((Nat.ne_of_lt (Nat.lt_trans h5 (Nat.lt_trans h6 h7)))) ((fmc ((Nat.ne_of_lt (Nat.lt_trans h5 h6))) ((fmc ((Nat.ne_of_gt (Nat.lt_trans h2 (Nat.lt_trans h3 h4)))) ((fmc ((Nat.ne_of_gt (Nat.lt_trans (Nat.lt_trans h1 h2) (Nat.lt_trans h3 h4)))) (List.forall_mem_nil _)))))))) (.cons (fmc ((Nat.ne_of_gt h7)) ((fmc ((Nat.ne_of_gt (Nat.lt_trans h2 (Nat.lt_trans (Nat.lt_trans h3 h4) (Nat.lt_trans h5 (Nat.lt_trans h6 h7)))))) ((fmc ((Nat.ne_of_gt (Nat.lt_trans (Nat.lt_trans h1 h2) (Nat.lt_trans (Nat.lt_trans h3 h4) (Nat.lt_trans h5 (Nat.lt_trans h6 h7)))))) (List.forall_mem_nil _)))))) (.cons (fmc ((Nat.ne_of_gt (Nat.lt_trans (Nat.lt_trans h2 h3) (Nat.lt_trans h4 (Nat.lt_trans h5 h6))))) ((fmc ((Nat.ne_of_gt (Nat.lt_trans h1 (Nat.lt_trans (Nat.lt_trans h2 h3) (Nat.lt_trans h4 (Nat.lt_trans h5 h6)))))) (List.forall_mem_nil _)))) (.cons (fmc ((Nat.ne_of_gt h1)) (List.forall_mem_nil _)) (.cons (List.forall_mem_nil _) (.nil))))))))
theorem apart_lists {x lo f1 c1 f2 c2 p q : Nat} (h1 : q < p) (h2 : p < x) (h3 : x < lo) (h4 : lo < f1) (h5 : f1 < f2) (h6 : c1 < p) (h7 : c2 < p) (n1 : c1 ≠ c2) (n2 : c1 ≠ q) (n3 : c2 ≠ q) : List.Pairwise (α := Nat) (· ≠ ·) [x, lo, f1, c1, f2, c2, p, q] :=
  .cons (fmc ((Nat.ne_of_lt h3)) ((fmc ((Nat.ne_of_lt (Nat.lt_trans h3 h4))) ((fmc ((Nat.ne_of_gt (Nat.lt_trans h6 h2))) ((fmc ((Nat.ne_of_lt (Nat.lt_trans h3 (Nat.lt_trans h4 h5)))) ((fmc ((Nat.ne_of_gt (Nat.lt_trans h7 h2))) ((fmc ((Nat.ne_of_gt h2)) ((fmc ((Nat.ne_of_gt (Nat.lt_trans h1 h2))) (List.forall_mem_nil _)))))))))))))) (.cons (fmc ((Nat.ne_of_lt h4)) ((fmc ((Nat.ne_of_gt (Nat.lt_trans h6 (Nat.lt_trans h2 h3)))) ((fmc ((Nat.ne_of_lt (Nat.lt_trans h4 h5))) ((fmc ((Nat.ne_of_gt (Nat.lt_trans h7 (Nat.lt_trans h2 h3)))) ((fmc ((Nat.ne_of_gt (Nat.lt_trans h2 h3))) ((fmc ((Nat.ne_of_gt (Nat.lt_trans h1 (Nat.lt_trans h2 h3)))) (List.forall_mem_nil _)))))))))))) (.cons (fmc ((Nat.ne_of_gt (Nat.lt_trans h6 (Nat.lt_trans h2 (Nat.lt_trans h3 h4))))) ((fmc ((Nat.ne_of_lt h5)) ((fmc ((Nat.ne_of_gt (Nat.lt_trans h7 (Nat.lt_trans h2 (Nat.lt_trans h3 h4))))) ((fmc ((Nat.ne_of_gt (Nat.lt_trans h2 (Nat.lt_trans h3 h4)))) ((fmc ((Nat.ne_of_gt (Nat.lt_trans (Nat.lt_trans h1 h2) (Nat.lt_trans h3 h4)))) (List.forall_mem_nil _)))))))))) (.cons (fmc ((Nat.ne_of_lt (Nat.lt_trans (Nat.lt_trans h6 h2) (Nat.lt_trans h3 (Nat.lt_trans h4 h5))))) ((fmc n1 ((fmc ((Nat.ne_of_lt h6)) ((fmc n2 (List.forall_mem_nil _)))))))) (.cons (fmc ((Nat.ne_of_gt (Nat.lt_trans (Nat.lt_trans h7 h2) (Nat.lt_trans h3 (Nat.lt_trans h4 h5))))) ((fmc ((Nat.ne_of_gt (Nat.lt_trans (Nat.lt_trans h2 h3) (Nat.lt_trans h4 h5)))) ((fmc ((Nat.ne_of_gt (Nat.lt_trans (Nat.lt_trans h1 h2) (Nat.lt_trans h3 (Nat.lt_trans h4 h5))))) (List.forall_mem_nil _)))))) (.cons (fmc ((Nat.ne_of_lt h7)) ((fmc n3 (List.forall_mem_nil _)))) (.cons (fmc ((Nat.ne_of_gt h1)) (List.forall_mem_nil _)) (.cons (List.forall_mem_nil _) (.nil))))))))


local macro_rules | `(tactic| k_ne) => `(tactic| walk_at "k_ne")
noncomputable abbrev fnO (fd : FuncData) : Obj := { cls := .type "function", data := .func fd }
set_option maxHeartbeats 8000000 in
theorem apply_core (w : World) {p : Program} {loose : List Str} {mean : ExcName → Option Value} {mg mb : Str → Option Value}
   {oc od0 : _} {osl : _} {nm ql : Str} {ps : Arguments} {bd : List Stmt} {sc : Scope} {dV kV dc pm0 cdv ct : Value} {an : Option Addr}
   (hK : List.lookup 47 (hd.heap_1 w.params) = some ⟨oc, od0, .func (fnOf nm ql ps bd sc dV kV dc pm0 an cdv ct), osl⟩)
   {base : Heap} (X₀ : (hd.heap_1 w.params).In base) (T₀ : Top p loose mean mg mb base) (codeHd : CodeHd base 46 42)
   (dp un : Nat) (gd : Option (List Code)) (l : List Env) (hdp : dp + 12 < recursionLimit) (hu : un + 100 < cLine)
   {b d : Array UInt8} {bk dk : List Int} {tb td : Tok} (hbk : KBw.bInts b = bk) (hdk : KBw.bInts d = dk) (hb : bk.length ≤ 200000) (hd0 : dk.length ≤ 1800)
   {g : Heap} {s : Shared} {Q E : Value → Shared → Prop} (B : Below (aTop dp un gd l) base l g) {L' : Addr} {m : Str → Option Value} {f1 f2 c1 c2 lo : Addr} {fd1 fd2 : FuncData} {oc1 oc2 oi od o42 : Obj} {nn : Nat} {t0 tl : Tok}
   (F : Fr g L' s.heap (kstB m [(Str.ofString "src_buf", .bytes b tb), (Str.ofString "delta", .bytes d td), (Str.ofString "out", .ref lo), (Str.ofString "get_delta_header_size", .ref f1), (Str.ofString "read_byte", .ref f2)]))
   (N : News g L' s.heap [(L' + 1 + 1, oi), (lo, listOf #[] nn), (f1, fnO fd1), (c1, oc1), (f2, fnO fd2), (c2, oc2), (L' + 1, od), (42, o42)])
   (hoi : oi.data = .cell (some (.int 0 t0))) (hod : od.data = .cell (some (.int dk.length tl)))
   (hap : List.Pairwise (α := Nat) (· ≠ ·) [L' + 1 + 1, lo, f1, c1, f2, c2, L' + 1, 42])
   (H1 : ∀ (i : Int) ti, 0 ≤ i → i ≤ dk.length → Spec PySem.Challenge.rw_jq0004_02.row.prog w (aTop (dp + 1) (un + 3) gd (envOfC ql sc L' 47 cdv :: l)) base (envOfC ql sc L' 47 cdv :: l) (.ref f1) [.bytes d td, .int i ti] [(f1, fnO fd1), (c1, oc1), (L' + 1, od)]
     (fun v n' => ∃ D sz t1 ix t2 k, v = .ref D ∧ n' = [(D, tupO [.int sz t1, .int ix t2]), (f1, fnO fd1), (c1, oc1), (L' + 1, od)] ∧ sizeL (dk.drop i.toNat) = some (sz, k) ∧ ix = i + (k : Nat))
     (.ref 32) (fun n' => n' = [(f1, fnO fd1), (c1, oc1), (L' + 1, od)] ∧ sizeL (dk.drop i.toNat) = none))
   (H2 : ∀ (i : Int) ti oi, oi.data = .cell (some (.int i ti)) → 0 ≤ i → Spec PySem.Challenge.rw_jq0004_02.row.prog w (aTop (dp + 1) (un + 3) gd (envOfC ql sc L' 47 cdv :: l)) base (envOfC ql sc L' 47 cdv :: l) (.ref f2) [.bytes d td] [(f2, fnO fd2), (c2, oc2), (L' + 1 + 1, oi), (L' + 1, od)]
     (fun v n' => ∃ t1 oi' t2, v = .int (dk.getD i.toNat 0) t1 ∧ n' = [(f2, fnO fd2), (c2, oc2), (L' + 1 + 1, oi'), (L' + 1, od)] ∧ oi'.data = .cell (some (.int (i + 1) t2)) ∧ i < dk.length)
     (.ref 32) (fun n' => n' = [(f2, fnO fd2), (c2, oc2), (L' + 1 + 1, oi), (L' + 1, od)] ∧ dk.length ≤ i))
   (hret : ∀ v h' tk n', (∃ lo vs cs nn, v = .ref lo ∧ BytesAre vs cs ∧ (readDelta bk dk = some cs.flatten ∧ cs.length ≤ 2000) ∧ n' = [(lo, listOf (List.toArray vs) nn), (42, o42), (c1, oc1), (c2, oc2)]) → g.StaysIn h' → Led g h' n' → Q v { s with heap := h', toks := tk })
   (hexc : ∀ e h' tk n', (n' = [(42, o42), (c1, oc1), (c2, oc2)] ∧ readDelta bk dk = none) → Flies base g l (.ref 32) n' e h' → E e { s with heap := h', toks := tk }) :
   wpAny (TheM w) ((aTop dp un gd l).deeper (envOfC ql sc L' 47 cdv)) (execs (bd.drop 7) (envOfC ql sc L' 47 cdv))
     (fun fl s' => Q (match fl with | .ret v => v | _ => .none) s')
     (fun e s' => wpAny (TheM w) ((aTop dp un gd l).deeper (envOfC ql sc L' 47 cdv)) (leaving (envOfC ql sc L' 47 cdv) e) (fun _ s'' => E e s'') (fun e' s'' => E e' s'') s') s := by
  have hfill : (fun _ : OpenLaw => hd.heap_1) PySem.Challenge.rw_jq0004_02 = hd.heap_1 := by (k_fill; rfl)
  clear hfill
  have hK' := (by k_dflt k_is : List.lookup 47 (hd.heap_1 w.params) = some ⟨_, _, .func (fnOf _ _ _ _ _ _ _ _ _ _ _ _), _⟩)
  rw [hK'] at hK
  cases hK
  clear hK'
  have hoct := oct_of hdk
  have X := X₀.keeps B.stays
  have T := T₀.keeps B.stays
  simp only [List.pairwise_cons, List.forall_mem_cons, List.not_mem_nil, false_implies, implies_true, and_true, List.Pairwise.nil] at hap
  obtain ⟨⟨a1, a2, a3, a4, a5, a6, a7⟩, ⟨b1, b2, b3, b4, b5, b6⟩, ⟨e1, e2, e3, e4, e5⟩, ⟨i1, i2, i3, i4⟩, ⟨j1, j2, j3⟩, ⟨q1, q2⟩, r1⟩ := hap
  dsimp only [List.drop]
  k_with_none
  k_with "k_ne" => (refine neN ?_; (try dsimp only); first | assumption | exact Ne.symm (by assumption))
  k_with "execs cons" => k_fold
  k_with "eval Call" => k_fold
  k_with "storeName" => (k_here; k_dflt (first | (refine' storeI_L ?F ?N ?_ ?a ?b; (case F => k_asm); (case N => k_asm); (case a => rfl); (case b => rfl); k_whole; intro h' tk' t' F' N'; (try k_sweep); (try dsimp only); (try k_fold)) | (refine' storeB_L ?F ?N ?_ ?a ?b; (case F => k_asm); (case N => k_asm); (case a => rfl); (case b => rfl); k_whole; intro h' tk' t' F' N'; (try k_sweep); (try dsimp only); (try k_fold)) | (refine' storeG_L ?F ?N ?_ ?a ?b; (case F => k_asm); (case N => k_asm); (case a => rfl); (case b => rfl); k_whole; intro h' tk' F' N'; (try k_sweep); (try dsimp only); (try k_fold))))
  k_with "exec Raise some none" => (k_extra "raise")
  k_with "exec While Constant cons nil" => (k_extra "while")
  k_with "exec While Compare cons nil" => (k_extra "while")
  k_with "KswEnd" => (k_extra "turn")
  k_with "subscriptTail Name Slice bytes ref" => (k_here; (with_reducible show wpAny _ _ (subscriptTail _ (PySem.Expr.Slice (some _) (some _) none _) (Value.bytes _ _) (Value.ref _)) _ _ _); (with_reducible rename Fr _ _ _ _ => F'); (with_reducible rename News _ _ _ _ => N'); (refine slice_ij (s := ⟨_, _, _, _, _⟩) F' N' (by assumption) (by omega) (by omega) (by omega) ?_); intro _ _ _ _ _ _ hcut)
  k_with "call builtin:len" => (k_here; (with_reducible show wpAny _ _ (call (Value.builtin "len") [Value.bytes _ _]) _ _ _); (refine len_b (by assumption) (by omega) ?_); intro _ _)
  k_with "call builtin:ord" => (k_here; (with_reducible show wpAny _ _ (call (Value.builtin "ord") [Value.bytes _ _]) _ _ _); (refine ord_bytes (Eq.trans (by assumption) (cut_one' _ _ _ (by omega) (by omega) (by omega))) ?_); intro _ _ hlo hhi)
  k_with "loadName" => (k_here; k_dflt (refine' loadX_L ?F ?v ?_ ?hk ?hx; (case F => k_asm); (case v => rfl); (case hk => rfl); (case hx => rfl); k_whole))
  k_with "leaving ref" => (k_here; k_dflt (refine' leave_made ?B ?hx ?F ?N (fun _ h => h) ?hf ?hk ?_; (case hx => assumption); (case B => assumption); (case F => k_asm); (case N => k_asm); (case hf => exact rfl); (case hk => exact rfl)); intro h' fl'; (try dsimp only))
  k_with "leaving" => (k_here; k_dflt (refine' leave_on2 ?B ?F ?x ?hr ?hf ?_; (case x => assumption); (case hr => assumption); (case B => assumption); (case F => k_asm); (case hf => exact rfl)); intro h' fl'; (try dsimp only [List.cons_append, List.nil_append]))
  k_with "binaryOp LShift int int" => (k_here; (refine lshift_any (by omega) (by omega) (by k_extra "shift") ?_); intro _ _)
  k_with "call ref" => (k_extra "call")
  k_with "formatField int" => (k_here; (with_reducible rename Fr _ _ _ _ => kF); (refine fmt_int rfl (Heap.NoDigits.keeps (Top.nodigits (by assumption)) (Fr.keep kF)) (by k_extra "digits") ?_); intro _ _ _ hfm)
  k_with "exec For Name Call cons nil" => (k_extra "for")
  k_with "pyIter ref" => (k_extra "iter")
  k_with "subscriptTail Name Slice bytes ref" => (k_here; (with_reducible show wpAny _ _ (subscriptTail _ (PySem.Expr.Slice (some _) none none _) (Value.bytes _ _) (Value.ref _)) _ _ _); (with_reducible rename Fr _ _ _ _ => F'); (with_reducible rename News _ _ _ _ => N'); (refine slice_i (s := ⟨_, _, _, _, _⟩) F' N' (by assumption) (by omega) (by omega) ?_); intro _ _ _ _ _ _ hcut)
  k_with "pyReprObj bytes" => (k_here; (have hsm := drop_small (by assumption) (by assumption)); (refine repr_b (by omega) ?_); intro _ _ _ hxl)
  k_with "call builtin:list.append" => (k_here; k_dflt (refine' append_K ?k1 ?k2 ?k3 ?_ ?z; (case k1 => k_asm); (case k2 => k_asm); (case k3 => k_upd); (case z => k_extra "append"); k_whole); intro h' F' N'; (try k_sweep))
  k_with "MainPost" => (dsimp only [MainPost])
  k_with "k_memx" => (first | k_mem | with_reducible (repeat' (first | exact List.Mem.head _ | refine List.Mem.tail _ ?_)))
  k_with "k_mems" => (repeat' (first | exact List.forall_mem_nil _ | refine fmc (by walk_at "k_memx") ?_))
  k_with "k_subl" => (exact fun q9 hq9 => List.Sublist.subset (by with_reducible (repeat (first | exact List.Sublist.refl _ | refine List.Sublist.cons_cons _ ?_ | refine List.Sublist.cons _ ?_))) hq9)
  k_with "k_none" => (first
      | exact delta_none1 (by assumption)
      | exact delta_none2 (by assumption) (by assumption) (by assumption)
      | exact none_zero (by assumption) (by assumption) (by assumption)
      | exact none_long (by assumption) (by assumption) (by assumption) (by assumption) (by assumption) (.inl (by assumption))
      | exact none_long (by assumption) (by assumption) (by assumption) (by assumption) (by assumption) (.inr (by assumption))
      | exact none_off (by assumption) (by assumption) (by assumption) (by assumption) (by assumption) (by assumption) (by assumption) (by assumption) (by assumption)
      | exact none_sz (by assumption) (by assumption) (by assumption) (by assumption) (by assumption) (by assumption) (by assumption) (by assumption) (by assumption) (by assumption)
      | exact none_after1 (by assumption) (by assumption)
      | exact none_after2 (by assumption) (by assumption)
      | exact delta_none3 (by assumption) (by assumption) (by assumption) (by assumption))
  k_with "k_copy" => (first
      | exact end_copy (by assumption) (by assumption) (by assumption) (by assumption) (by assumption) (by assumption) (by assumption) (by assumption) (by omega) (by omega) (by omega) (by omega) (by omega) rfl (by omega) (by omega)
      | exact end_insert (by assumption) (by assumption) (by assumption) (by assumption) (by assumption) (by assumption) (by assumption) (by assumption) (by assumption))
  k_with "k_bad" => (first
      | exact main_out (by assumption) (by assumption)
      | exact end_bad (by assumption) (by assumption) (by assumption) (by assumption) (by assumption) (by assumption) (by assumption) (by omega) (by omega) (by omega) rfl (by omega))
  k_with "k_fin" => (first
      | ((with_reducible show MainAt _ _ _ _ _ _ _ _ _); first
         | exact main_push (by assumption) (by assumption) (by assumption) (by walk_at "k_mems") (by assumption) (by assumption) rfl (by intro z n1 n2 n3 n4 n5 n6; simp [kstB, n1, n2, n3, n4, n5, n6]) (by walk_at "k_copy")
         | exact main_ends (by assumption) (by assumption) (by assumption) (by walk_at "k_mems") (by assumption) rfl (by intro z n1 n2 n3 n4 n5 n6; simp [kstB, n1, n2, n3, n4, n5, n6]) (by walk_at "k_bad"))
      | ((with_reducible show FldPost _ _ _ _ _ _ _ _ _ _ _ _ _ _ _ _ _);
         exact fld_ends (by assumption) (by assumption) (by assumption) (by walk_at "k_mems") (by walk_at "k_subl") rfl (by intro z n1 n2 n3; simp [kstB, n1, n2, n3])
           (by first | exact skip0 (by assumption) (by assumption) (by assumption) | exact skip4 (by assumption) (by assumption) (by assumption) | exact take0 (by assumption) (by assumption) (by omega) (by assumption) (by assumption) (by assumption) | exact take4 (by assumption) (by assumption) (by omega) (by assumption) (by assumption) (by assumption)))
      | (exfalso; omega))
  k_with "raise" => (k_here; (with_reducible show wpAny _ _ (exec (Stmt.Raise (some (Expr.Call (Expr.Name _ _) [_] [] _)) none _) _) _ _ _); k_dflt (refine' Raise_ADE w ?F ?X ?T ?hh ?hdp ?_ ?he ?hk ?hx; (case F => k_asm); (case X => k_asm); (case T => k_asm); (case hh => exact rfl); (case hdp => ktr_room); (case he => exact rfl); (case hk => exact rfl); (case hx => exact rfl)))
  k_with "Told1" => (refine ⟨_, _, rfl, Fr.keep (by assumption), ?_⟩; intro h9 ea9 tk9 hm9)
  k_with "call" => ((with_reducible show wpAny _ _ (call _ [_, _]) _ _ _); (rename Fr _ _ _ _ => kF); (rename News _ _ _ _ => kN); k_dflt (refine' Spec.use (A₀ := aTop dp un gd l) (H1 _ _ ?h0 ?h1) B kF kN [(L' + 1 + 1, _), (lo, listOf #[] nn), (f2, fnO fd2), (c2, oc2), (42, o42)] ?hn ?hr ?hd rfl rfl ?_ ?_; (case h0 => omega); (case h1 => omega); (case hn => repeat' (first | exact List.forall_mem_nil _ | refine fmc (by k_mem) ?_)); (case hr => repeat' (first | exact List.forall_mem_nil _ | refine fmc (by k_mem) ?_)); (case hd => ((repeat' (first | exact List.forall_mem_nil _ | refine fmc ?_ ?_)) <;> k_ne))); (rotate_left); ((intro e9 h9 tk9 n9 g9 hx9 F9 hr9 fl9; obtain ⟨rfl, hx9⟩ := hx9; (try k_fold))); (rotate_left); ((intro v9 h9 tk9 n9 hr9 F9 N9 ap9; obtain ⟨D9, sz9, t91, ix9, t92, kk9, rfl, rfl, hz9, hix9⟩ := hr9; (have hf9 := sizeL_at hoct (by omega) (by omega) hz9); (obtain ⟨hv91, hv92, hv93, hv94⟩ := hf9); (have hD9 : @Ne Nat D9 (L' + 1 + 1) := ap9 _ (List.Mem.head _) _ (List.Mem.head _)); clear ap9; dsimp only [List.cons_append, List.nil_append] at N9; (try k_fold))))
  k_with "digits" => first | exact digits_ok (by assumption) (by assumption) (by omega) | exact digits_len (by assumption)
  k_with "while" => ((rename Fr _ _ _ _ => kF); (rename News _ _ _ _ => kN); k_dflt (refine' main_loop bk dk (readDelta bk dk) _ (ci := L' + 1 + 1) (lo := lo) [(f1, fnO fd1), (c1, oc1), (f2, fnO fd2), (c2, oc2), (L' + 1, od), (42, o42)] kF kN ?hci ?hlo ?hfix ?hd ?hm ?hp ?_ ?_ ?hE; (case hci => k_mem); (case hlo => k_mem); (case hfix => repeat' (first | exact List.forall_mem_nil _ | refine fmc (by k_mem) ?_)); (case hd => assumption); (case hm => exact rfl); (case hp => exact start_main (by assumption) (by assumption) (by assumption) (by assumption) (by assumption) (by assumption) (by omega)); (case hE => first | passes_own | with_unfolding_all passes_own)); (clear kF kN); (rotate_left); (intro oix ix ixt rm rmt vs cs nx kU kH kTk hoix hvs kInv kFr kNews; (have kInv' := kInv); obtain ⟨hm1, hm2, hm3, hm4, hm5, hm6, hm7⟩ := kInv'; (try k_fold)); (rotate_left); (intro oix ix ixt rm rmt vs cs nx kU kH kTk hoix hvs kInv kFr kNews; (have kInv' := kInv); obtain ⟨hm1, hm2, hm3, hm4, hm5, hm6, hm7⟩ := kInv'; (try k_fold)))
  k_with "for" => kpr_for
  k_with "iter" => ((rename Fr _ _ _ _ => kF); (rename News _ _ _ _ => kN); (rename IsRange _ _ _ _ _ _ _ _ => rgX); first
   | (k_dflt (refine' for_fields (n := 4) (ci := L' + 1 + 1) dk (dk.getD ix.toNat 0) 0 ((lo, listOf (List.toArray vs) nx) :: [(f1, fnO fd1), (c1, oc1), (f2, fnO fd2), (c2, oc2), (L' + 1, od), (42, o42)]) (Str.ofString "cp_off") rfl rgX rfl (by decide) kF kN ?hci ?hrest ?hd ?ho ?hi (by decide) (by decide) ?_ ?_; (case hci => k_mem); (case hrest => repeat' (first | exact List.forall_mem_nil _ | refine fmc (by k_mem) ?_)); (case hd => assumption); (case ho => exact rfl); (case hi => omega)); (clear kF kN rgX); (rotate_left); (intro oiy iy iyt ofv ofvt kU kH kTk hoiy kInv kFr kNews; (have kInv' := kInv); unfold fldInv at kInv'; obtain ⟨hq1, hq2, hq3, hq4, hq5⟩ := kInv'; (have hdn := fld_done kInv); (try k_fold)); (rotate_left); (intro j oiy iy iyt ofv ofvt tj kU kH kTk own hjn hoff hoiy kInv kFr kNews; (have kInv' := kInv); unfold fldInv at kInv'; obtain ⟨hq1, hq2, hq3, hq4, hq5⟩ := kInv'; dsimp only [List.cons_append, List.nil_append] at kNews; (try k_fold)))
   | (k_dflt (refine' for_fields (n := 3) (ci := L' + 1 + 1) dk (dk.getD ix.toNat 0) 4 ((lo, listOf (List.toArray vs) nx) :: [(f1, fnO fd1), (c1, oc1), (f2, fnO fd2), (c2, oc2), (L' + 1, od), (42, o42)]) (Str.ofString "cp_size") rfl rgX rfl (by decide) kF kN ?hci ?hrest ?hd ?ho ?hi (by decide) (by decide) ?_ ?_; (case hci => k_mem); (case hrest => repeat' (first | exact List.forall_mem_nil _ | refine fmc (by k_mem) ?_)); (case hd => assumption); (case ho => exact rfl); (case hi => omega)); (clear kF kN rgX); (rotate_left); (intro oiy iy iyt ofv ofvt kU kH kTk hoiy kInv kFr kNews; (have kInv' := kInv); unfold fldInv at kInv'; obtain ⟨hq1, hq2, hq3, hq4, hq5⟩ := kInv'; (have hdn := fld_done kInv); (try k_fold)); (rotate_left); (intro j oiy iy iyt ofv ofvt tj kU kH kTk own hjn hoff hoiy kInv kFr kNews; (have kInv' := kInv); unfold fldInv at kInv'; obtain ⟨hq1, hq2, hq3, hq4, hq5⟩ := kInv'; dsimp only [List.cons_append, List.nil_append] at kNews; (try k_fold))))
  k_with "call" => ((with_reducible show wpAny _ _ (call _ [Value.bytes _ _]) _ _ _); (rename OwnOff _ _ => hoff); (rename Fr _ _ _ _ => kF); (rename News _ _ _ _ => kN); k_dflt (refine' Spec.use (A₀ := aTop dp un gd l) (H2 _ _ _ ?hoi ?h0) B kF kN ((lo, listOf (List.toArray vs) nx) :: (f1, fnO fd1) :: (c1, oc1) :: (42, o42) :: own) ?hn ?hr ?hd rfl rfl ?_ ?_; (case hoi => assumption); (case h0 => omega); (case hn => repeat' (first | exact List.forall_mem_nil _ | refine fmc (by walk_at "k_memx") ?_)); (case hr => exact fun q9 hq9 => List.Sublist.subset (by with_reducible (repeat (first | exact List.Sublist.refl _ | refine List.Sublist.cons_cons _ ?_ | refine List.Sublist.cons _ ?_))) hq9); (case hd => ((repeat' (first | exact List.forall_mem_nil _ | exact own_apart hoff (by simp) | refine fmc ?_ ?_)) <;> k_ne))); (rotate_left); ((intro e9 h9 tk9 n9 g9 hx9 F9 hr9 fl9; obtain ⟨rfl, hx9⟩ := hx9; (try k_fold))); (rotate_left); ((intro v9 h9 tk9 n9 hr9 F9 N9 ap9; obtain ⟨t91, oi9, t92, rfl, rfl, hoi9, hlt9⟩ := hr9; clear ap9; dsimp only [List.cons_append, List.nil_append] at N9; (try k_fold))))
  k_with "call" => ((with_reducible show wpAny _ _ (call _ [Value.bytes _ _]) _ _ _); (fail_if_success rename OwnOff _ _ => hoff); (rename Fr _ _ _ _ => kF); (rename News _ _ _ _ => kN); k_dflt (refine' Spec.use (A₀ := aTop dp un gd l) (H2 _ _ _ ?hoi ?h0) B kF kN ((lo, listOf (List.toArray vs) nx) :: (f1, fnO fd1) :: (c1, oc1) :: (42, o42) :: []) ?hn ?hr ?hd rfl rfl ?_ ?_; (case hoi => assumption); (case h0 => omega); (case hn => repeat' (first | exact List.forall_mem_nil _ | refine fmc (by k_mem) ?_)); (case hr => repeat' (first | (intro q9 hq9; repeat (first | exact hq9 | refine List.Mem.tail _ ?_); done) | refine fmc (by k_mem) ?_)); (case hd => ((repeat' (first | exact List.forall_mem_nil _ | refine fmc ?_ ?_)) <;> k_ne))); (rotate_left); ((intro e9 h9 tk9 n9 g9 hx9 F9 hr9 fl9; obtain ⟨rfl, hx9⟩ := hx9; (try k_fold))); (rotate_left); ((intro v9 h9 tk9 n9 hr9 F9 N9 ap9; obtain ⟨t91, oi9, t92, rfl, rfl, hoi9, hlt9⟩ := hr9; clear ap9; dsimp only [List.cons_append, List.nil_append] at N9; (try k_fold))))
  k_with "call" => ((with_reducible show wpAny _ _ (call (Value.ref 40) [_]) _ _ _); (rename Fr _ _ _ _ => kF); (rename News _ _ _ _ => kN); k_dflt (refine' Spec.use (A₀ := aTop dp un gd l) (chunks_spec w X₀ T₀ (dp + 1) (un + 3) gd _ ?d1 ?u1 hvs ?z1 ?z2) B kF kN [(42, o42), (c1, oc1), (c2, oc2)] ?hn ?hr ?hd rfl rfl ?_ ?_; (case d1 => omega); (case u1 => omega); (case z1 => omega); (case z2 => omega); (case hn => repeat' (first | exact List.forall_mem_nil _ | refine fmc (by k_mem) ?_)); (case hr => repeat' (first | exact List.forall_mem_nil _ | refine fmc (by k_mem) ?_)); (case hd => ((repeat' (first | exact List.forall_mem_nil _ | refine fmc ?_ ?_)) <;> k_ne))); (rotate_left); ((intro e9 h9 tk9 n9 g9 hx9; exact hx9.elim)); ((intro v9 h9 tk9 n9 hr9 F9 N9 ap9; obtain ⟨t91, rfl, rfl⟩ := hr9; clear ap9; dsimp only [List.cons_append, List.nil_append] at N9; (try k_fold))))
  k_with "exec If" => (k_here; (fail_if_success (have h9 := hcs0)); (with_reducible show wpAny _ _ (exec (Stmt.If (PySem.Expr.Compare (PySem.Expr.Name "cp_size" _) _ _ _) _ _ _) _) _ _ _); (rename Fr _ _ _ _ => kF); (rename News _ _ _ _ => kN); (have hcs := copySz_bd (sz := ofv) (by omega) (by omega)); obtain ⟨hcs0, hcs1⟩ := hcs; k_dflt (refine' cut_if (s := ⟨_, _, _, _, _⟩) (Str.ofString "cp_size") (copySz ofv) kF kN ?_ ?_); (rotate_left); (clear kF kN; intro kU kH kTk ts kFr kNews; (try k_fold)); (rotate_left); (try k_fold))
  k_with "CutPost" => ((rename Fr _ _ _ _ => kF); (rename News _ _ _ _ => kN); k_dflt (exact cut_end kF kN rfl (by first | exact cp0 (by omega) | exact cp1 (by omega)) (by intro z a1; simp [kstB, a1])))
  k_with "shift" => exact oct_shift (by assumption) _
  k_with "append" => (rw [List.size_toArray, hvs.length, sizeLine_eq]; omega)
  k_steps
  all_goals (try walk_at "k_fin")
  all_goals (try exact hexc _ _ _ _ ⟨rfl, by walk_at "k_none"⟩ (Flies.sub (by assumption) (by walk_at "k_mems")))
  all_goals (try exact hret _ _ _ _ ⟨_, _, _, _, rfl, by assumption, ⟨some_after (by assumption) (by assumption) (by assumption), by omega⟩, rfl⟩ (Fr.keep (by assumption)) (Led.of_news (by assumption)))

noncomputable def CodeOk (q : Str) (oc : Obj) : Prop := ∃ vs t, oc.data = .fields vs ∧ vs[1]? = some (.str q t)
noncomputable abbrev tabFull (c1 c2 : Addr) : Obj := tabObj (#[] ++ #[rawInt (21 : Nat), rawInt (4 : Nat), Value.ref c1] ++ #[rawInt (35 : Nat), rawInt (4 : Nat), Value.ref c2])
/-- the code objects of the two nested defs stand in the table -/
noncomputable def Tab (n : List (Addr × Obj)) : Prop := ∃ c1 oc1 c2 oc2, n = [(42, tabFull c1 c2), (c1, oc1), (c2, oc2)] ∧ CodeOk (Str.ofString "_apply_delta_py.<locals>.get_delta_header_size") oc1 ∧ CodeOk (Str.ofString "_apply_delta_py.<locals>.read_byte") oc2 ∧ @Ne Nat c1 c2 ∧ @Ne Nat c1 42 ∧ @Ne Nat c2 42
theorem fr_names {g h : Heap} {L : Addr} {m : Str → Option Value} {ps : List (Str × Value)} (F : Fr g L h m) (hp : ∀ p ∈ ps, m p.1 = some p.2) : Fr g L h (kstB m ps) := by
  have em : kstB m ps = m := by
    funext y
    exact kstB_eq hp fun _ => rfl
  rw [em]; exact F
theorem codeOk_of {q q' : Str} {oc : Obj} {vs : Array Value} {t : Tok} (h1 : oc.data = .fields vs) (h2 : vs[1]? = some (.str q' t)) (e : q' = q) : CodeOk q oc := ⟨vs, t, h1, e ▸ h2⟩
theorem news_sub {g h : Heap} {L : Addr} {n n' : List (Addr × Obj)} (N : News g L h n) (hs : ∀ q ∈ n', q ∈ n) : News g L h n' := fun q hq => N q (hs q hq)
theorem apply_core2 (w : World) {p : Program} {loose : List Str} {mean : ExcName → Option Value} {mg mb : Str → Option Value}
   {oc od0 : _} {osl : _} {nm ql : Str} {ps : Arguments} {bd : List Stmt} {sc : Scope} {dV kV dc pm0 cdv ct : Value} {an : Option Addr}
   (hK : List.lookup 47 (hd.heap_1 w.params) = some ⟨oc, od0, .func (fnOf nm ql ps bd sc dV kV dc pm0 an cdv ct), osl⟩)
   {base : Heap} (X₀ : (hd.heap_1 w.params).In base) (T₀ : Top p loose mean mg mb base) (codeHd : CodeHd base 46 42)
   (dp un : Nat) (gd : Option (List Code)) (l : List Env) (hdp : dp + 12 < recursionLimit) (hu : un + 100 < cLine)
   {b d : Array UInt8} {bk dk : List Int} {tb td : Tok} (hbk : KBw.bInts b = bk) (hdk : KBw.bInts d = dk) (hb : bk.length ≤ 200000) (hd0 : dk.length ≤ 1800)
   {g : Heap} {s : Shared} {Q E : Value → Shared → Prop} (B : Below (aTop dp un gd l) base l g) {L' : Addr} {m : Str → Option Value} {f1 f2 c1 c2 lo : Addr} {fd1 fd2 : FuncData} {oc1 oc2 oi od o42 : Obj} {nn : Nat} {t0 tl : Tok}
   (F : Fr g L' s.heap (kstB m [(Str.ofString "src_buf", .bytes b tb), (Str.ofString "delta", .bytes d td), (Str.ofString "out", .ref lo), (Str.ofString "get_delta_header_size", .ref f1), (Str.ofString "read_byte", .ref f2)]))
   (N : News g L' s.heap [(L' + 1 + 1, oi), (lo, listOf #[] nn), (f1, fnO fd1), (c1, oc1), (f2, fnO fd2), (c2, oc2), (L' + 1, od), (42, o42)])
   (hoi : oi.data = .cell (some (.int 0 t0))) (hod : od.data = .cell (some (.int dk.length tl)))
   (hap : List.Pairwise (α := Nat) (· ≠ ·) [L' + 1 + 1, lo, f1, c1, f2, c2, L' + 1, 42])
   (H1 : ∀ (i : Int) ti, 0 ≤ i → i ≤ dk.length → Spec PySem.Challenge.rw_jq0004_02.row.prog w (aTop (dp + 1) (un + 3) gd (envOfC ql sc L' 47 cdv :: l)) base (envOfC ql sc L' 47 cdv :: l) (.ref f1) [.bytes d td, .int i ti] [(f1, fnO fd1), (c1, oc1), (L' + 1, od)]
     (fun v n' => ∃ D sz t1 ix t2 k, v = .ref D ∧ n' = [(D, tupO [.int sz t1, .int ix t2]), (f1, fnO fd1), (c1, oc1), (L' + 1, od)] ∧ sizeL (dk.drop i.toNat) = some (sz, k) ∧ ix = i + (k : Nat))
     (.ref 32) (fun n' => n' = [(f1, fnO fd1), (c1, oc1), (L' + 1, od)] ∧ sizeL (dk.drop i.toNat) = none))
   (H2 : ∀ (i : Int) ti oi, oi.data = .cell (some (.int i ti)) → 0 ≤ i → Spec PySem.Challenge.rw_jq0004_02.row.prog w (aTop (dp + 1) (un + 3) gd (envOfC ql sc L' 47 cdv :: l)) base (envOfC ql sc L' 47 cdv :: l) (.ref f2) [.bytes d td] [(f2, fnO fd2), (c2, oc2), (L' + 1 + 1, oi), (L' + 1, od)]
     (fun v n' => ∃ t1 oi' t2, v = .int (dk.getD i.toNat 0) t1 ∧ n' = [(f2, fnO fd2), (c2, oc2), (L' + 1 + 1, oi'), (L' + 1, od)] ∧ oi'.data = .cell (some (.int (i + 1) t2)) ∧ i < dk.length)
     (.ref 32) (fun n' => n' = [(f2, fnO fd2), (c2, oc2), (L' + 1 + 1, oi), (L' + 1, od)] ∧ dk.length ≤ i))
   (hret : ∀ v h' tk n', (∃ lo vs cs nn, v = .ref lo ∧ BytesAre vs cs ∧ (readDelta bk dk = some cs.flatten ∧ cs.length ≤ 2000) ∧ n' = [(lo, listOf (List.toArray vs) nn), (42, o42), (c1, oc1), (c2, oc2)]) → g.StaysIn h' → Led g h' n' → Q v { s with heap := h', toks := tk })
   (hexc : ∀ e h' tk n', (n' = [(42, o42), (c1, oc1), (c2, oc2)] ∧ readDelta bk dk = none) → Flies base g l (.ref 32) n' e h' → E e { s with heap := h', toks := tk })
   {stmts : List Stmt} {Pn : Flow → Shared → Prop} {En : Value → Shared → Prop} {Am : Around} {env : Env} (hst : bd.drop 7 = stmts) (henv : envOfC ql sc L' 47 cdv = env) (hA : (aTop dp un gd l).deeper (envOfC ql sc L' 47 cdv) = Am)
   (hP : ∀ fl s', Q (match fl with | .ret v => v | _ => .none) s' → Pn fl s')
   (hE : ∀ e s', wpAny (TheM w) ((aTop dp un gd l).deeper (envOfC ql sc L' 47 cdv)) (leaving (envOfC ql sc L' 47 cdv) e) (fun _ s'' => E e s'') (fun e' s'' => E e' s'') s' → En e s') :
   wpAny (TheM w) Am (execs stmts env) Pn En s := by
  subst hst henv hA
  exact wpAny_mono (apply_core w hK X₀ T₀ codeHd dp un gd l hdp hu hbk hdk hb hd0 B F N hoi hod hap H1 H2 hret hexc) hP hE

set_option maxHeartbeats 8000000 in
theorem apply_first (w : World) {p : Program} {loose : List Str} {mean : ExcName → Option Value} {mg mb : Str → Option Value}
   {base : Heap} (X₀ : (hd.heap_1 w.params).In base) (T₀ : Top p loose mean mg mb base) (codeHd : CodeHd base 46 42)
   (dp un : Nat) (gd : Option (List Code)) (l : List Env) (hdp : dp + 12 < recursionLimit) (hu : un + 100 < cLine)
   {b d : Array UInt8} {bk dk : List Int} (tb td : Tok) (hbk : KBw.bInts b = bk) (hdk : KBw.bInts d = dk) (hb : bk.length ≤ 200000) (hd0 : dk.length ≤ 1800) :
   Spec PySem.Challenge.rw_jq0004_02.row.prog w (aTop dp un gd l) base l (.ref 47) [.bytes b tb, .bytes d td] [(42, tabObj #[])]
     (fun v n' => ∃ lo vs cs nn n1, v = .ref lo ∧ BytesAre vs cs ∧ (readDelta bk dk = some cs.flatten ∧ cs.length ≤ 2000) ∧ n' = (lo, listOf (List.toArray vs) nn) :: n1 ∧ Tab n1)
     (.ref 32) (fun n' => Tab n' ∧ readDelta bk dk = none) := by
  intro g s Q E B hg hsz N hret hexc
  have hfill : (fun _ : OpenLaw => hd.heap_1) PySem.Challenge.rw_jq0004_02 = hd.heap_1 := by (k_fill; rfl)
  clear hfill
  have X := X₀.keeps B.stays
  have T := T₀.keeps B.stays
  refine wpAny_call ?_
  k_dflt (refine' enter_defC hg hsz N X T ?k6 ?k7 ?k8 ?k9 ?kB ?kD ?_ ?c2 ?c3 ?c4; (case k6 => k_is); (case k7 => k_is); (case k8 => ktr_room); (case k9 => exact BindsTo.of_eq rfl); (case kB => exact rfl); (case kD => decide +kernel); (case c2 => exact rfl); (case c3 => exact rfl); (case c4 => exact rfl); k_whole; intro L' h' tk' cells' F' N' Y' l1; (try k_lt l1); k_cells Y'; (try simp only [List.cons_append, List.nil_append] at N'); (try dsimp only); (try k_fold))
  k_with_none
  k_with "execs cons" => k_fold
  k_with "eval Call" => k_fold
  k_with "storeName" => (k_here; k_dflt (first | (refine' storeI_L ?F ?N ?_ ?a ?b; (case F => k_asm); (case N => k_asm); (case a => rfl); (case b => rfl); k_whole; intro h' tk' t' F' N'; (try k_sweep); (try dsimp only); (try k_fold)) | (refine' storeB_L ?F ?N ?_ ?a ?b; (case F => k_asm); (case N => k_asm); (case a => rfl); (case b => rfl); k_whole; intro h' tk' t' F' N'; (try k_sweep); (try dsimp only); (try k_fold)) | (refine' storeG_L ?F ?N ?_ ?a ?b; (case F => k_asm); (case N => k_asm); (case a => rfl); (case b => rfl); k_whole; intro h' tk' F' N'; (try k_sweep); (try dsimp only); (try k_fold))))
  k_with "k_memx" => (first | k_mem | with_reducible (repeat' (first | exact List.Mem.head _ | refine List.Mem.tail _ ?_)))
  k_with "exec Raise some none" => k_extra "raise"
  k_with "exec While Constant cons nil" => k_extra "while"
  k_with "exec While Compare cons nil" => k_extra "while"
  k_with "KswEnd" => k_extra "turn"
  k_with "subscriptTail Name Slice bytes ref" => (k_here; (with_reducible show wpAny _ _ (subscriptTail _ (PySem.Expr.Slice (some _) (some _) none _) (Value.bytes _ _) (Value.ref _)) _ _ _); (with_reducible rename Fr _ _ _ _ => F'); (with_reducible rename News _ _ _ _ => N'); (refine slice_ij (s := ⟨_, _, _, _, _⟩) F' N' (by assumption) (by omega) (by omega) (by omega) ?_); intro _ _ _ _ _ _ hcut)
  k_with "call builtin:len" => (k_here; (with_reducible show wpAny _ _ (call (Value.builtin "len") [Value.bytes _ _]) _ _ _); (refine len_b (by assumption) (by omega) ?_); intro _ _)
  k_with "call builtin:ord" => (k_here; (with_reducible show wpAny _ _ (call (Value.builtin "ord") [Value.bytes _ _]) _ _ _); (refine ord_bytes (Eq.trans (by assumption) (cut_one' _ _ _ (by omega) (by omega) (by omega))) ?_); intro _ _ hlo hhi)
  k_with "loadName" => (k_here; k_dflt (refine' loadX_L ?F ?v ?_ ?hk ?hx; (case F => k_asm); (case v => rfl); (case hk => rfl); (case hx => rfl); k_whole))
  k_with "leaving ref" => (k_here; k_dflt (refine' leave_made ?B ?hx ?F ?N (fun _ h => h) ?hf ?hk ?_; (case hx => assumption); (case B => assumption); (case F => k_asm); (case N => k_asm); (case hf => exact rfl); (case hk => exact rfl)); intro h' fl'; (try dsimp only))
  k_with "leaving" => (k_here; k_dflt (refine' leave_on2 ?B ?F ?x ?hr ?hf ?_; (case x => assumption); (case hr => assumption); (case B => assumption); (case F => k_asm); (case hf => exact rfl)); intro h' fl'; (try dsimp only [List.cons_append, List.nil_append]))
  k_with "binaryOp LShift int int" => (k_here; (refine lshift_any (by omega) (by omega) (by k_extra "shift") ?_); intro _ _)
  k_with "call ref" => k_extra "call"
  k_with "formatField int" => (k_here; (with_reducible rename Fr _ _ _ _ => kF); (refine fmt_int rfl (Heap.NoDigits.keeps (Top.nodigits (by assumption)) (Fr.keep kF)) (by k_extra "digits") ?_); intro _ _ _ hfm)
  k_with "exec For Name Call cons nil" => k_extra "for"
  k_with "pyIter ref" => k_extra "iter"
  k_with "subscriptTail Name Slice bytes ref" => (k_here; (with_reducible show wpAny _ _ (subscriptTail _ (PySem.Expr.Slice (some _) none none _) (Value.bytes _ _) (Value.ref _)) _ _ _); (with_reducible rename Fr _ _ _ _ => F'); (with_reducible rename News _ _ _ _ => N'); (refine slice_i (s := ⟨_, _, _, _, _⟩) F' N' (by assumption) (by omega) (by omega) ?_); intro _ _ _ _ _ _ hcut)
  k_with "pyReprObj bytes" => (k_here; (have hsm := drop_small (by assumption) (by assumption)); (refine repr_b (by omega) ?_); intro _ _ _ hxl)
  k_with "call builtin:list.append" => (k_here; k_dflt (refine' append_K ?k1 ?k2 ?k3 ?_ ?z; (case k1 => k_asm); (case k2 => k_asm); (case k3 => k_upd); (case z => k_extra "append"); k_whole); intro h' F' N'; (try k_sweep))
  k_with "MainPost" => (dsimp only [MainPost])
  k_with "execs cons Assign cons" => k_extra "core"
  have hK := (by k_dflt k_is : List.lookup 47 (hd.heap_1 w.params) = some ⟨_, _, .func (fnOf _ _ _ _ _ _ _ _ _ _ _ _), _⟩)
  k_with "core" => ((with_reducible show wpAny _ _ (execs (Stmt.Assign [Expr.Tuple _ _ _] _ _ :: _) _) _ _ _); (rename Fr _ _ _ _ => kF); (rename News _ _ _ _ => kN); k_dflt ((refine' apply_core2 (Q := Q) (E := E) w hK X₀ T₀ codeHd dp un gd l hdp hu hbk hdk hb hd0 B ?F ?N ?hoi ?hod ?hap ?H1 ?H2 ?hret ?hexc ?hst ?henv ?hA ?hP ?hE); (case hst => exact rfl); (case henv => exact rfl); (case hA => exact rfl); (case hP => exact fun _ _ z => z); (case hE => exact fun _ _ z => z); (case F => refine fr_names kF ?_; (repeat' (first | exact List.forall_mem_nil _ | refine fmc (by exact rfl) ?_)))); (case N => (k_dflt (exact news_sub kN (fmc ((List.Mem.tail _ (List.Mem.tail _ (List.Mem.tail _ (List.Mem.tail _ (List.Mem.tail _ (List.Mem.head _))))))) ((fmc ((List.Mem.tail _ (List.Mem.tail _ (List.Mem.tail _ (List.Mem.tail _ (List.Mem.head _)))))) ((fmc ((List.Mem.tail _ (List.Mem.tail _ (List.Mem.head _)))) ((fmc ((List.Mem.tail _ (List.Mem.tail _ (List.Mem.tail _ (List.Mem.head _))))) ((fmc ((List.Mem.head _)) ((fmc ((List.Mem.tail _ (List.Mem.head _))) ((fmc ((List.Mem.tail _ (List.Mem.tail _ (List.Mem.tail _ (List.Mem.tail _ (List.Mem.tail _ (List.Mem.tail _ (List.Mem.head _)))))))) ((fmc ((List.Mem.tail _ (List.Mem.tail _ (List.Mem.tail _ (List.Mem.tail _ (List.Mem.tail _ (List.Mem.tail _ (List.Mem.tail _ (List.Mem.head _))))))))) (List.forall_mem_nil _))))))))))))))))))); (case hoi => assumption); (case hod => assumption); (case hap => exact apart_bytes (Nat.lt_succ_of_lt (by first | assumption | exact And.left (by assumption) | omega)) (Nat.lt_succ_self _) (by first | assumption | exact And.left (by assumption) | omega) (by first | assumption | exact And.left (by assumption) | omega) (by first | assumption | exact And.left (by assumption) | omega) (by first | assumption | exact And.left (by assumption) | omega) (by first | assumption | exact And.left (by assumption) | omega)); (case H1 => (k_dflt (intro i ti h0 h1; exact hdr_spec w hK rfl X₀ T₀ codeHd (dp + 1) (un + 3) gd _ (by omega) (by omega) (by assumption) (by assumption) hdk hd0 (by assumption) td ti h0 h1))); (case H2 => (k_dflt (intro i ti oi hoi h0; exact byte_spec w hK rfl X₀ T₀ codeHd (dp + 1) (un + 3) gd _ (by omega) (by omega) (by assumption) (by assumption) hdk hd0 (by assumption) hoi td h0 (show @Ne Nat _ _ by omega) (show @Ne Nat _ _ by omega) (show @Ne Nat _ _ by omega)))); (case hexc => (rintro e h' tk n' ⟨rfl, hn⟩ fl; exact hexc _ _ _ _ ⟨⟨_, _, _, _, rfl, codeOk_of (by assumption) (by assumption) (by kernel_rfl), codeOk_of (by assumption) (by assumption) (by kernel_rfl), by omega, by omega, by omega⟩, hn⟩ fl)); (case hret => (rintro v h' tk n' ⟨lo, vs, cs, nn, rfl, hb, hr, rfl⟩ hs hl; exact hret _ _ _ _ ⟨lo, vs, cs, nn, _, rfl, hb, hr, rfl, ⟨_, _, _, _, rfl, codeOk_of (by assumption) (by assumption) (by kernel_rfl), codeOk_of (by assumption) (by assumption) (by kernel_rfl), by omega, by omega, by omega⟩⟩ hs hl)))
  k_steps
end Mine
open PySem PySem.W PyProof.Rows PySem.Calls PySem.Spec
namespace Mine
set_option maxRecDepth 100000
noncomputable def valL : List Int → Int
  | [] => 0
  | x :: r => x + 256 * valL r
section
variable {bk dk acc : List Int} {two at_ : Int} {R : Option (List Int)}
end
end Mine
open PySem PySem.W PyProof.Rows PySem.Calls PySem.Spec
namespace Mine
set_option maxRecDepth 100000
section
variable {prog : Program} {w : World} {A : Around} {E : Value → Shared → Prop} {Q : Flow → Shared → Prop} {s : Shared} {env : Env} {h₀ : Heap} {L : Addr} {body : List Stmt}
noncomputable abbrev Rd3S := Addr × List Value × Nat × Addr × List Value × List Int × Nat × Int
noncomputable abbrev rd3Ps (c : Rd3S) : List (Str × Value) := [(Str.ofString "octets", .ref c.1), (Str.ofString "found", .ref c.2.2.2.1)]
noncomputable abbrev rd3Facts (dk : List Int) (c : Rd3S) : Prop := IntsAre c.2.1 (dk.drop c.2.2.2.2.2.2.2.toNat) ∧ IntsAre c.2.2.2.2.1 c.2.2.2.2.2.1
noncomputable abbrev rd3Stored : List Str := [Str.ofString "octets", Str.ofString "found", Str.ofString "step", Str.ofString "told", Str.ofString "k", Str.ofString "place", Str.ofString "length"]
end
section
variable {prog : Program} {w : World} {A : Around} {E : Value → Shared → Prop} {s : Shared} {h₀ : Heap} {L a b : Addr} {news : List (Addr × Obj)} {ws : List Value} {ks : List Int} {ix : Int} {n n' : Nat}
end
theorem ints_to {us : List Value} {a b : List Int} (h : IntsAre us a) (e : a = b) : IntsAre us b := e ▸ h
theorem copy0 {sz : Int} (h : sz = 0) : copySz sz = 65536 := if_pos h
theorem copy1 {sz : Int} (h : sz ≠ 0) : copySz sz = sz := if_neg h
section
variable {prog : Program} {w : World} {A : Around} {E : Value → Shared → Prop} {s : Shared} {h₀ : Heap} {L a : Addr} {news : List (Addr × Obj)} {ws : List Value} {ks : List Int} {n : Nat}
theorem len_at {Q : Value → Shared → Prop} (N : News h₀ L s.heap news) (hm : (a, listOf (List.toArray ws) n) ∈ news) (hi : IntsAre ws ks) (hz : ks.length ≤ 100000000) (h : ∀ t k, Q (.int ks.length t) { s with toks := k }) :
    wpAny (model prog w) A (call (.builtin "len") [.ref a]) Q E s := by
  have e : (List.toArray ws).size = ks.length := by rw [List.size_toArray, hi.length]
  refine PyProof.Rows.len_list (News.isList N hm) (by rw [e]; omega) ?_
  rw [e]
  exact h _ _
end
end Mine
open PySem PySem.W PyProof.Rows PySem.Calls PySem.Spec
namespace Mine
set_option maxRecDepth 100000
theorem cons_of {b : Array UInt8} {r : List Int} (h : (b.toList != #[].toList) = true) (hk : KBw.bInts b = r) : ∃ c q, r = c :: q := by
  have := len_pos (b := b) (by simpa [bne] using h) hk
  cases r with
  | nil => exact absurd this (by decide)
  | cons c q => exact ⟨c, q, rfl⟩
theorem nil_of {b : Array UInt8} {r : List Int} (h : (b.toList != #[].toList) = false) (hk : KBw.bInts b = r) : r = [] := by
  have e : b = #[] := by
    apply Array.toList_inj.mp
    simpa [bne] using h
  rw [e] at hk
  exact hk.symm
theorem inv_len {dk q : List Int} {c : Int} {rs : List Row} (h : rowsInv dk (c :: q) rs) : rs.length + q.length + 1 ≤ dk.length := h.2
theorem name_hd {g h : Heap} {L : Addr} {a : Addr} {o : Obj} {r : List (Addr × Obj)} (_N : News g L h ((a, o) :: r)) {P : Prop} (k : ∀ b, b = a → P) : P := k a rfl
theorem bits_in {c k : Int} (h : k ∈ bitsL c) : 0 ≤ k ∧ k < 7 := by
  have := mem_rangeKs (List.mem_filter.mp h).1
  exact ⟨this.1, by have := this.2; omega⟩
theorem bits_len (c : Int) : (bitsL c).length ≤ 7 := by
  have := List.length_filter_le (bitP c) (rangeKs 0 7)
  rwa [rangeKs_length] at this
theorem bit_c {c k : Int} : ((c.fdiv (2 ^ k.toNat)).fmod 2 == 1) = bitP c k := rfl
theorem bit_a {c k : Int} (h : (c.fdiv (2 ^ k.toNat)).fmod 2 = 1) : true = bitP c k := (decide_eq_true h).symm
section
variable {prog : Program} {w : World} {A : Around} {E : Value → Shared → Prop} {s : Shared}
theorem item0 {value slice : PySem.Expr} {b : Array UInt8} {t ui : Tok} {c : Int} {q : List Int} {Q : Value → Shared → Prop} (hk : KBw.bInts b = c :: q) (hz : q.length ≤ 1800) (h : ∀ t' k, 0 ≤ c → c < 256 → Q (.int c t') { s with toks := k })
    (hs : subscripted slice false (.bytes b t) (.int 0 ui) = operate [.bytes b t, .int 0 ui] (getItem (.bytes b t) (.int 0 ui)) := by with_unfolding_all rfl)
    (ht : ∀ r, letTemporaryGo value (.bytes b t) r = pure () := by intro _; with_unfolding_all rfl) : wpAny (model prog w) A (subscriptTail value slice (.bytes b t) (.int 0 ui)) Q E s :=
  KBw.item_K hk (by rw [List.length_cons]; omega) (Int.le_refl _) (by rw [List.length_cons]; omega) (fun t' k h0 h1 => h t' k h0 h1) hs ht
end
section
variable {prog : Program} {w : World} {A : Around} {E : Value → Shared → Prop} {s : Shared}
theorem item_n {value slice : PySem.Expr} {b : Array UInt8} {t ui : Tok} {n : Nat} {q : List Int} {Q : Value → Shared → Prop} (hk : KBw.bInts b = q) (hz : q.length ≤ 1800) (hn : n < q.length) (h : ∀ t' k, 0 ≤ q.getD n 0 → q.getD n 0 < 256 → Q (.int (q.getD n 0) t') { s with toks := k })
    (hs : subscripted slice false (.bytes b t) (.int ((n : Nat) : Int) ui) = operate [.bytes b t, .int ((n : Nat) : Int) ui] (getItem (.bytes b t) (.int ((n : Nat) : Int) ui)) := by with_unfolding_all rfl)
    (ht : ∀ r, letTemporaryGo value (.bytes b t) r = pure () := by intro _; with_unfolding_all rfl) : wpAny (model prog w) A (subscriptTail value slice (.bytes b t) (.int ((n : Nat) : Int) ui)) Q E s :=
  KBw.item_K hk (by omega) (by omega) (by omega) (fun t' k h0 h1 => h t' k h0 h1) hs ht
end
set_option maxHeartbeats 4000000 in
/-- `_law_rows` -/
theorem rows2_spec (w : World) {p : Program} {loose : List Str} {mean : ExcName → Option Value} {mg mb : Str → Option Value}
   {base : Heap} (X₀ : (hd.heap_1 w.params).In base) (T₀ : Top p loose mean mg mb base)
   (dp un : Nat) (gd : Option (List Code)) (l : List Env) (hdp : dp + 15 < recursionLimit)
   {d : Array UInt8} {dk : List Int} {td : Tok} (hdk : KBw.bInts d = dk) (hd0 : dk.length ≤ 1800) :
   Spec PySem.Challenge.rw_jq0004_02.row.prog w (aTop dp un gd l) base l (.ref 103) [.bytes d td] []
     (fun v n' => (v = .none ∧ n' = [] ∧ readRows dk = none) ∨ (∃ lo vs rs nn tn, v = .ref lo ∧ n' = (lo, listOf (List.toArray vs) nn) :: tn ∧ RowsAre tn vs rs ∧ readRows dk = some rs ∧ rs.length ≤ dk.length)) (.ref 32) (fun _ => False) := by
  have hfill : (fun _ : OpenLaw => hd.heap_1) PySem.Challenge.rw_jq0004_02 = hd.heap_1 := by (k_fill; rfl)
  clear hfill
  intro g s Q E B hg hsz N hret hexc
  have X := X₀.keeps B.stays
  have T := T₀.keeps B.stays
  all_goals refine wpAny_call ?_
  all_goals k_dflt (refine' enter_defC hg hsz N X T ?k6 ?k7 ?k8 ?k9 ?kB ?kD ?_ ?c2 ?c3 ?c4; (case k6 => k_is); (case k7 => k_is); (case k8 => ktr_room); (case k9 => exact BindsTo.of_eq rfl); (case kB => exact rfl); (case kD => decide +kernel); (case c2 => exact rfl); (case c3 => exact rfl); (case c4 => exact rfl); k_whole; intro L' h' tk' cells' F' N' Y' l1; (try k_lt l1); k_cells Y'; (try simp only [List.cons_append, List.nil_append] at N'); (try dsimp only); (try k_fold))
  k_with_none
  k_with "execs cons" => k_fold
  k_with "eval Call" => k_fold
  k_with "storeName" => (k_here; k_dflt (first | (refine' storeI_L ?F ?N ?_ ?a ?b; (case F => k_asm); (case N => k_asm); (case a => rfl); (case b => rfl); k_whole; intro h' tk' t' F' N'; (try k_sweep); (try dsimp only); (try k_fold)) | (refine' storeB_L ?F ?N ?_ ?a ?b; (case F => k_asm); (case N => k_asm); (case a => rfl); (case b => rfl); k_whole; intro h' tk' t' F' N'; (try k_sweep); (try dsimp only); (try k_fold)) | (refine' storeG_L ?F ?N ?_ ?a ?b; (case F => k_asm); (case N => k_asm); (case a => rfl); (case b => rfl); k_whole; intro h' tk' F' N'; (try k_sweep); (try dsimp only); (try k_fold))))
  k_with "sub" => (exact fun q9 hq9 => List.Sublist.subset (by with_reducible (repeat (first | exact List.Sublist.refl _ | exact List.nil_sublist _ | refine List.Sublist.cons_cons _ ?_ | refine List.Sublist.cons _ ?_))) hq9)
  k_with "exec While Compare cons nil" => ((rename Fr _ _ _ _ => kF); (rename News _ _ _ _ => kN); (rename Obj.data _ = Data.cell (some (Value.bytes _ _)) => kO1); (rename Obj.data _ = Data.cell none => kO2); (refine name_hd kN ?_); intro lo hlo; subst hlo; (have ne1 : @Ne Nat (L' + 1) lo := by omega); (have ne2 : @Ne Nat (L' + 1 + 1) lo := by omega); k_dflt (refine' rows_loop dk (L' + 1) (L' + 1 + 1) lo kF kN ?hm1 ?hm2 ?hml hdk kO1 kO2 ?_ ?hE; (case hm1 => k_mem); (case hm2 => k_mem); (case hml => exact List.Mem.head _); (case hE => first | passes_own | with_unfolding_all passes_own)); (clear kF kN kO1 kO2); (intro b tb r oc oc2 v2 vs rs nn tn kU kH kTk hb kO1 kO2 hR hA hP kFr kNews; (have hvl := hR.length); (try dsimp only); (try k_fold)))
  k_with "tailm" => (with_reducible (repeat (first | assumption | exact List.Mem.head _ | refine List.Mem.tail _ ?_)))
  k_with "subscriptTail" => (k_here; (have h9 := inEl); (with_reducible show wpAny _ _ (subscriptTail _ _ (Value.bytes _ _) (Value.int (Nat.cast _) _)) _ _ _); (refine item_n hq (by omega) (by omega) ?_); intro _ _ kc2 kc3; (try dsimp only))
  k_with "subscriptTail" => (k_here; (with_reducible show wpAny _ _ (subscriptTail _ _ (Value.bytes _ _) (Value.int 0 _)) _ _ _); (obtain ⟨c, q, rfl⟩ := cons_of (by assumption) hb); (have hPl := inv_len hP); (refine item0 hb (by omega) ?_); intro tc _ kc0 kc1; (try dsimp only))
  k_with "subscriptTail Name Slice bytes ref" => (k_here; (with_reducible show wpAny _ _ (subscriptTail _ (PySem.Expr.Slice (some _) none none _) (Value.bytes _ _) (Value.ref _)) _ _ _); (with_reducible rename Fr _ _ _ _ => kF); (with_reducible rename News _ _ _ _ => kN); first | (refine slice_i (s := ⟨_, _, _, _, _⟩) kF kN hq (by omega) (by omega) ?_; intro _ _ _ _ _ _ hcut; (try dsimp only)) | (refine slice_i (s := ⟨_, _, _, _, _⟩) kF kN hb (by decide) (by rw [List.length_cons]; omega) ?_; intro _ _ _ _ _ _ hcut; k_dflt (change KBw.bInts _ = q at hcut); (try dsimp only)))
  k_with "storeName" => (k_here; (with_reducible show wpAny _ _ (storeName _ "code" _) _ _ _); (with_reducible rename Fr _ _ _ _ => kF); (with_reducible rename News _ _ _ _ => kN); (have kN2 := nws_sub (n' := (L' + 1, oc) :: (L' + 1 + 1, oc2) :: (lo, listOf (List.toArray vs) nn) :: tn) kN (by walk_at "sub")); k_dflt (refine store_code kF kN2 kO2 hA (by show @Ne Nat _ _; omega) ne2 ?_ rfl rfl rfl); clear kF kN kN2; intro h8 tk8 oc8 F8 N8 kO8; (try dsimp only); (try k_fold))
  k_with "storeName" => (k_here; (with_reducible show wpAny _ _ (storeName _ "octets" _) _ _ _); (fail_if_success (have h9 := hq)); (with_reducible rename Fr _ _ _ _ => kF); (with_reducible rename News _ _ _ _ => kN); k_dflt (refine store_oct kF kN kO1 hA (by show @Ne Nat _ _; omega) ne1 ?_ rfl rfl rfl); clear kF kN kO1 kO2; intro h7 tk7 oc7 F7 N7 kO7; (have hq := hcut); clear hcut; (try dsimp only); (try k_fold))
  k_with "CompSrcT" => (k_here; k_dflt (refine LCt.CompSrcT.range (by rfl) (by k_asm) (by k_asm) (by assumption) (by decide) (by rfl) (by size_fits) ?_; intro g'; (refine' sift_range (n := 7) (bitP c) trivial (fun k' t' I' oI' C' oC' D' m' ys' h' tk' E' hlo' hhi' hC' hx' F' N' off' ne' hMark' => ?_) ?_); (all_goals (try (simp only [LCg.Off3, and_true] at off')))))
  k_with "binaryOp Pow int int" => (k_here; (refine pow_int_small ?k1 ?k2 (by decide) ?_); (case k1 => first | omega | exact (bits_in (by assumption)).1); (case k2 => first | omega | (have := (bits_in (by assumption)).2; omega)))
  k_with "binaryOp FloorDiv int int" => (k_here; (refine fdiv_pw 2 (by decide) (by decide) (by omega) ?_); intro _ _; (try dsimp only))
  k_with "TstEnd" => ((rename Fr _ _ _ _ => kF); (rename News _ _ _ _ => kN); k_dflt (exact tst_end kF kN (by walk_at "sub") (by first | exact bit_c | exact bit_a (by assumption) | exact bit_b (by assumption))))
  k_with "FinA" => ((unfold LCg.FinA); (rename IntsAre _ _ => kSh); intro D3 h' tk' F' N' o1'; (try simp only [LCg.Off1, and_true] at o1'); (try simp only [List.nil_append, List.cons_append] at N'); (change IntsAre _ (bitsL c) at kSh); (have kShl := kSh.length); (have kSh7 := bits_len c); (try dsimp only))
  k_with "call builtin:len" => (k_here; (with_reducible show wpAny _ _ (call (Value.builtin "len") [Value.ref D3]) _ _ _); (rename News _ _ _ _ => kN); k_dflt (first | refine len_at kN (List.Mem.head _) kSh (by omega) ?_ | refine len_at kN (List.Mem.tail _ (List.Mem.tail _ (List.Mem.tail _ (List.Mem.tail _ (List.Mem.head _))))) kSh (by omega) ?_); intro _ _; (try dsimp only))
  k_with "call builtin:len" => (k_here; (with_reducible show wpAny _ _ (call (Value.builtin "len") [Value.bytes _ _]) _ _ _); (refine len_b hq (by omega) ?_); intro _ _; (try dsimp only))
  k_with "eval ListComp" => (k_here; k_dflt (refine enum_comp (by with_unfolding_all rfl) (by rfl) (by decide) ?_))
  k_with "call type:enumerate" => (k_here; (fail_if_success (have h9 := inStart)); (show wpAny _ _ _ (EnumSrc _ _ _ _ _ _ _ _ _ _ _ _ _ _ _ _ _ _) _ _); (rename Fr _ _ _ _ => kF); (rename News _ _ _ _ => kN); k_dflt (refine' enum_call (fun k => decide (k < 4)) (fun n k => q.getD n 0 * 256 ^ k.toNat) rfl kF kN (List.Mem.head _) kSh ?hz ?c1 ?c2 ?c3 ?c4 ?c5 ?_ ?_ ?_; (case c1 => decide); (case c2 => rfl); (case c3 => rfl); (case c4 => rfl); (case c5 => decide); (case hz => omega); skip); (clear kF kN; intro n k t t' C oC m₂ h tk E' hn hk hC ha hb' F N; (try k_fold)); (rotate_left); (clear kF kN; intro n k t t' C oC m₂ h tk E' hn hk hp hC ha hb' F N; (have inEl : True := trivial); (try k_fold)); (rotate_left); (clear kF kN; intro D4 ys4 h4 tk4 hI4 F4 N4 l4; (have inStart : True := trivial); (try k_fold)))
  k_with "call type:enumerate" => (k_here; (have h9 := inStart); (show wpAny _ _ _ (EnumSrc _ _ _ _ _ _ _ _ _ _ _ _ _ _ _ _ _ _) _ _); (rename Fr _ _ _ _ => kF); (rename News _ _ _ _ => kN); k_dflt (refine' enum_call (fun k => decide (3 < k)) (fun n k => q.getD n 0 * 256 ^ (k - 4).toNat) rfl kF kN (List.Mem.tail _ (List.Mem.head _)) kSh ?hz ?c1 ?c2 ?c3 ?c4 ?c5 ?_ ?_ ?_; (case c1 => decide); (case c2 => rfl); (case c3 => rfl); (case c4 => rfl); (case c5 => decide); (case hz => omega); skip); (clear kF kN; intro n k t t' C oC m₂ h tk E' hn hk hC ha hb' F N; (try k_fold)); (rotate_left); (clear kF kN; intro n k t t' C oC m₂ h tk E' hn hk hp hC ha hb' F N; (have hp2 := of_decide_eq_true hp); (have inEl : True := trivial); (try k_fold)); (rotate_left); (clear kF kN; intro D4 ys4 h4 tk4 hI4 F4 N4 l4; (try k_fold)))
  k_with "TstPure" => (k_dflt (exact ⟨rfl, _, rfl⟩))
  k_with "ElPure" => (k_dflt (exact ⟨⟨_, rfl⟩, _, rfl⟩))
  k_with "subscriptTail Name Slice bytes ref" => (k_here; (with_reducible show wpAny _ _ (subscriptTail _ (PySem.Expr.Slice none (some _) none _) (Value.bytes _ _) (Value.ref _)) _ _ _); (with_reducible rename Fr _ _ _ _ => kF); (with_reducible rename News _ _ _ _ => kN); (refine slice_j (s := ⟨_, _, _, _, _⟩) kF kN hq (by omega) (by omega) ?_; intro _ _ _ _ _ _ hcutT; (try dsimp only)))
  k_with "call builtin:list.append" => (k_here; (with_reducible show wpAny _ _ (call _ [_, Value.bytes _ _]) _ _ _); (rename Fr _ _ _ _ => kF); (rename News _ _ _ _ => kN); k_dflt (refine app_row kF kN hA ne1 ne2 ?_ (by rw [hvl, sizeLine_eq]; omega)); clear kF kN; intro h6 F6 N6; (try dsimp only); (try k_fold))
  k_with "call builtin:list.append" => (k_here; (with_reducible show wpAny _ _ (call _ [_, Value.ref _]) _ _ _); (rename Fr _ _ _ _ => kF); (rename News _ _ _ _ => kN); (refine name_hd kN ?_); intro D5 hD5; subst hD5; (have d5a : @Ne Nat D5 (L' + 1) := by omega); (have d5b : @Ne Nat D5 (L' + 1 + 1) := by omega); (have d5c : @Ne Nat D5 lo := by omega); (have d3a : @Ne Nat D3 (L' + 1) := o1'.1.symm); (have d3b : @Ne Nat D3 (L' + 1 + 1) := o1'.2.1.symm); (have d3c : @Ne Nat D3 lo := o1'.2.2.1.symm); k_dflt (refine app_copy kF kN (List.Mem.head _) (List.Mem.tail _ (List.Mem.tail _ (List.Mem.tail _ (List.Mem.head _)))) (List.Mem.tail _ (List.Mem.tail _ (List.Mem.tail _ (List.Mem.tail _ (List.Mem.head _))))) (List.Mem.tail _ (List.Mem.tail _ (List.Mem.tail _ (List.Mem.tail _ (List.Mem.tail _ (List.Mem.head _)))))) (List.Mem.tail _ (List.Mem.tail _ (List.Mem.tail _ (List.Mem.tail _ (List.Mem.tail _ (List.Mem.tail _ (List.Mem.head _))))))) (fun q9 hq9 => (List.Mem.tail _ (List.Mem.tail _ (List.Mem.tail _ (List.Mem.tail _ (List.Mem.tail _ (List.Mem.tail _ (List.Mem.tail _ hq9)))))))) hA ne1 ne2 d5c d3c ?_ (by rw [hvl, sizeLine_eq]; omega)); clear kF kN; intro h6 F6 N6; (have inApp : True := trivial); (try dsimp only); (try k_fold))
  k_with "storeName" => (k_here; (with_reducible show wpAny _ _ (storeName _ "octets" _) _ _ _); (have h9 := hq); (with_reducible rename Fr _ _ _ _ => kF); (with_reducible rename News _ _ _ _ => kN); k_dflt (first | refine store_oct kF kN kO7 hA (by show @Ne Nat _ _; omega) ne1 ?_ rfl rfl rfl | refine store_oct kF kN kO7 (apart2 hA d5a d5b d5c d3a d3b d3c) (by show @Ne Nat _ _; omega) ne1 ?_ rfl rfl rfl); clear kF kN; intro h5 tk5 oc5 F5 N5 kO5; (try dsimp only); (try k_fold))
  k_with "KswEnd" => ((have h9 := inApp); (rename Fr _ _ _ _ => kF); (rename News _ _ _ _ => kN); k_dflt (first
    | exact rows_end kF kN (List.Mem.head _) (List.Mem.tail _ (List.Mem.head _)) (List.Mem.tail _ (List.Mem.tail _ (List.Mem.head _))) (fun q9 hq9 => (List.Mem.tail _ (List.Mem.tail _ (List.Mem.tail _ hq9)))) kO5 kO8 (RowsAre.append (hR.mono (fun q9 hq9 => (List.Mem.tail _ (List.Mem.tail _ hq9)))) (.copy (List.Mem.head _) .nil)) (apart2 hA d5a d5b d5c d3a d3b d3c) (by intro z a1 a2 a3; simp [kstB, rowsStored, a1, a2, a3]) hb hcut (inv_copy2 hP (by assumption) (by assumption) (great_a (by assumption))) (by rw [List.length_drop, List.length_cons]; omega)
    | exact rows_end kF kN (List.Mem.head _) (List.Mem.tail _ (List.Mem.head _)) (List.Mem.tail _ (List.Mem.tail _ (List.Mem.head _))) (fun q9 hq9 => (List.Mem.tail _ (List.Mem.tail _ (List.Mem.tail _ hq9)))) kO5 kO8 (RowsAre.append (hR.mono (fun q9 hq9 => (List.Mem.tail _ (List.Mem.tail _ hq9)))) (.copy (List.Mem.head _) .nil)) (apart2 hA d5a d5b d5c d3a d3b d3c) (by intro z a1 a2 a3; simp [kstB, rowsStored, a1, a2, a3]) hb hcut (inv_copy2 hP (by assumption) (by assumption) (great_b (by assumption))) (by rw [List.length_drop, List.length_cons]; omega)))
  k_with "KswEnd" => ((fail_if_success (have h9 := inApp)); (rename Fr _ _ _ _ => kF); (rename News _ _ _ _ => kN); k_dflt (exact rows_end kF kN (List.Mem.head _) (List.Mem.tail _ (List.Mem.head _)) (List.Mem.tail _ (List.Mem.tail _ (List.Mem.head _))) (fun q9 hq9 => (List.Mem.tail _ (List.Mem.tail _ (List.Mem.tail _ hq9)))) kO5 kO8 (RowsAre.append hR (.ins hcutT .nil)) hA (by intro z a1 a2 a3; simp [kstB, rowsStored, a1, a2, a3]) hb hcut (inv_ins hP (by assumption) (by assumption) (by assumption)) (by rw [List.length_drop, List.length_cons]; omega)))
  k_steps
  · exact hret _ _ _ _ (.inl ⟨rfl, rfl, inv_short hP (by assumption) (by omega)⟩) (Fr.keep (by assumption)) (Led.nil)
  · exact hret _ _ _ _ (.inl ⟨rfl, rfl, inv_bad hP (by assumption) (.inl (by assumption))⟩) (Fr.keep (by assumption)) (Led.nil)
  · exact hret _ _ _ _ (.inl ⟨rfl, rfl, inv_bad hP (by assumption) (.inr (by assumption))⟩) (Fr.keep (by assumption)) (Led.nil)
  · obtain rfl := nil_of (by assumption) hb
    have hPl : rs.length + 0 ≤ dk.length := hP.2
    exact hret _ _ _ _ (.inr ⟨lo, vs, rs, nn, tn, rfl, rfl, hR, inv_done hP, by omega⟩) (Fr.keep (by assumption)) (Led.sub (Led.of_news (by assumption)) (by walk_at "sub"))
end Mine
open PySem PySem.W PyProof.Rows PySem.Calls PySem.Spec
namespace Mine
set_option maxRecDepth 100000
set_option maxHeartbeats 4000000 in
/-- `_law_joined` -/
theorem joined2_spec (w : World) {p : Program} {loose : List Str} {mean : ExcName → Option Value} {mg mb : Str → Option Value}
   {base : Heap} (X₀ : (hd.heap_1 w.params).In base) (T₀ : Top p loose mean mg mb base)
   (dp un : Nat) (gd : Option (List Code)) (l : List Env) (hdp : dp + 15 < recursionLimit)
   {b : Array UInt8} {bk : List Int} {tb : Tok} {lo : Addr} {vs : List Value} {rs : List Row} {nn : Nat} {tn : List (Addr × Obj)} (hbk : KBw.bInts b = bk) (hbl : bk.length ≤ 200000) (hR : RowsAre tn vs rs) (hl : rs.length ≤ 1800) (hz : (rs.map (rowPiece bk)).flatten.length ≤ 16777216) (hc : RowsPos rs) :
   Spec PySem.Challenge.rw_jq0004_02.row.prog w (aTop dp un gd l) base l (.ref 108) [.bytes b tb, .ref lo] ((lo, listOf (List.toArray vs) nn) :: tn)
     (fun v n' => ∃ c t, v = .bytes c t ∧ n' = (lo, listOf (List.toArray vs) nn) :: tn ∧ KBw.bInts c = (rs.map (rowPiece bk)).flatten) (.ref 32) (fun _ => False) := by
  have hfill : (fun _ : OpenLaw => hd.heap_1) PySem.Challenge.rw_jq0004_02 = hd.heap_1 := by (k_fill; rfl)
  clear hfill
  have hvl := hR.length
  intro g s Q E B hg hsz N hret hexc
  have X := X₀.keeps B.stays
  have T := T₀.keeps B.stays
  all_goals refine wpAny_call ?_
  all_goals k_dflt (refine' enter_defC hg hsz N X T ?k6 ?k7 ?k8 ?k9 ?kB ?kD ?_ ?c2 ?c3 ?c4; (case k6 => k_is); (case k7 => k_is); (case k8 => ktr_room); (case k9 => exact BindsTo.of_eq rfl); (case kB => exact rfl); (case kD => decide +kernel); (case c2 => exact rfl); (case c3 => exact rfl); (case c4 => exact rfl); k_whole; intro L' h' tk' cells' F' N' Y' l1; (try k_lt l1); k_cells Y'; (try simp only [List.cons_append, List.nil_append] at N'); (try dsimp only); (try k_fold))
  k_with_none
  k_with "execs cons" => k_fold
  k_with "eval Call" => k_fold
  k_with "storeName" => (k_here; k_dflt (first | (refine' storeI_L ?F ?N ?_ ?a ?b; (case F => k_asm); (case N => k_asm); (case a => rfl); (case b => rfl); k_whole; intro h' tk' t' F' N'; (try k_sweep); (try dsimp only); (try k_fold)) | (refine' storeB_L ?F ?N ?_ ?a ?b; (case F => k_asm); (case N => k_asm); (case a => rfl); (case b => rfl); k_whole; intro h' tk' t' F' N'; (try k_sweep); (try dsimp only); (try k_fold)) | (refine' storeG_L ?F ?N ?_ ?a ?b; (case F => k_asm); (case N => k_asm); (case a => rfl); (case b => rfl); k_whole; intro h' tk' F' N'; (try k_sweep); (try dsimp only); (try k_fold))))
  k_with "sub" => (exact fun q9 hq9 => List.Sublist.subset (by with_reducible (repeat (first | exact List.Sublist.refl _ | exact List.nil_sublist _ | refine List.Sublist.cons_cons _ ?_ | refine List.Sublist.cons _ ?_))) hq9)
  k_with "getMethod bytes" => (k_here; refine method_join ?_)
  k_with "eval ListComp" => (k_here; k_dflt (refine LCg.ListComp_U (F₀ := by k_asm) (by with_unfolding_all rfl) (by decide) (by rfl) (by decide) (by rfl) ?_))
  k_with "CompSrc" => (k_here; (rename Fr _ _ _ _ => kF); (rename News _ _ _ _ => kN); k_dflt (refine LCg.CompSrc.ledger (by rfl) kF kN (List.Mem.tail _ (List.Mem.head _)) (by rw [List.size_toArray, hvl, sizeLine_eq]; omega) ?_; intro g'; (refine' rows_rest (PieceV bk) hR (fun q9 hq9 => List.Mem.tail _ (List.Mem.tail _ hq9)) (.inr ⟨_, List.Mem.tail _ (List.Mem.head _), rfl, _, rfl⟩) ?_ ?_ ?_)); (clear kF kN; intro a st sz t1 t2 I' oI' C' oC' D' m' ys' h' tk' E' hmr hC' hx' F' N'; (have hpos := hc st sz hmr); (try k_fold)); (rotate_left); (clear kF kN; intro b' t' ks' I' oI' C' oC' D' m' ys' h' tk' E' hkb hmr hC' hx' F' N'; (try k_fold)); (rotate_left); (clear kF kN; intro ys hys; (have hba := pieces_are hys); (try k_fold)))
  k_with "RowEnd" => ((rename Fr _ _ _ _ => kF); (rename News _ _ _ _ => kN); k_dflt (first | exact row_end kF kN (by walk_at "sub") (piece_ins hkb) | exact row_end kF kN (by walk_at "sub") (piece_copy (by assumption) hpos)))
  k_with "call builtin:bytes.join" => (k_here; (with_reducible show wpAny _ _ (call _ [_, Value.ref _]) _ _ _); (with_reducible rename News _ _ _ _ => kN); k_dflt (refine' join_K (s := ⟨_, _, _, _, _⟩) ⟨_, (kN _ (List.Mem.head _)).1, rfl, _, rfl⟩ hba ?hz ?_; (case hz => assumption)); intro _ _ _ hj9; (try dsimp only))
  k_steps
  all_goals exact hret _ _ _ _ ⟨_, _, rfl, rfl, by assumption⟩ (Fr.keep (by assumption)) (Led.sub (Led.of_news (by assumption)) (by walk_at "sub"))
end Mine
open PySem PySem.W PyProof.Rows PySem.Calls PySem.Spec
namespace Mine
set_option maxRecDepth 100000
open PySem.SeqAt PySem.MeetsSeq PySem.SeqRoads2 Builtin
theorem nt_eq_bytes (a : Array UInt8) (t : Tok) : Gives (Builtin.«NoneType.__eq__» ⟨[.none, .bytes a t], []⟩) (.val (Value.notImplemented)) :=
  .of_wp fun M A E s Q h => by obtain ⟨hp, g, d, tk, os⟩ := s; wp_walk; exact ⟨_, rfl, h⟩
theorem sub_nt_bytes : isSubtype (.type "NoneType") (.type "bytes") = pure false := by rw [isSubtype_type]; kernel_rfl
theorem bytes_eq_nt (a : Array UInt8) (t : Tok) : Gives (Builtin.«bytes.__eq__» ⟨[.bytes a t, .none], []⟩) (.val (Value.notImplemented)) :=
  .of_wp fun M A E s Q h => by
    obtain ⟨hp, g, d, tk, os⟩ := s
    wp_walk
    refine wpAny_of_eq sub_nt_bytes ?_
    rw [if_pos (by decide)]
    wp_walk
    exact ⟨_, rfl, h⟩
noncomputable def isFalse (y : Value) : Bool := match y with
  | .bool b => b == false
  | _ => false
theorem any_false (bs : List Bool) : (bs.map Value.bool).any isFalse = !bs.all id := by
  induction bs with
  | nil => rfl
  | cons b r ih => rw [List.map_cons, List.any_cons, List.all_cons, ih]; cases b <;> rfl
theorem sub_bytes_nt : isSubtype (.type "bytes") (.type "NoneType") = pure false := by rw [isSubtype_type]; kernel_rfl
theorem slot_bytes_refl : Slot "bytes" (cmpInfo .Eq).2.2 "bytes.__eq__" := FB.slot_bytes_eq
theorem eqg_bool (a b : Bool) : EqGives (.bool a) (.bool b) (a == b) := fun prog w A E s Q h => EqAt.bool_bool (A := A) (s := s) a b prog w E Q h
theorem eqg_bytes (x y : Array UInt8) (t u : Tok) : EqGives (.bytes x t) (.bytes y u) (x.toList == y.toList) := by
  intro prog w A E s Q h
  unfold eqBool
  refine wpAny_holding ?_
  refine wpAny_ite_split (fun hab => ?_) (fun hab => ?_)
  · have e : x = y := by have := eq_of_beq hab; injection this
    subst e
    exact wpAny_bind (wpAny_rule (wpAny_pure (by simpa using h)))
  · exact wpAny_bind (richCompare_gives (typeIs_bytes s x t) (typeIs_bytes s y u) FB.slot_bytes_eq FB.entry_bytes_eq (FB.args_bytes_eq_2 _ _) (gives_bytes_eq x y t u) (by simp [Made.takes]) (wpAny_truthy_bool h))
theorem eqg_none : EqGives .none .none true := by
  intro prog w A E s Q h
  unfold eqBool
  refine wpAny_holding ?_
  refine wpAny_ite_split (fun hab => ?_) (fun hab => absurd rfl hab)
  exact wpAny_bind (wpAny_rule (wpAny_pure h))
theorem eqg_none_bytes (b : Array UInt8) (u : Tok) : EqGives .none (.bytes b u) false := fun prog w A E s Q h => by
  unfold eqBool
  refine wpAny_holding ?_
  refine wpAny_ite_split (fun hab => absurd (eq_of_beq hab) nofun) (fun _ => ?_)
  refine wpAny_bind (rc_eq_decline_or (k := false) rfl (typeIs_bytes s b u) (by decide) sub_bytes_nt F.slot_NoneType_eq slot_bytes_refl
    (fun _ hq => call_gives F.slot_NoneType_eq rfl F.entry_NoneType_eq (F.args_NoneType_eq_2 _ _) (nt_eq_bytes b u) hq)
    (fun _ hq => call_gives slot_bytes_refl (typeIs_bytes s b u) FB.entry_bytes_eq (FB.args_bytes_eq_2 _ _) (bytes_eq_nt b u) hq)
    (fun _ hq => wpAny_of_eq (rfl : isSame .none (.bytes b u) = pure false) hq) (.inl rfl) (wpAny_truthy_bool h))
theorem eqg_bytes_none (b : Array UInt8) (u : Tok) : EqGives (.bytes b u) .none false := fun prog w A E s Q h => by
  unfold eqBool
  refine wpAny_holding ?_
  refine wpAny_ite_split (fun hab => absurd (eq_of_beq hab) nofun) (fun _ => ?_)
  refine wpAny_bind (rc_eq_decline_or (k := false) (typeIs_bytes s b u) rfl (by decide) sub_nt_bytes FB.slot_bytes_eq F.slot_NoneType_eq_refl
    (fun _ hq => call_gives FB.slot_bytes_eq (typeIs_bytes s b u) FB.entry_bytes_eq (FB.args_bytes_eq_2 _ _) (bytes_eq_nt b u) hq)
    (fun _ hq => call_gives F.slot_NoneType_eq_refl rfl F.entry_NoneType_eq (F.args_NoneType_eq_2 _ _) (nt_eq_bytes b u) hq)
    (fun _ hq => wpAny_of_eq (rfl : isSame (.bytes b u) .none = pure false) hq) (.inl rfl) (wpAny_truthy_bool h))
section
variable {prog : Program} {w : World} {A : Around} {E : Value → Shared → Prop} {s : Shared} {g : Heap} {L : Addr} {news : List (Addr × Obj)}
/-- False not in a list of bools -/
theorem notIn_bools {l : Addr} {bs : List Bool} {n : Nat} {Q : Value → Shared → Prop} (N : News g L s.heap news) (hl : (l, listOf (List.toArray (bs.map Value.bool)) n) ∈ news) (h : Q (.bool (bs.all id)) s) : wpAny (model prog w) A (compareOp .NotIn (.bool false) (.ref l)) Q E s := by
  refine notIn_list isFalse (fun y hy => ?_) (N _ hl).1 ?_
  · obtain ⟨b, _, rfl⟩ := List.mem_map.mp (List.mem_toArray.mp hy)
    exact eqg_bool b false
  · rw [List.any_toArray, any_false, Bool.not_not]; exact h
theorem in_bools {l : Addr} {bs : List Bool} {n : Nat} {Q : Value → Shared → Prop} (N : News g L s.heap news) (hl : (l, listOf (List.toArray (bs.map Value.bool)) n) ∈ news) (h : Q (.bool (!bs.all id)) s) : wpAny (model prog w) A (compareOp .In (.bool false) (.ref l)) Q E s := by
  refine in_list isFalse (fun y hy => ?_) (N _ hl).1 ?_
  · obtain ⟨b, _, rfl⟩ := List.mem_map.mp (List.mem_toArray.mp hy)
    exact eqg_bool b false
  · rw [List.any_toArray, any_false]; exact h
end
/-- what apply_delta or the reader tells: refused, or octets -/
noncomputable def OutV (o : Option (List Int)) (v : Value) : Prop := (v = .none ∧ o = none) ∨ ∃ b t, v = .bytes b t ∧ o = some (KBw.bInts b)
theorem ints_inj {a b : Array UInt8} (h : KBw.bInts a = KBw.bInts b) : a = b := by
  apply Array.toList_inj.mp
  unfold KBw.bInts at h
  generalize a.toList = x at h
  generalize b.toList = y at h
  induction x generalizing y with
  | nil => cases y with
    | nil => rfl
    | cons _ _ => cases h
  | cons p r ih => cases y with
    | nil => cases h
    | cons q t =>
      simp only [List.map_cons, List.cons.injEq] at h
      have e : p.toNat = q.toNat := by have := h.1; omega
      rw [UInt8.toNat_inj.mp e, ih t h.2]
noncomputable def outEq (v y : Value) : Bool := match y, v with
  | .none, .none => true
  | .bytes a _, .bytes b _ => a.toList == b.toList
  | _, _ => false
theorem outEq_gives {o o' : Option (List Int)} {v y : Value} (hv : OutV o v) (hy : OutV o' y) : EqGives y v (outEq v y) := by
  rcases hv with ⟨rfl, _⟩ | ⟨b, t, rfl, _⟩ <;> rcases hy with ⟨rfl, _⟩ | ⟨c, u, rfl, _⟩
  · exact eqg_none
  · exact eqg_bytes_none c u
  · exact eqg_none_bytes b t
  · exact eqg_bytes c b u t
theorem outEq_self {o : Option (List Int)} {v y : Value} (hv : OutV o v) (hy : OutV o y) : outEq v y = true := by
  rcases hv with ⟨rfl, e⟩ | ⟨b, t, rfl, e⟩ <;> rcases hy with ⟨rfl, e'⟩ | ⟨c, u, rfl, e'⟩
  · rfl
  · rw [e] at e'; cases e'
  · rw [e] at e'; cases e'
  · rw [e] at e'
    have := ints_inj (Option.some.inj e')
    subst this
    exact beq_self_eq_true b.toList
end Mine
open PySem PySem.W PyProof.Rows PySem.Calls PySem.Spec
namespace Mine
set_option maxRecDepth 100000
section
variable {prog : Program} {w : World} {A : Around} {E : Value → Shared → Prop} {Q : Flow → Shared → Prop} {s : Shared} {env : Env} {h₀ : Heap} {L : Addr} {m : Str → Option Value} {news : List (Addr × Obj)}
/-- what a statement leaves that either returns or goes on with P -/
noncomputable def RetPst (h₀ : Heap) (L : Addr) (keep : List (Addr × Obj)) (P : Prop) (m₀ : Str → Option Value) (s : Shared) (Q : Flow → Shared → Prop) (f : Flow) (s₂ : Shared) : Prop :=
  match f with
  | .next => P ∧ ∃ h tk, s₂ = { s with heap := h, toks := tk } ∧ Fr h₀ L h m₀ ∧ News h₀ L h keep
  | f => Q f s₂
theorem cut_ret {stmt : Stmt} {m₀ : Str → Option Value} (keep : List (Addr × Obj)) (P : Prop) (_F : Fr h₀ L s.heap m₀) (_N : News h₀ L s.heap news) (_hk : ∀ q ∈ keep, q ∈ news)
    (hS : wpAny (model prog w) A (exec stmt env) (RetPst h₀ L keep P m₀ s Q) E s)
    (hrest : P → ∀ h tk, Fr h₀ L h m₀ → News h₀ L h keep → Q .next { s with heap := h, toks := tk }) :
    wpAny (model prog w) A (exec stmt env) Q E s := by
  refine wpAny_mono hS (fun f s₂ h => ?_) fun _ _ z => z
  cases f with
  | next =>
    obtain ⟨hp, h, tk, rfl, F2, N2⟩ := h
    exact hrest hp h tk F2 N2
  | ret v => exact h
  | brk => exact h
  | cont => exact h
theorem ret_pst {keep news' : List (Addr × Obj)} {P : Prop} {m₀ : Str → Option Value} {h : Heap} {tk : Nat} (F2 : Fr h₀ L h m₀) (N2 : News h₀ L h news') (hs : ∀ q ∈ keep, q ∈ news') (hp : P) : RetPst h₀ L keep P m₀ s Q .next { s with heap := h, toks := tk } := ⟨hp, h, tk, rfl, F2, fun q hq => N2 q (hs q hq)⟩
theorem nws_cons {g h : Heap} {a : Addr} {o : Obj} (N : News g L h news) (hm : (a, o) ∈ news) : News g L h ((a, o) :: news) := fun q hq => by
  rcases List.mem_cons.mp hq with rfl | hq
  · exact N _ hm
  · exact N q hq
theorem ne_nil_t {a b : Addr} {vs : List Value} {n k : Nat} {QV : Value → Shared → Prop} (N : News h₀ L s.heap news) (ha : (a, listOf (List.toArray vs) n) ∈ news) (hb : (b, listOf #[] k) ∈ news) (hu : A.units < cLine) (hv : vs ≠ []) (h : QV (.bool true) s) :
    wpAny (model prog w) A (compareOp .NotEq (.ref a) (.ref b)) QV E s := by
  cases vs with
  | nil => exact absurd rfl hv
  | cons v r => exact SeqAt.RcNeAt.lists_lengths ⟨_, (N _ ha).1, rfl, _, rfl⟩ ⟨_, (N _ hb).1, rfl, _, rfl⟩ (by simp) hu prog w E QV h
theorem ne_nil_f {a b : Addr} {n k : Nat} {QV : Value → Shared → Prop} (N : News h₀ L s.heap news) (ha : (a, listOf (List.toArray []) n) ∈ news) (hb : (b, listOf #[] k) ∈ news) (hu : A.units < cLine) (h : QV (.bool false) s) :
    wpAny (model prog w) A (compareOp .NotEq (.ref a) (.ref b)) QV E s :=
  SeqAt.RcNeAt.lists (e := fun _ => true) ⟨_, (N _ ha).1, rfl, _, rfl⟩ ⟨_, (N _ hb).1, rfl, _, rfl⟩ rfl hu (fun j h1 _ => absurd h1 (Nat.not_lt_zero _)) prog w E QV (by simpa using h)
theorem len_vals {a : Addr} {vs : List Value} {n : Nat} {QV : Value → Shared → Prop} (N : News h₀ L s.heap news) (ha : (a, listOf (List.toArray vs) n) ∈ news) (hz : vs.length ≤ 1800) (h : ∀ t k, QV (.int vs.length t) { s with toks := k }) :
    wpAny (model prog w) A (call (.builtin "len") [.ref a]) QV E s := by
  refine PyProof.Rows.len_list (News.isList N ha) (by rw [List.size_toArray]; omega) ?_
  rw [List.size_toArray]
  exact h _ _
theorem item_last {value slice : PySem.Expr} {a : Addr} {vs : List Value} {v : Value} {n : Nat} {u : Tok} {QV : Value → Shared → Prop} (N : News h₀ L s.heap news) (ha : (a, listOf (List.toArray (vs ++ [v])) n) ∈ news) (hz : vs.length ≤ 1800) (h : QV v s)
    (hs : subscripted slice false (.ref a) (.int (((vs ++ [v]).length : Nat) - 1 : Int) u) = operate [.ref a, .int (((vs ++ [v]).length : Nat) - 1 : Int) u] (getItem (.ref a) (.int (((vs ++ [v]).length : Nat) - 1 : Int) u)) := by with_unfolding_all rfl) :
    wpAny (model prog w) A (subscriptTail value slice (.ref a) (.int (((vs ++ [v]).length : Nat) - 1 : Int) u)) QV E s := by
  have la : s.heap.IsList a (vs ++ [v]).toArray := ⟨_, (N _ ha).1, rfl, _, rfl⟩
  have hl : (vs ++ [v]).length = vs.length + 1 := by simp
  refine tail_any la.typeIs slot_list_getitem.lookup (wpAny_getItem_list la (by rw [hl]; omega) (by rw [hl]; omega) ?_ h) hs
  have e : ((((vs ++ [v]).length : Nat) : Int) - 1).toNat = vs.length := by rw [hl]; omega
  rw [e]
  simp
end
theorem rows_snoc {tn : List (Addr × Obj)} {vs : List Value} {rs : List Row} (h : RowsAre tn vs rs) (hne : vs ≠ []) : ∃ ws rs0 v r, vs = ws ++ [v] ∧ rs = rs0 ++ [r] ∧ RowsAre tn ws rs0 ∧ RowIs tn v r := by
  induction h with
  | nil => exact absurd rfl hne
  | @ins b t ks vs rs e hr ih =>
    cases vs with
    | nil => cases hr; exact ⟨[], [], _, _, rfl, rfl, .nil, .ins e⟩
    | cons v' r' =>
      obtain ⟨ws, rs0, v, r, e1, e2, h1, h2⟩ := ih (by simp)
      exact ⟨_ :: ws, _ :: rs0, v, r, by rw [e1]; rfl, by rw [e2]; rfl, .ins e h1, h2⟩
  | @copy a st sz t1 t2 vs rs e hr ih =>
    cases vs with
    | nil => cases hr; exact ⟨[], [], _, _, rfl, rfl, .nil, .copy e⟩
    | cons v' r' =>
      obtain ⟨ws, rs0, v, r, e1, e2, h1, h2⟩ := ih (by simp)
      exact ⟨_ :: ws, _ :: rs0, v, r, by rw [e1]; rfl, by rw [e2]; rfl, .copy e h1, h2⟩
theorem ins_len : ∀ (n : Nat) {r : List Int} {rs : List Row}, r.length < n → readRows r = some rs → ∀ ks, Row.ins ks ∈ rs → ks.length ≤ r.length
  | 0, _, _, h, _ => absurd h (Nat.not_lt_zero _)
  | n + 1, [], rs, _, h => by cases h; exact fun _ h => (nomatch h)
  | n + 1, c :: q, rs, hn, h => by
    simp only [List.length_cons] at hn
    intro ks hm
    by_cases hc : 128 ≤ c
    · by_cases hl : q.length < (bitsL c).length
      · rw [rows_short hc hl] at h; cases h
      · rw [rows_copy hc hl, Option.map_eq_some_iff] at h
        obtain ⟨rs', e, rfl⟩ := h
        have := ins_len n (by rw [List.length_drop]; omega) e ks (by
          rcases List.mem_cons.mp hm with e' | hm
          · cases e'
          · exact hm)
        rw [List.length_drop] at this
        rw [List.length_cons]; omega
    · by_cases hb : c = 0 ∨ (q.length : Int) < c
      · rw [rows_bad hc hb] at h; cases h
      · rw [rows_ins hc (fun e => hb (.inl e)) (fun e => hb (.inr e)), Option.map_eq_some_iff] at h
        obtain ⟨rs', e, rfl⟩ := h
        rcases List.mem_cons.mp hm with e' | hm
        · cases e'
          rw [List.length_take, List.length_cons]; omega
        · have := ins_len n (by rw [List.length_drop]; omega) e ks hm
          rw [List.length_drop] at this
          rw [List.length_cons]; omega
theorem nws_swap {g h : Heap} {L : Addr} {x : Addr × Obj} {a b : List (Addr × Obj)} (N : News g L h (x :: (a ++ b))) : News g L h (x :: (b ++ a)) := fun q hq => by
  rcases List.mem_cons.mp hq with rfl | hq
  · exact N _ (.head _)
  · rcases List.mem_append.mp hq with hq | hq
    · exact N _ (.tail _ (List.mem_append_right _ hq))
    · exact N _ (.tail _ (List.mem_append_left _ hq))
theorem or_cases {p q : Prop} {P : Prop} (h : p ∨ q) (a : p → P) (b : q → P) : P := h.elim a b
theorem units_lt {dp un : Nat} {gd : Option (List Code)} {l : List Env} {env : Env} (hu : un + 100 < cLine) : ((aTop dp un gd l).deeper env).units < cLine := by
  show un + _ < cLine
  exact Nat.lt_of_le_of_lt (Nat.add_le_add_left (by decide) un) hu
theorem rows_nilv {tn : List (Addr × Obj)} {rs : List Row} (h : RowsAre tn [] rs) : rs = [] := by cases h; rfl
theorem idx_init {α : Type} {n : Nat} (v : α) (ws : List α) (h : ws.length = n) : ((((ws ++ [v]).length : Nat) : Int) - 1) = ((n : Nat) : Int) := by simp; omega
theorem idx_nn {α : Type} (ws : List α) (v : α) : 0 ≤ ((((ws ++ [v]).length : Nat) : Int) - 1) := by simp
theorem sz_init {α β : Type} {f : α → Int} {rs : List α} {r : α} {ws : List β} {v : β} (h : ws.length = rs.length) : ((rs ++ [r]).map f).take ((((ws ++ [v]).length : Nat) : Int) - 1).toNat = rs.map f := by
  rw [idx_init v ws h, Int.toNat_natCast, List.map_append]
  simp
theorem pick_vals {ws us : List Value} {v u : Value} (h : ws.length = us.length) : (slicePick (List.toArray (us ++ [u])) none (some ((((ws ++ [v]).length : Nat) : Int) - 1)) none).toList = us := by
  rw [idx_init v ws h, slicePick_upto']
  simp
theorem pick_bools {f : Row → Bool} {ws : List Value} {v : Value} {rs : List Row} {r : Row} (h : ws.length = rs.length) : (slicePick (List.toArray (((rs ++ [r]).map f).map Value.bool)) none (some ((((ws ++ [v]).length : Nat) : Int) - 1)) none).toList = (rs.map f).map Value.bool := by
  rw [List.map_append, List.map_append]
  exact pick_vals (by simp [h])
theorem pos_init {rs : List Row} {r : Row} (h : RowsPos (rs ++ [r])) : RowsPos rs := fun st sz hm => h st sz (List.mem_append_left _ hm)
/-- the list that `_law_due` hands back holds the outcome -/
noncomputable def DueOk (o : Option (List Int)) (us : List Value) : Prop := (∀ y ∈ us, ∃ o', OutV o' y) ∧ ∃ y ∈ us, OutV o y
theorem due_none {o : Option (List Int)} (h : o = none) : DueOk o [.none] := ⟨(fmc (⟨none, .inl ⟨rfl, rfl⟩⟩) (List.forall_mem_nil _)), _, .head _, .inl ⟨rfl, h⟩⟩
theorem due_one {o : Option (List Int)} {c : Array UInt8} {t : Tok} {ks : List Int} (hk : KBw.bInts c = ks) (h : o = some ks) : DueOk o [.bytes c t] := by
  subst hk
  exact ⟨(fmc (⟨_, .inr ⟨c, t, rfl, rfl⟩⟩) (List.forall_mem_nil _)), _, .head _, .inr ⟨c, t, rfl, h⟩⟩
theorem due_two {o : Option (List Int)} {c : Array UInt8} {t : Tok} {ks : List Int} (hk : KBw.bInts c = ks) (h : o = some ks) : DueOk o [.none, .bytes c t] := by
  subst hk
  exact ⟨(fmc (⟨none, .inl ⟨rfl, rfl⟩⟩) ((fmc (⟨_, .inr ⟨c, t, rfl, rfl⟩⟩) (List.forall_mem_nil _)))), _, .tail _ (.head _), .inr ⟨c, t, rfl, h⟩⟩
section
variable {bk dk : List Int} {s1 s2 : Int} {k1 k2 : Nat} {rs : List Row}
theorem due_n1 (h : sizeL dk = none) : readDelta bk dk = none := by unfold readDelta; rw [h]
theorem due_n2 (h : sizeL dk = some (s1, k1)) (h2 : sizeL (dk.drop k1) = none) : readDelta bk dk = none := by unfold readDelta; rw [h]; dsimp only; rw [h2]
theorem due_n3 (ho : Oct dk) (h1 : sizeL dk = some (s1, k1)) (h2 : sizeL (dk.drop k1) = some (s2, k2)) (h3 : readRows ((dk.drop k1).drop k2) = none) : readDelta bk dk = none := by
  rw [delta_of h1 h2]
  split
  · rw [ops_rows bk _ _ _ _ (Nat.lt_succ_self _) ((ho.drop _).drop _), h3]
  · rfl
theorem due_n4 (h1 : sizeL dk = some (s1, k1)) (h2 : sizeL (dk.drop k1) = some (s2, k2)) (h : s1 ≠ bk.length) : readDelta bk dk = none := by rw [delta_of h1 h2, if_neg h]
theorem due_rows (ho : Oct dk) (h1 : sizeL dk = some (s1, k1)) (h2 : sizeL (dk.drop k1) = some (s2, k2)) (h3 : readRows ((dk.drop k1).drop k2) = some rs) (h : s1 = bk.length) : readDelta bk dk = opsR bk rs s2 [] := by
  rw [delta_of h1 h2, if_pos h, ops_rows bk _ _ _ _ (Nat.lt_succ_self _) ((ho.drop _).drop _), h3]
theorem due_facts (ho : Oct dk) (h3 : readRows ((dk.drop k1).drop k2) = some rs) : OnesR rs ∧ RowsPos rs := rows_facts _ (Nat.lt_succ_self _) ((ho.drop _).drop _) h3
end
/-- not full but for one more copy -/
noncomputable def NotA (bk : List Int) (rs : List Row) (v : Int) : Prop := ∀ init st sz, rs = init ++ [.copy st sz] → soundR bk init → sumSz init = v → False
theorem notA_nil {bk : List Int} {v : Int} : NotA bk [] v := fun init st sz e => by simp at e
theorem notA_ins {bk ks : List Int} {rs : List Row} {v : Int} : NotA bk (rs ++ [.ins ks]) v := fun init st sz e => by
  have := (List.append_inj' e rfl).2
  cases this
theorem notA_sum {bk : List Int} {rs : List Row} {st sz v : Int} (h : sumSz rs ≠ v) : NotA bk (rs ++ [.copy st sz]) v := fun init st' sz' e _ hs => by
  have := (List.append_inj' e rfl).1
  subst this
  exact h hs
theorem notA_sound {bk : List Int} {rs : List Row} {st sz v : Int} (h : (rs.map (rowSound bk)).all id = false) : NotA bk (rs ++ [.copy st sz]) v := fun init st' sz' e hs _ => by
  have := (List.append_inj' e rfl).1
  subst this
  rw [List.all_eq_true.mpr fun b hb => by obtain ⟨r, hr, rfl⟩ := List.mem_map.mp hb; exact hs r hr] at h
  cases h
theorem sound_all {bk : List Int} {rs : List Row} (h : (rs.map (rowSound bk)).all id = true) : soundR bk rs := fun r hr => List.all_eq_true.mp h _ (List.mem_map_of_mem hr)
theorem ops_notA {bk : List Int} {rs : List Row} {v : Int} (h1 : OnesR rs) (h : NotA bk rs v) (h2 : sumSz rs ≠ v ∨ (rs.map (rowSound bk)).all id = false) : opsR bk rs v [] = none := by
  cases e : opsR bk rs v [] with
  | none => rfl
  | some t =>
    rcases ops_taken h1 e with ⟨a, b⟩ | ⟨init, st, sz, e1, a, b⟩
    · rcases h2 with h2 | h2
      · exact absurd b h2
      · rw [List.all_eq_true.mpr fun x hx => by obtain ⟨r, hr, rfl⟩ := List.mem_map.mp hx; exact a r hr] at h2
        cases h2
    · exact (h init st sz e1 a b).elim
theorem ops_A {bk : List Int} {rs : List Row} {st sz v : Int} (h1 : OnesR (rs ++ [.copy st sz])) (h2 : sumSz rs = v) (h3 : (rs.map (rowSound bk)).all id = true) : opsR bk (rs ++ [.copy st sz]) v [] = some (joinR bk rs) :=
  (ops_over (sound_all h3) h2 (fun r hr => h1 r (List.mem_append_left _ hr)) (h1 (.copy st sz) (List.mem_append_right _ (.head _)))).trans (by rw [List.nil_append])
theorem ops_C {bk : List Int} {rs : List Row} {v : Int} (h1 : OnesR rs) (h2 : sumSz rs = v) (h3 : (rs.map (rowSound bk)).all id = true) : opsR bk rs v [] = some (joinR bk rs) :=
  (ops_full (sound_all h3) h2 h1).trans (by rw [List.nil_append])
end Mine
open PySem PySem.W PyProof.Rows PySem.Calls PySem.Spec
namespace Mine
set_option maxRecDepth 100000
set_option maxHeartbeats 8000000 in
/-- `_law_due` -/
theorem due2_spec (w : World) {p : Program} {loose : List Str} {mean : ExcName → Option Value} {mg mb : Str → Option Value}
   {base : Heap} (X₀ : (hd.heap_1 w.params).In base) (T₀ : Top p loose mean mg mb base)
   (dp un : Nat) (gd : Option (List Code)) (l : List Env) (hdp : dp + 20 < recursionLimit) (hu : un + 100 < cLine)
   {b d : Array UInt8} {bk dk : List Int} {tb td : Tok} (hbk : KBw.bInts b = bk) (hbl : bk.length ≤ 200000) (hdk : KBw.bInts d = dk) (hd0 : dk.length ≤ 1800) (hbig : ∀ t, readDelta bk dk = some t → t.length ≤ 16777216) :
   Spec PySem.Challenge.rw_jq0004_02.row.prog w (aTop dp un gd l) base l (.ref 113) [.bytes b tb, .bytes d td] []
     (fun v n' => ∃ lo us nn, v = .ref lo ∧ n' = [(lo, listOf (List.toArray us) nn)] ∧ DueOk (readDelta bk dk) us) (.ref 32) (fun _ => False) := by
  have hfill : (fun _ : OpenLaw => hd.heap_1) PySem.Challenge.rw_jq0004_02 = hd.heap_1 := by (k_fill; rfl)
  clear hfill
  have ho := oct_of hdk
  intro g s Q E B hg hsz N hret hexc
  have X := X₀.keeps B.stays
  have T := T₀.keeps B.stays
  all_goals refine wpAny_call ?_
  all_goals k_dflt (refine' enter_defC hg hsz N X T ?k6 ?k7 ?k8 ?k9 ?kB ?kD ?_ ?c2 ?c3 ?c4; (case k6 => k_is); (case k7 => k_is); (case k8 => ktr_room); (case k9 => exact BindsTo.of_eq rfl); (case kB => exact rfl); (case kD => decide +kernel); (case c2 => exact rfl); (case c3 => exact rfl); (case c4 => exact rfl); k_whole; intro L' h' tk' cells' F' N' Y' l1; (try k_lt l1); k_cells Y'; (try simp only [List.cons_append, List.nil_append] at N'); (try dsimp only); (try k_fold))
  k_with_none
  k_with "execs cons" => k_fold
  k_with "eval Call" => k_fold
  k_with "storeName" => (k_here; k_dflt (first | (refine' storeI_L ?F ?N ?_ ?a ?b; (case F => k_asm); (case N => k_asm); (case a => rfl); (case b => rfl); k_whole; intro h' tk' t' F' N'; (try k_sweep); (try dsimp only); (try k_fold)) | (refine' storeB_L ?F ?N ?_ ?a ?b; (case F => k_asm); (case N => k_asm); (case a => rfl); (case b => rfl); k_whole; intro h' tk' t' F' N'; (try k_sweep); (try dsimp only); (try k_fold)) | (refine' storeG_L ?F ?N ?_ ?a ?b; (case F => k_asm); (case N => k_asm); (case a => rfl); (case b => rfl); k_whole; intro h' tk' F' N'; (try k_sweep); (try dsimp only); (try k_fold))))
  k_with "sub" => (exact fun q9 hq9 => List.Sublist.subset (by with_reducible (repeat (first | exact List.Sublist.refl _ | exact List.nil_sublist _ | refine List.Sublist.cons_cons _ ?_ | refine List.Sublist.cons _ ?_))) hq9)
  k_with "call ref" => ((with_reducible show wpAny _ _ (call (Value.ref 98) [_]) _ _ _); (fail_if_success (have h9 := inOne)); (rename Fr _ _ _ _ => kF); (rename News _ _ _ _ => kN); k_dflt (refine' Spec.use (A₀ := aTop dp un gd l) (tsize2_spec w X₀ T₀ (dp + 1) (un + 3) gd _ ?hdp hdk hd0) B kF kN _ (fun _ h => nomatch h) (fun _ h => h) (fun _ _ _ h => nomatch h) rfl rfl ?_ ?_; (case hdp => omega); skip); (rotate_left); (intro e9 h9 tk9 n9 g9 hx9; exact hx9.elim); (intro v9 h9 tk9 n9 hr9 F9 N9 ap9; (try dsimp only); (try k_fold)); (have inOne : True := trivial); (rcases hr9 with ⟨rfl, rfl, hn1⟩ | ⟨D1, b1, s1, k1, t1a, t1b, rfl, rfl, hb1, e1⟩ <;> (clear ap9; dsimp only [List.cons_append, List.nil_append] at N9; (try k_fold))))
  k_with "call ref" => ((with_reducible show wpAny _ _ (call (Value.ref 98) [_]) _ _ _); (have h9 := inOne); (rename Fr _ _ _ _ => kF); (rename News _ _ _ _ => kN); k_dflt (refine' Spec.use (A₀ := aTop dp un gd l) (tsize2_spec w X₀ T₀ (dp + 1) (un + 3) gd _ ?hdp hb1 ?hl) B kF kN _ (fun _ h => nomatch h) (fun _ h => h) (fun _ _ _ h => nomatch h) rfl rfl ?_ ?_; (case hdp => omega); (case hl => (rw [List.length_drop]; omega)); skip); (rotate_left); (intro e9 h9 tk9 n9 g9 hx9; exact hx9.elim); (intro v9 h9 tk9 n9 hr9 F9 N9 ap9; (try dsimp only); (try k_fold)); (rcases hr9 with ⟨rfl, rfl, hn2⟩ | ⟨D2, b2, s2, k2, t2a, t2b, rfl, rfl, hb2, e2⟩ <;> (clear ap9; dsimp only [List.cons_append, List.nil_append] at N9; (try k_fold))))
  k_with "call ref" => ((with_reducible show wpAny _ _ (call (Value.ref 103) [_]) _ _ _); (rename Fr _ _ _ _ => kF); (rename News _ _ _ _ => kN); k_dflt (refine' Spec.use (A₀ := aTop dp un gd l) (rows2_spec w X₀ T₀ (dp + 1) (un + 3) gd _ ?hdp hb2 ?hl) B kF kN _ (fun _ h => nomatch h) (fun _ h => h) (fun _ _ _ h => nomatch h) rfl rfl ?_ ?_; (case hdp => omega); (case hl => (rw [List.length_drop, List.length_drop]; omega)); skip); (rotate_left); (intro e9 h9 tk9 n9 g9 hx9; exact hx9.elim); (intro v9 h9 tk9 n9 hr9 F9 N9 ap9; (try dsimp only); (try k_fold)); (rcases hr9 with ⟨rfl, rfl, hn3⟩ | ⟨lo, vs, rs, nn, tn, rfl, rfl, hR, e3, hl3⟩ <;> (clear ap9; (try (replace N9 := nws_swap N9)); dsimp only [List.cons_append, List.nil_append] at N9; (try (have hvl := hR.length); (have hfc := due_facts ho e3); obtain ⟨hOn, hPo⟩ := hfc); (try (rw [List.length_drop, List.length_drop] at hl3; (have hr18 : rs.length ≤ 1800 := by omega); (have hl18 : vs.length ≤ 1800 := Nat.le_trans (Nat.le_of_eq hvl) hr18))); (try k_fold))))
  k_with "exec Assign cons ListComp" => (k_here; k_dflt (refine LCg.Assign_ListComp_U (F₀ := by k_asm) (by rfl) (by with_unfolding_all rfl) (by with_unfolding_all rfl) (by decide) (by rfl) (by decide) (by rfl) (by rfl) (by rfl) ?_))
  k_with "CompSrc" => (k_here; (fail_if_success (have h9 := inSz)); (rename Fr _ _ _ _ => kF); (rename News _ _ _ _ => kN); k_dflt (refine LCg.CompSrc.ledger (by rfl) kF kN (List.Mem.head _) (by rw [List.size_toArray, sizeLine_eq]; exact Nat.le_trans hl18 (by decide)) ?_; intro g'; (refine' rows_rest (SzV) hR (fun q9 hq9 => (List.Mem.tail _ (List.Mem.tail _ (List.Mem.tail _ (List.Mem.tail _ hq9))))) (.inr ⟨_, (List.Mem.head _), rfl, _, rfl⟩) ?_ ?_ ?_)); (clear kF kN; intro a st sz t1 t2 I' oI' C' oC' D' m' ys' h' tk' E' hmr hC' hx' F' N'; (try k_fold)); (rotate_left); (clear kF kN; intro b' t' ks' I' oI' C' oC' D' m' ys' h' tk' E' hkb hmr hC' hx' F' N'; (have hkl := ins_len _ (Nat.lt_succ_self _) e3 _ hmr); (rw [List.length_drop, List.length_drop] at hkl); (try k_fold)); (rotate_left); (clear kF kN; intro ys hys; (have hsz := szs_are hys); (have hszl := hsz.length); (have inSz : True := trivial); (try k_fold)))
  k_with "CompSrc" => (k_here; (have h9 := inSz); (rename Fr _ _ _ _ => kF); (rename News _ _ _ _ => kN); k_dflt (refine LCg.CompSrc.ledger (by rfl) kF kN (List.Mem.tail _ (List.Mem.head _)) (by rw [List.size_toArray, sizeLine_eq]; exact Nat.le_trans hl18 (by decide)) ?_; intro g'; (refine' rows_rest (SoundV bk) hR (fun q9 hq9 => (List.Mem.tail _ (List.Mem.tail _ (List.Mem.tail _ (List.Mem.tail _ (List.Mem.tail _ hq9)))))) (.inr ⟨_, (List.Mem.tail _ (List.Mem.head _)), rfl, _, rfl⟩) ?_ ?_ ?_)); (clear kF kN; intro a st sz t1 t2 I' oI' C' oC' D' m' ys' h' tk' E' hmr hC' hx' F' N'; (try k_fold)); (rotate_left); (clear kF kN; intro b' t' ks' I' oI' C' oC' D' m' ys' h' tk' E' hkb hmr hC' hx' F' N'; (have hkl := ins_len _ (Nat.lt_succ_self _) e3 _ hmr); (rw [List.length_drop, List.length_drop] at hkl); (try k_fold)); (rotate_left); (clear kF kN; intro ys hys; (have hsd := sounds_are hys); subst hsd; (try k_fold)))
  k_with "RowEnd" => ((rename Fr _ _ _ _ => kF); (rename News _ _ _ _ => kN); k_dflt (first | exact row_end kF kN (by walk_at "sub") ⟨_, rfl⟩ | exact row_end kF kN (by walk_at "sub") rfl))
  k_with "call builtin:len" => (k_here; (with_reducible show wpAny _ _ (call (Value.builtin "len") [Value.bytes _ _]) _ _ _); (first | refine len_b hkb (by omega) ?_ | refine len_b hbk (by omega) ?_); intro _ _; (try dsimp only))
  k_with "call builtin:len" => (k_here; (with_reducible show wpAny _ _ (call (Value.builtin "len") [Value.ref lo]) _ _ _); (rename News _ _ _ _ => kN); k_dflt (refine len_vals kN (List.Mem.tail _ (List.Mem.tail _ (List.Mem.head _))) hl18 ?_); intro _ _; (try dsimp only))
  k_with "exec If" => (k_here; (fail_if_success (have h9 := inCut)); (with_reducible show wpAny _ _ (exec (Stmt.If (Expr.BoolOp BoolOp.And _ _) _ _ _) _) _ _ _); (rename Fr _ _ _ _ => kF); (rename News _ _ _ _ => kN); k_dflt (refine' cut_ret _ (NotA bk rs s2) kF kN (fun _ h => h) ?_ ?_); (rotate_left); (clear kF kN; intro hNA kH kTk kFr kNews; (have inCut : True := trivial); (try k_fold)); (rotate_left); ((have inCut : True := trivial); (try k_fold)))
  k_with "compareOp NotEq ref ref" => (k_here; (with_reducible show wpAny _ _ (compareOp CmpOp.NotEq (Value.ref lo) (Value.ref _)) _ _ _); (rename News _ _ _ _ => kN); (refine or_cases (Classical.em (vs = [])) ?_ ?_); (intro hvs; subst hvs; (obtain rfl := rows_nilv hR); k_dflt (refine ne_nil_f kN (List.Mem.tail _ (List.Mem.tail _ (List.Mem.tail _ (List.Mem.head _)))) (List.Mem.head _) (units_lt hu) ?_); (try dsimp only)); (rotate_left); (intro hvs; k_dflt (refine ne_nil_t kN (List.Mem.tail _ (List.Mem.tail _ (List.Mem.tail _ (List.Mem.head _)))) (List.Mem.head _) (units_lt hu) hvs ?_); (try dsimp only)))
  k_with "subscriptTail Name Name ref int" => (k_here; (with_reducible show wpAny _ _ (subscriptTail (Expr.Name "rows" _) _ (Value.ref lo) (Value.int _ _)) _ _ _); (rename News _ _ _ _ => kN); (obtain ⟨ws, rs0, v, r, rfl, rfl, hRw, hRv⟩ := rows_snoc hR hvs); (have hwl := hRw.length); (rw [List.length_append, List.length_singleton] at hl3); k_dflt (refine item_last kN (List.Mem.tail _ (List.Mem.tail _ (List.Mem.tail _ (List.Mem.head _)))) (by omega) ?_); (rcases hRv with @⟨bv, tv, ksv, hkv⟩ | @⟨av, stv, szv, t1v, t2v, hmv⟩); (all_goals (try ((have kN2 := nws_cons kN (List.Mem.tail _ (List.Mem.tail _ (List.Mem.tail _ (List.Mem.tail _ (List.Mem.tail _ (List.Mem.tail _ (List.Mem.tail _ hmv)))))))); clear kN))); (all_goals (try dsimp only)))
  k_with "subscriptTail Name Slice ref ref" => (k_here; (with_reducible show wpAny _ _ (subscriptTail (Expr.Name "sizes" _) (PySem.Expr.Slice none (some _) none _) (Value.ref _) (Value.ref _)) _ _ _); k_dflt (refine' kmk_slice_ints ?sF ?sN ?sl ?sp ?sq hsz (kmk_upto hsz (idx_nn _ _)) rfl ?_ ?ss ?st ?sz; (case sF => k_asm); (case sN => k_asm); (case sl => kmk_list); (case sp => kmk_part); (case sq => kmk_part); (case ss => with_unfolding_all rfl); (case st => kmk_pure); (case sz => rw [List.size_toArray, sizeLine_eq]; first | omega | (simp only [List.length_map, List.length_append, List.length_singleton]; omega) | (rw [hszl]; simp only [List.length_map, List.length_append, List.length_singleton]; omega)); skip); intro D6 ws6 h6 F6 N6 l6 hI6 hC6 hL6; (rw [sz_init hwl] at hI6); (try k_lt l6); (try k_sweep))
  k_with "subscriptTail Name Slice ref ref" => (k_here; (with_reducible show wpAny _ _ (subscriptTail (Expr.Name "sound" _) (PySem.Expr.Slice none (some _) none _) (Value.ref _) (Value.ref _)) _ _ _); k_dflt (refine' kmk_slice_lit ?sF ?sN ?sl ?sp ?sq (pick_bools hwl) ?_ ?ss ?st ?sz; (case sF => k_asm); (case sN => k_asm); (case sl => kmk_list); (case sp => kmk_part); (case sq => kmk_part); (case ss => with_unfolding_all rfl); (case st => kmk_pure); (case sz => rw [List.size_toArray, sizeLine_eq]; first | omega | (simp only [List.length_map, List.length_append, List.length_singleton]; omega) | (rw [hszl]; simp only [List.length_map, List.length_append, List.length_singleton]; omega)); skip); intro D7 h7 F7 N7 l7; (try k_lt l7); (try k_sweep))
  k_with "subscriptTail Name Slice ref ref" => (k_here; (with_reducible show wpAny _ _ (subscriptTail (Expr.Name "rows" _) (PySem.Expr.Slice none (some _) none _) (Value.ref _) (Value.ref _)) _ _ _); k_dflt (refine' kmk_slice_lit (zs := ws) ?sF ?sN ?sl ?sp ?sq (pick_vals rfl) ?_ ?ss ?st ?sz; (case sF => k_asm); (case sN => k_asm); (case sl => kmk_list); (case sp => kmk_part); (case sq => kmk_part); (case ss => with_unfolding_all rfl); (case st => kmk_pure); (case sz => rw [List.size_toArray, sizeLine_eq]; first | omega | (simp only [List.length_map, List.length_append, List.length_singleton]; omega) | (rw [hszl]; simp only [List.length_map, List.length_append, List.length_singleton]; omega)); skip); intro D8 h8 F8 N8 l8; (try k_lt l8); (try k_sweep))
  k_with "compareOp NotIn bool ref" => (k_here; (with_reducible show wpAny _ _ (compareOp CmpOp.NotIn (Value.bool false) (Value.ref _)) _ _ _); (rename News _ _ _ _ => kN); k_dflt (refine notIn_bools kN (List.Mem.head _) ?_); (try dsimp only))
  k_with "compareOp In bool ref" => (k_here; (with_reducible show wpAny _ _ (compareOp CmpOp.In (Value.bool false) (Value.ref _)) _ _ _); (rename News _ _ _ _ => kN); k_dflt (refine in_bools kN (List.Mem.head _) ?_); (try dsimp only))
  k_with "RetPst" => ((rename Fr _ _ _ _ => kF); (rename News _ _ _ _ => kN); k_dflt (first | exact ret_pst kF kN (by walk_at "sub") notA_nil | exact ret_pst kF kN (by walk_at "sub") notA_ins | exact ret_pst kF kN (by walk_at "sub") (notA_sum (by assumption)) | exact ret_pst kF kN (by walk_at "sub") (notA_sound (by assumption))))
  k_with "call ref" => ((with_reducible show wpAny _ _ (call (Value.ref 108) [_, Value.ref D8]) _ _ _); (rename Fr _ _ _ _ => kF); (rename News _ _ _ _ => kN); k_dflt (refine' Spec.use (A₀ := aTop dp un gd l) (joined2_spec w X₀ T₀ (dp + 1) (un + 3) gd _ ?hdp hbk hbl hRw ?hl ?hz (pos_init hPo)) B kF kN [] (fmc (List.Mem.head _) (fun q9 hq9 => (List.Mem.tail _ (List.Mem.tail _ (List.Mem.tail _ (List.Mem.tail _ (List.Mem.tail _ (List.Mem.tail _ (List.Mem.tail _ (List.Mem.tail _ (List.Mem.tail _ (List.Mem.tail _ (List.Mem.tail _ hq9))))))))))))) (fun _ h => nomatch h) (fun _ h => nomatch h) rfl rfl ?_ ?_; (case hdp => omega); (case hl => omega); (case hz => exact hbig _ ((due_rows ho e1 e2 e3 (by assumption)).trans (ops_A hOn (by assumption) (by assumption)))); skip); (rotate_left); (intro e9 h9 tk9 n9 g9 hx9; exact hx9.elim); (intro v9 h9 tk9 n9 hr9 F9 N9 ap9; (try dsimp only); (try k_fold)); obtain ⟨c9, t9, rfl, rfl, hk9⟩ := hr9; clear ap9; rw [List.append_nil] at N9; (try k_fold))
  k_with "call ref" => ((with_reducible show wpAny _ _ (call (Value.ref 108) [_, Value.ref lo]) _ _ _); (rename Fr _ _ _ _ => kF); (rename News _ _ _ _ => kN); k_dflt (refine' Spec.use (A₀ := aTop dp un gd l) (joined2_spec w X₀ T₀ (dp + 1) (un + 3) gd _ ?hdp hbk hbl hR ?hl ?hz hPo) B kF kN [] (fmc (List.Mem.tail _ (List.Mem.tail _ (List.Mem.head _))) (fun q9 hq9 => (List.Mem.tail _ (List.Mem.tail _ (List.Mem.tail _ (List.Mem.tail _ (List.Mem.tail _ (List.Mem.tail _ hq9)))))))) (fun _ h => nomatch h) (fun _ h => nomatch h) rfl rfl ?_ ?_; (case hdp => omega); (case hl => exact hr18); (case hz => exact hbig _ ((due_rows ho e1 e2 e3 (by assumption)).trans (ops_C hOn (by assumption) (by assumption)))); skip); (rotate_left); (intro e9 h9 tk9 n9 g9 hx9; exact hx9.elim); (intro v9 h9 tk9 n9 hr9 F9 N9 ap9; (try dsimp only); (try k_fold)); obtain ⟨c9, t9, rfl, rfl, hk9⟩ := hr9; clear ap9; rw [List.append_nil] at N9; (try k_fold))
  k_steps
  · exact hret _ _ _ _ ⟨_, _, _, rfl, rfl, due_none (due_n1 hn1)⟩ (Fr.keep (by assumption)) (Led.sub (Led.of_news (by assumption)) (by walk_at "sub"))
  · exact hret _ _ _ _ ⟨_, _, _, rfl, rfl, due_none (due_n2 e1 hn2)⟩ (Fr.keep (by assumption)) (Led.sub (Led.of_news (by assumption)) (by walk_at "sub"))
  · exact hret _ _ _ _ ⟨_, _, _, rfl, rfl, due_none (due_n3 ho e1 e2 hn3)⟩ (Fr.keep (by assumption)) (Led.sub (Led.of_news (by assumption)) (by walk_at "sub"))
  · exact hret _ _ _ _ ⟨_, _, _, rfl, rfl, due_none (due_n4 e1 e2 ‹_›)⟩ (Fr.keep (by assumption)) (Led.sub (Led.of_news (by assumption)) (by walk_at "sub"))
  · exact hret _ _ _ _ ⟨_, _, _, rfl, rfl, due_two hk9 ((due_rows ho e1 e2 e3 (by assumption)).trans (ops_A hOn (by assumption) (by assumption)))⟩ (Fr.keep (by assumption)) (Led.sub (Led.of_news (by assumption)) (by walk_at "sub"))
  · exact hret _ _ _ _ ⟨_, _, _, rfl, rfl, due_none ((due_rows ho e1 e2 e3 ‹_›).trans (ops_notA hOn hNA (.inl ‹_›)))⟩ (Fr.keep (by assumption)) (Led.sub (Led.of_news (by assumption)) (by walk_at "sub"))
  · exact hret _ _ _ _ ⟨_, _, _, rfl, rfl, due_one hk9 ((due_rows ho e1 e2 e3 (by assumption)).trans (ops_C hOn (by assumption) (by assumption)))⟩ (Fr.keep (by assumption)) (Led.sub (Led.of_news (by assumption)) (by walk_at "sub"))
  · exact hret _ _ _ _ ⟨_, _, _, rfl, rfl, due_none ((due_rows ho e1 e2 e3 ‹_›).trans (ops_notA hOn hNA (.inr ‹_›)))⟩ (Fr.keep (by assumption)) (Led.sub (Led.of_news (by assumption)) (by walk_at "sub"))
end Mine
open PySem PySem.W PyProof.Rows PySem.Calls PySem.Spec
namespace Mine
set_option maxRecDepth 100000
/-- a contract with objects ex that the callee reads and that stand -/
noncomputable def SpecG (ex : List (Addr × Obj)) (prog : Program) (w : World) (A : Around) (base : Heap) (l : List Env) (f : Value) (args : List Value) (n : List (Addr × Obj)) (ret : Value → List (Addr × Obj) → Prop) (cls : Value) (exc : List (Addr × Obj) → Prop) : Prop :=
  ∀ (g : Heap), (∀ q ∈ ex, g.get? q.1 = some q.2) → ∀ (s : Shared) (Q E : Value → Shared → Prop), Below A base l g → g.StaysIn s.heap → g.objs.size ≤ s.heap.objs.size → Led g s.heap n →
    (∀ v h' tk n', ret v n' → g.StaysIn h' → Led g h' n' → Q v { s with heap := h', toks := tk }) →
    (∀ e h' tk n', exc n' → Flies base g l cls n' e h' → E e { s with heap := h', toks := tk }) →
    wpAny (model prog w) A (call f args) Q E s
theorem Spec.toG {prog : Program} {w : World} {A : Around} {base : Heap} {l : List Env} {f : Value} {args : List Value} {n ex : List (Addr × Obj)} {ret : Value → List (Addr × Obj) → Prop} {cls : Value} {exc : List (Addr × Obj) → Prop} (S : Spec prog w A base l f args n ret cls exc) : SpecG ex prog w A base l f args n ret cls exc := fun g _ s Q E => S g s Q E
section
variable {prog : Program} {w : World} {A₀ : Around} {base h₀ : Heap} {outer : List Env} {env : Env} {f : Value} {args : List Value} {n ex : List (Addr × Obj)} {ret : Value → List (Addr × Obj) → Prop} {cls : Value} {exc : List (Addr × Obj) → Prop}
    {s : Shared} {L : Addr} {m : Str → Option Value} {news : List (Addr × Obj)} {Q E : Value → Shared → Prop}
/-- the objects that a call reads stand in what it is to leave alone -/
theorem ex_stands (F : Fr h₀ L s.heap m) (N : News h₀ L s.heap news) (rest : List (Addr × Obj)) (hn : ∀ q ∈ n, q ∈ news) (hr : ∀ q ∈ rest, q ∈ news) (hd : ∀ q ∈ rest, ∀ r ∈ n, q.1 ≠ r.1) (hex : ∀ q ∈ ex, q ∈ rest ∨ h₀.get? q.1 = some q.2) :
    ∀ q ∈ ex, (hideAll s.heap (n.map (·.1))).get? q.1 = some q.2 := fun q hq => by
  rcases hex q hq with h | h
  · refine hideAll_get _ (N q (hr q h)).1 fun hm => ?_
    obtain ⟨r, hr', e⟩ := List.mem_map.mp hm
    exact hd q h r hr' e.symm
  · refine hideAll_get _ (F.keep _ _ h) fun hm => ?_
    obtain ⟨r, hr', e⟩ := List.mem_map.mp hm
    have e' : r.1 = q.1 := e
    rw [← e', (N r (hn r hr')).2.2] at h; cases h
/-- the plain contract at this call: its ground is one in which ex stands -/
theorem SpecG.use (S : SpecG ex prog w (A₀.deeper env) base (env :: outer) f args n ret cls exc)
    (B : Below A₀ base outer h₀) (F : Fr h₀ L s.heap m) (N : News h₀ L s.heap news) (rest : List (Addr × Obj)) (hn : ∀ q ∈ n, q ∈ news) (hr : ∀ q ∈ rest, q ∈ news) (hd : ∀ q ∈ rest, ∀ r ∈ n, q.1 ≠ r.1) (hex : ∀ q ∈ ex, q ∈ rest ∨ h₀.get? q.1 = some q.2)
    (hf : env.frame = some L) (hk : env.scope.kind = .function)
    (hQ : ∀ v h' tk n', ret v n' → Fr h₀ L h' m → News h₀ L h' (n' ++ rest) → (∀ q ∈ n', ∀ r ∈ rest, q.1 ≠ r.1) → Q v { s with heap := h', toks := tk })
    (hE : ∀ e h' tk n' g, exc n' → Fr h₀ L g m → (∀ q ∈ rest, g.get? q.1 = some q.2 ∧ h₀.get? q.1 = none ∧ q.1 ≠ L) → Flies base g (env :: outer) cls n' e h' → E e { s with heap := h', toks := tk }) :
    wpAny (model prog w) (A₀.deeper env) (call f args) Q E s := by
  have hx := ex_stands (ex := ex) F N rest hn hr hd hex
  have B₁ := pushX B F hf hk
  have base_ne : ∀ b o, h₀.get? b = some o → b ∉ n.map (·.1) := fun b o e q => by
    obtain ⟨r, hr', rfl⟩ := List.mem_map.mp q
    rw [(N r (hn r hr')).2.2] at e; cases e
  have L_ne : L ∉ n.map (·.1) := fun q => by
    obtain ⟨r, hr', e⟩ := List.mem_map.mp q
    exact (N r (hn r hr')).2.1 e
  have st : h₀.StaysIn (hideAll s.heap (n.map (·.1))) := fun b o e => hideAll_get _ (F.keep b o e) (base_ne b o e)
  obtain ⟨oL, es, ep, hL, hLd, hLk, hLf⟩ := F.ns
  have hLg := hideAll_get (n.map (·.1)) hL L_ne
  have FG : Fr h₀ L (hideAll s.heap (n.map (·.1))) m := ⟨⟨oL, es, ep, hLg, hLd, hLk, hLf⟩, st, F.above⟩
  have rest_in : ∀ q ∈ rest, (hideAll s.heap (n.map (·.1))).get? q.1 = some q.2 := fun q hq => hideAll_get _ (N q (hr q hq)).1 fun hm => by
    obtain ⟨r, hr', e⟩ := List.mem_map.mp hm
    exact hd q hq r hr' e.symm
  refine S (hideAll s.heap (n.map (·.1))) hx s Q E ⟨B₁.stack, fun b o e => st b o (B.stays b o e), funFrames_hideAll B₁.frames fun v hv b hb hfr => ?_⟩ (fun b o e => of_hideAll _ e) (Nat.le_of_eq (hideAll_size _ _))
    (fun q hq => ⟨(N q (hn q hq)).1, hideAll_none _ (List.mem_map_of_mem hq)⟩) (fun v h' tk n' hret k1 k2 => ?_) fun e h' tk n' hexc hfl => hE e h' tk n' _ hexc FG (fun q hq => ⟨rest_in q hq, (N q (hr q hq)).2.2, (N q (hr q hq)).2.1⟩) hfl
  · cases hv with
    | head => rw [hf] at hfr; exact L_ne ((Option.some.inj hfr : L = b) ▸ hb)
    | tail _ hv =>
      obtain ⟨L₁, o₁, hf₁, ho₁⟩ := funFrames_in B.frames v hv
      rw [hf₁] at hfr
      exact base_ne L₁ o₁ ho₁ ((Option.some.inj hfr : L₁ = b) ▸ hb)
  · refine hQ v h' tk n' hret ⟨⟨oL, es, ep, k1 L oL hLg, hLd, hLk, hLf⟩, fun b o e => k1 b o (st b o e), F.above⟩ (fun q hq => ?_) fun q hq r hr' e => ?_
    · rcases List.mem_append.mp hq with hq | hq
      · refine ⟨(k2 q hq).1, fun z => ?_, ?_⟩
        · have := (k2 q hq).2; rw [z, hLg] at this; cases this
        · cases z : h₀.get? q.1 with
          | none => rfl
          | some o => have := (k2 q hq).2; rw [st _ _ z] at this; cases this
      · exact ⟨k1 _ _ (rest_in q hq), (N q (hr q hq)).2⟩
    · have := (k2 q hq).2
      rw [e, rest_in r hr'] at this; cases this
end
/-- a contract of a function that catches: the frames above may have been noted meanwhile; ex: objects that the callee reads and that stand -/
noncomputable def SpecSG (ex : List (Addr × Obj)) (prog : Program) (w : World) (A : Around) (base : Heap) (l : List Env) (f : Value) (args : List Value) (n : List (Addr × Obj)) (ret : Value → List (Addr × Obj) → Prop) : Prop :=
  ∀ (g : Heap), (∀ q ∈ ex, g.get? q.1 = some q.2) → ∀ (s : Shared) (Q E : Value → Shared → Prop), Below A base l g → KtsDicts (l.filterMap (·.frame)) g → g.StaysIn s.heap → g.objs.size ≤ s.heap.objs.size → Led g s.heap n →
    (∀ v h' tk g' n', ret v n' → KtsTurn (l.filterMap (·.frame)) g g' → g'.StaysIn h' → Led g' h' n' → Q v { s with heap := h', toks := tk }) →
    wpAny (model prog w) A (call f args) Q E s
section
variable {prog : Program} {w : World} {A₀ : Around} {base h₀ : Heap} {outer : List Env} {env : Env} {f : Value} {args : List Value} {n ex : List (Addr × Obj)} {ret : Value → List (Addr × Obj) → Prop}
    {s : Shared} {L : Addr} {m : Str → Option Value} {news : List (Addr × Obj)} {Q E : Value → Shared → Prop}
theorem one_frame (hf : env.frame = some L) : ∀ b ∈ [env].filterMap (·.frame), b = L := by
  intro b hb
  obtain ⟨v, hv, hb⟩ := List.mem_filterMap.mp hb
  rw [List.mem_singleton.mp hv, hf] at hb
  exact (Option.some.inj hb).symm
theorem SpecSG.use0 (S : SpecSG ex prog w (A₀.deeper env) base [env] f args n ret)
    (B : Below A₀ base [] h₀) (F : Fr h₀ L s.heap m) (N : News h₀ L s.heap news) (rest : List (Addr × Obj)) (hn : ∀ q ∈ n, q ∈ news) (hr : ∀ q ∈ rest, q ∈ news) (hd : ∀ q ∈ rest, ∀ r ∈ n, q.1 ≠ r.1) (hex : ∀ q ∈ ex, q ∈ rest ∨ h₀.get? q.1 = some q.2)
    (hf : env.frame = some L) (hk : env.scope.kind = .function)
    (hQ : ∀ v h' tk n', ret v n' → Fr h₀ L h' m → News h₀ L h' (n' ++ rest) → (∀ q ∈ n', ∀ r ∈ rest, q.1 ≠ r.1) → Q v { s with heap := h', toks := tk }) :
    wpAny (model prog w) (A₀.deeper env) (call f args) Q E s := by
  have B₁ := pushX B F hf hk
  have base_ne : ∀ b o, h₀.get? b = some o → b ∉ n.map (·.1) := fun b o e q => by
    obtain ⟨r, hr', rfl⟩ := List.mem_map.mp q
    rw [(N r (hn r hr')).2.2] at e; cases e
  have L_ne : L ∉ n.map (·.1) := fun q => by
    obtain ⟨r, hr', e⟩ := List.mem_map.mp q
    exact (N r (hn r hr')).2.1 e
  have st : h₀.StaysIn (hideAll s.heap (n.map (·.1))) := fun b o e => hideAll_get _ (F.keep b o e) (base_ne b o e)
  obtain ⟨oL, es, ep, hL, hLd, hLk, hLf⟩ := F.ns
  have hLg := hideAll_get (n.map (·.1)) hL L_ne
  have self : h₀.get? L = none := kts_self F
  have rest_in : ∀ q ∈ rest, (hideAll s.heap (n.map (·.1))).get? q.1 = some q.2 := fun q hq => hideAll_get _ (N q (hr q hq)).1 fun hm => by
    obtain ⟨r, hr', e⟩ := List.mem_map.mp hm
    exact hd q hq r hr' e.symm
  refine S (hideAll s.heap (n.map (·.1))) (ex_stands F N rest hn hr hd hex) s Q E ⟨B₁.stack, fun b o e => st b o (B.stays b o e), funFrames_hideAll B₁.frames fun v hv b hb hfr => ?_⟩ (fun b hb => ?_) (fun b o e => of_hideAll _ e) (Nat.le_of_eq (hideAll_size _ _))
    (fun q hq => ⟨(N q (hn q hq)).1, hideAll_none _ (List.mem_map_of_mem hq)⟩) (fun v h' tk g' n' hret T k1 k2 => ?_)
  · rw [List.mem_singleton.mp hv, hf] at hfr
    exact L_ne ((Option.some.inj hfr : L = b) ▸ hb)
  · rw [one_frame hf b hb]
    exact ⟨oL, es, ep, hLg, hLd⟩
  · obtain ⟨sl, hs⟩ := T.up hLg
    have st' : ∀ b o, h₀.get? b = some o → g'.get? b = some o := fun b o e => T.other b o (st b o e) fun hm => by
      rw [one_frame hf b hm, self] at e; cases e
    refine hQ v h' tk n' hret ⟨⟨_, es, ep, k1 _ _ hs, hLd, hLk, hLf⟩, fun b o e => k1 b o (st' b o e), F.above⟩ (fun q hq => ?_) fun q hq r hr' e => ?_
    · rcases List.mem_append.mp hq with hq | hq
      · refine ⟨(k2 q hq).1, fun z => ?_, ?_⟩
        · have := (k2 q hq).2; rw [z, hs] at this; cases this
        · cases z : h₀.get? q.1 with
          | none => rfl
          | some o => have := (k2 q hq).2; rw [st' _ _ z] at this; cases this
      · exact ⟨k1 _ _ (T.other _ _ (rest_in q hq) fun hm => (N q (hr q hq)).2.1 (one_frame hf _ hm)), (N q (hr q hq)).2⟩
    · have := (k2 q hq).2
      rw [e, T.other _ _ (rest_in r hr') fun hm => (N r (hr r hr')).2.1 (one_frame hf _ hm)] at this; cases this
theorem SpecSG.use {name : Str} {scope : Scope} {a : Addr} {cd : Value} (S : SpecSG ex prog w (A₀.deeper (envOf name scope L a cd)) base (envOf name scope L a cd :: outer) f args n ret)
    (B : Below A₀ base outer h₀) (D : KtsDicts (outer.filterMap (·.frame)) h₀) (F : Fr h₀ L s.heap m) (N : News h₀ L s.heap news) (rest : List (Addr × Obj)) (hn : ∀ q ∈ n, q ∈ news) (hr : ∀ q ∈ rest, q ∈ news) (hd : ∀ q ∈ rest, ∀ r ∈ n, q.1 ≠ r.1) (hex : ∀ q ∈ ex, q ∈ rest ∨ h₀.get? q.1 = some q.2)
    (hk : scope.kind = .function)
    (hQ : ∀ v h' tk h₁ n', ret v n' → KtsTurn (outer.filterMap (·.frame)) h₀ h₁ → Below A₀ base outer h₁ → KtsDicts (outer.filterMap (·.frame)) h₁ → Fr h₁ L h' m → News h₁ L h' (n' ++ rest) → (∀ q ∈ n', ∀ r ∈ rest, q.1 ≠ r.1) → Q v { s with heap := h', toks := tk }) :
    wpAny (model prog w) (A₀.deeper (envOf name scope L a cd)) (call f args) Q E s := by
  have hf : (envOf name scope L a cd).frame = some L := rfl
  have B₁ := pushX (env := envOf name scope L a cd) B F hf hk
  have base_ne : ∀ b o, h₀.get? b = some o → b ∉ n.map (·.1) := fun b o e q => by
    obtain ⟨r, hr', rfl⟩ := List.mem_map.mp q
    rw [(N r (hn r hr')).2.2] at e; cases e
  have L_ne : L ∉ n.map (·.1) := fun q => by
    obtain ⟨r, hr', e⟩ := List.mem_map.mp q
    exact (N r (hn r hr')).2.1 e
  have st : h₀.StaysIn (hideAll s.heap (n.map (·.1))) := fun b o e => hideAll_get _ (F.keep b o e) (base_ne b o e)
  obtain ⟨oL, es, ep, hL, hLd, hLk, hLf⟩ := F.ns
  have hLg := hideAll_get (n.map (·.1)) hL L_ne
  have FG : Fr h₀ L (hideAll s.heap (n.map (·.1))) m := ⟨⟨oL, es, ep, hLg, hLd, hLk, hLf⟩, st, F.above⟩
  have self : h₀.get? L = none := kts_self F
  have rest_in : ∀ q ∈ rest, (hideAll s.heap (n.map (·.1))).get? q.1 = some q.2 := fun q hq => hideAll_get _ (N q (hr q hq)).1 fun hm => by
    obtain ⟨r, hr', e⟩ := List.mem_map.mp hm
    exact hd q hq r hr' e.symm
  refine S (hideAll s.heap (n.map (·.1))) (ex_stands F N rest hn hr hd hex) s Q E ⟨B₁.stack, fun b o e => st b o (B.stays b o e), funFrames_hideAll B₁.frames fun v hv b hb hfr => ?_⟩ (fun b hb => ?_) (fun b o e => of_hideAll _ e) (Nat.le_of_eq (hideAll_size _ _))
    (fun q hq => ⟨(N q (hn q hq)).1, hideAll_none _ (List.mem_map_of_mem hq)⟩) (fun v h' tk g' n' hret T k1 k2 => ?_)
  · cases hv with
    | head => rw [hf] at hfr; exact L_ne ((Option.some.inj hfr : L = b) ▸ hb)
    | tail _ hv =>
      obtain ⟨L₁, o₁, hf₁, ho₁⟩ := funFrames_in B.frames v hv
      rw [hf₁] at hfr
      exact base_ne L₁ o₁ ho₁ ((Option.some.inj hfr : L₁ = b) ▸ hb)
  · rcases kts_mem hb with rfl | hb
    · exact ⟨oL, es, ep, hLg, hLd⟩
    · obtain ⟨o, es', n', ho', hd'⟩ := D b hb
      exact ⟨o, es', n', st b o ho', hd'⟩
  · obtain ⟨h₁, T₁, F₁, B₁⟩ := kts_ground (name := name) (scope := scope) (a := a) (cd := cd) (B := h') (h₅ := h') B FG (fun b o e nm => k1 b o (T.other b o e nm)) (fun _ _ e => e) (fun b o e _ => by
      obtain ⟨sl, hs⟩ := T.up e
      exact ⟨sl, k1 _ _ hs⟩)
    have ne_out : ∀ q ∈ rest, q.1 ∉ (envOf name scope L a cd :: outer).filterMap (·.frame) := fun q hq hm => by
      rcases kts_mem hm with z | z
      · exact (N q (hr q hq)).2.1 z
      · obtain ⟨o, es', n', ho', _⟩ := D _ z
        rw [(N q (hr q hq)).2.2] at ho'; cases ho'
    obtain ⟨sl, hs⟩ := T.up hLg
    refine hQ v h' tk h₁ n' hret T₁ B₁ (D.turn T₁) F₁ (fun q hq => ?_) fun q hq r hr' e => ?_
    · rcases List.mem_append.mp hq with hq | hq
      · refine ⟨(k2 q hq).1, fun z => ?_, T₁.none_ _ ?_⟩
        · have := (k2 q hq).2; rw [z, hs] at this; cases this
        · cases z : h₀.get? q.1 with
          | none => rfl
          | some o =>
            obtain ⟨sl', hs'⟩ := T.up (st _ _ z)
            have := (k2 q hq).2; rw [hs'] at this; cases this
      · exact ⟨k1 _ _ (T.other _ _ (rest_in q hq) (ne_out q hq)), (N q (hr q hq)).2.1, T₁.none_ _ (N q (hr q hq)).2.2⟩
    · have := (k2 q hq).2
      rw [e, T.other _ _ (rest_in r hr') (ne_out r hr')] at this; cases this
end
end Mine
open PySem PySem.W PyProof.Rows PySem.Calls PySem.Spec
namespace Mine
set_option maxRecDepth 100000
theorem name_of {q q' : Str} {vs : Array Value} {t : Tok} (h : vs[1]? = some (.str q t)) (e : q = q') : vs[1]? = some (.str q' t) := e ▸ h
/-- an argument: bytes, or a list of bytes that stands -/
noncomputable def BArg (ex : List (Addr × Obj)) (v : Value) (ks : List Int) : Prop := (∃ b t, v = .bytes b t ∧ KBw.bInts b = ks) ∨ ∃ l vs cs nn, v = .ref l ∧ (l, listOf (List.toArray vs) nn) ∈ ex ∧ BytesAre vs cs ∧ cs.flatten = ks
set_option maxHeartbeats 8000000 in
theorem apply_any (w : World) {p : Program} {loose : List Str} {mean : ExcName → Option Value} {mg mb : Str → Option Value}
   {base : Heap} (X₀ : (hd.heap_1 w.params).In base) (T₀ : Top p loose mean mg mb base) (codeHd : CodeHd base 46 42)
   (dp un : Nat) (gd : Option (List Code)) (l : List Env) (hdp : dp + 12 < recursionLimit) (hu : un + 100 < cLine)
   {bk dk : List Int} {va vb : Value} {ex n : List (Addr × Obj)} (hva : BArg ex va bk) (hvb : BArg ex vb dk) (hn : Tab n) (hb : bk.length ≤ 200000) (hd0 : dk.length ≤ 1800) :
   SpecG ex PySem.Challenge.rw_jq0004_02.row.prog w (aTop dp un gd l) base l (.ref 47) [va, vb] n
     (fun v n' => ∃ lo vs cs nn n1, v = .ref lo ∧ BytesAre vs cs ∧ (readDelta bk dk = some cs.flatten ∧ cs.length ≤ 2000) ∧ n' = (lo, listOf (List.toArray vs) nn) :: n1 ∧ Tab n1)
     (.ref 32) (fun n' => Tab n' ∧ readDelta bk dk = none) := by
  unfold BArg at hva hvb
  obtain ⟨c1, oc1, c2, oc2, rfl, ⟨vs1, t1, k1, k2⟩, ⟨vs2, t2, k3, k4⟩, hc12, hc1, hc2⟩ := hn
  intro g hst s Q E B hg hsz N hret hexc
  have hfill : (fun _ : OpenLaw => hd.heap_1) PySem.Challenge.rw_jq0004_02 = hd.heap_1 := by (k_fill; rfl)
  clear hfill
  have X := X₀.keeps B.stays
  have T := T₀.keeps B.stays
  refine wpAny_call ?_
  k_dflt (refine' enter_defC hg hsz N X T ?k6 ?k7 ?k8 ?k9 ?kB ?kD ?_ ?c2 ?c3 ?c4; (case k6 => k_is); (case k7 => k_is); (case k8 => ktr_room); (case k9 => exact BindsTo.of_eq rfl); (case kB => exact rfl); (case kD => decide +kernel); (case c2 => exact rfl); (case c3 => exact rfl); (case c4 => exact rfl); k_whole; intro L' h' tk' cells' F' N' Y' l1; (try k_lt l1); k_cells Y'; (try simp only [List.cons_append, List.nil_append] at N'); (try dsimp only); (try k_fold))
  k_with_none
  k_with "execs cons" => k_fold
  k_with "eval Call" => k_fold
  k_with "storeName" => (k_here; k_dflt (first | (refine' storeI_L ?F ?N ?_ ?a ?b; (case F => k_asm); (case N => k_asm); (case a => rfl); (case b => rfl); k_whole; intro h' tk' t' F' N'; (try k_sweep); (try dsimp only); (try k_fold)) | (refine' storeB_L ?F ?N ?_ ?a ?b; (case F => k_asm); (case N => k_asm); (case a => rfl); (case b => rfl); k_whole; intro h' tk' t' F' N'; (try k_sweep); (try dsimp only); (try k_fold)) | (refine' storeG_L ?F ?N ?_ ?a ?b; (case F => k_asm); (case N => k_asm); (case a => rfl); (case b => rfl); k_whole; intro h' tk' F' N'; (try k_sweep); (try dsimp only); (try k_fold))))
  k_with "k_memx" => (first | k_mem | with_reducible (repeat' (first | exact List.Mem.head _ | refine List.Mem.tail _ ?_)))
  k_with "exec Raise some none" => k_extra "raise"
  k_with "exec While Constant cons nil" => k_extra "while"
  k_with "exec While Compare cons nil" => k_extra "while"
  k_with "KswEnd" => k_extra "turn"
  k_with "subscriptTail Name Slice bytes ref" => (k_here; (with_reducible show wpAny _ _ (subscriptTail _ (PySem.Expr.Slice (some _) (some _) none _) (Value.bytes _ _) (Value.ref _)) _ _ _); (with_reducible rename Fr _ _ _ _ => F'); (with_reducible rename News _ _ _ _ => N'); (refine slice_ij (s := ⟨_, _, _, _, _⟩) F' N' (by assumption) (by omega) (by omega) (by omega) ?_); intro _ _ _ _ _ _ hcut)
  k_with "call builtin:len" => (k_here; (with_reducible show wpAny _ _ (call (Value.builtin "len") [Value.bytes _ _]) _ _ _); (refine len_b (by assumption) (by omega) ?_); intro _ _)
  k_with "call builtin:ord" => (k_here; (with_reducible show wpAny _ _ (call (Value.builtin "ord") [Value.bytes _ _]) _ _ _); (refine ord_bytes (Eq.trans (by assumption) (cut_one' _ _ _ (by omega) (by omega) (by omega))) ?_); intro _ _ hlo hhi)
  k_with "loadName" => (k_here; k_dflt (refine' loadX_L ?F ?v ?_ ?hk ?hx; (case F => k_asm); (case v => rfl); (case hk => rfl); (case hx => rfl); k_whole))
  k_with "leaving ref" => (k_here; k_dflt (refine' leave_made ?B ?hx ?F ?N (fun _ h => h) ?hf ?hk ?_; (case hx => assumption); (case B => assumption); (case F => k_asm); (case N => k_asm); (case hf => exact rfl); (case hk => exact rfl)); intro h' fl'; (try dsimp only))
  k_with "leaving" => (k_here; k_dflt (refine' leave_on2 ?B ?F ?x ?hr ?hf ?_; (case x => assumption); (case hr => assumption); (case B => assumption); (case F => k_asm); (case hf => exact rfl)); intro h' fl'; (try dsimp only [List.cons_append, List.nil_append]))
  k_with "binaryOp LShift int int" => (k_here; (refine lshift_any (by omega) (by omega) (by k_extra "shift") ?_); intro _ _)
  k_with "call ref" => k_extra "call"
  k_with "formatField int" => (k_here; (with_reducible rename Fr _ _ _ _ => kF); (refine fmt_int rfl (Heap.NoDigits.keeps (Top.nodigits (by assumption)) (Fr.keep kF)) (by k_extra "digits") ?_); intro _ _ _ hfm)
  k_with "exec For Name Call cons nil" => k_extra "for"
  k_with "pyIter ref" => k_extra "iter"
  k_with "subscriptTail Name Slice bytes ref" => (k_here; (with_reducible show wpAny _ _ (subscriptTail _ (PySem.Expr.Slice (some _) none none _) (Value.bytes _ _) (Value.ref _)) _ _ _); (with_reducible rename Fr _ _ _ _ => F'); (with_reducible rename News _ _ _ _ => N'); (refine slice_i (s := ⟨_, _, _, _, _⟩) F' N' (by assumption) (by omega) (by omega) ?_); intro _ _ _ _ _ _ hcut)
  k_with "pyReprObj bytes" => (k_here; (have hsm := drop_small (by assumption) (by assumption)); (refine repr_b (by omega) ?_); intro _ _ _ hxl)
  k_with "call builtin:list.append" => (k_here; k_dflt (refine' append_K ?k1 ?k2 ?k3 ?_ ?z; (case k1 => k_asm); (case k2 => k_asm); (case k3 => k_upd); (case z => k_extra "append"); k_whole); intro h' F' N'; (try k_sweep))
  k_with "MainPost" => (dsimp only [MainPost])
  k_with "execs cons Assign cons" => k_extra "core"
  k_with "getMethod bytes" => k_extra "meth"
  k_with "call builtin:bytes.join" => k_extra "join"
  have hK := (by k_dflt k_is : List.lookup 47 (hd.heap_1 w.params) = some ⟨_, _, .func (fnOf _ _ _ _ _ _ _ _ _ _ _ _), _⟩)
  k_with "meth" => (k_here; refine method_join ?_)
  k_with "exec If" => (k_here; (fail_if_success (have h9 := inOne)); (fail_if_success (have h9 := inCut)); (rename Fr _ _ _ _ => kF); (rename News _ _ _ _ => kN); k_dflt (refine' cut_byt _ (Str.ofString "src_buf") (fun ks => ks = bk) kF kN (fun _ h => h) ?_ ?_); (rotate_left); (clear kF kN; intro kU kH kTk bs ks ts hks hP kFr kNews; subst hP; (have inOne : True := trivial); (try k_fold)); (rotate_left); ((have inOne : True := trivial); (have inCut : True := trivial); (rcases hva with ⟨ba, ta, rfl, hba⟩ | ⟨la, vsa, csa, nna, rfl, hma, hBa, hfa⟩); (all_goals (try k_fold))))
  k_with "exec If" => (k_here; (have h9 := inOne); (fail_if_success (have h9 := inCut)); (fail_if_success (have h9 := inTwo)); (rename Fr _ _ _ _ => kF); (rename News _ _ _ _ => kN); k_dflt (refine' cut_byt _ (Str.ofString "delta") (fun ks => ks = dk) kF kN (fun _ h => h) ?_ ?_); (rotate_left); (clear kF kN; intro kU kH kTk bd kd td hkd hP kFr kNews; subst hP; (have inTwo : True := trivial); (try k_fold)); (rotate_left); ((have inTwo : True := trivial); (have inCut : True := trivial); (rcases hvb with ⟨ba, ta, rfl, hba⟩ | ⟨la, vsa, csa, nna, rfl, hma, hBa, hfa⟩); (all_goals (try k_fold))))
  k_with "call builtin:isinstance" => (k_here; (with_reducible show wpAny _ _ (call _ [Value.ref la, _]) _ _ _); (rename Fr _ _ _ _ => kF); k_dflt (refine' kia_one kitx_list ?X ⟨_, kF.keep _ _ (hst _ hma), rfl⟩ ?ee ?nb ?_; (case X => k_in); (case ee => kit_is); (case nb => kit_nb); k_whole; intro _))
  k_with "join" => (k_here; (with_reducible show wpAny _ _ (call _ [_, Value.ref la]) _ _ _); (rename Fr _ _ _ _ => kF); k_dflt (refine' join_K (vs := vsa) (cs := csa) (s := ⟨_, _, _, _, _⟩) ⟨_, kF.keep _ _ (hst _ hma), rfl, _, rfl⟩ hBa ?hz ?_; (case hz => rw [hfa]; omega)); intro _ _ _ hj9; (have hba := Eq.trans hj9 hfa); clear hj9)
  k_with "BytPst" => ((rename Fr _ _ _ _ => kF); (rename News _ _ _ _ => kN); k_dflt (exact byt_pst kF kN (fun _ h => h) rfl hba rfl (by intro z a1; simp [kstB, a1])))
  k_with "core" => ((with_reducible show wpAny _ _ (execs (Stmt.Assign [Expr.Tuple _ _ _] _ _ :: _) _) _ _ _); (rename Fr _ _ _ _ => kF); (rename News _ _ _ _ => kN); k_dflt ((refine' apply_core2 (Q := Q) (E := E) w hK X₀ T₀ codeHd dp un gd l hdp hu ?e1 ?e2 hb hd0 B ?F ?N ?hoi ?hod ?hap ?H1 ?H2 ?hret ?hexc ?hst ?henv ?hA ?hP ?hE); (case hst => exact rfl); (case henv => exact rfl); (case hA => exact rfl); (case hP => exact fun _ _ z => z); (case hE => exact fun _ _ z => z); (case F => refine fr_names kF ?_; (repeat' (first | exact List.forall_mem_nil _ | refine fmc (by exact rfl) ?_)))); (case e1 => assumption); (case e2 => assumption); (case N => (k_dflt (exact news_sub kN (fmc ((List.Mem.tail _ (List.Mem.tail _ (List.Mem.tail _ (List.Mem.head _))))) ((fmc ((List.Mem.tail _ (List.Mem.tail _ (List.Mem.head _)))) ((fmc ((List.Mem.tail _ (List.Mem.head _))) ((fmc ((List.Mem.tail _ (List.Mem.tail _ (List.Mem.tail _ (List.Mem.tail _ (List.Mem.tail _ (List.Mem.tail _ (List.Mem.head _)))))))) ((fmc ((List.Mem.head _)) ((fmc ((List.Mem.tail _ (List.Mem.tail _ (List.Mem.tail _ (List.Mem.tail _ (List.Mem.tail _ (List.Mem.tail _ (List.Mem.tail _ (List.Mem.head _))))))))) ((fmc ((List.Mem.tail _ (List.Mem.tail _ (List.Mem.tail _ (List.Mem.tail _ (List.Mem.head _)))))) ((fmc ((List.Mem.tail _ (List.Mem.tail _ (List.Mem.tail _ (List.Mem.tail _ (List.Mem.tail _ (List.Mem.head _))))))) (List.forall_mem_nil _))))))))))))))))))); (case hoi => assumption); (case hod => assumption); (case hap => exact apart_lists (Nat.lt_succ_of_lt (by first | assumption | exact And.left (by assumption) | omega)) (Nat.lt_succ_self _) (by first | assumption | exact And.left (by assumption) | omega) (by first | assumption | exact And.left (by assumption) | omega) (by first | assumption | exact And.left (by assumption) | omega) (Nat.lt_succ_of_lt (by first | assumption | exact And.left (by assumption) | omega)) (Nat.lt_succ_of_lt (by first | assumption | exact And.left (by assumption) | omega)) (by first | assumption | omega) (by first | assumption | omega) (by first | assumption | omega)); (case H1 => (k_dflt (intro i ti h0 h1; exact hdr_spec w hK rfl X₀ T₀ codeHd (dp + 1) (un + 3) gd _ (by omega) (by omega) k1 (name_of k2 (by kernel_rfl)) (by assumption) hd0 (by assumption) _ ti h0 h1))); (case H2 => (k_dflt (intro i ti oi hoi h0; exact byte_spec w hK rfl X₀ T₀ codeHd (dp + 1) (un + 3) gd _ (by omega) (by omega) k3 (name_of k4 (by kernel_rfl)) (by assumption) hd0 (by assumption) hoi _ h0 (show @Ne Nat _ _ by omega) (show @Ne Nat _ _ by omega) (show @Ne Nat _ _ by omega)))); (case hexc => (rintro e h' tk n' ⟨rfl, hn⟩ fl; exact hexc _ _ _ _ ⟨⟨_, _, _, _, rfl, ⟨_, _, k1, k2⟩, ⟨_, _, k3, k4⟩, hc12, hc1, hc2⟩, hn⟩ fl)); (case hret => (rintro v h' tk n' ⟨lo, vs, cs, nn, rfl, hb, hr, rfl⟩ hs hl; exact hret _ _ _ _ ⟨lo, vs, cs, nn, _, rfl, hb, hr, rfl, ⟨_, _, _, _, rfl, ⟨_, _, k1, k2⟩, ⟨_, _, k3, k4⟩, hc12, hc1, hc2⟩⟩ hs hl)))
  k_steps
end Mine
open PySem PySem.W PyProof.Rows PySem.Calls PySem.Spec
namespace Mine
set_option maxRecDepth 100000
set_option maxHeartbeats 8000000 in
/-- `apply_delta` hands on -/
theorem pass2_on (w : World) {p : Program} {loose : List Str} {mean : ExcName → Option Value} {mg mb : Str → Option Value}
   {base : Heap} (X₀ : (hd.heap_1 w.params).In base) (T₀ : Top p loose mean mg mb base)
   (dp un : Nat) (gd : Option (List Code)) (l : List Env) (hdp : dp + 5 < recursionLimit)
   {va vb : Value} {n ex : List (Addr × Obj)} {ret : Value → List (Addr × Obj) → Prop} {exc : List (Addr × Obj) → Prop}
   (H : ∀ env : Env, SpecG ex PySem.Challenge.rw_jq0004_02.row.prog w (aTop (dp + 1) (un + 3) gd (env :: l)) base (env :: l) (.ref 47) [va, vb] n ret (.ref 32) exc) :
   SpecG ex PySem.Challenge.rw_jq0004_02.row.prog w (aTop dp un gd l) base l (.ref 54) [va, vb] n ret (.ref 32) exc := by
  have hfill : (fun _ : OpenLaw => hd.heap_1) PySem.Challenge.rw_jq0004_02 = hd.heap_1 := by (k_fill; rfl)
  clear hfill
  intro g hst s Q E B hg hsz N hret hexc
  have X := X₀.keeps B.stays
  have T := T₀.keeps B.stays
  refine wpAny_call ?_
  k_dflt (refine' enter_def hg hsz N X T ?k6 ?k7 ?k8 ?k9 ?kB ?_ ?c2 ?c3 ?c4 ?c5; (case k6 => k_is); (case k7 => k_is); (case k8 => ktr_room); (case k9 => exact BindsTo.of_eq rfl); (case c5 => decide); (case kB => exact locs rfl); (case c2 => exact rfl); (case c3 => exact rfl); (case c4 => exact rfl); k_whole; intro L' h' F' N' l1; (try k_lt l1); (try dsimp only); (try k_fold))
  k_with_none
  k_with "execs cons" => k_fold
  k_with "eval Call" => k_fold
  k_with "storeName" => (k_here; k_dflt (first | (refine' storeI_L ?F ?N ?_ ?a ?b; (case F => k_asm); (case N => k_asm); (case a => rfl); (case b => rfl); k_whole; intro h' tk' t' F' N'; (try k_sweep); (try dsimp only); (try k_fold)) | (refine' storeB_L ?F ?N ?_ ?a ?b; (case F => k_asm); (case N => k_asm); (case a => rfl); (case b => rfl); k_whole; intro h' tk' t' F' N'; (try k_sweep); (try dsimp only); (try k_fold)) | (refine' storeG_L ?F ?N ?_ ?a ?b; (case F => k_asm); (case N => k_asm); (case a => rfl); (case b => rfl); k_whole; intro h' tk' F' N'; (try k_sweep); (try dsimp only); (try k_fold))))
  k_with "leaving" => (k_here; k_dflt (refine' leave_on ?B ?F ?x (fun _ h => h) ?hf ?_; (case x => assumption); (case B => assumption); (case F => k_asm); (case hf => exact rfl)); intro h' fl'; (try dsimp only))
  k_with "call ref" => ((with_reducible show wpAny _ _ (call _ [_, _]) _ _ _); (rename Fr _ _ _ _ => kF); (rename News _ _ _ _ => kN); k_dflt (refine' SpecG.use (A₀ := aTop dp un gd l) (H _) B kF kN [] (fun _ h => h) (fun _ h => nomatch h) (fun _ h => nomatch h) (fun q hq => .inr (hst q hq)) rfl rfl ?_ ?_); (rotate_left); ((intro e9 h9 tk9 n9 g9 hx9 F9 hr9 fl9; (try k_fold))); (rotate_left); ((intro v9 h9 tk9 n9 hr9 F9 N9 ap9; rw [List.append_nil] at N9; (try k_fold))))
  k_steps
  all_goals (try exact hexc _ _ _ _ (by assumption) (by assumption))
  all_goals (try exact hret _ _ _ _ (by assumption) (Fr.keep (by assumption)) (Led.of_news (by assumption)))
end Mine
open PySem PySem.W PyProof.Rows PySem.Calls PySem.Spec
namespace Mine
set_option maxRecDepth 100000
set_option maxHeartbeats 8000000 in
/-- `_law_told` -/
theorem told2_spec (w : World) {p : Program} {loose : List Str} {mean : ExcName → Option Value} {mg mb : Str → Option Value}
   {base : Heap} (X₀ : (hd.heap_1 w.params).In base) (T₀ : Top p loose mean mg mb base)
   (dp un : Nat) (gd : Option (List Code)) (l : List Env) (hdp : dp + 15 < recursionLimit)
   {va vb : Value} {bk dk : List Int} {n ex : List (Addr × Obj)} (hbig : ∀ t, readDelta bk dk = some t → t.length ≤ 16777216)
   (H : ∀ env : Env, SpecG ex PySem.Challenge.rw_jq0004_02.row.prog w (aTop (dp + 1) (un + 3) gd (env :: l)) base (env :: l) (.ref 54) [va, vb] n
     (fun v n' => ∃ lo vs cs nn n1, v = .ref lo ∧ BytesAre vs cs ∧ (readDelta bk dk = some cs.flatten ∧ cs.length ≤ 2000) ∧ n' = (lo, listOf (List.toArray vs) nn) :: n1 ∧ Tab n1)
     (.ref 32) (fun n' => Tab n' ∧ readDelta bk dk = none)) :
   SpecSG ex PySem.Challenge.rw_jq0004_02.row.prog w (aTop dp un gd l) base l (.ref 120) [va, vb] n
     (fun v n' => OutV (readDelta bk dk) v ∧ Tab n') := by
  have hfill : (fun _ : OpenLaw => hd.heap_1) PySem.Challenge.rw_jq0004_02 = hd.heap_1 := by (k_fill; rfl)
  clear hfill
  intro g hst s Q E B hD hg hsz N hret
  have X := X₀.keeps B.stays
  have T := T₀.keeps B.stays
  refine wpAny_call ?_
  k_dflt (refine' enter_def hg hsz N X T ?k6 ?k7 ?k8 ?k9 ?kB ?_ ?c2 ?c3 ?c4 ?c5; (case k6 => k_is); (case k7 => k_is); (case k8 => ktr_room); (case k9 => exact BindsTo.of_eq rfl); (case c5 => decide); (case kB => exact locs rfl); (case c2 => exact rfl); (case c3 => exact rfl); (case c4 => exact rfl); k_whole; intro L' h' F' N' l1; (try k_lt l1); (try dsimp only); (try k_fold))
  k_with_none
  k_with "execs cons" => k_fold
  k_with "eval Call" => k_fold
  k_with "storeName" => (k_here; k_dflt (first | (refine' storeI_L ?F ?N ?_ ?a ?b; (case F => k_asm); (case N => k_asm); (case a => rfl); (case b => rfl); k_whole; intro h' tk' t' F' N'; (try k_sweep); (try dsimp only); (try k_fold)) | (refine' storeB_L ?F ?N ?_ ?a ?b; (case F => k_asm); (case N => k_asm); (case a => rfl); (case b => rfl); k_whole; intro h' tk' t' F' N'; (try k_sweep); (try dsimp only); (try k_fold)) | (refine' storeG_L ?F ?N ?_ ?a ?b; (case F => k_asm); (case N => k_asm); (case a => rfl); (case b => rfl); k_whole; intro h' tk' F' N'; (try k_sweep); (try dsimp only); (try k_fold))))
  k_with "leaving" => (k_here; k_dflt (refine' leave_on ?B ?F ?x (fun _ h => h) ?hf ?_; (case x => assumption); (case B => assumption); (case F => k_asm); (case hf => exact rfl)); intro h' fl'; (try dsimp only))
  k_with "call ref" => k_extra "call"
  k_with "getMethod bytes" => k_extra "meth"
  k_with "call builtin:bytes.join" => k_extra "join"
  k_with "call" => ((with_reducible show wpAny _ _ (call _ [_, _]) _ _ _); (rename Fr _ _ _ _ => kF); (rename News _ _ _ _ => kN); k_dflt (refine' SpecG.use (A₀ := aTop dp un gd l) (H _) B kF kN [] (fun _ h => h) (fun _ h => nomatch h) (fun _ h => nomatch h) (fun q hq => .inr (hst q hq)) rfl rfl ?_ ?_); (rotate_left); ((intro e9 h9 tk9 n9 g9 hx9 F9 hr9 fl9; (obtain ⟨hx9, hx8⟩ := hx9); (obtain ⟨ea9, et9, ev9, rfl, fR9, fU9⟩ := fl9); (try k_fold))); (rotate_left); ((intro v9 h9 tk9 n9 hr9 F9 N9 ap9; rw [List.append_nil] at N9; (obtain ⟨lo, vs, cs, nn, n1, rfl, hv9, ⟨hr9, _⟩, rfl, ht9⟩ := hr9); (have hb9 := hbig _ hr9); (try k_fold))))
  k_with "meth" => (k_here; refine method_join ?_)
  k_with "join" => (k_here; (with_reducible show wpAny _ _ (call _ [_, Value.ref _]) _ _ _); (with_reducible rename News _ _ _ _ => kN); (with_reducible rename BytesAre _ _ => hv8); k_dflt (refine' join_K (s := ⟨_, _, _, _, _⟩) ?hl hv8 ?hz ?_; (case hz => assumption); (case hl => exact ⟨_, (kN _ (List.Mem.head _)).1, rfl, _, rfl⟩)); intro _ _ _ hj9)
  k_steps
  · exact hret _ _ _ _ _ ⟨.inr ⟨_, _, rfl, Eq.trans (by assumption) (congrArg some (Eq.symm (by assumption)))⟩, by assumption⟩ KtsTurn.refl (Fr.keep (by assumption)) (Led.sub (Led.of_news (by assumption)) (fun q hq => .tail _ hq))
  · exact hret _ _ _ _ _ ⟨.inl ⟨rfl, by assumption⟩, by assumption⟩ (by assumption) (Fr.keep (by assumption)) (Led.of_news (by assumption))
end Mine
open PySem PySem.W PyProof.Rows PySem.Calls PySem.Spec
namespace Mine
set_option maxRecDepth 100000
noncomputable def numG (n c : Int) (a : Int) : Int := (n.fdiv (128 ^ a.toNat)).fmod 128 + (if a < c - 1 then 128 else 0)
theorem pw_lt {n : Int} {k : Nat} (h : (128 : Int) ^ k ≤ n) (h1 : n < 72057594037927936) : k < 8 := by
  rcases Nat.lt_or_ge k 8 with q | q
  · exact q
  · have e : (128 : Int) ^ k = 128 ^ 8 * 128 ^ (k - 8) := by rw [← Int.pow_add]; congr 1; omega
    have p : (0 : Int) < 128 ^ (k - 8) := Int.pow_pos (by decide)
    have e8 : (128 : Int) ^ 8 = 72057594037927936 := by decide
    rw [e, e8] at h
    omega
theorem numG_in (n c : Int) (ks : List Int) : KBa.In (ks.map (numG n c)) := fun y hy => by
  obtain ⟨a, _, rfl⟩ := List.mem_map.mp hy
  have u := fmod_bd (n.fdiv (128 ^ a.toNat)) (show (0 : Int) < 128 by decide)
  unfold numG
  split <;> omega +splitDisjunctions
theorem numG_lo {n c a : Int} (h : a < c - 1) : numG n c a = (n.fdiv (128 ^ a.toNat)).fmod 128 + 128 := by unfold numG; rw [if_pos h]
theorem numG_hi {n c a : Int} (h : ¬ a < c - 1) : numG n c a = (n.fdiv (128 ^ a.toNat)).fmod 128 + 0 := by unfold numG; rw [if_neg h]
set_option maxHeartbeats 4000000 in
/-- `_law_number` -/
theorem number2_spec (w : World) {p : Program} {loose : List Str} {mean : ExcName → Option Value} {mg mb : Str → Option Value}
   {base : Heap} (X₀ : (hd.heap_1 w.params).In base) (T₀ : Top p loose mean mg mb base)
   (dp un : Nat) (gd : Option (List Code)) (l : List Env) (hdp : dp + 15 < recursionLimit)
   {n0 mr : Int} {t0 t1 : Tok} (h0 : 0 ≤ n0) (h1 : n0 < 72057594037927936) (hm0 : 0 ≤ mr) (hm1 : mr ≤ 2) :
   Spec PySem.Challenge.rw_jq0004_02.row.prog w (aTop dp un gd l) base l (.ref 71) [.int n0 t0, .int mr t1] []
     (fun v n' => ∃ b cnt t, v = .bytes b t ∧ n' = [] ∧ KBw.bInts b = (rangeKs 0 cnt.toNat).map (numG n0 cnt) ∧ 1 + mr ≤ cnt ∧ cnt ≤ 9 + mr ∧ n0 < 128 ^ (cnt - mr).toNat) (.ref 32) (fun _ => False) := by
  have hfill : (fun _ : OpenLaw => hd.heap_1) PySem.Challenge.rw_jq0004_02 = hd.heap_1 := by (k_fill; rfl)
  clear hfill
  intro g s Q E B hg hsz N hret hexc
  have X := X₀.keeps B.stays
  have T := T₀.keeps B.stays
  all_goals refine wpAny_call ?_
  all_goals k_dflt (refine' enter_defC hg hsz N X T ?k6 ?k7 ?k8 ?k9 ?kB ?kD ?_ ?c2 ?c3 ?c4; (case k6 => k_is); (case k7 => k_is); (case k8 => ktr_room); (case k9 => exact BindsTo.of_eq rfl); (case kB => exact rfl); (case kD => decide +kernel); (case c2 => exact rfl); (case c3 => exact rfl); (case c4 => exact rfl); k_whole; intro L' h' tk' cells' F' N' Y' l1; (try k_lt l1); k_cells Y'; (try simp only [List.cons_append, List.nil_append] at N'); (try dsimp only); (try k_fold))
  k_with_none
  k_with "execs cons" => k_fold
  k_with "eval Call" => k_fold
  k_with "storeName" => (k_here; k_dflt (first | (refine' storeI_L ?F ?N ?_ ?a ?b; (case F => k_asm); (case N => k_asm); (case a => rfl); (case b => rfl); k_whole; intro h' tk' t' F' N'; (try k_sweep); (try dsimp only); (try k_fold)) | (refine' storeB_L ?F ?N ?_ ?a ?b; (case F => k_asm); (case N => k_asm); (case a => rfl); (case b => rfl); k_whole; intro h' tk' t' F' N'; (try k_sweep); (try dsimp only); (try k_fold)) | (refine' storeG_L ?F ?N ?_ ?a ?b; (case F => k_asm); (case N => k_asm); (case a => rfl); (case b => rfl); k_whole; intro h' tk' F' N'; (try k_sweep); (try dsimp only); (try k_fold))))
  k_with "sub" => (exact fun q9 hq9 => List.Sublist.subset (by with_reducible (repeat (first | exact List.Sublist.refl _ | exact List.nil_sublist _ | refine List.Sublist.cons_cons _ ?_ | refine List.Sublist.cons _ ?_))) hq9)
  k_with "exec While Compare cons nil" => ((rename Fr _ _ _ _ => kF); (rename News _ _ _ _ => kN); (rename Obj.data _ = Data.cell (some (Value.int (1 + mr) _)) => kO); k_dflt (refine' cell_loop (L' + 1 + 1) [(L' + 1, _)] (fun c => 1 + mr ≤ c ∧ c ≤ 9 + mr) (fun c => (9 + mr - c).toNat) kF kN (List.Mem.head _) (fmc (List.Mem.tail _ (List.Mem.head _)) (List.forall_mem_nil _)) kO ⟨by omega, by omega⟩ ?_ ?hE; (case hE => first | passes_own | with_unfolding_all passes_own)); (clear kF kN kO); (intro cnt ctk oc kH kTk kInv kO kFr kNews; obtain ⟨k1, k2⟩ := kInv; (try dsimp only); (try k_fold)))
  k_with "binaryOp FloorDiv int int" => (k_here; (refine fdiv_pw 128 (by decide) (by decide) (by omega) ?_); intro _ _; (try dsimp only))
  k_with "CompSrc" => (k_here; k_dflt (refine LCg.CompSrc.range (by rfl) (by k_asm) (by k_asm) (by assumption) (small_one (by omega) (by omega) (by omega) (by omega)) (rangeSize_nat _ _) (by rw [sizeLine_eq]; omega) ?_; intro g'; (refine' kcf_range (numG n0 cnt) (fun k' t' I' oI' C' oC' D' m' ys' h' tk' E' hlo' hhi' hC' hx' F' N' off' ne' hMark' => ?_) ?_); (all_goals (try (simp only [LCg.Off3, and_true] at off'))); kcf_last))
  k_with "KswEnd" => ((rename Fr _ _ _ _ => kF); (rename News _ _ _ _ => kN); (rename Obj.data _ = Data.cell (some (Value.int (cnt + 1) _)) => kO1); k_dflt (exact cell_end (P := fun c => 1 + mr ≤ c ∧ c ≤ 9 + mr) (M := fun c => (9 + mr - c).toNat) kF kN (List.Mem.head _) (fmc (List.Mem.tail _ (List.Mem.head _)) (List.forall_mem_nil _)) kO1 (fun _ => rfl) ⟨by omega, by have := pw_lt (by assumption) h1; omega⟩ (by have := pw_lt (by assumption) h1; omega)))
  k_with "KCfEl" => (first | exact kcf_el (numG_lo (by assumption)) rfl rfl | exact kcf_el (numG_hi (by assumption)) rfl rfl)
  k_with "call type:bytes" => (k_here; (with_reducible show wpAny _ _ (call (Value.type "bytes") [Value.ref _]) _ _ _); (rename Fr _ _ _ _ => kF); (rename News _ _ _ _ => kN); k_dflt (refine' KBa.make_K (s := ⟨_, _, _, _, _⟩) kF kN rfl (News.isList kN (List.Mem.head _)) (by assumption) (numG_in _ _ _) ?hz ?_; (case hz => rw [List.length_map, rangeKs_length]; omega)); intro _ _ _ _ _ kbaIn; (try dsimp only))
  k_steps
  all_goals exact hret _ _ _ _ ⟨_, cnt, _, rfl, rfl, (by rw [show cnt.toNat = (cnt - 0).toNat by rw [Int.sub_zero]]; exact KBa.ints_make (numG_in n0 cnt _)), k1, k2, Int.not_le.mp (by assumption)⟩ (Fr.keep (by assumption)) (Led.nil)
end Mine
open PySem PySem.W PyProof.Rows PySem.Calls PySem.Spec
namespace Mine
set_option maxRecDepth 100000
/-- the law's own sizes are read back -/
theorem size_nat : ∀ (m : Nat) (n : Int) (r : List Int), 0 ≤ n → n < 128 ^ (m + 1) → sizeL ((List.range (m + 1)).map (fun a => n / 128 ^ a % 128 + if a < m then 128 else 0) ++ r) = some (n, m + 1)
  | 0, n, r, h0, h1 => by
    have h1' : n < 128 := by simpa using h1
    have e : n / 128 ^ 0 % 128 + (if 0 < 0 then 128 else 0 : Int) = n := by simp; omega
    show sizeL ((n / 128 ^ 0 % 128 + (if 0 < 0 then 128 else 0 : Int)) :: r) = some (n, 1)
    rw [e]
    unfold sizeL
    rw [if_pos h1']
  | m + 1, n, r, h0, h1 => by
    have p : (128 : Int) ^ (m + 1 + 1) = 128 ^ (m + 1) * 128 := Int.pow_succ ..
    have hd : n / 128 < 128 ^ (m + 1) := by
      rw [p] at h1
      exact Int.ediv_lt_of_lt_mul (by decide) h1
    have ih := size_nat m (n / 128) r (by omega) hd
    rw [List.range_succ_eq_map, List.map_cons, List.cons_append, List.map_map]
    have e : (fun a => n / 128 ^ a % 128 + (if a < m + 1 then 128 else 0 : Int)) ∘ Nat.succ = fun a => n / 128 / 128 ^ a % 128 + (if a < m then 128 else 0 : Int) := by
      funext a
      simp only [Function.comp, Nat.succ_eq_add_one, Nat.add_lt_add_iff_right]
      rw [Int.pow_succ, Int.mul_comm, ← Int.ediv_ediv_of_nonneg (by decide)]
    rw [e]
    simp only [Int.pow_zero, Int.ediv_one, Nat.zero_lt_succ, if_true]
    unfold sizeL
    rw [if_neg (by omega), ih]
    simp only [Option.map_some, Option.some.injEq, Prod.mk.injEq, and_true]
    omega
theorem size_num {n cnt : Int} (h0 : 0 ≤ n) (hc : 1 ≤ cnt) (h1 : n < 128 ^ cnt.toNat) (r : List Int) : sizeL ((rangeKs 0 cnt.toNat).map (numG n cnt) ++ r) = some (n, cnt.toNat) := by
  obtain ⟨m, hm⟩ : ∃ m, cnt.toNat = m + 1 := ⟨cnt.toNat - 1, by omega⟩
  have q := size_nat m n r h0 (hm ▸ h1)
  rw [hm]
  rw [← q]
  congr 2
  simp only [rangeKs, List.map_map]
  apply List.map_congr_left
  intro a ha
  have := List.mem_range.mp ha
  simp only [Function.comp, numG, Int.zero_add, Int.toNat_natCast]
  rw [Int.fdiv_eq_ediv_of_nonneg _ (Int.le_of_lt (Int.pow_pos (by decide))), Int.fmod_eq_emod_of_nonneg _ (by decide)]
  congr 1
  by_cases h : a < m
  · rw [if_pos h, if_pos (by omega)]
  · rw [if_neg h, if_neg (by omega)]
/-- the bits of a copy's first octet -/
noncomputable def selB (b : List Bool) : List Int := (rangeKs 0 7).filter fun k => b.getD k.toNat false
theorem bits_sel : ∀ b0 b1 b2 b3 b4 b5 b6 : Bool, bitsL (128 + ((selB [b0, b1, b2, b3, b4, b5, b6]).map fun k => 2 ^ k.toNat).sum) = selB [b0, b1, b2, b3, b4, b5, b6] := by decide +kernel
theorem shown_sel (p : Int → Bool) : (rangeKs 0 7).filter p = selB [p 0, p 1, p 2, p 3, p 4, p 5, p 6] := by
  unfold selB
  apply List.filter_congr
  intro k hk
  have := mem_rangeKs hk
  obtain ⟨n, rfl⟩ := Int.eq_ofNat_of_zero_le this.1
  match n, this.2 with
  | 0, _ | 1, _ | 2, _ | 3, _ | 4, _ | 5, _ | 6, _ => rfl
  | n + 7, h => omega
theorem bits_shown (full : Bool) (ts : List Int) : bitsL (128 + ((shownL full ts).map fun k => 2 ^ k.toNat).sum) = shownL full ts := by
  unfold shownL
  rw [shown_sel]
  exact bits_sel _ _ _ _ _ _ _
theorem enum_vals (p : Int → Bool) (g h : Int → Int) (r : List Int) : ∀ (ks : List Int) (n : Nat) (q : List Int), q.drop n = ks.map h ++ r → enumSel p (fun n k => q.getD n 0 * g k) n ks = (ks.filter p).map fun k => h k * g k
  | [], _, _, _ => rfl
  | k :: ks, n, q, e => by
    have e1 : q.getD n 0 = h k := by
      have := congrArg List.head? e
      rw [List.head?_drop] at this
      rw [List.getD_eq_getElem?_getD, this]; rfl
    have e2 : q.drop (n + 1) = ks.map h ++ r := by rw [← List.tail_drop, e]; rfl
    unfold enumSel
    rw [enum_vals p g h r ks (n + 1) q e2, List.filter_cons, e1]
    split <;> rfl
theorem sum_skip (sh : Int → Bool) (f : Int → Int) (p : Int → Bool) : ∀ ks : List Int, (∀ k ∈ ks, sh k = false → f k = 0) → (((ks.filter sh).filter p).map f).sum = ((ks.filter p).map f).sum
  | [], _ => rfl
  | k :: ks, h => by
    have ih := sum_skip sh f p ks fun j hj => h j (.tail _ hj)
    rw [List.filter_cons, List.filter_cons]
    cases e : sh k with
    | true =>
      rw [if_pos rfl, List.filter_cons]
      split
      · rw [List.map_cons, List.sum_cons, List.map_cons, List.sum_cons, ih]
      · exact ih
    | false =>
      rw [if_neg (by decide), ih]
      split
      · rw [List.map_cons, List.sum_cons, h k (.head _) e]; omega
      · rfl
theorem shown_zero {full : Bool} {st sz k : Int} (h : shownP full (toldL st sz) k = false) : (toldL st sz).getD k.toNat 0 = 0 := by
  unfold shownP at h
  have h2 := (Bool.or_eq_false_iff.mp h).2
  have h3 := of_decide_eq_false h2
  have := getD_in (toldL_in st sz) k.toNat
  omega
theorem sum_four {st sz : Int} (h0 : 0 ≤ st) (h1 : st < 4294967296) : (((rangeKs 0 7).filter fun k => decide (k < 4)).map fun k => (toldL st sz).getD k.toNat 0 * 256 ^ k.toNat).sum = st := by
  have e : ((rangeKs 0 7).filter fun k => decide (k < 4)) = [0, 1, 2, 3] := by decide
  rw [e]
  show octG st 0 * 256 ^ 0 + (octG st 1 * 256 ^ 1 + (octG st 2 * 256 ^ 2 + (octG st 3 * 256 ^ 3 + 0))) = st
  unfold octG
  simp only [Int.fdiv_eq_ediv_of_nonneg _ (show (0 : Int) ≤ 256 ^ (Int.toNat 0) by decide), Int.fdiv_eq_ediv_of_nonneg _ (show (0 : Int) ≤ 256 ^ (Int.toNat 1) by decide), Int.fdiv_eq_ediv_of_nonneg _ (show (0 : Int) ≤ 256 ^ (Int.toNat 2) by decide), Int.fdiv_eq_ediv_of_nonneg _ (show (0 : Int) ≤ 256 ^ (Int.toNat 3) by decide), Int.fmod_eq_emod_of_nonneg _ (show (0 : Int) ≤ 256 by decide)]
  show st / 1 % 256 * 1 + (st / 256 % 256 * 256 + (st / 65536 % 256 * 65536 + (st / 16777216 % 256 * 16777216 + 0))) = st
  omega
theorem sum_three {st sz : Int} (h0 : 0 ≤ sz) (h1 : sz < 16777216) : (((rangeKs 0 7).filter fun k => decide (3 < k)).map fun k => (toldL st sz).getD k.toNat 0 * 256 ^ (k - 4).toNat).sum = sz := by
  have e : ((rangeKs 0 7).filter fun k => decide (3 < k)) = [4, 5, 6] := by decide
  rw [e]
  show octG sz 0 * 256 ^ 0 + (octG sz 1 * 256 ^ 1 + (octG sz 2 * 256 ^ 2 + 0)) = sz
  unfold octG
  simp only [Int.fdiv_eq_ediv_of_nonneg _ (show (0 : Int) ≤ 256 ^ (Int.toNat 0) by decide), Int.fdiv_eq_ediv_of_nonneg _ (show (0 : Int) ≤ 256 ^ (Int.toNat 1) by decide), Int.fdiv_eq_ediv_of_nonneg _ (show (0 : Int) ≤ 256 ^ (Int.toNat 2) by decide), Int.fmod_eq_emod_of_nonneg _ (show (0 : Int) ≤ 256 by decide)]
  show sz / 1 % 256 * 1 + (sz / 256 % 256 * 256 + (sz / 65536 % 256 * 65536 + 0)) = sz
  omega
/-- a copy of the law's is read back -/
theorem copy_read {st sz : Int} {full : Bool} (h0 : 0 ≤ st) (h1 : st < 4294967296) (h2 : 0 ≤ sz) (h3 : sz < 16777216) (r : List Int) : ∃ c q, copyL st sz full ++ r = c :: q ∧ 128 ≤ c ∧ ¬ q.length < (bitsL c).length ∧ startL c q = st ∧ sizL c q = sz ∧ q.drop (bitsL c).length = r := by
  refine ⟨_, (shownL full (toldL st sz)).map (fun k => (toldL st sz).getD k.toNat 0) ++ r, rfl, ?_, ?_, ?_, ?_, ?_⟩
  · have := (sum_sift (shownP full (toldL st sz)) (fun k => 2 ^ k.toNat) (fun a => Int.le_of_lt (Int.pow_pos (by decide))) (rangeKs 0 7)).1
    show 128 ≤ 128 + ((shownL full (toldL st sz)).map fun k => 2 ^ k.toNat).sum
    unfold shownL
    omega
  · rw [bits_shown, List.length_append, List.length_map]; omega
  · unfold startL
    rw [bits_shown, enum_vals _ _ _ r _ 0 _ (by rw [List.drop_zero])]
    unfold shownL
    rw [sum_skip _ _ _ _ fun k _ hk => by rw [shown_zero hk, Int.zero_mul]]
    exact sum_four h0 h1
  · unfold sizL
    rw [bits_shown, enum_vals _ _ _ r _ 0 _ (by rw [List.drop_zero])]
    unfold shownL
    rw [sum_skip _ _ _ _ fun k _ hk => by rw [shown_zero hk, Int.zero_mul]]
    exact sum_three h2 h3
  · rw [bits_shown, List.drop_left' (by rw [List.length_map])]
/-- a row of the law's is read back -/
theorem row_read {bk o p : List Int} (hb : bk.length ≤ 131079) (h : RowOk bk o p) (r : List Int) {rem : Int} {acc : List Int} (hr : (p.length : Int) ≤ rem) : readOps bk (o ++ r) rem acc = readOps bk r (rem - p.length) (acc ++ p) := by
  rcases h with ⟨rfl, h1, h2, _⟩ | ⟨st, sz, sz', full, rfl, e, rfl, h0, h1, h2, h3⟩
  · show readOps bk ((p.length : Int) :: (p ++ r)) rem acc = _
    rw [ops_insert (by omega) (by omega) hr (by rw [List.length_append]; omega), Int.toNat_natCast, List.drop_left, List.take_left]
  · have hp : 1 ≤ sz' := by split at e <;> omega
    have hl := cut_len bk st (st + sz') h0 (by omega) h3
    obtain ⟨c, q, e1, e2, e3, e4, e5, e6⟩ := copy_read (full := full) h0 (by omega) h1 h2 r
    obtain ⟨q1, f1, f2⟩ := fields_some e3
    have ez : copySz (sizL c q) = sz' := by rw [e5, e]; rfl
    rw [e1, ops_copy e2 f1 f2 (by rw [e4, ez]; exact h3) (by rw [ez]; omega), e4, ez, e6, hl]
    congr 1
    omega
end Mine
open PySem PySem.W PyProof.Rows PySem.Calls PySem.Spec
namespace Mine
set_option maxRecDepth 100000
inductive RowsOkL (bk : List Int) : List (List Int) → List (List Int) → Prop
  | nil : RowsOkL bk [] []
  | cons {o p : List Int} {os ps : List (List Int)} : RowOk bk o p → RowsOkL bk os ps → RowsOkL bk (o :: os) (p :: ps)
theorem rows_read {bk : List Int} (hb : bk.length ≤ 131079) {os ps : List (List Int)} (h : RowsOkL bk os ps) : ∀ {rem : Int} {acc : List Int}, rem = ps.flatten.length → readOps bk os.flatten rem acc = some (acc ++ ps.flatten) := by
  induction h with
  | nil =>
    intro rem acc e
    have : rem = 0 := e
    show readOps bk [] rem acc = _
    rw [ops_nil, if_pos this]
    simp
  | @cons o p os ps h1 _ ih =>
    intro rem acc e
    rw [List.flatten_cons, List.length_append] at e
    rw [List.flatten_cons, row_read hb h1 os.flatten (by omega), ih (by omega), List.flatten_cons, List.append_assoc]
noncomputable abbrev numK (n cnt : Int) : List Int := (rangeKs 0 cnt.toNat).map (numG n cnt)
theorem numK_len (n cnt : Int) : (numK n cnt).length = cnt.toNat := by rw [List.length_map, rangeKs_length]
theorem delta_read {bk : List Int} (hb : bk.length ≤ 131079) {os ps : List (List Int)} {c1 c2 : Int} (h : RowsOkL bk os ps) (h1 : 1 ≤ c1) (h2 : 1 ≤ c2) (e1 : (bk.length : Int) < 128 ^ c1.toNat) (e2 : (ps.flatten.length : Int) < 128 ^ c2.toNat) :
    readDelta bk (numK bk.length c1 ++ (numK ps.flatten.length c2 ++ os.flatten)) = some ps.flatten := by
  have s1 := size_num (by omega) h1 e1 (numK ps.flatten.length c2 ++ os.flatten)
  have d1 : (numK bk.length c1 ++ (numK ps.flatten.length c2 ++ os.flatten)).drop c1.toNat = numK ps.flatten.length c2 ++ os.flatten := List.drop_left' (numK_len _ _)
  have s2 := size_num (by omega) h2 e2 os.flatten
  have d2 : (numK ps.flatten.length c2 ++ os.flatten).drop c2.toNat = os.flatten := List.drop_left' (numK_len _ _)
  rw [delta_of s1 (by rw [d1]; exact s2), if_pos rfl, d1, d2, rows_read hb h rfl, List.nil_append]
theorem delta_other {ob : List Int} {n : Int} {r : List Int} {c1 : Int} (h0 : 0 ≤ n) (h1 : 1 ≤ c1) (e1 : n < 128 ^ c1.toNat) (hne : n ≠ ob.length) : readDelta ob (numK n c1 ++ r) = none := by
  have s1 := size_num h0 h1 e1 r
  unfold readDelta
  rw [s1]
  dsimp only
  split
  · rfl
  · rw [if_neg hne]
/-- the weight of rows -/
noncomputable def lenR (n : Nat) : List Row → Nat
  | [] => 0
  | .copy _ _ :: rs => n + lenR n rs
  | .ins ks :: rs => ks.length + lenR n rs
theorem opsR_len {bk : List Int} : ∀ {rs : List Row} {rem : Int} {acc t : List Int}, opsR bk rs rem acc = some t → t.length ≤ acc.length + lenR bk.length rs
  | [], rem, acc, t, h => by
    unfold opsR at h
    split at h
    · cases h; simp [lenR]
    · cases h
  | .copy st sz :: rs, rem, acc, t, h => by
    unfold opsR at h
    split at h
    · split at h
      · cases h; omega
      · cases h
    · have := opsR_len h
      have := cut_len_le bk st (st + sz)
      rw [List.length_append] at *
      unfold lenR
      omega
  | .ins ks :: rs, rem, acc, t, h => by
    unfold opsR at h
    split at h
    · cases h
    · have := opsR_len h
      rw [List.length_append] at *
      unfold lenR
      omega
theorem hiN_cons (c : Int) (q : List Int) : hiN (c :: q) = hiN q + if 128 ≤ c then 1 else 0 := by
  unfold hiN
  rw [List.countP_cons]
  by_cases h : 128 ≤ c <;> simp [h]
theorem rows_weight (b : Nat) : ∀ (n : Nat) {r : List Int} {rs : List Row}, r.length < n → readRows r = some rs → lenR b rs ≤ b * hiN r + r.length
  | 0, _, _, h, _ => absurd h (Nat.not_lt_zero _)
  | n + 1, [], rs, _, h => by cases h; exact Nat.zero_le _
  | n + 1, c :: q, rs, hn, h => by
    simp only [List.length_cons] at hn
    rw [hiN_cons, List.length_cons]
    by_cases hc : 128 ≤ c
    · rw [if_pos hc]
      by_cases hl : q.length < (bitsL c).length
      · rw [rows_short hc hl] at h; cases h
      · rw [rows_copy hc hl, Option.map_eq_some_iff] at h
        obtain ⟨rs', e, rfl⟩ := h
        have ih := rows_weight b n (by rw [List.length_drop]; omega) e
        have m := Nat.mul_le_mul_left b (hiN_drop q (bitsL c).length)
        rw [List.length_drop] at ih
        unfold lenR
        rw [Nat.mul_add, Nat.mul_one]
        omega
    · rw [if_neg hc]
      by_cases hb : c = 0 ∨ (q.length : Int) < c
      · rw [rows_bad hc hb] at h; cases h
      · rw [rows_ins hc (fun e => hb (.inl e)) (fun e => hb (.inr e)), Option.map_eq_some_iff] at h
        obtain ⟨rs', e, rfl⟩ := h
        have ih := rows_weight b n (by rw [List.length_drop]; omega) e
        have m := Nat.mul_le_mul_left b (hiN_drop q c.toNat)
        rw [List.length_drop] at ih
        unfold lenR
        rw [List.length_take, Nat.add_zero]
        omega
theorem delta_big {bk dk t : List Int} (ho : Oct dk) (hb : bk.length ≤ 131080) (hd : dk.length ≤ 1800) (hh : hiN dk ≤ 120) (h : readDelta bk dk = some t) : t.length ≤ 16777216 := by
  cases e1 : sizeL dk with
  | none => unfold readDelta at h; rw [e1] at h; cases h
  | some p =>
    obtain ⟨s1, k1⟩ := p
    cases e2 : sizeL (dk.drop k1) with
    | none => unfold readDelta at h; rw [e1] at h; dsimp only at h; rw [e2] at h; cases h
    | some p2 =>
      obtain ⟨s2, k2⟩ := p2
      rw [delta_of e1 e2] at h
      split at h
      · rw [ops_rows bk _ _ _ _ (Nat.lt_succ_self _) ((ho.drop _).drop _)] at h
        cases e3 : readRows ((dk.drop k1).drop k2) with
        | none => rw [e3] at h; cases h
        | some rs =>
          rw [e3] at h
          have l1 := opsR_len h
          have l2 := rows_weight bk.length _ (Nat.lt_succ_self _) e3
          have l3 : hiN ((dk.drop k1).drop k2) ≤ 120 := Nat.le_trans (hiN_drop _ _) (Nat.le_trans (hiN_drop _ _) hh)
          have l4 := Nat.mul_le_mul hb l3
          rw [List.length_drop, List.length_drop] at l2
          rw [List.length_nil] at l1
          omega
      · cases h
end Mine
open PySem PySem.W PyProof.Rows PySem.Calls PySem.Spec
namespace Mine
set_option maxRecDepth 100000
section
variable {prog : Program} {w : World} {A : Around} {h₀ : Heap} {L : Addr} {m : Str → Option Value} {env : Env} {elt : PySem.Expr} {x : Str} {scope : Scope} {cl : List (Str × Addr)} {s : Shared} {S : List (Addr × Obj) → Prop} {Fin : List Value → List (Addr × Obj) → Prop} {news : List (Addr × Obj)}
/-- what an element's evaluation leaves, where the ledger may grow -/
noncomputable def RowEndG (h₀ : Heap) (L : Addr) (m : Str → Option Value) (I : Addr) (oI : Obj) (C : Addr) (oC : Obj) (D : Addr) (oD : Obj) (led : List (Addr × Obj)) (P : Value → List (Addr × Obj) → Prop) (s : Shared) (y : Value) (s' : Shared) : Prop :=
  ∃ new h tk, P y new ∧ s' = { s with heap := h, toks := tk } ∧ Fr h₀ L h m ∧ News h₀ L h ((I, oI) :: (C, oC) :: (D, oD) :: (new ++ led)) ∧ LCg.Off3 I C D (new ++ led)
/-- a comprehension whose elements are told by G; the ledger grows by what T tells -/
theorem vals_restG {n : Nat} {P : Nat → Value → Prop} (G : Nat → Value → List (Addr × Obj) → Prop) (hG : ∀ i y new more, G i y new → G i y (more ++ new)) (hG2 : ∀ i y new more, G i y new → G i y (new ++ more))
    (hS : ∀ new, S (new ++ news))
    (turn : ∀ i v I oI C oC D m₂ ys new h tk (E' : Value → Shared → Prop), i < n → P i v → LCg.NsObj oC m₂ → m₂ x = some v → Fr h₀ L h m → News h₀ L h ((I, oI) :: (C, oC) :: (D, LCg.lst ys) :: (new ++ news)) → LCg.Off3 I C D (new ++ news) → ((@Ne Nat I C) ∧ (@Ne Nat I D) ∧ (@Ne Nat C D)) →
      wpAny (model prog w) A (eval elt (compEnvC scope cl C env)) (RowEndG h₀ L m I oI C oC D (LCg.lst ys) (new ++ news) (G i) { s with heap := h, toks := tk }) E' { s with heap := h, toks := tk })
    (fin : ∀ ys new, ys.length = n → (∀ i y, ys[i]? = some y → G i y new) → Fin ys (new ++ news)) : LCg.CompRest prog w A h₀ L m env elt x scope cl s S P Fin n 0 [] news := by
  have key : ∀ (j i : Nat) (ys : List Value) (new : List (Addr × Obj)), i + j = n → ys.length = i → (∀ k y, ys[k]? = some y → G k y new) → LCg.CompRest prog w A h₀ L m env elt x scope cl s S P Fin j i ys (new ++ news) := by
    intro j
    induction j with
    | zero =>
      intro i ys new hi hl hy
      exact LCg.CompRest.zero (fin ys new (by omega) hy)
    | succ j ih =>
      intro i ys new hi hl hy
      refine LCg.CompRest.succ ?_
      intro v I oI C oC D m₂ h tk E' hv hC hx F N off ne
      refine wpAny_mono (turn i v I oI C oC D m₂ ys new h tk E' (by omega) hv hC hx F N off ne) (fun y s₂ hq => ?_) fun _ _ e => e
      obtain ⟨new', h', tk', hg, rfl, F', N', off'⟩ := hq
      rw [← List.append_assoc] at N' off'
      refine ⟨h', tk', _, rfl, F', N', off', hS _, ih (i + 1) _ (new' ++ new) (by omega) (by simp [hl]) fun k y hk => ?_⟩
      rw [List.getElem?_append] at hk
      split at hk
      · exact hG _ _ _ _ (hy k y hk)
      · rename_i hlt
        have e : k = i := by
          have := List.getElem?_eq_some_iff.mp hk
          obtain ⟨h9, _⟩ := this
          simp at h9; omega
        subst e
        rw [hl, Nat.sub_self] at hk
        cases hk
        exact hG2 _ _ _ _ hg
  exact key n 0 [] [] (Nat.zero_add _) rfl (fun k y h => by cases h)
/-- a comprehension whose elements are told by G; the ledger stands -/
theorem vals_rest {n : Nat} {P : Nat → Value → Prop} (G : Nat → Value → Prop) (hS : S news)
    (turn : ∀ i v I oI C oC D m₂ ys h tk (E' : Value → Shared → Prop), i < n → P i v → LCg.NsObj oC m₂ → m₂ x = some v → Fr h₀ L h m → News h₀ L h ((I, oI) :: (C, oC) :: (D, LCg.lst ys) :: news) →
      wpAny (model prog w) A (eval elt (compEnvC scope cl C env)) (RowEnd h₀ L m ((I, oI) :: (C, oC) :: (D, LCg.lst ys) :: news) (G i) { s with heap := h, toks := tk }) E' { s with heap := h, toks := tk })
    (fin : ∀ ys, ys.length = n → (∀ i y, ys[i]? = some y → G i y) → Fin ys news) : LCg.CompRest prog w A h₀ L m env elt x scope cl s S P Fin n 0 [] news := by
  have key : ∀ (j i : Nat) (ys : List Value), i + j = n → ys.length = i → (∀ k y, ys[k]? = some y → G k y) → LCg.CompRest prog w A h₀ L m env elt x scope cl s S P Fin j i ys news := by
    intro j
    induction j with
    | zero =>
      intro i ys hi hl hy
      exact LCg.CompRest.zero (fin ys (by omega) hy)
    | succ j ih =>
      intro i ys hi hl hy
      refine LCg.CompRest.succ ?_
      intro v I oI C oC D m₂ h tk E' hv hC hx F N off ne
      refine wpAny_mono (turn i v I oI C oC D m₂ ys h tk E' (by omega) hv hC hx F N) (fun y s₂ hq => ?_) fun _ _ e => e
      obtain ⟨hg, h', tk', rfl, F', N'⟩ := hq
      refine ⟨h', tk', news, rfl, F', N', off, hS, ih (i + 1) _ (by omega) (by simp [hl]) fun k y hk => ?_⟩
      rw [List.getElem?_append] at hk
      split at hk
      · exact hy k y hk
      · rename_i hlt
        have e : k = i := by
          have := List.getElem?_eq_some_iff.mp hk
          obtain ⟨h9, _⟩ := this
          simp at h9; omega
        subst e
        rw [hl, Nat.sub_self] at hk
        cases hk
        exact hg
  exact key n 0 [] (Nat.zero_add _) rfl (fun k y h => by cases h)
end
theorem BytesAre.at {vs : List Value} {cs : List (List Int)} (h : BytesAre vs cs) : ∀ (i : Nat) (v : Value), vs[i]? = some v → ∃ b t c, v = .bytes b t ∧ KBw.bInts b = c ∧ cs[i]? = some c := by
  induction h with
  | nil => intro i v e; cases e
  | @cons b t c vs cs e _ ih =>
    intro i v hv
    cases i with
    | zero => cases hv; exact ⟨b, t, c, rfl, e, rfl⟩
    | succ i => exact ih i v hv
theorem BytesAre.of : ∀ {vs : List Value} {cs : List (List Int)}, vs.length = cs.length → (∀ (i : Nat) (v : Value), vs[i]? = some v → ∃ b t, v = .bytes b t ∧ cs[i]? = some (KBw.bInts b)) → BytesAre vs cs
  | [], [], _, _ => .nil
  | [], _ :: _, h, _ => by simp at h
  | _ :: _, [], h, _ => by simp at h
  | v :: vs, c :: cs, hl, h => by
    obtain ⟨b, t, rfl, e⟩ := h 0 v rfl
    cases e
    exact .cons rfl (BytesAre.of (by simpa using hl) fun i v hv => h (i + 1) v hv)
theorem BytesAre.take {vs : List Value} {cs : List (List Int)} (h : BytesAre vs cs) : ∀ n : Nat, BytesAre (vs.take n) (cs.take n) := by
  induction h with
  | nil => intro n; simp; exact .nil
  | cons e _ ih =>
    intro n
    cases n with
    | zero => exact .nil
    | succ n => exact .cons e (ih n)
theorem BytesAre.drop {vs : List Value} {cs : List (List Int)} (h : BytesAre vs cs) : ∀ n : Nat, BytesAre (vs.drop n) (cs.drop n) := by
  induction h with
  | nil => intro n; simp; exact .nil
  | cons e h' ih =>
    intro n
    cases n with
    | zero => exact .cons e h'
    | succ n => exact ih n
end Mine
open PySem PySem.W PyProof.Rows PySem.Calls PySem.Spec
namespace Mine
set_option maxRecDepth 100000
/-- at most n octets, at most h of them from 128 on -/
noncomputable def Sm (ks : List Int) (n h : Nat) : Prop := ks.length ≤ n ∧ hiN ks ≤ h
theorem Sm.app {x y : List Int} {n h n' h' : Nat} (a : Sm x n h) (b : Sm y n' h') : Sm (x ++ y) (n + n') (h + h') := by
  refine ⟨?_, ?_⟩
  · rw [List.length_append]; exact Nat.add_le_add a.1 b.1
  · rw [hiN_app]; exact Nat.add_le_add a.2 b.2
theorem Sm.take {x : List Int} {n h : Nat} (a : Sm x n h) (k : Nat) : Sm (x.take k) n h := ⟨Nat.le_trans (List.length_take_le' k x) a.1, Nat.le_trans (hiN_take _ _) a.2⟩
theorem Sm.drop {x : List Int} {n h : Nat} (a : Sm x n h) (k : Nat) : Sm (x.drop k) n h := ⟨by rw [List.length_drop]; exact Nat.le_trans (Nat.sub_le _ _) a.1, Nat.le_trans (hiN_drop _ _) a.2⟩
theorem Sm.of_len {x : List Int} {n : Nat} (a : x.length ≤ n) : Sm x n n := ⟨a, Nat.le_trans (hiN_len _) a⟩
theorem Sm.flat : ∀ {os : List (List Int)} (n : Nat), os.length ≤ n → (∀ o ∈ os, Sm o 128 8) → Sm os.flatten (n * 128) (n * 8)
  | [], n, _, _ => ⟨Nat.zero_le _, Nat.zero_le _⟩
  | o :: os, 0, h, _ => by simp at h
  | o :: os, n + 1, h, H => by
    have a := (H o (.head _)).app (Sm.flat n (by simpa using h) fun o' ho => H o' (.tail _ ho))
    rw [List.flatten_cons]
    exact ⟨by have := a.1; omega, by have := a.2; omega⟩
noncomputable def SmB (b : Array UInt8) (ks : List Int) (n h : Nat) : Prop := KBw.bInts b = ks ∧ Sm ks n h
theorem SmB.of_len {b : Array UInt8} {ks : List Int} {n : Nat} (e : KBw.bInts b = ks) (h : ks.length ≤ n) : SmB b ks n n := ⟨e, Sm.of_len h⟩
section
variable {prog : Program} {w : World} {A : Around} {E : Value → Shared → Prop} {s : Shared}
theorem add_sm {b c : Array UInt8} {ks ls : List Int} {n h n' h' : Nat} {t u : Tok} {Q : Value → Shared → Prop} (hb : SmB b ks n h) (hc : SmB c ls n' h') (hz : n + n' ≤ 16777216)
    (H : ∀ d t' k, SmB d (ks ++ ls) (n + n') (h + h') → Q (.bytes d t') { s with toks := k }) : wpAny (model prog w) A (binaryOp .Add (.bytes b t) (.bytes c u)) Q E s :=
  KBa.add_K hb.1 hc.1 (Nat.le_trans (Nat.add_le_add hb.2.1 hc.2.1) hz) fun t' k e => H _ t' k ⟨e, hb.2.app hc.2⟩
end
theorem RowOk.sm {bk o p : List Int} (h : RowOk bk o p) : Sm o 128 8 := by
  rcases h with ⟨rfl, h1, h2, h3⟩ | ⟨st, sz, sz', full, rfl, _⟩
  · refine ⟨by rw [List.length_append, List.length_singleton]; omega, ?_⟩
    rw [hiN_app, hiN_low (a := [(p.length : Int)]) (fun k hk => by rw [List.mem_singleton.mp hk]; omega)]
    omega
  · have := copyL_len st sz full
    exact ⟨by omega, Nat.le_trans (hiN_len _) this⟩
theorem RowsOkL.sm {bk : List Int} {os ps : List (List Int)} (h : RowsOkL bk os ps) : ∀ o ∈ os, Sm o 128 8 := by
  induction h with
  | nil => exact fun _ h => nomatch h
  | cons h1 _ ih => exact fmc (h1.sm) ih
theorem RowsOkL.length {bk : List Int} {os ps : List (List Int)} (h : RowsOkL bk os ps) : ps.length = os.length := by
  induction h with
  | nil => rfl
  | cons h1 _ ih => simp [ih]
theorem RowOk.piece {bk o p : List Int} (h : RowOk bk o p) : p.length ≤ 127 + bk.length := by
  rcases h with ⟨rfl, h1, h2, h3⟩ | ⟨st, sz, sz', full, rfl, _, rfl, _⟩
  · omega
  · have := cut_len_le bk st (st + sz'); omega
theorem RowsOkL.pieces {bk : List Int} {os ps : List (List Int)} (h : RowsOkL bk os ps) : ∀ p ∈ ps, p.length ≤ 127 + bk.length := by
  induction h with
  | nil => exact fun _ h => nomatch h
  | cons h1 _ ih => exact fmc (h1.piece) ih
theorem flat_le {ps : List (List Int)} {m : Nat} (n : Nat) (hl : ps.length ≤ n) (h : ∀ p ∈ ps, p.length ≤ m) : ps.flatten.length ≤ n * m := by
  induction ps generalizing n with
  | nil => exact Nat.zero_le _
  | cons p ps ih =>
    cases n with
    | zero => simp at hl
    | succ n =>
      have a := ih n (by simpa using hl) fun q hq => h q (.tail _ hq)
      have b := h p (.head _)
      rw [List.flatten_cons, List.length_append, Nat.succ_mul]
      omega
theorem rows_pre {bk : List Int} (hb : bk.length ≤ 131079) {os ps : List (List Int)} (h : RowsOkL bk os ps) (r : List Int) : ∀ {rem : Int} {acc : List Int}, (ps.flatten.length : Int) ≤ rem → ∃ rem' acc', readOps bk (os.flatten ++ r) rem acc = readOps bk r rem' acc' := by
  induction h with
  | nil => intro rem acc _; exact ⟨_, _, rfl⟩
  | @cons o p os ps h1 _ ih =>
    intro rem acc e
    rw [List.flatten_cons, List.length_append] at e
    rw [List.flatten_cons, List.append_assoc, row_read hb h1 _ (by omega)]
    exact ih (by omega)
/-- octets put in that are not all there: refused -/
theorem delta_short {bk : List Int} (hb : bk.length ≤ 131079) {os ps : List (List Int)} {c1 c2 m td : Int} {tx : List Int} (h : RowsOkL bk os ps) (h1 : 1 ≤ c1) (h2 : 1 ≤ c2) (e1 : (bk.length : Int) < 128 ^ c1.toNat) (hm : (ps.flatten.length : Int) ≤ m) (e2 : m < 128 ^ c2.toNat) (ht : td ≤ 127) (htx : (tx.length : Int) < td) :
    readDelta bk (numK bk.length c1 ++ (numK m c2 ++ (os.flatten ++ td :: tx))) = none := by
  have s1 := size_num (by omega) h1 e1 (numK m c2 ++ (os.flatten ++ td :: tx))
  have d1 : (numK bk.length c1 ++ (numK m c2 ++ (os.flatten ++ td :: tx))).drop c1.toNat = numK m c2 ++ (os.flatten ++ td :: tx) := List.drop_left' (numK_len _ _)
  have s2 := size_num (by omega) h2 e2 (os.flatten ++ td :: tx)
  have d2 : (numK m c2 ++ (os.flatten ++ td :: tx)).drop c2.toNat = os.flatten ++ td :: tx := List.drop_left' (numK_len _ _)
  rw [delta_of s1 (by rw [d1]; exact s2), if_pos rfl, d1, d2]
  obtain ⟨rem', acc', e⟩ := rows_pre hb h (td :: tx) (acc := []) hm
  rw [e, ops_long (by omega) (.inr htx)]
/-- what is asked of the octets that `_law_spoilt` yields -/
noncomputable def SpoOk (bk : List Int) (c : Array UInt8) : Prop := (KBw.bInts c).length ≤ 1800 ∧ (hiN (KBw.bInts c) ≤ 120 ∨ readDelta bk (KBw.bInts c) = none)
theorem SpoOk.of {bk ks : List Int} {c : Array UInt8} {n h : Nat} (a : SmB c ks n h) (x : n ≤ 1800) (y : h ≤ 120) : SpoOk bk c := by
  obtain ⟨rfl, a1, a2⟩ := a
  exact ⟨Nat.le_trans a1 x, .inl (Nat.le_trans a2 y)⟩
theorem SpoOk.none {bk ks : List Int} {c : Array UInt8} {n h : Nat} (a : SmB c ks n h) (x : n ≤ 1800) (y : readDelta bk ks = none) : SpoOk bk c := by
  obtain ⟨rfl, a1, a2⟩ := a
  exact ⟨Nat.le_trans a1 x, .inr y⟩
theorem oct_ints (c : Array UInt8) : Oct (KBw.bInts c) := oct_of rfl
theorem SpoOk.big {bk : List Int} {c : Array UInt8} (hb : bk.length ≤ 131080) (h : SpoOk bk c) : ∀ t, readDelta bk (KBw.bInts c) = some t → t.length ≤ 16777216 := fun t e => by
  rcases h.2 with h2 | h2
  · exact delta_big (oct_ints c) hb h.1 h2 e
  · rw [h2] at e; cases e
end Mine
open PySem PySem.W PyProof.Rows PySem.Calls PySem.Spec
namespace Mine
set_option maxRecDepth 100000
noncomputable def TabAny (n : List (Addr × Obj)) : Prop := n = [(42, tabObj #[])] ∨ Tab n
theorem ints_toList {a b : Array UInt8} (h : KBw.bInts a = KBw.bInts b) : (a.toList == b.toList) = true := by rw [ints_inj h]; simp
section
variable {prog : Program} {w : World} {A : Around} {E : Value → Shared → Prop} {s : Shared} {g : Heap} {L : Addr} {news : List (Addr × Obj)}
theorem due_has {lo : Addr} {us : List Value} {nn : Nat} {o : Option (List Int)} {v : Value} {Q : Value → Shared → Prop} (N : News g L s.heap news) (ha : (lo, listOf (List.toArray us) nn) ∈ news) (hD : DueOk o us) (hv : OutV o v) (h : Q (.bool false) s) :
    wpAny (model prog w) A (compareOp .NotIn v (.ref lo)) Q E s := by
  refine SeqRoads2.notIn_list (outEq v) (fun y hy => ?_) (N _ ha).1 ?_
  · obtain ⟨o', ho⟩ := hD.1 y (List.mem_toArray.mp hy)
    exact outEq_gives hv ho
  · obtain ⟨y, hy, ho⟩ := hD.2
    have e : (List.toArray us).any (outEq v) = true := by
      rw [List.any_toArray]
      exact List.any_eq_true.mpr ⟨y, hy, outEq_self hv ho⟩
    rw [e]; exact h
theorem ne_same {b : Array UInt8} {t u : Tok} {Q : Value → Shared → Prop} (h : Q (.bool false) s) : wpAny (model prog w) A (compareOp .NotEq (.bytes b t) (.bytes b u)) Q E s :=
  ne_bytes (by simpa using h)
theorem bytes_same {vs us : List Value} {cs : List (List Int)} (hv : BytesAre vs cs) (hw : BytesAre us cs) (A : Around) (s : Shared) : ∀ j (h1 : j < vs.toArray.size) (h2 : j < us.toArray.size), SeqAt.EqAt A s vs.toArray[j] us.toArray[j] ((fun _ => true) j) := fun j h1 h2 => by
  have h1' : j < vs.length := by simpa using h1
  have h2' : j < us.length := by simpa using h2
  obtain ⟨b, t, c, e, eb, ec⟩ := hv.at j vs[j] (List.getElem?_eq_getElem h1')
  obtain ⟨b', t', c', e', eb', ec'⟩ := hw.at j us[j] (List.getElem?_eq_getElem h2')
  rw [ec] at ec'
  cases ec'
  have k := (eqg_bytes b b' t t').at A s
  rw [ints_toList (eb.trans eb'.symm)] at k
  simp only [List.getElem_toArray]
  rw [e, e']
  exact k
theorem bl_eq {a b : Addr} {vs us : List Value} {cs : List (List Int)} {n k : Nat} {Q : Value → Shared → Prop} (N : News g L s.heap news) (ha : (a, listOf (List.toArray vs) n) ∈ news) (hb : (b, listOf (List.toArray us) k) ∈ news) (hv : BytesAre vs cs) (hw : BytesAre us cs) (hu : A.units < cLine) (h : Q (.bool true) s) :
    wpAny (model prog w) A (compareOp .Eq (.ref a) (.ref b)) Q E s :=
  SeqAt.RcAt.lists (e := fun _ => true) ⟨_, (N _ ha).1, rfl, _, rfl⟩ ⟨_, (N _ hb).1, rfl, _, rfl⟩ (by simp [hv.length, hw.length]) hu (bytes_same hv hw _ _) prog w E Q (by rw [List.all_eq_true.mpr fun _ _ => rfl]; exact h)
theorem bl_ne {a b : Addr} {vs us : List Value} {cs : List (List Int)} {n k : Nat} {Q : Value → Shared → Prop} (N : News g L s.heap news) (ha : (a, listOf (List.toArray vs) n) ∈ news) (hb : (b, listOf (List.toArray us) k) ∈ news) (hv : BytesAre vs cs) (hw : BytesAre us cs) (hu : A.units < cLine) (h : Q (.bool false) s) :
    wpAny (model prog w) A (compareOp .NotEq (.ref a) (.ref b)) Q E s :=
  SeqAt.RcNeAt.lists (e := fun _ => true) ⟨_, (N _ ha).1, rfl, _, rfl⟩ ⟨_, (N _ hb).1, rfl, _, rfl⟩ (by simp [hv.length, hw.length]) hu (bytes_same hv hw _ _) prog w E Q (by rw [List.all_eq_true.mpr fun _ _ => rfl]; exact h)
end
/-- two parts of octets -/
theorem two_are {x y : Array UInt8} {t u : Tok} {ks : List Int} {i : Nat} (h1 : KBw.bInts x = ks.take i) (h2 : KBw.bInts y = ks.drop i) : BytesAre [.bytes x t, .bytes y u] [ks.take i, ks.drop i] := .cons h1 (.cons h2 .nil)
theorem two_flat (ks : List Int) (i : Nat) : [ks.take i, ks.drop i].flatten = ks := by simp
theorem two_arg {ex : List (Addr × Obj)} {D : Addr} {x y : Array UInt8} {t u : Tok} {ks : List Int} {i k : Nat} (h1 : KBw.bInts x = ks.take i) (h2 : KBw.bInts y = ks.drop i) (hm : (D, listOf (List.toArray [.bytes x t, .bytes y u]) k) ∈ ex) : BArg ex (.ref D) ks := .inr ⟨D, _, _, k, rfl, hm, two_are h1 h2, two_flat ks i⟩
noncomputable def IsLst (o : Obj) : Prop := ∃ a k, o = listOf a k
theorem tab_not {n : List (Addr × Obj)} (h : TabAny n) : ∀ r ∈ n, ¬ IsLst r.2 := by
  intro r hr ⟨a, k, e⟩
  rcases h with rfl | ⟨c1, oc1, c2, oc2, rfl, ⟨vs1, t1, h1, _⟩, ⟨vs2, t2, h2, _⟩, _⟩
  · rw [List.mem_singleton.mp hr] at e
    have e2 := congrArg Obj.data e
    cases e2
  · rcases List.mem_cons.mp hr with rfl | hr
    · have e2 := congrArg Obj.data e
      cases e2
    · rcases List.mem_cons.mp hr with rfl | hr
      · have e' : oc1 = listOf a k := e
        rw [e'] at h1; cases h1
      · rw [List.mem_singleton.mp hr] at e
        have e' : oc2 = listOf a k := e
        rw [e'] at h2; cases h2
theorem lists_off {g h : Heap} {L : Addr} {news n rest : List (Addr × Obj)} (N : News g L h news) (hr : ∀ q ∈ rest, q ∈ news) (hl : ∀ q ∈ rest, IsLst q.2) (hn : ∀ q ∈ n, q ∈ news) (hT : ∀ r ∈ n, ¬ IsLst r.2) : ∀ q ∈ rest, ∀ r ∈ n, q.1 ≠ r.1 := fun q hq r hr' e => by
  have e1 := (N q (hr q hq)).1
  have e2 := (N r (hn r hr')).1
  rw [e] at e1
  rw [e1] at e2
  have e3 := Option.some.inj e2
  exact hT r hr' (e3 ▸ hl q hq)
theorem nws_comm {g h : Heap} {L : Addr} {a b : List (Addr × Obj)} (N : News g L h (a ++ b)) : News g L h (b ++ a) := fun q hq => by
  rcases List.mem_append.mp hq with hq | hq
  · exact N _ (List.mem_append_right _ hq)
  · exact N _ (List.mem_append_left _ hq)
section
variable (w : World) {p : Program} {loose : List Str} {mean : ExcName → Option Value} {mg mb : Str → Option Value}
   {base : Heap} (X₀ : (hd.heap_1 w.params).In base) (T₀ : Top p loose mean mg mb base) (codeHd : CodeHd base 46 42)
   (dp un : Nat) (gd : Option (List Code)) (l : List Env)
noncomputable abbrev ApRet (bk dk : List Int) (v : Value) (n' : List (Addr × Obj)) : Prop := ∃ lo vs cs nn n1, v = .ref lo ∧ BytesAre vs cs ∧ (readDelta bk dk = some cs.flatten ∧ cs.length ≤ 2000) ∧ n' = (lo, listOf (List.toArray vs) nn) :: n1 ∧ Tab n1
include X₀ T₀ codeHd
theorem delta_bb (hdp : dp + 20 < recursionLimit) (hu : un + 120 < cLine) {b d : Array UInt8} {bk dk : List Int} {tb td : Tok} (hbk : KBw.bInts b = bk) (hdk : KBw.bInts d = dk) (hb : bk.length ≤ 200000) (hd0 : dk.length ≤ 1800) {n : List (Addr × Obj)} (hn : TabAny n) :
    SpecG [] PySem.Challenge.rw_jq0004_02.row.prog w (aTop dp un gd l) base l (.ref 54) [.bytes b tb, .bytes d td] n (ApRet bk dk) (.ref 32) (fun n' => Tab n' ∧ readDelta bk dk = none) :=
  pass2_on w X₀ T₀ dp un gd l (by omega) fun env => by
    rcases hn with rfl | hn
    · exact (apply_first w X₀ T₀ codeHd (dp + 1) (un + 3) gd (env :: l) (by omega) (by omega) tb td hbk hdk hb hd0).toG
    · exact apply_any w X₀ T₀ codeHd (dp + 1) (un + 3) gd (env :: l) (by omega) (by omega) (.inl ⟨_, _, rfl, hbk⟩) (.inl ⟨_, _, rfl, hdk⟩) hn hb hd0
theorem delta_any (hdp : dp + 20 < recursionLimit) (hu : un + 120 < cLine) {va vb : Value} {ex : List (Addr × Obj)} {bk dk : List Int} (hva : BArg ex va bk) (hvb : BArg ex vb dk) (hb : bk.length ≤ 200000) (hd0 : dk.length ≤ 1800) {n : List (Addr × Obj)} (hn : Tab n) :
    SpecG ex PySem.Challenge.rw_jq0004_02.row.prog w (aTop dp un gd l) base l (.ref 54) [va, vb] n (ApRet bk dk) (.ref 32) (fun n' => Tab n' ∧ readDelta bk dk = none) :=
  pass2_on w X₀ T₀ dp un gd l (by omega) fun env => apply_any w X₀ T₀ codeHd (dp + 1) (un + 3) gd (env :: l) (by omega) (by omega) hva hvb hn hb hd0
theorem told_bb (hdp : dp + 22 < recursionLimit) (hu : un + 123 < cLine) {b d : Array UInt8} {bk dk : List Int} {tb td : Tok} (hbk : KBw.bInts b = bk) (hdk : KBw.bInts d = dk) (hb : bk.length ≤ 200000) (hd0 : dk.length ≤ 1800) (hbig : ∀ t, readDelta bk dk = some t → t.length ≤ 16777216) {n : List (Addr × Obj)} (hn : TabAny n) :
    SpecSG [] PySem.Challenge.rw_jq0004_02.row.prog w (aTop dp un gd l) base l (.ref 120) [.bytes b tb, .bytes d td] n (fun v n' => OutV (readDelta bk dk) v ∧ Tab n') :=
  told2_spec w X₀ T₀ dp un gd l (by omega) hbig fun env => delta_bb w X₀ T₀ codeHd (dp + 1) (un + 3) gd (env :: l) (by omega) (by omega) hbk hdk hb hd0 hn
theorem told_any (hdp : dp + 22 < recursionLimit) (hu : un + 123 < cLine) {va vb : Value} {ex : List (Addr × Obj)} {bk dk : List Int} (hva : BArg ex va bk) (hvb : BArg ex vb dk) (hb : bk.length ≤ 200000) (hd0 : dk.length ≤ 1800) (hbig : ∀ t, readDelta bk dk = some t → t.length ≤ 16777216) {n : List (Addr × Obj)} (hn : Tab n) :
    SpecSG ex PySem.Challenge.rw_jq0004_02.row.prog w (aTop dp un gd l) base l (.ref 120) [va, vb] n (fun v n' => OutV (readDelta bk dk) v ∧ Tab n') :=
  told2_spec w X₀ T₀ dp un gd l (by omega) hbig fun env => delta_any w X₀ T₀ codeHd (dp + 1) (un + 3) gd (env :: l) (by omega) (by omega) hva hvb hb hd0 hn
end
end Mine
open PySem PySem.W PyProof.Rows PySem.Calls PySem.Spec
namespace Mine
set_option maxRecDepth 100000
set_option maxHeartbeats 16000000 in
/-- `_law_agrees` -/
theorem agrees2_spec (w : World) {p : Program} {loose : List Str} {mean : ExcName → Option Value} {mg mb : Str → Option Value}
   {base : Heap} (X₀ : (hd.heap_1 w.params).In base) (T₀ : Top p loose mean mg mb base)
   (dp un : Nat) (gd : Option (List Code)) (l : List Env) (hdp : dp + 30 < recursionLimit) (codeHd : CodeHd base 46 42) (hu : un + 300 < cLine)
   {b d : Array UInt8} {bk dk : List Int} {i j : Int} {tb td ti tj : Tok} (hbk : KBw.bInts b = bk) (hbl : bk.length ≤ 200000) (hdk : KBw.bInts d = dk) (hd0 : dk.length ≤ 1800) (hbig : ∀ t, readDelta bk dk = some t → t.length ≤ 16777216) (hi : 0 ≤ i) (hj : 0 ≤ j) {n : List (Addr × Obj)} (hn : TabAny n) :
   SpecSG [] PySem.Challenge.rw_jq0004_02.row.prog w (aTop dp un gd l) base l (.ref 127) [.bytes b tb, .bytes d td, .int i ti, .int j tj] n (fun v n' => v = .bool true ∧ Tab n') := by
  have hfill : (fun _ : OpenLaw => hd.heap_1) PySem.Challenge.rw_jq0004_02 = hd.heap_1 := by (k_fill; rfl)
  clear hfill
  intro g hst s Q E B hD hg hsz N hret
  have X := X₀.keeps B.stays
  have T := T₀.keeps B.stays
  have TT : KtsTurn (l.filterMap (·.frame)) g g := KtsTurn.refl
  all_goals refine wpAny_call ?_
  all_goals k_dflt (refine' enter_def hg hsz N X T ?k6 ?k7 ?k8 ?k9 ?kB ?_ ?c2 ?c3 ?c4 ?c5; (case k6 => k_is); (case k7 => k_is); (case k8 => ktr_room); (case k9 => exact BindsTo.of_eq rfl); (case c5 => decide); (case kB => exact locs rfl); (case c2 => exact rfl); (case c3 => exact rfl); (case c4 => exact rfl); k_whole; intro L' h' F' N' l1; (try k_lt l1); (try dsimp only); (try k_fold))
  k_with_none
  k_with "execs cons" => k_fold
  k_with "eval Call" => k_fold
  k_with "storeName" => (k_here; k_dflt (first | (refine' storeI_L ?F ?N ?_ ?a ?b; (case F => k_asm); (case N => k_asm); (case a => rfl); (case b => rfl); k_whole; intro h' tk' t' F' N'; (try k_sweep); (try dsimp only); (try k_fold)) | (refine' storeB_L ?F ?N ?_ ?a ?b; (case F => k_asm); (case N => k_asm); (case a => rfl); (case b => rfl); k_whole; intro h' tk' t' F' N'; (try k_sweep); (try dsimp only); (try k_fold)) | (refine' storeG_L ?F ?N ?_ ?a ?b; (case F => k_asm); (case N => k_asm); (case a => rfl); (case b => rfl); k_whole; intro h' tk' F' N'; (try k_sweep); (try dsimp only); (try k_fold))))
  k_with "sub" => (exact fun q9 hq9 => List.Sublist.subset (by with_reducible (repeat (first | exact List.Sublist.refl _ | exact List.nil_sublist _ | refine List.Sublist.cons_cons _ ?_ | refine List.Sublist.cons _ ?_))) hq9)
  k_with "subscriptTail Name Slice bytes ref" => (k_here; (with_reducible show wpAny _ _ (subscriptTail _ (PySem.Expr.Slice none (some _) none _) (Value.bytes _ _) (Value.ref _)) _ _ _); (rename Fr _ _ _ _ => kF); (rename News _ _ _ _ => kN); (first | refine slice_j (s := ⟨_, _, _, _, _⟩) kF kN hbk hi (by omega) ?_ | refine slice_j (s := ⟨_, _, _, _, _⟩) kF kN hdk hj (by omega) ?_); (clear kF kN; intro _ _ _ _ _ _ hcut; (try dsimp only)))
  k_with "subscriptTail Name Slice bytes ref" => (k_here; (with_reducible show wpAny _ _ (subscriptTail _ (PySem.Expr.Slice (some _) none none _) (Value.bytes _ _) (Value.ref _)) _ _ _); (rename Fr _ _ _ _ => kF); (rename News _ _ _ _ => kN); (first | refine slice_i (s := ⟨_, _, _, _, _⟩) kF kN hbk hi (by omega) ?_ | refine slice_i (s := ⟨_, _, _, _, _⟩) kF kN hdk hj (by omega) ?_); (clear kF kN; intro _ _ _ _ _ _ hcut; (try dsimp only)))
  k_with "call ref" => ((with_reducible show wpAny _ _ (call (Value.ref 120) [Value.bytes _ _, Value.bytes _ _]) _ _ _); (rename Fr _ _ _ _ => kF); (rename News _ _ _ _ => kN); k_dflt (refine' SpecSG.use (A₀ := aTop dp un gd l) (told_bb w X₀ T₀ codeHd (dp + 1) (un + 3) gd _ (by omega) (by omega) hbk hdk hbl hd0 hbig hn) B hD kF kN [_, _] (fun q hq => (List.Mem.tail _ (List.Mem.tail _ (List.Mem.tail _ hq)))) (fmc ((List.Mem.tail _ (List.Mem.head _))) ((fmc ((List.Mem.tail _ (List.Mem.tail _ (List.Mem.head _)))) (List.forall_mem_nil _)))) (lists_off kN (fmc ((List.Mem.tail _ (List.Mem.head _))) ((fmc ((List.Mem.tail _ (List.Mem.tail _ (List.Mem.head _)))) (List.forall_mem_nil _)))) (fmc (⟨_, _, rfl⟩) ((fmc (⟨_, _, rfl⟩) (List.forall_mem_nil _)))) (fun q hq => (List.Mem.tail _ (List.Mem.tail _ (List.Mem.tail _ hq)))) (tab_not hn)) (fun _ h => nomatch h) rfl ?_); (clear kF kN; intro v9 h9 tk9 h₁ n9 hr9 T9 B hD F9 N9 ap9; (have X := X₀.keeps B.stays); (have T := T₀.keeps B.stays); replace TT := TT.trans T9; (replace N9 := nws_comm N9); dsimp only [List.cons_append, List.nil_append] at N9; (try dsimp only); obtain ⟨hO1, hT1⟩ := hr9; (have hOv := hO1); (rcases hO1 with ⟨rfl, hO⟩ | ⟨b1, t1, rfl, hO⟩); (try k_fold)))
  k_with "call ref" => ((with_reducible show wpAny _ _ (call (Value.ref 113) [_, _]) _ _ _); (rename Fr _ _ _ _ => kF); (rename News _ _ _ _ => kN); k_dflt (refine' Spec.use (A₀ := aTop dp un gd l) (due2_spec w X₀ T₀ (dp + 1) (un + 3) gd _ (by omega) (by omega) hbk hbl hdk hd0 hbig) B kF kN _ (fun _ h => nomatch h) (fun _ h => h) (fun _ _ _ h => nomatch h) rfl rfl ?_ ?_); (rotate_left); (intro e9 h9 tk9 n9 g9 hx9; exact hx9.elim); (clear kF kN; intro v9 h9 tk9 n9 hr9 F9 N9 ap9; (try dsimp only); obtain ⟨lo, us, nn, rfl, rfl, hDue⟩ := hr9; clear ap9; dsimp only [List.cons_append, List.nil_append] at N9; (try k_fold)))
  k_with "call ref" => ((with_reducible show wpAny _ _ (call (Value.ref 120) [Value.ref _, Value.ref _]) _ _ _); (rename Fr _ _ _ _ => kF); (rename News _ _ _ _ => kN); k_dflt (refine' SpecSG.use (A₀ := aTop dp un gd l) (told_any (ex := [_, _]) w X₀ T₀ codeHd (dp + 1) (un + 3) gd _ (by omega) (by omega) (two_arg (by assumption) (by assumption) (List.Mem.tail _ (List.Mem.head _))) (two_arg (by assumption) (by assumption) (List.Mem.head _)) hbl hd0 hbig hT1) B hD kF kN [_, _, _] (fun q hq => (List.Mem.tail _ (List.Mem.tail _ (List.Mem.tail _ hq)))) (fmc ((List.Mem.head _)) ((fmc ((List.Mem.tail _ (List.Mem.head _))) ((fmc ((List.Mem.tail _ (List.Mem.tail _ (List.Mem.head _)))) (List.forall_mem_nil _)))))) (lists_off kN (fmc ((List.Mem.head _)) ((fmc ((List.Mem.tail _ (List.Mem.head _))) ((fmc ((List.Mem.tail _ (List.Mem.tail _ (List.Mem.head _)))) (List.forall_mem_nil _)))))) (fmc (⟨_, _, rfl⟩) ((fmc (⟨_, _, rfl⟩) ((fmc (⟨_, _, rfl⟩) (List.forall_mem_nil _)))))) (fun q hq => (List.Mem.tail _ (List.Mem.tail _ (List.Mem.tail _ hq)))) (tab_not (.inr hT1))) (fun q hq => .inl (List.Mem.tail _ hq)) rfl ?_); (clear kF kN; intro v9 h9 tk9 h₁ n9 hr9 T9 B hD F9 N9 ap9; (have X := X₀.keeps B.stays); (have T := T₀.keeps B.stays); replace TT := TT.trans T9; (replace N9 := nws_comm N9); dsimp only [List.cons_append, List.nil_append] at N9; (try dsimp only); obtain ⟨hO2, hT2⟩ := hr9; (rcases hO2 with ⟨rfl, hO'⟩ | ⟨b2, t2, rfl, hO'⟩); (all_goals (first | (rw [hO] at hO'; cases hO'; done) | (obtain rfl := ints_inj (Option.some.inj (hO.symm.trans hO'))) | skip)); (try k_fold)))
  k_with "compareOp NotIn none ref" => (k_here; (rename News _ _ _ _ => kN); k_dflt (refine due_has kN (List.Mem.head _) hDue (.inl ⟨rfl, hO⟩) ?_); (try dsimp only))
  k_with "compareOp NotIn bytes ref" => (k_here; (rename News _ _ _ _ => kN); k_dflt (refine due_has kN (List.Mem.head _) hDue (.inr ⟨_, _, rfl, hO⟩) ?_); (try dsimp only))
  k_with "compareOp NotEq bytes bytes" => (k_here; (refine ne_same ?_); (try dsimp only))
  k_with "compareOp Eq ref ref" => (k_here; (rename News _ _ _ _ => kN); k_dflt (refine' bl_eq kN ?beA ?beB ?beC ?beD (units_lt (dp := dp) (un := un) (gd := gd) (l := l) (by omega)) ?_; (case beA => k_mem); (case beB => k_mem); (case beC => exact two_are (by with_reducible assumption) (by with_reducible assumption)); (case beD => exact two_are (by with_reducible assumption) (by with_reducible assumption))); (try dsimp only))
  k_steps
  all_goals exact hret _ _ _ _ _ ⟨rfl, hT2⟩ TT (Fr.keep (by assumption)) (Led.sub (Led.of_news (by assumption)) (fun q hq => by repeat first | exact hq | apply List.Mem.tail))
end Mine
open PySem PySem.W PyProof.Rows PySem.Calls PySem.Spec
namespace Mine
set_option maxRecDepth 100000
open LCg
section
variable {prog : Program} {w : World} {A : Around} {E : Value → Shared → Prop} {s : Shared} {h₀ : Heap} {L : Addr} {m : Str → Option Value} {env : Env}
/-- a range of any step as a comprehension's source -/
noncomputable def SrcD (prog : Program) (w : World) (A : Around) (h₀ : Heap) (L : Addr) (m : Str → Option Value) (env : Env) (elt : PySem.Expr) (x : Str) (scope : Scope) (cl : List (Str × Addr)) (Fin : Shared → List Value → List (Addr × Obj) → Prop) (xv : Value) (s₁ : Shared) : Prop :=
  ∃ r a b c t u v n news, xv = .ref r ∧ A.handled = none ∧ Fr h₀ L s₁.heap m ∧ News h₀ L s₁.heap news ∧ IsRange s₁.heap r a b c t u v ∧ Builtin.Range.small a b c = true ∧ Builtin.Range.rangeSize a b c = ((n : Nat) : Int) ∧ n ≤ sizeLine ∧
    ∀ s₂ : Shared, (∃ h, s₂ = { s₁ with heap := h }) → CompRest prog w A h₀ L m env elt x scope cl s₂ (fun _ => True) (fun i v => ∃ t, v = .int (a + (i : Int) * c) t) (Fin s₂) n 0 [] news
theorem SrcD.range {elt : PySem.Expr} {x : Str} {scope : Scope} {cl : List (Str × Addr)} {Fin : Shared → List Value → List (Addr × Obj) → Prop} {r : Addr} {a b c : Int} {t u v : Tok} {n : Nat} {news : List (Addr × Obj)} {s₁ : Shared}
    (hh : A.handled = none) (F : Fr h₀ L s₁.heap m) (N : News h₀ L s₁.heap news) (hr : IsRange s₁.heap r a b c t u v) (hsm : Builtin.Range.small a b c = true) (hn : Builtin.Range.rangeSize a b c = ((n : Nat) : Int)) (hsz : n ≤ sizeLine)
    (h : ∀ g, CompRest prog w A h₀ L m env elt x scope cl { s₁ with heap := g } (fun _ => True) (fun i v => ∃ t, v = .int (a + (i : Int) * c) t) (Fin { s₁ with heap := g }) n 0 [] news) :
    SrcD prog w A h₀ L m env elt x scope cl Fin (.ref r) s₁ := ⟨r, a, b, c, t, u, v, n, news, rfl, hh, F, N, hr, hsm, hn, hsz, fun _ ⟨g, e⟩ => e ▸ h g⟩
theorem rangeD_st {I : Addr} {a c : Int} {n : Nat} : ∀ i (h h' : Heap) (o : Obj) (nw : List (Addr × Obj)), IsRangeIter h I (a + (i : Nat) * c) ((n : Int) - (i : Nat)) c → h.get? I = some o → h'.get? I = some o → (∀ b o, h₀.get? b = some o → h'.get? b = some o) → News h₀ L h' nw → True → IsRangeIter h' I (a + (i : Nat) * c) ((n : Int) - (i : Nat)) c :=
  fun i h h' o nw st e e' _ _ _ => by
    have st' : h.get? I = some _ := st
    show h'.get? I = some _
    rw [e', ← e]; exact st'
theorem ListComp_D {elt iter : PySem.Expr} {x : Str} {px : Pos} {scope : Scope} {cl : List (Str × Addr)} {pos : Pos} {Q : Value → Shared → Prop} (_F₀ : Fr h₀ L s.heap m)
    (hclos : closureFor scope env = pure cl) (hcell : ∀ y ∈ scope.names, y.2 ≠ .cell) (hkind : scope.kind = .function)
    (hnames : ∀ y ∈ scope.names, y.2 = .local → scope.names.lookup y.1 = some .local) (hx : scope.names.lookup x = some .local)
    (h : wpAny (model prog w) A (eval iter env) (SrcD prog w A h₀ L m env elt x scope cl (fun s₂ => FinE h₀ L m s₂ Q)) E s)
    (hs : ∀ x, foldedSetIterable iter env x = pure x := by intro _; rfl) :
    wpAny (model prog w) A (eval (.ListComp elt [⟨.Name x px, iter, [], 0⟩] scope pos) env) Q E s := by
  rw [eval_ListComp]
  refine wpAny_comprehension_free (use := none) rfl hs hclos hkind hnames (wpAny_mono h (fun xv s₁ h₁ => ?_) fun _ _ e => e)
  obtain ⟨r, a, b, c, t, u, v, n, news, rfl, hh, F, N, hr, hsm, hn, hsz, R⟩ := h₁
  refine wpAny_pyIter_range hr hsm ?_
  refine block_U (Walks.range hh _ a c n) hsz (fun i h st => ⟨_, st⟩) rangeD_st hcell hkind hx (by show IsRangeIter _ _ _ _ _; rw [hn]; simpa using Heap.get?_push_size _ rfl) (fun b hb => ?_)
    (F.keeps fun _ _ e => Heap.get?_push_of_some _ e) (N.grown fun _ _ e => Heap.get?_push_of_some _ e) (Nat.ne_of_lt F.ns.lt) (next_is_new F) (fun p hp => Nat.ne_of_lt (Heap.lt_size (N p hp).1)) trivial (R _ ⟨_, rfl⟩) ?_
  · rw [List.mem_singleton.mp hb]
    show s₁.heap.objs.size < (s₁.heap.push _).objs.size
    rw [Heap.size_push]; exact Nat.lt_succ_self _
  · intro D C h tk m' ys news' F' N' o1 hn hC₀ hD₀ hCL hDL hCD offC fin
    refine ⟨m', hn, fun h'' hs'' => fin D h'' tk (F'.change hs'' hCL hC₀) (fun p hp => ?_) o1⟩
    refine ⟨hs''.extBut _ _ ?_ (N' p hp).1, (N' p hp).2⟩
    rcases List.mem_cons.mp hp with rfl | hp
    · exact Ne.symm hCD
    · exact offC p hp
end
end Mine
open PySem PySem.W PyProof.Rows PySem.Calls PySem.Spec
namespace Mine
set_option maxRecDepth 100000
theorem pick_to {vs : List Value} {i : Int} (h : 0 ≤ i) : (slicePick (List.toArray vs) none (some i) none).toList = vs.take i.toNat := by
  obtain ⟨n, rfl⟩ := Int.eq_ofNat_of_zero_le h
  rw [slicePick_upto']; simp
theorem pick_from {vs : List Value} {i : Int} (h : 0 ≤ i) : (slicePick (List.toArray vs) (some i) none none).toList = vs.drop i.toNat := by
  obtain ⟨n, rfl⟩ := Int.eq_ofNat_of_zero_le h
  rw [slicePick_from']; simp
/-- at most four rows' octets -/
noncomputable def L4 (os : List (List Int)) : Prop := os.length ≤ 4 ∧ ∀ o ∈ os, Sm o 128 8
theorem L4.take {os : List (List Int)} (h : L4 os) (n : Nat) : L4 (os.take n) := ⟨Nat.le_trans (List.length_take_le' _ _) h.1, fun o ho => h.2 o (List.mem_of_mem_take ho)⟩
theorem L4.drop {os : List (List Int)} (h : L4 os) (n : Nat) : L4 (os.drop n) := ⟨by rw [List.length_drop]; exact Nat.le_trans (Nat.sub_le _ _) h.1, fun o ho => h.2 o (List.mem_of_mem_drop ho)⟩
theorem L4.len {os : List (List Int)} (h : L4 os) : os.flatten.length ≤ 16777216 := Nat.le_trans (Sm.flat 4 h.1 h.2).1 (by decide)
theorem L4.smb {os : List (List Int)} {c : Array UInt8} (h : L4 os) (e : KBw.bInts c = os.flatten) : SmB c os.flatten (4 * 128) (4 * 8) := ⟨e, Sm.flat 4 h.1 h.2⟩
theorem L4.get {os : List (List Int)} {i : Nat} (h : L4 os) (hi : i < os.length) : Sm (os.getD i []) 128 8 := by
  rw [List.getD_eq_getElem?_getD, List.getElem?_eq_getElem hi]; exact h.2 _ (List.getElem_mem hi)
theorem L4.zero {os : List (List Int)} {b : Array UInt8} {i : Nat} (h : L4 os) (e : KBw.bInts b = os.getD i []) : SmB b (os.getD i []) 128 8 := by
  rcases Nat.lt_or_ge i os.length with hi | hi
  · exact ⟨e, h.get hi⟩
  · refine ⟨e, ?_⟩
    rw [List.getD_eq_getElem?_getD, List.getElem?_eq_none hi]
    exact ⟨Nat.zero_le _, Nat.zero_le _⟩
section
variable {prog : Program} {w : World} {A : Around} {E : Value → Shared → Prop} {s : Shared} {h₀ : Heap} {L : Addr} {m : Str → Option Value} {news : List (Addr × Obj)}
theorem len_sm {b : Array UInt8} {ks : List Int} {t : Tok} {n h : Nat} {Q : Value → Shared → Prop} (hb : SmB b ks n h) (hz : n ≤ 1099511627776) (H : ∀ t k, Q (.int ks.length t) { s with toks := k }) : wpAny (model prog w) A (call (.builtin "len") [.bytes b t]) Q E s :=
  len_b hb.1 (Nat.le_trans hb.2.1 hz) H
theorem len_lst {a : Addr} {vs : List Value} {cs : List (List Int)} {n : Nat} {Q : Value → Shared → Prop} (N : News h₀ L s.heap news) (ha : (a, listOf (List.toArray vs) n) ∈ news) (hv : BytesAre vs cs) (hz : cs.length ≤ 1800) (h : ∀ t k, Q (.int cs.length t) { s with toks := k }) :
    wpAny (model prog w) A (call (.builtin "len") [.ref a]) Q E s := by
  refine len_vals N ha (by rw [hv.length]; exact hz) ?_
  rw [hv.length]; exact h
theorem take_sm {b : Array UInt8} {ks : List Int} {t : Tok} {n c : Nat} {value slice : PySem.Expr} {j : Int} {tj : Tok} {Q : Value → Shared → Prop} (hF : Fr h₀ L s.heap m) (hN : News h₀ L s.heap news) (hb : SmB b ks n c) (hj : 0 ≤ j) (hz : n ≤ 16777216)
    (h : ∀ d h' t' k, Fr h₀ L h' m → News h₀ L h' news → SmB d (ks.take j.toNat) n c → Q (.bytes d t') { s with heap := h', toks := k })
    (hs : subscripted slice false (.bytes b t) (.ref s.heap.objs.size) = operate [.ref s.heap.objs.size, .bytes b t] (getItem (.bytes b t) (.ref s.heap.objs.size)) := by with_unfolding_all rfl)
    (ht : ∀ r, letTemporaryGo value (.bytes b t) r = pure () := by intro _; with_unfolding_all rfl) :
    wpAny (model prog w) A (subscriptTail value slice (.bytes b t) (.ref s.heap.objs.size)) Q E { s with heap := s.heap.push { cls := .type "slice", data := .fields #[.none, .int j tj, .none] } } :=
  slice_j hF hN hb.1 hj (Nat.le_trans hb.2.1 hz) (fun d h' t' k F N e => h d h' t' k F N ⟨e, hb.2.take _⟩) hs ht
theorem drop_sm {b : Array UInt8} {ks : List Int} {t : Tok} {n c : Nat} {value slice : PySem.Expr} {i : Int} {ti : Tok} {Q : Value → Shared → Prop} (hF : Fr h₀ L s.heap m) (hN : News h₀ L s.heap news) (hb : SmB b ks n c) (hi : 0 ≤ i) (hz : n ≤ 16777216)
    (h : ∀ d h' t' k, Fr h₀ L h' m → News h₀ L h' news → SmB d (ks.drop i.toNat) n c → Q (.bytes d t') { s with heap := h', toks := k })
    (hs : subscripted slice false (.bytes b t) (.ref s.heap.objs.size) = operate [.ref s.heap.objs.size, .bytes b t] (getItem (.bytes b t) (.ref s.heap.objs.size)) := by with_unfolding_all rfl)
    (ht : ∀ r, letTemporaryGo value (.bytes b t) r = pure () := by intro _; with_unfolding_all rfl) :
    wpAny (model prog w) A (subscriptTail value slice (.bytes b t) (.ref s.heap.objs.size)) Q E { s with heap := s.heap.push { cls := .type "slice", data := .fields #[.int i ti, .none, .none] } } :=
  slice_i hF hN hb.1 hi (Nat.le_trans hb.2.1 hz) (fun d h' t' k F N e => h d h' t' k F N ⟨e, hb.2.drop _⟩) hs ht
theorem item_byt {value slice : PySem.Expr} {a : Addr} {vs : List Value} {cs : List (List Int)} {n : Nat} {i : Int} {u : Tok} {Q : Value → Shared → Prop} (N : News h₀ L s.heap news) (ha : (a, listOf (List.toArray vs) n) ∈ news) (hv : BytesAre vs cs) (h0 : 0 ≤ i) (h1 : i < cs.length) (hz : cs.length ≤ 1800)
    (h : ∀ b t, KBw.bInts b = cs.getD i.toNat [] → Q (.bytes b t) s)
    (hs : subscripted slice false (.ref a) (.int i u) = operate [.ref a, .int i u] (getItem (.ref a) (.int i u)) := by with_unfolding_all rfl) :
    wpAny (model prog w) A (subscriptTail value slice (.ref a) (.int i u)) Q E s := by
  have la : s.heap.IsList a vs.toArray := ⟨_, (N _ ha).1, rfl, _, rfl⟩
  have hl := hv.length
  have hi : i.toNat < vs.length := by omega
  obtain ⟨b, t, c, e, ec, eg⟩ := hv.at i.toNat vs[i.toNat] (List.getElem?_eq_getElem hi)
  refine tail_any la.typeIs slot_list_getitem.lookup (wpAny_getItem_list la h0 (by omega) (x := .bytes b t) ?_ (h b t ?_)) hs
  · rw [← e]; simp [hi]
  · rw [List.getD_eq_getElem?_getD, eg]; exact ec
end
noncomputable def LenV (ps : List (List Int)) (i : Nat) (y : Value) : Prop := ∃ t, y = .int ((ps.getD i []).length : Nat) t
theorem lens_ints {ys : List Value} {ps : List (List Int)} (hl : ys.length = ps.length) (h : ∀ i y, ys[i]? = some y → LenV ps i y) : IntsAre ys (ps.map fun p => (p.length : Int)) := by
  induction ys generalizing ps with
  | nil =>
    cases ps with
    | nil => exact .nil
    | cons p ps => simp at hl
  | cons y ys ih =>
    cases ps with
    | nil => simp at hl
    | cons p ps =>
      obtain ⟨t, rfl⟩ := h 0 y rfl
      exact .cons _ _ (ih (by simpa using hl) fun i y hi => h (i + 1) y hi)
theorem lenV_of {ps : List (List Int)} {p : List Int} {i : Nat} {t : Tok} (h : ps[i]? = some p) : LenV ps i (.int (p.length : Nat) t) := ⟨t, by rw [List.getD_eq_getElem?_getD, h]; rfl⟩
noncomputable def BytV (f : Nat → List Int) (i : Nat) (y : Value) : Prop := ∃ b t, y = .bytes b t ∧ KBw.bInts b = f i
theorem bytV_are {ys : List Value} {n : Nat} {f : Nat → List Int} (hl : ys.length = n) (h : ∀ i y, ys[i]? = some y → BytV f i y) : BytesAre ys ((List.range n).map f) :=
  BytesAre.of (by simp [hl]) fun i v hi => by
    obtain ⟨b, t, rfl, e⟩ := h i v hi
    have hlt := (List.getElem?_eq_some_iff.mp hi).1
    exact ⟨b, t, rfl, by rw [e]; simp [hl ▸ hlt]⟩
theorem rev_l4 {ys : List Value} {os : List (List Int)} (hL : L4 os) (hl : ys.length = os.length) (h : ∀ i y, ys[i]? = some y → BytV (fun i => os.getD (os.length - 1 - i) []) i y) : ∃ cs, BytesAre ys cs ∧ L4 cs := by
  refine ⟨_, bytV_are hl h, by simp; exact hL.1, fun o ho => ?_⟩
  obtain ⟨i, hi, rfl⟩ := List.mem_map.mp ho
  have := List.mem_range.mp hi
  exact hL.get (by omega +splitDisjunctions)
theorem num_sm {b : Array UInt8} {n cnt : Int} (hk : KBw.bInts b = numK n cnt) (h : cnt ≤ 9) : SmB b (numK n cnt) 9 9 := SmB.of_len hk (by rw [numK_len]; omega)
theorem copy_sm {b : Array UInt8} {st sz : Int} {full : Bool} (hk : KBw.bInts b = copyL st sz full) : SmB b (copyL st sz full) 8 8 := SmB.of_len hk (copyL_len _ _ _)
theorem make_sm {ns : List Int} {n : Nat} (h : KBa.In ns) (hn : ns.length ≤ n) : SmB (byteArr ns) ns n n := SmB.of_len (KBa.ints_make h) hn
theorem oct_in {f : Int → Int} {ks : List Int} : KBa.In (ks.map fun a => (f a).fmod 256) := fun y hy => by
  obtain ⟨a, _, rfl⟩ := List.mem_map.mp hy
  exact fmod_bd _ (by decide)
theorem small_down {n : Nat} (h : n ≤ 1800) : Builtin.Range.small ((n : Int) - 1) (-1) (-1) = true := by
  unfold Builtin.Range.small
  rw [rangeSize_downNat]
  simp only [Builtin.Range.rangeFitsLong, Bool.and_eq_true, Bool.or_eq_true, decide_eq_true_eq, beq_iff_eq, show ¬ ((-1 : Int) > 0) by decide, if_false]
  omega
theorem size_down (n : Nat) : Builtin.Range.rangeSize ((n : Int) - 1) (-1) (-1) = (n : Int) := by
  rw [rangeSize_downNat]; omega
theorem spo_short {bk : List Int} (hb : bk.length ≤ 131079) {os ps : List (List Int)} {c1 c2 m td : Int} {tx : List Int} (h : RowsOkL bk os ps) (h1 : 1 ≤ c1) (h2 : 1 ≤ c2) (e1 : (bk.length : Int) < 128 ^ c1.toNat) (hm : (ps.flatten.length : Int) ≤ m) (e2 : m < 128 ^ c2.toNat) (ht : td ≤ 127) (htx : (tx.length : Int) < td) :
    readDelta bk (numK bk.length c1 ++ numK m c2 ++ os.flatten ++ [td] ++ tx) = none := by
  simp only [List.append_assoc, List.singleton_append]
  exact delta_short hb h h1 h2 e1 hm e2 ht htx
theorem rest14 {n : Int} (h0 : 0 ≤ n) (h1 : n < 1000000000000000000) : 0 ≤ n.fdiv 14 ∧ n.fdiv 14 ≤ 71428571428571428 := by
  rw [Int.fdiv_eq_ediv_of_nonneg _ (by decide)]; omega
theorem rev_idx {n i : Nat} (h : i < n) : (((n : Int) - 1) + (i : Int) * (-1)).toNat = n - 1 - i := by omega
theorem delta_pos {d : Array UInt8} {c1 n : Int} {x y : List Int} {a b : Nat} (h1 : 1 ≤ c1) (_ : SmB d (numK n c1 ++ x ++ y) a b) : 0 < ((numK n c1 ++ x ++ y).length : Int) := by
  rw [List.length_append, List.length_append, numK_len]; omega
theorem piece_le {bk : List Int} {os ps : List (List Int)} (h : RowsOkL bk os ps) (i : Nat) : (ps.getD i []).length ≤ 127 + bk.length := by
  rcases Nat.lt_or_ge i ps.length with hi | hi
  · rw [List.getD_eq_getElem?_getD, List.getElem?_eq_getElem hi]; exact h.pieces _ (List.getElem_mem hi)
  · rw [List.getD_eq_getElem?_getD, List.getElem?_eq_none hi]; exact Nat.zero_le _
theorem one_smb {x : Int} (h0 : 0 ≤ x) (h1 : x < 256) : SmB #[x.toNat.toUInt8] [x] 1 1 := SmB.of_len (KBa.ints_make (one_in h0 h1)) (Nat.le_refl _)
theorem f32_bd (x : Int) : 0 ≤ x.fmod (2 ^ Int.toNat 32) ∧ x.fmod (2 ^ Int.toNat 32) < 4294967296 := fmod_bd x (k := 2 ^ Int.toNat 32) (by decide)
theorem td_bd (n : Int) : 0 ≤ 1 + (n.fdiv 14).fmod 127 ∧ 1 + (n.fdiv 14).fmod 127 < 256 := by
  have := fmod_bd (n.fdiv 14) (show (0 : Int) < 127 by decide); omega +splitDisjunctions
theorem td_pos (n : Int) : 0 < 1 + (n.fdiv 14).fmod 127 := by
  have := fmod_bd (n.fdiv 14) (show (0 : Int) < 127 by decide); omega
theorem td_le (n : Int) : 1 + (n.fdiv 14).fmod 127 ≤ 127 := by
  have := fmod_bd (n.fdiv 14) (show (0 : Int) < 127 by decide); omega
theorem tx_len {n : Int} {ks : List Int} (h : (ks.length : Int) = ((n.fdiv 14).fdiv 127).fmod (1 + (n.fdiv 14).fmod 127)) : ks.length ≤ 126 := by
  have a := (fmod_bd ((n.fdiv 14).fdiv 127) (td_pos n)).2
  have := td_le n; omega +splitDisjunctions
theorem tx_lt {n : Int} {ks : List Int} (h : (ks.length : Int) = ((n.fdiv 14).fdiv 127).fmod (1 + (n.fdiv 14).fmod 127)) : (ks.length : Int) < 1 + (n.fdiv 14).fmod 127 := h ▸ (fmod_bd ((n.fdiv 14).fdiv 127) (td_pos n)).2
theorem spo_facts {n : Int} (h0 : 0 ≤ n) (h1 : n < 1000000000000000000) {bk : List Int} (hb : bk.length ≤ 131079) {os ps : List (List Int)} (hR : RowsOkL bk os ps) (hol : os.length ≤ 4) :
    0 ≤ n.fdiv 14 ∧ n.fdiv 14 ≤ 71428571428571428 ∧ 0 ≤ ((n.fdiv 14).fdiv 2).fmod 5 ∧ ((n.fdiv 14).fdiv 2).fmod 5 < 5 ∧ 0 ≤ (n.fdiv 14).fmod 3 ∧ (n.fdiv 14).fmod 3 < 3 ∧ 0 ≤ (n.fdiv 14).fmod 127 ∧ (n.fdiv 14).fmod 127 < 127 ∧ 0 ≤ (n.fdiv 14).fmod 40 ∧ (n.fdiv 14).fmod 40 < 40 ∧
    0 ≤ (n.fdiv 14).fmod ((bk.length : Int) + 1) ∧ (n.fdiv 14).fmod ((bk.length : Int) + 1) < (bk.length : Int) + 1 ∧ 0 ≤ (n.fdiv 14 * 65537).fmod (2 ^ Int.toNat 32) ∧ (n.fdiv 14 * 65537).fmod (2 ^ Int.toNat 32) < 4294967296 ∧
    (ps.map fun p => (p.length : Int)).sum = (ps.flatten.length : Int) ∧ (ps.flatten.length : Int) ≤ 524824 := by
  have a := rest14 h0 h1
  have b := fmod_bd ((n.fdiv 14).fdiv 2) (show (0 : Int) < 5 by decide)
  have c := fmod_bd (n.fdiv 14) (show (0 : Int) < 3 by decide)
  have d := fmod_bd (n.fdiv 14) (show (0 : Int) < 127 by decide)
  have e := fmod_bd (n.fdiv 14) (show (0 : Int) < 40 by decide)
  have f := fmod_bd (n.fdiv 14) (show (0 : Int) < (bk.length : Int) + 1 by omega)
  have g := f32_bd (n.fdiv 14 * 65537)
  have hpl := hR.length
  have hps := flat_le 4 (by omega) hR.pieces
  exact ⟨a.1, a.2, b.1, b.2, c.1, c.2, d.1, d.2, e.1, e.2, f.1, f.2, g.1, g.2, sum_lens ps, by omega⟩
theorem spo_fits {n : Int} {ps : List (List Int)} {a b c d e f g i j k l m o : Prop} (h : a ∧ b ∧ c ∧ d ∧ e ∧ f ∧ 0 ≤ (n.fdiv 14).fmod 127 ∧ g ∧ i ∧ j ∧ k ∧ l ∧ m ∧ o ∧ (ps.map fun p => (p.length : Int)).sum = (ps.flatten.length : Int) ∧ (ps.flatten.length : Int) ≤ 524824) :
    (ps.flatten.length : Int) ≤ (ps.map fun p => (p.length : Int)).sum + (1 + (n.fdiv 14).fmod 127) := by
  obtain ⟨_, _, _, _, _, _, h7, _, _, _, _, _, _, _, e1, _⟩ := h
  omega
/-- an int from 0 to B -/
noncomputable def IntB (B : Int) (v : Value) : Prop := ∃ x t, v = .int x t ∧ 0 ≤ x ∧ x ≤ B
theorem int_b {B x : Int} {t : Tok} (h0 : 0 ≤ x) (h1 : x ≤ B) : IntB B (.int x t) := ⟨x, t, rfl, h0, h1⟩
end Mine
end
open PySem PySem.W PyProof.Rows PySem.Calls PySem.Spec
namespace Mine
set_option maxRecDepth 100000
set_option maxHeartbeats 16000000 in
/-- `_law_spoilt`: all that is asked of it -/
theorem spoilt2_spec (w : World) {p : Program} {loose : List Str} {mean : ExcName → Option Value} {mg mb : Str → Option Value}
   {base : Heap} (X₀ : (hd.heap_1 w.params).In base) (T₀ : Top p loose mean mg mb base)
   (dp un : Nat) (gd : Option (List Code)) (l : List Env) (hdp : dp + 20 < recursionLimit)
   {b f c : Array UInt8} {bk sk : List Int} {os ps : List (List Int)} {vo vp : List Value} {lo lp : Addr} {no np : Nat} {n0 c1 : Int} {tb tf tc tn : Tok}
   (hbk : KBw.bInts b = bk) (hbl : bk.length ≤ 131079) (h1 : 1 ≤ c1) (h1' : c1 ≤ 11) (e1 : (bk.length : Int) < 128 ^ c1.toNat) (hf : KBw.bInts f = numK bk.length c1) (hsk : SmB c sk 11 11) (hR : RowsOkL bk os ps) (hol : os.length ≤ 4) (hvo : BytesAre vo os) (hvp : BytesAre vp ps) (hn0 : 0 ≤ n0) (hn1 : n0 < 1000000000000000000) :
   Spec PySem.Challenge.rw_jq0004_02.row.prog w (aTop dp un gd l) base l (.ref 93) [.bytes b tb, .bytes f tf, .bytes c tc, .ref lo, .ref lp, .int n0 tn] [(lo, listOf (List.toArray vo) no), (lp, listOf (List.toArray vp) np)]
     (fun v n' => ∃ d t, v = .bytes d t ∧ n' = [(lo, listOf (List.toArray vo) no), (lp, listOf (List.toArray vp) np)] ∧ SpoOk bk d) (.ref 32) (fun _ => False) := by
  have hfill : (fun _ : OpenLaw => hd.heap_1) PySem.Challenge.rw_jq0004_02 = hd.heap_1 := by (k_fill; rfl)
  clear hfill
  have hL : L4 os := ⟨hol, hR.sm⟩
  have hpl := hR.length
  have hfS : SmB f (numK bk.length c1) 11 11 := SmB.of_len hf (by rw [numK_len]; omega)
  obtain ⟨fr0, fr1⟩ := fmod_bd (n0.fdiv 14) (show (0 : Int) < (os.length : Int) + 1 by omega)
  have FX := spo_facts hn0 hn1 hbl hR hol
  have hF2 := (fmod_bd (n0.fdiv 14) (show (0 : Int) < 256 by decide))
  clear hn0 hn1
  intro g s Q E B hg hsz N hret hexc
  have X := X₀.keeps B.stays
  have T := T₀.keeps B.stays
  all_goals refine wpAny_call ?_
  all_goals k_dflt (refine' enter_defC hg hsz N X T ?k6 ?k7 ?k8 ?k9 ?kB ?kD ?_ ?c2 ?c3 ?c4; (case k6 => k_is); (case k7 => k_is); (case k8 => ktr_room); (case k9 => exact BindsTo.of_eq rfl); (case kB => exact rfl); (case kD => decide +kernel); (case c2 => exact rfl); (case c3 => exact rfl); (case c4 => exact rfl); k_whole; intro L' h' tk' cells' F' N' Y' l1; (try k_lt l1); k_cells Y'; (try simp only [List.cons_append, List.nil_append] at N'); (try dsimp only); (try k_fold))
  k_with_none
  k_with "execs cons" => k_fold
  k_with "eval Call" => k_fold
  k_with "storeName" => (k_here; k_dflt (first | (refine' storeI_L ?F ?N ?_ ?a ?b; (case F => k_asm); (case N => k_asm); (case a => rfl); (case b => rfl); k_whole; intro h' tk' t' F' N'; (try k_sweep); (try dsimp only); (try k_fold)) | (refine' storeB_L ?F ?N ?_ ?a ?b; (case F => k_asm); (case N => k_asm); (case a => rfl); (case b => rfl); k_whole; intro h' tk' t' F' N'; (try k_sweep); (try dsimp only); (try k_fold)) | (refine' storeG_L ?F ?N ?_ ?a ?b; (case F => k_asm); (case N => k_asm); (case a => rfl); (case b => rfl); k_whole; intro h' tk' F' N'; (try k_sweep); (try dsimp only); (try k_fold))))
  k_with "sub" => (exact fun q9 hq9 => List.Sublist.subset (by with_reducible (repeat (first | exact List.Sublist.refl _ | exact List.nil_sublist _ | refine List.Sublist.cons_cons _ ?_ | refine List.Sublist.cons _ ?_))) hq9)
  k_with "getMethod bytes" => (k_here; refine method_join ?_)
  k_with "call builtin:bytes.join" => (k_here; (with_reducible show wpAny _ _ (call _ [_, Value.ref lo]) _ _ _); (with_reducible rename News _ _ _ _ => kN); k_dflt (refine' join_K (s := ⟨_, _, _, _, _⟩) (News.isList kN ?hm) hvo (hL).len ?_; (case hm => k_mem)); intro _ _ _ hj9; (have hS := (hL).smb hj9); clear hj9; (try dsimp only))
  k_with "call builtin:bytes.join" => (k_here; (with_reducible show wpAny _ _ (call _ [_, Value.ref D6]) _ _ _); (with_reducible rename News _ _ _ _ => kN); k_dflt (refine' join_K (s := ⟨_, _, _, _, _⟩) (News.isList kN ?hm) (hvo.take _) (hL.take _).len ?_; (case hm => k_mem)); intro _ _ _ hj9; (have hSb := (hL.take _).smb hj9); clear hj9; (try dsimp only))
  k_with "call builtin:bytes.join" => (k_here; (with_reducible show wpAny _ _ (call _ [_, Value.ref D7]) _ _ _); (with_reducible rename News _ _ _ _ => kN); k_dflt (refine' join_K (s := ⟨_, _, _, _, _⟩) (News.isList kN ?hm) (hvo.drop _) (hL.drop _).len ?_; (case hm => k_mem)); intro _ _ _ hj9; (have hSd := (hL.drop _).smb hj9); clear hj9; (try dsimp only))
  k_with "call builtin:bytes.join" => (k_here; (with_reducible show wpAny _ _ (call _ [_, Value.ref _]) _ _ _); (with_reducible rename News _ _ _ _ => kN); k_dflt (refine' join_K (s := ⟨_, _, _, _, _⟩) (News.isList kN ?hm) hv7 (hL7).len ?_; (case hm => k_mem)); intro _ _ _ hj9; (have hSr := (hL7).smb hj9); clear hj9; (try dsimp only))
  k_with "binaryOp Add bytes bytes" => (k_here; (with_reducible show wpAny _ _ (binaryOp _ (Value.bytes _ _) (Value.bytes _ _)) _ _ _); k_dflt (refine' add_sm ?adA ?adB ?adZ ?_; (case adA => first | with_reducible assumption | exact one_smb hF2.1 hF2.2 | exact one_smb (by decide) (by decide) | exact one_smb (td_bd n0).1 (td_bd n0).2); (case adB => first | with_reducible assumption | exact one_smb hF2.1 hF2.2 | exact one_smb (by decide) (by decide) | exact one_smb (td_bd n0).1 (td_bd n0).2); (case adZ => decide)); intro _ _ _ hsA; (try dsimp only))
  k_with "call builtin:len" => (k_here; (with_reducible show wpAny _ _ (call (Value.builtin "len") [Value.bytes _ _]) _ _ _); k_dflt (first | refine len_b hbk (by omega) ?_ | refine len_sm (by with_reducible assumption) (by decide) ?_ | refine len_b (by with_reducible assumption) (by omega) ?_); intro _ _; (try dsimp only))
  k_with "call builtin:len" => (k_here; (with_reducible show wpAny _ _ (call (Value.builtin "len") [Value.ref lo]) _ _ _); (rename News _ _ _ _ => kN); k_dflt (refine' len_lst kN ?hm hvo (by omega) ?_; (case hm => k_mem)); intro _ _; (try dsimp only))
  k_with "eval ListComp" => (k_here; k_dflt (refine LCg.ListComp_U (F₀ := by k_asm) (by with_unfolding_all rfl) (by decide) (by rfl) (by decide) (by rfl) ?_))
  k_with "eval ListComp" => (k_here; (with_reducible show wpAny _ _ (eval (Expr.ListComp (Expr.Subscript _ _ _) _ _ _) _) _ _ _); k_dflt (refine ListComp_D (by k_asm) (by with_unfolding_all rfl) (by decide) (by rfl) (by decide) (by rfl) ?_))
  k_with "CompSrc" => (k_here; (with_reducible show LCg.CompSrc _ _ _ _ _ _ _ (Expr.Call _ _ _ _) _ _ _ _ _ _); (rename Fr _ _ _ _ => kF); (rename News _ _ _ _ => kN); k_dflt (refine LCg.CompSrc.ledger (by rfl) kF kN (by k_mem) (by rw [List.size_toArray, hvp.length, sizeLine_eq]; omega) ?_; intro g'; (refine' vals_rest (LenV ps) (.inr ⟨_, by k_mem, rfl, _, rfl⟩) ?_ ?_)); (clear kF kN; intro i v I' oI' C' oC' D' m' ys' h' tk' E' hi' hv' hC' hx' F' N'; obtain ⟨b8, t8, p8, rfl, hb8, he8⟩ := hvp.at i v (by simpa using hv'); (have hp8 := hR.pieces p8 (List.mem_of_getElem? he8)); clear hv'; (try k_fold)); (rotate_left); (clear kF kN; intro ys hl hy; (have hIl := lens_ints (by simpa using hl.trans hvp.length) hy); (try k_fold)))
  k_with "RowEnd" => ((rename Fr _ _ _ _ => kF); (rename News _ _ _ _ => kN); k_dflt (first | exact row_end kF kN (by walk_at "sub") (lenV_of he8) | exact row_end kF kN (by walk_at "sub") ⟨_, _, rfl, hb7⟩))
  k_with "CompSrc" => (k_here; (with_reducible show LCg.CompSrc _ _ _ _ _ _ _ (Expr.BinOp _ _ _ _) _ _ _ _ _ _); k_dflt (refine LCg.CompSrc.range (by rfl) (by k_asm) (by k_asm) (by assumption) (by decide) (by rfl) (by size_fits) ?_; intro g'; (refine' kcf_range (n := 7) (fun a => ((n0.fdiv 14).fdiv (256 ^ a.toNat)).fmod 256) (fun k' t' I' oI' C' oC' D' m' ys' h' tk' E' hlo' hhi' hC' hx' F' N' off' ne' hMark' => ?_) ?_); (all_goals (try (simp only [LCg.Off3, and_true] at off'))); kcf_last))
  k_with "KCfEl" => (exact kcf_el (r' := (Int.fdiv _ _).fmod _) rfl rfl rfl)
  k_with "SrcD" => ((rename Fr _ _ _ _ => kF); (rename News _ _ _ _ => kN); k_dflt (refine SrcD.range (by rfl) kF kN (by assumption) (small_down (by omega)) (size_down _) (by rw [sizeLine_eq]; omega) ?_; intro g'; (refine' vals_rest (BytV (fun i => os.getD (os.length - 1 - i) [])) trivial ?_ ?_)); (clear kF kN; intro i v I' oI' C' oC' D' m' ys' h' tk' E' hi' hv' hC' hx' F' N'; obtain ⟨t8, rfl⟩ := hv'; (try k_fold)); (rotate_left); (clear kF kN; intro ys hl hy; obtain ⟨cs7, hv7, hL7⟩ := rev_l4 hL hl hy; clear hy; (try k_fold)))
  k_with "subscriptTail Name Name ref int" => (k_here; (with_reducible show wpAny _ _ (subscriptTail _ (Expr.Name "k" _) (Value.ref lo) (Value.int _ _)) _ _ _); (rename News _ _ _ _ => kN); k_dflt (refine' item_byt kN ?hm hvo ?h0 ?h1 (by omega) ?_; (case hm => k_mem); (case h0 => omega); (case h1 => omega)); intro b7 t7 hb7; (rw [rev_idx hi'] at hb7); (try dsimp only))
  k_with "subscriptTail Name Name ref int" => (k_here; (with_reducible show wpAny _ _ (subscriptTail _ (Expr.Name "row" _) (Value.ref lo) (Value.int _ _)) _ _ _); (rename News _ _ _ _ => kN); k_dflt (refine' item_byt kN ?hm hvo ?h0 ?h1 (by omega) ?_; (case hm => k_mem); (case h0 => omega); (case h1 => omega)); intro b7 t7 hb7; (have hS7 := hL.zero hb7); (try dsimp only))
  k_with "subscriptTail Name Name ref int" => (k_here; (with_reducible show wpAny _ _ (subscriptTail _ (Expr.Name "row" _) (Value.ref lp) (Value.int _ _)) _ _ _); (rename News _ _ _ _ => kN); k_dflt (refine' item_byt kN ?hm hvp ?h0 ?h1 (by omega) ?_; (case hm => k_mem); (case h0 => omega); (case h1 => omega)); intro b7 t7 hb7; (have hl7 := piece_le hR (n0.fdiv 14 |>.fmod (os.length + 1)).toNat); (try dsimp only))
  k_with "subscriptTail Name Slice ref ref" => (k_here; (with_reducible show wpAny _ _ (subscriptTail _ (PySem.Expr.Slice none (some _) none _) (Value.ref _) (Value.ref _)) _ _ _); k_dflt (refine' kmk_slice_lit ?sF ?sN ?sl ?sp ?sq (pick_to fr0) ?_ ?ss ?st ?sz; (case sF => k_asm); (case sN => k_asm); (case sl => kmk_list); (case sp => kmk_part); (case sq => kmk_part); (case ss => with_unfolding_all rfl); (case st => kmk_pure); (case sz => rw [List.size_toArray, hvo.length, sizeLine_eq]; omega); skip); intro D6 h6 F6 N6 l6; (try k_lt l6); (try k_sweep))
  k_with "subscriptTail Name Slice ref ref" => (k_here; (with_reducible show wpAny _ _ (subscriptTail _ (PySem.Expr.Slice (some _) none none _) (Value.ref _) (Value.ref _)) _ _ _); k_dflt (refine' kmk_slice_lit ?sF ?sN ?sl ?sp ?sq (pick_from fr0) ?_ ?ss ?st ?sz; (case sF => k_asm); (case sN => k_asm); (case sl => kmk_list); (case sp => kmk_part); (case sq => kmk_part); (case ss => with_unfolding_all rfl); (case st => kmk_pure); (case sz => rw [List.size_toArray, hvo.length, sizeLine_eq]; omega); skip); intro D7 h7 F7 N7 l7; (try k_lt l7); (try k_sweep))
  k_with "subscriptTail Name Slice bytes ref" => (k_here; (with_reducible show wpAny _ _ (subscriptTail _ (PySem.Expr.Slice none (some _) none _) (Value.bytes _ _) (Value.ref _)) _ _ _); (rename Fr _ _ _ _ => kF); (rename News _ _ _ _ => kN); (refine' take_sm (s := ⟨_, _, _, _, _⟩) kF kN (by assumption) ?hj (by decide) ?_; (case hj => first | exact (fmod_bd _ (delta_pos h1 (by with_reducible assumption))).1 | exact Int.add_nonneg (fmod_bd _ (delta_pos h1 (by with_reducible assumption))).1 (by decide))); (clear kF kN; intro _ _ _ _ _ _ hsC; (try dsimp only)))
  k_with "subscriptTail Name Slice bytes ref" => (k_here; (with_reducible show wpAny _ _ (subscriptTail _ (PySem.Expr.Slice (some _) none none _) (Value.bytes _ _) (Value.ref _)) _ _ _); (rename Fr _ _ _ _ => kF); (rename News _ _ _ _ => kN); (refine' drop_sm (s := ⟨_, _, _, _, _⟩) kF kN (by assumption) ?hj (by decide) ?_; (case hj => first | exact (fmod_bd _ (delta_pos h1 (by with_reducible assumption))).1 | exact Int.add_nonneg (fmod_bd _ (delta_pos h1 (by with_reducible assumption))).1 (by decide))); (clear kF kN; intro _ _ _ _ _ _ hsC; (try dsimp only)))
  k_with "binaryOp Mod int int" => (k_here; (with_reducible show wpAny _ _ (binaryOp _ (Value.int _ _) (Value.int (List.length _ : Nat) _)) _ _ _); (have hdp := delta_pos h1 (by with_reducible assumption)); k_dflt (refine mod_int' (Int.ne_of_gt hdp) ?_); clear hdp)
  k_with "binaryOp Mod int int" => (k_here; k_dflt (refine mod_int' ?mdK ?_; (case mdK => first | decide | exact Int.ne_of_gt (Int.lt_add_one_of_le (Int.natCast_nonneg _)) | exact Int.ne_of_gt (td_pos n0))))
  k_with "binaryOp Pow int int" => (k_here; (refine pow_int_small (by omega) (by omega) (by decide) ?_))
  k_with "binaryOp FloorDiv int int" => (k_here; (refine fdiv_pw 256 (by decide) (by decide) (by omega) ?_); intro _ _; (try dsimp only))
  k_with "call type:bytes" => (k_here; (with_reducible show wpAny _ _ (call (Value.type "bytes") [Value.ref _]) _ _ _); (rename Fr _ _ _ _ => kF); (rename News _ _ _ _ => kN); k_dflt (first | (refine' KBa.make_K (s := ⟨_, _, _, _, _⟩) kF kN rfl (News.isList kN (List.Mem.head _)) (.cons _ _ .nil) (one_in ?oiA ?oiB) (by decide) ?_; (case oiA => first | exact hF2.1 | decide | exact (td_bd n0).1); (case oiB => first | exact hF2.2 | decide | exact (td_bd n0).2)) | (refine' KBa.make_K (s := ⟨_, _, _, _, _⟩) kF kN rfl (News.isList kN (List.Mem.head _)) (by assumption) oct_in ?hz ?_; (case hz => rw [List.length_map, rangeKs_length]; decide))); (clear kF kN; intro _ _ _ _ _ kbaIn; (first | have hsO := make_sm (n := 1) kbaIn (Nat.le_refl _) | have hsO := make_sm (n := 7) kbaIn (by rw [List.length_map, rangeKs_length]; decide)); (try dsimp only)))
  k_with "call ref" => ((with_reducible show wpAny _ _ (call (Value.ref 71) [_, _]) _ _ _); (rename Fr _ _ _ _ => kF); (rename News _ _ _ _ => kN); k_dflt (refine' Spec.use (A₀ := aTop dp un gd l) (number2_spec w X₀ T₀ (dp + 1) (un + 3) gd _ ?hdp ?h0 ?h1 (by decide) (by decide)) B kF kN _ (fun _ h => nomatch h) (fun _ h => h) (fun _ _ _ h => nomatch h) rfl rfl ?_ ?_; (case hdp => omega); (case h0 => first | decide | omega | ((repeat' split) <;> omega)); (case h1 => first | decide | omega | ((repeat' split) <;> omega)); skip); (rotate_left); (intro e9 h9 tk9 n9 g9 hx9; exact hx9.elim); (intro v9 h9 tk9 n9 hr9 F9 N9 ap9; (try dsimp only); (try k_fold)); obtain ⟨c9, cnt9, t9, rfl, rfl, hk9, hlo9, hhi9, hlt9⟩ := hr9; (have hS9 := num_sm hk9 hhi9); clear ap9; dsimp only [List.cons_append, List.nil_append] at N9; (try k_fold))
  k_with "call ref" => ((with_reducible show wpAny _ _ (call (Value.ref 76) [_, _, _]) _ _ _); (rename Fr _ _ _ _ => kF); (rename News _ _ _ _ => kN); k_dflt (refine' Spec.use (A₀ := aTop dp un gd l) (copy2_spec w X₀ T₀ (dp + 1) (un + 3) gd _ ?hdp ?h0 ?h1 ?m0 ?m1) B kF kN _ (fun _ h => nomatch h) (fun _ h => h) (fun _ _ _ h => nomatch h) rfl rfl ?_ ?_; (case hdp => omega); (case h0 => first | decide | omega | ((repeat' split) <;> omega)); (case h1 => first | decide | omega | ((repeat' split) <;> omega)); (case m0 => first | decide | omega | ((repeat' split) <;> omega)); (case m1 => first | decide | omega | ((repeat' split) <;> omega)); skip); (rotate_left); (intro e9 h9 tk9 n9 g9 hx9; exact hx9.elim); (intro v9 h9 tk9 n9 hr9 F9 N9 ap9; (try dsimp only); (try k_fold)); obtain ⟨c9, t9, rfl, rfl, hk9⟩ := hr9; (have hS9 := copy_sm hk9); clear ap9; dsimp only [List.cons_append, List.nil_append] at N9; (try k_fold))
  k_with "call ref" => ((with_reducible show wpAny _ _ (call (Value.ref 59) [_, _]) _ _ _); (rename Fr _ _ _ _ => kF); (rename News _ _ _ _ => kN); k_dflt (refine' Spec.use (A₀ := aTop dp un gd l) (text2_spec w X₀ T₀ (dp + 1) (un + 3) gd _ ?hdp ?h0 ?h1 ?h2) B kF kN _ (fun _ h => nomatch h) (fun _ h => h) (fun _ _ _ h => nomatch h) rfl rfl ?_ ?_; (case hdp => omega); (case h0 => exact FX.1); (case h1 => exact (fmod_bd _ (td_pos n0)).1); (case h2 => exact Int.le_trans (Int.le_of_lt (fmod_bd _ (td_pos n0)).2) (Int.le_trans (td_le n0) (by decide))); skip); (rotate_left); (intro e9 h9 tk9 n9 g9 hx9; exact hx9.elim); (intro v9 h9 tk9 n9 hr9 F9 N9 ap9; (try dsimp only); (try k_fold)); obtain ⟨c8, ks8, t8, rfl, rfl, hk8, hl8⟩ := hr9; (have hS8 : SmB c8 ks8 126 126 := SmB.of_len hk8 (tx_len hl8)); clear ap9; dsimp only [List.cons_append, List.nil_append] at N9; (try k_fold))
  k_with "eval IfExp" => (k_here; (fail_if_success (have h9 := inS)); (with_reducible show wpAny _ _ (eval (Expr.IfExp (Expr.Compare _ _ _ _) (Expr.BinOp _ _ _ _) (Expr.BinOp _ _ _ _) _) _) _ _ _); (rename Fr _ _ _ _ => kF); (rename News _ _ _ _ => kN); k_dflt (refine' cut_val _ (IntB 4294967295) kF kN (fun _ h => h) ?_ ?_); (rotate_left); (clear kF kN; intro v7 h7 tk7 hO7 F7 N7; unfold IntB at hO7; obtain ⟨sta, stat, rfl, sta0, sta1⟩ := hO7; (try k_fold)); (rotate_left); ((have inS : True := trivial); (try k_fold)))
  k_with "eval IfExp" => (k_here; (fail_if_success (have h9 := inT)); (with_reducible show wpAny _ _ (eval (Expr.IfExp _ (Expr.Constant (Const.int 0) _ _) _ _) _) _ _ _); (rename Fr _ _ _ _ => kF); (rename News _ _ _ _ => kN); k_dflt (refine' cut_val _ (IntB 131083) kF kN (fun _ h => h) ?_ ?_); (rotate_left); (clear kF kN; intro v7 h7 tk7 hO7 F7 N7; unfold IntB at hO7; obtain ⟨tol, tolt, rfl, tol0, tol1⟩ := hO7; (try k_fold)); (rotate_left); ((have inT : True := trivial); (try k_fold)))
  k_with "eval IfExp" => (k_here; (fail_if_success (have h9 := inG)); (with_reducible show wpAny _ _ (eval (Expr.IfExp _ (Expr.Constant (Const.int 65536) _ _) _ _) _) _ _ _); (rename Fr _ _ _ _ => kF); (rename News _ _ _ _ => kN); k_dflt (refine' cut_val _ (IntB 131083) kF kN (fun _ h => h) ?_ ?_); (rotate_left); (clear kF kN; intro v7 h7 tk7 hO7 F7 N7; unfold IntB at hO7; obtain ⟨gre, gret, rfl, gre0, gre1⟩ := hO7; (try k_fold)); (rotate_left); ((have inG : True := trivial); (try k_fold)))
  k_with "eval IfExp" => (k_here; (fail_if_success (have h9 := inN)); (with_reducible show wpAny _ _ (eval (Expr.IfExp _ (Expr.Name _ _) _ _) _) _ _ _); (rename Fr _ _ _ _ => kF); (rename News _ _ _ _ => kN); k_dflt (refine' cut_val _ (IntB 71428571428571428) kF kN (fun _ h => h) ?_ ?_); (rotate_left); (clear kF kN; intro v7 h7 tk7 hO7 F7 N7; unfold IntB at hO7; obtain ⟨num, numt, rfl, num0, num1⟩ := hO7; (try k_fold)); (rotate_left); ((have inN : True := trivial); (try k_fold)))
  k_with "RowEnd" => ((rename Fr _ _ _ _ => kF); (rename News _ _ _ _ => kN); k_dflt (refine' row_end kF kN (by walk_at "sub") (int_b ?ib0 ?ib1); (case ib0 => first | decide | omega | ((repeat' split) <;> omega)); (case ib1 => first | decide | omega | ((repeat' split) <;> omega))))
  k_steps
  all_goals first
   | exact hret _ _ _ _ ⟨_, _, rfl, rfl, SpoOk.of (by with_reducible assumption) (by decide) (by decide)⟩ (Fr.keep (by assumption)) (Led.sub (Led.of_news (by assumption)) (by walk_at "sub"))
   | exact hret _ _ _ _ ⟨_, _, rfl, rfl, SpoOk.none (by with_reducible assumption) (by decide) (spo_short hbl hR h1 (by omega) e1 (spo_fits FX) (Int.sub_zero cnt9 ▸ hlt9) (td_le n0) (tx_lt hl8))⟩ (Fr.keep (by assumption)) (Led.sub (Led.of_news (by assumption)) (by walk_at "sub"))
end Mine
section
local macro_rules | `(tactic| omega) => `(tactic| lia)
open PySem PySem.W PyProof.Rows PySem.Calls PySem.Spec
namespace Mine
set_option maxRecDepth 100000
/-- lists, tuples, cells, list iterators: none of them stands in the table of code objects -/
noncomputable def Plain (o : Obj) : Prop := (∃ xs n, o.data = .seq xs n) ∨ (∃ v, o.data = .cell v) ∨ ((∃ c, o.cls = .type c) ∧ ∃ l i, o.data = .fields #[.ref l, .int i 0])
theorem tab_plain {n : List (Addr × Obj)} (h : TabAny n) : ∀ r ∈ n, ¬ Plain r.2 := by
  have code : ∀ {q oc}, CodeOk q oc → ¬ Plain oc := by
    rintro q oc ⟨vs, t, h1, h2⟩ (⟨xs, k, e⟩ | ⟨v, e⟩ | ⟨_, l, i, e⟩)
    · rw [h1] at e; cases e
    · rw [h1] at e; cases e
    · rw [h1] at e; cases e; cases h2
  have tab : ∀ ps, ¬ Plain (tabObj ps) := by
    rintro ps (⟨xs, k, e⟩ | ⟨v, e⟩ | ⟨⟨c, e⟩, _⟩)
    · cases e
    · cases e
    · cases e
  intro r hr
  rcases h with rfl | ⟨c1, oc1, c2, oc2, rfl, k1, k2, _⟩
  · rw [List.mem_singleton.mp hr]; exact tab _
  · rcases List.mem_cons.mp hr with rfl | hr
    · exact tab _
    · rcases List.mem_cons.mp hr with rfl | hr
      · exact code k1
      · rw [List.mem_singleton.mp hr]; exact code k2
theorem plain_off {g h : Heap} {L : Addr} {news n rest : List (Addr × Obj)} (N : News g L h news) (hr : ∀ q ∈ rest, q ∈ news) (hl : ∀ q ∈ rest, Plain q.2) (hn : ∀ q ∈ n, q ∈ news) (hT : TabAny n) : ∀ q ∈ rest, ∀ r ∈ n, q.1 ≠ r.1 := fun q hq r hr' e => by
  have e1 := (N q (hr q hq)).1
  have e2 := (N r (hn r hr')).1
  rw [e] at e1
  rw [e1] at e2
  exact tab_plain hT r hr' (Option.some.inj e2 ▸ hl q hq)
theorem plain_lst {vs : Array Value} {n : Nat} : Plain (listOf vs n) := .inl ⟨_, _, rfl⟩
theorem plain_cell {o : Obj} {v : Option Value} (h : o.data = .cell v) : Plain o := .inr (.inl ⟨_, h⟩)
section
variable {prog : Program} {w : World} {A : Around} {E : Value → Shared → Prop} {Q : Flow → Shared → Prop} {s : Shared} {env : Env} {h₀ : Heap} {L : Addr} {body : List Stmt} {news : List (Addr × Obj)}
/-- what a turn leaves: the names but x, the kept objects, the table -/
noncomputable def NumPost (h₀ : Heap) (L : Addr) (x : Str) (I : Addr × Obj) (keep : List (Addr × Obj)) (m₀ : Str → Option Value) (s : Shared) (Q : Flow → Shared → Prop) (f : Flow) (s₂ : Shared) : Prop :=
  match f with
  | .ret v => Q (.ret v) s₂
  | .brk => Q .next s₂
  | _ => ∃ h' tk m' n', s₂ = { s with heap := h', toks := tk } ∧ Fr h₀ L h' m' ∧ News h₀ L h' (I :: (keep ++ n')) ∧ Tab n' ∧ ∀ z, z ≠ x → m' z = m₀ z
theorem num_post {x : Str} {I : Addr × Obj} {keep news' n' : List (Addr × Obj)} {m₀ m' : Str → Option Value} {h' : Heap} {tk : Nat} (F : Fr h₀ L h' m') (N : News h₀ L h' news') (hT : Tab n') (a1 : ∀ q ∈ I :: keep, q ∈ news') (a2 : ∀ q ∈ n', q ∈ news') (hm : ∀ z, z ≠ x → m' z = m₀ z) :
    NumPost h₀ L x I keep m₀ s Q .next { s with heap := h', toks := tk } :=
  ⟨_, _, _, _, rfl, F, fun q hq => by
    rcases List.mem_cons.mp hq with rfl | hq
    · exact N _ (a1 _ (.head _))
    · rcases List.mem_append.mp hq with hq | hq
      · exact N _ (a1 _ (.tail _ hq))
      · exact N _ (a2 _ hq), hT, hm⟩
theorem for_gen {x : Str} {l : Addr} {ol : Obj} {n : Nat} {I0 : Obj} {P : Value → Prop} {R : Nat → Value → Prop} {St : Nat → Heap → Prop} {m₀ : Str → Option Value} {n0 : List (Addr × Obj)} (keep : List (Addr × Obj))
    (hit : ∀ Qv : Value → Shared → Prop, Qv (.ref s.heap.objs.size) { s with heap := s.heap.push I0 } → wpAny (model prog w) A (pyIter (.ref l)) Qv E s) (W : Walks prog w A s.heap.objs.size [s.heap.objs.size, l] [s.heap.objs.size] n R St) (hSt0 : St 0 (s.heap.push I0)) (hStI : ∀ i h, St i h → ∃ oI, h.get? s.heap.objs.size = some oI ∧ Plain oI) (hi : ∀ i v, R i v → P v) (F : Fr h₀ env.locals s.heap m₀) (N : News h₀ env.locals s.heap news) (hl : (l, ol) ∈ keep) (hk : ∀ q ∈ keep, q ∈ news) (hn0 : ∀ q ∈ n0, q ∈ news) (hT : Tab n0)
    (turn : ∀ v h tk n1 I oI, P v → Tab n1 → Plain oI → (∀ q ∈ keep, q.1 ≠ I) →
      Fr h₀ env.locals h (fun y => if y = x then some v else m₀ y) → News h₀ env.locals h ((I, oI) :: (keep ++ n1)) →
      wpAny (model prog w) A (execs body env) (NumPost h₀ env.locals x (I, oI) keep m₀ { s with heap := h, toks := tk } Q) E { s with heap := h, toks := tk })
    (done : ∀ h tk n1 m1, Tab n1 → (∀ z, z ≠ x → m1 z = m₀ z) → Fr h₀ env.locals h m1 → News h₀ env.locals h (keep ++ n1) → Q .next { s with heap := h, toks := tk }) :
    wpAny (model prog w) A (pyIter (.ref l)) (fun it s₂ => LoopAtV prog w A h₀ env x body Q E it s₂) E s := by
  have hol : s.heap.get? l = some ol := (N _ (hk _ hl)).1
  refine hit _ ?_
  have N0 : News h₀ env.locals s.heap (keep ++ n0) := fun q hq => (List.mem_append.mp hq).elim (fun h => N q (hk q h)) (fun h => N q (hn0 q h))
  refine ⟨_, _, _, n, _, _, m₀, keep ++ n0, (fun i m nx => ∃ n1, nx = keep ++ n1 ∧ Tab n1 ∧ ∀ z, z ≠ x → m z = m₀ z), rfl, W, ?_, ?_, ?_, hSt0, F.push _, (fun p hp => ⟨Heap.get?_push_of_some _ (N0 p hp).1, (N0 p hp).2⟩), ⟨n0, rfl, hT, fun _ _ => rfl⟩, ?_, ?_⟩
  · intro hm
    rcases List.mem_cons.mp hm with e | hm
    · exact absurd F.ns.lt (e ▸ Nat.lt_irrefl _)
    · exact (N _ (hk _ hl)).2.1 ((List.mem_singleton.mp hm).symm)
  · intro b hb
    rw [List.mem_singleton.mp hb]
    exact next_is_new F
  · intro p hp hI
    exact absurd (Heap.lt_size (N0 p hp).1) ((List.mem_singleton.mp hI) ▸ Nat.lt_irrefl _)
  · rintro i v m₁ news₁ s₁ own ⟨hh', tk', rfl⟩ hin hP ⟨n1, rfl, hT1, hm⟩ hoff hown hget hfp hSt F₁ N₁
    have hPv : P v := hi i v hP
    obtain ⟨oI, hI, hIp⟩ := hStI _ _ hSt
    have hIm := hfp s.heap.objs.size (List.Mem.head _) (next_is_new F) _ hI
    have N₂ : News h₀ env.locals hh' ((s.heap.objs.size, oI) :: (keep ++ n1)) := fun p hp => by
      rcases List.mem_cons.mp hp with rfl | hp
      · exact N₁ _ (List.mem_append_left _ hIm)
      · exact N₁ _ (List.mem_append_right _ hp)
    have hlo : hh'.get? l = some ol := (N₁ _ (List.mem_append_right _ (List.mem_append_left _ hl))).1
    have eF : (fun y => if y = x then some v else m₁ y) = fun y => if y = x then some v else m₀ y := by
      funext y
      by_cases hy : y = x
      · rw [if_pos hy, if_pos hy]
      · rw [if_neg hy, if_neg hy, hm y hy]
    rw [eF] at F₁
    have hoffk : ∀ q ∈ keep, q.1 ≠ s.heap.objs.size := fun q hq e => hoff q (List.mem_append_left _ hq) (List.mem_singleton.mpr e)
    refine wpAny_mono (turn v hh' tk' n1 s.heap.objs.size oI hPv hT1 hIp hoffk F₁ N₂) (fun f s₂ p => ?_) fun _ _ e => e
    have fin : NumPost h₀ env.locals x (s.heap.objs.size, oI) keep m₀ { s with heap := hh', toks := tk' } Q .next s₂ →
        LoopStepU h₀ env.locals [s.heap.objs.size] own (fun m nx => ∃ n1, nx = keep ++ n1 ∧ Tab n1 ∧ ∀ z, z ≠ x → m z = m₀ z) { s with heap := hh', toks := tk' } .next s₂ := by
      rintro ⟨h', tk, m', n', e, F', N', hT', hm'⟩
      have gI := (N' _ (List.Mem.head _)).1
      refine ⟨rfl, h', tk, m', keep ++ n', e, F', fun p hp => ?_, fun p hp hI' => ?_, n', rfl, hT', hm'⟩
      · rcases List.mem_append.mp hp with h | h
        · have h2 : hh'.get? p.1 = some p.2 := hget p h
          rcases List.mem_cons.mp (hown p h) with h1 | h1
          · have h3 : p = (s.heap.objs.size, oI) := Prod.ext h1 (by rw [h1, hI] at h2; exact (Option.some.inj h2).symm)
            rw [h3]
            exact N' _ (List.Mem.head _)
          · have h1 := List.mem_singleton.mp h1
            have h3 : p = (l, ol) := Prod.ext h1 (by rw [h1, hlo] at h2; exact (Option.some.inj h2).symm)
            rw [h3]
            exact N' _ (List.Mem.tail _ (List.mem_append_left _ hl))
        · exact N' p (List.Mem.tail _ h)
      · have hI' := List.mem_singleton.mp hI'
        rcases List.mem_append.mp hp with h | h
        · exact hoffk p h hI'
        · have g1 := (N' p (List.Mem.tail _ (List.mem_append_right _ h))).1
          rw [hI'] at g1
          have gI' : h'.get? s.heap.objs.size = some oI := gI
          rw [gI'] at g1
          exact tab_plain (.inr hT') p h (Option.some.inj g1 ▸ hIp)
    cases f with
    | ret v => exact .ret p
    | brk => exact .brk p
    | next => exact .next (fin p)
    | cont => exact .cont (fin p)
  · rintro h' tk' m' news' F' N' _ ⟨n1, rfl, hT1, hm⟩
    exact done h' tk' n1 m' hT1 hm F' N'
theorem for_tab {x : Str} {l : Addr} {vs : List Value} {ns : List Int} {nn : Nat} {m₀ : Str → Option Value} {n0 : List (Addr × Obj)} (keep : List (Addr × Obj))
    (hh : A.handled = none) (hi : IntsAre vs ns) (F : Fr h₀ env.locals s.heap m₀) (N : News h₀ env.locals s.heap news) (hl : (l, listOf vs.toArray nn) ∈ keep) (hk : ∀ q ∈ keep, q ∈ news) (hn0 : ∀ q ∈ n0, q ∈ news) (hT : Tab n0)
    (turn : ∀ n t h tk n1 I oI, n ∈ ns → Tab n1 → Plain oI → (∀ q ∈ keep, q.1 ≠ I) →
      Fr h₀ env.locals h (fun y => if y = x then some (.int n t) else m₀ y) → News h₀ env.locals h ((I, oI) :: (keep ++ n1)) →
      wpAny (model prog w) A (execs body env) (NumPost h₀ env.locals x (I, oI) keep m₀ { s with heap := h, toks := tk } Q) E { s with heap := h, toks := tk })
    (done : ∀ h tk n1 m1, Tab n1 → (∀ z, z ≠ x → m1 z = m₀ z) → Fr h₀ env.locals h m1 → News h₀ env.locals h (keep ++ n1) → Q .next { s with heap := h, toks := tk }) :
    wpAny (model prog w) A (pyIter (.ref l)) (fun it s₂ => LoopAtV prog w A h₀ env x body Q E it s₂) E s := by
  have hol : s.heap.get? l = some (listOf vs.toArray nn) := (N _ (hk _ hl)).1
  have hls : s.heap.IsList l vs.toArray := ⟨_, hol, rfl, nn, rfl⟩
  have hne : l ≠ s.heap.objs.size := Nat.ne_of_lt (Heap.lt_size hol)
  refine for_gen keep (P := fun v => ∃ n t, v = .int n t ∧ n ∈ ns) (fun Qv h => wpAny_pyIter_list hls h) (Walks.list (prog := prog) (w := w) hh s.heap.objs.size l hne vs.toArray) ⟨⟨_, Heap.get?_push_size _ rfl, rfl, rfl⟩, hls.at fun o e => Heap.get?_push_of_some _ e⟩ (fun i h st => ?_) (fun i v hv => ?_) F N hl hk hn0 hT (fun v h tk n1 I oI hv => ?_) done
  · obtain ⟨⟨oI, hI, hIc, hId⟩, _⟩ := st
    exact ⟨oI, hI, .inr (.inr ⟨⟨_, hIc⟩, _, _, hId⟩)⟩
  · obtain ⟨n, t, e, hn⟩ := IntsAre.at hi i v (by simpa using hv)
    exact ⟨n, t, e, List.mem_of_getElem? hn⟩
  · obtain ⟨n, t, rfl, hn⟩ := hv
    exact turn n t h tk n1 I oI hn
theorem for_tup {x : Str} {l : Addr} {vs : List Value} {P : Value → Prop} {m₀ : Str → Option Value} {n0 : List (Addr × Obj)} (keep : List (Addr × Obj))
    (hh : A.handled = none) (hi : ∀ v ∈ vs, P v) (F : Fr h₀ env.locals s.heap m₀) (N : News h₀ env.locals s.heap news) (hl : (l, tupO vs) ∈ keep) (hk : ∀ q ∈ keep, q ∈ news) (hn0 : ∀ q ∈ n0, q ∈ news) (hT : Tab n0)
    (turn : ∀ v h tk n1 I oI, P v → Tab n1 → Plain oI → (∀ q ∈ keep, q.1 ≠ I) →
      Fr h₀ env.locals h (fun y => if y = x then some v else m₀ y) → News h₀ env.locals h ((I, oI) :: (keep ++ n1)) →
      wpAny (model prog w) A (execs body env) (NumPost h₀ env.locals x (I, oI) keep m₀ { s with heap := h, toks := tk } Q) E { s with heap := h, toks := tk })
    (done : ∀ h tk n1 m1, Tab n1 → (∀ z, z ≠ x → m1 z = m₀ z) → Fr h₀ env.locals h m1 → News h₀ env.locals h (keep ++ n1) → Q .next { s with heap := h, toks := tk }) :
    wpAny (model prog w) A (pyIter (.ref l)) (fun it s₂ => LoopAtV prog w A h₀ env x body Q E it s₂) E s := by
  have hol : s.heap.get? l = some (tupO vs) := (N _ (hk _ hl)).1
  have hls : s.heap.IsTuple l vs.toArray := ⟨_, hol, rfl, 0, rfl⟩
  have hne : l ≠ s.heap.objs.size := Nat.ne_of_lt (Heap.lt_size hol)
  refine for_gen keep (P := P) (fun Qv h => wpAny_pyIter_tuple hls h) (Walks.tuple (prog := prog) (w := w) hh s.heap.objs.size l hne vs.toArray) ⟨⟨_, Heap.get?_push_size _ rfl, rfl, rfl⟩, hls.at fun o e => Heap.get?_push_of_some _ e⟩ (fun i h st => ?_) (fun i v hv => hi v (List.mem_of_getElem? (by simpa using hv))) F N hl hk hn0 hT turn done
  obtain ⟨⟨oI, hI, hIc, hId⟩, _⟩ := st
  exact ⟨oI, hI, .inr (.inr ⟨⟨_, hIc⟩, _, _, hId⟩)⟩
theorem ne_ints {b c : Array UInt8} {t u : Tok} {ks : List Int} {QV : Value → Shared → Prop} (hb : KBw.bInts b = ks) (hc : KBw.bInts c = ks) (h : QV (.bool false) s) : wpAny (model prog w) A (compareOp .NotEq (.bytes b t) (.bytes c u)) QV E s := by
  obtain rfl := ints_inj (hb.trans hc.symm)
  exact ne_same h
theorem eq_ints {b c : Array UInt8} {t u : Tok} {ks : List Int} {QV : Value → Shared → Prop} (hb : KBw.bInts b = ks) (hc : KBw.bInts c = ks) (h : QV (.bool true) s) : wpAny (model prog w) A (compareOp .Eq (.bytes b t) (.bytes c u)) QV E s := by
  obtain rfl := ints_inj (hb.trans hc.symm)
  exact eq_bytes (by simpa using h)
theorem ne_num {a b : Int} {t u : Tok} {QV : Value → Shared → Prop} (e : a = b) (h : QV (.bool false) s) : wpAny (model prog w) A (compareOp .NotEq (.int a t) (.int b u)) QV E s := ne_int (by rw [e]; simpa using h)
end
end Mine
open PySem PySem.W PyProof.Rows PySem.Calls PySem.Spec
namespace Mine
set_option maxRecDepth 100000
set_option maxHeartbeats 4000000 in
/-- `chunks_length` of bytes -/
theorem chunks_bytes (w : World) {p : Program} {loose : List Str} {mean : ExcName → Option Value} {mg mb : Str → Option Value}
   {base : Heap} (X₀ : (hd.heap_1 w.params).In base) (T₀ : Top p loose mean mg mb base)
   (dp un : Nat) (gd : Option (List Code)) (l : List Env) (hdp : dp + 15 < recursionLimit)
   {b : Array UInt8} {ks : List Int} {t0 : Tok} (hk : KBw.bInts b = ks) (hz : ks.length ≤ 16777216) :
   Spec PySem.Challenge.rw_jq0004_02.row.prog w (aTop dp un gd l) base l (.ref 40) [.bytes b t0] []
     (fun v n' => ∃ t, v = .int (ks.length : Nat) t ∧ n' = []) (.ref 32) (fun _ => False) := by
  have hfill : (fun _ : OpenLaw => hd.heap_1) PySem.Challenge.rw_jq0004_02 = hd.heap_1 := by (k_fill; rfl)
  clear hfill
  intro g s Q E B hg hsz N hret hexc
  have X := X₀.keeps B.stays
  have T := T₀.keeps B.stays
  all_goals refine wpAny_call ?_
  all_goals k_dflt (refine' enter_def hg hsz N X T ?k6 ?k7 ?k8 ?k9 ?kB ?_ ?c2 ?c3 ?c4 ?c5; (case k6 => k_is); (case k7 => k_is); (case k8 => ktr_room); (case k9 => exact BindsTo.of_eq rfl); (case c5 => decide); (case kB => exact locs rfl); (case c2 => exact rfl); (case c3 => exact rfl); (case c4 => exact rfl); k_whole; intro L' h' F' N' l1; (try k_lt l1); (try dsimp only); (try k_fold))
  k_with_none
  k_with "execs cons" => k_fold
  k_with "eval Call" => k_fold
  k_with "storeName" => (k_here; k_dflt (first | (refine' storeI_L ?F ?N ?_ ?a ?b; (case F => k_asm); (case N => k_asm); (case a => rfl); (case b => rfl); k_whole; intro h' tk' t' F' N'; (try k_sweep); (try dsimp only); (try k_fold)) | (refine' storeB_L ?F ?N ?_ ?a ?b; (case F => k_asm); (case N => k_asm); (case a => rfl); (case b => rfl); k_whole; intro h' tk' t' F' N'; (try k_sweep); (try dsimp only); (try k_fold)) | (refine' storeG_L ?F ?N ?_ ?a ?b; (case F => k_asm); (case N => k_asm); (case a => rfl); (case b => rfl); k_whole; intro h' tk' F' N'; (try k_sweep); (try dsimp only); (try k_fold))))
  k_with "sub" => (exact fun q9 hq9 => List.Sublist.subset (by with_reducible (repeat (first | exact List.Sublist.refl _ | exact List.nil_sublist _ | refine List.Sublist.cons_cons _ ?_ | refine List.Sublist.cons _ ?_))) hq9)
  k_with "call builtin:len" => (k_here; (with_reducible show wpAny _ _ (call (Value.builtin "len") [Value.bytes _ _]) _ _ _); (refine len_b hk (by omega) ?_); intro _ _; (try dsimp only))
  k_steps
  all_goals exact hret _ _ _ _ ⟨_, rfl, rfl⟩ (Fr.keep (by assumption)) (Led.nil)
end Mine
open PySem PySem.W PyProof.Rows PySem.Calls PySem.Spec
namespace Mine
set_option maxRecDepth 100000
theorem three_flat (ks : List Int) (i : Nat) : [ks.take i, [], ks.drop i].flatten = ks := by simp
theorem lst_arg {ex : List (Addr × Obj)} {D : Addr} {vs : List Value} {cs : List (List Int)} {ks : List Int} {k : Nat} (hm : (D, listOf (List.toArray vs) k) ∈ ex) (hv : BytesAre vs cs) (hf : cs.flatten = ks) : BArg ex (.ref D) ks := .inr ⟨D, _, _, k, rfl, hm, hv, hf⟩
theorem byt_arg {ex : List (Addr × Obj)} {b : Array UInt8} {t : Tok} {ks : List Int} (h : KBw.bInts b = ks) : BArg ex (.bytes b t) ks := .inl ⟨_, _, rfl, h⟩
theorem tab_off {g h : Heap} {L : Addr} {news n rest : List (Addr × Obj)} (N : News g L h news) (hr : ∀ q ∈ rest, q ∈ news) (hl : ∀ q ∈ rest, Plain q.2) (hn : ∀ q ∈ n, q ∈ news) (hT : TabAny n) : ∀ q ∈ n, ∀ r ∈ rest, q.1 ≠ r.1 := fun q hq r hr' e => plain_off N hr hl hn hT r hr' q hq e.symm
/-- another base: its length is off -/
noncomputable def OthOk (bk : List Int) (v : Value) : Prop := ∃ c t, v = .bytes c t ∧ (KBw.bInts c).length ≠ bk.length ∧ (KBw.bInts c).length ≤ bk.length + 1
theorem oth_more {bk : List Int} {c : Array UInt8} {t : Tok} {x : Int} (h : KBw.bInts c = bk ++ [x]) : OthOk bk (.bytes c t) := ⟨c, t, rfl, by rw [h]; simp, by rw [h]; simp⟩
theorem len_pos' {b : Array UInt8} {bk : List Int} (h : (b.toList != #[].toList) = true) (hk : KBw.bInts b = bk) : 0 < (bk.length : Int) := by
  subst hk
  rw [KBw.ints_length]
  rcases Nat.eq_zero_or_pos b.size with e | e
  · rw [Array.size_eq_zero_iff.mp e] at h; cases h
  · omega
theorem oth_less {b c : Array UInt8} {bk : List Int} {t : Tok} (h : (b.toList != #[].toList) = true) (hk : KBw.bInts b = bk) (hc : KBw.bInts c = bk.take ((bk.length : Int) - 1).toNat) : OthOk bk (.bytes c t) := by
  have := len_pos' h hk
  exact ⟨c, t, rfl, by rw [hc, List.length_take]; omega +splitDisjunctions, by rw [hc, List.length_take]; omega +splitDisjunctions⟩
theorem oth_one {b c : Array UInt8} {bk : List Int} {t : Tok} {x : Int} (h : (b.toList != #[].toList) = false) (hk : KBw.bInts b = bk) (hc : KBw.bInts c = [x]) : OthOk bk (.bytes c t) := by
  have e : b.toList = [] := by simpa using h
  have e0 : b = #[] := by rw [← b.toArray_toList, e]
  subst e0
  subst hk
  exact ⟨c, t, rfl, by rw [hc, KBw.ints_length]; simp, by rw [hc, KBw.ints_length]; simp⟩
theorem oth_none {bk r0 : List Int} {c : Array UInt8} {c1 : Int} (h1 : 1 ≤ c1) (e1 : (bk.length : Int) < 128 ^ c1.toNat) (h : (KBw.bInts c).length ≠ bk.length) : readDelta (KBw.bInts c) (numK bk.length c1 ++ r0) = none := delta_other (by omega) h1 e1 (by omega)
theorem none_big {bk dk : List Int} (h : readDelta bk dk = none) : ∀ t, readDelta bk dk = some t → t.length ≤ 16777216 := fun t e => by rw [h] at e; cases e
theorem outV_none {o : Option (List Int)} {v : Value} (h : OutV o v) (e : o = none) : v = .none := by
  rcases h with ⟨r, _⟩ | ⟨b, t, _, x⟩
  · exact r
  · rw [e] at x; cases x
theorem arg_cons {ex : List (Addr × Obj)} {x : Addr × Obj} {v : Value} {ks : List Int} (h : BArg ex v ks) : BArg (x :: ex) v ks := by
  rcases h with h | ⟨l, vs, cs, nn, e, hm, r⟩
  · exact .inl h
  · exact .inr ⟨l, vs, cs, nn, e, .tail _ hm, r⟩
theorem tab_end {g h : Heap} {L : Addr} {news n : List (Addr × Obj)} (N : News g L h news) (hT : Tab n) (hn : ∀ q ∈ n, q ∈ news) : ∃ qs, News g L h [(42, tabObj qs)] := by
  obtain ⟨c1, oc1, c2, oc2, rfl, _⟩ := hT
  exact ⟨_, fun q hq => by rw [List.mem_singleton.mp hq]; exact N _ (hn _ (.head _))⟩
theorem lst_apart {g h : Heap} {L : Addr} {news keep n1 : List (Addr × Obj)} {x : Addr × Obj} (N : News g L h news) (hx : x ∈ news) (hxp : Plain x.2) (hT : Tab n1) (hn : ∀ q ∈ n1, q ∈ news) (ap : ∀ q ∈ (x :: n1), ∀ r ∈ keep, q.1 ≠ r.1) : ∀ q ∈ keep ++ n1, ∀ r ∈ [x], q.1 ≠ r.1 := fun q hq r hr => by
  rw [List.mem_singleton.mp hr]
  rcases List.mem_append.mp hq with h | h
  · exact fun e => ap _ (.head _) q h e.symm
  · exact fun e => plain_off N (rest := [x]) (fun q hq => by rw [List.mem_singleton.mp hq]; exact hx) (fun q hq => by rw [List.mem_singleton.mp hq]; exact hxp) hn (.inr hT) x (.head _) q h e.symm
set_option maxHeartbeats 8000000 in
/-- the law from its apply_delta(source, parts) on -/
theorem law_end2 (w : World) {p : Program} {loose : List Str} {mean : ExcName → Option Value} {mg mb : Str → Option Value}
   {oc od0 : _} {osl : _} {nm ql : Str} {pa : Arguments} {bd : List Stmt} {sc : Scope} {dV kV dc pm0 cdv ct fc : Value} {an : Option Addr} {fa : Addr}
   (hK : List.lookup 132 (hd.heap_1 w.params) = some ⟨oc, od0, .func (fnOf nm ql pa bd sc dV kV dc pm0 an cdv ct), osl⟩)
   {g0 : Heap} (X : (hd.heap_1 w.params).In g0) (T : Top p loose mean mg mb g0) (codeHd : CodeHd g0 46 42) (B : Below callerA g0 [] g0)
   {s : Shared} {L lo lp ln ls lr : Addr} {ob : Obj} {m : Str → Option Value} {b tg f c d : Array UInt8} {tb tt tf tc td ti tj : Tok} {bk sk dk r0 qs : List Int} {os ps : List (List Int)} {vo vp us v1 v2 : List Value} {no np nn n1 n2 : Nat} {i j c1 : Int} {nT : List (Addr × Obj)}
   (F : Fr g0 L s.heap (kstB m [(Str.ofString "octets", .ref lo), (Str.ofString "pieces", .ref lp), (Str.ofString "target", .bytes tg tt), (Str.ofString "front", .bytes f tf), (Str.ofString "second", .bytes c tc), (Str.ofString "delta", .bytes d td), (Str.ofString "numbers", .ref ln), (Str.ofString "i", .int i ti), (Str.ofString "j", .int j tj), (Str.ofString "source", .ref ls), (Str.ofString "parts", .ref lr)]))
   (N : News g0 L s.heap ((L + 1, ob) :: (lo, listOf (List.toArray vo) no) :: (lp, listOf (List.toArray vp) np) :: (ln, listOf (List.toArray us) nn) :: (ls, listOf (List.toArray v1) n1) :: (lr, listOf (List.toArray v2) n2) :: nT))
   (hT : Tab nT) (hob : ob.data = .cell (some (.bytes b tb)))
   (hbk : KBw.bInts b = bk) (hbl : bk.length ≤ 131079) (h1 : 1 ≤ c1) (h1' : c1 ≤ 11) (e1 : (bk.length : Int) < 128 ^ c1.toNat) (hf : KBw.bInts f = numK bk.length c1) (hsk : SmB c sk 11 11) (hR : RowsOkL bk os ps) (hol : os.length ≤ 4) (hvo : BytesAre vo os) (hvp : BytesAre vp ps)
   (htg : KBw.bInts tg = ps.flatten) (hdk : KBw.bInts d = dk) (hdl : dk.length ≤ 1800) (hdf : dk = numK bk.length c1 ++ r0) (hrd : readDelta bk dk = some ps.flatten) (hpl : ps.flatten.length ≤ 524824)
   (hus : IntsAre us qs) (hqs : ∀ q ∈ qs, 0 ≤ q ∧ q < 1000000000000000000) (hql : qs.length ≤ 8) (hi : 0 ≤ i) (hj : 0 ≤ j) (hv1 : BytesAre v1 [bk.take i.toNat, bk.drop i.toNat]) (hv2 : BytesAre v2 [dk.take j.toNat, [], dk.drop j.toNat])
   (a1 : @Ne Nat ln lo) (a2 : @Ne Nat ln lp) (a3 : @Ne Nat ls lo) (a4 : @Ne Nat ls lp) (a5 : @Ne Nat lr lo) (a6 : @Ne Nat lr lp) (a7 : @Ne Nat (L + 1) lo) (a8 : @Ne Nat (L + 1) lp)
   {Pn : Flow → Shared → Prop} {E : Value → Shared → Prop}
   (hP : ∀ h' tk m' qs, Fr g0 L h' m' → News g0 L h' [(42, tabObj qs)] → Pn (.ret (.bool true)) { s with heap := h', toks := tk }) :
   wpAny (TheM w) (callerA.deeper (envOfC ql sc L fa fc)) (execs (bd.drop 14) (envOfC ql sc L fa fc)) Pn
     (fun e s' => wpAny (TheM w) (callerA.deeper (envOfC ql sc L fa fc)) (leaving (envOfC ql sc L fa fc) e) (fun _ s'' => E e s'') (fun e' s'' => E e' s'') s') s := by
  have hfill : (fun _ : OpenLaw => hd.heap_1) PySem.Challenge.rw_jq0004_02 = hd.heap_1 := by (k_fill; rfl)
  clear hfill
  have hK' := (by k_dflt k_is : List.lookup 132 (hd.heap_1 w.params) = some ⟨_, _, .func (fnOf _ _ _ _ _ _ _ _ _ _ _ _), _⟩)
  rw [hK'] at hK
  cases hK
  clear hK'
  dsimp only [List.drop]
  have hKP : ∀ q ∈ ([(L + 1, ob), (lo, listOf (List.toArray vo) no), (lp, listOf (List.toArray vp) np), (ln, listOf (List.toArray us) nn), (ls, listOf (List.toArray v1) n1), (lr, listOf (List.toArray v2) n2)] : List (Addr × Obj)), Plain q.2 := fmc (plain_cell hob) ((fmc plain_lst ((fmc plain_lst ((fmc plain_lst ((fmc plain_lst ((fmc plain_lst (List.forall_mem_nil _)))))))))))
  have hA1 : BArg [(L + 1, ob), (lo, listOf (List.toArray vo) no), (lp, listOf (List.toArray vp) np), (ln, listOf (List.toArray us) nn), (ls, listOf (List.toArray v1) n1), (lr, listOf (List.toArray v2) n2)] (.ref ls) bk := lst_arg (k := n1) (List.Mem.tail _ (List.Mem.tail _ (List.Mem.tail _ (List.Mem.tail _ (List.Mem.head _))))) hv1 (two_flat bk i.toNat)
  have hA2 : BArg [(L + 1, ob), (lo, listOf (List.toArray vo) no), (lp, listOf (List.toArray vp) np), (ln, listOf (List.toArray us) nn), (ls, listOf (List.toArray v1) n1), (lr, listOf (List.toArray v2) n2)] (.ref lr) dk := lst_arg (k := n2) (List.Mem.tail _ (List.Mem.tail _ (List.Mem.tail _ (List.Mem.tail _ (List.Mem.tail _ (List.Mem.head _)))))) hv2 (three_flat dk j.toNat)
  k_with_none
  k_with "execs cons" => k_fold
  k_with "eval Call" => k_fold
  k_with "storeName" => (k_here; k_dflt (first | (refine' storeI_L ?F ?N ?_ ?a ?b; (case F => k_asm); (case N => k_asm); (case a => rfl); (case b => rfl); k_whole; intro h' tk' t' F' N'; (try k_sweep); (try dsimp only); (try k_fold)) | (refine' storeB_L ?F ?N ?_ ?a ?b; (case F => k_asm); (case N => k_asm); (case a => rfl); (case b => rfl); k_whole; intro h' tk' t' F' N'; (try k_sweep); (try dsimp only); (try k_fold)) | (refine' storeG_L ?F ?N ?_ ?a ?b; (case F => k_asm); (case N => k_asm); (case a => rfl); (case b => rfl); k_whole; intro h' tk' F' N'; (try k_sweep); (try dsimp only); (try k_fold))))
  k_with "sub" => (exact fun q9 hq9 => List.Sublist.subset (by with_reducible (repeat (first | exact List.Sublist.refl _ | exact List.nil_sublist _ | refine List.Sublist.cons_cons _ ?_ | refine List.Sublist.cons _ ?_))) hq9)
  k_with "all" => (repeat' (first | exact List.forall_mem_nil _ | refine fmc (by walk_at "mem") ?_))
  k_with "tl" => (intro q9 hq9; with_reducible (repeat (first | exact hq9 | refine List.mem_cons_of_mem _ ?_)))
  k_with "mem" => (with_reducible (repeat (first | exact List.mem_cons_self | refine List.mem_cons_of_mem _ ?_)))
  k_with "call ref" => ((with_reducible show wpAny _ _ (call (Value.ref 54) [Value.ref ls, Value.ref lr]) _ _ _); (rename Fr _ _ _ _ => kF); (rename News _ _ _ _ => kN); k_dflt (refine' SpecG.use (A₀ := callerA) (delta_any (ex := [(L + 1, ob), (lo, listOf (List.toArray vo) no), (lp, listOf (List.toArray vp) np), (ln, listOf (List.toArray us) nn), (ls, listOf (List.toArray v1) n1), (lr, listOf (List.toArray v2) n2)]) w X T codeHd (1 + claimMargin + 1) (4 + 3) (some []) [_] ?hdp ?hu hA1 hA2 (by omega) hdl hT) B kF kN [(L + 1, ob), (lo, listOf (List.toArray vo) no), (lp, listOf (List.toArray vp) np), (ln, listOf (List.toArray us) nn), (ls, listOf (List.toArray v1) n1), (lr, listOf (List.toArray v2) n2)] ?hn ?hr ?hd (fun q hq => .inl hq) rfl rfl ?_ ?_; (case hdp => decide); (case hu => decide); (case hn => walk_at "tl"); (case hr => walk_at "all"); (case hd => exact plain_off kN (by walk_at "all") hKP (by walk_at "tl") (.inr hT)); skip); (rotate_left); (intro e9 h9 tk9 n9 g9 hx9; (have z9 := hx9.2.symm.trans hrd); cases z9); (clear kF kN; intro v9 h9 tk9 n9 hr9 F9 N9 ap9; (try dsimp only); obtain ⟨lo9, vs9, cs9, nn9, nT9, rfl, hv9, ⟨hr9, hl9⟩, rfl, hT⟩ := hr9; (have hcs := Option.some.inj (hr9.symm.trans hrd)); clear hr9; (replace N9 := nws_comm N9); dsimp only [List.cons_append, List.nil_append] at N9; (try k_fold)))
  k_with "call ref" => ((with_reducible show wpAny _ _ (call (Value.ref 54) [Value.bytes _ _, Value.ref lr]) _ _ _); (rename Fr _ _ _ _ => kF); (rename News _ _ _ _ => kN); k_dflt (refine' SpecG.use (A₀ := callerA) (delta_any (ex := [(L + 1, ob), (lo, listOf (List.toArray vo) no), (lp, listOf (List.toArray vp) np), (ln, listOf (List.toArray us) nn), (ls, listOf (List.toArray v1) n1), (lr, listOf (List.toArray v2) n2)]) w X T codeHd (1 + claimMargin + 1) (4 + 3) (some []) [_] ?hdp ?hu (byt_arg hbk) hA2 (by omega) hdl hT) B kF kN [(L + 1, ob), (lo, listOf (List.toArray vo) no), (lp, listOf (List.toArray vp) np), (ln, listOf (List.toArray us) nn), (ls, listOf (List.toArray v1) n1), (lr, listOf (List.toArray v2) n2)] ?hn ?hr ?hd (fun q hq => .inl hq) rfl rfl ?_ ?_; (case hdp => decide); (case hu => decide); (case hn => walk_at "tl"); (case hr => walk_at "all"); (case hd => exact plain_off kN (by walk_at "all") hKP (by walk_at "tl") (.inr hT)); skip); (rotate_left); (intro e9 h9 tk9 n9 g9 hx9; (have z9 := hx9.2.symm.trans hrd); cases z9); (clear kF kN; intro v9 h9 tk9 n9 hr9 F9 N9 ap9; (try dsimp only); obtain ⟨lo9, vs9, cs9, nn9, nT9, rfl, hv9, ⟨hr9, hl9⟩, rfl, hT⟩ := hr9; (have hcs := Option.some.inj (hr9.symm.trans hrd)); clear hr9; (replace N9 := nws_comm N9); dsimp only [List.cons_append, List.nil_append] at N9; (try k_fold)))
  k_with "call ref" => ((with_reducible show wpAny _ _ (call (Value.ref 54) [Value.ref ls, Value.bytes _ _]) _ _ _); (rename Fr _ _ _ _ => kF); (rename News _ _ _ _ => kN); k_dflt (refine' SpecG.use (A₀ := callerA) (delta_any (ex := [(L + 1, ob), (lo, listOf (List.toArray vo) no), (lp, listOf (List.toArray vp) np), (ln, listOf (List.toArray us) nn), (ls, listOf (List.toArray v1) n1), (lr, listOf (List.toArray v2) n2)]) w X T codeHd (1 + claimMargin + 1) (4 + 3) (some []) [_] ?hdp ?hu hA1 (byt_arg hdk) (by omega) hdl hT) B kF kN [(L + 1, ob), (lo, listOf (List.toArray vo) no), (lp, listOf (List.toArray vp) np), (ln, listOf (List.toArray us) nn), (ls, listOf (List.toArray v1) n1), (lr, listOf (List.toArray v2) n2)] ?hn ?hr ?hd (fun q hq => .inl hq) rfl rfl ?_ ?_; (case hdp => decide); (case hu => decide); (case hn => walk_at "tl"); (case hr => walk_at "all"); (case hd => exact plain_off kN (by walk_at "all") hKP (by walk_at "tl") (.inr hT)); skip); (rotate_left); (intro e9 h9 tk9 n9 g9 hx9; (have z9 := hx9.2.symm.trans hrd); cases z9); (clear kF kN; intro v9 h9 tk9 n9 hr9 F9 N9 ap9; (try dsimp only); obtain ⟨lo9, vs9, cs9, nn9, nT9, rfl, hv9, ⟨hr9, hl9⟩, rfl, hT⟩ := hr9; (have hcs := Option.some.inj (hr9.symm.trans hrd)); clear hr9; (replace N9 := nws_comm N9); dsimp only [List.cons_append, List.nil_append] at N9; (try k_fold)))
  k_with "call ref" => ((with_reducible show wpAny _ _ (call (Value.ref 54) [Value.bytes _ _, Value.bytes _ _]) _ _ _); (rename Fr _ _ _ _ => kF); (rename News _ _ _ _ => kN); k_dflt (refine' SpecG.use (A₀ := callerA) (delta_any (ex := [(L + 1, ob), (lo, listOf (List.toArray vo) no), (lp, listOf (List.toArray vp) np), (ln, listOf (List.toArray us) nn), (ls, listOf (List.toArray v1) n1), (lr, listOf (List.toArray v2) n2)]) w X T codeHd (1 + claimMargin + 1) (4 + 3) (some []) [_] ?hdp ?hu (byt_arg hbk) (byt_arg hdk) (by omega) hdl hT) B kF kN [(L + 1, ob), (lo, listOf (List.toArray vo) no), (lp, listOf (List.toArray vp) np), (ln, listOf (List.toArray us) nn), (ls, listOf (List.toArray v1) n1), (lr, listOf (List.toArray v2) n2)] ?hn ?hr ?hd (fun q hq => .inl hq) rfl rfl ?_ ?_; (case hdp => decide); (case hu => decide); (case hn => walk_at "tl"); (case hr => walk_at "all"); (case hd => exact plain_off kN (by walk_at "all") hKP (by walk_at "tl") (.inr hT)); skip); (rotate_left); (intro e9 h9 tk9 n9 g9 hx9; (have z9 := hx9.2.symm.trans hrd); cases z9); (clear kF kN; intro v9 h9 tk9 n9 hr9 F9 N9 ap9; (try dsimp only); obtain ⟨lo9, vs9, cs9, nn9, nT9, rfl, hv9, ⟨hr9, hl9⟩, rfl, hT⟩ := hr9; (have hcs := Option.some.inj (hr9.symm.trans hrd)); clear hr9; (replace N9 := nws_comm N9); dsimp only [List.cons_append, List.nil_append] at N9; (try k_fold)))
  k_with "getMethod bytes" => (k_here; refine method_join ?_)
  k_with "call builtin:bytes.join" => (k_here; (with_reducible show wpAny _ _ (call _ [_, Value.ref _]) _ _ _); (with_reducible rename News _ _ _ _ => kN); k_dflt (refine' join_K (s := ⟨_, _, _, _, _⟩) (News.isList kN ?hm) hv9 (by rw [hcs]; omega) ?_; (case hm => walk_at "mem")); intro _ _ _ hj9; (replace hj9 := hj9.trans hcs); (try dsimp only))
  k_with "compareOp NotEq bytes bytes" => (k_here; (refine ne_ints hj9 htg ?_); clear hj9; (try dsimp only))
  k_with "compareOp Eq bytes bytes" => (k_here; (refine eq_ints hj9 htg ?_); clear hj9; (try dsimp only))
  k_with "call ref" => ((with_reducible show wpAny _ _ (call (Value.ref 40) [Value.ref _]) _ _ _); (rename Fr _ _ _ _ => kF); (rename News _ _ _ _ => kN); k_dflt (refine' Spec.use (A₀ := callerA) (chunks_spec w X T (1 + claimMargin + 1) (4 + 3) (some []) [_] ?hdp ?hu hv9 hl9 (by rw [hcs]; omega)) B kF kN ([(L + 1, ob), (lo, listOf (List.toArray vo) no), (lp, listOf (List.toArray vp) np), (ln, listOf (List.toArray us) nn), (ls, listOf (List.toArray v1) n1), (lr, listOf (List.toArray v2) n2)] ++ nT9) ?hn ?hr ?hd rfl rfl ?_ ?_; (case hdp => decide); (case hu => decide); (case hn => intro q9 hq9; rw [List.mem_singleton.mp hq9]; walk_at "mem"); (case hr => exact List.forall_mem_append.mpr ⟨by walk_at "all", by walk_at "tl"⟩); (case hd => exact lst_apart kN (by walk_at "mem") plain_lst hT (by walk_at "tl") ap9); skip); (rotate_left); (intro e9 h9 tk9 n9 g9 hx9; exact hx9.elim); (clear kF kN; intro v9 h9 tk9 n9 hr9 F9 N9 ap8; (try dsimp only); obtain ⟨t9, rfl, rfl⟩ := hr9; clear ap8; dsimp only [List.cons_append, List.nil_append] at N9; (try k_fold)))
  k_with "call ref" => ((with_reducible show wpAny _ _ (call (Value.ref 40) [Value.bytes _ _]) _ _ _); (rename Fr _ _ _ _ => kF); (rename News _ _ _ _ => kN); k_dflt (refine' Spec.use (A₀ := callerA) (chunks_bytes w X T (1 + claimMargin + 1) (4 + 3) (some []) [_] ?hdp htg (by omega)) B kF kN _ (fun _ h => nomatch h) (fun _ h => h) (fun _ _ _ h => nomatch h) rfl rfl ?_ ?_; (case hdp => decide); skip); (rotate_left); (intro e9 h9 tk9 n9 g9 hx9; exact hx9.elim); (clear kF kN; intro v9 h9 tk9 n9 hr9 F9 N9 ap8; (try dsimp only); obtain ⟨t9, rfl, rfl⟩ := hr9; clear ap8; dsimp only [List.cons_append, List.nil_append] at N9; (try k_fold)))
  k_with "call builtin:len" => (k_here; (with_reducible show wpAny _ _ (call (Value.builtin "len") [Value.bytes _ _]) _ _ _); k_dflt (first | refine len_b htg (by omega) ?_ | refine len_b hbk (by omega) ?_); intro _ _; (try dsimp only))
  k_with "compareOp NotEq int int" => (k_here; (refine ne_num (by first | rfl | rw [hcs]) ?_); (try dsimp only))
  k_with "subscriptTail Name Slice ref ref" => (k_here; (with_reducible show wpAny _ _ (subscriptTail _ (PySem.Expr.Slice (some _) none none _) (Value.ref ln) (Value.ref _)) _ _ _); k_dflt (refine' kmk_slice_ints ?sl2F ?sl2N ?sl2l ?sl2p ?sl2q hus (kmk_from hus ?sl2h0) rfl ?_ ?sl2s ?sl2t ?sl2z; (case sl2F => k_asm); (case sl2N => k_asm); (case sl2l => kmk_list); (case sl2p => kmk_part); (case sl2q => kmk_part); (case sl2h0 => first | omega | (split <;> omega)); (case sl2s => with_unfolding_all rfl); (case sl2t => kmk_pure); (case sl2z => rw [List.size_toArray, hus.length, sizeLine_eq]; exact Nat.le_trans hql (by decide))); intro D6 ws6 h6 F6 N6 l6 hI6 hC6 hL6; (have hDl : @Ne Nat D6 lo := Nat.ne_of_gt (l6 (lo, listOf (List.toArray vo) no) (by walk_at "mem"))); (have hDq : @Ne Nat D6 lp := Nat.ne_of_gt (l6 (lp, listOf (List.toArray vp) np) (by walk_at "mem"))); clear l6; (try k_sweep))
  k_with "exec For" => (k_here; (with_reducible show wpAny _ _ (exec (Stmt.For (Expr.Name _ _) (Expr.Subscript _ _ _) _ [] _) _) _ _ _); (rename Fr _ _ _ _ => lF'); (with_unfolding_all refine' For_invVF lF' ?k1 ?k2 ?_; (case k1 => exact rfl); (case k2 => exact rfl); k_whole))
  k_with "pyIter ref" => ((with_reducible show wpAny _ _ (pyIter (Value.ref D6)) _ _ _); (rename Fr _ _ _ _ => kF); (rename News _ _ _ _ => kN); (k_dflt (refine' for_tab ((D6, listOf (List.toArray ws6) 0) :: [(L + 1, ob), (lo, listOf (List.toArray vo) no), (lp, listOf (List.toArray vp) np), (ln, listOf (List.toArray us) nn), (ls, listOf (List.toArray v1) n1), (lr, listOf (List.toArray v2) n2)]) rfl hI6 kF kN ?hl ?hk ?hn0 hT ?_ ?_; (case hl => exact List.Mem.head _); (case hk => walk_at "all"); (case hn0 => walk_at "tl"); skip)); (clear kF kN); (rotate_left); (intro h9 tk9 nT9 m9 hT hm9 F9 N9; dsimp only [List.cons_append, List.nil_append] at N9; k_dflt (replace F9 := fr_names (ps := [(Str.ofString "octets", .ref lo), (Str.ofString "pieces", .ref lp), (Str.ofString "target", .bytes tg tt), (Str.ofString "front", .bytes f tf), (Str.ofString "second", .bytes c tc), (Str.ofString "delta", .bytes d td), (Str.ofString "numbers", .ref ln), (Str.ofString "i", .int i ti), (Str.ofString "j", .int j tj), (Str.ofString "source", .ref ls), (Str.ofString "parts", .ref lr)]) F9 (fmc ((hm9 (Str.ofString "octets") (by decide)).trans rfl) ((fmc ((hm9 (Str.ofString "pieces") (by decide)).trans rfl) ((fmc ((hm9 (Str.ofString "target") (by decide)).trans rfl) ((fmc ((hm9 (Str.ofString "front") (by decide)).trans rfl) ((fmc ((hm9 (Str.ofString "second") (by decide)).trans rfl) ((fmc ((hm9 (Str.ofString "delta") (by decide)).trans rfl) ((fmc ((hm9 (Str.ofString "numbers") (by decide)).trans rfl) ((fmc ((hm9 (Str.ofString "i") (by decide)).trans rfl) ((fmc ((hm9 (Str.ofString "j") (by decide)).trans rfl) ((fmc ((hm9 (Str.ofString "source") (by decide)).trans rfl) ((fmc ((hm9 (Str.ofString "parts") (by decide)).trans rfl) ((List.forall_mem_nil _)))))))))))))))))))))))); clear hm9; (try k_fold)); (rotate_left); (intro n9 tn9 h9 tk9 nT9 I oI hn9 hT hIp hIo kFr kNews; dsimp only [List.cons_append, List.nil_append] at kNews; (have hIl : @Ne Nat I lo := Ne.symm (hIo (lo, _) (List.Mem.tail _ (List.Mem.tail _ (List.Mem.head _))))); (have hIq : @Ne Nat I lp := Ne.symm (hIo (lp, _) (List.Mem.tail _ (List.Mem.tail _ (List.Mem.tail _ (List.Mem.head _)))))); clear hIo; obtain ⟨hn90, hn91⟩ := hqs n9 (List.mem_of_mem_drop hn9); clear hn9; (try k_fold)))
  k_with "call ref" => ((with_reducible show wpAny _ _ (call (Value.ref 93) [_, _, _, _, _, _]) _ _ _); (rename Fr _ _ _ _ => kF); (rename News _ _ _ _ => kN); k_dflt (refine' Spec.use (A₀ := callerA) (spoilt2_spec w X T (1 + claimMargin + 1) (4 + 3) (some []) [_] ?hdp hbk hbl h1 h1' e1 hf hsk hR hol hvo hvp hn90 hn91) B kF kN ([(I, oI), (D6, listOf (List.toArray ws6) 0), (L + 1, ob), (ln, listOf (List.toArray us) nn), (ls, listOf (List.toArray v1) n1), (lr, listOf (List.toArray v2) n2)] ++ nT9) ?hn ?hr ?hd rfl rfl ?_ ?_; (case hdp => decide); (case hn => walk_at "all"); (case hr => exact List.forall_mem_append.mpr ⟨by walk_at "all", by walk_at "tl"⟩); (case hd => refine List.forall_mem_append.mpr ⟨?_, tab_off kN (rest := [(lo, listOf (List.toArray vo) no), (lp, listOf (List.toArray vp) np)]) (by walk_at "all") (fmc plain_lst ((fmc plain_lst (List.forall_mem_nil _)))) (by walk_at "tl") (.inr hT)⟩; (repeat' (first | exact List.forall_mem_nil _ | refine fmc ((fmc ?_ ((fmc ?_ (List.forall_mem_nil _))))) ?_)); (all_goals assumption)); skip); (rotate_left); (intro e9 h9 tk9 n9 g9 hx9; exact hx9.elim); (clear kF kN; intro v9 h9 tk9 n9 hr9 F9 N9 ap8; (try dsimp only); obtain ⟨d8, t8, rfl, rfl, hS8⟩ := hr9; clear ap8; dsimp only [List.cons_append, List.nil_append] at N9; (try k_fold)))
  k_with "call ref" => ((with_reducible show wpAny _ _ (call (Value.ref 127) [_, _, _, _]) _ _ _); (rename Fr _ _ _ _ => kF); (rename News _ _ _ _ => kN); k_dflt (refine' SpecSG.use0 (A₀ := callerA) (agrees2_spec w X T (1 + claimMargin + 1) (4 + 3) (some []) [_] ?hdp codeHd ?hu hbk (by omega) rfl hS8.1 (hS8.big (by omega)) hi hj (.inr hT)) B kF kN ((I, oI) :: (D6, listOf (List.toArray ws6) 0) :: [(L + 1, ob), (lo, listOf (List.toArray vo) no), (lp, listOf (List.toArray vp) np), (ln, listOf (List.toArray us) nn), (ls, listOf (List.toArray v1) n1), (lr, listOf (List.toArray v2) n2)]) ?hn ?hr ?hd (fun _ h => nomatch h) rfl rfl ?_; (case hdp => decide); (case hu => decide); (case hn => walk_at "tl"); (case hr => walk_at "all"); (case hd => exact plain_off kN (by walk_at "all") (fmc hIp ((fmc plain_lst hKP))) (by walk_at "tl") (.inr hT)); skip); (clear kF kN; intro v9 h9 tk9 n9 hr9 F9 N9 ap8; (try dsimp only); clear ap8; obtain ⟨rfl, hT⟩ := hr9; (replace N9 := nws_comm N9); dsimp only [List.cons_append, List.nil_append] at N9; (try k_fold)))
  k_with "NumPost" => ((rename Fr _ _ _ _ => kF); (rename News _ _ _ _ => kN); k_dflt (exact num_post kF kN hT (by walk_at "all") (by walk_at "tl") (fun z a1 => if_neg a1)))
  k_with "call type:bytes" => (k_here; (with_reducible show wpAny _ _ (call (Value.type "bytes") [Value.ref _]) _ _ _); (rename Fr _ _ _ _ => kF); (rename News _ _ _ _ => kN); k_dflt (refine' KBa.make_K (s := ⟨_, _, _, _, _⟩) kF kN rfl (News.isList kN (List.Mem.head _)) (.cons _ _ .nil) (one_in ?oiA ?oiB) (by decide) ?_; (case oiA => decide); (case oiB => decide)); (clear kF kN; intro _ _ _ _ _ kbaIn; (have hsO := KBa.ints_make kbaIn); clear kbaIn; (try dsimp only)))
  k_with "binaryOp Add bytes bytes" => (k_here; (with_reducible show wpAny _ _ (binaryOp _ (Value.bytes b _) (Value.bytes _ _)) _ _ _); k_dflt (refine KBa.add_K hbk hsO (by rw [List.length_singleton]; omega) ?_); intro t7 k7 hadd; (have hO7 := oth_more (t := t7) hadd); clear hadd; (try dsimp only))
  k_with "eval IfExp" => (k_here; (fail_if_success (have h9 := inOth)); (with_reducible show wpAny _ _ (eval (Expr.IfExp _ _ _ _) _) _ _ _); (rename Fr _ _ _ _ => kF); (rename News _ _ _ _ => kN); k_dflt (refine' cut_val ([(L + 1, ob), (lo, listOf (List.toArray vo) no), (lp, listOf (List.toArray vp) np), (ln, listOf (List.toArray us) nn), (ls, listOf (List.toArray v1) n1), (lr, listOf (List.toArray v2) n2)] ++ nT9) (OthOk bk) kF kN ?hk ?_ ?_; (case hk => exact List.forall_mem_append.mpr ⟨by walk_at "all", by walk_at "tl"⟩); skip); (rotate_left); (clear kF kN; intro v7 h7 tk7 hO8 F7 N7; dsimp only [List.cons_append, List.nil_append] at N7; (try k_fold)); (rotate_left); ((have inOth : True := trivial); (try k_fold)))
  k_with "subscriptTail Name Slice bytes ref" => (k_here; (with_reducible show wpAny _ _ (subscriptTail _ (PySem.Expr.Slice none (some (Expr.BinOp _ _ _ _)) none _) (Value.bytes b _) (Value.ref _)) _ _ _); (rename Fr _ _ _ _ => kF); (rename News _ _ _ _ => kN); k_dflt (refine slice_j (s := ⟨_, _, _, _, _⟩) kF kN hbk (by have := len_pos' ‹_› hbk; omega) (by omega) ?_); (clear kF kN; intro _ _ _ _ _ _ hcut; (try dsimp only)))
  k_with "RowEnd" => ((rename Fr _ _ _ _ => kF); (rename News _ _ _ _ => kN); k_dflt (first | exact row_end kF kN (List.forall_mem_append.mpr ⟨by walk_at "all", by walk_at "tl"⟩) (oth_less ‹_› hbk hcut) | exact row_end kF kN (List.forall_mem_append.mpr ⟨by walk_at "all", by walk_at "tl"⟩) (oth_one ‹_› hbk hsO)))
  k_with "exec For Name Tuple cons nil" => (k_here; (with_reducible show wpAny _ _ (exec (Stmt.For (Expr.Name _ _) (Expr.Tuple _ _ _) _ [] _) _) _ _ _); (rename Fr _ _ _ _ => lF'); (with_unfolding_all refine' For_invVF lF' ?k1 ?k2 ?_; (case k1 => exact rfl); (case k2 => exact rfl); k_whole))
  k_with "pyIter ref" => ((rename Fr _ _ _ _ => kF); (rename News _ _ _ _ => kN); (k_dflt (refine' for_tup (P := OthOk bk) ((_, tupO [_, _]) :: [(L + 1, ob), (lo, listOf (List.toArray vo) no), (lp, listOf (List.toArray vp) np), (ln, listOf (List.toArray us) nn), (ls, listOf (List.toArray v1) n1), (lr, listOf (List.toArray v2) n2)]) rfl (fmc hO7 ((fmc hO8 (List.forall_mem_nil _)))) kF kN ?hl ?hk ?hn0 hT ?_ ?_; (case hl => exact List.Mem.head _); (case hk => walk_at "all"); (case hn0 => walk_at "tl"); skip)); (clear kF kN); (rotate_left); (intro h9 tk9 nT9 m9 hT hm9 F9 N9; dsimp only [List.cons_append, List.nil_append] at N9; k_dflt (replace F9 := fr_names (ps := [(Str.ofString "octets", .ref lo), (Str.ofString "pieces", .ref lp), (Str.ofString "target", .bytes tg tt), (Str.ofString "front", .bytes f tf), (Str.ofString "second", .bytes c tc), (Str.ofString "delta", .bytes d td), (Str.ofString "numbers", .ref ln), (Str.ofString "i", .int i ti), (Str.ofString "j", .int j tj), (Str.ofString "source", .ref ls), (Str.ofString "parts", .ref lr)]) F9 (fmc ((hm9 (Str.ofString "octets") (by decide)).trans rfl) ((fmc ((hm9 (Str.ofString "pieces") (by decide)).trans rfl) ((fmc ((hm9 (Str.ofString "target") (by decide)).trans rfl) ((fmc ((hm9 (Str.ofString "front") (by decide)).trans rfl) ((fmc ((hm9 (Str.ofString "second") (by decide)).trans rfl) ((fmc ((hm9 (Str.ofString "delta") (by decide)).trans rfl) ((fmc ((hm9 (Str.ofString "numbers") (by decide)).trans rfl) ((fmc ((hm9 (Str.ofString "i") (by decide)).trans rfl) ((fmc ((hm9 (Str.ofString "j") (by decide)).trans rfl) ((fmc ((hm9 (Str.ofString "source") (by decide)).trans rfl) ((fmc ((hm9 (Str.ofString "parts") (by decide)).trans rfl) ((List.forall_mem_nil _)))))))))))))))))))))))); clear hm9; (try k_fold)); (rotate_left); (intro v9 h9 tk9 nT9 I oI hO9 hT hIp hIo kFr kNews; clear hIo; dsimp only [List.cons_append, List.nil_append] at kNews; obtain ⟨c8, t8, rfl, hc8, hl8⟩ := hO9; (have hn8 := oth_none (r0 := r0) h1 e1 hc8); rw [← hdf] at hn8; (try k_fold)))
  k_with "call ref" => ((with_reducible show wpAny _ _ (call (Value.ref 120) [Value.bytes _ _, Value.bytes _ _]) _ _ _); (rename Fr _ _ _ _ => kF); (rename News _ _ _ _ => kN); k_dflt (refine' SpecSG.use0 (A₀ := callerA) (told_bb w X T codeHd (1 + claimMargin + 1) (4 + 3) (some []) [_] (by decide) (by decide) rfl hdk (by omega) hdl (none_big hn8) (.inr hT)) B kF kN ((I, oI) :: (_, tupO [_, _]) :: [(L + 1, ob), (lo, listOf (List.toArray vo) no), (lp, listOf (List.toArray vp) np), (ln, listOf (List.toArray us) nn), (ls, listOf (List.toArray v1) n1), (lr, listOf (List.toArray v2) n2)]) ?hn ?hr ?hd ?hex rfl rfl ?_; (case hn => walk_at "tl"); (case hr => walk_at "all"); (case hd => exact plain_off kN (by walk_at "all") (fmc hIp ((fmc (.inl ⟨_, _, rfl⟩) hKP))) (by walk_at "tl") (.inr hT)); (case hex => exact fun _ h => nomatch h); skip); (clear kF kN; intro v9 h9 tk9 n9 hr9 F9 N9 ap8; (try dsimp only); clear ap8; obtain ⟨hv9, hT⟩ := hr9; obtain rfl := outV_none hv9 hn8; clear hv9; (replace N9 := nws_comm N9); dsimp only [List.cons_append, List.nil_append] at N9; (try k_fold)))
  k_with "call ref" => ((with_reducible show wpAny _ _ (call (Value.ref 120) [Value.ref _, Value.ref _]) _ _ _); (rename Fr _ _ _ _ => kF); (rename News _ _ _ _ => kN); k_dflt (refine' SpecSG.use0 (A₀ := callerA) (told_any (ex := (_, listOf (List.toArray [_, _]) _) :: [(L + 1, ob), (lo, listOf (List.toArray vo) no), (lp, listOf (List.toArray vp) np), (ln, listOf (List.toArray us) nn), (ls, listOf (List.toArray v1) n1), (lr, listOf (List.toArray v2) n2)]) w X T codeHd (1 + claimMargin + 1) (4 + 3) (some []) [_] (by decide) (by decide) (two_arg hs1 hs2 (List.Mem.head _)) (arg_cons hA2) (by omega) hdl (none_big hn8) hT) B kF kN ((_, listOf (List.toArray [_, _]) _) :: (I, oI) :: (_, tupO [_, _]) :: [(L + 1, ob), (lo, listOf (List.toArray vo) no), (lp, listOf (List.toArray vp) np), (ln, listOf (List.toArray us) nn), (ls, listOf (List.toArray v1) n1), (lr, listOf (List.toArray v2) n2)]) ?hn ?hr ?hd ?hex rfl rfl ?_; (case hn => walk_at "tl"); (case hr => walk_at "all"); (case hd => exact plain_off kN (by walk_at "all") (fmc plain_lst ((fmc hIp ((fmc (.inl ⟨_, _, rfl⟩) hKP))))) (by walk_at "tl") (.inr hT)); (case hex => exact fun q hq => .inl ((List.mem_cons.mp hq).elim (fun e => e ▸ List.Mem.head _) (fun h => .tail _ (.tail _ (.tail _ h))))); skip); (clear kF kN; intro v9 h9 tk9 n9 hr9 F9 N9 ap8; (try dsimp only); clear ap8; obtain ⟨hv9, hT⟩ := hr9; obtain rfl := outV_none hv9 hn8; clear hv9; (replace N9 := nws_comm N9); dsimp only [List.cons_append, List.nil_append] at N9; (try k_fold)))
  k_with "subscriptTail Name Slice bytes ref" => (k_here; (with_reducible show wpAny _ _ (subscriptTail _ (PySem.Expr.Slice none (some (Expr.Name (Str.ofString "i") _)) none _) (Value.bytes c8 _) (Value.ref _)) _ _ _); (rename Fr _ _ _ _ => kF); (rename News _ _ _ _ => kN); k_dflt (refine slice_j (s := ⟨_, _, _, _, _⟩) kF kN rfl hi (by omega) ?_); (clear kF kN; intro _ _ _ _ _ _ hs1; (try dsimp only)))
  k_with "subscriptTail Name Slice bytes ref" => (k_here; (with_reducible show wpAny _ _ (subscriptTail _ (PySem.Expr.Slice (some (Expr.Name (Str.ofString "i") _)) none none _) (Value.bytes c8 _) (Value.ref _)) _ _ _); (rename Fr _ _ _ _ => kF); (rename News _ _ _ _ => kN); k_dflt (refine slice_i (s := ⟨_, _, _, _, _⟩) kF kN rfl hi (by omega) ?_); (clear kF kN; intro _ _ _ _ _ _ hs2; (try dsimp only)))
  k_with "subscriptTail Name Slice bytes ref" => (k_here; (with_reducible show wpAny _ _ (subscriptTail _ (PySem.Expr.Slice none (some (Expr.Name (Str.ofString "i") _)) none _) (Value.bytes b _) (Value.ref _)) _ _ _); (rename Fr _ _ _ _ => kF); (rename News _ _ _ _ => kN); k_dflt (refine slice_j (s := ⟨_, _, _, _, _⟩) kF kN hbk hi (by omega) ?_); (clear kF kN; intro _ _ _ _ _ _ hs1; (try dsimp only)))
  k_with "subscriptTail Name Slice bytes ref" => (k_here; (with_reducible show wpAny _ _ (subscriptTail _ (PySem.Expr.Slice (some (Expr.Name (Str.ofString "i") _)) none none _) (Value.bytes b _) (Value.ref _)) _ _ _); (rename Fr _ _ _ _ => kF); (rename News _ _ _ _ => kN); k_dflt (refine slice_i (s := ⟨_, _, _, _, _⟩) kF kN hbk hi (by omega) ?_); (clear kF kN; intro _ _ _ _ _ _ hs2; (try dsimp only)))
  k_with "subscriptTail Name Slice bytes ref" => (k_here; (with_reducible show wpAny _ _ (subscriptTail _ (PySem.Expr.Slice none (some (Expr.Name (Str.ofString "j") _)) none _) (Value.bytes d _) (Value.ref _)) _ _ _); (rename Fr _ _ _ _ => kF); (rename News _ _ _ _ => kN); k_dflt (refine slice_j (s := ⟨_, _, _, _, _⟩) kF kN hdk hj (by omega) ?_); (clear kF kN; intro _ _ _ _ _ _ hs1; (try dsimp only)))
  k_with "subscriptTail Name Slice bytes ref" => (k_here; (with_reducible show wpAny _ _ (subscriptTail _ (PySem.Expr.Slice (some (Expr.Name (Str.ofString "j") _)) none none _) (Value.bytes d _) (Value.ref _)) _ _ _); (rename Fr _ _ _ _ => kF); (rename News _ _ _ _ => kN); k_dflt (refine slice_i (s := ⟨_, _, _, _, _⟩) kF kN hdk hj (by omega) ?_); (clear kF kN; intro _ _ _ _ _ _ hs2; (try dsimp only)))
  k_with "NumPost" => ((rename Fr _ _ _ _ => kF); (rename News _ _ _ _ => kN); k_dflt (exact num_post (keep := (_, tupO [_, _]) :: [(L + 1, ob), (lo, listOf (List.toArray vo) no), (lp, listOf (List.toArray vp) np), (ln, listOf (List.toArray us) nn), (ls, listOf (List.toArray v1) n1), (lr, listOf (List.toArray v2) n2)]) kF kN hT (by walk_at "all") (by walk_at "tl") (fun z a1 => if_neg a1)))
  k_with "compareOp NotEq ref ref" => (k_here; (with_reducible show wpAny _ _ (compareOp CmpOp.NotEq (Value.ref ls) (Value.ref _)) _ _ _); (rename News _ _ _ _ => kN); k_dflt (refine' bl_ne kN ?beA ?beB hv1 (two_are hs1 hs2) ?hu ?_; (case beA => walk_at "mem"); (case beB => exact List.Mem.head _); (case hu => exact (by decide : (7 : Nat) < cLine)); skip); clear hs1 hs2; (try dsimp only))
  k_with "compareOp NotEq ref ref" => (k_here; (with_reducible show wpAny _ _ (compareOp CmpOp.NotEq (Value.ref lr) (Value.ref _)) _ _ _); (rename News _ _ _ _ => kN); k_dflt (refine' bl_ne kN ?beA ?beB hv2 (.cons hs1 (.cons (b := #[]) rfl (.cons hs2 .nil))) ?hu ?_; (case beA => walk_at "mem"); (case beB => exact List.Mem.head _); (case hu => exact (by decide : (7 : Nat) < cLine)); skip); clear hs1 hs2; (try dsimp only))
  k_steps
  (rename Fr _ _ _ _ => kF); (rename News _ _ _ _ => kN)
  obtain ⟨qs9, hq9⟩ := tab_end kN hT (by walk_at "tl")
  exact hP _ _ _ qs9 kF hq9
theorem law_end2_2 (w : World) {p : Program} {loose : List Str} {mean : ExcName → Option Value} {mg mb : Str → Option Value}
   {oc od0 : _} {osl : _} {nm ql : Str} {pa : Arguments} {bd : List Stmt} {sc : Scope} {dV kV dc pm0 cdv ct fc : Value} {an : Option Addr} {fa : Addr}
   (hK : List.lookup 132 (hd.heap_1 w.params) = some ⟨oc, od0, .func (fnOf nm ql pa bd sc dV kV dc pm0 an cdv ct), osl⟩)
   {g0 : Heap} (X : (hd.heap_1 w.params).In g0) (T : Top p loose mean mg mb g0) (codeHd : CodeHd g0 46 42) (B : Below callerA g0 [] g0)
   {s : Shared} {L lo lp ln ls lr : Addr} {ob : Obj} {m : Str → Option Value} {b tg f c d : Array UInt8} {tb tt tf tc td ti tj : Tok} {bk sk dk r0 qs : List Int} {os ps : List (List Int)} {vo vp us v1 v2 : List Value} {no np nn n1 n2 : Nat} {i j c1 : Int} {nT : List (Addr × Obj)}
   (F : Fr g0 L s.heap (kstB m [(Str.ofString "octets", .ref lo), (Str.ofString "pieces", .ref lp), (Str.ofString "target", .bytes tg tt), (Str.ofString "front", .bytes f tf), (Str.ofString "second", .bytes c tc), (Str.ofString "delta", .bytes d td), (Str.ofString "numbers", .ref ln), (Str.ofString "i", .int i ti), (Str.ofString "j", .int j tj), (Str.ofString "source", .ref ls), (Str.ofString "parts", .ref lr)]))
   (N : News g0 L s.heap ((L + 1, ob) :: (lo, listOf (List.toArray vo) no) :: (lp, listOf (List.toArray vp) np) :: (ln, listOf (List.toArray us) nn) :: (ls, listOf (List.toArray v1) n1) :: (lr, listOf (List.toArray v2) n2) :: nT))
   (hT : Tab nT) (hob : ob.data = .cell (some (.bytes b tb)))
   (hbk : KBw.bInts b = bk) (hbl : bk.length ≤ 131079) (h1 : 1 ≤ c1) (h1' : c1 ≤ 11) (e1 : (bk.length : Int) < 128 ^ c1.toNat) (hf : KBw.bInts f = numK bk.length c1) (hsk : SmB c sk 11 11) (hR : RowsOkL bk os ps) (hol : os.length ≤ 4) (hvo : BytesAre vo os) (hvp : BytesAre vp ps)
   (htg : KBw.bInts tg = ps.flatten) (hdk : KBw.bInts d = dk) (hdl : dk.length ≤ 1800) (hdf : dk = numK bk.length c1 ++ r0) (hrd : readDelta bk dk = some ps.flatten) (hpl : ps.flatten.length ≤ 524824)
   (hus : IntsAre us qs) (hqs : ∀ q ∈ qs, 0 ≤ q ∧ q < 1000000000000000000) (hql : qs.length ≤ 8) (hi : 0 ≤ i) (hj : 0 ≤ j) (hv1 : BytesAre v1 [bk.take i.toNat, bk.drop i.toNat]) (hv2 : BytesAre v2 [dk.take j.toNat, [], dk.drop j.toNat])
   (a1 : @Ne Nat ln lo) (a2 : @Ne Nat ln lp) (a3 : @Ne Nat ls lo) (a4 : @Ne Nat ls lp) (a5 : @Ne Nat lr lo) (a6 : @Ne Nat lr lp) (a7 : @Ne Nat (L + 1) lo) (a8 : @Ne Nat (L + 1) lp)
   {E : Value → Shared → Prop} {stmts : List Stmt} {Pn : Flow → Shared → Prop} {En : Value → Shared → Prop} {Am : Around} {env : Env} (hst : bd.drop 14 = stmts) (henv : envOfC ql sc L fa fc = env) (hA : callerA.deeper (envOfC ql sc L fa fc) = Am)
   (hE : ∀ e s', wpAny (TheM w) (callerA.deeper (envOfC ql sc L fa fc)) (leaving (envOfC ql sc L fa fc) e) (fun _ s'' => E e s'') (fun e' s'' => E e' s'') s' → En e s')
   (hP : ∀ h' tk m' qs, Fr g0 L h' m' → News g0 L h' [(42, tabObj qs)] → Pn (.ret (.bool true)) { s with heap := h', toks := tk }) :
   wpAny (TheM w) Am (execs stmts env) Pn En s := by
  subst hst henv hA
  exact wpAny_mono (law_end2 w hK X T codeHd B F N hT hob hbk hbl h1 h1' e1 hf hsk hR hol hvo hvp htg hdk hdl hdf hrd hpl hus hqs hql hi hj hv1 hv2 a1 a2 a3 a4 a5 a6 a7 a8 hP) (fun _ _ z => z) hE
end Mine
end
open PySem PySem.W PyProof.Rows PySem.Calls PySem.Spec
namespace Mine
set_option maxRecDepth 100000
set_option maxHeartbeats 4000000 in
/-- `_law_size` -/
theorem size2_spec (w : World) {p : Program} {loose : List Str} {mean : ExcName → Option Value} {mg mb : Str → Option Value}
   {base : Heap} (X₀ : (hd.heap_1 w.params).In base) (T₀ : Top p loose mean mg mb base)
   (dp un : Nat) (gd : Option (List Code)) (l : List Env) (hdp : dp + 15 < recursionLimit)
   {n0 : Int} {t0 : Tok} (h0 : 0 ≤ n0) :
   Spec PySem.Challenge.rw_jq0004_02.row.prog w (aTop dp un gd l) base l (.ref 66) [.int n0 t0] []
     (fun v n' => ∃ k t, v = .int k t ∧ n' = [] ∧ 0 ≤ k ∧ k ≤ 131079) (.ref 32) (fun _ => False) := by
  have hfill : (fun _ : OpenLaw => hd.heap_1) PySem.Challenge.rw_jq0004_02 = hd.heap_1 := by (k_fill; rfl)
  clear hfill
  have u1 := fmod_bd n0 (show (0 : Int) < 8 by decide)
  obtain ⟨u10, u11⟩ := u1
  have u20 := fdiv_nn h0 (show (0 : Int) < 8 by decide)
  have u3 := fmod_bd (n0.fdiv 8) (show (0 : Int) < 24 by decide)
  have u4 := fmod_bd (n0.fdiv 8) (show (0 : Int) < 16 by decide)
  have u5 := fmod_bd (n0.fdiv 8) (show (0 : Int) < 8 by decide)
  have u6 := fmod_bd (n0.fdiv 8) (show (0 : Int) < 2 by decide)
  have u7 := fmod_bd ((n0.fdiv 8).fdiv 2) (show (0 : Int) < 16 by decide)
  intro g s Q E B hg hsz N hret hexc
  have X := X₀.keeps B.stays
  have T := T₀.keeps B.stays
  all_goals refine wpAny_call ?_
  all_goals k_dflt (refine' enter_def hg hsz N X T ?k6 ?k7 ?k8 ?k9 ?kB ?_ ?c2 ?c3 ?c4 ?c5; (case k6 => k_is); (case k7 => k_is); (case k8 => ktr_room); (case k9 => exact BindsTo.of_eq rfl); (case c5 => decide); (case kB => exact locs rfl); (case c2 => exact rfl); (case c3 => exact rfl); (case c4 => exact rfl); k_whole; intro L' h' F' N' l1; (try k_lt l1); (try dsimp only); (try k_fold))
  k_with_none
  k_with "execs cons" => k_fold
  k_with "eval Call" => k_fold
  k_with "storeName" => (k_here; k_dflt (first | (refine' storeI_L ?F ?N ?_ ?a ?b; (case F => k_asm); (case N => k_asm); (case a => rfl); (case b => rfl); k_whole; intro h' tk' t' F' N'; (try k_sweep); (try dsimp only); (try k_fold)) | (refine' storeB_L ?F ?N ?_ ?a ?b; (case F => k_asm); (case N => k_asm); (case a => rfl); (case b => rfl); k_whole; intro h' tk' t' F' N'; (try k_sweep); (try dsimp only); (try k_fold)) | (refine' storeG_L ?F ?N ?_ ?a ?b; (case F => k_asm); (case N => k_asm); (case a => rfl); (case b => rfl); k_whole; intro h' tk' F' N'; (try k_sweep); (try dsimp only); (try k_fold))))
  k_with "sub" => (exact fun q9 hq9 => List.Sublist.subset (by with_reducible (repeat (first | exact List.Sublist.refl _ | exact List.nil_sublist _ | refine List.Sublist.cons_cons _ ?_ | refine List.Sublist.cons _ ?_))) hq9)
  k_steps
  all_goals (refine hret _ _ _ _ ⟨_, _, rfl, rfl, ?_, ?_⟩ (Fr.keep (by assumption)) (Led.nil) <;> omega)
end Mine
section
local macro_rules | `(tactic| omega) => `(tactic| lia)
open PySem PySem.W PyProof.Rows PySem.Calls PySem.Spec
namespace Mine
set_option maxRecDepth 100000
noncomputable def DrawG (bk : List Int) (_ : Nat) (y : Value) (new : List (Addr × Obj)) : Prop := ∃ D c1 t1 c2 t2, y = .ref D ∧ (D, tupO [.bytes c1 t1, .bytes c2 t2]) ∈ new ∧ RowOk bk (KBw.bInts c1) (KBw.bInts c2)
theorem drawG_l {bk : List Int} : ∀ i y new more, DrawG bk i y new → DrawG bk i y (more ++ new) := fun _ _ _ _ ⟨D, c1, t1, c2, t2, e, h, r⟩ => ⟨D, c1, t1, c2, t2, e, List.mem_append_right _ h, r⟩
theorem drawG_r {bk : List Int} : ∀ i y new more, DrawG bk i y new → DrawG bk i y (new ++ more) := fun _ _ _ _ ⟨D, c1, t1, c2, t2, e, h, r⟩ => ⟨D, c1, t1, c2, t2, e, List.mem_append_left _ h, r⟩
theorem drawn_rows {bk : List Int} {new : List (Addr × Obj)} : ∀ {ys : List Value}, (∀ i y, ys[i]? = some y → DrawG bk i y new) → ∃ os ps, RowsOkL bk os ps ∧ os.length = ys.length ∧ ∀ i y, ys[i]? = some y → ∃ D c1 t1 c2 t2, y = .ref D ∧ (D, tupO [.bytes c1 t1, .bytes c2 t2]) ∈ new ∧ KBw.bInts c1 = os.getD i [] ∧ KBw.bInts c2 = ps.getD i []
  | [], _ => ⟨[], [], .nil, rfl, fun i y h => by cases h⟩
  | y :: ys, h => by
    obtain ⟨os, ps, hR, hl, hd⟩ := drawn_rows (ys := ys) (fun i y hi => h (i + 1) y hi)
    obtain ⟨D, c1, t1, c2, t2, rfl, hm, hr⟩ := h 0 y rfl
    refine ⟨_ :: os, _ :: ps, .cons hr hR, by simp [hl], fun i y hi => ?_⟩
    cases i with
    | zero => cases hi; exact ⟨D, c1, t1, c2, t2, rfl, hm, rfl, rfl⟩
    | succ i => exact hd i y hi
theorem bytV_of {ys : List Value} {os : List (List Int)} (hl : ys.length = os.length) (h : ∀ i y, ys[i]? = some y → BytV (fun i => os.getD i []) i y) : BytesAre ys os :=
  BytesAre.of hl fun i v hi => by
    obtain ⟨b, t, rfl, e⟩ := h i v hi
    have hlt := (List.getElem?_eq_some_iff.mp hi).1
    have hlt' : i < os.length := hl ▸ hlt
    exact ⟨b, t, rfl, by rw [e]; simp only [List.getD_eq_getElem?_getD, List.getElem?_eq_getElem hlt']; rfl⟩
theorem news_rot3 {g h : Heap} {L : Addr} {a b c : Addr × Obj} {x y : List (Addr × Obj)} (N : News g L h (a :: b :: c :: (x ++ y))) : News g L h (a :: b :: c :: (y ++ x)) := fun q hq => N q (by
  simp only [List.mem_cons, List.mem_append] at hq ⊢
  rcases hq with h | h | h | h | h
  · exact .inl h
  · exact .inr (.inl h)
  · exact .inr (.inr (.inl h))
  · exact .inr (.inr (.inr (.inr h)))
  · exact .inr (.inr (.inr (.inl h))))
theorem rot_sub {a b c : Addr × Obj} {x y : List (Addr × Obj)} : ∀ q ∈ a :: b :: c :: (x ++ y), q ∈ a :: b :: c :: (y ++ x) := fun q hq => by
  simp only [List.mem_cons, List.mem_append] at hq ⊢
  rcases hq with h | h | h | h | h
  · exact .inl h
  · exact .inr (.inl h)
  · exact .inr (.inr (.inl h))
  · exact .inr (.inr (.inr (.inr h)))
  · exact .inr (.inr (.inr (.inl h)))
theorem news_rot1 {g h : Heap} {L : Addr} {a : Addr × Obj} {x y : List (Addr × Obj)} (N : News g L h (a :: (x ++ y))) : News g L h (a :: (y ++ x)) := fun q hq => N q (by
  simp only [List.mem_cons, List.mem_append] at hq ⊢
  rcases hq with h | h | h
  · exact .inl h
  · exact .inr (.inr h)
  · exact .inr (.inl h))
theorem off3_cons {I C D D8 : Addr} {oI oC oD o8 : Obj} {led all : List (Addr × Obj)} (ap : ∀ q ∈ [(D8, o8)], ∀ r ∈ all, q.1 ≠ r.1) (hs : ∀ q ∈ (I, oI) :: (C, oC) :: (D, oD) :: led, q ∈ all) (off : LCg.Off3 I C D led) : LCg.Off3 I C D ((D8, o8) :: led) :=
  ⟨⟨ap _ (.head _) (I, oI) (hs _ (.head _)), ap _ (.head _) (C, oC) (hs _ (.tail _ (.head _))), ap _ (.head _) (D, oD) (hs _ (.tail _ (.tail _ (.head _))))⟩, off⟩
theorem row_endG {h₀ h : Heap} {L : Addr} {m : Str → Option Value} {I C D D8 : Addr} {oI oC oD o8 : Obj} {led all : List (Addr × Obj)} {P : Value → List (Addr × Obj) → Prop} {s : Shared} {tk : Nat} (F : Fr h₀ L h m) (N : News h₀ L h ((D8, o8) :: all)) (ap : ∀ q ∈ [(D8, o8)], ∀ r ∈ all, q.1 ≠ r.1) (hs : ∀ q ∈ (I, oI) :: (C, oC) :: (D, oD) :: led, q ∈ all) (off : LCg.Off3 I C D led) (hP : P (.ref D8) [(D8, o8)]) :
    RowEndG h₀ L m I oI C oC D oD led P s (.ref D8) { s with heap := h, toks := tk } :=
  ⟨[(D8, o8)], h, tk, hP, rfl, F, fun q hq => by
    rcases List.mem_cons.mp hq with rfl | hq
    · exact N _ (.tail _ (hs _ (.head _)))
    rcases List.mem_cons.mp hq with rfl | hq
    · exact N _ (.tail _ (hs _ (.tail _ (.head _))))
    rcases List.mem_cons.mp hq with rfl | hq
    · exact N _ (.tail _ (hs _ (.tail _ (.tail _ (.head _)))))
    rcases List.mem_append.mp hq with hq | hq
    · rw [List.mem_singleton.mp hq]; exact N _ (.head _)
    · exact N _ (.tail _ (hs _ (.tail _ (.tail _ (.tail _ hq))))), off3_cons ap hs off⟩
theorem ints_at9 {vs : List Value} {ns : List Int} (h : IntsAre vs ns) {i : Nat} {v : Value} (e : vs[i]? = some v) : ∃ n t, v = .int n t := by
  obtain ⟨n, t, r, _⟩ := IntsAre.at h i v e
  exact ⟨n, t, r⟩
theorem off1_mem {D : Addr} : ∀ {led : List (Addr × Obj)}, LCg.Off1 D led → ∀ p ∈ led, @Ne Nat p.1 D
  | [], _, p, h => nomatch h
  | q :: led, x, p, h => by
    rcases List.mem_cons.mp h with rfl | h
    · exact x.1
    · exact off1_mem x.2 p h
theorem dk_facts {bk : List Int} {os ps : List (List Int)} {c1 c2 : Int} {cj : Array UInt8} (hb : bk.length ≤ 131079) (hR : RowsOkL bk os ps) (hol : os.length ≤ 4) (hj : KBw.bInts cj = os.flatten) (h1 : 1 ≤ c1) (h1' : c1 ≤ 11) (h2 : 1 ≤ c2) (h2' : c2 ≤ 11) (e1 : (bk.length : Int) < 128 ^ c1.toNat) (e2 : (ps.flatten.length : Int) < 128 ^ c2.toNat) :
    (numK bk.length c1 ++ numK ps.flatten.length c2 ++ os.flatten).length ≤ 1800 ∧ numK bk.length c1 ++ numK ps.flatten.length c2 ++ os.flatten = numK bk.length c1 ++ (numK ps.flatten.length c2 ++ os.flatten) ∧ readDelta bk (numK bk.length c1 ++ numK ps.flatten.length c2 ++ os.flatten) = some ps.flatten := by
  have hL : L4 os := ⟨hol, hR.sm⟩
  have k := (hL.smb hj).2.1
  refine ⟨?_, List.append_assoc _ _ _, by rw [List.append_assoc]; exact delta_read hb hR h1 h2 e1 e2⟩
  rw [List.length_append, List.length_append, numK_len, numK_len]
  omega
theorem num_lt {n cnt mr : Int} (hm : 0 ≤ mr) (h : n < 128 ^ (cnt - mr).toNat) : n < 128 ^ cnt.toNat := by
  have e : (cnt - mr).toNat ≤ cnt.toNat := by omega
  have e2 : (128 : Int) ^ (cnt - mr).toNat ≤ 128 ^ cnt.toNat := by
    have := Nat.pow_le_pow_right (show 0 < 128 by decide) e
    exact_mod_cast this
  omega

set_option maxHeartbeats 8000000 in
/-- the law from its base on -/
theorem law_mid2 (w : World) {p : Program} {loose : List Str} {mean : ExcName → Option Value} {mg mb : Str → Option Value}
   {oc od0 : _} {osl : _} {nm ql : Str} {pa : Arguments} {bd : List Stmt} {sc : Scope} {dV kV dc pm0 cdv ct fc : Value} {an : Option Addr} {fa : Addr}
   (hK : List.lookup 132 (hd.heap_1 w.params) = some ⟨oc, od0, .func (fnOf nm ql pa bd sc dV kV dc pm0 an cdv ct), osl⟩)
   {g0 : Heap} (X : (hd.heap_1 w.params).In g0) (T : Top p loose mean mg mb g0) (codeHd : CodeHd g0 46 42) (B : Below callerA g0 [] g0)
   {s : Shared} {L ln : Addr} {ob : Obj} {m : Str → Option Value} {v0 : Option Value} {tf0 : Tok} {qs : List Int} {us : List Value} {nn : Nat} {f0 : Int} {nT : List (Addr × Obj)}
   (F : Fr g0 L s.heap (kstB m [(Str.ofString "numbers", .ref ln), (Str.ofString "first", .int f0 tf0)]))
   (N : News g0 L s.heap ((L + 1, ob) :: (ln, listOf (List.toArray us) nn) :: nT))
   (hT : Tab nT) (hob : ob.data = .cell v0) (hus : IntsAre us qs) (hqs : ∀ q ∈ qs, 0 ≤ q ∧ q < 1000000000000000000) (hql : qs.length ≤ 8) (hf0 : 0 ≤ f0) (hf1 : f0 < 1000000000000000000) (a0 : @Ne Nat ln (L + 1))
   {Pn : Flow → Shared → Prop} {E : Value → Shared → Prop}
   (hP : ∀ h' tk m' qs, Fr g0 L h' m' → News g0 L h' [(42, tabObj qs)] → Pn (.ret (.bool true)) { s with heap := h', toks := tk }) :
   wpAny (TheM w) (callerA.deeper (envOfC ql sc L fa fc)) (execs (bd.drop 4) (envOfC ql sc L fa fc)) Pn
     (fun e s' => wpAny (TheM w) (callerA.deeper (envOfC ql sc L fa fc)) (leaving (envOfC ql sc L fa fc) e) (fun _ s'' => E e s'') (fun e' s'' => E e' s'') s') s := by
  have hfill : (fun _ : OpenLaw => hd.heap_1) PySem.Challenge.rw_jq0004_02 = hd.heap_1 := by (k_fill; rfl)
  clear hfill
  have hK' := (by k_dflt k_is : List.lookup 132 (hd.heap_1 w.params) = some ⟨_, _, .func (fnOf _ _ _ _ _ _ _ _ _ _ _ _), _⟩)
  rw [hK'] at hK
  cases hK

  dsimp only [List.drop]
  have hd0 := fdiv_nn hf0 (show (0 : Int) < 128 by decide)
  obtain ⟨m30, m31⟩ := fmod_bd (f0.fdiv 3) (show (0 : Int) < 3 by decide)
  obtain ⟨m90, m91⟩ := fmod_bd (f0.fdiv 9) (show (0 : Int) < 3 by decide)

  k_with_none
  k_with "execs cons" => k_fold
  k_with "eval Call" => k_fold
  k_with "storeName" => (k_here; k_dflt (first | (refine' storeI_L ?F ?N ?_ ?a ?b; (case F => k_asm); (case N => k_asm); (case a => rfl); (case b => rfl); k_whole; intro h' tk' t' F' N'; (try k_sweep); (try dsimp only); (try k_fold)) | (refine' storeB_L ?F ?N ?_ ?a ?b; (case F => k_asm); (case N => k_asm); (case a => rfl); (case b => rfl); k_whole; intro h' tk' t' F' N'; (try k_sweep); (try dsimp only); (try k_fold)) | (refine' storeG_L ?F ?N ?_ ?a ?b; (case F => k_asm); (case N => k_asm); (case a => rfl); (case b => rfl); k_whole; intro h' tk' F' N'; (try k_sweep); (try dsimp only); (try k_fold))))
  k_with "all" => (repeat' (first | exact List.forall_mem_nil _ | refine fmc (by walk_at "mem") ?_))
  k_with "mem" => (with_reducible (repeat (first | exact List.mem_cons_self | refine List.mem_cons_of_mem _ ?_)))
  k_with "tl" => (intro q9 hq9; with_reducible (repeat (first | exact hq9 | refine List.mem_cons_of_mem _ ?_)))
  k_with "call ref" => ((with_reducible show wpAny _ _ (call (Value.ref 66) [_]) _ _ _); (rename Fr _ _ _ _ => kF); (rename News _ _ _ _ => kN); k_dflt (refine' Spec.use (A₀ := callerA) (size2_spec w X T (1 + claimMargin + 1) (4 + 3) (some []) [_] (by decide) (by omega)) B kF kN _ (fun _ h => nomatch h) (fun _ h => h) (fun _ _ _ h => nomatch h) rfl rfl ?_ ?_;  skip); (rotate_left); (intro e9 h9 tk9 n9 g9 hx9; exact hx9.elim); (clear kF kN; intro v9 h9 tk9 n9 hr9 F9 N9 ap8; (try dsimp only); obtain ⟨z9, tz9, rfl, rfl, hz0, hz1⟩ := hr9;  clear ap8; dsimp only [List.cons_append, List.nil_append] at N9; (try k_fold)))
  k_with "call ref" => ((with_reducible show wpAny _ _ (call (Value.ref 59) [_, _]) _ _ _); (rename Fr _ _ _ _ => kF); (rename News _ _ _ _ => kN); k_dflt (refine' Spec.use (A₀ := callerA) (text2_spec w X T (1 + claimMargin + 1) (4 + 3) (some []) [_] (by decide) hd0 hz0 hz1) B kF kN _ (fun _ h => nomatch h) (fun _ h => h) (fun _ _ _ h => nomatch h) rfl rfl ?_ ?_;  skip); (rotate_left); (intro e9 h9 tk9 n9 g9 hx9; exact hx9.elim); (clear kF kN; intro v9 h9 tk9 n9 hr9 F9 N9 ap8; (try dsimp only); obtain ⟨b, bk, tb, rfl, rfl, hbk, hbl⟩ := hr9; (have hbn : bk.length ≤ 131079 := by omega); clear ap8; dsimp only [List.cons_append, List.nil_append] at N9; (try k_fold)))
  k_with "subscriptTail Name Slice ref ref" => (k_here; (with_reducible show wpAny _ _ (subscriptTail _ (PySem.Expr.Slice none (some _) none _) (Value.ref ln) (Value.ref _)) _ _ _); k_dflt (refine' kmk_slice_ints ?sl1F ?sl1N ?sl1l ?sl1p ?sl1q hus (kmk_upto hus ?sl1h0) rfl ?_ ?sl1s ?sl1t ?sl1z; (case sl1F => k_asm); (case sl1N => k_asm); (case sl1l => kmk_list); (case sl1p => kmk_part); (case sl1q => kmk_part); (case sl1h0 => decide); (case sl1s => with_unfolding_all rfl); (case sl1t => kmk_pure); (case sl1z => rw [List.size_toArray, hus.length, sizeLine_eq]; exact Nat.le_trans hql (by decide))); intro D4 ws4 h4 F4 N4 l4 hI4 hC4 hL4; (have hw4 := hI4.length); (try k_lt l4); (try k_sweep))
  k_with "exec Assign cons ListComp" => (k_here; k_dflt (refine LCg.Assign_ListComp_U (F₀ := by k_asm) (by rfl) (by with_unfolding_all rfl) (by with_unfolding_all rfl) (by decide) (by rfl) (by decide) (by rfl) (by rfl) (by rfl) ?_))
  k_with "CompSrc" => (k_here; (with_reducible show LCg.CompSrc _ _ _ _ _ _ _ (Expr.Call _ _ _ _) _ _ _ _ _ _); (rename Fr _ _ _ _ => kF); (rename News _ _ _ _ => kN); k_dflt (refine LCg.CompSrc.ledger (by rfl) kF kN (List.Mem.head _) (by rw [List.size_toArray, hw4, List.length_take, sizeLine_eq]; exact Nat.le_trans (Nat.min_le_left _ _) (by decide)) ?_; intro g'; (refine' vals_restG (DrawG bk) drawG_l drawG_r (fun new => .inr ⟨_, List.mem_append_right _ (List.Mem.head _), rfl, _, rfl⟩) ?_ ?_)); (clear kF kN; intro i v I' oI' C' oC' D' m' ys' new' h' tk' E' hi' hv' hC' hx' F' N' off' ne'; (replace N' := news_rot3 N'); dsimp only [List.cons_append] at N'; obtain ⟨n8, t8, rfl⟩ := ints_at9 hI4 (by simpa using hv'); clear hv'; (try k_fold)); (rotate_left); (clear kF kN; intro ys5 new5 hl5 hy5; obtain ⟨os, ps, hR, hol, hd5⟩ := drawn_rows hy5; clear hy5; (have hol5 : os.length ≤ 4 := by rw [hol, hl5, List.size_toArray, hw4, List.length_take]; exact Nat.le_trans (Nat.min_le_left _ _) (by decide)); (have hpl : ps.flatten.length ≤ 524824 := Nat.le_trans (flat_le 4 (by rw [hR.length]; exact hol5) hR.pieces) (by omega)); (try k_fold)))
  k_with "call ref" => ((with_reducible show wpAny _ _ (call (Value.ref 88) [_, _]) _ _ _); (rename Fr _ _ _ _ => kF); (rename News _ _ _ _ => kN); k_dflt (refine' Spec.use (A₀ := callerA) (row2_spec w X T (1 + claimMargin + 1) (4 + 3) (some []) [_] (by decide) hbk (by omega)) B kF kN _ (fun _ h => nomatch h) (fun _ h => h) (fun _ _ _ h => nomatch h) rfl rfl ?_ ?_; skip); (rotate_left); (intro e9 h9 tk9 n9 g9 hx9; exact hx9.elim); (clear kF kN; intro v9 h9 tk9 n9 hr9 F9 N9 ap8; (try dsimp only); obtain ⟨D8, c81, c82, t81, t82, rfl, rfl, hr8⟩ := hr9; dsimp only [List.cons_append, List.nil_append] at N9; (try k_fold)))
  k_with "RowEndG" => ((rename Fr _ _ _ _ => kF); (rename News _ _ _ _ => kN); k_dflt (exact row_endG kF kN ap8 rot_sub off' ⟨_, _, _, _, _, rfl, List.Mem.head _, hr8⟩))
  k_with "FinA" => ((with_reducible show LCg.FinA _ _ _ _ (Str.ofString "drawn") _ _ _); (unfold LCg.FinA); intro D5 h5 tk5 F5 N5 o5; clear o5; (replace N5 := news_rot1 N5); dsimp only [List.cons_append] at N5; (try dsimp only))
  k_with "storeName" => (k_here; (with_reducible show wpAny _ _ (storeName _ (Str.ofString "base") _) _ _ _); (rename Fr _ _ _ _ => kF); (rename News _ _ _ _ => kN); k_dflt (refine store_cell ((ln, listOf (List.toArray us) nn) :: nT) kF kN (by walk_at "mem") hob (fmc (⟨by walk_at "mem", a0⟩) (fun q hq => ⟨(show ∀ q ∈ nT, q ∈ _ from by walk_at "tl") q hq, tab_off kN (rest := [(L + 1, ob)]) (by walk_at "all") (fmc (plain_cell hob) (List.forall_mem_nil _)) (by walk_at "tl") (.inr hT) q hq _ (List.Mem.head _)⟩)) ?_ rfl rfl rfl); (clear kF kN hob; intro h8 tk8 ob F8 N8 hob; (try dsimp only); (try k_fold)))
  k_with "CompSrc" => (k_here; (with_reducible show LCg.CompSrc _ _ _ _ _ _ _ (Expr.Subscript _ (Expr.Constant (Const.int 0) _ _) _) _ _ _ _ _ _); (rename Fr _ _ _ _ => kF); (rename News _ _ _ _ => kN); k_dflt (refine LCg.CompSrc.ledger (by rfl) kF kN (ax := D5) (its := List.toArray ys5) (k := ys5.length) (by walk_at "mem") (by rw [List.size_toArray, ← hol, sizeLine_eq]; exact Nat.le_trans hol5 (by decide)) ?_; intro g'; (refine' vals_rest (BytV (fun i => os.getD i [])) (.inr ⟨LCg.lst ys5, by walk_at "mem", rfl, _, rfl⟩) ?_ ?_)); (clear kF kN; intro i v I' oI' C' oC' D' m' ys' h' tk' E' hi' hv' hC' hx' F' N'; obtain ⟨D8, c81, t81, c82, t82, rfl, hm8, he81, he82⟩ := hd5 i v (by simpa using hv'); clear hv'; (replace N' := nws_cons N' (show (D8, _) ∈ _ from (by first | exact List.mem_append_right _ hm8 | (with_reducible (repeat (first | exact List.mem_append_right _ hm8 | refine List.mem_cons_of_mem _ ?_)))))); (try k_fold)); (rotate_left); (clear kF kN; intro ys8o hl8 hy8; (have hvo := bytV_of (os := os) (hl8.trans (by rw [List.size_toArray]; exact hol.symm)) hy8); clear hl8 hy8; (try k_fold)))
  k_with "FinA" => ((with_reducible show LCg.FinA _ _ _ _ (Str.ofString "octets") _ _ _); (unfold LCg.FinA); intro lo h5 tk5 F5 N5 olo; (try dsimp only))
  k_with "CompSrc" => (k_here; (with_reducible show LCg.CompSrc _ _ _ _ _ _ _ (Expr.Subscript _ (Expr.Constant (Const.int 1) _ _) _) _ _ _ _ _ _); (rename Fr _ _ _ _ => kF); (rename News _ _ _ _ => kN); k_dflt (refine LCg.CompSrc.ledger (by rfl) kF kN (ax := D5) (its := List.toArray ys5) (k := ys5.length) (by walk_at "mem") (by rw [List.size_toArray, ← hol, sizeLine_eq]; exact Nat.le_trans hol5 (by decide)) ?_; intro g'; (refine' vals_rest (BytV (fun i => ps.getD i [])) (.inr ⟨LCg.lst ys5, by walk_at "mem", rfl, _, rfl⟩) ?_ ?_)); (clear kF kN; intro i v I' oI' C' oC' D' m' ys' h' tk' E' hi' hv' hC' hx' F' N'; obtain ⟨D8, c81, t81, c82, t82, rfl, hm8, he81, he82⟩ := hd5 i v (by simpa using hv'); clear hv'; (replace N' := nws_cons N' (show (D8, _) ∈ _ from (by first | exact List.mem_append_right _ hm8 | (with_reducible (repeat (first | exact List.mem_append_right _ hm8 | refine List.mem_cons_of_mem _ ?_)))))); (try k_fold)); (rotate_left); (clear kF kN; intro ys8p hl8 hy8; (have hvp := bytV_of (os := ps) (hl8.trans (by rw [List.size_toArray]; rw [hR.length]; exact hol.symm)) hy8); clear hl8 hy8; (try k_fold)))
  k_with "FinA" => ((with_reducible show LCg.FinA _ _ _ _ (Str.ofString "pieces") _ _ _); (unfold LCg.FinA); intro lp h5 tk5 F5 N5 olp; (try dsimp only))
  k_with "RowEnd" => ((rename Fr _ _ _ _ => kF); (rename News _ _ _ _ => kN); k_dflt (first | exact row_end kF kN (by walk_at "sub2") ⟨_, _, rfl, he81⟩ | exact row_end kF kN (by walk_at "sub2") ⟨_, _, rfl, he82⟩))
  k_with "sub2" => (intro q9 hq9; with_reducible (repeat (first | exact hq9 | refine List.mem_cons_of_mem _ ?_)))
  k_with "getMethod bytes" => (k_here; refine method_join ?_)
  k_with "call builtin:bytes.join" => (k_here; (with_reducible show wpAny _ _ (call _ [_, Value.ref lp]) _ _ _); (with_reducible rename News _ _ _ _ => kN); k_dflt (refine' join_K (s := ⟨_, _, _, _, _⟩) (vs := ys8p) (News.isList (n := ys8p.length) kN ?hm) hvp (by omega) ?_; (case hm => walk_at "mem")); intro tg ttg ktg htg; (try dsimp only))
  k_with "call builtin:bytes.join" => (k_here; (with_reducible show wpAny _ _ (call _ [_, Value.ref lo]) _ _ _); (with_reducible rename News _ _ _ _ => kN); k_dflt (refine' join_K (s := ⟨_, _, _, _, _⟩) (vs := ys8o) (News.isList (n := ys8o.length) kN ?hm) hvo (L4.len ⟨hol5, hR.sm⟩) ?_; (case hm => walk_at "mem")); intro cj tcj kcj hcj; (try dsimp only))
  k_with "call builtin:len" => (k_here; (with_reducible show wpAny _ _ (call (Value.builtin "len") [Value.bytes _ _]) _ _ _); k_dflt (first | refine len_b hdk (by omega) ?_ | refine len_b htg (by omega) ?_ | refine len_b hbk (by omega) ?_); intro _ _; (try dsimp only))
  k_with "call ref" => ((with_reducible show wpAny _ _ (call (Value.ref 71) [_, _]) _ _ _); (fail_if_success (have h9 := h1)); (rename Fr _ _ _ _ => kF); (rename News _ _ _ _ => kN); k_dflt (refine' Spec.use (A₀ := callerA) (number2_spec w X T (1 + claimMargin + 1) (4 + 3) (some []) [_] (by decide) (Int.natCast_nonneg _) (by omega) m30 (by omega)) B kF kN _ (fun _ h => nomatch h) (fun _ h => h) (fun _ _ _ h => nomatch h) rfl rfl ?_ ?_; skip); (rotate_left); (intro e9 h9 tk9 n9 g9 hx9; exact hx9.elim); (clear kF kN; intro v9 h9 tk9 n9 hr9 F9 N9 ap8; (try dsimp only); obtain ⟨f, fn, ft, rfl, rfl, hf, hlo9, hhi9, hlt9⟩ := hr9; clear ap8; dsimp only [List.cons_append, List.nil_append] at N9; (have h1 : 1 ≤ fn := by omega); (have h1' : fn ≤ 11 := by omega); (have e1 := num_lt (by omega) hlt9); clear hlo9 hhi9 hlt9; (try k_fold)))
  k_with "call ref" => ((with_reducible show wpAny _ _ (call (Value.ref 71) [_, _]) _ _ _); (have h9 := h1); (rename Fr _ _ _ _ => kF); (rename News _ _ _ _ => kN); k_dflt (refine' Spec.use (A₀ := callerA) (number2_spec w X T (1 + claimMargin + 1) (4 + 3) (some []) [_] (by decide) (Int.natCast_nonneg _) (by omega) m90 (by omega)) B kF kN _ (fun _ h => nomatch h) (fun _ h => h) (fun _ _ _ h => nomatch h) rfl rfl ?_ ?_; skip); (rotate_left); (intro e9 h9 tk9 n9 g9 hx9; exact hx9.elim); (clear kF kN; intro v9 h9 tk9 n9 hr9 F9 N9 ap8; (try dsimp only); obtain ⟨c, cn, ct, rfl, rfl, hc, hlo9, hhi9, hlt9⟩ := hr9; clear ap8; dsimp only [List.cons_append, List.nil_append] at N9; (have h2 : 1 ≤ cn := by omega); (have h2' : cn ≤ 11 := by omega); (have e2 := num_lt (by omega) hlt9); clear hlo9 hhi9 hlt9; (try k_fold)))
  k_with "binaryOp Add bytes bytes" => (k_here; (with_reducible show wpAny _ _ (binaryOp _ (Value.bytes f _) (Value.bytes c _)) _ _ _); k_dflt (refine KBa.add_K hf hc (by rw [numK_len, numK_len]; omega) ?_); intro t7 k7 hfc; (replace hfc : KBw.bInts (f ++ c) = numK bk.length fn ++ numK ps.flatten.length cn := hfc); (try dsimp only))
  k_with "binaryOp Add bytes bytes" => (k_here; (with_reducible show wpAny _ _ (binaryOp _ (Value.bytes _ _) (Value.bytes cj _)) _ _ _); (have hdf := dk_facts hbn hR hol5 hcj h1 h1' h2 h2' e1 e2); obtain ⟨hdl, hdf, hrd⟩ := hdf; k_dflt (refine KBa.add_K hfc hcj (by rw [List.length_append] at hdl; omega) ?_); intro t7 k7 hdk; (try dsimp only))
  k_with "binaryOp Mod int int" => (k_here; (with_reducible show wpAny _ _ (binaryOp _ (Value.int _ _) (Value.int (_ + _) _)) _ _ _); k_dflt (refine mod_int' ?mdK ?_; (case mdK => exact Int.ne_of_gt (Int.lt_add_one_of_le (Int.natCast_nonneg _)))))
  k_with "subscriptTail Name Slice bytes ref" => (k_here; (with_reducible show wpAny _ _ (subscriptTail _ (PySem.Expr.Slice none (some (Expr.Name (Str.ofString "i") _)) none _) (Value.bytes _ _) (Value.ref _)) _ _ _); (rename Fr _ _ _ _ => kF); (rename News _ _ _ _ => kN); k_dflt (refine slice_j (s := ⟨_, _, _, _, _⟩) kF kN hbk (fmod_bd _ (Int.lt_add_one_of_le (Int.natCast_nonneg _))).1 (by omega) ?_); (clear kF kN; intro _ _ _ _ _ _ hsb1; (try dsimp only)))
  k_with "subscriptTail Name Slice bytes ref" => (k_here; (with_reducible show wpAny _ _ (subscriptTail _ (PySem.Expr.Slice (some (Expr.Name (Str.ofString "i") _)) none none _) (Value.bytes _ _) (Value.ref _)) _ _ _); (rename Fr _ _ _ _ => kF); (rename News _ _ _ _ => kN); k_dflt (refine slice_i (s := ⟨_, _, _, _, _⟩) kF kN hbk (fmod_bd _ (Int.lt_add_one_of_le (Int.natCast_nonneg _))).1 (by omega) ?_); (clear kF kN; intro _ _ _ _ _ _ hsb2; (try dsimp only)))
  k_with "subscriptTail Name Slice bytes ref" => (k_here; (with_reducible show wpAny _ _ (subscriptTail _ (PySem.Expr.Slice none (some (Expr.Name (Str.ofString "j") _)) none _) (Value.bytes _ _) (Value.ref _)) _ _ _); (rename Fr _ _ _ _ => kF); (rename News _ _ _ _ => kN); k_dflt (refine slice_j (s := ⟨_, _, _, _, _⟩) kF kN hdk (fmod_bd _ (Int.lt_add_one_of_le (Int.natCast_nonneg _))).1 (by omega) ?_); (clear kF kN; intro _ _ _ _ _ _ hsd1; (try dsimp only)))
  k_with "subscriptTail Name Slice bytes ref" => (k_here; (with_reducible show wpAny _ _ (subscriptTail _ (PySem.Expr.Slice (some (Expr.Name (Str.ofString "j") _)) none none _) (Value.bytes _ _) (Value.ref _)) _ _ _); (rename Fr _ _ _ _ => kF); (rename News _ _ _ _ => kN); k_dflt (refine slice_i (s := ⟨_, _, _, _, _⟩) kF kN hdk (fmod_bd _ (Int.lt_add_one_of_le (Int.natCast_nonneg _))).1 (by omega) ?_); (clear kF kN; intro _ _ _ _ _ _ hsd2; (try dsimp only)))
  k_with "nT" => (intro q9 hq9; with_reducible (repeat (first | exact hq9 | exact List.mem_append_left _ hq9 | refine List.mem_cons_of_mem _ ?_)))
  k_with "execs cons Assign cons" => ((with_reducible show wpAny _ _ (execs (Stmt.Assign [Expr.Name "told" _] _ _ :: _) _) _ _ _); (rename Fr _ _ _ _ => kF); (rename News _ _ _ _ => kN); k_dflt (refine' law_end2_2 (E := E) w hK' X T codeHd B ?F ?N hT hob hbk hbn h1 h1' e1 hf (SmB.of_len hc (by rw [numK_len]; omega)) hR hol5 hvo hvp htg hdk hdl hdf hrd hpl hus hqs hql (fmod_bd _ (Int.lt_add_one_of_le (Int.natCast_nonneg _))).1 (fmod_bd _ (Int.lt_add_one_of_le (Int.natCast_nonneg _))).1 (two_are hsb1 hsb2) (.cons hsd1 (.cons (b := #[]) rfl (.cons hsd2 .nil))) ?a1 ?a2 ?a3 ?a4 ?a5 ?a6 ?a7 ?a8 ?hst ?henv ?hA ?hE hP; (case hst => exact rfl); (case henv => exact rfl); (case hA => exact rfl); (case hE => exact fun _ _ z => z); (case F => refine fr_names kF ?_; (repeat' (first | exact List.forall_mem_nil _ | refine fmc (by exact rfl) ?_))); (case N => refine nws_sub kN ?_; walk_at "all"; walk_at "nT"); (case a1 => exact off1_mem olo (ln, listOf (List.toArray us) nn) (by walk_at "mem")); (case a2 => exact off1_mem olp (ln, listOf (List.toArray us) nn) (by walk_at "mem")); (case a7 => exact off1_mem olo (L + 1, ob) (by walk_at "mem")); (case a8 => exact off1_mem olp (L + 1, ob) (by walk_at "mem")); (all_goals (show @Ne Nat _ _; omega))))
  k_steps
theorem law_mid2_2 (w : World) {p : Program} {loose : List Str} {mean : ExcName → Option Value} {mg mb : Str → Option Value}
   {oc od0 : _} {osl : _} {nm ql : Str} {pa : Arguments} {bd : List Stmt} {sc : Scope} {dV kV dc pm0 cdv ct fc : Value} {an : Option Addr} {fa : Addr}
   (hK : List.lookup 132 (hd.heap_1 w.params) = some ⟨oc, od0, .func (fnOf nm ql pa bd sc dV kV dc pm0 an cdv ct), osl⟩)
   {g0 : Heap} (X : (hd.heap_1 w.params).In g0) (T : Top p loose mean mg mb g0) (codeHd : CodeHd g0 46 42) (B : Below callerA g0 [] g0)
   {s : Shared} {L ln : Addr} {ob : Obj} {m : Str → Option Value} {v0 : Option Value} {tf0 : Tok} {qs : List Int} {us : List Value} {nn : Nat} {f0 : Int} {nT : List (Addr × Obj)}
   (F : Fr g0 L s.heap (kstB m [(Str.ofString "numbers", .ref ln), (Str.ofString "first", .int f0 tf0)]))
   (N : News g0 L s.heap ((L + 1, ob) :: (ln, listOf (List.toArray us) nn) :: nT))
   (hT : Tab nT) (hob : ob.data = .cell v0) (hus : IntsAre us qs) (hqs : ∀ q ∈ qs, 0 ≤ q ∧ q < 1000000000000000000) (hql : qs.length ≤ 8) (hf0 : 0 ≤ f0) (hf1 : f0 < 1000000000000000000) (a0 : @Ne Nat ln (L + 1))
   {E : Value → Shared → Prop} {stmts : List Stmt} {Pn : Flow → Shared → Prop} {En : Value → Shared → Prop} {Am : Around} {env : Env} (hst : bd.drop 4 = stmts) (henv : envOfC ql sc L fa fc = env) (hA : callerA.deeper (envOfC ql sc L fa fc) = Am)
   (hE : ∀ e s', wpAny (TheM w) (callerA.deeper (envOfC ql sc L fa fc)) (leaving (envOfC ql sc L fa fc) e) (fun _ s'' => E e s'') (fun e' s'' => E e' s'') s' → En e s')
   (hP : ∀ h' tk m' qs, Fr g0 L h' m' → News g0 L h' [(42, tabObj qs)] → Pn (.ret (.bool true)) { s with heap := h', toks := tk }) :
   wpAny (TheM w) Am (execs stmts env) Pn En s := by
  subst hst henv hA
  exact wpAny_mono (law_mid2 w hK X T codeHd B F N hT hob hus hqs hql hf0 hf1 a0 hP) (fun _ _ z => z) hE
end Mine
open PySem PySem.W PyProof.Rows PySem.Calls PySem.Spec
set_option Elab.async true
namespace Mine.top
theorem tw10005945817407372193 : True := trivial
theorem tw10090393231696489298 : True := trivial
theorem tw10187264123177260123 : True := trivial
theorem tw10404823597219466188 : True := trivial
theorem tw1047907039808853306 : True := trivial
theorem tw10773188271377071773 : True := trivial
theorem tw10996937224433265937 : True := trivial
theorem tw11334415319851112604 : True := trivial
theorem tw11430207588045935325 : True := trivial
theorem tw11459358961799972967 : True := trivial
theorem tw1149218181149386328 : True := trivial
theorem tw11546936639936008217 : True := trivial
theorem tw11858546649754279707 : True := trivial
theorem tw1245559373397905713 : True := trivial
theorem tw12540527436937284434 : True := trivial
theorem tw12819366960792805191 : True := trivial
theorem tw13120753694373217308 : True := trivial
theorem tw13303987763403120937 : True := trivial
theorem tw13359135706311490777 : True := trivial
theorem tw13369591340354186047 : True := trivial
theorem tw14317436739780910966 : True := trivial
theorem tw14349089067433371257 : True := trivial
theorem tw14597223018079223185 : True := trivial
theorem tw14697897431881910225 : True := trivial
theorem tw14823308797102314842 : True := trivial
theorem tw14861896470697024400 : True := trivial
theorem tw14917401599646851644 : True := trivial
theorem tw1492452104121835379 : True := trivial
theorem tw14987219478266130788 : True := trivial
theorem tw15169761463676818070 : True := trivial
theorem tw15177526630643400193 : True := trivial
theorem tw15240379268576122478 : True := trivial
theorem tw15362295582089109014 : True := trivial
theorem tw15860264024139754761 : True := trivial
theorem tw15878805988109762761 : True := trivial
theorem tw15976228082101565994 : True := trivial
theorem tw16058212318047004132 : True := trivial
theorem tw16101359788681783327 : True := trivial
theorem tw16204670001084760307 : True := trivial
theorem tw16420938139371093754 : True := trivial
theorem tw16439428074185983240 : True := trivial
theorem tw16541100652227675460 : True := trivial
theorem tw16759092144687519636 : True := trivial
theorem tw16782997733028217545 : True := trivial
theorem tw16900427199656544559 : True := trivial
theorem tw1732150942055357024 : True := trivial
theorem tw1736530178072539846 : True := trivial
theorem tw17486766287000646611 : True := trivial
theorem tw17492772389151264855 : True := trivial
theorem tw17555251805378815213 : True := trivial
theorem tw17810072253543177317 : True := trivial
theorem tw17886615442053742456 : True := trivial
theorem tw18064794426631996164 : True := trivial
theorem tw18086089286151905521 : True := trivial
theorem tw1814787853859245837 : True := trivial
theorem tw18164388396756303480 : True := trivial
theorem tw1869187583165140508 : True := trivial
theorem tw1886144042066472794 : True := trivial
theorem tw2057334267981633021 : True := trivial
theorem tw2287823674025257028 : True := trivial
theorem tw2464713573024523455 : True := trivial
theorem tw2731995056826638727 : True := trivial
theorem tw2732273902793177162 : True := trivial
theorem tw2822501910515967889 : True := trivial
theorem tw2835187731363253809 : True := trivial
theorem tw2985252069258134486 : True := trivial
theorem tw352232786441526191 : True := trivial
theorem tw3969286963782609292 : True := trivial
theorem tw4166218997396506358 : True := trivial
theorem tw4213018616267185653 : True := trivial
theorem tw4551080515912023512 : True := trivial
theorem tw4571971715460732019 : True := trivial
theorem tw4655869559712951663 : True := trivial
theorem tw4671429814451907529 : True := trivial
theorem tw5088376156974544275 : True := trivial
theorem tw5105846836358774362 : True := trivial
theorem tw5155950481276406077 : True := trivial
theorem tw5303079699428457377 : True := trivial
theorem tw5476889619067714990 : True := trivial
theorem tw5523086135645875356 : True := trivial
theorem tw5597187220613765494 : True := trivial
theorem tw5667650583090716360 : True := trivial
theorem tw575894324575664597 : True := trivial
theorem tw5766051744304087583 : True := trivial
theorem tw5868845118606482295 : True := trivial
theorem tw6286779285267259847 : True := trivial
theorem tw6491118196486620199 : True := trivial
theorem tw6802827213959003187 : True := trivial
theorem tw6812286434817487243 : True := trivial
theorem tw6898770573198911631 : True := trivial
theorem tw7092665756404751892 : True := trivial
theorem tw72247145696351765 : True := trivial
theorem tw7297446738713254254 : True := trivial
theorem tw7458633546980236471 : True := trivial
theorem tw7847650389618582240 : True := trivial
theorem tw788273225186049534 : True := trivial
theorem tw7990429038631628895 : True := trivial
theorem tw814325599930780420 : True := trivial
theorem tw8143265674769528471 : True := trivial
theorem tw8146399340996573465 : True := trivial
theorem tw81815255157605957 : True := trivial
theorem tw8363718466572441477 : True := trivial
theorem tw8507776931139520737 : True := trivial
theorem tw8598144960395782539 : True := trivial
theorem tw8640399195822439974 : True := trivial
theorem tw8645369167282567922 : True := trivial
theorem tw864819663365544661 : True := trivial
theorem tw8735323631387419056 : True := trivial
theorem tw8813761850579938390 : True := trivial
theorem tw9063741608606530840 : True := trivial
theorem tw908825868028484722 : True := trivial
theorem tw9229161468869434483 : True := trivial
theorem tw9305691244287143441 : True := trivial
theorem tw956942650209027819 : True := trivial
theorem tw9601329371697537090 : True := trivial
theorem tw9631074621892390191 : True := trivial
theorem tw9800703332001039478 : True := trivial
end Mine.top
namespace Mine
set_option maxRecDepth 100000
noncomputable def IntIn (n : Int) (v : Value) : Prop := ∃ x t, v = .int x t ∧ 0 ≤ x ∧ x < n
theorem int_mod {n x : Int} {t : Tok} (h : 0 < n) : IntIn n (.int (x.fmod n) t) := ⟨_, _, rfl, (fmod_bd x h).1, (fmod_bd x h).2⟩
theorem int_zero {n : Int} {t : Tok} (h : 0 < n) : IntIn n (.int 0 t) := ⟨_, _, rfl, Int.le_refl _, h⟩
theorem raw_len {ns : List Int} : ((List.take (Int.toNat 63) ns).map fun k => k.fmod 256).length ≤ 63 := by
  rw [List.length_map, List.length_take]; exact Nat.le_trans (Nat.min_le_left _ _) (by decide)
theorem raw_big {b : Array UInt8} {bk rk : List Int} (hk : KBw.bInts b = rk) (hl : rk.length ≤ 63) (hb : bk.length ≤ 127) : ∀ t, readDelta bk rk = some t → t.length ≤ 16777216 := fun t e =>
  delta_big (oct_of hk) (by omega) (by omega) (Nat.le_trans (hiN_len _) (by omega)) e
noncomputable abbrev numsL (ns : List Int) : List Int := (List.take 8 ns).map fun k => k.fmod 1000000000000000000
theorem nums_in {ns : List Int} : ∀ q ∈ numsL ns, 0 ≤ q ∧ q < 1000000000000000000 := fun q hq => by
  obtain ⟨k, _, rfl⟩ := List.mem_map.mp hq
  exact fmod_bd k (by decide)
theorem nums_len {ns : List Int} : (numsL ns).length ≤ 8 := by
  rw [List.length_map, List.length_take]; exact Nat.min_le_left _ _
theorem int_get {ns : List Int} {i : Nat} {t : Tok} : IntIn 1000000000000000000 (.int ((numsL ns).getD i 0) t) := by
  rcases Nat.lt_or_ge i (numsL ns).length with h | h
  · rw [List.getD_eq_getElem?_getD, List.getElem?_eq_getElem h]
    have := nums_in (ns := ns) _ (List.getElem_mem h)
    exact ⟨_, _, rfl, this.1, this.2⟩
  · rw [List.getD_eq_getElem?_getD, List.getElem?_eq_none h]
    exact int_zero (by decide)

set_option maxHeartbeats 8000000 in
theorem top : PySem.Challenge.rw_jq0004_02.Holds := by
  w_on
  o_law
  k_head
  (case hw => w_witness2)
  k_go0
  rename World => wX
  rename Shared => s1
  rename Obj => ob
  rename (List Int) => ns
  rename Below _ _ _ _ => kB
  rename Top _ _ _ _ _ _ => kT
  k_with_none
  k_with "execs cons" => k_fold
  k_with "eval Call" => k_fold
  k_with "storeName" => (k_here; k_dflt (first | (refine' storeI_L ?F ?N ?_ ?a ?b; (case F => k_asm); (case N => k_asm); (case a => rfl); (case b => rfl); k_whole; intro h' tk' t' F' N'; (try k_sweep); (try dsimp only); (try k_fold)) | (refine' storeB_L ?F ?N ?_ ?a ?b; (case F => k_asm); (case N => k_asm); (case a => rfl); (case b => rfl); k_whole; intro h' tk' t' F' N'; (try k_sweep); (try dsimp only); (try k_fold)) | (refine' storeG_L ?F ?N ?_ ?a ?b; (case F => k_asm); (case N => k_asm); (case a => rfl); (case b => rfl); k_whole; intro h' tk' F' N'; (try k_sweep); (try dsimp only); (try k_fold))))
  k_with "all" => (repeat' (first | exact List.forall_mem_nil _ | refine fmc (by walk_at "mem") ?_))
  k_with "mem" => (with_reducible (repeat (first | exact List.mem_cons_self | refine List.mem_cons_of_mem _ ?_)))
  k_with "tl" => (intro q9 hq9; with_reducible (repeat (first | exact hq9 | refine List.mem_cons_of_mem _ ?_)))
  k_with "call type:bytes" => (k_here; (with_reducible show wpAny _ _ (call (Value.type "bytes") [Value.ref _]) _ _ _); k_dflt (refine' KBa.make_K (ns := (List.take (Int.toNat 63) ns).map fun k => k.fmod 256) ?kbaF ?kbaN ?kbah ?kbal ?kbai ?kbar ?hz ?_; (case kbaF => k_asm); (case kbaN => k_asm); (case kbah => rfl); (case kbal => kba_isList); (case kbai => assumption); (case kbar => exact oct_in (f := fun k => k) (ks := List.take (Int.toNat 63) ns)); (case hz => rw [List.length_map, List.length_take]; exact Nat.le_trans (Nat.min_le_left _ _) (by decide)); skip); (intro _ _ _ _ _ kbaIn; (have hrk := KBa.ints_make kbaIn); clear kbaIn; (have hrl := raw_len (ns := ns)); (generalize byteArr ((List.take (Int.toNat 63) ns).map fun k => k.fmod 256) = br at hrk ⊢); (generalize ((List.take (Int.toNat 63) ns).map fun k => k.fmod 256) = rk at hrk hrl); (try dsimp only)))
  k_with "call builtin:len" => (k_here; (with_reducible show wpAny _ _ (call (Value.builtin "len") [Value.bytes _ _]) _ _ _); k_dflt (refine len_b hrk (by omega) ?_); intro _ _; (try dsimp only))
  k_with "eval IfExp" => (k_here; (fail_if_success (have h9 := inRaw)); (with_reducible show wpAny _ _ (eval (Expr.IfExp (Expr.Compare _ _ _ _) _ _ _) _) _ _ _); (rename Fr _ _ _ _ => kF); (rename News _ _ _ _ => kN); k_dflt (refine' cut_val [(s1.heap.objs.size + 1, ob), (42, tabObj #[])] (IntIn 128) kF kN ?hk ?_ ?_; (case hk => walk_at "all"); skip); (rotate_left); (clear kF kN; intro v7 h7 tk7 hO8 F7 N7; unfold IntIn at hO8; obtain ⟨x7, t7, rfl, hx70, hx71⟩ := hO8; (try k_fold)); (rotate_left); ((have inRaw : True := trivial); (try k_fold)))
  k_with "subscriptTail Name Constant bytes int" => (k_here; (with_reducible show wpAny _ _ (subscriptTail _ _ (Value.bytes _ _) (Value.int _ _)) _ _ _); k_dflt (refine item_n (n := 0) hrk (by omega) (by have := len_pos' ‹_› hrk; omega) ?_); intro _ _ hx0 hx1; (try dsimp only))
  k_with "RowEnd" => ((rename Fr _ _ _ _ => kF); (rename News _ _ _ _ => kN); k_dflt (first | exact row_end kF kN (by walk_at "all") (int_mod (by decide)) | exact row_end kF kN (by walk_at "all") (int_zero (by decide))))
  k_with "call ref" => ((with_reducible show wpAny _ _ (call (Value.ref 59) [_, _]) _ _ _); (rename Fr _ _ _ _ => kF); (rename News _ _ _ _ => kN); k_dflt (refine' Spec.use (A₀ := callerA) (text2_spec wX ?kX kT (1 + claimMargin + 1) (4 + 3) (some []) [_] (by decide) (Int.natCast_nonneg _) hx70 (by omega)) kB kF kN _ (fun _ h => nomatch h) (fun _ h => h) (fun _ _ _ h => nomatch h) rfl rfl ?_ ?_; (case kX => assumption); skip); (rotate_left); (intro e9 h9 tk9 n9 g9 hx9; exact hx9.elim); (clear kF kN; intro v9 h9 tk9 n9 hr9 F9 N9 ap8; (try dsimp only); obtain ⟨b59, k59, t59, rfl, rfl, hb59, hl59⟩ := hr9; (have hl59n : k59.length ≤ 127 := by omega); clear ap8; dsimp only [List.cons_append, List.nil_append] at N9; (try k_fold)))
  k_with "call ref" => ((with_reducible show wpAny _ _ (call (Value.ref 127) [_, _, _, _]) _ _ _); (rename Fr _ _ _ _ => kF); (rename News _ _ _ _ => kN); k_dflt (refine' SpecSG.use0 (A₀ := callerA) (agrees2_spec wX ?kX kT (1 + claimMargin + 1) (4 + 3) (some []) [_] (by decide) ?cH (by decide) hb59 (by omega) hrk (by omega) (raw_big hrk hrl hl59n) (by decide) ?hj (n := [(42, tabObj #[])]) (.inl rfl)) kB kF kN [(s1.heap.objs.size + 1, ob)] ?hn ?hr ?hd (fun _ h => nomatch h) rfl rfl ?_; (case kX => assumption); (case cH => assumption); (case hj => exact fdiv_nn (Int.natCast_nonneg _) (by decide)); (case hn => walk_at "all"); (case hr => walk_at "all"); (case hd => exact plain_off kN (by walk_at "all") (fmc (plain_cell (by assumption)) (List.forall_mem_nil _)) (by walk_at "all") (.inl rfl)); skip); (clear kF kN; intro v9 h9 tk9 n9 hr9 F9 N9 ap8; (try dsimp only); clear ap8; obtain ⟨rfl, hT⟩ := hr9; (replace N9 := nws_comm N9); dsimp only [List.cons_append, List.nil_append] at N9; (try k_fold)))
  k_with "FinA" => ((with_reducible show LCg.FinA _ _ _ _ (Str.ofString "numbers") _ _ _); (unfold LCg.FinA); (rename IntsAre _ _ => hus); intro ln h5 tk5 F5 N5 oln; (try dsimp only))
  k_with "eval IfExp" => (k_here; (with_reducible show wpAny _ _ (eval (Expr.IfExp (Expr.Name _ _) _ _ _) _) _ _ _); (fail_if_success (have h9 := inFst)); (rename Fr _ _ _ _ => kF); (rename News _ _ _ _ => kN); k_dflt (refine' cut_val ([(ln, _), (s1.heap.objs.size + 1, ob)] ++ n9) (IntIn 1000000000000000000) kF kN ?hk ?_ ?_; (case hk => exact List.forall_mem_append.mpr ⟨by walk_at "all", by walk_at "tl"⟩); skip); (rotate_left); (clear kF kN; intro v7 h7 tk7 hO8 F7 N7; unfold IntIn at hO8; obtain ⟨f0, tf0, rfl, hf0, hf1⟩ := hO8; dsimp only [List.cons_append, List.nil_append] at N7; (try k_fold)); (rotate_left); ((have inFst : True := trivial); (try k_fold)))
  k_with "RowEnd" => ((rename Fr _ _ _ _ => kF); (rename News _ _ _ _ => kN); k_dflt (first | exact row_end kF kN (List.forall_mem_append.mpr ⟨by walk_at "all", by walk_at "tl"⟩) int_get | exact row_end kF kN (List.forall_mem_append.mpr ⟨by walk_at "all", by walk_at "tl"⟩) (int_zero (by decide))))
  k_with "execs cons Assign cons" => ((with_reducible show wpAny _ _ (execs (Stmt.Assign [Expr.Name "base" _] _ _ :: _) _) _ _ _); (rename Fr _ _ _ _ => kF); (rename News _ _ _ _ => kN); (have hK' := (by k_dflt k_is : List.lookup 132 (top.heap_1_39 wX.params) = some ⟨_, _, .func (fnOf _ _ _ _ _ _ _ _ _ _ _ _), _⟩)); k_dflt (refine' law_mid2_2 wX hK' ?kX kT ?cH kB ?qF ?qN hT ?hob hus nums_in nums_len hf0 hf1 ?a0 ?hst ?henv ?hA ?hE ?_; (case kX => assumption); (case cH => assumption); (case hob => assumption); (case hst => exact rfl); (case henv => exact rfl); (case hA => exact rfl); (case hE => exact fun _ _ z => z); (case qF => refine fr_names kF ?_; (repeat' (first | exact List.forall_mem_nil _ | refine fmc (by exact rfl) ?_))); (case qN => refine nws_sub kN ?_; walk_at "all"; walk_at "tl"); (case a0 => exact Ne.symm (off1_mem oln (s1.heap.objs.size + 1, ob) (by walk_at "mem"))); skip); (intro h9 tk9 m9 qs9 F9 N9))
  k_steps
end Mine
end
theorem PySem.Challenge.cw_jq0004_02_holds : PySem.Challenge.rw_jq0004_02.Holds := by
  exact Mine.top
