import PyProof.Rows.All
import Wide.All
import OpenK.AllK
import Wide.FinOn
import PySem.Challenge.RW_mr0362_01
set_option Elab.async false
set_option compiler.extract_closed false
set_option maxRecDepth 100000
set_option maxHeartbeats 8000000
open PySem PySem.W PySem.Calls PyProof.Rows
namespace Mine
section
-- part MFr
section
local macro_rules | `(tactic| o_head $_) => `(tactic| skip)
theorem fr (h : PySem.Challenge.rw_mr0362_01.row.Holds) : PySem.Challenge.rw_mr0362_01.row.Holds := by
  k_head
  exact h
end
end
section
-- part MBase
abbrev Led := List (Addr × Obj)
/-- objects of the call's own: there, not in the base, no frame of the stack -/
noncomputable def Own (base : Heap) (fs : List Env) (h : Heap) (own : Led) : Prop :=
  ∀ p ∈ own, h.get? p.1 = some p.2 ∧ base.get? p.1 = none ∧ ∀ env ∈ fs, env.frame ≠ some p.1
/-- h' is h, but for what own says -/
noncomputable def Kept (own : Led) (h h' : Heap) : Prop :=
  (∀ p ∈ own, h'.get? p.1 = some p.2) ∧ ∀ b o, h.get? b = some o → (∀ p ∈ own, p.1 ≠ b) → h'.get? b = some o
/-- g holds what h holds, but for own -/
structure Sub (h : Heap) (own : Led) (g : Heap) : Prop where
  get : ∀ b o, h.get? b = some o → (∀ p ∈ own, p.1 ≠ b) → g.get? b = some o
  old : ∀ b o, g.get? b = some o → h.get? b = some o
/-- the like, the slots of the stack's frames left open -/
structure SubS (fs : List Env) (h : Heap) (own : Led) (g : Heap) : Prop where
  get : ∀ b o, h.get? b = some o → (∀ p ∈ own, p.1 ≠ b) → b ∉ fs.filterMap (·.frame) → g.get? b = some o
  frame : ∀ b o, h.get? b = some o → b ∈ fs.filterMap (·.frame) → ∃ sl, g.get? b = some { o with slots := sl }
structure KeptS (fs : List Env) (ow : Led) (h h' : Heap) : Prop where
  own : ∀ p ∈ ow, h'.get? p.1 = some p.2
  get : ∀ b o, h.get? b = some o → (∀ p ∈ ow, p.1 ≠ b) → b ∉ fs.filterMap (·.frame) → h'.get? b = some o
  frame : ∀ b o, h.get? b = some o → b ∈ fs.filterMap (·.frame) → ∃ sl, h'.get? b = some { o with slots := sl }
theorem Own.off {base : Heap} {fs : List Env} {h : Heap} {own : Led} (O : Own base fs h own) {b : Addr} (hb : b ∈ fs.filterMap (·.frame)) : ∀ p ∈ own, p.1 ≠ b := by
  intro p hp e
  obtain ⟨env, he, hf⟩ := List.mem_filterMap.mp hb
  exact (O p hp).2.2 env he (e ▸ hf)
theorem Sub.toS {base : Heap} {fs : List Env} {h g : Heap} {own : Led} (S : Sub h own g) (O : Own base fs h own) : SubS fs h own g :=
  ⟨fun b o e q _ => S.get b o e q, fun b o e q => ⟨o.slots, S.get b o e (O.off q)⟩⟩
theorem SubS.turn {fs : List Env} {h g g' : Heap} {own : Led} (S : SubS fs h own g) (T : KtsTurn (fs.filterMap (·.frame)) g g') : SubS fs h own g' := by
  refine ⟨fun b o e q n => T.other b o (S.get b o e q n) n, fun b o e q => ?_⟩
  obtain ⟨sl, e1⟩ := S.frame b o e q
  obtain ⟨sl', e2⟩ := T.up e1
  exact ⟨sl', e2⟩
theorem keptS_all {fs : List Env} {g h h' : Heap} {L' : Addr} {m' : Str → Option Value} {own news' : Led} (S : SubS fs h own g) (F : Fr g L' h' m') (N : News g L' h' news') (ha : ∀ p ∈ own, ∃ q ∈ news', q.1 = p.1) : KeptS fs news' h h' := by
  refine ⟨fun p hp => (N p hp).1, fun b o e q n => F.keep b o (S.get b o e (fun p hp z => ?_) n), fun b o e n => ?_⟩
  · obtain ⟨r, hr, e'⟩ := ha p hp
    exact q r hr (e'.trans z)
  · obtain ⟨sl, e1⟩ := S.frame b o e n
    exact ⟨sl, F.keep _ _ e1⟩
theorem below_hide {A : Around} {base h : Heap} {fs : List Env} {own : Led} (B : Below A base fs h) (O : Own base fs h own) : Below A base fs (hideAll h (own.map (·.1))) := by
  refine ⟨B.stack, fun b o e => hideAll_get _ (B.stays b o e) fun q => ?_, funFrames_hideAll B.frames fun env he b hb hf => ?_⟩
  · obtain ⟨p, hp, rfl⟩ := List.mem_map.mp q
    rw [(O p hp).2.1] at e; cases e
  · obtain ⟨p, hp, rfl⟩ := List.mem_map.mp hb
    exact (O p hp).2.2 env he hf
section
variable {prog : Program} {w : World} {A : Around} {s : Shared} {base : Heap} {fs : List Env} {own : Led} {K : Frag} {p : Program} {loose : List Str} {mean : ExcName → Option Value} {mg mb : Str → Option Value}
  {R : Result → Shared → Prop} {name qual : Str} {params : Arguments} {body : List Stmt} {scope : Scope} {dV kV doc pm cdv ct oc : Value} {an od : Option Addr} {osl : Array (Option Value)} {f : Addr} {args : Args} {binds : List (Str × Value)}
theorem enterO (B : Below A base fs s.heap) (X : K.In base) (T : Top p loose mean mg mb base) (O : Own base fs s.heap own)
    (ho : K.lookup f = some ⟨oc, od, .func (fnOf name qual params body scope dV kV doc pm an cdv ct), osl⟩) (hcd : codeIn K cdv qual = true) (hroom : A.depth < recursionLimit)
    (hbind : BindsTo s (fnOf name qual params body scope dV kV doc pm an cdv ct) args binds) (hloc : ∀ y ∈ binds, scope.names.lookup y.1 = some .local)
    (h : ∀ g L' h₁, Sub s.heap own g → Fr g L' h₁ (fun y => binds.reverse.lookup y) → News g L' h₁ own → Below A base fs g → K.In g → Top p loose mean mg mb g → (∀ p ∈ own, p.1 < L') →
      wpAny (model prog w) (A.deeper (envOf qual scope L' f cdv)) (execs body (envOf qual scope L' f cdv))
        (fun fl s' => R (.ok (.ret (match fl with | .ret v => v | _ => .none))) s')
        (fun e s' => wpAny (model prog w) (A.deeper (envOf qual scope L' f cdv)) (leaving (envOf qual scope L' f cdv) e) (fun _ s'' => R (.error e) s'') (fun e' s'' => R (.error e') s'') s')
        { s with heap := h₁, toks := s.toks + binds.length })
    (hcell : ∀ x ∈ scope.names, x.2 ≠ .cell) (hco : scope.isCoroutine = false) (hgen : scope.isGenerator = false) (hk : scope.kind = .function) : codeAny (model prog w) A (.call (.ref f) args) R s := by
  have BG := below_hide B O
  have XS : K.In s.heap := X.keeps B.stays
  refine codeAny_call_def (fd := fnOf name qual params body scope dV kV doc pm an cdv ct) (body := body) (binds := binds) hroom (XS _ _ ho) rfl (T.nolimit.keeps B.stays) (codeRec_of XS hcd) rfl hbind hcell hloc (fun h₁ hns hk₁ => ?_) hco hgen hk
  exact h _ s.heap.objs.size h₁ ⟨fun b o e q => hideAll_get _ e fun z => by obtain ⟨p, hp, rfl⟩ := List.mem_map.mp z; exact q p hp rfl, fun b o e => of_hideAll _ e⟩
    ⟨hns, fun b o e => hk₁ b o (of_hideAll _ e), Nat.le_of_eq (hideAll_size _ _)⟩
    (fun p hp => ⟨hk₁ _ _ (O p hp).1, Nat.ne_of_lt (Heap.lt_size (O p hp).1), hideAll_none _ (List.mem_map_of_mem hp)⟩) BG (X.keeps BG.stays) (T.keeps BG.stays) (fun p hp => Heap.lt_size (O p hp).1)
/-- at the end of a body: what stands, told of the heap ahead of the call -/
theorem kept_of {g h h' : Heap} {L' : Addr} {m' : Str → Option Value} {own own' : Led} {news' : Led} (hg : Sub h own g) (F : Fr g L' h' m') (N : News g L' h' news')
    (hn : ∀ p ∈ own', p ∈ news') (ha : ∀ p ∈ own, ∃ q ∈ own', q.1 = p.1) : Kept own' h h' := by
  refine ⟨fun p hp => (N p (hn p hp)).1, fun b o e q => F.keep b o (hg.get b o e fun p hp z => ?_)⟩
  obtain ⟨r, hr, e'⟩ := ha p hp
  exact q r hr (e'.trans z)
end
theorem kept_all {g h h' : Heap} {L' : Addr} {m' : Str → Option Value} {own : Led} {news' : Led} (hg : Sub h own g) (F : Fr g L' h' m') (N : News g L' h' news')
    (ha : ∀ p ∈ own, ∃ q ∈ news', q.1 = p.1) : Kept news' h h' := kept_of hg F N (fun _ h => h) ha
/-- the walk's facts as the contracts want them -/
theorem own_of {A₀ : Around} {base h₀ h : Heap} {outer : List Env} {env : Env} {L : Addr} {news own : Led} (B : Below A₀ base outer h₀) (N : News h₀ L h news) (hf : env.frame = some L) (hs : ∀ p ∈ own, p ∈ news) : Own base (env :: outer) h own := by
  intro p hp
  have n := N p (hs p hp)
  refine ⟨n.1, fresh_of_stays B.stays n.2.2, fun e he q => ?_⟩
  rcases List.mem_cons.mp he with rfl | he
  · rw [hf] at q; exact n.2.1 (Option.some.inj q).symm
  · obtain ⟨L₁, o₁, hf₁, ho₁⟩ := funFrames_in B.frames e he
    rw [hf₁] at q
    rw [← Option.some.inj q, ho₁] at n
    exact nomatch n.2.2
theorem below_of {A₀ A : Around} {base h₀ h : Heap} {outer : List Env} {env : Env} {L : Addr} {m : Str → Option Value} (B : Below A₀ base outer h₀) (F : Fr h₀ L h m) (hA : A.frames = some (env :: outer)) (hf : env.frame = some L) (hk : env.scope.kind = .function) : Below A base (env :: outer) h := by
  have B₁ := pushX B F hf hk
  exact ⟨hA, B₁.stays, B₁.frames⟩
theorem fr_back {h₀ h h' : Heap} {L : Addr} {m : Str → Option Value} {news own' : Led} (F : Fr h₀ L h m) (N : News h₀ L h news) (k : Kept own' h h') (ho : ∀ p ∈ own', (∃ q ∈ news, q.1 = p.1) ∨ h.get? p.1 = none) : Fr h₀ L h' m := by
  obtain ⟨oL, es, ep, hL, r⟩ := F.ns
  have off : ∀ b o, h.get? b = some o → (b = L ∨ ∃ o', h₀.get? b = some o') → ∀ p ∈ own', p.1 ≠ b := by
    intro b o e hb p hp z
    rcases ho p hp with ⟨q, hq, e'⟩ | e'
    · have n := N q hq
      rcases hb with hb | ⟨o', hb⟩
      · exact n.2.1 (e'.trans (z.trans hb))
      · rw [e', z] at n; rw [hb] at n; exact nomatch n.2.2
    · rw [z, e] at e'; cases e'
  exact ⟨⟨oL, es, ep, k.2 L oL hL (off L oL hL (.inl rfl)), r⟩, fun b o e => k.2 b o (F.keep b o e) (off b o (F.keep b o e) (.inr ⟨o, e⟩)), F.above⟩
theorem news_back {h₀ h h' : Heap} {L : Addr} {m : Str → Option Value} {news own' news' : Led} (F : Fr h₀ L h m) (N : News h₀ L h news) (k : Kept own' h h') (ho : ∀ p ∈ own', (∃ q ∈ news, q.1 = p.1) ∨ h.get? p.1 = none)
    (hn : ∀ p ∈ news', p ∈ own' ∨ (p ∈ news ∧ ∀ q ∈ own', q.1 ≠ p.1)) : News h₀ L h' news' := by
  intro p hp
  rcases hn p hp with hp | ⟨hp, hq⟩
  · rcases ho p hp with ⟨q, hq, e⟩ | e
    · have n := N q hq
      rw [e] at n
      exact ⟨k.1 p hp, n.2⟩
    · refine ⟨k.1 p hp, fun z => ?_, ?_⟩
      · obtain ⟨oL, _, _, hL, _⟩ := F.ns
        rw [z, hL] at e; cases e
      · cases z : h₀.get? p.1 with
        | none => rfl
        | some o => rw [F.keep _ _ z] at e; cases e
  · exact ⟨k.2 _ _ (N p hp).1 hq, (N p hp).2⟩
/-- one object of the ledger changed, one beside it as it was -/
theorem back2 {h₀ h h' : Heap} {L a d : Addr} {m : Str → Option Value} {oa od od' : Obj} {news news' : Led} (F : Fr h₀ L h m) (N : News h₀ L h news) (k : Kept [(a, oa), (d, od')] h h') (ha : (a, oa) ∈ news) (U : Upd d od od' news news') : Fr h₀ L h' m ∧ News h₀ L h' news' := by
  obtain ⟨pre, post, e1, e2, h1, h2⟩ := U.split
  have ho : ∀ p ∈ [(a, oa), (d, od')], (∃ q ∈ news, q.1 = p.1) ∨ h.get? p.1 = none := by
    intro p hp
    rcases List.mem_cons.mp hp with rfl | hp
    · exact .inl ⟨_, ha, rfl⟩
    · rcases List.mem_cons.mp hp with rfl | hp
      · exact .inl ⟨(d, od), by rw [e1]; simp, rfl⟩
      · cases hp
  refine ⟨fr_back F N k ho, news_back F N k ho fun p hp => ?_⟩
  rw [e2] at hp
  have key : ∀ p, p ∈ news → p.1 ≠ d → p ∈ [(a, oa), (d, od')] ∨ (p ∈ news ∧ ∀ q ∈ [(a, oa), (d, od')], q.1 ≠ p.1) := by
    intro p hp hd
    by_cases e : p.1 = a
    · have e3 := (N p hp).1
      have e4 := (N _ ha).1
      rw [e, e4] at e3
      left
      obtain ⟨p1, p2⟩ := p
      dsimp only at e e3
      subst e
      rw [Option.some.inj e3]
      exact .head _
    · right
      refine ⟨hp, fun q hq => ?_⟩
      rcases List.mem_cons.mp hq with rfl | hq
      · exact fun z => e z.symm
      · rcases List.mem_cons.mp hq with rfl | hq
        · exact fun z => hd z.symm
        · cases hq
  rcases List.mem_append.mp hp with hp | hp
  · exact key p (by rw [e1]; exact List.mem_append_left _ hp) (h1 p hp)
  · rcases List.mem_cons.mp hp with rfl | hp
    · exact .inl (by simp)
    · exact key p (by rw [e1]; exact List.mem_append_right _ (.tail _ hp)) (h2 p hp)
/-- all of the callee's own is all that the caller still knows -/
theorem back_all {h₀ h h' : Heap} {L : Addr} {m : Str → Option Value} {news own' : Led} (F : Fr h₀ L h m) (N : News h₀ L h news) (k : Kept own' h h') (ho : ∀ p ∈ own', ∃ q ∈ news, q.1 = p.1) : Fr h₀ L h' m ∧ News h₀ L h' own' :=
  ⟨fr_back F N k fun p hp => .inl (ho p hp), news_back F N k (fun p hp => .inl (ho p hp)) fun p hp => .inl hp⟩
theorem fr_sub {h₀ h G : Heap} {L : Addr} {m : Str → Option Value} {news own : Led} (F : Fr h₀ L h m) (N : News h₀ L h news) (S : Sub h own G) (ho : ∀ p ∈ own, ∃ q ∈ news, q.1 = p.1) : Fr h₀ L G m := by
  obtain ⟨oL, es, ep, hL, r⟩ := F.ns
  refine ⟨⟨oL, es, ep, S.get L oL hL fun p hp z => ?_, r⟩, fun b o e => S.get b o (F.keep b o e) fun p hp z => ?_, F.above⟩
  · obtain ⟨q, hq, e⟩ := ho p hp
    exact (N q hq).2.1 (e.trans z)
  · obtain ⟨q, hq, e'⟩ := ho p hp
    have n := (N q hq).2.2
    rw [e', z, e] at n; cases n
/-- behind a call that may have touched the slots of the stack's frames: a new ground -/
theorem groundS {A₀ : Around} {base g h h' : Heap} {outer : List Env} {env : Env} {L : Addr} {m : Str → Option Value} {news own' news' : Led} (B : Below A₀ base outer g) (F : Fr g L h m) (N : News g L h news) (hf : env.frame = some L) (k : KeptS (env :: outer) own' h h')
    (ho : ∀ p ∈ own', (∃ q ∈ news, q.1 = p.1) ∨ h.get? p.1 = none) (hn : ∀ p ∈ news', p ∈ own' ∨ (p ∈ news ∧ ∀ q ∈ own', q.1 ≠ p.1)) :
    ∃ g', KtsTurn (outer.filterMap (·.frame)) g g' ∧ Fr g' L h' m ∧ Below A₀ base outer g' ∧ News g' L h' news' := by
  have fl : (env :: outer).filterMap (·.frame) = L :: outer.filterMap (·.frame) := by rw [List.filterMap_cons, hf]
  have gL : g.get? L = none := kts_self F
  have offG : ∀ b o, g.get? b = some o → ∀ p ∈ own', p.1 ≠ b := by
    intro b o e p hp z
    rcases ho p hp with ⟨q, hq, e'⟩ | e'
    · have n := (N q hq).2.2
      rw [e', z, e] at n; cases n
    · rw [z, F.keep b o e] at e'; cases e'
  obtain ⟨T, S⟩ := kts_turn_at (h := h') (fs := outer.filterMap (·.frame)) (g := g)
    (fun b hb => by obtain ⟨_, o, ho, _⟩ := B.frames.mem hb; exact ⟨o, ho⟩)
    (fun b o e nm => k.get b o (F.keep b o e) (offG b o e) (by rw [fl]; intro q; exact (List.mem_cons.mp q).elim (fun q => by rw [q, gL] at e; cases e) nm))
    (fun b o e hm => k.frame b o (F.keep b o e) (by rw [fl]; exact .tail _ hm))
  obtain ⟨oL, es, ep, hL, r1, r2, r3⟩ := F.ns
  obtain ⟨sl, hL'⟩ := k.frame L oL hL (by rw [fl]; exact .head _)
  refine ⟨_, T, ⟨⟨_, es, ep, hL', r1, r2, r3⟩, S, by rw [T.size]; exact F.above⟩, ⟨B.stack, fun b o e => T.other b o (B.stays b o e) (fun hm => by rw [(B.frames.mem hm).1] at e; cases e), B.frames.of_keeps fun b o e _ => ?_⟩, fun p hp => ?_⟩
  · obtain ⟨sl, hs⟩ := T.up e
    exact ⟨_, hs, rfl⟩
  · have nfr : ∀ q ∈ news, q.1 ∉ (env :: outer).filterMap (·.frame) := by
      intro q hq hm
      rw [fl] at hm
      rcases List.mem_cons.mp hm with z | z
      · exact (N q hq).2.1 z
      · obtain ⟨_, o, ho, _⟩ := B.frames.mem z
        have n := (N q hq).2.2
        rw [ho] at n; cases n
    rcases hn p hp with hp | ⟨hp, hq⟩
    · rcases ho p hp with ⟨q, hq, e⟩ | e
      · have n := N q hq
        rw [e] at n
        exact ⟨k.own p hp, n.2.1, T.none_ _ n.2.2⟩
      · refine ⟨k.own p hp, (fun z => by rw [z, hL] at e; cases e), T.none_ _ ?_⟩
        cases z : g.get? p.1 with
        | none => rfl
        | some o => rw [F.keep _ _ z] at e; cases e
    · exact ⟨k.get _ _ (N p hp).1 hq (nfr p hp), (N p hp).2.1, T.none_ _ (N p hp).2.2⟩
noncomputable abbrev Ar (dp un : Nat) (gd : Option (List Code)) (fs : List Env) : Around := { handled := none, depth := dp, frames := some fs, guards := gd, units := un }
theorem ar_below {dp un : Nat} {gd : Option (List Code)} {A₀ : Around} {base h₀ h : Heap} {outer : List Env} {env : Env} {L : Addr} {m : Str → Option Value} (F : Fr h₀ L h m) (B : Below A₀ base outer h₀) (hf : env.frame = some L) (hk : env.scope.kind = .function) : Below (Ar dp un gd (env :: outer)) base (env :: outer) h := below_of B F rfl hf hk
end
local macro_rules | `(tactic| k_room) => `(tactic| ((try simp only [depth_under_make, depth_under_kw, depth_in1, depth_deeper, depth_caller]); (try dsimp only [Ar]); omega))
local macro_rules | `(tactic| k_ne) => `(tactic| (refine neN ?_; (try dsimp only); (first | assumption | exact Ne.symm (by assumption) | (refine Nat.ne_of_gt ?_; apply And.left; (iterate 16 (first | done | assumption | apply And.right)); done) | (refine Nat.ne_of_lt ?_; apply And.left; (iterate 16 (first | done | assumption | apply And.right)); done) | (refine Nat.ne_of_gt ?_; (iterate 16 (first | done | assumption | apply And.right)); done) | (refine Nat.ne_of_lt ?_; (iterate 16 (first | done | assumption | apply And.right)); done) | omega)))
noncomputable def Stop (p : Prop) : Prop := p
theorem cut_any {α : Type} {M : Model} {A : Around} {E : Value → Shared → Prop} {Q : α → Shared → Prop} {s : Shared} {t : Sem α} (h : Stop (wpAny M A t Q E s)) : wpAny M A t Q E s := h
local macro_rules | `(tactic| walk_at "call ref") => `(tactic| (k_here; (first | (with_reducible show wpAny _ _ (call (Value.ref 89) [Value.int 1 _, _]) _ _ _) | (with_reducible show wpAny _ _ (call (Value.ref 569) _) _ _ _) | (with_reducible show wpAny _ _ (call (Value.ref 726) _) _ _ _) | (with_reducible show wpAny _ _ (call (Value.ref 719) _) _ _ _) | (with_reducible show wpAny _ _ (call (Value.ref 623) _) _ _ _)); refine cut_any ?_))
section
-- part M1
/-- the base's facts, at hand under the frames -/
theorem base_in {A : Around} {base h₀ : Heap} {outer : List Env} {K : Frag} (_B : Below A base outer h₀) (X : K.In base) : K.In base := X
set_option maxHeartbeats 4000000 in
theorem index_spec {prog : Program} {w : World} {dp un : Nat} {gd : Option (List Code)} {s : Shared} {base : Heap} {fs : List Env} {loose : List Str} {mean : ExcName → Option Value} {mg mb : Str → Option Value}
    {tk : Tok} {what : Value} {Q : Value → Shared → Prop} {E : Value → Shared → Prop}
    (B : Below (Ar dp un gd fs) base fs s.heap) (X : (fr.heap_1 w.params).In base) {vw : Program} (T : Top vw loose mean mg mb base) (hd : dp + 3 < recursionLimit)
    (hret : ∀ h' t' tk', Kept [] s.heap h' → Q (.int 1 t') { s with heap := h', toks := tk' }) :
    wpAny (model prog w) (Ar dp un gd fs) (call (.ref 89) [.int 1 tk, what]) Q E s := by
  refine wpAny_call ?_
  refine' enterO (own := []) B X T (fun _ h => nomatch h) ?k6 ?k7 ?k8 ?k9 ?kB ?_ ?c5 ?c2 ?c3 ?c4
  (((case k6 => k_is); (case k7 => k_is); (case k8 => (dsimp only [Ar]; omega)); (case k9 => first | exact BindsTo.of_eq rfl | exact binds_K (Frag.In.keeps (by assumption) (Below.stays (by assumption))) rfl (by k_is) rfl rfl rfl); (case c5 => decide); (case kB => exact locs rfl); (case c2 => exact rfl); (case c3 => exact rfl); (case c4 => exact rfl)))
  intro g' L' h' hg' F' N' B' X' T' l1
  dsimp only
  k_fold
  (repeat' (first | (unfold Stop; (with_reducible show wpAny _ _ (call (Value.ref 89) [Value.int 1 _, _]) _ _ _); k_dflt ((with_reducible rename Fr _ _ _ _ => zkF); (with_reducible rename News _ _ _ _ => zkN); (refine' index_spec (ar_below zkF ?kB rfl rfl) ?kX ?kT ?kR ?_; (case kB => assumption); (case kX => assumption); (case kT => assumption); (case kR => k_room); k_whole); intro zh' zt' ztk' zkp'; (have zF' := fr_back zkF zkN zkp' (fun _ h => nomatch h)); (have zN' := news_back zkF zkN zkp' (fun _ h => nomatch h) (fun p hp => .inr ⟨hp, fun _ h => nomatch h⟩)); clear zkp'; (try k_sweep))) | (k_unfold; (try dsimp only)) | walk1 | (dsimp only; walk1) | (dsimp only; k_unfold; (try dsimp only))))
  exact hret _ _ _ (kept_of hg' (by k_asm) (by k_asm) (fun _ h => nomatch h) (fun _ h => nomatch h))
noncomputable abbrev sioD (P : Params) (k1 k2 k3 tn tb tp : Tok) (buf : Str) (p : Int) : List DictEntry :=
  [⟨PyData.keyHash P (Str.ofString "_StringIO__newline"), .str (Str.ofString "_StringIO__newline") k1, .str (Str.ofString "\n") tn⟩,
   ⟨PyData.keyHash P (Str.ofString "_StringIO__buf"), .str (Str.ofString "_StringIO__buf") k2, .str buf tb⟩,
   ⟨PyData.keyHash P (Str.ofString "_StringIO__pos"), .str (Str.ofString "_StringIO__pos") k3, .int p tp⟩]
theorem slice_one {x : Str} {pre : List Nat} {c : Nat} {r : List Nat} (hx : x.cps.toList = pre ++ c :: r) : Txt.slice x (some (pre.length : Int)) (some ((pre.length : Int) + 1)) = ⟨#[c]⟩ := by
  have hl : x.length = pre.length + (r.length + 1) := by
    show x.cps.size = _
    rw [← Array.length_toList, hx]; simp
  have hi : Builtin.Str.strSliceIndices (some (pre.length : Int)) (some ((pre.length : Int) + 1)) 1 x.length = [pre.length] := by
    unfold Builtin.Str.strSliceIndices sliceRange
    simp only [show (1 : Int) > 0 by decide, if_true]
    rw [if_neg (show ¬ ((pre.length : Int) < 0) by omega), if_neg (show ¬ ((pre.length : Int) + 1 < 0) by omega)]
    have e1 : max (0 : Int) (min (pre.length : Int) (x.length : Int)) = pre.length := by omega
    have e2 : max (0 : Int) (min ((pre.length : Int) + 1) (x.length : Int)) = pre.length + 1 := by omega
    rw [e1, e2, if_pos (by omega)]
    have e3 : (((pre.length : Int) + 1 - pre.length + 1 - 1) / 1).toNat = 1 := by omega
    rw [e3]
    simp [List.range_succ]
  have hc : x.cps[pre.length]? = some c := by
    rw [← Array.getElem?_toList, hx, List.getElem?_append_right (Nat.le_refl _)]; simp
  unfold Txt.slice
  rw [hi]
  split
  · rename_i h
    have h1 : x.length = 1 := by simp at h; omega
    have hp : pre = [] := by cases pre with | nil => rfl | cons _ _ => simp at hl; omega
    have hr : r = [] := by cases r with | nil => rfl | cons _ _ => simp at hl; omega
    subst hp hr
    obtain ⟨a⟩ := x
    have : a = #[c] := by rw [← Array.toList_inj]; simpa using hx
    rw [this]
  · simp [hc]
set_option maxHeartbeats 4000000 in
theorem read_spec {prog : Program} {w : World} {dp un : Nat} {gd : Option (List Code)} {s : Shared} {base : Heap} {fs : List Env} {loose : List Str} {mean : ExcName → Option Value} {mg mb : Str → Option Value}
    {tk : Tok} {Q : Value → Shared → Prop} {E : Value → Shared → Prop} {io dio : Nat} {k1 k2 k3 tn tb tp : Tok} {buf : Str} {pre rest : List Nat}
    (B : Below (Ar dp un gd fs) base fs s.heap) (X : (fr.heap_1 w.params).In base) {vw : Program} (T : Top vw loose mean mg mb base) (hd : dp + 5 < recursionLimit)
    (O : Own base fs s.heap [(io, instObj 623 dio), (dio, dictOf (sioD w.params k1 k2 k3 tn tb tp buf (pre.length : Nat)) 3)]) (hne : io ≠ dio) (hlen : buf.length ≤ 1000000) (hp : buf.cps.toList = pre ++ rest)
    (hret : ∀ h' t' tp' tk' q x, Kept [(io, instObj 623 dio), (dio, dictOf (sioD w.params k1 k2 k3 tn tb tp' buf q) 3)] s.heap h' → q = ((pre ++ rest.take 1).length : Nat) → x = ⟨(rest.take 1).toArray⟩ → Q (.str x t') { s with heap := h', toks := tk' }) :
    wpAny (model prog w) (Ar dp un gd fs) (call (.ref 569) [.ref io, .int 1 tk]) Q E s := by
  have hl : buf.length = pre.length + rest.length := by
    show buf.cps.size = _
    rw [← Array.length_toList, hp]; simp
  refine wpAny_call ?_
  refine' enterO B X T O ?k6 ?k7 ?k8 ?k9 ?kB ?_ ?c5 ?c2 ?c3 ?c4
  (((case k6 => k_is); (case k7 => k_is); (case k8 => (dsimp only [Ar]; omega)); (case k9 => first | exact BindsTo.of_eq rfl | exact binds_K (Frag.In.keeps (by assumption) (Below.stays (by assumption))) rfl (by k_is) rfl rfl rfl); (case c5 => decide); (case kB => exact locs rfl); (case c2 => exact rfl); (case c3 => exact rfl); (case c4 => exact rfl)))
  intro g' L' h' hg' F' N' B' X' T' l1
  dsimp only
  k_fold
  cases rest with
  | nil =>
    rw [List.length_nil, Nat.add_zero] at hl
    (repeat' (first | (unfold Stop; (with_reducible show wpAny _ _ (call (Value.ref 89) [Value.int 1 _, _]) _ _ _); k_dflt ((with_reducible rename Fr _ _ _ _ => zkF); (with_reducible rename News _ _ _ _ => zkN); (refine' index_spec (ar_below zkF ?kB rfl rfl) ?kX ?kT ?kR ?_; (case kB => assumption); (case kX => assumption); (case kT => assumption); (case kR => k_room); k_whole); intro zh' zt' ztk' zkp'; (have zF' := fr_back zkF zkN zkp' (fun _ h => nomatch h)); (have zN' := news_back zkF zkN zkp' (fun _ h => nomatch h) (fun p hp => .inr ⟨hp, fun _ h => nomatch h⟩)); clear zkp'; (try k_sweep))) | (k_unfold; (try dsimp only)) | walk1 | (dsimp only; walk1) | (dsimp only; k_unfold; (try dsimp only))))
    exact hret _ _ _ _ _ _ (kept_all hg' (by k_asm) (by k_asm) (by simp)) (by simp) (by decide)
  | cons c r =>
    rw [List.length_cons] at hl
    (repeat' (first | (unfold Stop; (with_reducible show wpAny _ _ (call (Value.ref 89) [Value.int 1 _, _]) _ _ _); k_dflt ((with_reducible rename Fr _ _ _ _ => zkF); (with_reducible rename News _ _ _ _ => zkN); (refine' index_spec (ar_below zkF ?kB rfl rfl) ?kX ?kT ?kR ?_; (case kB => assumption); (case kX => assumption); (case kT => assumption); (case kR => k_room); k_whole); intro zh' zt' ztk' zkp'; (have zF' := fr_back zkF zkN zkp' (fun _ h => nomatch h)); (have zN' := news_back zkF zkN zkp' (fun _ h => nomatch h) (fun p hp => .inr ⟨hp, fun _ h => nomatch h⟩)); clear zkp'; (try k_sweep))) | (k_unfold; (try dsimp only)) | walk1 | (dsimp only; walk1) | (dsimp only; k_unfold; (try dsimp only))))
    · exact hret _ _ _ _ _ _ (kept_all hg' (by k_asm) (by k_asm) (by simp)) (by simp) (by rw [slice_one hp]; rfl)
    · have e : (buf.length : Int) = (pre.length : Int) + 1 := by omega
      exact hret _ _ _ _ _ _ (kept_all hg' (by k_asm) (by k_asm) (by simp)) (by simp; omega) (by rw [e, slice_one hp]; rfl)
end
section
-- part M2b
/-! ## the reader's states and what it makes of a line -/
inductive St where
  | ws | word | sq | dq | esc | escq | done
  deriving DecidableEq
noncomputable def isWs (c : Nat) : Bool := c == 32 || c == 9 || c == 10
noncomputable def isAlpha (c : Nat) : Bool := c == 97 || c == 98 || c == 32 || c == 39 || c == 34 || c == 92 || c == 35 || c == 10 || c == 9
/-- one word read: none where it is refused; else the word, was it quoted, the state behind it, what is left -/
noncomputable def rt : St → Bool → List Nat → List Nat → Option (List Nat × Bool × St × List Nat)
  | .ws, q, tok, [] => some (tok, q, .done, [])
  | .word, q, tok, [] => some (tok, q, .done, [])
  | .done, q, _, r => some ([], q, .done, r.drop 1)
  | .sq, _, _, [] => none
  | .dq, _, _, [] => none
  | .esc, _, _, [] => none
  | .escq, _, _, [] => none
  | .ws, q, tok, c :: r => if isWs c then (if tok ≠ [] ∨ q = true then some (tok, q, .ws, r) else rt .ws q tok r)
      else if c == 92 then rt .esc q tok r else if c == 39 then rt .sq q tok r else if c == 34 then rt .dq q tok r else rt .word q [c] r
  | .word, q, tok, c :: r => if isWs c then (if tok ≠ [] ∨ q = true then some (tok, q, .ws, r) else rt .ws q tok r)
      else if c == 92 then rt .esc q tok r else if c == 39 then rt .sq q tok r else if c == 34 then rt .dq q tok r else rt .word q (tok ++ [c]) r
  | .sq, _, tok, c :: r => if c == 39 then rt .word true tok r else rt .sq true (tok ++ [c]) r
  | .dq, _, tok, c :: r => if c == 34 then rt .word true tok r else if c == 92 then rt .escq true tok r else rt .dq true (tok ++ [c]) r
  | .esc, q, tok, c :: r => rt .word q (tok ++ [c]) r
  | .escq, q, tok, c :: r => rt .dq q (if c == 92 || c == 34 then tok ++ [c] else tok ++ [92, c]) r
noncomputable def stV : St → Tok → Value
  | .ws, t => .str (Str.ofString " ") t
  | .word, t => .str (Str.ofString "a") t
  | .sq, t => .str (Str.ofString "'") t
  | .dq, t => .str (Str.ofString "\"") t
  | .esc, t => .str (Str.ofString "\\") t
  | .escq, t => .str (Str.ofString "\\") t
  | .done, _ => .none
structure LexK where
  (k1 k2 k3 k4 k5 k6 k7 k8 k9 k10 k11 k12 k13 k14 k15 k16 k17 k18 k19 v5 v6 v7 v9 v10 v11 v15 v19 : Tok)
noncomputable abbrev ent (P : Params) (n : String) (k : Tok) (v : Value) : DictEntry := ⟨PyData.keyHash P (Str.ofString n), .str (Str.ofString n) k, v⟩
noncomputable def wordCs : Str := Str.ofString "abcdfeghijklmnopqrstuvwxyzABCDEFGHIJKLMNOPQRSTUVWXYZ0123456789_ßàáâãäåæçèéêëìíîïðñòóôõöøùúûüýþÿÀÁÂÃÄÅÆÇÈÉÊËÌÍÎÏÐÑÒÓÔÕÖØÙÚÛÜÝÞ"
noncomputable abbrev lexD (P : Params) (lk : LexK) (io pb fq : Addr) (st : Value) (n : Int) (tn : Tok) (tok : Str) (tt : Tok) : List DictEntry :=
  [ent P "instream" lk.k1 (.ref io), ent P "infile" lk.k2 .none, ent P "posix" lk.k3 (.bool true), ent P "eof" lk.k4 .none, ent P "commenters" lk.k5 (.str (Str.ofString "") lk.v5),
   ent P "wordchars" lk.k6 (.str wordCs lk.v6), ent P "whitespace" lk.k7 (.str (Str.ofString " \t\r\n") lk.v7), ent P "whitespace_split" lk.k8 (.bool true), ent P "quotes" lk.k9 (.str (Str.ofString "'\"") lk.v9),
   ent P "escape" lk.k10 (.str (Str.ofString "\\") lk.v10), ent P "escapedquotes" lk.k11 (.str (Str.ofString "\"") lk.v11), ent P "state" lk.k12 st, ent P "pushback" lk.k13 (.ref pb), ent P "lineno" lk.k14 (.int n tn),
   ent P "debug" lk.k15 (.int 0 lk.v15), ent P "token" lk.k16 (.str tok tt), ent P "filestack" lk.k17 (.ref fq), ent P "source" lk.k18 .none, ent P "_punctuation_chars" lk.k19 (.str (Str.ofString "") lk.v19)]
/-- the reader and its stream -/
noncomputable abbrev lexLed (P : Params) (lk : LexK) (sk : Tok × Tok × Tok × Tok × Tok) (x dx io dio pb fq : Addr) (buf : Str) (st : Value) (n : Int) (tn : Tok) (tok : Str) (tt : Tok) (p : Int) (tp : Tok) : Led :=
  [(x, instObj 758 dx), (dx, dictOf (lexD P lk io pb fq st n tn tok tt) 19), (io, instObj 623 dio), (dio, dictOf (sioD P sk.1 sk.2.1 sk.2.2.1 sk.2.2.2.1 sk.2.2.2.2 tp buf p) 3)]
structure RtC where
  (st : St) (pre rest : List Nat) (q : Bool) (es : Str) (te : Tok) (sv : Value) (n : Int) (tn : Tok) (tok : Str) (tt : Tok) (p : Int) (tp : Tok)
/-- what the loop keeps: R is what the whole reading comes to -/
structure RtP (buf : Str) (R : Option (List Nat × Bool × St × List Nat)) (c : RtC) : Prop where
  buf : buf.cps.toList = c.pre ++ c.rest
  al : c.rest.all isAlpha = true
  p : c.p = (c.pre.length : Nat)
  n : 0 ≤ c.n ∧ c.n ≤ 1 + c.pre.length
  len : c.tok.length ≤ 2 * c.pre.length
  sv : ∃ t, c.sv = stV c.st t
  ws : c.st = .ws → c.tok.cps.toList = [] ∧ c.q = false
  esc : (c.st = .esc → c.es = Str.ofString "a") ∧ (c.st = .escq → c.es = Str.ofString "\"")
  done : c.st = .done → c.rest = []
  out : rt c.st c.q c.tok.cps.toList c.rest = R
section
variable {prog : Program} {w : World} {A : Around} {E : Value → Shared → Prop} {Q : Flow → Shared → Prop} {s : Shared} {env : Env} {h₀ : Heap} {L : Addr}
noncomputable def WEnd {σ : Type} (h₀ : Heap) (L : Addr) (s : Shared) (Ld : σ → Led) (ps : σ → List (Str × Value)) (P : σ → Prop) (μ : σ → Nat) (c : σ) (s₂ : Shared) : Prop :=
  ∃ (c' : σ) (h' : Heap) (tk : Nat) (m' : Str → Option Value) (news' : Led), s₂ = { s with heap := h', toks := tk } ∧ Fr h₀ L h' m' ∧ News h₀ L h' news' ∧ (∀ p ∈ Ld c', p ∈ news') ∧ (∀ p ∈ ps c', m' p.1 = some p.2) ∧ P c' ∧ μ c' < μ c
noncomputable def WPost {σ : Type} (h₀ : Heap) (L : Addr) (s : Shared) (Ld : σ → Led) (ps : σ → List (Str × Value)) (P : σ → Prop) (μ : σ → Nat) (Q : Flow → Shared → Prop) (c : σ) (f : Flow) (s₂ : Shared) : Prop :=
  match f with
  | .ret v => Q (.ret v) s₂
  | .brk => Q .next s₂
  | _ => WEnd h₀ L s Ld ps P μ c s₂
theorem fr_kst {h : Heap} {m : Str → Option Value} {ps : List (Str × Value)} (F : Fr h₀ L h m) (hk : ∀ p ∈ ps, m p.1 = some p.2) : Fr h₀ L h (kstB m ps) := by
  have : kstB m ps = m := funext fun z => kstB_eq hk fun _ => rfl
  rw [this]; exact F
theorem while_my {σ : Type} {test : Expr} {body : List Stmt} {pos : Pos} {m₀ : Str → Option Value} (Ld : σ → Led) (ps : σ → List (Str × Value)) (P : σ → Prop) (μ : σ → Nat) (c₀ : σ)
    (F : Fr h₀ L s.heap m₀) (N : News h₀ L s.heap (Ld c₀)) (hk : ∀ p ∈ ps c₀, m₀ p.1 = some p.2) (hp : P c₀)
    (turn : ∀ (c : σ) (u : Str → Option Value) h tk, P c → Fr h₀ L h (kstB u (ps c)) → News h₀ L h (Ld c) →
      wpAny (model prog w) A (isTrue test env (eval test env)) (fun b s₂ =>
        if b = true then wpAny (model prog w) A (execs body env) (WPost h₀ L s Ld ps P μ Q c) E s₂ else Q .next s₂) E { s with heap := h, toks := tk })
    (hE : PassesOwn (model prog w) A env E := by passes_own) :
    wpAny (model prog w) A (exec (.While test body [] pos) env) Q E s := by
  refine While_inv2 (fun n m nx => ∃ c : σ, nx = Ld c ∧ μ c = n ∧ (∀ p ∈ ps c, m p.1 = some p.2) ∧ P c) F N ⟨c₀, rfl, rfl, hk, hp⟩ ?_ hE
  rintro n m₁ nx h tk F₁ N₁ ⟨c, hnx, hsz, h1, hp'⟩
  rw [hnx] at N₁
  rw [← hsz]
  refine wpAny_mono (turn c m₁ h tk hp' (fr_kst F₁ h1) N₁) (fun b s₂ p => ?_) fun _ _ x => x
  cases b with
  | false => simpa using p
  | true =>
    simp only [if_true] at p ⊢
    refine wpAny_mono p (fun f s₃ q => ?_) fun _ _ x => x
    cases f with
    | ret v => exact q
    | brk => exact q
    | next =>
      obtain ⟨c', h', tk', m', news', rfl, F', N', hn, hk9, hp9, hm9⟩ := q
      exact ⟨h', tk', m', Ld c', μ c', rfl, F', fun p hp => N' p (hn p hp), hm9, c', rfl, rfl, hk9, hp9⟩
    | cont =>
      obtain ⟨c', h', tk', m', news', rfl, F', N', hn, hk9, hp9, hm9⟩ := q
      exact ⟨h', tk', m', Ld c', μ c', rfl, F', fun p hp => N' p (hn p hp), hm9, c', rfl, rfl, hk9, hp9⟩
end
/-! ## signs -/
section
variable {prog : Program} {w : World} {A : Around} {E : Value → Shared → Prop} {s : Shared}
theorem in_sign {lit : Str} {ch : Nat} {b : Bool} {t u : Tok} {Q : Value → Shared → Prop} (hb : decide (ch ∈ lit.cps.toList) = b) (h : Q (.bool b) s) : wpAny (model prog w) A (compareOp .In (.str ⟨#[ch]⟩ u) (.str lit t)) Q E s :=
  in_str (by rw [StrLaws.found_one, hb]; exact h)
theorem in_lit {lit y : Str} {b : Bool} {t u : Tok} {Q : Value → Shared → Prop} (hb : (!(Builtin.Str.occurrences lit y 0 lit.length 1).isEmpty) = b) (h : Q (.bool b) s) : wpAny (model prog w) A (compareOp .In (.str y u) (.str lit t)) Q E s :=
  in_str (by rw [hb]; exact h)
theorem notin_sign {lit : Str} {ch : Nat} {b : Bool} {t u : Tok} {Q : Value → Shared → Prop} (hb : decide (ch ∈ lit.cps.toList) = b) (h : Q (.bool (!b)) s) : wpAny (model prog w) A (compareOp .NotIn (.str ⟨#[ch]⟩ u) (.str lit t)) Q E s :=
  P.notIn_str (by rw [StrLaws.found_one, hb]; exact h)
theorem eq_sign {x y : Str} {b : Bool} {t u : Tok} {Q : Value → Shared → Prop} (hb : (x == y) = b) (h : Q (.bool b) s) : wpAny (model prog w) A (compareOp .Eq (.str x t) (.str y u)) Q E s := PyProof.Rows.eq_str (by rw [hb]; exact h)
theorem ne_sign {x y : Str} {b : Bool} {t u : Tok} {Q : Value → Shared → Prop} (hb : (x == y) = b) (h : Q (.bool (!b)) s) : wpAny (model prog w) A (compareOp .NotEq (.str x t) (.str y u)) Q E s :=
  P.ne_str (by
    have e : (x.cps.toList != y.cps.toList) = !b := by rw [← hb, ← toList_beq]; rfl
    rw [e]; exact h)
theorem truthy_sign {x : Str} {b : Bool} {t : Tok} {Q : Bool → Shared → Prop} (hb : decide (x.cps.toList ≠ []) = b) (hl : x.length ≤ 4000000) (h : Q b { s with toks := s.toks + 1 + 1 }) : wpAny (model prog w) A (truthy (.str x t)) Q E s :=
  P.truthy_str (by omega) (by
    have e : ((x.length : Int) != 0) = b := by
      rw [← hb]
      have : x.length = x.cps.toList.length := by rw [Array.length_toList]; rfl
      rw [this]
      cases x.cps.toList <;> simp
      omega
    rw [e]; exact h)
end
local macro_rules | `(tactic| walk_at "exec While Constant cons nil") => `(tactic| (k_here; k_dflt (refine cut_any ?_)))
noncomputable def LnPost (h₀ : Heap) (L : Addr) (m : Str → Option Value) (s : Shared) (led : Int → Tok → Led) (n k : Int) (f : Flow) (s' : Shared) : Prop :=
  f = .next ∧ ∃ h' tk' n' tn', s' = { s with heap := h', toks := tk' } ∧ Fr h₀ L h' m ∧ News h₀ L h' (led n' tn') ∧ n ≤ n' ∧ n' ≤ n + k
theorem ln_end {h₀ h' : Heap} {L : Addr} {m : Str → Option Value} {s : Shared} {led : Int → Tok → Led} {n k n' : Int} {tn' : Tok} {tk' : Nat} (F : Fr h₀ L h' m) (N : News h₀ L h' (led n' tn')) (h1 : n ≤ n') (h2 : n' ≤ n + k) : LnPost h₀ L m s led n k .next { s with heap := h', toks := tk' } :=
  ⟨rfl, _, _, _, _, rfl, F, N, h1, h2⟩
theorem nl_len {l : List Nat} (h : ((⟨l.toArray⟩ : Str) == Str.ofString "\n") = true) : 1 ≤ (l.length : Int) := by
  cases l with
  | nil => exact absurd h (by decide)
  | cons a r => simp only [List.length_cons]; omega
theorem cut_lineno {M : Model} {A : Around} {E : Value → Shared → Prop} {Q : Flow → Shared → Prop} {s : Shared} {env : Env} {stmt : Stmt} {h₀ : Heap} {L : Addr} {m : Str → Option Value} {P : Params} {x dx io dio pb fq : Nat} {lk : LexK} {sk : Tok × Tok × Tok × Tok × Tok} {buf : Str} {sv : Value} {n : Int} {tn : Tok} {tok : Str} {tt tp : Tok} {p : Int} (k : Int)
    (F : Fr h₀ L s.heap m) (N : News h₀ L s.heap (lexLed P lk sk x dx io dio pb fq buf sv n tn tok tt p tp))
    (h1 : wpAny M A (exec stmt env) (LnPost h₀ L m s (fun n' tn' => lexLed P lk sk x dx io dio pb fq buf sv n' tn' tok tt p tp) n k) E s)
    (h2 : ∀ h' tk' n' tn', Fr h₀ L h' m → News h₀ L h' (lexLed P lk sk x dx io dio pb fq buf sv n' tn' tok tt p tp) → n ≤ n' → n' ≤ n + k → Q .next { s with heap := h', toks := tk' }) : wpAny M A (exec stmt env) Q E s := by
  refine wpAny_mono h1 (fun f s' h => ?_) fun _ _ h => h
  obtain ⟨rfl, h', tk', n', tn', rfl, F', N', e1, e2⟩ := h
  exact h2 h' tk' n' tn' F' N' e1 e2
theorem ite_yes {a b : Prop} (h : a) : if (true = true) then a else b := by rw [if_pos rfl]; exact h
theorem ite_no {a b : Prop} (h : b) : if (false = true) then a else b := by rw [if_neg Bool.false_ne_true]; exact h
theorem ite_both {b : Bool} {a c : Prop} (h1 : b = true → a) (h2 : b = false → c) : if b = true then a else c := by
  cases b
  · rw [if_neg Bool.false_ne_true]; exact h2 rfl
  · rw [if_pos rfl]; exact h1 rfl
local macro_rules | `(tactic| walk_at "ite") => `(tactic| first | refine ite_yes ?_ | refine ite_no ?_ | (refine ite_both ?_ ?_ <;> (intro hb'; subst hb')))
local macro_rules | `(tactic| walk_at "exec If") => `(tactic| (k_here; refine wpAny_If ?_))
local macro_rules | `(tactic| walk_at "exec If") => `(tactic| (k_here; (with_reducible show wpAny _ _ (exec (Stmt.If (Expr.Compare (Expr.Name (Str.ofString "nextchar") _) [CmpOp.Eq] [Expr.Constant (Const.str (Str.ofString "\n")) _ _] _) _ _ _) _) _ _ _); k_dflt (refine cut_any ?_)))
local macro_rules | `(tactic| walk_at $s) => if ["compareOp In str str", "compareOp NotIn str str", "compareOp Eq str str", "compareOp NotEq str str"].contains s.getString then `(tactic| (k_here; (first | refine' in_sign ?hb ?_ | refine' notin_sign ?hb ?_ | refine' eq_sign ?hb ?_ | refine' ne_sign ?hb ?_); (case hb => with_reducible assumption))) else Lean.Macro.throwUnsupported
local macro_rules | `(tactic| walk_at "compareOp In str str") => `(tactic| (k_here; (with_reducible show wpAny _ _ (compareOp CmpOp.In (Value.str (Str.ofString _) _) (Value.str (Str.ofString _) _)) _ _ _); first | (refine' in_lit (b := false) ?hb ?_; (case hb => decide +kernel)) | (refine' in_lit (b := true) ?hb ?_; (case hb => decide +kernel))))
local macro_rules | `(tactic| walk_at "truthy str") => `(tactic| (k_here; refine' truthy_sign ?hb ?hl ?_; (case hb => with_reducible assumption); (case hl => first | with_reducible assumption | k_dflt (exact Nat.le_of_ble_eq_true rfl))))
local macro_rules | `(tactic| walk_at "leaving ref") => `(tactic| (k_here; refine cut_any ?_))
/-! ## the classes of signs -/
theorem ws_cases {c : Nat} (h : isWs c = true) : c = 32 ∨ c = 9 ∨ c = 10 := by
  simp only [isWs, Bool.or_eq_true, beq_iff_eq, or_assoc] at h
  exact h
theorem sign_beq (c d : Nat) : ((⟨[c].toArray⟩ : Str) == ⟨[d].toArray⟩) = (c == d) := by
  rw [← toList_beq]; simp
theorem sign_ne {c d : Nat} {lit : Str} (hl : lit = ⟨[d].toArray⟩) (h : c ≠ d) : ((⟨[c].toArray⟩ : Str) == lit) = false := by
  rw [hl, sign_beq]; simpa using h
theorem sign_out {c d : Nat} {lit : Str} (hl : lit.cps.toList = [d]) (h : c ≠ d) : decide (c ∈ lit.cps.toList) = false := by
  rw [hl]; simpa using h
theorem sign_eq {c : Nat} {lit : Str} (d : Nat) (hl : lit = ⟨[d].toArray⟩) (h : ((⟨[c].toArray⟩ : Str) == lit) = true) : c = d := by
  rw [hl, sign_beq] at h; simpa using h
theorem sign_neq {c : Nat} {lit : Str} (d : Nat) (hl : lit = ⟨[d].toArray⟩) (h : ((⟨[c].toArray⟩ : Str) == lit) = false) : c ≠ d := by
  rw [hl, sign_beq] at h; simpa using h
theorem sign_no {c : Nat} {lit : Str} (d : Nat) (hl : lit.cps.toList = [d]) (h : decide (c ∈ lit.cps.toList) = false) : c ≠ d := by
  rw [hl] at h; simpa using h
theorem news_tl {h₀ h : Heap} {L : Addr} {p : Addr × Obj} {l : Led} (N : News h₀ L h (p :: l)) : News h₀ L h l := fun q hq => N q (.tail _ hq)
section
variable {σ : Type} {h₀ h' : Heap} {L : Addr} {s : Shared} {Ld : σ → Led} {ps : σ → List (Str × Value)} {P : σ → Prop} {μ : σ → Nat} {Q : Flow → Shared → Prop} {c : σ} {m' : Str → Option Value} {tk : Nat}
theorem w_cont (c' : σ) (F : Fr h₀ L h' m') (N : News h₀ L h' (Ld c')) (hk : ∀ p ∈ ps c', m' p.1 = some p.2) (hp : P c') (hm : μ c' < μ c) : WPost h₀ L s Ld ps P μ Q c .cont { s with heap := h', toks := tk } :=
  ⟨c', h', tk, m', _, rfl, F, N, fun _ h => h, hk, hp, hm⟩
theorem w_next (c' : σ) (F : Fr h₀ L h' m') (N : News h₀ L h' (Ld c')) (hk : ∀ p ∈ ps c', m' p.1 = some p.2) (hp : P c') (hm : μ c' < μ c) : WPost h₀ L s Ld ps P μ Q c .next { s with heap := h', toks := tk } :=
  ⟨c', h', tk, m', _, rfl, F, N, fun _ h => h, hk, hp, hm⟩
theorem w_brk {s' : Shared} (h : Q .next s') : WPost h₀ L s Ld ps P μ Q c .brk s' := h
theorem abs_post {M : Model} {A : Around} {E : Value → Shared → Prop} {t : Sem Bool} {s₀ : Shared} {body : Sem Flow} {W₀ : Flow → Shared → Prop} {R : Shared → Prop}
    (h : ∀ W : Flow → Shared → Prop, (∀ f s, W₀ f s → W f s) → wpAny M A t (fun b s₂ => if b = true then wpAny M A body W E s₂ else R s₂) E s₀) : wpAny M A t (fun b s₂ => if b = true then wpAny M A body W₀ E s₂ else R s₂) E s₀ := h W₀ fun _ _ x => x
theorem alpha_cases {c : Nat} (h : isAlpha c = true) : c = 97 ∨ c = 98 ∨ c = 32 ∨ c = 39 ∨ c = 34 ∨ c = 92 ∨ c = 35 ∨ c = 10 ∨ c = 9 := by
  simp only [isAlpha, Bool.or_eq_true, beq_iff_eq, or_assoc] at h
  exact h
theorem cls_ws {c : Nat} (h : isAlpha c = true) (g : decide (c ∈ (Str.ofString " \t\r\n").cps.toList) = true) : isWs c = true := by
  rcases alpha_cases h with rfl | rfl | rfl | rfl | rfl | rfl | rfl | rfl | rfl <;> first | rfl | exact absurd g (by decide)
theorem cls_esc {c : Nat} (h : isAlpha c = true) (g : decide (c ∈ (Str.ofString "\\").cps.toList) = true) : c = 92 := by
  rcases alpha_cases h with rfl | rfl | rfl | rfl | rfl | rfl | rfl | rfl | rfl <;> first | rfl | exact absurd g (by decide)
theorem cls_word {c : Nat} (h : isAlpha c = true) (g : decide (c ∈ wordCs.cps.toList) = true) : c = 97 ∨ c = 98 := by
  rcases alpha_cases h with rfl | rfl | rfl | rfl | rfl | rfl | rfl | rfl | rfl <;> first | exact .inl rfl | exact .inr rfl | exact absurd g (by decide)
theorem cls_quo {c : Nat} (h : isAlpha c = true) (g : decide (c ∈ (Str.ofString "'\"").cps.toList) = true) : c = 39 ∨ c = 34 := by
  rcases alpha_cases h with rfl | rfl | rfl | rfl | rfl | rfl | rfl | rfl | rfl <;> first | exact .inl rfl | exact .inr rfl | exact absurd g (by decide)
theorem cls_hash {c : Nat} (h : isAlpha c = true) (g0 : decide (c ∈ (Str.ofString " \t\r\n").cps.toList) = false) (g2 : decide (c ∈ (Str.ofString "\\").cps.toList) = false) (g3 : decide (c ∈ wordCs.cps.toList) = false) (g4 : decide (c ∈ (Str.ofString "'\"").cps.toList) = false) : c = 35 := by
  rcases alpha_cases h with rfl | rfl | rfl | rfl | rfl | rfl | rfl | rfl | rfl <;> first | rfl | exact absurd g0 (by decide) | exact absurd g2 (by decide) | exact absurd g3 (by decide) | exact absurd g4 (by decide)
theorem all3 {α : Type} {p : α → Prop} {a b c : α} (h1 : p a) (h2 : p b) (h3 : p c) : ∀ x ∈ [a, b, c], p x := List.forall_mem_cons.mpr ⟨h1, List.forall_mem_cons.mpr ⟨h2, List.forall_mem_cons.mpr ⟨h3, fun _ h => nomatch h⟩⟩⟩
theorem all2 {α : Type} {p : α → Prop} {a b : α} (h1 : p a) (h2 : p b) : ∀ x ∈ [a, b], p x := List.forall_mem_cons.mpr ⟨h1, List.forall_mem_cons.mpr ⟨h2, fun _ h => nomatch h⟩⟩
end
/-- a sign taken, the loop goes on -/
theorem RtP.step {buf : Str} {R : Option (List Nat × Bool × St × List Nat)} {pre r : List Nat} {ch : Nat} {n n' p' : Int} {tok tok' es' : Str} {q' : Bool} {te' tn' tt' tp' : Tok} {sv' : Value} {st' : St}
    (hb : buf.cps.toList = pre ++ ch :: r) (ha : (ch :: r).all isAlpha = true) (hn : 0 ≤ n ∧ n ≤ 1 + pre.length) (hl : tok.length ≤ 2 * pre.length) (h2 : n ≤ n') (h3 : n' ≤ n + (([ch] : List Nat).length : Nat)) (hq : p' = ((pre ++ [ch]).length : Nat))
    (hl' : tok'.length ≤ tok.length + 2) (hsv : ∃ t, sv' = stV st' t) (hws : st' = .ws → tok'.cps.toList = [] ∧ q' = false) (hesc : (st' = .esc → es' = Str.ofString "a") ∧ (st' = .escq → es' = Str.ofString "\"")) (hd : st' ≠ .done)
    (hr : rt st' q' tok'.cps.toList r = R) : RtP buf R ⟨st', pre ++ [ch], r, q', es', te', sv', n', tn', tok', tt', p', tp'⟩ := by
  simp only [List.all_cons, Bool.and_eq_true] at ha
  refine ⟨by rw [hb]; simp, ha.2, hq, ⟨by show 0 ≤ n'; omega, by show n' ≤ 1 + ((pre ++ [ch]).length : Nat); simp only [List.length_append, List.length_cons, List.length_nil] at *; omega⟩, ?_, hsv, hws, hesc, fun e => absurd e hd, hr⟩
  show tok'.length ≤ 2 * (pre ++ [ch]).length
  simp only [List.length_append, List.length_cons, List.length_nil]
  omega
theorem str_append_length (a b : Str) : (a ++ b).length = a.length + b.length := Array.size_append
theorem str_append_list (a b : Str) : (a ++ b).cps.toList = a.cps.toList ++ b.cps.toList := Array.toList_append
/-- what the loop comes to -/
noncomputable def RtOut (g : Heap) (L : Addr) (s : Shared) (P : Params) (lk : LexK) (sk : Tok × Tok × Tok × Tok × Tok) (x dx io dio pb fq : Nat) (buf : Str) (R : Option (List Nat × Bool × St × List Nat)) (f : Flow) (s' : Shared) : Prop :=
  f = .next ∧ ∃ (c : RtC) (u : Str → Option Value) (h' : Heap) (tk' : Nat), R = some (c.tok.cps.toList, c.q, c.st, c.rest) ∧ buf.cps.toList = c.pre ++ c.rest ∧ c.p = (c.pre.length : Nat) ∧ 0 ≤ c.n ∧ c.n ≤ 1 + c.pre.length ∧ (∃ t, c.sv = stV c.st t) ∧ c.tok.length ≤ 3000000 ∧
    s' = { s with heap := h', toks := tk' } ∧ Fr g L h' (kstB u [(Str.ofString "self", .ref x), (Str.ofString "quoted", .bool c.q)]) ∧ News g L h' (lexLed P lk sk x dx io dio pb fq buf c.sv c.n c.tn c.tok c.tt c.p c.tp)
theorem RtOut.intro {g h' : Heap} {L : Addr} {s : Shared} {P : Params} {lk : LexK} {sk : Tok × Tok × Tok × Tok × Tok} {x dx io dio pb fq : Nat} {buf : Str} {R : Option (List Nat × Bool × St × List Nat)} {m' : Str → Option Value} {tk' : Nat} (c : RtC)
    (F : Fr g L h' m') (N : News g L h' (lexLed P lk sk x dx io dio pb fq buf c.sv c.n c.tn c.tok c.tt c.p c.tp)) (hk : ∀ p ∈ [(Str.ofString "self", Value.ref x), (Str.ofString "quoted", Value.bool c.q)], m' p.1 = some p.2)
    (h1 : R = some (c.tok.cps.toList, c.q, c.st, c.rest)) (h2 : buf.cps.toList = c.pre ++ c.rest) (h3 : c.p = (c.pre.length : Nat)) (h4 : 0 ≤ c.n ∧ c.n ≤ 1 + c.pre.length) (h5 : ∃ t, c.sv = stV c.st t) (h6 : c.tok.length ≤ 3000000) :
    RtOut g L s P lk sk x dx io dio pb fq buf R .next { s with heap := h', toks := tk' } := ⟨rfl, c, m', h', tk', h1, h2, h3, h4.1, h4.2, h5, h6, rfl, fr_kst F hk, N⟩
theorem rt_spec {prog : Program} {w : World} {dp un : Nat} {gd : Option (List Code)} {s : Shared} {base : Heap} {fs : List Env} {loose : List Str} {mean : ExcName → Option Value} {mg mb : Str → Option Value}
    {Q : Value → Shared → Prop} {E : Value → Shared → Prop} {x dx io dio pb fq : Nat} {lk : LexK} {sk : Tok × Tok × Tok × Tok × Tok} {buf : Str} {st : St} {tst : Tok} {n : Int} {tn tt tp : Tok} {pre rest : List Nat}
    (B : Below (Ar dp un gd fs) base fs s.heap) (X : (fr.heap_1 w.params).In base) {vw : Program} (T : Top vw loose mean mg mb base) (hd : dp + 8 < recursionLimit)
    (O : Own base fs s.heap (lexLed w.params lk sk x dx io dio pb fq buf (stV st tst) n tn (Str.ofString "") tt (pre.length : Nat) tp)) (hne : dx < x ∧ x < dio ∧ dio < io) (hlen : buf.length ≤ 1000000) (hp : buf.cps.toList = pre ++ rest)
    (hal : rest.all isAlpha = true) (hn0 : 0 ≤ n ∧ n ≤ 1 + pre.length) (hst : st = .ws ∨ (st = .done ∧ rest = []))
    (hret : ∀ (c : RtC) (v : Value) (h' : Heap) (tk' : Nat), Kept (lexLed w.params lk sk x dx io dio pb fq buf c.sv c.n c.tn (Str.ofString "") c.tt c.p c.tp) s.heap h' → rt st false [] rest = some (c.tok.cps.toList, c.q, c.st, c.rest) → buf.cps.toList = c.pre ++ c.rest → c.p = (c.pre.length : Nat) →
      0 ≤ c.n ∧ c.n ≤ 1 + c.pre.length → (∃ t, c.sv = stV c.st t) → c.tok.length ≤ 3000000 → (v = .none ∧ c.q = false ∧ c.tok.cps.toList = []) ∨ ((∃ t, v = .str c.tok t) ∧ ¬ (c.q = false ∧ c.tok.cps.toList = [])) → Q v { s with heap := h', toks := tk' })
    (hraise : ∀ e h' tk' G, rt st false [] rest = none → Sub s.heap (lexLed w.params lk sk x dx io dio pb fq buf (stV st tst) n tn (Str.ofString "") tt (pre.length : Nat) tp) G → RaisedSN base G fs e (.type "ValueError") [] h' → G.UpToSlots h' → E (.ref e) { s with heap := h', toks := tk' }) :
    wpAny (model prog w) (Ar dp un gd fs) (call (.ref 726) [.ref x]) Q E s := by
  have hbl : buf.length = pre.length + rest.length := by
    show buf.cps.size = _
    rw [← Array.length_toList, hp]; simp
  refine wpAny_call ?_
  refine' enterO B X T O ?k6 ?k7 ?k8 ?k9 ?kB ?_ ?c5 ?c2 ?c3 ?c4
  (((case k6 => k_is); (case k7 => k_is); (case k8 => (dsimp only [Ar]; omega)); (case k9 => first | exact BindsTo.of_eq rfl | exact binds_K (Frag.In.keeps (by assumption) (Below.stays (by assumption))) rfl (by k_is) rfl rfl rfl); (case c5 => decide); (case kB => exact locs rfl); (case c2 => exact rfl); (case c3 => exact rfl); (case c4 => exact rfl)))
  intro g' L' h' hg' F' N' B' X' T' l1
  dsimp only
  k_fold
  (repeat' (first | (unfold Stop; (with_reducible show wpAny _ _ (call (Value.ref 569) _) _ _ _); k_dflt ((with_reducible rename Fr _ _ _ _ => zkF); (with_reducible rename News _ _ _ _ => zkN); (refine' read_spec (ar_below zkF ?kB rfl rfl) ?kX ?kT ?kR (own_of ?kB2 zkN rfl ?kO) ?kne ?kl ?kp ?_; (case kB => assumption); (case kB2 => assumption); (case kX => assumption); (case kT => assumption); (case kR => k_room); (case kO => (refine List.forall_mem_cons.mpr ⟨by k_mem, List.forall_mem_cons.mpr ⟨by k_mem, fun _ h => nomatch h⟩⟩)); (case kne => k_ne); (case kl => assumption); (case kp => assumption); k_whole); intro zh' zt' ztp' ztk' zq' zx' zkp' zhq' zhx'; (have zFN' := back2 zkF zkN zkp' (by k_mem) (by k_upd)); (have zF' := zFN'.1); (have zN' := zFN'.2); clear zkp' zFN'; subst zhx'; (try k_sweep))) | (unfold Stop; k_dflt (refine' leave_newS ?k1 ?kM ?k2 News.nil ?_; (case kM => assumption); (case k1 => assumption); (case k2 => assumption); k_whole; intro zh' zR' zRK' zU'; clear zRK'; (try dsimp only at zR' zU' ⊢))) | (k_unfold; (try dsimp only)) | walk1 | (dsimp only; walk1) | (dsimp only; k_unfold; (try dsimp only))))
  unfold Stop
  refine wpAny_mono (Q := RtOut g' L' s w.params lk sk x dx io dio pb fq buf (rt st false [] rest))
    (while_my (σ := RtC) (fun c => lexLed w.params lk sk x dx io dio pb fq buf c.sv c.n c.tn c.tok c.tt c.p c.tp) (fun c => [(Str.ofString "self", .ref x), (Str.ofString "quoted", .bool c.q), (Str.ofString "escapedstate", .str c.es c.te)]) (RtP buf (rt st false [] rest)) (fun c => c.rest.length)
      ⟨st, pre, rest, false, _, _, stV st tst, n, tn, Str.ofString "", tt, (pre.length : Nat), tp⟩ (by k_asm) (by k_asm) (all3 rfl rfl rfl) ?start ?turn) ?after (fun _ _ h => h)
  case start =>
    refine ⟨hp, hal, rfl, hn0, by show 0 ≤ _; omega, ⟨_, rfl⟩, fun _ => ⟨rfl, rfl⟩, ⟨fun e => ?_, fun e => ?_⟩, fun e => ?_, rfl⟩ <;> dsimp only at e ⊢ <;> rcases hst with h | ⟨h, h'⟩ <;> first | exact h' | (rw [h] at e; cases e)
  case after =>
    rintro f s' ⟨rfl, ⟨st1, pre1, rest1, q1, es1, te1, sv1, n1, tn1, tok1, tt1, p1, tp1⟩, u, h1, tk1, h2, h3, h4, h5, h6, h7, h8, rfl, F1, N1⟩
    dsimp only at h2 h3 h4 h5 h6 h7 h8 F1 N1 ⊢
    have htl : tok1.length ≤ 4000000 := by omega
    by_cases htn : tok1.cps.toList = []
    · have htf : decide (tok1.cps.toList ≠ []) = false := by rw [htn]; rfl
      have hte : (tok1 == Str.ofString "") = true := by rw [← toList_beq, htn]; rfl
      cases q1
      · (repeat' (first | (unfold Stop; (with_reducible show wpAny _ _ (call (Value.ref 569) _) _ _ _); k_dflt ((with_reducible rename Fr _ _ _ _ => zkF); (with_reducible rename News _ _ _ _ => zkN); (refine' read_spec (ar_below zkF ?kB rfl rfl) ?kX ?kT ?kR (own_of ?kB2 zkN rfl ?kO) ?kne ?kl ?kp ?_; (case kB => assumption); (case kB2 => assumption); (case kX => assumption); (case kT => assumption); (case kR => k_room); (case kO => (refine List.forall_mem_cons.mpr ⟨by k_mem, List.forall_mem_cons.mpr ⟨by k_mem, fun _ h => nomatch h⟩⟩)); (case kne => k_ne); (case kl => assumption); (case kp => assumption); k_whole); intro zh' zt' ztp' ztk' zq' zx' zkp' zhq' zhx'; (have zFN' := back2 zkF zkN zkp' (by k_mem) (by k_upd)); (have zF' := zFN'.1); (have zN' := zFN'.2); clear zkp' zFN'; subst zhx'; (try k_sweep))) | (unfold Stop; k_dflt (refine' leave_newS ?k1 ?kM ?k2 News.nil ?_; (case kM => assumption); (case k1 => assumption); (case k2 => assumption); k_whole; intro zh' zR' zRK' zU'; clear zRK'; (try dsimp only at zR' zU' ⊢))) | (k_unfold; (try dsimp only)) | walk1 | (dsimp only; walk1) | (dsimp only; k_unfold; (try dsimp only))))
        exact hret ⟨st1, pre1, rest1, false, Str.ofString "", 0, _, _, _, tok1, _, _, _⟩ _ _ _ (kept_all hg' (by k_asm) (by k_asm) (by simp)) h2 h3 h4 ⟨h5, h6⟩ h7 h8 (.inl ⟨rfl, rfl, htn⟩)
      · (repeat' (first | (unfold Stop; (with_reducible show wpAny _ _ (call (Value.ref 569) _) _ _ _); k_dflt ((with_reducible rename Fr _ _ _ _ => zkF); (with_reducible rename News _ _ _ _ => zkN); (refine' read_spec (ar_below zkF ?kB rfl rfl) ?kX ?kT ?kR (own_of ?kB2 zkN rfl ?kO) ?kne ?kl ?kp ?_; (case kB => assumption); (case kB2 => assumption); (case kX => assumption); (case kT => assumption); (case kR => k_room); (case kO => (refine List.forall_mem_cons.mpr ⟨by k_mem, List.forall_mem_cons.mpr ⟨by k_mem, fun _ h => nomatch h⟩⟩)); (case kne => k_ne); (case kl => assumption); (case kp => assumption); k_whole); intro zh' zt' ztp' ztk' zq' zx' zkp' zhq' zhx'; (have zFN' := back2 zkF zkN zkp' (by k_mem) (by k_upd)); (have zF' := zFN'.1); (have zN' := zFN'.2); clear zkp' zFN'; subst zhx'; (try k_sweep))) | (unfold Stop; k_dflt (refine' leave_newS ?k1 ?kM ?k2 News.nil ?_; (case kM => assumption); (case k1 => assumption); (case k2 => assumption); k_whole; intro zh' zR' zRK' zU'; clear zRK'; (try dsimp only at zR' zU' ⊢))) | (k_unfold; (try dsimp only)) | walk1 | (dsimp only; walk1) | (dsimp only; k_unfold; (try dsimp only))))
        exact hret ⟨st1, pre1, rest1, true, Str.ofString "", 0, _, _, _, tok1, _, _, _⟩ _ _ _ (kept_all hg' (by k_asm) (by k_asm) (by simp)) h2 h3 h4 ⟨h5, h6⟩ h7 h8 (.inr ⟨⟨_, rfl⟩, fun h => nomatch h.1⟩)
    · have htf : decide (tok1.cps.toList ≠ []) = true := by simp [htn]
      have hte : (tok1 == Str.ofString "") = false := by rw [← toList_beq, show (Str.ofString "").cps.toList = [] from rfl]; simpa using htn
      cases q1 <;> (repeat' (first | (unfold Stop; (with_reducible show wpAny _ _ (call (Value.ref 569) _) _ _ _); k_dflt ((with_reducible rename Fr _ _ _ _ => zkF); (with_reducible rename News _ _ _ _ => zkN); (refine' read_spec (ar_below zkF ?kB rfl rfl) ?kX ?kT ?kR (own_of ?kB2 zkN rfl ?kO) ?kne ?kl ?kp ?_; (case kB => assumption); (case kB2 => assumption); (case kX => assumption); (case kT => assumption); (case kR => k_room); (case kO => (refine List.forall_mem_cons.mpr ⟨by k_mem, List.forall_mem_cons.mpr ⟨by k_mem, fun _ h => nomatch h⟩⟩)); (case kne => k_ne); (case kl => assumption); (case kp => assumption); k_whole); intro zh' zt' ztp' ztk' zq' zx' zkp' zhq' zhx'; (have zFN' := back2 zkF zkN zkp' (by k_mem) (by k_upd)); (have zF' := zFN'.1); (have zN' := zFN'.2); clear zkp' zFN'; subst zhx'; (try k_sweep))) | (unfold Stop; k_dflt (refine' leave_newS ?k1 ?kM ?k2 News.nil ?_; (case kM => assumption); (case k1 => assumption); (case k2 => assumption); k_whole; intro zh' zR' zRK' zU'; clear zRK'; (try dsimp only at zR' zU' ⊢))) | (k_unfold; (try dsimp only)) | walk1 | (dsimp only; walk1) | (dsimp only; k_unfold; (try dsimp only))))
      all_goals exact hret ⟨st1, pre1, rest1, _, Str.ofString "", 0, _, _, _, tok1, _, _, _⟩ _ _ _ (kept_all hg' (by k_asm) (by k_asm) (by simp)) h2 h3 h4 ⟨h5, h6⟩ h7 h8 (.inr ⟨⟨_, rfl⟩, fun h => htn h.2⟩)
  case turn =>
    rintro ⟨st1, pre1, rest1, q1, es1, te1, sv1, n1, tn1, tok1, tt1, p1, tp1⟩ u h1 tk1 ⟨hb1, ha1, hp1, hn1, hl1, hs1, hw1, he1, hd1, hr1⟩ F1 N1
    dsimp only at hb1 ha1 hp1 hn1 hl1 hs1 hw1 he1 hd1 hr1 F1 N1 ⊢
    subst hp1
    have hpl : pre1.length ≤ 1000000 := by
      have : buf.length = pre1.length + rest1.length := by
        show buf.cps.size = _
        rw [← Array.length_toList, hb1]; simp
      omega
    have htl : tok1.length ≤ 4000000 := by omega
    have hsz : sizeLine = 16777216 := by decide
    refine abs_post fun W hW => ?_
    (repeat' (first | (unfold Stop; (with_reducible show wpAny _ _ (call (Value.ref 569) _) _ _ _); k_dflt ((with_reducible rename Fr _ _ _ _ => zkF); (with_reducible rename News _ _ _ _ => zkN); (refine' read_spec (ar_below zkF ?kB rfl rfl) ?kX ?kT ?kR (own_of ?kB2 zkN rfl ?kO) ?kne ?kl ?kp ?_; (case kB => assumption); (case kB2 => assumption); (case kX => assumption); (case kT => assumption); (case kR => k_room); (case kO => (refine List.forall_mem_cons.mpr ⟨by k_mem, List.forall_mem_cons.mpr ⟨by k_mem, fun _ h => nomatch h⟩⟩)); (case kne => k_ne); (case kl => assumption); (case kp => assumption); k_whole); intro zh' zt' ztp' ztk' zq' zx' zkp' zhq' zhx'; (have zFN' := back2 zkF zkN zkp' (by k_mem) (by k_upd)); (have zF' := zFN'.1); (have zN' := zFN'.2); clear zkp' zFN'; subst zhx'; (try k_sweep))) | (unfold Stop; k_dflt (refine' leave_newS ?k1 ?kM ?k2 News.nil ?_; (case kM => assumption); (case k1 => assumption); (case k2 => assumption); k_whole; intro zh' zR' zRK' zU'; clear zRK'; (try dsimp only at zR' zU' ⊢))) | (k_unfold; (try dsimp only)) | walk1 | (dsimp only; walk1) | (dsimp only; k_unfold; (try dsimp only))))
    unfold Stop
    (with_reducible rename Fr _ _ _ _ => kF)
    (with_reducible rename News _ _ _ _ => kN)
    refine' cut_lineno (((List.take 1 rest1).length : Nat) : Int) kF kN ?l1 ?l2
    case l1 =>
      refine wpAny_If ?_
      (repeat' (first | (unfold Stop; (with_reducible show wpAny _ _ (call (Value.ref 569) _) _ _ _); k_dflt ((with_reducible rename Fr _ _ _ _ => zkF); (with_reducible rename News _ _ _ _ => zkN); (refine' read_spec (ar_below zkF ?kB rfl rfl) ?kX ?kT ?kR (own_of ?kB2 zkN rfl ?kO) ?kne ?kl ?kp ?_; (case kB => assumption); (case kB2 => assumption); (case kX => assumption); (case kT => assumption); (case kR => k_room); (case kO => (refine List.forall_mem_cons.mpr ⟨by k_mem, List.forall_mem_cons.mpr ⟨by k_mem, fun _ h => nomatch h⟩⟩)); (case kne => k_ne); (case kl => assumption); (case kp => assumption); k_whole); intro zh' zt' ztp' ztk' zq' zx' zkp' zhq' zhx'; (have zFN' := back2 zkF zkN zkp' (by k_mem) (by k_upd)); (have zF' := zFN'.1); (have zN' := zFN'.2); clear zkp' zFN'; subst zhx'; (try k_sweep))) | (unfold Stop; k_dflt (refine' leave_newS ?k1 ?kM ?k2 News.nil ?_; (case kM => assumption); (case k1 => assumption); (case k2 => assumption); k_whole; intro zh' zR' zRK' zU'; clear zRK'; (try dsimp only at zR' zU' ⊢))) | (k_unfold; (try dsimp only)) | walk1 | (dsimp only; walk1) | (dsimp only; k_unfold; (try dsimp only))))
      · rename (_ = true) => hnl
        have := nl_len hnl
        exact ln_end (by k_asm) (by k_asm) (by omega) (by omega)
      · exact ln_end (by k_asm) (by k_asm) (by omega) (by omega)
    case l2 =>
      intro h2 tk2 n2 tn2 F2 N2 hn2 hn3
      clear kF kN
      (repeat' (first | (unfold Stop; (with_reducible show wpAny _ _ (call (Value.ref 569) _) _ _ _); k_dflt ((with_reducible rename Fr _ _ _ _ => zkF); (with_reducible rename News _ _ _ _ => zkN); (refine' read_spec (ar_below zkF ?kB rfl rfl) ?kX ?kT ?kR (own_of ?kB2 zkN rfl ?kO) ?kne ?kl ?kp ?_; (case kB => assumption); (case kB2 => assumption); (case kX => assumption); (case kT => assumption); (case kR => k_room); (case kO => (refine List.forall_mem_cons.mpr ⟨by k_mem, List.forall_mem_cons.mpr ⟨by k_mem, fun _ h => nomatch h⟩⟩)); (case kne => k_ne); (case kl => assumption); (case kp => assumption); k_whole); intro zh' zt' ztp' ztk' zq' zx' zkp' zhq' zhx'; (have zFN' := back2 zkF zkN zkp' (by k_mem) (by k_upd)); (have zF' := zFN'.1); (have zN' := zFN'.2); clear zkp' zFN'; subst zhx'; (try k_sweep))) | (unfold Stop; k_dflt (refine' leave_newS ?k1 ?kM ?k2 News.nil ?_; (case kM => assumption); (case k1 => assumption); (case k2 => assumption); k_whole; intro zh' zR' zRK' zU'; clear zRK'; (try dsimp only at zR' zU' ⊢))) | (k_unfold; (try dsimp only)) | walk1 | (dsimp only; walk1) | (dsimp only; k_unfold; (try dsimp only))))
      obtain ⟨tst1, rfl⟩ := hs1
      rename (_ = ((List.length _ : Nat) : Int)) => hq2
      have hch : ∀ ch r, rest1 = ch :: r → isAlpha ch = true := fun ch r e => by rw [e] at ha1; simp only [List.all_cons, Bool.and_eq_true] at ha1; exact ha1.1
      cases st1
      case ws =>
        simp only [stV] at N2
        obtain ⟨htk, hqq⟩ := hw1 rfl
        have htf : decide (tok1.cps.toList ≠ []) = false := by rw [htk]; rfl
        subst hqq
        cases rest1 with
        | nil =>
          simp only [List.take] at hq2 hn3 F2
          have hnx : decide ((⟨[].toArray⟩ : Str).cps.toList ≠ []) = false := rfl
          (repeat' (first | (unfold Stop; (with_reducible show wpAny _ _ (call (Value.ref 569) _) _ _ _); k_dflt ((with_reducible rename Fr _ _ _ _ => zkF); (with_reducible rename News _ _ _ _ => zkN); (refine' read_spec (ar_below zkF ?kB rfl rfl) ?kX ?kT ?kR (own_of ?kB2 zkN rfl ?kO) ?kne ?kl ?kp ?_; (case kB => assumption); (case kB2 => assumption); (case kX => assumption); (case kT => assumption); (case kR => k_room); (case kO => (refine List.forall_mem_cons.mpr ⟨by k_mem, List.forall_mem_cons.mpr ⟨by k_mem, fun _ h => nomatch h⟩⟩)); (case kne => k_ne); (case kl => assumption); (case kp => assumption); k_whole); intro zh' zt' ztp' ztk' zq' zx' zkp' zhq' zhx'; (have zFN' := back2 zkF zkN zkp' (by k_mem) (by k_upd)); (have zF' := zFN'.1); (have zN' := zFN'.2); clear zkp' zFN'; subst zhx'; (try k_sweep))) | (unfold Stop; k_dflt (refine' leave_newS ?k1 ?kM ?k2 News.nil ?_; (case kM => assumption); (case k1 => assumption); (case k2 => assumption); k_whole; intro zh' zR' zRK' zU'; clear zRK'; (try dsimp only at zR' zU' ⊢))) | (k_unfold; (try dsimp only)) | walk1 | (dsimp only; walk1) | (dsimp only; k_unfold; (try dsimp only))))
          ((with_reducible rename Fr _ _ _ _ => kF); (with_reducible rename News _ _ _ _ => kN); exact hW _ _ (w_brk (RtOut.intro ⟨.done, pre1, [], false, Str.ofString "", 0, _, _, _, _, _, _, _⟩ kF kN (all2 rfl rfl) (hr1.symm.trans rfl) (by first | exact hb1 | (rw [hb1]; simp)) (by simpa using hq2) ⟨by dsimp only; omega, by dsimp only; (try simp only [List.length_append, List.length_cons, List.length_nil] at *); omega⟩ ⟨0, rfl⟩ (by dsimp only; omega))))
        | cons ch r =>
          simp only [List.take] at hq2 hn3 F2
          have hal := hch _ _ rfl
          have hnx : decide ((⟨[ch].toArray⟩ : Str).cps.toList ≠ []) = true := rfl
          obtain ⟨b0, g0⟩ : ∃ b, decide (ch ∈ (Str.ofString " \t\r\n").cps.toList) = b := ⟨_, rfl⟩
          have g1 : decide (ch ∈ (Str.ofString "").cps.toList) = false := rfl
          obtain ⟨b2, g2⟩ : ∃ b, decide (ch ∈ (Str.ofString "\\").cps.toList) = b := ⟨_, rfl⟩
          obtain ⟨b3, g3⟩ : ∃ b, decide (ch ∈ wordCs.cps.toList) = b := ⟨_, rfl⟩
          obtain ⟨b4, g4⟩ : ∃ b, decide (ch ∈ (Str.ofString "'\"").cps.toList) = b := ⟨_, rfl⟩
          (repeat' (first | (unfold Stop; (with_reducible show wpAny _ _ (call (Value.ref 569) _) _ _ _); k_dflt ((with_reducible rename Fr _ _ _ _ => zkF); (with_reducible rename News _ _ _ _ => zkN); (refine' read_spec (ar_below zkF ?kB rfl rfl) ?kX ?kT ?kR (own_of ?kB2 zkN rfl ?kO) ?kne ?kl ?kp ?_; (case kB => assumption); (case kB2 => assumption); (case kX => assumption); (case kT => assumption); (case kR => k_room); (case kO => (refine List.forall_mem_cons.mpr ⟨by k_mem, List.forall_mem_cons.mpr ⟨by k_mem, fun _ h => nomatch h⟩⟩)); (case kne => k_ne); (case kl => assumption); (case kp => assumption); k_whole); intro zh' zt' ztp' ztk' zq' zx' zkp' zhq' zhx'; (have zFN' := back2 zkF zkN zkp' (by k_mem) (by k_upd)); (have zF' := zFN'.1); (have zN' := zFN'.2); clear zkp' zFN'; subst zhx'; (try k_sweep))) | (unfold Stop; k_dflt (refine' leave_newS ?k1 ?kM ?k2 News.nil ?_; (case kM => assumption); (case k1 => assumption); (case k2 => assumption); k_whole; intro zh' zR' zRK' zU'; clear zRK'; (try dsimp only at zR' zU' ⊢))) | (k_unfold; (try dsimp only)) | walk1 | (dsimp only; walk1) | (dsimp only; k_unfold; (try dsimp only))))
          · ((with_reducible rename Fr _ _ _ _ => kF); (with_reducible rename News _ _ _ _ => kN); exact hW _ _ (w_cont ⟨.ws, pre1 ++ [ch], r, _, _, _, _, _, _, _, _, _, _⟩ kF kN (all3 rfl rfl rfl) (RtP.step (n := n1) (tok := tok1) hb1 ha1 hn1 hl1 hn2 hn3 hq2 (by (try rw [str_append_length]); (try rw [str_append_length]); (try simp only [Str.length, List.size_toArray, List.length_cons, List.length_nil] at *); omega) ⟨_, rfl⟩ (fun _ => ⟨htk, rfl⟩) ⟨(fun e => nomatch e), (fun e => nomatch e)⟩ (by decide) (by rw [← hr1, htk]; rcases ws_cases (cls_ws hal g0) with rfl | rfl | rfl <;> rfl)) (by (show r.length < (ch :: r).length); simp)))
          · have hc := cls_esc hal g2
            ((with_reducible rename Fr _ _ _ _ => kF); (with_reducible rename News _ _ _ _ => kN); exact hW _ _ (w_next ⟨.esc, pre1 ++ [ch], r, _, _, _, _, _, _, _, _, _, _⟩ kF kN (all3 rfl rfl rfl) (RtP.step (n := n1) (tok := tok1) hb1 ha1 hn1 hl1 hn2 hn3 hq2 (by (try rw [str_append_length]); (try rw [str_append_length]); (try simp only [Str.length, List.size_toArray, List.length_cons, List.length_nil] at *); omega) ⟨_, congrArg (fun z => Value.str z _) (show (⟨[ch].toArray⟩ : Str) = _ by subst hc; decide)⟩ (fun e => nomatch e) ⟨(fun _ => rfl), (fun e => nomatch e)⟩ (by decide) (by rw [← hr1]; subst hc; rfl)) (by (show r.length < (ch :: r).length); simp)))
          · ((with_reducible rename Fr _ _ _ _ => kF); (with_reducible rename News _ _ _ _ => kN); exact hW _ _ (w_next ⟨.word, pre1 ++ [ch], r, _, _, _, _, _, _, _, _, _, _⟩ kF kN (all3 rfl rfl rfl) (RtP.step (n := n1) (tok := tok1) hb1 ha1 hn1 hl1 hn2 hn3 hq2 (by (try rw [str_append_length]); (try rw [str_append_length]); (try simp only [Str.length, List.size_toArray, List.length_cons, List.length_nil] at *); omega) ⟨_, rfl⟩ (fun e => nomatch e) ⟨(fun e => nomatch e), (fun e => nomatch e)⟩ (by decide) (by rw [← hr1]; rcases cls_word hal g3 with rfl | rfl <;> rfl)) (by (show r.length < (ch :: r).length); simp)))
          · rcases cls_quo hal g4 with hc | hc
            · ((with_reducible rename Fr _ _ _ _ => kF); (with_reducible rename News _ _ _ _ => kN); exact hW _ _ (w_next ⟨.sq, pre1 ++ [ch], r, _, _, _, _, _, _, _, _, _, _⟩ kF kN (all3 rfl rfl rfl) (RtP.step (n := n1) (tok := tok1) hb1 ha1 hn1 hl1 hn2 hn3 hq2 (by (try rw [str_append_length]); (try rw [str_append_length]); (try simp only [Str.length, List.size_toArray, List.length_cons, List.length_nil] at *); omega) ⟨_, congrArg (fun z => Value.str z _) (show (⟨[ch].toArray⟩ : Str) = _ by subst hc; decide)⟩ (fun e => nomatch e) ⟨(fun e => nomatch e), (fun e => nomatch e)⟩ (by decide) (by rw [← hr1]; subst hc; rfl)) (by (show r.length < (ch :: r).length); simp)))
            · ((with_reducible rename Fr _ _ _ _ => kF); (with_reducible rename News _ _ _ _ => kN); exact hW _ _ (w_next ⟨.dq, pre1 ++ [ch], r, _, _, _, _, _, _, _, _, _, _⟩ kF kN (all3 rfl rfl rfl) (RtP.step (n := n1) (tok := tok1) hb1 ha1 hn1 hl1 hn2 hn3 hq2 (by (try rw [str_append_length]); (try rw [str_append_length]); (try simp only [Str.length, List.size_toArray, List.length_cons, List.length_nil] at *); omega) ⟨_, congrArg (fun z => Value.str z _) (show (⟨[ch].toArray⟩ : Str) = _ by subst hc; decide)⟩ (fun e => nomatch e) ⟨(fun e => nomatch e), (fun e => nomatch e)⟩ (by decide) (by rw [← hr1]; subst hc; rfl)) (by (show r.length < (ch :: r).length); simp)))
          · have hc := cls_hash hal g0 g2 g3 g4
            ((with_reducible rename Fr _ _ _ _ => kF); (with_reducible rename News _ _ _ _ => kN); exact hW _ _ (w_next ⟨.word, pre1 ++ [ch], r, _, _, _, _, _, _, _, _, _, _⟩ kF kN (all3 rfl rfl rfl) (RtP.step (n := n1) (tok := tok1) hb1 ha1 hn1 hl1 hn2 hn3 hq2 (by (try rw [str_append_length]); (try rw [str_append_length]); (try simp only [Str.length, List.size_toArray, List.length_cons, List.length_nil] at *); omega) ⟨_, rfl⟩ (fun e => nomatch e) ⟨(fun e => nomatch e), (fun e => nomatch e)⟩ (by decide) (by rw [← hr1]; subst hc; rfl)) (by (show r.length < (ch :: r).length); simp)))
      case word =>
        simp only [stV] at N2
        cases rest1 with
        | nil =>
          simp only [List.take] at hq2 hn3 F2
          have hnx : decide ((⟨[].toArray⟩ : Str).cps.toList ≠ []) = false := rfl
          (repeat' (first | (unfold Stop; (with_reducible show wpAny _ _ (call (Value.ref 569) _) _ _ _); k_dflt ((with_reducible rename Fr _ _ _ _ => zkF); (with_reducible rename News _ _ _ _ => zkN); (refine' read_spec (ar_below zkF ?kB rfl rfl) ?kX ?kT ?kR (own_of ?kB2 zkN rfl ?kO) ?kne ?kl ?kp ?_; (case kB => assumption); (case kB2 => assumption); (case kX => assumption); (case kT => assumption); (case kR => k_room); (case kO => (refine List.forall_mem_cons.mpr ⟨by k_mem, List.forall_mem_cons.mpr ⟨by k_mem, fun _ h => nomatch h⟩⟩)); (case kne => k_ne); (case kl => assumption); (case kp => assumption); k_whole); intro zh' zt' ztp' ztk' zq' zx' zkp' zhq' zhx'; (have zFN' := back2 zkF zkN zkp' (by k_mem) (by k_upd)); (have zF' := zFN'.1); (have zN' := zFN'.2); clear zkp' zFN'; subst zhx'; (try k_sweep))) | (unfold Stop; k_dflt (refine' leave_newS ?k1 ?kM ?k2 News.nil ?_; (case kM => assumption); (case k1 => assumption); (case k2 => assumption); k_whole; intro zh' zR' zRK' zU'; clear zRK'; (try dsimp only at zR' zU' ⊢))) | (k_unfold; (try dsimp only)) | walk1 | (dsimp only; walk1) | (dsimp only; k_unfold; (try dsimp only))))
          ((with_reducible rename Fr _ _ _ _ => kF); (with_reducible rename News _ _ _ _ => kN); exact hW _ _ (w_brk (RtOut.intro ⟨.done, pre1, [], q1, Str.ofString "", 0, _, _, _, _, _, _, _⟩ kF (news_tl kN) (all2 rfl rfl) (hr1.symm.trans rfl) (by first | exact hb1 | (rw [hb1]; simp)) (by simpa using hq2) ⟨by dsimp only; omega, by dsimp only; (try simp only [List.length_append, List.length_cons, List.length_nil] at *); omega⟩ ⟨0, rfl⟩ (by dsimp only; omega))))
        | cons ch r =>
          simp only [List.take] at hq2 hn3 F2
          have hal := hch _ _ rfl
          have hnx : decide ((⟨[ch].toArray⟩ : Str).cps.toList ≠ []) = true := rfl
          obtain ⟨b0, g0⟩ : ∃ b, decide (ch ∈ (Str.ofString " \t\r\n").cps.toList) = b := ⟨_, rfl⟩
          have g1 : decide (ch ∈ (Str.ofString "").cps.toList) = false := rfl
          obtain ⟨b2, g2⟩ : ∃ b, decide (ch ∈ (Str.ofString "\\").cps.toList) = b := ⟨_, rfl⟩
          obtain ⟨b3, g3⟩ : ∃ b, decide (ch ∈ wordCs.cps.toList) = b := ⟨_, rfl⟩
          obtain ⟨b4, g4⟩ : ∃ b, decide (ch ∈ (Str.ofString "'\"").cps.toList) = b := ⟨_, rfl⟩
          obtain ⟨bt, htf⟩ : ∃ b, decide (tok1.cps.toList ≠ []) = b := ⟨_, rfl⟩
          (repeat' (first | (unfold Stop; (with_reducible show wpAny _ _ (call (Value.ref 569) _) _ _ _); k_dflt ((with_reducible rename Fr _ _ _ _ => zkF); (with_reducible rename News _ _ _ _ => zkN); (refine' read_spec (ar_below zkF ?kB rfl rfl) ?kX ?kT ?kR (own_of ?kB2 zkN rfl ?kO) ?kne ?kl ?kp ?_; (case kB => assumption); (case kB2 => assumption); (case kX => assumption); (case kT => assumption); (case kR => k_room); (case kO => (refine List.forall_mem_cons.mpr ⟨by k_mem, List.forall_mem_cons.mpr ⟨by k_mem, fun _ h => nomatch h⟩⟩)); (case kne => k_ne); (case kl => assumption); (case kp => assumption); k_whole); intro zh' zt' ztp' ztk' zq' zx' zkp' zhq' zhx'; (have zFN' := back2 zkF zkN zkp' (by k_mem) (by k_upd)); (have zF' := zFN'.1); (have zN' := zFN'.2); clear zkp' zFN'; subst zhx'; (try k_sweep))) | (unfold Stop; k_dflt (refine' leave_newS ?k1 ?kM ?k2 News.nil ?_; (case kM => assumption); (case k1 => assumption); (case k2 => assumption); k_whole; intro zh' zR' zRK' zU'; clear zRK'; (try dsimp only at zR' zU' ⊢))) | (k_unfold; (try dsimp only)) | walk1 | (dsimp only; walk1) | (dsimp only; k_unfold; (try dsimp only))))
          · ((with_reducible rename Fr _ _ _ _ => kF); (with_reducible rename News _ _ _ _ => kN); exact hW _ _ (w_brk (RtOut.intro ⟨.ws, pre1 ++ [ch], r, q1, Str.ofString "", 0, _, _, _, _, _, _, _⟩ kF (news_tl kN) (all2 rfl rfl) (by rw [← hr1]; rcases ws_cases (cls_ws hal g0) with rfl | rfl | rfl <;> exact if_pos (Or.inl (of_decide_eq_true htf))) (by first | exact hb1 | (rw [hb1]; simp)) (hq2) ⟨by dsimp only; omega, by dsimp only; (try simp only [List.length_append, List.length_cons, List.length_nil] at *); omega⟩ ⟨_, rfl⟩ (by dsimp only; omega))))
          · have htn : tok1.cps.toList = [] := by simpa using htf
            ((with_reducible rename Fr _ _ _ _ => kF); (with_reducible rename News _ _ _ _ => kN); exact hW _ _ (w_brk (RtOut.intro ⟨.ws, pre1 ++ [ch], r, true, Str.ofString "", 0, _, _, _, _, _, _, _⟩ kF (news_tl kN) (all2 rfl rfl) (by rw [← hr1, htn]; rcases ws_cases (cls_ws hal g0) with rfl | rfl | rfl <;> rfl) (by first | exact hb1 | (rw [hb1]; simp)) (hq2) ⟨by dsimp only; omega, by dsimp only; (try simp only [List.length_append, List.length_cons, List.length_nil] at *); omega⟩ ⟨_, rfl⟩ (by dsimp only; omega))))
          · have htn : tok1.cps.toList = [] := by simpa using htf
            ((with_reducible rename Fr _ _ _ _ => kF); (with_reducible rename News _ _ _ _ => kN); exact hW _ _ (w_cont ⟨.ws, pre1 ++ [ch], r, _, _, _, _, _, _, _, _, _, _⟩ kF (news_tl kN) (all3 rfl rfl rfl) (RtP.step (n := n1) (tok := tok1) hb1 ha1 hn1 hl1 hn2 hn3 hq2 (by (try rw [str_append_length]); (try rw [str_append_length]); (try simp only [Str.length, List.size_toArray, List.length_cons, List.length_nil] at *); omega) ⟨_, rfl⟩ (fun _ => ⟨htn, rfl⟩) ⟨(fun e => nomatch e), (fun e => nomatch e)⟩ (by decide) (by rw [← hr1, htn]; rcases ws_cases (cls_ws hal g0) with rfl | rfl | rfl <;> rfl)) (by (show r.length < (ch :: r).length); simp)))
          · rcases cls_quo hal g4 with hc | hc
            · ((with_reducible rename Fr _ _ _ _ => kF); (with_reducible rename News _ _ _ _ => kN); exact hW _ _ (w_next ⟨.sq, pre1 ++ [ch], r, _, _, _, _, _, _, _, _, _, _⟩ kF (news_tl kN) (all3 rfl rfl rfl) (RtP.step (n := n1) (tok := tok1) hb1 ha1 hn1 hl1 hn2 hn3 hq2 (by (try rw [str_append_length]); (try rw [str_append_length]); (try simp only [Str.length, List.size_toArray, List.length_cons, List.length_nil] at *); omega) ⟨_, congrArg (fun z => Value.str z _) (show (⟨[ch].toArray⟩ : Str) = _ by subst hc; decide)⟩ (fun e => nomatch e) ⟨(fun e => nomatch e), (fun e => nomatch e)⟩ (by decide) (by rw [← hr1]; subst hc; rfl)) (by (show r.length < (ch :: r).length); simp)))
            · ((with_reducible rename Fr _ _ _ _ => kF); (with_reducible rename News _ _ _ _ => kN); exact hW _ _ (w_next ⟨.dq, pre1 ++ [ch], r, _, _, _, _, _, _, _, _, _, _⟩ kF (news_tl kN) (all3 rfl rfl rfl) (RtP.step (n := n1) (tok := tok1) hb1 ha1 hn1 hl1 hn2 hn3 hq2 (by (try rw [str_append_length]); (try rw [str_append_length]); (try simp only [Str.length, List.size_toArray, List.length_cons, List.length_nil] at *); omega) ⟨_, congrArg (fun z => Value.str z _) (show (⟨[ch].toArray⟩ : Str) = _ by subst hc; decide)⟩ (fun e => nomatch e) ⟨(fun e => nomatch e), (fun e => nomatch e)⟩ (by decide) (by rw [← hr1]; subst hc; rfl)) (by (show r.length < (ch :: r).length); simp)))
          · have hc := cls_esc hal g2
            ((with_reducible rename Fr _ _ _ _ => kF); (with_reducible rename News _ _ _ _ => kN); exact hW _ _ (w_next ⟨.esc, pre1 ++ [ch], r, _, _, _, _, _, _, _, _, _, _⟩ kF (news_tl kN) (all3 rfl rfl rfl) (RtP.step (n := n1) (tok := tok1) hb1 ha1 hn1 hl1 hn2 hn3 hq2 (by (try rw [str_append_length]); (try rw [str_append_length]); (try simp only [Str.length, List.size_toArray, List.length_cons, List.length_nil] at *); omega) ⟨_, congrArg (fun z => Value.str z _) (show (⟨[ch].toArray⟩ : Str) = _ by subst hc; decide)⟩ (fun e => nomatch e) ⟨(fun _ => rfl), (fun e => nomatch e)⟩ (by decide) (by rw [← hr1]; subst hc; rfl)) (by (show r.length < (ch :: r).length); simp)))
          · ((with_reducible rename Fr _ _ _ _ => kF); (with_reducible rename News _ _ _ _ => kN); exact hW _ _ (w_next ⟨.word, pre1 ++ [ch], r, _, _, _, _, _, _, _, _, _, _⟩ kF (news_tl kN) (all3 rfl rfl rfl) (RtP.step (n := n1) (tok := tok1) hb1 ha1 hn1 hl1 hn2 hn3 hq2 (by (try rw [str_append_length]); (try rw [str_append_length]); (try simp only [Str.length, List.size_toArray, List.length_cons, List.length_nil] at *); omega) ⟨_, rfl⟩ (fun e => nomatch e) ⟨(fun e => nomatch e), (fun e => nomatch e)⟩ (by decide) (by rw [← hr1, str_append_list]; rcases cls_word hal g3 with rfl | rfl <;> rfl)) (by (show r.length < (ch :: r).length); simp)))
          · have hc := cls_hash hal g0 g2 g3 g4
            ((with_reducible rename Fr _ _ _ _ => kF); (with_reducible rename News _ _ _ _ => kN); exact hW _ _ (w_next ⟨.word, pre1 ++ [ch], r, _, _, _, _, _, _, _, _, _, _⟩ kF (news_tl kN) (all3 rfl rfl rfl) (RtP.step (n := n1) (tok := tok1) hb1 ha1 hn1 hl1 hn2 hn3 hq2 (by (try rw [str_append_length]); (try rw [str_append_length]); (try simp only [Str.length, List.size_toArray, List.length_cons, List.length_nil] at *); omega) ⟨_, rfl⟩ (fun e => nomatch e) ⟨(fun e => nomatch e), (fun e => nomatch e)⟩ (by decide) (by rw [← hr1, str_append_list]; subst hc; rfl)) (by (show r.length < (ch :: r).length); simp)))
      case sq =>
        simp only [stV] at N2
        cases rest1 with
        | nil =>
          simp only [List.take] at hq2 hn3 F2
          have hnx : decide ((⟨[].toArray⟩ : Str).cps.toList ≠ []) = false := rfl
          (repeat' (first | (unfold Stop; (with_reducible show wpAny _ _ (call (Value.ref 569) _) _ _ _); k_dflt ((with_reducible rename Fr _ _ _ _ => zkF); (with_reducible rename News _ _ _ _ => zkN); (refine' read_spec (ar_below zkF ?kB rfl rfl) ?kX ?kT ?kR (own_of ?kB2 zkN rfl ?kO) ?kne ?kl ?kp ?_; (case kB => assumption); (case kB2 => assumption); (case kX => assumption); (case kT => assumption); (case kR => k_room); (case kO => (refine List.forall_mem_cons.mpr ⟨by k_mem, List.forall_mem_cons.mpr ⟨by k_mem, fun _ h => nomatch h⟩⟩)); (case kne => k_ne); (case kl => assumption); (case kp => assumption); k_whole); intro zh' zt' ztp' ztk' zq' zx' zkp' zhq' zhx'; (have zFN' := back2 zkF zkN zkp' (by k_mem) (by k_upd)); (have zF' := zFN'.1); (have zN' := zFN'.2); clear zkp' zFN'; subst zhx'; (try k_sweep))) | (unfold Stop; k_dflt (refine' leave_newS ?k1 ?kM ?k2 News.nil ?_; (case kM => assumption); (case k1 => assumption); (case k2 => assumption); k_whole; intro zh' zR' zRK' zU'; clear zRK'; (try dsimp only at zR' zU' ⊢))) | (k_unfold; (try dsimp only)) | walk1 | (dsimp only; walk1) | (dsimp only; k_unfold; (try dsimp only))))
          exact hraise _ _ _ g' (hr1.symm.trans rfl) hg' (by assumption) (by assumption)
        | cons ch r =>
          simp only [List.take] at hq2 hn3 F2
          have hal := hch _ _ rfl
          have hnx : decide ((⟨[ch].toArray⟩ : Str).cps.toList ≠ []) = true := rfl
          obtain ⟨b0, e0⟩ : ∃ b, ((⟨[ch].toArray⟩ : Str) == (Str.ofString "'")) = b := ⟨_, rfl⟩
          obtain ⟨b1, g0⟩ : ∃ b, decide (ch ∈ (Str.ofString "\\").cps.toList) = b := ⟨_, rfl⟩
          (repeat' (first | (unfold Stop; (with_reducible show wpAny _ _ (call (Value.ref 569) _) _ _ _); k_dflt ((with_reducible rename Fr _ _ _ _ => zkF); (with_reducible rename News _ _ _ _ => zkN); (refine' read_spec (ar_below zkF ?kB rfl rfl) ?kX ?kT ?kR (own_of ?kB2 zkN rfl ?kO) ?kne ?kl ?kp ?_; (case kB => assumption); (case kB2 => assumption); (case kX => assumption); (case kT => assumption); (case kR => k_room); (case kO => (refine List.forall_mem_cons.mpr ⟨by k_mem, List.forall_mem_cons.mpr ⟨by k_mem, fun _ h => nomatch h⟩⟩)); (case kne => k_ne); (case kl => assumption); (case kp => assumption); k_whole); intro zh' zt' ztp' ztk' zq' zx' zkp' zhq' zhx'; (have zFN' := back2 zkF zkN zkp' (by k_mem) (by k_upd)); (have zF' := zFN'.1); (have zN' := zFN'.2); clear zkp' zFN'; subst zhx'; (try k_sweep))) | (unfold Stop; k_dflt (refine' leave_newS ?k1 ?kM ?k2 News.nil ?_; (case kM => assumption); (case k1 => assumption); (case k2 => assumption); k_whole; intro zh' zR' zRK' zU'; clear zRK'; (try dsimp only at zR' zU' ⊢))) | (k_unfold; (try dsimp only)) | walk1 | (dsimp only; walk1) | (dsimp only; k_unfold; (try dsimp only))))
          · have hc := sign_eq 39 (by decide) e0
            ((with_reducible rename Fr _ _ _ _ => kF); (with_reducible rename News _ _ _ _ => kN); exact hW _ _ (w_next ⟨.word, pre1 ++ [ch], r, _, _, _, _, _, _, _, _, _, _⟩ kF kN (all3 rfl rfl rfl) (RtP.step (n := n1) (tok := tok1) hb1 ha1 hn1 hl1 hn2 hn3 hq2 (by (try rw [str_append_length]); (try rw [str_append_length]); (try simp only [Str.length, List.size_toArray, List.length_cons, List.length_nil] at *); omega) ⟨_, rfl⟩ (fun e => nomatch e) ⟨(fun e => nomatch e), (fun e => nomatch e)⟩ (by decide) (by rw [← hr1]; subst hc; rfl)) (by (show r.length < (ch :: r).length); simp)))
          · have hc1 := sign_neq 39 (by decide) e0
            ((with_reducible rename Fr _ _ _ _ => kF); (with_reducible rename News _ _ _ _ => kN); exact hW _ _ (w_next ⟨.sq, pre1 ++ [ch], r, _, _, _, _, _, _, _, _, _, _⟩ kF kN (all3 rfl rfl rfl) (RtP.step (n := n1) (tok := tok1) hb1 ha1 hn1 hl1 hn2 hn3 hq2 (by (try rw [str_append_length]); (try rw [str_append_length]); (try simp only [Str.length, List.size_toArray, List.length_cons, List.length_nil] at *); omega) ⟨_, rfl⟩ (fun e => nomatch e) ⟨(fun e => nomatch e), (fun e => nomatch e)⟩ (by decide) (by rw [← hr1, str_append_list]; exact (if_neg (by simpa using hc1)).symm)) (by (show r.length < (ch :: r).length); simp)))
          · have hc1 := sign_neq 39 (by decide) e0
            ((with_reducible rename Fr _ _ _ _ => kF); (with_reducible rename News _ _ _ _ => kN); exact hW _ _ (w_next ⟨.sq, pre1 ++ [ch], r, _, _, _, _, _, _, _, _, _, _⟩ kF kN (all3 rfl rfl rfl) (RtP.step (n := n1) (tok := tok1) hb1 ha1 hn1 hl1 hn2 hn3 hq2 (by (try rw [str_append_length]); (try rw [str_append_length]); (try simp only [Str.length, List.size_toArray, List.length_cons, List.length_nil] at *); omega) ⟨_, rfl⟩ (fun e => nomatch e) ⟨(fun e => nomatch e), (fun e => nomatch e)⟩ (by decide) (by rw [← hr1, str_append_list]; exact (if_neg (by simpa using hc1)).symm)) (by (show r.length < (ch :: r).length); simp)))
      case dq =>
        simp only [stV] at N2
        cases rest1 with
        | nil =>
          simp only [List.take] at hq2 hn3 F2
          have hnx : decide ((⟨[].toArray⟩ : Str).cps.toList ≠ []) = false := rfl
          (repeat' (first | (unfold Stop; (with_reducible show wpAny _ _ (call (Value.ref 569) _) _ _ _); k_dflt ((with_reducible rename Fr _ _ _ _ => zkF); (with_reducible rename News _ _ _ _ => zkN); (refine' read_spec (ar_below zkF ?kB rfl rfl) ?kX ?kT ?kR (own_of ?kB2 zkN rfl ?kO) ?kne ?kl ?kp ?_; (case kB => assumption); (case kB2 => assumption); (case kX => assumption); (case kT => assumption); (case kR => k_room); (case kO => (refine List.forall_mem_cons.mpr ⟨by k_mem, List.forall_mem_cons.mpr ⟨by k_mem, fun _ h => nomatch h⟩⟩)); (case kne => k_ne); (case kl => assumption); (case kp => assumption); k_whole); intro zh' zt' ztp' ztk' zq' zx' zkp' zhq' zhx'; (have zFN' := back2 zkF zkN zkp' (by k_mem) (by k_upd)); (have zF' := zFN'.1); (have zN' := zFN'.2); clear zkp' zFN'; subst zhx'; (try k_sweep))) | (unfold Stop; k_dflt (refine' leave_newS ?k1 ?kM ?k2 News.nil ?_; (case kM => assumption); (case k1 => assumption); (case k2 => assumption); k_whole; intro zh' zR' zRK' zU'; clear zRK'; (try dsimp only at zR' zU' ⊢))) | (k_unfold; (try dsimp only)) | walk1 | (dsimp only; walk1) | (dsimp only; k_unfold; (try dsimp only))))
          exact hraise _ _ _ g' (hr1.symm.trans rfl) hg' (by assumption) (by assumption)
        | cons ch r =>
          simp only [List.take] at hq2 hn3 F2
          have hal := hch _ _ rfl
          have hnx : decide ((⟨[ch].toArray⟩ : Str).cps.toList ≠ []) = true := rfl
          obtain ⟨b0, e0⟩ : ∃ b, ((⟨[ch].toArray⟩ : Str) == (Str.ofString "\"")) = b := ⟨_, rfl⟩
          obtain ⟨b1, g0⟩ : ∃ b, decide (ch ∈ (Str.ofString "\\").cps.toList) = b := ⟨_, rfl⟩
          (repeat' (first | (unfold Stop; (with_reducible show wpAny _ _ (call (Value.ref 569) _) _ _ _); k_dflt ((with_reducible rename Fr _ _ _ _ => zkF); (with_reducible rename News _ _ _ _ => zkN); (refine' read_spec (ar_below zkF ?kB rfl rfl) ?kX ?kT ?kR (own_of ?kB2 zkN rfl ?kO) ?kne ?kl ?kp ?_; (case kB => assumption); (case kB2 => assumption); (case kX => assumption); (case kT => assumption); (case kR => k_room); (case kO => (refine List.forall_mem_cons.mpr ⟨by k_mem, List.forall_mem_cons.mpr ⟨by k_mem, fun _ h => nomatch h⟩⟩)); (case kne => k_ne); (case kl => assumption); (case kp => assumption); k_whole); intro zh' zt' ztp' ztk' zq' zx' zkp' zhq' zhx'; (have zFN' := back2 zkF zkN zkp' (by k_mem) (by k_upd)); (have zF' := zFN'.1); (have zN' := zFN'.2); clear zkp' zFN'; subst zhx'; (try k_sweep))) | (unfold Stop; k_dflt (refine' leave_newS ?k1 ?kM ?k2 News.nil ?_; (case kM => assumption); (case k1 => assumption); (case k2 => assumption); k_whole; intro zh' zR' zRK' zU'; clear zRK'; (try dsimp only at zR' zU' ⊢))) | (k_unfold; (try dsimp only)) | walk1 | (dsimp only; walk1) | (dsimp only; k_unfold; (try dsimp only))))
          · have hc := sign_eq 34 (by decide) e0
            ((with_reducible rename Fr _ _ _ _ => kF); (with_reducible rename News _ _ _ _ => kN); exact hW _ _ (w_next ⟨.word, pre1 ++ [ch], r, _, _, _, _, _, _, _, _, _, _⟩ kF kN (all3 rfl rfl rfl) (RtP.step (n := n1) (tok := tok1) hb1 ha1 hn1 hl1 hn2 hn3 hq2 (by (try rw [str_append_length]); (try rw [str_append_length]); (try simp only [Str.length, List.size_toArray, List.length_cons, List.length_nil] at *); omega) ⟨_, rfl⟩ (fun e => nomatch e) ⟨(fun e => nomatch e), (fun e => nomatch e)⟩ (by decide) (by rw [← hr1]; subst hc; rfl)) (by (show r.length < (ch :: r).length); simp)))
          · have hc := cls_esc hal g0
            ((with_reducible rename Fr _ _ _ _ => kF); (with_reducible rename News _ _ _ _ => kN); exact hW _ _ (w_next ⟨.escq, pre1 ++ [ch], r, _, _, _, _, _, _, _, _, _, _⟩ kF kN (all3 rfl rfl rfl) (RtP.step (n := n1) (tok := tok1) hb1 ha1 hn1 hl1 hn2 hn3 hq2 (by (try rw [str_append_length]); (try rw [str_append_length]); (try simp only [Str.length, List.size_toArray, List.length_cons, List.length_nil] at *); omega) ⟨_, congrArg (fun z => Value.str z _) (show (⟨[ch].toArray⟩ : Str) = _ by subst hc; decide)⟩ (fun e => nomatch e) ⟨(fun e => nomatch e), (fun _ => rfl)⟩ (by decide) (by rw [← hr1]; subst hc; rfl)) (by (show r.length < (ch :: r).length); simp)))
          · have hc1 := sign_neq 34 (by decide) e0
            have hc2 := sign_no 92 (by decide) g0
            ((with_reducible rename Fr _ _ _ _ => kF); (with_reducible rename News _ _ _ _ => kN); exact hW _ _ (w_next ⟨.dq, pre1 ++ [ch], r, _, _, _, _, _, _, _, _, _, _⟩ kF kN (all3 rfl rfl rfl) (RtP.step (n := n1) (tok := tok1) hb1 ha1 hn1 hl1 hn2 hn3 hq2 (by (try rw [str_append_length]); (try rw [str_append_length]); (try simp only [Str.length, List.size_toArray, List.length_cons, List.length_nil] at *); omega) ⟨_, rfl⟩ (fun e => nomatch e) ⟨(fun e => nomatch e), (fun e => nomatch e)⟩ (by decide) (by rw [← hr1, str_append_list]; exact ((if_neg (by simpa using hc1)).trans (if_neg (by simpa using hc2))).symm)) (by (show r.length < (ch :: r).length); simp)))
      case esc =>
        simp only [stV] at N2
        obtain rfl := he1.1 rfl
        cases rest1 with
        | nil =>
          simp only [List.take] at hq2 hn3 F2
          have hnx : decide ((⟨[].toArray⟩ : Str).cps.toList ≠ []) = false := rfl
          (repeat' (first | (unfold Stop; (with_reducible show wpAny _ _ (call (Value.ref 569) _) _ _ _); k_dflt ((with_reducible rename Fr _ _ _ _ => zkF); (with_reducible rename News _ _ _ _ => zkN); (refine' read_spec (ar_below zkF ?kB rfl rfl) ?kX ?kT ?kR (own_of ?kB2 zkN rfl ?kO) ?kne ?kl ?kp ?_; (case kB => assumption); (case kB2 => assumption); (case kX => assumption); (case kT => assumption); (case kR => k_room); (case kO => (refine List.forall_mem_cons.mpr ⟨by k_mem, List.forall_mem_cons.mpr ⟨by k_mem, fun _ h => nomatch h⟩⟩)); (case kne => k_ne); (case kl => assumption); (case kp => assumption); k_whole); intro zh' zt' ztp' ztk' zq' zx' zkp' zhq' zhx'; (have zFN' := back2 zkF zkN zkp' (by k_mem) (by k_upd)); (have zF' := zFN'.1); (have zN' := zFN'.2); clear zkp' zFN'; subst zhx'; (try k_sweep))) | (unfold Stop; k_dflt (refine' leave_newS ?k1 ?kM ?k2 News.nil ?_; (case kM => assumption); (case k1 => assumption); (case k2 => assumption); k_whole; intro zh' zR' zRK' zU'; clear zRK'; (try dsimp only at zR' zU' ⊢))) | (k_unfold; (try dsimp only)) | walk1 | (dsimp only; walk1) | (dsimp only; k_unfold; (try dsimp only))))
          exact hraise _ _ _ g' (hr1.symm.trans rfl) hg' (by assumption) (by assumption)
        | cons ch r =>
          simp only [List.take] at hq2 hn3 F2
          have hal := hch _ _ rfl
          have hnx : decide ((⟨[ch].toArray⟩ : Str).cps.toList ≠ []) = true := rfl
          (repeat' (first | (unfold Stop; (with_reducible show wpAny _ _ (call (Value.ref 569) _) _ _ _); k_dflt ((with_reducible rename Fr _ _ _ _ => zkF); (with_reducible rename News _ _ _ _ => zkN); (refine' read_spec (ar_below zkF ?kB rfl rfl) ?kX ?kT ?kR (own_of ?kB2 zkN rfl ?kO) ?kne ?kl ?kp ?_; (case kB => assumption); (case kB2 => assumption); (case kX => assumption); (case kT => assumption); (case kR => k_room); (case kO => (refine List.forall_mem_cons.mpr ⟨by k_mem, List.forall_mem_cons.mpr ⟨by k_mem, fun _ h => nomatch h⟩⟩)); (case kne => k_ne); (case kl => assumption); (case kp => assumption); k_whole); intro zh' zt' ztp' ztk' zq' zx' zkp' zhq' zhx'; (have zFN' := back2 zkF zkN zkp' (by k_mem) (by k_upd)); (have zF' := zFN'.1); (have zN' := zFN'.2); clear zkp' zFN'; subst zhx'; (try k_sweep))) | (unfold Stop; k_dflt (refine' leave_newS ?k1 ?kM ?k2 News.nil ?_; (case kM => assumption); (case k1 => assumption); (case k2 => assumption); k_whole; intro zh' zR' zRK' zU'; clear zRK'; (try dsimp only at zR' zU' ⊢))) | (k_unfold; (try dsimp only)) | walk1 | (dsimp only; walk1) | (dsimp only; k_unfold; (try dsimp only))))
          ((with_reducible rename Fr _ _ _ _ => kF); (with_reducible rename News _ _ _ _ => kN); exact hW _ _ (w_next ⟨.word, pre1 ++ [ch], r, _, _, _, _, _, _, _, _, _, _⟩ kF kN (all3 rfl rfl rfl) (RtP.step (n := n1) (tok := tok1) hb1 ha1 hn1 hl1 hn2 hn3 hq2 (by (try rw [str_append_length]); (try rw [str_append_length]); (try simp only [Str.length, List.size_toArray, List.length_cons, List.length_nil] at *); omega) ⟨_, rfl⟩ (fun e => nomatch e) ⟨(fun e => nomatch e), (fun e => nomatch e)⟩ (by decide) (by rw [← hr1, str_append_list]; rfl)) (by (show r.length < (ch :: r).length); simp)))
      case escq =>
        simp only [stV] at N2
        obtain rfl := he1.2 rfl
        cases rest1 with
        | nil =>
          simp only [List.take] at hq2 hn3 F2
          have hnx : decide ((⟨[].toArray⟩ : Str).cps.toList ≠ []) = false := rfl
          (repeat' (first | (unfold Stop; (with_reducible show wpAny _ _ (call (Value.ref 569) _) _ _ _); k_dflt ((with_reducible rename Fr _ _ _ _ => zkF); (with_reducible rename News _ _ _ _ => zkN); (refine' read_spec (ar_below zkF ?kB rfl rfl) ?kX ?kT ?kR (own_of ?kB2 zkN rfl ?kO) ?kne ?kl ?kp ?_; (case kB => assumption); (case kB2 => assumption); (case kX => assumption); (case kT => assumption); (case kR => k_room); (case kO => (refine List.forall_mem_cons.mpr ⟨by k_mem, List.forall_mem_cons.mpr ⟨by k_mem, fun _ h => nomatch h⟩⟩)); (case kne => k_ne); (case kl => assumption); (case kp => assumption); k_whole); intro zh' zt' ztp' ztk' zq' zx' zkp' zhq' zhx'; (have zFN' := back2 zkF zkN zkp' (by k_mem) (by k_upd)); (have zF' := zFN'.1); (have zN' := zFN'.2); clear zkp' zFN'; subst zhx'; (try k_sweep))) | (unfold Stop; k_dflt (refine' leave_newS ?k1 ?kM ?k2 News.nil ?_; (case kM => assumption); (case k1 => assumption); (case k2 => assumption); k_whole; intro zh' zR' zRK' zU'; clear zRK'; (try dsimp only at zR' zU' ⊢))) | (k_unfold; (try dsimp only)) | walk1 | (dsimp only; walk1) | (dsimp only; k_unfold; (try dsimp only))))
          exact hraise _ _ _ g' (hr1.symm.trans rfl) hg' (by assumption) (by assumption)
        | cons ch r =>
          simp only [List.take] at hq2 hn3 F2
          have hal := hch _ _ rfl
          have hnx : decide ((⟨[ch].toArray⟩ : Str).cps.toList ≠ []) = true := rfl
          obtain ⟨b0, e0⟩ : ∃ b, ((⟨[ch].toArray⟩ : Str) == (Str.ofString "\\")) = b := ⟨_, rfl⟩
          obtain ⟨b1, e1⟩ : ∃ b, ((⟨[ch].toArray⟩ : Str) == (Str.ofString "\"")) = b := ⟨_, rfl⟩
          (repeat' (first | (unfold Stop; (with_reducible show wpAny _ _ (call (Value.ref 569) _) _ _ _); k_dflt ((with_reducible rename Fr _ _ _ _ => zkF); (with_reducible rename News _ _ _ _ => zkN); (refine' read_spec (ar_below zkF ?kB rfl rfl) ?kX ?kT ?kR (own_of ?kB2 zkN rfl ?kO) ?kne ?kl ?kp ?_; (case kB => assumption); (case kB2 => assumption); (case kX => assumption); (case kT => assumption); (case kR => k_room); (case kO => (refine List.forall_mem_cons.mpr ⟨by k_mem, List.forall_mem_cons.mpr ⟨by k_mem, fun _ h => nomatch h⟩⟩)); (case kne => k_ne); (case kl => assumption); (case kp => assumption); k_whole); intro zh' zt' ztp' ztk' zq' zx' zkp' zhq' zhx'; (have zFN' := back2 zkF zkN zkp' (by k_mem) (by k_upd)); (have zF' := zFN'.1); (have zN' := zFN'.2); clear zkp' zFN'; subst zhx'; (try k_sweep))) | (unfold Stop; k_dflt (refine' leave_newS ?k1 ?kM ?k2 News.nil ?_; (case kM => assumption); (case k1 => assumption); (case k2 => assumption); k_whole; intro zh' zR' zRK' zU'; clear zRK'; (try dsimp only at zR' zU' ⊢))) | (k_unfold; (try dsimp only)) | walk1 | (dsimp only; walk1) | (dsimp only; k_unfold; (try dsimp only))))
          · have hc := sign_eq 92 (by decide) e0
            ((with_reducible rename Fr _ _ _ _ => kF); (with_reducible rename News _ _ _ _ => kN); exact hW _ _ (w_next ⟨.dq, pre1 ++ [ch], r, _, _, _, _, _, _, _, _, _, _⟩ kF kN (all3 rfl rfl rfl) (RtP.step (n := n1) (tok := tok1) hb1 ha1 hn1 hl1 hn2 hn3 hq2 (by (try rw [str_append_length]); (try rw [str_append_length]); (try simp only [Str.length, List.size_toArray, List.length_cons, List.length_nil] at *); omega) ⟨_, rfl⟩ (fun e => nomatch e) ⟨(fun e => nomatch e), (fun e => nomatch e)⟩ (by decide) (by rw [← hr1, str_append_list]; subst hc; rfl)) (by (show r.length < (ch :: r).length); simp)))
          · have hc := sign_eq 34 (by decide) e1
            ((with_reducible rename Fr _ _ _ _ => kF); (with_reducible rename News _ _ _ _ => kN); exact hW _ _ (w_next ⟨.dq, pre1 ++ [ch], r, _, _, _, _, _, _, _, _, _, _⟩ kF kN (all3 rfl rfl rfl) (RtP.step (n := n1) (tok := tok1) hb1 ha1 hn1 hl1 hn2 hn3 hq2 (by (try rw [str_append_length]); (try rw [str_append_length]); (try simp only [Str.length, List.size_toArray, List.length_cons, List.length_nil] at *); omega) ⟨_, rfl⟩ (fun e => nomatch e) ⟨(fun e => nomatch e), (fun e => nomatch e)⟩ (by decide) (by rw [← hr1, str_append_list]; subst hc; rfl)) (by (show r.length < (ch :: r).length); simp)))
          · have hc1 := sign_neq 92 (by decide) e0
            have hc2 := sign_neq 34 (by decide) e1
            ((with_reducible rename Fr _ _ _ _ => kF); (with_reducible rename News _ _ _ _ => kN); exact hW _ _ (w_next ⟨.dq, pre1 ++ [ch], r, _, _, _, _, _, _, _, _, _, _⟩ kF kN (all3 rfl rfl rfl) (RtP.step (n := n1) (tok := tok1) hb1 ha1 hn1 hl1 hn2 hn3 hq2 (by rw [str_append_length, str_append_length]; show tok1.length + 1 + 1 ≤ _; omega) ⟨_, rfl⟩ (fun e => nomatch e) ⟨(fun e => nomatch e), (fun e => nomatch e)⟩ (by decide) (by rw [← hr1, str_append_list, str_append_list]; show rt .dq q1 (tok1.cps.toList ++ [92] ++ [ch]) r = rt .dq q1 (if (ch == 92 || ch == 34) = true then _ else _) r; rw [if_neg (by simp [hc1, hc2])]; simp)) (by (show r.length < (ch :: r).length); simp)))
      case done =>
        simp only [stV] at N2
        obtain rfl := hd1 rfl
        simp only [List.take] at hq2 hn3 F2
        have hnx : decide ((⟨[].toArray⟩ : Str).cps.toList ≠ []) = false := rfl
        (repeat' (first | (unfold Stop; (with_reducible show wpAny _ _ (call (Value.ref 569) _) _ _ _); k_dflt ((with_reducible rename Fr _ _ _ _ => zkF); (with_reducible rename News _ _ _ _ => zkN); (refine' read_spec (ar_below zkF ?kB rfl rfl) ?kX ?kT ?kR (own_of ?kB2 zkN rfl ?kO) ?kne ?kl ?kp ?_; (case kB => assumption); (case kB2 => assumption); (case kX => assumption); (case kT => assumption); (case kR => k_room); (case kO => (refine List.forall_mem_cons.mpr ⟨by k_mem, List.forall_mem_cons.mpr ⟨by k_mem, fun _ h => nomatch h⟩⟩)); (case kne => k_ne); (case kl => assumption); (case kp => assumption); k_whole); intro zh' zt' ztp' ztk' zq' zx' zkp' zhq' zhx'; (have zFN' := back2 zkF zkN zkp' (by k_mem) (by k_upd)); (have zF' := zFN'.1); (have zN' := zFN'.2); clear zkp' zFN'; subst zhx'; (try k_sweep))) | (unfold Stop; k_dflt (refine' leave_newS ?k1 ?kM ?k2 News.nil ?_; (case kM => assumption); (case k1 => assumption); (case k2 => assumption); k_whole; intro zh' zR' zRK' zU'; clear zRK'; (try dsimp only at zR' zU' ⊢))) | (k_unfold; (try dsimp only)) | walk1 | (dsimp only; walk1) | (dsimp only; k_unfold; (try dsimp only))))
        ((with_reducible rename Fr _ _ _ _ => kF); (with_reducible rename News _ _ _ _ => kN); exact hW _ _ (w_brk (RtOut.intro ⟨.done, pre1, [], q1, Str.ofString "", 0, _, _, _, _, _, _, _⟩ kF kN (all2 rfl rfl) (hr1.symm.trans rfl) (by first | exact hb1 | (rw [hb1]; simp)) (by simpa using hq2) ⟨by dsimp only; omega, by dsimp only; (try simp only [List.length_append, List.length_cons, List.length_nil] at *); omega⟩ ⟨0, rfl⟩ (by dsimp only; decide))))
end
local macro_rules | `(tactic| walk_at "ite") => `(tactic| first | refine ite_yes ?_ | refine ite_no ?_)
local macro_rules | `(tactic| walk_at "exec If") => `(tactic| (k_here; refine wpAny_If ?_))
section
-- part MDq
/-! ## a deque, empty -/
noncomputable abbrev dqObj : Obj := { cls := .type "collections.deque", data := .fields #[.none, rawInt 0] }
theorem dq_mro : mroOf (.type "collections.deque") = pure [.type "collections.deque", .type "object"] := by rw [mroOf_type]; kernel_rfl
theorem dq_new_lookup : typeLookup (.type "collections.deque") "__new__" = pure (some (.builtin "collections.deque.__new__")) := by rw [typeLookup_type, builtinLookup_eq_fast]; kernel_rfl
theorem dq_sub : isSubtype (.type "collections.deque") (.type "collections.deque") = pure true := by rw [isSubtype_type]; kernel_rfl
theorem dq_init : Slot "collections.deque" "__init__" "collections.deque.__init__" := .of (owner := "collections.deque") (n := "__init__") (by rw [typeLookup_type, builtinLookup_eq_fast]; kernel_rfl) (by decide +kernel) (by decide +kernel) (by decide +kernel)
    (by first | exact .inl (by decide +kernel) | exact .inr (by decide +kernel)) (by rw [isSubtype_type]; kernel_rfl)
theorem dq_len : Slot "collections.deque" "__len__" "collections.deque.__len__" := .of (owner := "collections.deque") (n := "__len__") (by rw [typeLookup_type, builtinLookup_eq_fast]; kernel_rfl) (by decide +kernel) (by decide +kernel) (by decide +kernel)
    (by first | exact .inl (by decide +kernel) | exact .inr (by decide +kernel)) (by rw [isSubtype_type]; kernel_rfl)
theorem dq_called : TypeCalled "collections.deque" "collections.deque.__new__" "collections.deque.__init__" :=
  ⟨by decide +kernel, by decide +kernel, ⟨_, _, dq_mro⟩, madeBy_type dq_mro dq_new_lookup (by decide +kernel), by decide +kernel, dq_sub, dq_init⟩
theorem dq_typeCall : checkTypeCall "collections.deque" ⟨[], []⟩ = pure () := by kernel_rfl
theorem dq_newCall : checkBuiltinCall "collections.deque.__new__" ⟨[.type "collections.deque"], []⟩ = pure () := by kernel_rfl
theorem dq_entry_new : entryFor table "collections.deque.__new__" = some Builtin.«collections.deque.__new__» := entryFor_of_tree (by kernel_rfl)
theorem dq_entry_init : entryFor table "collections.deque.__init__" = some Builtin.«collections.deque.__init__» := entryFor_of_tree (by kernel_rfl)
theorem dq_entry_len : entryFor table "collections.deque.__len__" = some Builtin.«collections.deque.__len__» := entryFor_of_tree (by kernel_rfl)
theorem dq_noBool : typeLookup (.type "collections.deque") "__bool__" = pure none := by rw [typeLookup_type, builtinLookup_eq_fast]; kernel_rfl
theorem dq_args_init (v : Value) : argsOk "collections.deque.__init__" ⟨[v], []⟩ := by unfold argsOk; kernel_rfl
theorem dq_args_len (v : Value) : argsOk "collections.deque.__len__" ⟨[v], []⟩ := by unfold argsOk; kernel_rfl
section
variable {prog : Program} {w : World} {A : Around} {E : Value → Shared → Prop} {s : Shared}
theorem dq_new_meets : Meets (Builtin.«collections.deque.__new__» ⟨[.type "collections.deque"], []⟩) (fun _ R s => R (.ok (.ret (.ref s.heap.objs.size))) { s with heap := s.heap.push dqObj }) := by
  refine Meets.of_wp fun prog w A R s hs => ?_
  unfold Builtin.«collections.deque.__new__» Builtin.Deque.newArgs Builtin.Deque.new
  have hsub := dq_sub
  obtain ⟨hp, g, d, tk, os⟩ := s
  dsimp only
  wp_walk
  refine wpAny_of_eq (a := true) hsub ?_
  simp only [Bool.not_true, Bool.false_eq_true, if_false]
  refine wpAny_pure ?_
  rw [if_neg (by decide), if_neg (by decide +kernel)]
  refine wpAny_bind (wpAny_bind (wpAny_pure (wpAny_newObj_type ?_ (by first | trivial | exact True.intro | (unfold sizeOk; trivial)))))
  exact wpAny_pure ⟨_, rfl, hs⟩
theorem dq_truthy {a : Addr} {Q : Bool → Shared → Prop} (ho : s.heap.get? a = some dqObj) (h : Q false { s with toks := s.toks + 1 + 1 }) : wpAny (model prog w) A (truthy (.ref a)) Q E s := by
  have hT : s.TypeIs (.ref a) "collections.deque" := ⟨_, ho, rfl⟩
  have key : wpAny (model prog w) A (runValue (.builtin "len" ⟨[.ref a], []⟩)) (fun r s' => r = .int 0 (s.toks + 1) ∧ Q false s') E s := by
    refine wpAny_runValue (codeAny_builtin entry_len ?_)
    rw [Around.under_plainId plain_len _]
    unfold Builtin.«len»
    refine wpAny_bind (m := oneArg "len" _) (wpAny_pure ?_)
    refine wpAny_bind (m := callSpecial? (.ref a) (Str.ofString "__len__")) (wpAny_callSpecial?_slot (name := Str.ofString "__len__") hT dq_len
      (wpAny_call_entry dq_len hT dq_entry_len ?_ (dq_args_len _)))
    unfold Builtin.«collections.deque.__len__» Builtin.Deque.size
    wp_walk
    refine ⟨_, rfl, ?_⟩
    refine wpAny_bind (wpAny_holding (wpAny_pure ?_))
    refine wpAny_bind (wpAny_letGo ?_)
    show wpAny _ _ (if (0 : Int) < 0 then _ else _) _ _ _
    rw [if_neg (by decide)]
    show wpAny _ _ (if (0 : Int) ≥ 2 ^ 63 then _ else _) _ _ _
    rw [if_neg (by decide)]
    exact wpAny_bind (wpAny_mkInt (wpAny_pure ⟨rfl, h⟩))
  unfold truthy
  refine wpAny_bind (wpAny_callSpecial?_none (name := Str.ofString "__bool__") hT dq_noBool ?_)
  refine wpAny_bind (wpAny_specialOf (name := Str.ofString "__len__") hT dq_len.lookup ?_)
  exact wpAny_bind (wpAny_mono key (fun r s' h' => by obtain ⟨rfl, hq⟩ := h'; exact wpAny_pure hq) fun _ _ e => e)
theorem dq_init_meets {a : Addr} : Meets (Builtin.«collections.deque.__init__» ⟨[.ref a], []⟩) (fun _ R s => s.heap.get? a = some dqObj ∧ ∀ h', h'.get? a = some dqObj → (∀ b o, s.heap.get? b = some o → h'.get? b = some o) → R (.ok (.ret .none)) { s with heap := h' }) := by
  refine Meets.of_wp fun prog w A R s hs => ?_
  obtain ⟨ho, hs⟩ := hs
  unfold Builtin.«collections.deque.__init__»
  dsimp only
  have hu : (s.heap.update a (Obj.mapFields (·.setIfInBounds 0 .none))).get? a = some dqObj := by
    rw [Heap.get?_update_self _ ho rfl]; rfl
  wp_walk
  refine ⟨_, rfl, hs _ hu fun b o e => ?_⟩
  by_cases q : a = b
  · subst q; rw [ho] at e; rw [← e]; exact hu
  · rw [Heap.get?_update_other _ _ q]; exact e
/-- deque() -/
theorem dq_call {Q : Value → Shared → Prop} (h : ∀ a h', a = s.heap.objs.size → h'.get? a = some dqObj → (∀ b o, s.heap.get? b = some o → h'.get? b = some o) → Q (.ref a) { s with heap := h' }) :
    wpAny (model prog w) A (call (.type "collections.deque") []) Q E s := by
  have hg : (s.heap.push dqObj).get? s.heap.objs.size = some dqObj := Heap.get?_push_size _ rfl
  refine callType_meets (Q₁ := fun obj s₁ => obj = .ref s.heap.objs.size ∧ s₁ = { s with heap := s.heap.push dqObj }) dq_called dq_typeCall dq_newCall dq_entry_new dq_entry_init dq_new_meets ⟨rfl, rfl⟩ ?_
  rintro obj s₁ ⟨rfl, rfl⟩
  refine ⟨⟨_, hg, rfl⟩, dq_args_init _, _, dq_init_meets, hg, fun h' h1 h2 => ⟨rfl, h _ h' rfl h1 fun b o e => h2 b o (Heap.get?_push_of_some _ e)⟩⟩
theorem dq_callN {h₀ : Heap} {L : Addr} {m : Str → Option Value} {news : Led} {Q : Value → Shared → Prop} (F : Fr h₀ L s.heap m) (N : News h₀ L s.heap news)
    (h : ∀ a h', Fr h₀ L h' m → News h₀ L h' ((a, dqObj) :: news) → (∀ p ∈ news, p.1 < a) → Q (.ref a) { s with heap := h' }) :
    wpAny (model prog w) A (call (.type "collections.deque") []) Q E s :=
  dq_call fun a h' e h1 h2 => h a h' (F.keeps h2) (news_pushed F N h2 (e ▸ h1) e) fun p hp => e ▸ Heap.lt_size (N p hp).1
end
end
section
-- part M3
local macro_rules | `(tactic| walk_at "truthy ref") => `(tactic| (k_here; k_dflt (refine' dq_truthy (News.get ?kN ?kM) ?_; (case kN => k_asm); (case kM => k_mem); k_whole)))
theorem back_ext {h₀ h h' : Heap} {L : Addr} {m : Str → Option Value} {extra own own' : Led} (F : Fr h₀ L h m) (N : News h₀ L h (extra ++ own)) (k : Kept own' h h') (ha : own'.map (·.1) = own.map (·.1)) (hx : ∀ p ∈ extra, ∀ q ∈ own', q.1 ≠ p.1) :
    Fr h₀ L h' m ∧ News h₀ L h' (extra ++ own') := by
  have ho : ∀ p ∈ own', ∃ q ∈ extra ++ own, q.1 = p.1 := by
    intro p hp
    have : p.1 ∈ own'.map (·.1) := List.mem_map_of_mem hp
    rw [ha] at this
    obtain ⟨q, hq, e⟩ := List.mem_map.mp this
    exact ⟨q, List.mem_append_right _ hq, e⟩
  refine ⟨fr_back F N k fun p hp => .inl (ho p hp), news_back F N k (fun p hp => .inl (ho p hp)) fun p hp => ?_⟩
  rcases List.mem_append.mp hp with hp | hp
  · exact .inr ⟨List.mem_append_left _ hp, hx p hp⟩
  · exact .inl hp
theorem sub_own {own : Led} {h G : Heap} {own' : Led} (S : Sub h own G) (ha : own.map (·.1) = own'.map (·.1)) : Sub h own' G :=
  ⟨fun b o e q => S.get b o e fun p hp z => by
    have : p.1 ∈ own.map (·.1) := List.mem_map_of_mem hp
    rw [ha] at this
    obtain ⟨r, hr, e'⟩ := List.mem_map.mp this
    exact q r hr (e'.trans z), S.old⟩
/-- what a call of the reader's may change, told to the caller's base -/
theorem sub_trans {h h₁ g G : Heap} {L : Addr} {m : Str → Option Value} {own own₁ : Led} (S : Sub h own g) (F : Fr g L h₁ m) (S₁ : Sub h₁ own₁ G) (ho : ∀ p ∈ own₁, g.get? p.1 = none) : ∀ b o, g.get? b = some o → G.get? b = some o :=
  fun b o e => S₁.get b o (F.keep b o e) fun p hp z => by have := ho p hp; rw [z, e] at this; cases this
theorem addrs_same {own news' : Led} (ha : own.map (·.1) = news'.map (·.1)) : ∀ p ∈ own, ∃ q ∈ news', q.1 = p.1 := by
  intro p hp
  have : p.1 ∈ own.map (·.1) := List.mem_map_of_mem hp
  rw [ha] at this
  obtain ⟨q, hq, e⟩ := List.mem_map.mp this
  exact ⟨q, hq, e⟩
noncomputable abbrev lexLed6 (P : Params) (lk : LexK) (sk : Tok × Tok × Tok × Tok × Tok) (x dx io dio pb fq : Addr) (buf : Str) (st : Value) (n : Int) (tn : Tok) (tok : Str) (tt : Tok) (p : Int) (tp : Tok) : Led :=
  (pb, dqObj) :: (fq, dqObj) :: lexLed P lk sk x dx io dio pb fq buf st n tn tok tt p tp
/-- where the reader stands between two words -/
structure LexAt (buf : Str) (st : St) (pre rest : List Nat) (sv : Value) (n p : Int) : Prop where
  buf : buf.cps.toList = pre ++ rest
  al : rest.all isAlpha = true
  hst : st = .ws ∨ (st = .done ∧ rest = [])
  hsv : ∃ t, sv = stV st t
  hn : 0 ≤ n ∧ n ≤ 1 + pre.length
  hp : p = (pre.length : Nat)
theorem gt_spec {prog : Program} {w : World} {dp un : Nat} {gd : Option (List Code)} {s : Shared} {base : Heap} {fs : List Env} {loose : List Str} {mean : ExcName → Option Value} {mg mb : Str → Option Value}
    {Q : Value → Shared → Prop} {E : Value → Shared → Prop} {x dx io dio pb fq : Nat} {lk : LexK} {sk : Tok × Tok × Tok × Tok × Tok} {buf : Str} {st : St} {sv : Value} {n : Int} {tn tt tp : Tok} {p : Int} {pre rest : List Nat}
    (B : Below (Ar dp un gd fs) base fs s.heap) (X : (fr.heap_1 w.params).In base) {vw : Program} (T : Top vw loose mean mg mb base) (hd : dp + 10 < recursionLimit)
    (O : Own base fs s.heap (lexLed6 w.params lk sk x dx io dio pb fq buf sv n tn (Str.ofString "") tt p tp)) (hne : dx < x ∧ x < dio ∧ dio < io ∧ io < pb ∧ pb < fq) (hlen : buf.length ≤ 1000000) (ha : LexAt buf st pre rest sv n p)
    (hret : ∀ (c : RtC) (v : Value) (h' : Heap) (tk' : Nat), Kept (lexLed6 w.params lk sk x dx io dio pb fq buf c.sv c.n c.tn (Str.ofString "") c.tt c.p c.tp) s.heap h' → rt st false [] rest = some (c.tok.cps.toList, c.q, c.st, c.rest) → buf.cps.toList = c.pre ++ c.rest → c.p = (c.pre.length : Nat) →
      0 ≤ c.n ∧ c.n ≤ 1 + c.pre.length → (∃ t, c.sv = stV c.st t) → c.tok.length ≤ 3000000 → (v = .none ∧ c.q = false ∧ c.tok.cps.toList = []) ∨ ((∃ t, v = .str c.tok t) ∧ ¬ (c.q = false ∧ c.tok.cps.toList = [])) → Q v { s with heap := h', toks := tk' })
    (hraise : ∀ e h' tk' G, rt st false [] rest = none → Sub s.heap (lexLed6 w.params lk sk x dx io dio pb fq buf sv n tn (Str.ofString "") tt p tp) G → RaisedSN base G fs e (.type "ValueError") [] h' → G.UpToSlots h' → E (.ref e) { s with heap := h', toks := tk' }) :
    wpAny (model prog w) (Ar dp un gd fs) (call (.ref 719) [.ref x]) Q E s := by
  obtain ⟨hb, hal, hst, ⟨tst, rfl⟩, hn0, rfl⟩ := ha
  refine wpAny_call ?_
  refine' enterO B X T O ?k6 ?k7 ?k8 ?k9 ?kB ?_ ?c5 ?c2 ?c3 ?c4
  (((case k6 => k_is); (case k7 => k_is); (case k8 => (dsimp only [Ar]; omega)); (case k9 => first | exact BindsTo.of_eq rfl | exact binds_K (Frag.In.keeps (by assumption) (Below.stays (by assumption))) rfl (by k_is) rfl rfl rfl); (case c5 => decide); (case kB => exact locs rfl); (case c2 => exact rfl); (case c3 => exact rfl); (case c4 => exact rfl)))
  intro g' L' h' hg' F' N' B' X' T' l1
  dsimp only
  k_fold
  (repeat' (first | (unfold Stop; k_dflt (refine' leave_raiseS ?k1 (Heap.MadeExc.of ?kM) ?k2 News.nil ?_; (case kM => assumption); (case k1 => assumption); (case k2 => assumption); k_whole; intro zh' zt' zR' zRK' zU'; clear zRK'; (try dsimp only at zR' zU' ⊢))) | (k_unfold; (try dsimp only)) | walk1 | (dsimp only; walk1) | (dsimp only; k_unfold; (try dsimp only))))
  unfold Stop
  (with_reducible rename Fr _ _ _ _ => kF)
  (with_reducible rename News _ _ _ _ => kN)
  refine rt_spec (ar_below kF B' rfl rfl) X T (by dsimp only [Ar]; omega) (own_of B' kN rfl (fun p hp => .tail _ (.tail _ hp))) ⟨hne.1, hne.2.1, hne.2.2.1⟩ hlen hb hal hn0 hst ?ret ?rse
  case rse =>
    intro e h2 tk2 G hno hS R U
    k_unfold
    refine leave_onSN B' (fr_sub kF kN hS (fun p hp => ⟨p, .tail _ (.tail _ hp), rfl⟩)) R U fun h3 R3 _ U3 => ?_
    dsimp only
    exact hraise _ _ _ _ hno hg' R3 U3
  case ret =>
    intro c v h2 tk2 kp hrt hb2 hp2 hn2 hs2 hl2 hv
    obtain ⟨F2, N2⟩ := back_ext (extra := [(pb, dqObj), (fq, dqObj)]) kF kN kp rfl (by
      intro p hp q hq
      simp only [List.mem_cons, List.not_mem_nil, or_false] at hp hq
      rcases hp with rfl | rfl <;> rcases hq with rfl | rfl | rfl | rfl <;> refine neN ?_ <;> dsimp only <;> omega)
    simp only [List.cons_append, List.nil_append] at N2
    clear kF kN kp
    rcases hv with ⟨rfl, hq0, ht0⟩ | ⟨⟨t, rfl⟩, hv⟩
    · (repeat' (first | (unfold Stop; k_dflt (refine' leave_raiseS ?k1 (Heap.MadeExc.of ?kM) ?k2 News.nil ?_; (case kM => assumption); (case k1 => assumption); (case k2 => assumption); k_whole; intro zh' zt' zR' zRK' zU'; clear zRK'; (try dsimp only at zR' zU' ⊢))) | (k_unfold; (try dsimp only)) | walk1 | (dsimp only; walk1) | (dsimp only; k_unfold; (try dsimp only))))
      exact hret c _ _ _ (kept_all hg' (by k_asm) (by k_asm) (addrs_same rfl)) hrt hb2 hp2 hn2 hs2 hl2 (.inl ⟨rfl, hq0, ht0⟩)
    · (repeat' (first | (unfold Stop; k_dflt (refine' leave_raiseS ?k1 (Heap.MadeExc.of ?kM) ?k2 News.nil ?_; (case kM => assumption); (case k1 => assumption); (case k2 => assumption); k_whole; intro zh' zt' zR' zRK' zU'; clear zRK'; (try dsimp only at zR' zU' ⊢))) | (k_unfold; (try dsimp only)) | walk1 | (dsimp only; walk1) | (dsimp only; k_unfold; (try dsimp only))))
      exact hret c _ _ _ (kept_all hg' (by k_asm) (by k_asm) (addrs_same rfl)) hrt hb2 hp2 hn2 hs2 hl2 (.inr ⟨⟨_, rfl⟩, hv⟩)
theorem raisedSN_of {base G : Heap} {l : List Env} {e t : Addr} {cls : Value} {vs : List Value} {news : Led} {h : Heap} (R : RaisedS base G l e cls t vs news h) : RaisedSN base G l e cls news h := by
  obtain ⟨⟨B, hB, hBG, hl, hfl, hnew⟩, htup⟩ := R
  exact ⟨B, _, hB, hBG, hl, hfl⟩
local macro_rules | `(tactic| walk_at "leaving ref") => `(tactic| (k_here; refine cut_any ?_))
theorem nx_spec {prog : Program} {w : World} {dp un : Nat} {gd : Option (List Code)} {s : Shared} {base : Heap} {fs : List Env} {loose : List Str} {mean : ExcName → Option Value} {mg mb : Str → Option Value}
    {Q : Value → Shared → Prop} {E : Value → Shared → Prop} {x dx io dio pb fq : Nat} {lk : LexK} {sk : Tok × Tok × Tok × Tok × Tok} {buf : Str} {st : St} {sv : Value} {n : Int} {tn tt tp : Tok} {p : Int} {pre rest : List Nat}
    (B : Below (Ar dp un gd fs) base fs s.heap) (X : (fr.heap_1 w.params).In base) {vw : Program} (T : Top vw loose mean mg mb base) (hd : dp + 12 < recursionLimit)
    (O : Own base fs s.heap (lexLed6 w.params lk sk x dx io dio pb fq buf sv n tn (Str.ofString "") tt p tp)) (hne : dx < x ∧ x < dio ∧ dio < io ∧ io < pb ∧ pb < fq) (hlen : buf.length ≤ 1000000) (ha : LexAt buf st pre rest sv n p)
    (hret : ∀ (c : RtC) (t : Tok) (h' : Heap) (tk' : Nat), Kept (lexLed6 w.params lk sk x dx io dio pb fq buf c.sv c.n c.tn (Str.ofString "") c.tt c.p c.tp) s.heap h' → rt st false [] rest = some (c.tok.cps.toList, c.q, c.st, c.rest) → buf.cps.toList = c.pre ++ c.rest → c.p = (c.pre.length : Nat) →
      0 ≤ c.n ∧ c.n ≤ 1 + c.pre.length → (∃ t, c.sv = stV c.st t) → ¬ (c.q = false ∧ c.tok.cps.toList = []) → Q (.str c.tok t) { s with heap := h', toks := tk' })
    (hstop : ∀ e h' tk' G, (∃ st' r', rt st false [] rest = some ([], false, st', r')) → Sub s.heap (lexLed6 w.params lk sk x dx io dio pb fq buf sv n tn (Str.ofString "") tt p tp) G → RaisedSN base G fs e (.type "StopIteration") [] h' → G.UpToSlots h' → E (.ref e) { s with heap := h', toks := tk' })
    (hraise : ∀ e h' tk' G, rt st false [] rest = none → Sub s.heap (lexLed6 w.params lk sk x dx io dio pb fq buf sv n tn (Str.ofString "") tt p tp) G → RaisedSN base G fs e (.type "ValueError") [] h' → G.UpToSlots h' → E (.ref e) { s with heap := h', toks := tk' }) :
    wpAny (model prog w) (Ar dp un gd fs) (call (.ref 755) [.ref x]) Q E s := by
  refine wpAny_call ?_
  refine' enterO B X T O ?k6 ?k7 ?k8 ?k9 ?kB ?_ ?c5 ?c2 ?c3 ?c4
  (((case k6 => k_is); (case k7 => k_is); (case k8 => (dsimp only [Ar]; omega)); (case k9 => first | exact BindsTo.of_eq rfl | exact binds_K (Frag.In.keeps (by assumption) (Below.stays (by assumption))) rfl (by k_is) rfl rfl rfl); (case c5 => decide); (case kB => exact locs rfl); (case c2 => exact rfl); (case c3 => exact rfl); (case c4 => exact rfl)))
  intro g' L' h' hg' F' N' B' X' T' l1
  dsimp only
  k_fold
  (repeat' (first | (unfold Stop; k_dflt (refine' leave_raiseS ?k1 (Heap.MadeExc.of ?kM) ?k2 News.nil ?_; (case kM => assumption); (case k1 => assumption); (case k2 => assumption); k_whole; intro zh' zt' zR' zRK' zU'; clear zRK'; (try dsimp only at zR' zU' ⊢))) | (k_unfold; (try dsimp only)) | walk1 | (dsimp only; walk1) | (dsimp only; k_unfold; (try dsimp only))))
  unfold Stop
  (with_reducible rename Fr _ _ _ _ => kF)
  (with_reducible rename News _ _ _ _ => kN)
  refine gt_spec (ar_below kF B' rfl rfl) X T (by dsimp only [Ar]; omega) (own_of B' kN rfl (fun p hp => hp)) hne hlen ha ?ret ?rse
  case rse =>
    intro e h2 tk2 G hno hS R U
    k_unfold
    refine leave_onSN B' (fr_sub kF kN hS (fun p hp => ⟨p, hp, rfl⟩)) R U fun h3 R3 _ U3 => ?_
    dsimp only
    exact hraise _ _ _ _ hno hg' R3 U3
  case ret =>
    intro c v h2 tk2 kp hrt hb2 hp2 hn2 hs2 hl2 hv
    obtain ⟨F2, N2⟩ := back_all kF kN kp (addrs_same rfl)
    clear kF kN kp
    rcases hv with ⟨rfl, hq0, ht0⟩ | ⟨⟨t, rfl⟩, hv⟩
    · (repeat' (first | (unfold Stop; k_dflt (refine' leave_raiseS ?k1 (Heap.MadeExc.of ?kM) ?k2 News.nil ?_; (case kM => assumption); (case k1 => assumption); (case k2 => assumption); k_whole; intro zh' zt' zR' zRK' zU'; clear zRK'; (try dsimp only at zR' zU' ⊢))) | (k_unfold; (try dsimp only)) | walk1 | (dsimp only; walk1) | (dsimp only; k_unfold; (try dsimp only))))
      rw [hq0, ht0] at hrt
      exact hstop _ _ _ _ ⟨_, _, hrt⟩ hg' (raisedSN_of (by assumption)) (by assumption)
    · (repeat' (first | (unfold Stop; k_dflt (refine' leave_raiseS ?k1 (Heap.MadeExc.of ?kM) ?k2 News.nil ?_; (case kM => assumption); (case k1 => assumption); (case k2 => assumption); k_whole; intro zh' zt' zR' zRK' zU'; clear zRK'; (try dsimp only at zR' zU' ⊢))) | (k_unfold; (try dsimp only)) | walk1 | (dsimp only; walk1) | (dsimp only; k_unfold; (try dsimp only))))
      exact hret c _ _ _ (kept_all hg' (by k_asm) (by k_asm) (addrs_same rfl)) hrt hb2 hp2 hn2 hs2 hv
end
section
-- part M4
theorem LexAt.dn {buf : Str} {st : St} {pre rest : List Nat} {sv : Value} {n p : Int} (h : LexAt buf st pre rest sv n p) (e : st = .done) : rest = [] := by
  rcases h.hst with z | ⟨_, z⟩
  · rw [z] at e; cases e
  · exact z
/-! ## all the words -/
inductive Wds : St → List Nat → Option (List Str) → Prop
  | stop {st rest st' r'} : rt st false [] rest = some ([], false, st', r') → Wds st rest (some [])
  | err {st rest} : rt st false [] rest = none → Wds st rest none
  | word {st rest tok q st' r' R} : rt st false [] rest = some (tok, q, st', r') → ¬ (q = false ∧ tok = []) → Wds st' r' R → Wds st rest (R.map (⟨tok.toArray⟩ :: ·))
theorem rt_end : ∀ (rest : List Nat) (st : St) (q : Bool) (tok : List Nat) {tok' q' st' r'}, (st = .done → rest = []) → rt st q tok rest = some (tok', q', st', r') → (st' = .ws ∨ (st' = .done ∧ r' = [])) ∧ r'.length ≤ rest.length - 1
  | [], st, q, tok, tok', q', st', r', _, h => by
    cases st <;> simp only [rt, List.drop_nil, Option.some.injEq, Prod.mk.injEq, reduceCtorEq] at h <;> obtain ⟨_, _, rfl, rfl⟩ := h <;> exact ⟨.inr ⟨rfl, rfl⟩, Nat.le_refl _⟩
  | c :: r, st, q, tok, tok', q', st', r', hd, h => by
    have ih : ∀ st q tok, st ≠ .done → rt st q tok r = some (tok', q', st', r') → (st' = .ws ∨ (st' = .done ∧ r' = [])) ∧ r'.length ≤ (c :: r).length - 1 := fun st q tok h1 h2 => by
      have z := rt_end r st q tok (tok' := tok') (q' := q') (st' := st') (r' := r') (fun e => absurd e h1) h2
      exact ⟨z.1, by simp only [List.length_cons]; omega⟩
    have here : some (tok, q, St.ws, r) = some (tok', q', st', r') → (st' = .ws ∨ (st' = .done ∧ r' = [])) ∧ r'.length ≤ (c :: r).length - 1 := fun h => by
      simp only [Option.some.injEq, Prod.mk.injEq] at h
      obtain ⟨_, _, rfl, rfl⟩ := h
      exact ⟨.inl rfl, by simp⟩
    cases st with
    | done => exact absurd (hd rfl) (by simp)
    | ws => simp only [rt] at h; (repeat' split at h) <;> first | exact here h | exact ih _ _ _ (by decide) h
    | word => simp only [rt] at h; (repeat' split at h) <;> first | exact here h | exact ih _ _ _ (by decide) h
    | sq => simp only [rt] at h; (repeat' split at h) <;> exact ih _ _ _ (by decide) h
    | dq => simp only [rt] at h; (repeat' split at h) <;> exact ih _ _ _ (by decide) h
    | esc => simp only [rt] at h; exact ih _ _ _ (by decide) h
    | escq => simp only [rt] at h; exact ih _ _ _ (by decide) h
theorem rt_nil {st : St} {tok' q' st' r'} (h : rt st false [] [] = some (tok', q', st', r')) : tok' = [] ∧ q' = false := by
  cases st <;> simp only [rt, List.drop_nil, Option.some.injEq, Prod.mk.injEq, reduceCtorEq] at h <;> exact ⟨h.1.symm, h.2.1.symm⟩
section
variable {prog : Program} {w : World} {A : Around} {E : Value → Shared → Prop} {s : Shared} {K : Frag} {x C f : Addr} {ox : Obj} {od : Option Obj}
theorem next_own {M : Model} {Q : Option Value → Shared → Prop} (X : K.In s.heap) (I : InstAt s.heap x ox C od) (hs : findIn K (.ref C) "__next__" = some (some (.ref f))) (hf : isFn K (.ref f) = true)
    (h : wpAny M A (call (.ref f) [.ref x]) (fun v s' => Q (some v) s') (OwitStop M A Q E) s) : wpAny M A (pyNext (.ref x)) Q E s := by
  unfold pyNext
  refine wpAny_bind (wpAny_attempt (special_fn (name := "__next__") (args := []) X I hs (beq_iff_eq.mp hf) (wpAny_mono h (fun v s' hq => ?_) (fun e s' he => ?_))))
  · exact wpAny_pure hq
  · refine wpAny_bind (wpAny_mono he (fun b s₂ hb => ?_) fun _ _ z => z)
    cases b with
    | true => exact wpAny_pure hb
    | false => exact wpAny_throw hb
theorem nsl_stop : isSubtype (.type "StopIteration") (.type "StopIteration") = pure true := by rw [isSubtype_type]; kernel_rfl
theorem nsl_val : isSubtype (.type "ValueError") (.type "StopIteration") = pure false := by rw [isSubtype_type]; kernel_rfl
end
noncomputable abbrev lstO (items : Array Value) (c : Nat) : Obj := { cls := .type "list", dict := none, data := .seq items c, slots := #[] }
theorem raised_there {base G h' : Heap} {l : List Env} {e : Addr} {cls : Value} (R : RaisedSN base G l e cls [] h') : ∃ ob, h'.get? e = some ob ∧ ob.cls = cls := by
  obtain ⟨B, a0, hB, hBG, hl, hfl⟩ := R
  exact hfl.there
set_option maxHeartbeats 4000000 in
theorem loop_lex {prog : Program} {w : World} {dp un : Nat} {gd : Option (List Code)} {s₀ : Shared} {A₀ : Around} {base g : Heap} {outer : List Env} {loose : List Str} {mean : ExcName → Option Value} {mg mb : Str → Option Value}
    {name : Str} {scope : Scope} {a : Addr} {cd : Value} {L : Addr} {S : Nat} {m : Str → Option Value}
    {Rr : Result → Shared → Prop} {x dx io dio pb fq : Nat} {lk : LexK} {sk : Tok × Tok × Tok × Tok × Tok} {buf : Str}
    (B : Below A₀ base outer g) (X : (fr.heap_1 w.params).In base) {vw : Program} (T : Top vw loose mean mg mb base) (hd : dp + 14 < recursionLimit) (hk : scope.kind = .function)
    (hne : dx < x ∧ x < dio ∧ dio < io ∧ io < pb ∧ pb < fq ∧ fq < S) (hlen : buf.length ≤ 1000000) (hall : buf.cps.toList.all isAlpha = true) {st : St} {rest : List Nat} {R : Option (List Str)} (hW : Wds st rest R) :
    ∀ {pre : List Nat} {sv : Value} {n p : Int} {tn tt tp : Tok} {h : Heap} {tk : Nat} {acc : List Value} {ws : List Str} {c : Nat}, LexAt buf st pre rest sv n p → Fr g L h m → News g L h ((S, lstO acc.toArray c) :: lexLed6 w.params lk sk x dx io dio pb fq buf sv n tn (Str.ofString "") tt p tp) → StrsAre acc ws → acc.length + rest.length ≤ 1000000 →
      (∀ g' h' tk' items c' rs, R = some rs → StrsAre items (ws ++ rs) → KtsTurn (outer.filterMap (·.frame)) g g' → Fr g' L h' m → Below A₀ base outer g' → News g' L h' [(S, lstO items.toArray c')] → Rr (.ok (.ret .none)) { s₀ with heap := h', toks := tk' }) →
      (∀ e h' tk' G, R = none → Fr g L G m → RaisedSN base G (envOf name scope L a cd :: outer) e (.type "ValueError") [] h' → G.UpToSlots h' → Rr (.error (.ref e)) { s₀ with heap := h', toks := tk' }) →
      codeAny (model prog w) (Ar dp un gd (envOf name scope L a cd :: outer)) (.builtin "list.extend.loop" ⟨[.ref S, .ref x, .none], []⟩) Rr { s₀ with heap := h, toks := tk } := by
  have hnx : findIn (Mine.fr.heap_1 w.params) (.ref 758) "__next__" = some (some (.ref 755)) := by k_is
  have hnf : isFn (Mine.fr.heap_1 w.params) (.ref 755) = true := by k_is
  have key : ∀ {st : St} {rest pre : List Nat} {sv : Value} {n p : Int} {tn tt tp : Tok} {h : Heap} {tk : Nat} {acc : List Value} {c : Nat}, LexAt buf st pre rest sv n p → Fr g L h m → News g L h ((S, lstO acc.toArray c) :: lexLed6 w.params lk sk x dx io dio pb fq buf sv n tn (Str.ofString "") tt p tp) →
      (∀ (c' : RtC) (t : Tok) (h' : Heap) (tk' : Nat), Fr g L h' m → News g L h' ((S, lstO acc.toArray c) :: lexLed6 w.params lk sk x dx io dio pb fq buf c'.sv c'.n c'.tn (Str.ofString "") c'.tt c'.p c'.tp) → rt st false [] rest = some (c'.tok.cps.toList, c'.q, c'.st, c'.rest) → LexAt buf c'.st c'.pre c'.rest c'.sv c'.n c'.p → ¬ (c'.q = false ∧ c'.tok.cps.toList = []) →
        wpAny (model prog w) (Ar dp (un + 1) gd (envOf name scope L a cd :: outer)) (updateSeq S (·.push (.str c'.tok t)) >>= fun _ => again (.builtin "list.extend.loop" ⟨[.ref S, .ref x, .none], []⟩)) (fun fin s' => match fin with | .done f => Rr (.ok f) s' | .again c' => c'.quiet = true ∧ codeAny (model prog w) (Ar dp un gd (envOf name scope L a cd :: outer)) c' Rr s') (fun e s' => Rr (.error e) s') { s₀ with heap := h', toks := tk' }) →
      (∀ g' h' tk', (∃ st' r', rt st false [] rest = some ([], false, st', r')) → KtsTurn (outer.filterMap (·.frame)) g g' → Fr g' L h' m → Below A₀ base outer g' → News g' L h' [(S, lstO acc.toArray c)] → Rr (.ok (.ret .none)) { s₀ with heap := h', toks := tk' }) →
      (∀ e h' tk' G, rt st false [] rest = none → Fr g L G m → RaisedSN base G (envOf name scope L a cd :: outer) e (.type "ValueError") [] h' → G.UpToSlots h' → Rr (.error (.ref e)) { s₀ with heap := h', toks := tk' }) →
      codeAny (model prog w) (Ar dp un gd (envOf name scope L a cd :: outer)) (.builtin "list.extend.loop" ⟨[.ref S, .ref x, .none], []⟩) Rr { s₀ with heap := h, toks := tk } := by
    intro st rest pre sv n p tn tt tp h tk acc c hat F N hw hs hr
    refine codeAny_builtin PySem.F.entry_extend_loop ?_
    rw [Around.under_plainId PySem.F.plain_extend_loop _]
    show wpAny _ (Ar dp (un + 1) gd (envOf name scope L a cd :: outer)) (pyNext (.ref x) >>= _) _ _ _
    have XS : (Mine.fr.heap_1 w.params).In h := (X.keeps B.stays).keeps F.keep
    have I := InstAt.of_news (x := x) (C := 758) (dx := dx) N (.tail _ (.tail _ (.tail _ (.head _)))) (.tail _ (.tail _ (.tail _ (.tail _ (.head _)))))
    refine wpAny_bind (next_own XS I hnx hnf ?_)
    have own : Own base (envOf name scope L a cd :: outer) h (lexLed6 w.params lk sk x dx io dio pb fq buf sv n tn (Str.ofString "") tt p tp) := own_of B N rfl (fun p hp => .tail _ hp)
    refine nx_spec (s := { s₀ with heap := h, toks := tk }) (ar_below F B rfl hk) X T (by omega) own ⟨hne.1, hne.2.1, hne.2.2.1, hne.2.2.2.1, hne.2.2.2.2.1⟩ hlen hat ?r ?t ?v
    case r =>
      intro c' t h2 tk2 kp hrt hb2 hp2 hn2 hs2 hno
      obtain ⟨F2, N2⟩ := back_ext (extra := [(S, lstO acc.toArray c)]) F N kp rfl (by
        intro p hp q hq
        simp only [List.mem_cons, List.not_mem_nil, or_false] at hp hq
        subst hp
        rcases hq with rfl | rfl | rfl | rfl | rfl | rfl <;> refine neN ?_ <;> dsimp only <;> omega)
      have e := rt_end rest st false [] hat.dn hrt
      exact hw c' t h2 tk2 F2 N2 hrt ⟨hb2, by rw [hb2, List.all_append, Bool.and_eq_true] at hall; exact hall.2, e.1, hs2, hn2, hp2⟩ hno
    case t =>
      intro e h2 tk2 G hex hS R U
      have FG : Fr g L G m := fr_sub F N hS (fun p hp => ⟨p, .tail _ hp, rfl⟩)
      obtain ⟨ob, hob, hoc⟩ := raised_there R
      unfold OwitStop
      refine wpAny_isInstance (show Shared.TypeIs _ (.ref e) "StopIteration" from ⟨ob, hob, hoc⟩) nsl_stop ?_
      show (if true = true then _ else _)
      rw [if_pos rfl]
      refine wpAny_pure ?_
      obtain ⟨B', a0, hB, hBG, hl, hfl⟩ := R
      obtain ⟨g', KT, F', B''⟩ := kts_ground B FG hBG hfl.1 U
      have nS := N (S, lstO acc.toArray c) (.head _)
      refine hs g' h2 tk2 hex KT F' B'' fun q hq => ?_
      rw [List.mem_singleton] at hq
      subst hq
      refine ⟨hfl.1 _ _ (hBG _ _ (hS.get _ _ nS.1 fun p hp => ?_) fun hm => ?_), nS.2.1, KT.none_ _ nS.2.2⟩
      · simp only [List.mem_cons, List.not_mem_nil, or_false] at hp
        rcases hp with rfl | rfl | rfl | rfl | rfl | rfl <;> refine neN ?_ <;> dsimp only <;> omega
      · rcases kts_mem hm with z | z
        · exact nS.2.1 z
        · obtain ⟨_, o, ho, _⟩ := B.frames.mem z
          rw [nS.2.2] at ho; cases ho
    case v =>
      intro e h2 tk2 G hno hS R U
      have FG : Fr g L G m := fr_sub F N hS (fun p hp => ⟨p, .tail _ hp, rfl⟩)
      obtain ⟨ob, hob, hoc⟩ := raised_there R
      unfold OwitStop
      refine wpAny_isInstance (show Shared.TypeIs _ (.ref e) "ValueError" from ⟨ob, hob, hoc⟩) nsl_val ?_
      show (if false = true then _ else _)
      rw [if_neg Bool.false_ne_true]
      exact hr e h2 tk2 G hno FG R U
  induction hW with
  | stop hr =>
    intro pre sv n p tn tt tp h tk acc ws c hat F N hacc hal hret hraise
    refine key hat F N (fun c' t h' tk' F' N' hrt _ hno => ?_) (fun g' h' tk' _ KT F' B' N' => hret g' h' tk' acc c [] rfl (by rw [List.append_nil]; exact hacc) KT F' B' N') (fun e h' tk' G hno => ?_)
    · rw [hr] at hrt
      simp only [Option.some.injEq, Prod.mk.injEq] at hrt
      exact absurd ⟨hrt.2.1.symm, hrt.1.symm⟩ hno
    · rw [hr] at hno; cases hno
  | err hr =>
    intro pre sv n p tn tt tp h tk acc ws c hat F N hacc hal hret hraise
    refine key hat F N (fun c' t h' tk' F' N' hrt _ hno => ?_) (fun g' h' tk' hex => ?_) (fun e h' tk' G _ => hraise e h' tk' G rfl)
    · rw [hr] at hrt; cases hrt
    · obtain ⟨_, _, z⟩ := hex; rw [hr] at z; cases z
  | @word st rest tok q st' r' R hr hn _ ih =>
    intro pre sv n p tn tt tp h tk acc ws c hat F N hacc hal hret hraise
    refine key hat F N (fun c' t h' tk' F' N' hrt hat' hno => ?_) (fun g' h' tk' hex => ?_) (fun e h' tk' G hno => ?_)
    · rw [hr] at hrt
      simp only [Option.some.injEq, Prod.mk.injEq] at hrt
      obtain ⟨e1, e2, e3, e4⟩ := hrt
      have htok : (⟨tok.toArray⟩ : Str) = c'.tok := by rw [e1]
      subst e3 e4
      have nS := (N' _ (.head _)).1
      have hlt : c'.rest.length + 1 ≤ rest.length := by
        have z := (rt_end rest st false [] hat.dn hr).2
        cases rest with
        | nil => have := rt_nil hr; exact absurd ⟨this.2, this.1⟩ hn
        | cons a r => simp only [List.length_cons] at z ⊢; omega
      obtain ⟨F2, N2⟩ := news_upd (f := Obj.mapSeq (·.push (.str c'.tok t))) (pre := []) (o' := lstO (acc ++ [Value.str c'.tok t]).toArray (if ((acc.toArray.push (Value.str c'.tok t)).size == acc.toArray.size) = true then c else c + 1)) F' N' (fun _ h => nomatch h) (by
        intro q hq
        simp only [List.mem_cons, List.not_mem_nil, or_false] at hq
        rcases hq with rfl | rfl | rfl | rfl | rfl | rfl <;> refine neN ?_ <;> dsimp only <;> omega) (by rw [← List.push_toArray]; rfl) rfl
      refine wpAny_bind (wpAny_updateSeq nS rfl (wpAny_pure ⟨plainId_quiet PySem.F.plain_extend_loop _, ?_⟩) ?_ ?_)
      · refine ih (acc := acc ++ [Value.str c'.tok t]) (ws := ws ++ [c'.tok]) (c := _) hat' F2 N2 (StrsAre.append' hacc (.cons _ _ .nil)) (by simp only [List.length_append, List.length_cons, List.length_nil]; omega) ?_ ?_
        · intro g' h3 tk3 items c3 rs hR hi KT F3 B3 N3
          refine hret g' h3 tk3 items c3 (c'.tok :: rs) (by rw [hR, htok]; rfl) (by simpa using hi) KT F3 B3 N3
        · intro e h3 tk3 G hR
          exact hraise e h3 tk3 G (by rw [hR]; rfl)
      · simp only [List.size_toArray]; rw [sizeLine_eq]; omega
      · simp only [Array.size_push, List.size_toArray]; rw [sizeLine_eq]; omega
    · obtain ⟨_, _, z⟩ := hex
      rw [hr] at z
      simp only [Option.some.injEq, Prod.mk.injEq] at z
      exact absurd ⟨z.2.1, z.1⟩ hn
    · rw [hr] at hno; cases hno
end
section
-- part M5
set_option maxHeartbeats 4000000 in
theorem iter_spec {prog : Program} {w : World} {dp un : Nat} {gd : Option (List Code)} {s : Shared} {base : Heap} {fs : List Env} {loose : List Str} {mean : ExcName → Option Value} {mg mb : Str → Option Value}
    {Q : Value → Shared → Prop} {E : Value → Shared → Prop} {x : Addr}
    (B : Below (Ar dp un gd fs) base fs s.heap) (X : (fr.heap_1 w.params).In base) {vw : Program} (T : Top vw loose mean mg mb base) (hd : dp + 3 < recursionLimit)
    (hret : ∀ h' tk', Kept [] s.heap h' → Q (.ref x) { s with heap := h', toks := tk' }) :
    wpAny (model prog w) (Ar dp un gd fs) (call (.ref 748) [.ref x]) Q E s := by
  refine wpAny_call ?_
  refine' enterO (own := []) B X T (fun _ h => nomatch h) ?k6 ?k7 ?k8 ?k9 ?kB ?_ ?c5 ?c2 ?c3 ?c4
  (((case k6 => k_is); (case k7 => k_is); (case k8 => (dsimp only [Ar]; omega)); (case k9 => first | exact BindsTo.of_eq rfl | exact binds_K (Frag.In.keeps (by assumption) (Below.stays (by assumption))) rfl (by k_is) rfl rfl rfl); (case c5 => decide); (case kB => exact locs rfl); (case c2 => exact rfl); (case c3 => exact rfl); (case c4 => exact rfl)))
  intro g' L' h' hg' F' N' B' X' T' l1
  dsimp only
  k_fold
  (repeat' (first | (k_unfold; (try dsimp only)) | walk1 | (dsimp only; walk1) | (dsimp only; k_unfold; (try dsimp only))))
  exact hret _ _ (kept_all hg' (by k_asm) (by k_asm) (fun _ h => nomatch h))
set_option maxHeartbeats 4000000 in
theorem list_lex {prog : Program} {w : World} {dp un : Nat} {gd : Option (List Code)} {s : Shared} {A₀ : Around} {base g : Heap} {outer : List Env} {loose : List Str} {mean : ExcName → Option Value} {mg mb : Str → Option Value}
    {name : Str} {scope : Scope} {a : Addr} {cd : Value} {L : Addr} {m : Str → Option Value}
    {Q : Value → Shared → Prop} {E : Value → Shared → Prop} {x dx io dio pb fq : Nat} {lk : LexK} {sk : Tok × Tok × Tok × Tok × Tok} {buf : Str} {sv : Value} {n p : Int} {tn tt tp : Tok} {R : Option (List Str)}
    (B : Below A₀ base outer g) (X : (fr.heap_1 w.params).In base) {vw : Program} (T : Top vw loose mean mg mb base) (hd : dp + 16 < recursionLimit) (hk : scope.kind = .function)
    (hne : dx < x ∧ x < dio ∧ dio < io ∧ io < pb ∧ pb < fq) (hlen : buf.length ≤ 1000000) (hall : buf.cps.toList.all isAlpha = true) (hW : Wds .ws buf.cps.toList R)
    (hat : LexAt buf .ws [] buf.cps.toList sv n p) (F : Fr g L s.heap m) (N : News g L s.heap (lexLed6 w.params lk sk x dx io dio pb fq buf sv n tn (Str.ofString "") tt p tp))
    (hret : ∀ g' h' tk' S items c' rs, R = some rs → StrsAre items rs → KtsTurn (outer.filterMap (·.frame)) g g' → Fr g' L h' m → Below A₀ base outer g' → News g' L h' [(S, lstO items.toArray c')] → Q (.ref S) { s with heap := h', toks := tk' })
    (hraise : ∀ e h' tk' G, R = none → Fr g L G m → RaisedSN base G (envOf name scope L a cd :: outer) e (.type "ValueError") [] h' → G.UpToSlots h' → E (.ref e) { s with heap := h', toks := tk' }) :
    wpAny (model prog w) (Ar dp un gd (envOf name scope L a cd :: outer)) (call (.type "list") [.ref x]) Q E s := by
  have hit : findIn (Mine.fr.heap_1 w.params) (.ref 758) "__iter__" = some (some (.ref 748)) := by k_is
  have hif : isFn (Mine.fr.heap_1 w.params) (.ref 748) = true := by k_is
  have hnx : findIn (Mine.fr.heap_1 w.params) (.ref 758) "__next__" = some (some (.ref 755)) := by k_is
  have hln : findIn (Mine.fr.heap_1 w.params) (.ref 758) "__len__" = some none := by k_is
  have hlh : findIn (Mine.fr.heap_1 w.params) (.ref 758) "__length_hint__" = some none := by k_is
  have hltS : fq < s.heap.objs.size := Heap.lt_size (N _ (.tail _ (.head _))).1
  refine callType_codes (Q₁ := fun obj s₁ => obj = .ref s.heap.objs.size ∧ s₁ = { s with heap := s.heap.push { cls := .type "list", data := .seq #[] } }) PySem.F.called_list (PySem.F.typeCall_list_1 _) PySem.F.entry_list_init
    (code_list_new _ ⟨rfl, rfl⟩) fun obj s₁ h₁ => ?_
  obtain ⟨rfl, rfl⟩ := h₁
  have hS : (s.heap.push { cls := .type "list", data := .seq #[] }).get? s.heap.objs.size = some { cls := .type "list", data := .seq #[] } := Heap.get?_push_size _ rfl
  refine ⟨⟨_, hS, rfl⟩, PySem.F.args_list_init_2 _ _, ?_⟩
  have F1 := F.push { cls := .type "list", data := .seq #[] }
  have N1 := N.push F { cls := .type "list", data := .seq #[] }
  show wpAny _ (Ar dp (un + 2) gd (envOf name scope L a cd :: outer)) (do let old ← Builtin.List.listItems (.ref s.heap.objs.size); Builtin.List.listUpdate (.ref s.heap.objs.size) (fun _ => #[]); letGo old.toList.reverse; Builtin.List.listExtendWith (.ref s.heap.objs.size) (.ref x) .none) _ _ _
  refine wpAny_bind ?_
  unfold Builtin.List.listItems
  refine wpAny_bind (wpAny_seqItems hS rfl (wpAny_pure ?_))
  show wpAny _ _ (updateSeq s.heap.objs.size (fun _ => #[]) >>= fun _ => letGo (#[] : Array Value).toList.reverse >>= fun _ => Builtin.List.listExtendWith (.ref s.heap.objs.size) (.ref x) .none) _ _ _
  refine wpAny_bind (wpAny_updateSeq hS rfl ?_)
  have offS : ∀ q ∈ lexLed6 w.params lk sk x dx io dio pb fq buf sv n tn (Str.ofString "") tt p tp, q.1 ≠ s.heap.objs.size := fun q hq => Nat.ne_of_lt (Heap.lt_size (N q hq).1)
  obtain ⟨F2, N2⟩ := news_upd (f := Obj.mapSeq (fun _ => (#[] : Array Value))) (pre := []) (o' := lstO ([] : List Value).toArray 0) F1 N1 (fun _ h => nomatch h) offS rfl rfl
  refine wpAny_bind (wpAny_letGo ?_)
  unfold Builtin.List.listExtendWith
  have XS : (Mine.fr.heap_1 w.params).In ((s.heap.push { cls := .type "list", data := .seq #[] }).update s.heap.objs.size (Obj.mapSeq fun _ => #[])) := (X.keeps B.stays).keeps F2.keep
  have I := InstAt.of_news (x := x) (C := 758) (dx := dx) N2 (.tail _ (.tail _ (.tail _ (.head _)))) (.tail _ (.tail _ (.tail _ (.tail _ (.head _)))))
  refine wpAny_bind (I.type.here ?_)
  have h1 : Builtin.List.listSameRef (.ref s.heap.objs.size) (.ref x) = false := by
    have : s.heap.objs.size ≠ x := Nat.ne_of_gt (Heap.lt_size (N _ (.tail _ (.tail _ (.head _)))).1)
    simp [Builtin.List.listSameRef, this]
  have h2 : (Value.ref 758 == Value.type "list") = false := by decide
  have h3 : (Value.ref 758 == Value.type "tuple") = false := by decide
  simp only [h1, h2, h3, Bool.or_false, Bool.false_eq_true, if_false]
  refine wpAny_bind (owit_iter F2 (X.keeps B.stays) I hit hif ?_)
  refine iter_spec (ar_below F2 B rfl hk) X T (by omega) fun h5 tk5 kp => ?_
  obtain ⟨F5, N5⟩ : Fr g L h5 m ∧ News g L h5 (([] : Led) ++ (s.heap.objs.size, lstO ([] : List Value).toArray 0) :: lexLed6 w.params lk sk x dx io dio pb fq buf sv n tn (Str.ofString "") tt p tp) :=
    ⟨fr_back F2 N2 kp (fun _ h => nomatch h), news_back F2 N2 kp (fun _ h => nomatch h) (fun p hp => .inr ⟨hp, fun _ h => nomatch h⟩)⟩
  have XS5 : (Mine.fr.heap_1 w.params).In h5 := (X.keeps B.stays).keeps F5.keep
  have I5 := InstAt.of_news (x := x) (C := 758) (dx := dx) N5 (.tail _ (.tail _ (.tail _ (.head _)))) (.tail _ (.tail _ (.tail _ (.tail _ (.head _)))))
  refine owit_it F5 (X.keeps B.stays) I5 hnx ?_
  refine wpAny_bind (wpAny_holding ?_)
  unfold Builtin.List.listLengthHint
  refine wpAny_bind (wpAny_bind (I5.type.here ((looks_findIn XS5 hln).here ?_)))
  show wpAny _ _ (specialOf (Value.ref x) (Str.ofString "__length_hint__") >>= _) _ _ _
  refine wpAny_bind (wpAny_bind (I5.type.here ((looks_findIn XS5 hlh).here ?_)))
  refine wpAny_pure ?_
  show wpAny _ _ (rule "list.extend.makes-room" >>= fun _ => Builtin.List.listTouch (.ref s.heap.objs.size) >>= fun _ =>
    again (.builtin "list.extend.loop" ⟨[.ref s.heap.objs.size, .ref x, .none], []⟩)) _ _ _
  refine wpAny_bind (wpAny_rule ?_)
  refine wpAny_bind ?_
  show wpAny _ _ (updateSeq s.heap.objs.size (·.push .none) >>= fun _ => updateSeq s.heap.objs.size (·.pop)) _ _ _
  refine wpAny_bind (wpAny_updateSeq (N5 _ (.head _)).1 rfl ?_)
  obtain ⟨F6, N6⟩ := news_upd (f := Obj.mapSeq (·.push Value.none)) (pre := []) (o' := lstO #[Value.none] 1) F5 N5 (fun _ h => nomatch h) offS rfl rfl
  refine wpAny_updateSeq (hz := by decide) (N6 _ (.head _)).1 rfl ?_
  obtain ⟨F7, N7⟩ := news_upd (f := Obj.mapSeq (·.pop)) (pre := []) (o' := lstO ([] : List Value).toArray 2) F6 N6 (fun _ h => nomatch h) offS rfl rfl
  refine wpAny_pure ⟨plainId_quiet PySem.F.plain_extend_loop _, ?_⟩
  refine loop_lex (s₀ := s) (dp := dp) (un := un + 1) (gd := gd) (name := name) (scope := scope) (a := a) (cd := cd) B X T (by omega) hk ⟨hne.1, hne.2.1, hne.2.2.1, hne.2.2.2.1, hne.2.2.2.2, hltS⟩ hlen hall hW hat F7 N7 .nil (by
      show 0 + buf.cps.toList.length ≤ 1000000
      rw [Array.length_toList]; exact (Nat.zero_add _).symm ▸ hlen) ?_ ?_
  · intro g' h' tk' items c' rs hR hi KT F' B' N'
    exact ⟨rfl, hret g' h' tk' _ items c' rs hR hi KT F' B' N'⟩
  · intro e h' tk' G hR FG RS U
    exact hraise e h' tk' G hR FG RS U
end
section
-- part M6
/-! ## a class whose __new__ is its own -/
theorem sio_made (prog : Program) (w : World) : peek (fr.heap_1 w.params) ⟨prog, w.params⟩ (Bind.madeBy (.ref 623)) = some none := by kernel_rfl
theorem sio_base (prog : Program) (w : World) : peek (fr.heap_1 w.params) ⟨prog, w.params⟩ (Bind.staticBase (.ref 623)) = some (.type "object") := by kernel_rfl
theorem obj_made (prog : Program) (w : World) : peek (fr.heap_1 w.params) ⟨prog, w.params⟩ (Bind.madeBy (.type "object")) = some (some "object.__new__") := by kernel_rfl
section
variable {prog : Program} {w : World} {A : Around} {C : Addr} {R : Result → Shared → Prop} {h : Heap} {g : Array GenState} {d : Drawn} {t : Nat} {os : OsState}
theorem make_own {rest : List Value} {kw : List (Str × Value)} {oc : Value} {od : Option Addr} {cd : ClassData} {sl : Array (Option Value)} (hC : h.get? C = some ⟨oc, od, .cls cd, sl⟩) (e4 : cd.mro.isEmpty = false)
    (call : Looks (model prog w) h (specialOf (.ref C) "__call__") (some (.builtin "type.__call__"))) (typ : Looks (model prog w) h (isInstance (.ref C) (.type "type")) true) (made : Looks (model prog w) h (Bind.madeBy (.ref C)) none)
    (hq : wpAny (model prog w) (A.under (.builtin "type.__call__" ⟨.ref C :: rest, kw⟩)) (getAttr (.ref C) "__new__") (fun new s₁ => wpAny (model prog w) (A.under (.builtin "type.__call__" ⟨.ref C :: rest, kw⟩)) (PySem.call new (.ref C :: rest) kw)
      (fun obj s₂ => wpAny (model prog w) (A.under (.builtin "type.__call__" ⟨.ref C :: rest, kw⟩)) (isInstance obj (.ref C)) (fun b s₃ => b = true ∧ wpAny (model prog w) (A.under (.builtin "type.__call__" ⟨.ref C :: rest, kw⟩)) (callSpecial? obj "__init__" rest kw) (fun r s₄ => r = some .none ∧ R (.ok (.ret obj)) s₄) (fun e s' => R (.error e) s') s₃) (fun e s' => R (.error e) s') s₂) (fun e s' => R (.error e) s') s₁) (fun e s' => R (.error e) s') ⟨h, g, d, t, os⟩) :
    codeAny (model prog w) A (.call (.ref C) ⟨rest, kw⟩) R ⟨h, g, d, t, os⟩ := by
  refine codeAny_of_tree ?_
  show wpAny _ _ (callAny (.ref C) _) _ _ _
  refine nd_load hC ?_
  show wpAny _ _ (callAny.viaDunder (.ref C) _) _ _ _
  unfold callAny.viaDunder
  refine wpAny_bind (call.at ?_)
  dsimp only
  rw [tc_bind]
  refine wpAny_bind (wpAny_pure (wpAny_bind (wpAny_pure ?_)))
  refine wpAny_pure (a := Fin.again (.call (.builtin "type.__call__") ⟨.ref C :: rest, kw⟩)) (And.intro rfl ?_)
  refine codeAny_call_builtin_at (Code.quiet_builtin _ (by decide +kernel)) entry_typeCall (check_slot tc_kind tc_split typ (tc_args _ _ _) ?_)
  unfold Builtin.«type.__call__»
  have hm : Looks (model prog w) h (mroOf (.ref C)) cd.mro := ((Looks.ld (part := none) hC).andThen .now).andThen .now
  iterate 7 (first | simp only [e4, Bool.false_eq_true, if_false] | lk)
  dsimp only
  refine wpAny_bind (wpAny_mono hq (fun new s₁ h₁ => wpAny_bind (wpAny_holding (wpAny_mono h₁ (fun obj s₂ h₂ => wpAny_bind (wpAny_mono h₂ (fun b s₃ h₃ => ?_) fun _ _ z => z)) fun _ _ z => z))) fun _ _ z => z)
  obtain ⟨rfl, h₃⟩ := h₃
  simp only [Bool.not_true, Bool.false_eq_true, if_false]
  refine wpAny_bind (wpAny_holding (wpAny_mono h₃ (fun r s₄ h₄ => ?_) fun _ _ z => z))
  obtain ⟨rfl, h₄⟩ := h₄
  exact wpAny_pure h₄
theorem own_new {K : Frag} {oc : Value} {od : Option Addr} {cd : ClassData} {sl : Array (Option Value)} (X : K.In h) (hC : h.get? C = some ⟨oc, od, .cls cd, sl⟩) (e1 : cd.abstract = false) (e2 : cd.hasDel = false)
    (typ : Looks (model prog w) h (isInstance (.ref C) (.type "type")) true)
    (top : Looks (model prog w) h (isSubtype (.ref C) (.type "object")) true) (base : Looks (model prog w) h (Bind.staticBase (.ref C)) (.type "object")) (made : Looks (model prog w) h (Bind.madeBy (.type "object")) (some "object.__new__"))
    (hq : R (.ok (.ret (.ref (h.objs.size + 1)))) ⟨(h.push emptyDict).push (instObj C h.objs.size), g, d, t, os⟩) :
    codeAny (model prog w) A (.call (.builtin "object.__new__") ⟨[.ref C], []⟩) R ⟨h, g, d, t, os⟩ := by
  have F := PySem.F.objNew
  refine codeAny_call_builtin_code (Code.quiet_builtin _ F.quiet) ?_
  simp only [checkBuiltinCall, F.kind, F.split, F.row]
  have args : Bind.checkArgs "object.__new__" ⟨.hand, "object.__new__", "__new__", .cls, []⟩ ⟨[.ref C], []⟩ = pure () := by kernel_rfl
  have here : Looks (model prog w) h (Bind.madeHere "object.__new__" (.ref C)) () := base.andThen (made.andThen (Looks.of_pure (by simp only [Option.map_some, bne_self_eq_false, Bool.false_eq_true, if_false])))
  rw [args]
  repeat (first | simp only [bne_self_eq_false, Bool.false_eq_true, if_false] | lk)
  refine codeAny_builtin F.entry ?_
  unfold Builtin.«object.__new__»
  have fin : ∀ A', wpAny (model prog w) A' (do
      let d ← if typeHasDict (.ref C) then some <$> alloc { cls := .type "dict", data := .dict #[] } else pure none
      ret (← newObj (.ref C) .plain d)) (fun fin s' => match fin with | .done f => R (.ok f) s' | .again c' => c'.quiet = true ∧ codeAny (model prog w) A c' R s') (fun e s' => R (.error e) s') ⟨h, g, d, t, os⟩ := by
    intro A'
    show wpAny _ _ ((alloc emptyDict >>= fun x => pure (some x)) >>= _) _ _ _
    refine wpAny_bind (wpAny_bind (wpAny_alloc (wpAny_pure (wpAny_bind ?_))))
    show wpAny _ _ (newObjAsIs _ _ _) _ _ _
    unfold newObjAsIs classHasDel
    refine wpAny_bind (wpAny_alloc (wpAny_bind (wpAny_bind (wpAny_load (Heap.get?_push_of_some _ (Heap.get?_push_of_some _ hC)) (wpAny_pure ?_)))))
    rw [e2]
    refine wpAny_pure (wpAny_pure ?_)
    show R _ _
    rw [Heap.size_push]
    exact hq
  repeat (first | simp only [e1, Bool.false_eq_true, if_false] | exact fin _ | lk)
end
section
variable {prog : Program} {w : World} {A : Around} {s : Shared}
theorem sio_new {h₀ : Heap} {L : Addr} {m : Str → Option Value} {news : Led} {Q : Value → Shared → Prop} {E : Value → Shared → Prop} (F : Fr h₀ L s.heap m) (X : (fr.heap_1 w.params).In h₀) (N : News h₀ L s.heap news)
    (h : ∀ x dx h', Fr h₀ L h' m → News h₀ L h' ((x, instObj 623 dx) :: (dx, dictOf [] 0) :: news) → (∀ p ∈ news, p.1 < dx) → dx < x → Q (.ref x) { s with heap := h' }) :
    wpAny (model prog w) A (call (.builtin "object.__new__") [.ref 623]) Q E s := by
  have XS := X.keeps F.keep
  obtain ⟨hp, g, d, t, os⟩ := s
  refine wpAny_call ?_
  refine' own_new XS (XS _ _ ?k1) ?k2 ?k3 (looks_instIn XS ?k4) (looks_mroIn XS ?k5) (Looks.of_peek XS (sio_base prog w)) (Looks.of_peek XS (obj_made prog w)) ?_
  case k1 => k_is
  case k2 => exact rfl
  case k3 => exact rfl
  case k4 => k_is
  case k5 => k_is
  refine h (hp.objs.size + 1) hp.objs.size _ ((F.push _).push _) ?_ (fun p hp => Heap.lt_size (N p hp).1) (Nat.lt_succ_self _)
  have := (N.push F emptyDict).push (F.push _) (instObj 623 hp.objs.size)
  rwa [Heap.size_push] at this
end
end
section
-- part M7
local macro_rules | `(tactic| walk_at "call builtin:object.__new__") => `(tactic| (k_here; refine cut_any ?_))
theorem isi_own {M : Model} {A : Around} {E : Value → Shared → Prop} {s : Shared} {K : Frag} {x C : Addr} {ox : Obj} {od : Option Obj} {Q : Bool → Shared → Prop} (X : K.In s.heap) (I : InstAt s.heap x ox C od) (hm : mroIn K C (.ref C) = some true) (h : Q true s) : wpAny M A (isInstance (.ref x) (.ref C)) Q E s :=
  by unfold isInstance; exact wpAny_bind (I.type.here ((looks_mroIn X hm).here h))
set_option maxHeartbeats 4000000 in
theorem sio_call {prog : Program} {w : World} {dp un : Nat} {gd : Option (List Code)} {s : Shared} {A₀ : Around} {base h₀ : Heap} {outer : List Env} {loose : List Str} {mean : ExcName → Option Value} {mg mb : Str → Option Value}
    {name : Str} {nm : List (Str × NameKind)} {ig ic : Bool} {mo : List (Str × Const)} {a : Addr} {cd : Value} {L : Addr} {m : Str → Option Value} {x dx : Nat} {ox odx : Obj} {Q : Value → Shared → Prop} {E : Value → Shared → Prop} {buf : Str} {tb : Tok}
    (B : Below A₀ base outer h₀) (X : (fr.heap_1 w.params).In h₀) {vw : Program} (T : Top vw loose mean mg mb h₀) (hd : dp + 16 < recursionLimit)
    (F : Fr h₀ L s.heap m) (N : News h₀ L s.heap [(x, ox), (dx, odx)])
    (h : ∀ (io dio : Nat) k1 k2 k3 tn tp h' tk', Fr h₀ L h' m → News h₀ L h' [(io, instObj 623 dio), (dio, dictOf (sioD w.params k1 k2 k3 tn tb tp buf 0) 3), (x, ox), (dx, odx)] → x < dio ∧ dx < dio ∧ dio < io → Q (.ref io) { s with heap := h', toks := tk' }) :
    wpAny (model prog w) (Ar dp un gd (envOf name ⟨.function, nm, ig, ic, mo⟩ L a cd :: outer)) (call (.ref 623) [.str buf tb]) Q E s := by
  have XS := X.keeps F.keep
  refine wpAny_call ?_
  obtain ⟨hp, g, d, t, os⟩ := s
  refine' make_own (XS _ _ ?k1) ?k2 (looks_specialIn XS ?k3) (looks_instIn XS ?k4) (Looks.of_peek XS (sio_made prog w)) ?_
  case k1 => k_is
  case k2 => exact rfl
  case k3 => k_is
  case k4 => k_is
  dsimp only
  (repeat' (first | (unfold Stop; k_dflt (refine' sio_new ?kF ?kX ?kN ?_; (case kF => k_asm); (case kX => k_asm); (case kN => k_asm); k_whole; intro zx' zd' zh' zF' zN' zl1 zl2; (try k_lt zl1); (try k_lt2 zl2); (try k_sweep))) | (k_unfold; (try dsimp only)) | walk1 | (dsimp only; walk1) | (dsimp only; k_unfold; (try dsimp only))))
  (with_reducible rename Fr _ _ _ _ => kF)
  (with_reducible rename News _ _ _ _ => kN)
  have XS' := X.keeps kF.keep
  refine' isi_own XS' (InstAt.of_news kN ?m1 ?m2) ?k5 ⟨rfl, ?_⟩
  case m1 => k_mem
  case m2 => k_mem
  case k5 => k_is
  refine' special_fn (C := 623) (f := 393) XS' (InstAt.of_news kN ?m1 ?m2) ?k6 ?k7 ?_
  case m1 => k_mem
  case m2 => k_mem
  case k6 => k_is
  case k7 => k_is
  clear XS'
  (repeat' (first | (unfold Stop; k_dflt (refine' sio_new ?kF ?kX ?kN ?_; (case kF => k_asm); (case kX => k_asm); (case kN => k_asm); k_whole; intro zx' zd' zh' zF' zN' zl1 zl2; (try k_lt zl1); (try k_lt2 zl2); (try k_sweep))) | (k_unfold; (try dsimp only)) | walk1 | (dsimp only; walk1) | (dsimp only; k_unfold; (try dsimp only))))
  (with_reducible rename Fr _ _ _ _ => kF2)
  (with_reducible rename News _ _ _ _ => kN2)
  exact h _ _ _ _ _ _ _ _ _ kF2 (cb_drop kN2 (List.forall_mem_cons.mpr ⟨by k_mem, List.forall_mem_cons.mpr ⟨by k_mem, List.forall_mem_cons.mpr ⟨by k_mem, List.forall_mem_cons.mpr ⟨by k_mem, fun _ h => nomatch h⟩⟩⟩⟩)) ⟨by omega, by omega, by omega⟩
end
section
-- part M8
local macro_rules | `(tactic| walk_at "my none") => `(tactic| skip)
local macro_rules | `(tactic| walk_at $s) => if ["call type:collections.deque", "call type:list"].contains s.getString then `(tactic| (k_here; refine cut_any ?_)) else Lean.Macro.throwUnsupported
theorem news6 {g h : Heap} {L : Addr} {a b c d e f : Addr × Obj} (N : News g L h [a, b, c, d, e, f]) : News g L h [b, a, e, f, c, d] := by
  intro q hq
  refine N q ?_
  simp only [List.mem_cons, List.not_mem_nil, or_false] at hq ⊢
  rcases hq with h | h | h | h | h | h <;> simp [h]
theorem split_spec {prog : Program} {w : World} {dp un : Nat} {gd : Option (List Code)} {s : Shared} {base : Heap} {fs : List Env} {loose : List Str} {mean : ExcName → Option Value} {mg mb : Str → Option Value}
    {Q : Value → Shared → Prop} {E : Value → Shared → Prop} {text : Str} {tk : Tok} {R : Option (List Str)}
    (B : Below (Ar dp un gd fs) base fs s.heap) (X : (fr.heap_1 w.params).In base) {vw : Program} (T : Top vw loose mean mg mb base) (hd : dp + 30 < recursionLimit)
    (hlen : text.length ≤ 1000000) (hall : text.cps.toList.all isAlpha = true) (hW : Wds .ws text.cps.toList R)
    (hret : ∀ r items c h' tk' rs, R = some rs → StrsAre items rs → KeptS fs [(r, lstO items.toArray c)] s.heap h' → s.heap.get? r = none → Q (.ref r) { s with heap := h', toks := tk' })
    (hraise : ∀ e h' tk' G, R = none → Sub s.heap [] G → RaisedSN base G fs e (.type "ValueError") [] h' → G.UpToSlots h' → E (.ref e) { s with heap := h', toks := tk' }) :
    wpAny (model prog w) (Ar dp un gd fs) (call (.ref 770) [.str text tk]) Q E s := by
  refine wpAny_call ?_
  refine' enterO (own := []) B X T (fun _ h => nomatch h) ?k6 ?k7 ?k8 ?k9 ?kB ?_ ?c5 ?c2 ?c3 ?c4
  (((case k6 => k_is); (case k7 => k_is); (case k8 => (dsimp only [Ar]; omega)); (case k9 => first | exact BindsTo.of_eq rfl | exact binds_K (Frag.In.keeps (by assumption) (Below.stays (by assumption))) rfl (by k_is) rfl rfl rfl); (case c5 => decide); (case kB => exact locs rfl); (case c2 => exact rfl); (case c3 => exact rfl); (case c4 => exact rfl)))
  intro g' L' h' hg' F' N' B' X' T' l1
  dsimp only
  k_fold
  (repeat' (first | (unfold Stop; k_dflt (refine' dq_callN ?kF ?kN ?_; (case kF => k_asm); (case kN => k_asm); k_whole; intro zd' zh' zF' zN' zl1; (try k_lt zl1); (try k_sweep))) | (unfold Stop; (with_reducible show wpAny _ _ (call (Value.ref 623) _) _ _ _); k_dflt (refine' sio_call ?kB ?kX ?kT ?kR ?kF ?kN ?_; (case kF => k_asm); (case kN => k_asm); (case kB => assumption); (case kX => assumption); (case kT => assumption); (case kR => k_room); k_whole; intro zio' zdio' zk1' zk2' zk3' ztn' ztp' zh' ztk' zF' zN' zl1; (try k_sweep))) | (k_unfold; (try dsimp only)) | walk1 | (dsimp only; walk1) | (dsimp only; k_unfold; (try dsimp only))))
  unfold Stop
  (with_reducible rename Fr _ _ _ _ => kF)
  (with_reducible rename News _ _ _ _ => kN)
  have kN2 := news6 kN
  refine list_lex (lk := ⟨_, _, _, _, _, _, _, _, _, _, _, _, _, _, _, _, _, _, _, _, _, _, _, _, _, _, _⟩) (sk := (_, _, _, _, _)) (p := 0) (n := 1) B' X T (by dsimp only [Ar]; omega) rfl ⟨by omega, by omega, by omega, by omega, by omega⟩ hlen hall hW ⟨rfl, hall, .inl rfl, ⟨_, rfl⟩, ⟨by decide, by decide⟩, rfl⟩ kF kN2 ?ret ?rse
  case ret =>
    intro g2 h2 tk2 S items c' rs hR hi KT F2 B2 N2
    try k_unfold
    dsimp only
    have KS := keptS_all ((hg'.toS (base := base) (fun _ h => nomatch h)).turn KT) F2 N2 (fun _ h => nomatch h)
    refine hret _ _ _ _ _ _ hR hi KS ?_
    have n0 := (N2 _ (.head _)).2.2
    cases e : s.heap.get? S with
    | none => rfl
    | some o =>
      obtain ⟨sl, e2⟩ := KT.up (hg'.get _ _ e (fun _ h => nomatch h))
      rw [e2] at n0; cases n0
  case rse =>
    intro e h2 tk2 G hR FG RS U
    try k_unfold
    refine leave_onSN B' FG RS U fun h3 R3 _ U3 => ?_
    dsimp only
    exact hraise _ _ _ _ hR hg' R3 U3
end
section
-- part MLt
open AutoSeq1 (wpAny_loadPart')
open MeetsSeq MeetsSeq2 MeetsSeq3 PySem.SeqAt
noncomputable def ltS : List Str → List Str → Bool
  | _, [] => false
  | [], _ :: _ => true
  | a :: r, b :: t => if a == b then ltS r t else decide (a.cps.toList < b.cps.toList)
theorem lt_loop (l b : Addr) (items items2 : Array Value) (n n2 : Nat) (dd dd2 : Option Addr) (sl sl2 : Array (Option Value)) :
    ∀ (v1 v2 pre pre2 : List Value) (rs ss : List Str) (i : Nat), items.toList = pre ++ v1 → items2.toList = pre2 ++ v2 → pre.length = i → pre2.length = i → StrsAre v1 rs → StrsAre v2 ss →
    Meets (Builtin.«list.__eq__.loop» ⟨[.ref l, .ref b, rawInt i, rawInt 0], []⟩)
      (fun _ R s => s.heap.get? l = some { cls := .type "list", dict := dd, data := .seq items n, slots := sl } ∧ s.heap.get? b = some { cls := .type "list", dict := dd2, data := .seq items2 n2, slots := sl2 } ∧
        R (.ok (.ret (.bool (ltS rs ss)))) s) := by
  intro v1
  induction v1 with
  | nil =>
    intro v2 pre pre2 rs ss i e1 e2 l1 l2 h1 h2 prog w A R s h
    obtain ⟨hp, g, d, tk, os⟩ := s; obtain ⟨hl, hb, h⟩ := h
    wp_walk using wpAny_loadPart' hl, wpAny_loadPart' hb
    have hi1 : items[((i : Nat) : Int).toNat]? = none := by
      rw [← Array.getElem?_toList, e1]; simp [l1]
    rw [hi1]
    wp_walk using wpAny_loadPart' hl, wpAny_loadPart' hb
    show R (.ok (.ret (.bool (decide (items.size < items2.size))))) _
    have s1 : items.size = i := by rw [← Array.length_toList, e1]; simp [l1]
    have s2 : items2.size = i + v2.length := by rw [← Array.length_toList, e2]; simp [l2]
    cases h1
    cases h2 with
    | nil => rw [s1, s2]; simpa [ltS] using h
    | cons _ _ _ => rw [s1, s2]; simpa [ltS] using h
  | cons x v1 ih =>
    intro v2 pre pre2 rs ss i e1 e2 l1 l2 h1 h2 prog w A R s h
    obtain ⟨hp, g, d, tk, os⟩ := s; obtain ⟨hl, hb, h⟩ := h
    wp_walk using wpAny_loadPart' hl, wpAny_loadPart' hb
    have hi1 : items[((i : Nat) : Int).toNat]? = some x := by
      rw [← Array.getElem?_toList, e1]; simp [l1]
    rw [hi1]
    have s1 : items.size = i + (v1.length + 1) := by rw [← Array.length_toList, e1]; simp [l1]
    have s2 : items2.size = i + v2.length := by rw [← Array.length_toList, e2]; simp [l2]
    cases v2 with
    | nil =>
      have hi2 : items2[((i : Nat) : Int).toNat]? = none := by
        rw [← Array.getElem?_toList, e2]; simp [l2]
      rw [hi2]
      wp_walk using wpAny_loadPart' hl, wpAny_loadPart' hb
      show R (.ok (.ret (.bool (decide (items.size < items2.size))))) _
      cases h2
      have : ltS rs [] = false := by cases rs <;> rfl
      rw [s1, s2]; rw [this] at h
      rw [decide_eq_false (by simp)]; exact h
    | cons y v2 =>
      have hi2 : items2[((i : Nat) : Int).toNat]? = some y := by
        rw [← Array.getElem?_toList, e2]; simp [l2]
      rw [hi2]
      cases h1 with | cons a t r1 =>
      cases h2 with | cons c u r2 =>
      have hc : ((i : Int) + 1) = ((i + 1 : Nat) : Int) := by push_cast; rfl
      refine wpAny_bind (EqAt.str_str _ _ _ _ prog w _ _ ?_)
      unfold ltS at h
      cases hb' : (a == c) with
      | true =>
        rw [hb'] at h
        wp_walk
        rw [hc]
        exact ⟨plainId_quiet plain_eq_loop _, codeAny_builtin entry_eq_loop (by
          rw [Around.under_plainId plain_eq_loop _]
          exact ih v2 (pre ++ [.str a t]) (pre2 ++ [.str c u]) _ _ (i + 1) (by simp [e1]) (by simp [e2]) (by simp [l1]) (by simp [l2]) r1 r2 prog w A R _ ⟨hl, hb, by simpa using h⟩)⟩
      | false =>
        rw [hb'] at h
        wp_walk using wpAny_loadPart' hl, wpAny_loadPart' hb
        rw [hi1, hi2]
        refine wpAny_bind (richCompare_gives (op := .Lt) (typeIs_str _ a t) (typeIs_str _ c u) F.slot_str_lt F.entry_str_lt (F.args_str_lt_2 _ _) (gives_str_lt a c t u) (fun e => nomatch e) ?_)
        refine wpAny_pure ?_
        simpa using h
theorem list_lt (l b : Addr) (items items2 : Array Value) (n n2 : Nat) (dd dd2 : Option Addr) (sl sl2 : Array (Option Value)) (rs ss : List Str) (h1 : StrsAre items.toList rs) (h2 : StrsAre items2.toList ss) :
    Meets (Builtin.«list.__lt__» ⟨[.ref l, .ref b], []⟩)
      (fun _ R s => s.heap.get? l = some { cls := .type "list", dict := dd, data := .seq items n, slots := sl } ∧ s.heap.get? b = some { cls := .type "list", dict := dd2, data := .seq items2 n2, slots := sl2 } ∧
        R (.ok (.ret (.bool (ltS rs ss)))) s) := by
  intro prog w A R s h
  obtain ⟨hp, g, d, tk, os⟩ := s; obtain ⟨hl, hb, h⟩ := h
  have f3 := AutoSeq1.sub_list_list
  wp_walk using wpAny_loadPart' hl, wpAny_loadPart' hb
  exact ⟨plainId_quiet plain_eq_loop _, codeAny_builtin entry_eq_loop (by
    rw [Around.under_plainId plain_eq_loop _]
    exact lt_loop l b items items2 n n2 dd dd2 sl sl2 _ _ [] [] rs ss 0 rfl rfl rfl rfl h1 h2 prog w A R _ ⟨hl, hb, h⟩)⟩
theorem lt_lists {prog : Program} {w : World} {A : Around} {s : Shared} {E : Value → Shared → Prop} {Q : Value → Shared → Prop} {l b : Addr} {xs ys : Array Value} {rs ss : List Str}
    (hl : s.heap.IsList l xs) (hb : s.heap.IsList b ys) (h1 : StrsAre xs.toList rs) (h2 : StrsAre ys.toList ss) (hu : A.units < cLine) (h : Q (.bool (ltS rs ss)) s) :
    wpAny (model prog w) A (compareOp .Lt (.ref l) (.ref b)) Q E s := by
  obtain ⟨⟨cls, dd, data, sl⟩, ho, hc, n, hd⟩ := id hl
  obtain ⟨⟨cls2, dd2, data2, sl2⟩, ho2, hc2, n2, hd2⟩ := id hb
  simp only at hc hd hc2 hd2
  subst hc hd hc2 hd2
  show wpAny _ _ (richCompare .Lt _ _) _ _ _
  exact richCompare_meets_room (op := .Lt) ⟨_, ho, rfl⟩ ⟨_, ho2, rfl⟩ F.slot_list_lt F.entry_list_lt (F.args_list_lt_2 _ _) (list_lt l b xs ys n n2 dd dd2 sl sl2 rs ss h1 h2) ⟨ho, ho2, ⟨(fun e => nomatch e), h⟩⟩ hu
end
section
-- part M9
local macro_rules | `(tactic| walk_at $s) => if ["call ref", "subscriptTail", "compareOp Lt ref ref", "getItem ref int"].contains s.getString then `(tactic| (k_here; refine cut_any ?_)) else Lean.Macro.throwUnsupported
local macro_rules | `(tactic| walk_at "exec While Compare cons nil") => `(tactic| (k_here; k_dflt (refine cut_any ?_)))
theorem isList_turn {fs : List Addr} {g g' : Heap} {a : Addr} {xs : Array Value} (T : KtsTurn fs g g') (hl : g.IsList a xs) : g'.IsList a xs := by
  obtain ⟨o, ho, hc, n, hd⟩ := hl
  obtain ⟨sl, e⟩ := T.up ho
  exact ⟨_, e, hc, n, hd⟩
theorem isList_keptS {fs : List Env} {own : Led} {h h' : Heap} {a : Addr} {xs : Array Value} (K : KeptS fs own h h') (hn : ∀ p ∈ own, p.1 ≠ a) (hl : h.IsList a xs) : h'.IsList a xs := by
  obtain ⟨o, ho, hc, n, hd⟩ := hl
  by_cases m : a ∈ fs.filterMap (·.frame)
  · obtain ⟨sl, e⟩ := K.frame _ _ ho m
    exact ⟨_, e, hc, n, hd⟩
  · exact ⟨_, K.get _ _ ho hn m, hc, n, hd⟩
section
variable {prog : Program} {w : World} {A A₀ : Around} {E : Value → Shared → Prop} {Q : Flow → Shared → Prop} {s : Shared} {env : Env} {g base : Heap} {outer : List Env} {L : Addr}
noncomputable def TEnd {σ : Type} (A₀ : Around) (base : Heap) (outer : List Env) (g : Heap) (L : Addr) (s : Shared) (ps : σ → List (Str × Value)) (P : σ → Prop) (μ : σ → Nat) (c : σ) (s₂ : Shared) : Prop :=
  ∃ (c' : σ) (g' h' : Heap) (tk : Nat) (m' : Str → Option Value), s₂ = { s with heap := h', toks := tk } ∧ KtsTurn (outer.filterMap (·.frame)) g g' ∧ Below A₀ base outer g' ∧ Fr g' L h' m' ∧ (∀ p ∈ ps c', m' p.1 = some p.2) ∧ P c' ∧ μ c' < μ c
noncomputable def TPost {σ : Type} (A₀ : Around) (base : Heap) (outer : List Env) (g : Heap) (L : Addr) (s : Shared) (ps : σ → List (Str × Value)) (P : σ → Prop) (μ : σ → Nat) (Q : Flow → Shared → Prop) (c : σ) (f : Flow) (s₂ : Shared) : Prop :=
  match f with
  | .ret v => Q (.ret v) s₂
  | .brk => Q .next s₂
  | _ => TEnd A₀ base outer g L s ps P μ c s₂
theorem while_turn {σ : Type} {test : Expr} {body : List Stmt} {pos : Pos} {m₀ : Str → Option Value} (ps : σ → List (Str × Value)) (P : σ → Prop) (μ : σ → Nat) (c₀ : σ)
    (B : Below A₀ base outer g) (F : Fr g L s.heap m₀) (hk : ∀ p ∈ ps c₀, m₀ p.1 = some p.2) (hp : P c₀)
    (turn : ∀ (c : σ) (u : Str → Option Value) g' h tk, P c → KtsTurn (outer.filterMap (·.frame)) g g' → Below A₀ base outer g' → Fr g' L h (kstB u (ps c)) →
      wpAny (model prog w) A (isTrue test env (eval test env)) (fun b s₂ =>
        if b = true then wpAny (model prog w) A (execs body env) (TPost A₀ base outer g L s ps P μ Q c) E s₂ else Q .next s₂) E { s with heap := h, toks := tk })
    (hE : PassesOwn (model prog w) A env E := by passes_own) :
    wpAny (model prog w) A (exec (.While test body [] pos) env) Q E s := by
  refine wpAny_While (codeAny_whileLoop (fun n s' => ∃ (c : σ) (u : Str → Option Value) (g' h : Heap) (tk : Nat), s' = { s with heap := h, toks := tk } ∧ μ c = n ∧ P c ∧ KtsTurn (outer.filterMap (·.frame)) g g' ∧ Below A₀ base outer g' ∧ Fr g' L h (kstB u (ps c))) ?_ (μ c₀) ⟨c₀, m₀, g, s.heap, s.toks, rfl, rfl, hp, .refl, B, fr_kst F hk⟩)
  rintro n s' ⟨c, u, g', h, tk, rfl, hn, hp', KT, B', F'⟩
  refine wpAny_mono (turn c u g' h tk hp' KT B' F') (fun b s₂ h₂ => ?_) hE
  cases b with
  | false =>
    simp only [Bool.false_eq_true, if_false] at h₂ ⊢
    exact wpAny_execs_nil h₂
  | true =>
    simp only [if_true] at h₂ ⊢
    refine wpAny_mono h₂ (fun f s₃ h₃ => ?_) hE
    cases f with
    | next =>
      obtain ⟨c', g', h', tk, m', rfl, KT2, B2, F2, hk2, hp2, hm2⟩ := h₃
      exact ⟨_, hn ▸ hm2, c', m', g', h', tk, rfl, rfl, hp2, KT2, B2, fr_kst F2 hk2⟩
    | cont =>
      obtain ⟨c', g', h', tk, m', rfl, KT2, B2, F2, hk2, hp2, hm2⟩ := h₃
      exact ⟨_, hn ▸ hm2, c', m', g', h', tk, rfl, rfl, hp2, KT2, B2, fr_kst F2 hk2⟩
    | brk => exact h₃
    | ret v => exact h₃
end
section
variable {σ : Type} {A₀ : Around} {base : Heap} {outer : List Env} {g g' h' : Heap} {L : Addr} {s : Shared} {ps : σ → List (Str × Value)} {P : σ → Prop} {μ : σ → Nat} {Q : Flow → Shared → Prop} {c : σ} {m' : Str → Option Value} {tk : Nat}
theorem t_next (c' : σ) (KT : KtsTurn (outer.filterMap (·.frame)) g g') (B : Below A₀ base outer g') (F : Fr g' L h' m') (hk : ∀ p ∈ ps c', m' p.1 = some p.2) (hp : P c') (hm : μ c' < μ c) : TPost A₀ base outer g L s ps P μ Q c .next { s with heap := h', toks := tk } :=
  ⟨c', g', h', tk, m', rfl, KT, B, F, hk, hp, hm⟩
theorem all5 {α : Type} {p : α → Prop} {a b c d e : α} (h1 : p a) (h2 : p b) (h3 : p c) (h4 : p d) (h5 : p e) : ∀ x ∈ [a, b, c, d, e], p x :=
  List.forall_mem_cons.mpr ⟨h1, List.forall_mem_cons.mpr ⟨h2, List.forall_mem_cons.mpr ⟨h3, List.forall_mem_cons.mpr ⟨h4, List.forall_mem_cons.mpr ⟨h5, fun _ h => nomatch h⟩⟩⟩⟩⟩
end
structure BiC where
  (lo hi : Int) (tl th : Tok)
/-- texts and what split makes of them -/
inductive Rows : List Str → List (List Str) → Prop
  | nil : Rows [] []
  | cons {t r ts rs} : t.length ≤ 1000000 → t.cps.toList.all isAlpha = true → Wds .ws t.cps.toList (some r) → Rows ts rs → Rows (t :: ts) (r :: rs)
local macro_rules | `(tactic| walk_at "call builtin:len") => `(tactic| (k_here; k_dflt (refine kun_lenL (stays_list (Fr.keep (by k_asm)) (by with_reducible assumption)) (by with_reducible assumption) (by with_reducible assumption) ?_)))
theorem rows_at : ∀ {ts : List Str} {rs : List (List Str)}, Rows ts rs → ∀ {i : Nat}, i < ts.length → ∃ t r, ts[i]? = some t ∧ rs[i]? = some r ∧ t.length ≤ 1000000 ∧ t.cps.toList.all isAlpha = true ∧ Wds .ws t.cps.toList (some r)
  | _, _, .nil, i, h => by simp at h
  | _, _, .cons a b c r, 0, h => ⟨_, _, rfl, rfl, a, b, c⟩
  | _, _, .cons a b c r, i + 1, h => by
    obtain ⟨t, r', h1, h2, h3⟩ := rows_at r (i := i) (by simpa using h)
    exact ⟨t, r', by simpa using h1, by simpa using h2, h3⟩
theorem bisR_spec {prog : Program} {w : World} {dp un : Nat} {gd : Option (List Code)} {s : Shared} {base : Heap} {fs : List Env} {loose : List Str} {mean : ExcName → Option Value} {mg mb : Str → Option Value}
    {Q : Value → Shared → Prop} {E : Value → Shared → Prop} {pos : List Value} {a x : Nat} {items xs : List Value} {texts : List Str} {rows : List (List Str)} {ws : List Str} {K : Nat}
    (B : Below (Ar dp un gd fs) base fs s.heap) (X : (fr.heap_1 w.params).In base) {vw : Program} (T : Top vw loose mean mg mb base) (hd : dp + 40 < recursionLimit) (hu : un + 100 < cLine)
    (hpos : pos = [.ref a, .ref x] ∨ ∃ t, pos = [.ref a, .ref x, .int 0 t, .none])
    (ha : s.heap.IsList a items.toArray) (hx : s.heap.IsList x xs.toArray) (hi : StrsAre items texts) (hw : StrsAre xs ws) (hr : Rows texts rows) (hlen : texts.length ≤ 1000)
    (hK : K ≤ texts.length) (hlt : ∀ i r, rows[i]? = some r → ltS ws r = decide (K ≤ i))
    (hret : ∀ t h' tk', KeptS fs [] s.heap h' → Q (.int K t) { s with heap := h', toks := tk' }) :
    wpAny (model prog w) (Ar dp un gd fs) (call (.ref 57) pos [(Str.ofString "key", .ref 770)]) Q E s := by
  obtain ⟨t0, ht0⟩ : ∃ t0 : Tok, (pos = [.ref a, .ref x] ∧ t0 = 301) ∨ pos = [.ref a, .ref x, .int 0 t0, .none] := by
    rcases hpos with rfl | ⟨t, rfl⟩
    · exact ⟨301, .inl ⟨rfl, rfl⟩⟩
    · exact ⟨t, .inr rfl⟩
  refine wpAny_call ?_
  refine' enterO (own := []) (binds := [(Str.ofString "a", .ref a), (Str.ofString "x", .ref x), (Str.ofString "lo", .int 0 t0), (Str.ofString "hi", .none), (Str.ofString "key", .ref 770)]) B X T (fun _ h => nomatch h) ?k6 ?k7 ?k8 ?k9 ?kB ?_ ?c5 ?c2 ?c3 ?c4
  (case k6 => k_is)
  (case k7 => k_is)
  (case k8 => (dsimp only [Ar]; omega))
  case k9 =>
    rcases ht0 with ⟨rfl, rfl⟩ | rfl
    · exact binds_K (Frag.In.keeps (by assumption) (Below.stays (by assumption))) rfl (by k_is) rfl rfl rfl
    · exact binds_K (Frag.In.keeps (by assumption) (Below.stays (by assumption))) rfl (by k_is) rfl rfl rfl
  (case c5 => decide)
  (case kB => exact locs rfl)
  (case c2 => exact rfl)
  (case c3 => exact rfl)
  (case c4 => exact rfl)
  intro g' L' h' hg' F' N' B' X' T' l1
  dsimp only
  k_fold
  have eg : ∀ b o, s.heap.get? b = some o → g'.get? b = some o := fun b o e => hg'.get b o e (fun _ h => nomatch h)
  have hag : g'.IsList a items.toArray := stays_list eg ha
  have hsz : ((items.toArray).size : Int) = (texts.length : Int) := by rw [List.size_toArray, hi.length]
  have hszl : (texts.length : Int) ≤ 16384 := by omega
  (repeat' (first | (k_unfold; (try dsimp only)) | walk1 | (dsimp only; walk1) | (dsimp only; k_unfold; (try dsimp only))))
  unfold Stop
  (with_reducible rename Fr _ _ _ _ => kF)
  refine while_turn (σ := BiC) (fun c => [(Str.ofString "a", .ref a), (Str.ofString "x", .ref x), (Str.ofString "lo", .int c.lo c.tl), (Str.ofString "hi", .int c.hi c.th), (Str.ofString "key", .ref 770)]) (fun c => 0 ≤ c.lo ∧ c.lo ≤ K ∧ (K : Int) ≤ c.hi ∧ c.hi ≤ texts.length) (fun c => (c.hi - c.lo).toNat) ⟨0, texts.length, t0, _⟩ B' kF (all5 rfl rfl rfl rfl rfl) ⟨Int.le_refl _, by dsimp only; omega, by dsimp only; omega, Int.le_refl _⟩ ?_
  clear kF
  intro c u g2 h2 tk2 hp KT B2 F2
  have X2 := X.keeps B2.stays
  have T2 := T.keeps B2.stays
  have N2 : News g2 L' h2 [] := News.nil
  clear X' T'
  (repeat' (first | (k_unfold; (try dsimp only)) | walk1 | (dsimp only; walk1) | (dsimp only; k_unfold; (try dsimp only))))
  · unfold Stop
    have hm0 : 0 ≤ (c.lo + c.hi).fdiv 2 ∧ c.lo ≤ (c.lo + c.hi).fdiv 2 ∧ (c.lo + c.hi).fdiv 2 < c.hi := by rw [Int.fdiv_eq_ediv_of_nonneg _ (by decide)]; omega
    obtain ⟨M, hM⟩ : ∃ M : Nat, (c.lo + c.hi).fdiv 2 = (M : Int) := ⟨_, (Int.toNat_of_nonneg hm0.1).symm⟩
    obtain ⟨tx, r, e1, e2, e3, e4, e5⟩ := rows_at hr (i := M) (by omega)
    obtain ⟨tt, e6⟩ := hi.at e1
    (with_reducible rename Fr _ _ _ _ => kF)
    refine item_litK (stays_list kF.keep (isList_turn KT hag)) hm0.1 (by omega) (by rw [hM]; exact e6) ?_ (by with_unfolding_all rfl)
    (repeat' (first | (k_unfold; (try dsimp only)) | walk1 | (dsimp only; walk1) | (dsimp only; k_unfold; (try dsimp only))))
    unfold Stop
    (with_reducible rename News _ _ _ _ => kN)
    refine split_spec (ar_below kF B2 rfl rfl) X T (by dsimp only [Ar]; omega) e3 e4 e5 ?ret ?rse
    case rse => intro e h' tk' G hno; cases hno
    case ret =>
      intro r' ri c' h3 tk3 rs hrs hri KS hnew
      cases hrs
      obtain ⟨g3, KT3, F3, B3, N3⟩ := groundS (news' := [(r', lstO ri.toArray c')]) B2 kF kN rfl KS (fun p hp => .inr (by cases List.mem_singleton.mp hp; exact hnew)) (fun p hp => .inl hp)
      clear kF kN KS hnew X2 T2
      have X3 := X.keeps B3.stays
      have T3 := T.keeps B3.stays
      have hxg : g3.IsList x xs.toArray := isList_turn KT3 (isList_turn KT (stays_list eg hx))
      (repeat' (first | (k_unfold; (try dsimp only)) | walk1 | (dsimp only; walk1) | (dsimp only; k_unfold; (try dsimp only))))
      unfold Stop
      refine lt_lists (stays_list F3.keep hxg) ⟨_, (N3 _ (.head _)).1, rfl, _, rfl⟩ hw hri (by dsimp only [Ar, Around.deeper]; omega) ?_
      rw [hlt M r e2]
      by_cases hKM : K ≤ M
      · rw [decide_eq_true hKM]
        (repeat' (first | (k_unfold; (try dsimp only)) | walk1 | (dsimp only; walk1) | (dsimp only; k_unfold; (try dsimp only))))
        refine t_next ⟨c.lo, M, _, _⟩ (KT.trans KT3) B3 (by k_asm) (all5 rfl rfl rfl (by rw [← hM]; rfl) rfl) ⟨hp.1, hp.2.1, by dsimp only; omega, by dsimp only; omega⟩ (by dsimp only; omega)
      · rw [decide_eq_false hKM]
        (repeat' (first | (k_unfold; (try dsimp only)) | walk1 | (dsimp only; walk1) | (dsimp only; k_unfold; (try dsimp only))))
        refine t_next ⟨M + 1, c.hi, _, _⟩ (KT.trans KT3) B3 (by k_asm) (all5 rfl rfl (by rw [← hM]; rfl) rfl rfl) ⟨by dsimp only; omega, by dsimp only; omega, hp.2.2.1, hp.2.2.2⟩ (by dsimp only; omega)
  · have : c.lo = K := by omega
    rw [this]
    exact hret _ _ _ (keptS_all ((hg'.toS (base := base) (fun _ h => nomatch h)).turn KT) F2 N2 (fun _ h => nomatch h))
theorem bisL_spec {prog : Program} {w : World} {dp un : Nat} {gd : Option (List Code)} {s : Shared} {base : Heap} {fs : List Env} {loose : List Str} {mean : ExcName → Option Value} {mg mb : Str → Option Value}
    {Q : Value → Shared → Prop} {E : Value → Shared → Prop} {pos : List Value} {a x : Nat} {items xs : List Value} {texts : List Str} {rows : List (List Str)} {ws : List Str} {K : Nat}
    (B : Below (Ar dp un gd fs) base fs s.heap) (X : (fr.heap_1 w.params).In base) {vw : Program} (T : Top vw loose mean mg mb base) (hd : dp + 40 < recursionLimit) (hu : un + 100 < cLine)
    (hpos : pos = [.ref a, .ref x] ∨ ∃ t, pos = [.ref a, .ref x, .int 0 t, .none])
    (ha : s.heap.IsList a items.toArray) (hx : s.heap.IsList x xs.toArray) (hi : StrsAre items texts) (hw : StrsAre xs ws) (hr : Rows texts rows) (hlen : texts.length ≤ 1000)
    (hK : K ≤ texts.length) (hlt : ∀ i r, rows[i]? = some r → ltS r ws = decide (i < K))
    (hret : ∀ t h' tk', KeptS fs [] s.heap h' → Q (.int K t) { s with heap := h', toks := tk' }) :
    wpAny (model prog w) (Ar dp un gd fs) (call (.ref 75) pos [(Str.ofString "key", .ref 770)]) Q E s := by
  obtain ⟨t0, ht0⟩ : ∃ t0 : Tok, (pos = [.ref a, .ref x] ∧ t0 = 328) ∨ pos = [.ref a, .ref x, .int 0 t0, .none] := by
    rcases hpos with rfl | ⟨t, rfl⟩
    · exact ⟨328, .inl ⟨rfl, rfl⟩⟩
    · exact ⟨t, .inr rfl⟩
  refine wpAny_call ?_
  refine' enterO (own := []) (binds := [(Str.ofString "a", .ref a), (Str.ofString "x", .ref x), (Str.ofString "lo", .int 0 t0), (Str.ofString "hi", .none), (Str.ofString "key", .ref 770)]) B X T (fun _ h => nomatch h) ?k6 ?k7 ?k8 ?k9 ?kB ?_ ?c5 ?c2 ?c3 ?c4
  (case k6 => k_is)
  (case k7 => k_is)
  (case k8 => (dsimp only [Ar]; omega))
  case k9 =>
    rcases ht0 with ⟨rfl, rfl⟩ | rfl
    · exact binds_K (Frag.In.keeps (by assumption) (Below.stays (by assumption))) rfl (by k_is) rfl rfl rfl
    · exact binds_K (Frag.In.keeps (by assumption) (Below.stays (by assumption))) rfl (by k_is) rfl rfl rfl
  (case c5 => decide)
  (case kB => exact locs rfl)
  (case c2 => exact rfl)
  (case c3 => exact rfl)
  (case c4 => exact rfl)
  intro g' L' h' hg' F' N' B' X' T' l1
  dsimp only
  k_fold
  have eg : ∀ b o, s.heap.get? b = some o → g'.get? b = some o := fun b o e => hg'.get b o e (fun _ h => nomatch h)
  have hag : g'.IsList a items.toArray := stays_list eg ha
  have hsz : ((items.toArray).size : Int) = (texts.length : Int) := by rw [List.size_toArray, hi.length]
  have hszl : (texts.length : Int) ≤ 16384 := by omega
  (repeat' (first | (k_unfold; (try dsimp only)) | walk1 | (dsimp only; walk1) | (dsimp only; k_unfold; (try dsimp only))))
  unfold Stop
  (with_reducible rename Fr _ _ _ _ => kF)
  refine while_turn (σ := BiC) (fun c => [(Str.ofString "a", .ref a), (Str.ofString "x", .ref x), (Str.ofString "lo", .int c.lo c.tl), (Str.ofString "hi", .int c.hi c.th), (Str.ofString "key", .ref 770)]) (fun c => 0 ≤ c.lo ∧ c.lo ≤ K ∧ (K : Int) ≤ c.hi ∧ c.hi ≤ texts.length) (fun c => (c.hi - c.lo).toNat) ⟨0, texts.length, t0, _⟩ B' kF (all5 rfl rfl rfl rfl rfl) ⟨Int.le_refl _, by dsimp only; omega, by dsimp only; omega, Int.le_refl _⟩ ?_
  clear kF
  intro c u g2 h2 tk2 hp KT B2 F2
  have X2 := X.keeps B2.stays
  have T2 := T.keeps B2.stays
  have N2 : News g2 L' h2 [] := News.nil
  clear X' T'
  (repeat' (first | (k_unfold; (try dsimp only)) | walk1 | (dsimp only; walk1) | (dsimp only; k_unfold; (try dsimp only))))
  · unfold Stop
    have hm0 : 0 ≤ (c.lo + c.hi).fdiv 2 ∧ c.lo ≤ (c.lo + c.hi).fdiv 2 ∧ (c.lo + c.hi).fdiv 2 < c.hi := by rw [Int.fdiv_eq_ediv_of_nonneg _ (by decide)]; omega
    obtain ⟨M, hM⟩ : ∃ M : Nat, (c.lo + c.hi).fdiv 2 = (M : Int) := ⟨_, (Int.toNat_of_nonneg hm0.1).symm⟩
    obtain ⟨tx, r, e1, e2, e3, e4, e5⟩ := rows_at hr (i := M) (by omega)
    obtain ⟨tt, e6⟩ := hi.at e1
    (with_reducible rename Fr _ _ _ _ => kF)
    refine item_litK (stays_list kF.keep (isList_turn KT hag)) hm0.1 (by omega) (by rw [hM]; exact e6) ?_ (by with_unfolding_all rfl)
    (repeat' (first | (k_unfold; (try dsimp only)) | walk1 | (dsimp only; walk1) | (dsimp only; k_unfold; (try dsimp only))))
    unfold Stop
    (with_reducible rename News _ _ _ _ => kN)
    refine split_spec (ar_below kF B2 rfl rfl) X T (by dsimp only [Ar]; omega) e3 e4 e5 ?ret ?rse
    case rse => intro e h' tk' G hno; cases hno
    case ret =>
      intro r' ri c' h3 tk3 rs hrs hri KS hnew
      cases hrs
      obtain ⟨g3, KT3, F3, B3, N3⟩ := groundS (news' := [(r', lstO ri.toArray c')]) B2 kF kN rfl KS (fun p hp => .inr (by cases List.mem_singleton.mp hp; exact hnew)) (fun p hp => .inl hp)
      clear kF kN KS hnew X2 T2
      have X3 := X.keeps B3.stays
      have T3 := T.keeps B3.stays
      have hxg : g3.IsList x xs.toArray := isList_turn KT3 (isList_turn KT (stays_list eg hx))
      (repeat' (first | (k_unfold; (try dsimp only)) | walk1 | (dsimp only; walk1) | (dsimp only; k_unfold; (try dsimp only))))
      unfold Stop
      refine lt_lists ⟨_, (N3 _ (.head _)).1, rfl, _, rfl⟩ (stays_list F3.keep hxg) hri hw (by dsimp only [Ar, Around.deeper]; omega) ?_
      rw [hlt M r e2]
      by_cases hKM : M < K
      · rw [decide_eq_true hKM]
        (repeat' (first | (k_unfold; (try dsimp only)) | walk1 | (dsimp only; walk1) | (dsimp only; k_unfold; (try dsimp only))))
        refine t_next ⟨M + 1, c.hi, _, _⟩ (KT.trans KT3) B3 (by k_asm) (all5 rfl rfl (by rw [← hM]; rfl) rfl rfl) ⟨by dsimp only; omega, by dsimp only; omega, hp.2.2.1, hp.2.2.2⟩ (by dsimp only; omega)
      · rw [decide_eq_false hKM]
        (repeat' (first | (k_unfold; (try dsimp only)) | walk1 | (dsimp only; walk1) | (dsimp only; k_unfold; (try dsimp only))))
        refine t_next ⟨c.lo, M, _, _⟩ (KT.trans KT3) B3 (by k_asm) (all5 rfl rfl rfl (by rw [← hM]; rfl) rfl) ⟨hp.1, hp.2.1, by dsimp only; omega, by dsimp only; omega⟩ (by dsimp only; omega)
  · have : c.lo = K := by omega
    rw [this]
    exact hret _ _ _ (keptS_all ((hg'.toS (base := base) (fun _ h => nomatch h)).turn KT) F2 N2 (fun _ h => nomatch h))
end
section
-- part M10
local macro_rules | `(tactic| walk_at $s) => if ["call ref", "call builtin:list.insert"].contains s.getString then `(tactic| (k_here; refine cut_any ?_)) else Lean.Macro.throwUnsupported
theorem fits_nat {K : Nat} (h : K ≤ 1000) : Builtin.List.listFitsIndex (K : Int) = true := by
  unfold Builtin.List.listFitsIndex
  simp only [Bool.and_eq_true, decide_eq_true_eq]
  omega
theorem ins_at {items : List Value} {y : Value} {K : Nat} (h : K ≤ items.length) : kl_ins items.toArray.toList (K : Int) y = items.take K ++ y :: items.drop K := by
  unfold kl_ins
  rw [List.toList_toArray, if_neg (by omega), Int.toNat_natCast, Nat.min_eq_left h]
theorem insR_spec {prog : Program} {w : World} {dp un : Nat} {gd : Option (List Code)} {s : Shared} {base : Heap} {fs : List Env} {loose : List Str} {mean : ExcName → Option Value} {mg mb : Str → Option Value}
    {Q : Value → Shared → Prop} {E : Value → Shared → Prop} {a : Nat} {text : Str} {tt : Tok} {items : List Value} {texts : List Str} {rows : List (List Str)} {ws : List Str} {K c : Nat}
    (B : Below (Ar dp un gd fs) base fs s.heap) (X : (fr.heap_1 w.params).In base) {vw : Program} (T : Top vw loose mean mg mb base) (hd : dp + 50 < recursionLimit) (hu : un + 110 < cLine)
    (O : Own base fs s.heap [(a, lstO items.toArray c)]) (hi : StrsAre items texts) (hr : Rows texts rows) (hlen : texts.length ≤ 1000)
    (ht1 : text.length ≤ 1000000) (ht2 : text.cps.toList.all isAlpha = true) (hW : Wds .ws text.cps.toList (some ws)) (hK : K ≤ texts.length) (hlt : ∀ i r, rows[i]? = some r → ltS ws r = decide (K ≤ i))
    (hret : ∀ h' tk' c', KeptS fs [(a, lstO (items.take K ++ .str text tt :: items.drop K).toArray c')] s.heap h' → Q .none { s with heap := h', toks := tk' }) :
    wpAny (model prog w) (Ar dp un gd fs) (call (.ref 48) [.ref a, .str text tt] [(Str.ofString "key", .ref 770)]) Q E s := by
  refine wpAny_call ?_
  refine' enterO B X T O ?k6 ?k7 ?k8 ?k9 ?kB ?_ ?c5 ?c2 ?c3 ?c4
  (((case k6 => k_is); (case k7 => k_is); (case k8 => (dsimp only [Ar]; omega)); (case k9 => first | exact BindsTo.of_eq rfl | exact binds_K (Frag.In.keeps (by assumption) (Below.stays (by assumption))) rfl (by k_is) rfl rfl rfl); (case c5 => decide); (case kB => exact locs rfl); (case c2 => exact rfl); (case c3 => exact rfl); (case c4 => exact rfl)))
  intro g' L' h' hg' F' N' B' X' T' l1
  dsimp only
  k_fold
  (repeat' (first | (k_unfold; (try dsimp only)) | walk1 | (dsimp only; walk1) | (dsimp only; k_unfold; (try dsimp only))))
  unfold Stop
  (with_reducible rename Fr _ _ _ _ => kF)
  (with_reducible rename News _ _ _ _ => kN)
  refine split_spec (ar_below kF B' rfl rfl) X T (by dsimp only [Ar]; omega) ht1 ht2 hW ?ret ?rse
  case rse => intro e h' tk' G hno; cases hno
  case ret =>
    intro r' ri c' h3 tk3 rs hrs hri KS hnew
    cases hrs
    have hra : a ≠ r' := fun e => by have := (kN _ (.head _)).1; rw [show (a, lstO items.toArray c).1 = r' from e, hnew] at this; cases this
    obtain ⟨g3, KT3, F3, B3, N3⟩ := groundS (news' := [(r', lstO ri.toArray c'), (a, lstO items.toArray c)]) B' kF kN rfl KS (fun p hp => .inr (by cases List.mem_singleton.mp hp; exact hnew))
      (all2 (.inl (.head _)) (.inr ⟨.head _, fun q hq => by cases List.mem_singleton.mp hq; exact fun e => hra e.symm⟩))
    clear kF kN KS hnew X' T'
    have X3 := X.keeps B3.stays
    have T3 := T.keeps B3.stays
    (repeat' (first | (k_unfold; (try dsimp only)) | walk1 | (dsimp only; walk1) | (dsimp only; k_unfold; (try dsimp only))))
    unfold Stop
    show wpAny _ _ (call (.ref 57) [.ref a, .ref r', .int 0 _, .none] [(Str.ofString "key", .ref 770)]) _ _ _
    refine bisR_spec (ar_below F3 B3 rfl rfl) X T (by dsimp only [Ar]; omega) (by dsimp only [Ar]; omega) (.inr ⟨_, rfl⟩) ⟨_, (N3 _ (.tail _ (.head _))).1, rfl, _, rfl⟩ ⟨_, (N3 _ (.head _)).1, rfl, _, rfl⟩ hi hri hr hlen hK hlt ?_
    intro t4 h4 tk4 KS4
    obtain ⟨g5, KT5, F5, B5, N5⟩ := groundS (news' := [(a, lstO items.toArray c)]) B3 F3 N3 rfl KS4 (fun p hp => nomatch hp) (fun p hp => .inr ⟨.tail _ hp, fun q hq => nomatch hq⟩)
    clear F3 N3 KS4 X3 T3
    have X5 := X.keeps B5.stays
    have T5 := T.keeps B5.stays
    (repeat' (first | (k_unfold; (try dsimp only)) | walk1 | (dsimp only; walk1) | (dsimp only; k_unfold; (try dsimp only))))
    unfold Stop
    (with_reducible rename Fr _ _ _ _ => kF)
    (with_reducible rename News _ _ _ _ => kN)
    refine' kl_insert (its := items.toArray) (n := c) (l := items.take K ++ .str text tt :: items.drop K) (news' := [(a, lstO (items.take K ++ .str text tt :: items.drop K).toArray (c + 1))]) ?F ?N ?f ?e ?U ?z ?_
    case F => exact kF
    case N => exact kN
    case f => exact fits_nat (by omega)
    case e => exact ins_at (by rw [hi.length]; exact hK)
    case U => exact .head (fun _ h => nomatch h)
    case z => rw [List.toList_toArray, hi.length]; exact Nat.le_trans hlen (by decide)
    intro h6 F6 N6
    (repeat' (first | (k_unfold; (try dsimp only)) | walk1 | (dsimp only; walk1) | (dsimp only; k_unfold; (try dsimp only))))
    exact hret _ _ _ (keptS_all ((hg'.toS O).turn (KT3.trans KT5)) F6 N6 (fun p hp => ⟨_, .head _, by cases List.mem_singleton.mp hp; rfl⟩))
theorem insL_spec {prog : Program} {w : World} {dp un : Nat} {gd : Option (List Code)} {s : Shared} {base : Heap} {fs : List Env} {loose : List Str} {mean : ExcName → Option Value} {mg mb : Str → Option Value}
    {Q : Value → Shared → Prop} {E : Value → Shared → Prop} {a : Nat} {text : Str} {tt : Tok} {items : List Value} {texts : List Str} {rows : List (List Str)} {ws : List Str} {K c : Nat}
    (B : Below (Ar dp un gd fs) base fs s.heap) (X : (fr.heap_1 w.params).In base) {vw : Program} (T : Top vw loose mean mg mb base) (hd : dp + 50 < recursionLimit) (hu : un + 110 < cLine)
    (O : Own base fs s.heap [(a, lstO items.toArray c)]) (hi : StrsAre items texts) (hr : Rows texts rows) (hlen : texts.length ≤ 1000)
    (ht1 : text.length ≤ 1000000) (ht2 : text.cps.toList.all isAlpha = true) (hW : Wds .ws text.cps.toList (some ws)) (hK : K ≤ texts.length) (hlt : ∀ i r, rows[i]? = some r → ltS r ws = decide (i < K))
    (hret : ∀ h' tk' c', KeptS fs [(a, lstO (items.take K ++ .str text tt :: items.drop K).toArray c')] s.heap h' → Q .none { s with heap := h', toks := tk' }) :
    wpAny (model prog w) (Ar dp un gd fs) (call (.ref 66) [.ref a, .str text tt] [(Str.ofString "key", .ref 770)]) Q E s := by
  refine wpAny_call ?_
  refine' enterO B X T O ?k6 ?k7 ?k8 ?k9 ?kB ?_ ?c5 ?c2 ?c3 ?c4
  (((case k6 => k_is); (case k7 => k_is); (case k8 => (dsimp only [Ar]; omega)); (case k9 => first | exact BindsTo.of_eq rfl | exact binds_K (Frag.In.keeps (by assumption) (Below.stays (by assumption))) rfl (by k_is) rfl rfl rfl); (case c5 => decide); (case kB => exact locs rfl); (case c2 => exact rfl); (case c3 => exact rfl); (case c4 => exact rfl)))
  intro g' L' h' hg' F' N' B' X' T' l1
  dsimp only
  k_fold
  (repeat' (first | (k_unfold; (try dsimp only)) | walk1 | (dsimp only; walk1) | (dsimp only; k_unfold; (try dsimp only))))
  unfold Stop
  (with_reducible rename Fr _ _ _ _ => kF)
  (with_reducible rename News _ _ _ _ => kN)
  refine split_spec (ar_below kF B' rfl rfl) X T (by dsimp only [Ar]; omega) ht1 ht2 hW ?ret ?rse
  case rse => intro e h' tk' G hno; cases hno
  case ret =>
    intro r' ri c' h3 tk3 rs hrs hri KS hnew
    cases hrs
    have hra : a ≠ r' := fun e => by have := (kN _ (.head _)).1; rw [show (a, lstO items.toArray c).1 = r' from e, hnew] at this; cases this
    obtain ⟨g3, KT3, F3, B3, N3⟩ := groundS (news' := [(r', lstO ri.toArray c'), (a, lstO items.toArray c)]) B' kF kN rfl KS (fun p hp => .inr (by cases List.mem_singleton.mp hp; exact hnew))
      (all2 (.inl (.head _)) (.inr ⟨.head _, fun q hq => by cases List.mem_singleton.mp hq; exact fun e => hra e.symm⟩))
    clear kF kN KS hnew X' T'
    have X3 := X.keeps B3.stays
    have T3 := T.keeps B3.stays
    (repeat' (first | (k_unfold; (try dsimp only)) | walk1 | (dsimp only; walk1) | (dsimp only; k_unfold; (try dsimp only))))
    unfold Stop
    show wpAny _ _ (call (.ref 75) [.ref a, .ref r', .int 0 _, .none] [(Str.ofString "key", .ref 770)]) _ _ _
    refine bisL_spec (ar_below F3 B3 rfl rfl) X T (by dsimp only [Ar]; omega) (by dsimp only [Ar]; omega) (.inr ⟨_, rfl⟩) ⟨_, (N3 _ (.tail _ (.head _))).1, rfl, _, rfl⟩ ⟨_, (N3 _ (.head _)).1, rfl, _, rfl⟩ hi hri hr hlen hK hlt ?_
    intro t4 h4 tk4 KS4
    obtain ⟨g5, KT5, F5, B5, N5⟩ := groundS (news' := [(a, lstO items.toArray c)]) B3 F3 N3 rfl KS4 (fun p hp => nomatch hp) (fun p hp => .inr ⟨.tail _ hp, fun q hq => nomatch hq⟩)
    clear F3 N3 KS4 X3 T3
    have X5 := X.keeps B5.stays
    have T5 := T.keeps B5.stays
    (repeat' (first | (k_unfold; (try dsimp only)) | walk1 | (dsimp only; walk1) | (dsimp only; k_unfold; (try dsimp only))))
    unfold Stop
    (with_reducible rename Fr _ _ _ _ => kF)
    (with_reducible rename News _ _ _ _ => kN)
    refine' kl_insert (its := items.toArray) (n := c) (l := items.take K ++ .str text tt :: items.drop K) (news' := [(a, lstO (items.take K ++ .str text tt :: items.drop K).toArray (c + 1))]) ?F ?N ?f ?e ?U ?z ?_
    case F => exact kF
    case N => exact kN
    case f => exact fits_nat (by omega)
    case e => exact ins_at (by rw [hi.length]; exact hK)
    case U => exact .head (fun _ h => nomatch h)
    case z => rw [List.toList_toArray, hi.length]; exact Nat.le_trans hlen (by decide)
    intro h6 F6 N6
    (repeat' (first | (k_unfold; (try dsimp only)) | walk1 | (dsimp only; walk1) | (dsimp only; k_unfold; (try dsimp only))))
    exact hret _ _ _ (keptS_all ((hg'.toS O).turn (KT3.trans KT5)) F6 N6 (fun p hp => ⟨_, .head _, by cases List.mem_singleton.mp hp; rfl⟩))
theorem insR_raise {prog : Program} {w : World} {dp un : Nat} {gd : Option (List Code)} {s : Shared} {base : Heap} {fs : List Env} {loose : List Str} {mean : ExcName → Option Value} {mg mb : Str → Option Value}
    {Q : Value → Shared → Prop} {E : Value → Shared → Prop} {a : Nat} {text : Str} {tt : Tok}
    (B : Below (Ar dp un gd fs) base fs s.heap) (X : (fr.heap_1 w.params).In base) {vw : Program} (T : Top vw loose mean mg mb base) (hd : dp + 50 < recursionLimit)
    (ht1 : text.length ≤ 1000000) (ht2 : text.cps.toList.all isAlpha = true) (hW : Wds .ws text.cps.toList none)
    (hraise : ∀ e h' tk' G, Sub s.heap [] G → RaisedSN base G fs e (.type "ValueError") [] h' → G.UpToSlots h' → E (.ref e) { s with heap := h', toks := tk' }) :
    wpAny (model prog w) (Ar dp un gd fs) (call (.ref 48) [.ref a, .str text tt] [(Str.ofString "key", .ref 770)]) Q E s := by
  refine wpAny_call ?_
  refine' enterO (own := []) B X T (fun _ h => nomatch h) ?k6 ?k7 ?k8 ?k9 ?kB ?_ ?c5 ?c2 ?c3 ?c4
  (((case k6 => k_is); (case k7 => k_is); (case k8 => (dsimp only [Ar]; omega)); (case k9 => first | exact BindsTo.of_eq rfl | exact binds_K (Frag.In.keeps (by assumption) (Below.stays (by assumption))) rfl (by k_is) rfl rfl rfl); (case c5 => decide); (case kB => exact locs rfl); (case c2 => exact rfl); (case c3 => exact rfl); (case c4 => exact rfl)))
  intro g' L' h' hg' F' N' B' X' T' l1
  dsimp only
  k_fold
  (repeat' (first | (k_unfold; (try dsimp only)) | walk1 | (dsimp only; walk1) | (dsimp only; k_unfold; (try dsimp only))))
  unfold Stop
  (with_reducible rename Fr _ _ _ _ => kF)
  (with_reducible rename News _ _ _ _ => kN)
  refine split_spec (ar_below kF B' rfl rfl) X T (by dsimp only [Ar]; omega) ht1 ht2 hW ?ret ?rse
  case ret => intro r' ri c' h3 tk3 rs hrs; cases hrs
  case rse =>
    intro e h2 tk2 G hR hS RS U
    k_unfold
    refine leave_onSN B' (fr_sub kF kN hS (fun p hp => nomatch hp)) RS U fun h3 R3 _ U3 => ?_
    dsimp only
    exact hraise _ _ _ _ hg' R3 U3
end
section
-- part M11
local macro_rules | `(tactic| walk_at "my none") => `(tactic| skip)
local macro_rules | `(tactic| walk_at "call ref") => `(tactic| (k_here; refine cut_any ?_))
theorem ref_spec {prog : Program} {w : World} {dp un : Nat} {gd : Option (List Code)} {s : Shared} {base : Heap} {fs : List Env} {loose : List Str} {mean : ExcName → Option Value} {mg mb : Str → Option Value}
    {Q : Value → Shared → Prop} {E : Value → Shared → Prop} {a : Nat} {text : Str} {tt : Tok}
    (B : Below (Ar dp un gd fs) base fs s.heap) (X : (fr.heap_1 w.params).In base) {vw : Program} (T : Top vw loose mean mg mb base) (hd : dp + 60 < recursionLimit) (D : KtsDicts (fs.filterMap (·.frame)) s.heap)
    (ht1 : text.length ≤ 1000000) (ht2 : text.cps.toList.all isAlpha = true) (hW : Wds .ws text.cps.toList none)
    (hret : ∀ h' tk', KeptS fs [] s.heap h' → Q (.bool true) { s with heap := h', toks := tk' }) :
    wpAny (model prog w) (Ar dp un gd fs) (call (.ref 791) [.ref a, .str text tt]) Q E s := by
  refine wpAny_call ?_
  refine' enterO (own := []) B X T (fun _ h => nomatch h) ?k6 ?k7 ?k8 ?k9 ?kB ?_ ?c5 ?c2 ?c3 ?c4
  (((case k6 => k_is); (case k7 => k_is); (case k8 => (dsimp only [Ar]; omega)); (case k9 => first | exact BindsTo.of_eq rfl | exact binds_K (Frag.In.keeps (by assumption) (Below.stays (by assumption))) rfl (by k_is) rfl rfl rfl); (case c5 => decide); (case kB => exact locs rfl); (case c2 => exact rfl); (case c3 => exact rfl); (case c4 => exact rfl)))
  intro g' L' h' hg' F' N' B' X' T' l1
  dsimp only
  k_fold
  (repeat' (first | (k_unfold; (try dsimp only)) | walk1 | (dsimp only; walk1) | (dsimp only; k_unfold; (try dsimp only))))
  unfold Stop
  (with_reducible rename Fr _ _ _ _ => kF)
  (with_reducible rename News _ _ _ _ => kN)
  show wpAny _ _ (call (.ref 48) [.ref a, .str text tt] [(Str.ofString "key", .ref 770)]) _ _ _
  refine insR_raise (ar_below kF B' rfl rfl) X T (by dsimp only [Ar]; omega) ht1 ht2 hW ?_
  intro e h2 tk2 G hS RS U
  have D' : KtsDicts (fs.filterMap (·.frame)) g' := fun b m => by
    obtain ⟨o, es, n, h1, h2⟩ := D b m
    exact ⟨o, es, n, hg'.get b o h1 (fun _ h => nomatch h), h2⟩
  dsimp only
  have FG := fr_sub kF kN hS (fun p hp => nomatch hp)
  refine' caught_SN0 (T' := "ValueError") (s' := { s with heap := h2, toks := tk2 }) RS FG B' U X T D' KtsTurn.refl ?ex PyProof.Rows.Boot.«ValueError» ?hn PySem.F.isExc_ValueError PySem.F.notTuple_ValueError ?hs ?_
  case ex => k_is
  case hn => decide
  case hs => kts_sub
  intro h6 g6 KT6 F6 N6 B6 X6 T6 D6
  clear kF kN FG U RS X' T'
  (repeat' (first | (k_unfold; (try dsimp only)) | walk1 | (dsimp only; walk1) | (dsimp only; k_unfold; (try dsimp only))))
  exact hret _ _ (keptS_all ((hg'.toS (base := base) (fun _ h => nomatch h)).turn KT6) F6 N6 (fun _ h => nomatch h))
end
section
-- part M12
noncomputable def spelled (ch : Nat) (way : Int) : List Nat :=
  if way = 0 then (if ch ∈ [97, 98, 35] then [ch] else [92, ch])
  else if way = 1 then (if ch = 39 then [34, ch, 34] else [39, ch, 39])
  else if ch ∈ [34, 92] then [34, 92, ch, 34] else [34, ch, 34]
local macro_rules | `(tactic| walk_at $s) => if ["compareOp In str str", "compareOp NotEq str str"].contains s.getString then `(tactic| (k_here; refine cut_any ?_)) else Lean.Macro.throwUnsupported
theorem spelled_spec {prog : Program} {w : World} {dp un : Nat} {gd : Option (List Code)} {s : Shared} {base : Heap} {fs : List Env} {loose : List Str} {mean : ExcName → Option Value} {mg mb : Str → Option Value}
    {Q : Value → Shared → Prop} {E : Value → Shared → Prop} {ch : Nat} {way : Int} {tt tw : Tok}
    (B : Below (Ar dp un gd fs) base fs s.heap) (X : (fr.heap_1 w.params).In base) {vw : Program} (T : Top vw loose mean mg mb base) (hd : dp + 10 < recursionLimit)
    (hret : ∀ h' tk' t', Kept [] s.heap h' → Q (.str ⟨(spelled ch way).toArray⟩ t') { s with heap := h', toks := tk' }) :
    wpAny (model prog w) (Ar dp un gd fs) (call (.ref 777) [.str ⟨#[ch]⟩ tt, .int way tw]) Q E s := by
  refine wpAny_call ?_
  refine' enterO (own := []) B X T (fun _ h => nomatch h) ?k6 ?k7 ?k8 ?k9 ?kB ?_ ?c5 ?c2 ?c3 ?c4
  (((case k6 => k_is); (case k7 => k_is); (case k8 => (dsimp only [Ar]; omega)); (case k9 => first | exact BindsTo.of_eq rfl | exact binds_K (Frag.In.keeps (by assumption) (Below.stays (by assumption))) rfl (by k_is) rfl rfl rfl); (case c5 => decide); (case kB => exact locs rfl); (case c2 => exact rfl); (case c3 => exact rfl); (case c4 => exact rfl)))
  intro g' L' h' hg' F' N' B' X' T' l1
  dsimp only
  k_fold
  (repeat' (first | (k_unfold; (try dsimp only)) | walk1 | (dsimp only; walk1) | (dsimp only; k_unfold; (try dsimp only))))
  · unfold Stop
    (with_reducible rename way = 0 => hw0)
    by_cases hc : ch ∈ [97, 98, 35]
    · refine in_sign (b := true) (decide_eq_true hc) ?_
      (repeat' (first | (k_unfold; (try dsimp only)) | walk1 | (dsimp only; walk1) | (dsimp only; k_unfold; (try dsimp only))))
      have e : spelled ch way = [ch] := by unfold spelled; rw [if_pos hw0, if_pos hc]
      rw [e] at hret
      exact hret _ _ _ (kept_all hg' (by k_asm) (by k_asm) (fun _ h => nomatch h))
    · refine in_sign (b := false) (decide_eq_false hc) ?_
      (repeat' (first | (k_unfold; (try dsimp only)) | walk1 | (dsimp only; walk1) | (dsimp only; k_unfold; (try dsimp only))))
      have e : spelled ch way = [92, ch] := by unfold spelled; rw [if_pos hw0, if_neg hc]
      rw [e] at hret
      exact hret _ _ _ (kept_all hg' (by k_asm) (by k_asm) (fun _ h => nomatch h))
  · unfold Stop
    (with_reducible rename way = 1 => hw1)
    have hw0 : ¬ way = 0 := by omega
    by_cases hc : ch = 39
    · subst hc
      refine ne_sign (b := true) (by decide) ?_
      (repeat' (first | (k_unfold; (try dsimp only)) | walk1 | (dsimp only; walk1) | (dsimp only; k_unfold; (try dsimp only))))
      have e : spelled 39 way = [34, 39, 34] := by unfold spelled; rw [if_neg hw0, if_pos hw1, if_pos rfl]
      rw [e] at hret
      exact hret _ _ _ (kept_all hg' (by k_asm) (by k_asm) (fun _ h => nomatch h))
    · refine ne_sign (b := false) (by
        rw [beq_eq_false_iff_ne]
        intro q
        have := congrArg (fun z : Str => z.cps.toList) q
        have e39 : (Str.ofString "'").cps.toList = [39] := by decide
        exact hc (List.cons.inj (this.trans e39)).1) ?_
      (repeat' (first | (k_unfold; (try dsimp only)) | walk1 | (dsimp only; walk1) | (dsimp only; k_unfold; (try dsimp only))))
      have e : spelled ch way = [39, ch, 39] := by unfold spelled; rw [if_neg hw0, if_pos hw1, if_neg hc]
      rw [e] at hret
      exact hret _ _ _ (kept_all hg' (by k_asm) (by k_asm) (fun _ h => nomatch h))
  · unfold Stop
    have hw0 : ¬ way = 0 := by omega
    have hw1 : ¬ way = 1 := by omega
    by_cases hc : ch ∈ [34, 92]
    · refine in_sign (b := true) (decide_eq_true hc) ?_
      (repeat' (first | (k_unfold; (try dsimp only)) | walk1 | (dsimp only; walk1) | (dsimp only; k_unfold; (try dsimp only))))
      have e : spelled ch way = [34, 92, ch, 34] := by unfold spelled; rw [if_neg hw0, if_neg hw1, if_pos hc]
      rw [e] at hret
      exact hret _ _ _ (kept_all hg' (by k_asm) (by k_asm) (fun _ h => nomatch h))
    · refine in_sign (b := false) (decide_eq_false hc) ?_
      (repeat' (first | (k_unfold; (try dsimp only)) | walk1 | (dsimp only; walk1) | (dsimp only; k_unfold; (try dsimp only))))
      have e : spelled ch way = [34, ch, 34] := by unfold spelled; rw [if_neg hw0, if_neg hw1, if_neg hc]
      rw [e] at hret
      exact hret _ _ _ (kept_all hg' (by k_asm) (by k_asm) (fun _ h => nomatch h))
end
section
-- part M13
section
variable {prog : Program} {w : World} {A A₀ : Around} {E : Value → Shared → Prop} {Q : Flow → Shared → Prop} {s : Shared} {env : Env} {g base : Heap} {outer : List Env}
noncomputable def FEnd (A₀ : Around) (base : Heap) (outer : List Env) (g : Heap) (L : Addr) (s : Shared) (wr : List Addr) (own : Led) (J : (Str → Option Value) → Led → Prop) (s₂ : Shared) : Prop :=
  ∃ (g' h' : Heap) (tk : Nat) (m' : Str → Option Value) (news' : Led), s₂ = { s with heap := h', toks := tk } ∧ KtsTurn (outer.filterMap (·.frame)) g g' ∧ Below A₀ base outer g' ∧ Fr g' L h' m' ∧ News g' L h' (own ++ news') ∧ (∀ p ∈ news', p.1 ∉ wr) ∧ J m' news'
noncomputable def FPost (A₀ : Around) (base : Heap) (outer : List Env) (g : Heap) (L : Addr) (s : Shared) (wr : List Addr) (own : Led) (J : (Str → Option Value) → Led → Prop) (Q : Flow → Shared → Prop) (f : Flow) (s₂ : Shared) : Prop :=
  match f with
  | .ret v => Q (.ret v) s₂
  | .brk => Q .next s₂
  | _ => FEnd A₀ base outer g L s wr own J s₂
theorem FPost.own {L : Addr} {wr : List Addr} {own own' : Led} {J : (Str → Option Value) → Led → Prop} {f : Flow} {s₂ : Shared} (h : ∀ p ∈ own, p ∈ own') (q : FPost A₀ base outer g L s wr own' J Q f s₂) : FPost A₀ base outer g L s wr own J Q f s₂ := by
  have key : FEnd A₀ base outer g L s wr own' J s₂ → FEnd A₀ base outer g L s wr own J s₂ := by
    rintro ⟨g₃, h₃', tk₃, m₂, news₂, rfl, KT₃, B₃, F₃, N₃, ha₃, hJ₃⟩
    refine ⟨g₃, h₃', tk₃, m₂, news₂, rfl, KT₃, B₃, F₃, fun p hp => N₃ p ?_, ha₃, hJ₃⟩
    rcases List.mem_append.mp hp with hp | hp
    · exact List.mem_append_left _ (h p hp)
    · exact List.mem_append_right _ hp
  cases f with
  | ret v => exact q
  | brk => exact q
  | next => exact key q
  | cont => exact key q
theorem own_two {h : Heap} {a b : Addr} {oa ob : Obj} {own : Led} (hs : ∀ p ∈ own, p.1 ∈ [a, b]) (hg : ∀ p ∈ own, h.get? p.1 = some p.2) (ha : h.get? a = some oa) (hb : h.get? b = some ob) : ∀ p ∈ own, p ∈ [(a, oa), (b, ob)] := by
  intro p hp
  obtain ⟨q, oq⟩ := p
  have h1 := hs _ hp
  have h2 := hg _ hp
  dsimp only at h1 h2
  rcases List.mem_cons.mp h1 with rfl | h1
  · rw [ha] at h2; rw [Option.some.inj h2]; exact .head _
  · have := List.mem_singleton.mp h1
    subst this
    rw [hb] at h2; rw [Option.some.inj h2]; exact .tail _ (.head _)
theorem own_one' {h : Heap} {a : Addr} {oa : Obj} {own : Led} (hs : ∀ p ∈ own, p.1 ∈ [a]) (hg : ∀ p ∈ own, h.get? p.1 = some p.2) (ha : h.get? a = some oa) : ∀ p ∈ own, p ∈ [(a, oa)] := by
  intro p hp
  obtain ⟨q, oq⟩ := p
  have h1 := List.mem_singleton.mp (hs _ hp)
  have h2 := hg _ hp
  dsimp only at h1 h2
  subst h1
  rw [ha] at h2; rw [Option.some.inj h2]; exact .head _
theorem for_code {x : Str} {px : Pos} {body : List Stmt} {I : Addr} {fp wr : List Addr} {n : Nat} {P : Nat → Value → Prop} {St : Nat → Heap → Prop} {m : Str → Option Value} {news : Led} {R : Result → Shared → Prop}
    (W : Walks prog w A I fp wr n P St) (hx : env.kindOf x = some .local) (hp : (env.scope.kind == .class || (env.scope.kind == .module && env.locals != env.globals)) = false)
    (hLf : env.locals ∉ fp) (hfp : ∀ b ∈ fp, g.get? b = none) (hnw : ∀ p ∈ news, p.1 ∉ wr) (hst : St 0 s.heap) (B : Below A₀ base outer g) (F : Fr g env.locals s.heap m) (N : News g env.locals s.heap news)
    (J : Nat → (Str → Option Value) → Led → Prop) (h0 : J 0 m news)
    (step : ∀ i v g' m₁ news₁ h tk own, i < n → P i v → J i m₁ news₁ → (∀ p ∈ news₁, p.1 ∉ wr) → (∀ p ∈ own, p.1 ∈ fp) → (∀ b ∈ fp, ∀ o, h.get? b = some o → (b, o) ∈ own) → St (i + 1) h → KtsTurn (outer.filterMap (·.frame)) g g' → Below A₀ base outer g' →
      Fr g' env.locals h (fun y => if y = x then some v else m₁ y) → News g' env.locals h (own ++ news₁) →
      wpAny (model prog w) A (execs body env) (FPost A₀ base outer g env.locals s wr own (J (i + 1)) fun f s' => R (.ok f) s') (notedBy (model prog w) A env fun e s' => R (.error e) s') { s with heap := h, toks := tk })
    (hR : ∀ g' h' tk m' news', KtsTurn (outer.filterMap (·.frame)) g g' → Below A₀ base outer g' → Fr g' env.locals h' m' → News g' env.locals h' news' → J n m' news' → R (.ok .next) { s with heap := h', toks := tk }) :
    codeAny (model prog w) A (.forLoop (.Name x px) (.ref I) body [] env) R s := by
  have hLw : env.locals ∉ wr := fun h => hLf (W.sub _ h)
  refine codeAny_forLoop
    (fun k s' => ∃ g' h' tk m' news' i, s' = { s with heap := h', toks := tk } ∧ St i h' ∧ KtsTurn (outer.filterMap (·.frame)) g g' ∧ Below A₀ base outer g' ∧ Fr g' env.locals h' m' ∧ News g' env.locals h' news' ∧ (∀ p ∈ news', p.1 ∉ wr) ∧ J i m' news' ∧ i ≤ n ∧ k = n + 1 - i) ?_ (n + 1)
    ⟨g, s.heap, s.toks, m, news, 0, rfl, hst, .refl, B, F, N, hnw, h0, Nat.zero_le _, rfl⟩
  rintro k s' ⟨g', h', tk, m', news', i, rfl, hst', KT', B', F', N', hnw', hJ, hi, rfl⟩
  have hwr : ∀ b ∈ wr, g'.get? b = none := fun b hb => KT'.none_ _ (hfp b (W.sub _ hb))
  have old : ∀ b o, g'.get? b = some o → b ∉ wr := fun b o e hb => by rw [hwr b hb] at e; cases e
  have next : ∀ h₁ : Heap, (∀ b o, b ∉ wr → h'.get? b = some o → h₁.get? b = some o) → Fr g' env.locals h₁ m' ∧ News g' env.locals h₁ news' := fun h₁ hk₁ =>
    ⟨⟨F'.ns.at' fun o e => hk₁ _ o hLw e, fun b o e => hk₁ b o (old b o e) (F'.keep b o e), F'.above⟩, fun p hp => ⟨hk₁ _ _ (hnw' p hp) (N' p hp).1, (N' p hp).2⟩⟩
  by_cases hlt : i < n
  · refine W.item i _ _ _ hlt hst' fun v h₁ tk₁ hP hst₁ hk₁ => ?_
    obtain ⟨F₁, N₁⟩ := next h₁ hk₁
    refine wpAny_assign_Name (wpAny_storeName_local hx F₁.ns (fun h₂ hn₂ hs₂ => ?_) hp)
    have F₂ := F₁.set hn₂ hs₂
    have Nown : News g' env.locals h₂ (ownOf g' fp h₂) := news_ownOf hLf
    have hst₂ : St (i + 1) h₂ := W.frame _ _ _ hst₁ fun b hb o e => (hs₂.2 b fun q => hLf (q ▸ hb)).trans e
    refine wpAny_mono (step i v g' m' news' _ _ (ownOf g' fp h₂) hlt hP hJ hnw' ownOf_sub (fun b hb o e => mem_ownOf hb (KT'.none_ _ (hfp b hb)) e) hst₂ KT' B' F₂ (Nown.append (N₁.set hs₂))) (fun f s₃ h₃ => ?_) fun _ _ e => e
    have fin : FEnd A₀ base outer g env.locals s wr (ownOf g' fp h₂) (J (i + 1)) s₃ → ∃ m, m < n + 1 - i ∧ ∃ g' h' tk m' news' i, s₃ = { s with heap := h', toks := tk } ∧ St i h' ∧ KtsTurn (outer.filterMap (·.frame)) g g' ∧ Below A₀ base outer g' ∧ Fr g' env.locals h' m' ∧ News g' env.locals h' news' ∧ (∀ p ∈ news', p.1 ∉ wr) ∧ J i m' news' ∧ i ≤ n ∧ m = n + 1 - i := by
      rintro ⟨g₃, h₃', tk₃, m₂, news₂, rfl, KT₃, B₃, F₃, N₃, ha₃, hJ₃⟩
      refine ⟨n + 1 - (i + 1), by omega, g₃, h₃', tk₃, m₂, news₂, i + 1, rfl, ?_, KT₃, B₃, F₃, N₃.right, ha₃, hJ₃, hlt, rfl⟩
      refine W.frame _ _ _ hst₁ fun b hb o e => ?_
      have e₂ : h₂.get? b = some o := (hs₂.2 b fun q => hLf (q ▸ hb)).trans e
      exact (N₃ _ (List.mem_append_left _ (mem_ownOf hb (KT'.none_ _ (hfp b hb)) e₂))).1
    cases f with
    | ret v => exact h₃
    | brk => exact h₃
    | cont => exact fin h₃
    | next => exact fin h₃
  · have hin : i = n := by omega
    subst hin
    refine W.done _ _ _ hst' fun h₁ tk₁ hk₁ => wpAny_execs_nil ?_
    obtain ⟨F₁, N₁⟩ := next h₁ hk₁
    exact hR g' h₁ tk₁ m' news' KT' B' F₁ N₁ hJ
/-- what stands when a loop over a list of numbers or a range begins -/
theorem for_ints {x : Str} {px : Pos} {body : List Stmt} {l : Nat} {vs : List Value} {ns : List Int} {c : Nat} {m : Str → Option Value} {news : Led}
    (hh : A.handled = none) (hx : env.kindOf x = some .local) (hp : (env.scope.kind == .class || (env.scope.kind == .module && env.locals != env.globals)) = false) (hi : IntsAre vs ns)
    (B : Below A₀ base outer g) (F : Fr g env.locals s.heap m) (N : News g env.locals s.heap ((l, lstO vs.toArray c) :: news))
    (J : Nat → Nat → (Str → Option Value) → Led → Prop) (h0 : J l 0 m news)
    (step : ∀ (I : Nat) (i : Nat) (n : Int) (t : Tok) g' m₁ news₁ h tk o ol, ns[i]? = some n → J l i m₁ news₁ → (∀ p ∈ news₁, p.1 ≠ I) → KtsTurn (outer.filterMap (·.frame)) g g' → Below A₀ base outer g' →
      Fr g' env.locals h (fun y => if y = x then some (.int n t) else m₁ y) → News g' env.locals h ((I, o) :: (l, ol) :: news₁) →
      wpAny (model prog w) A (execs body env) (FPost A₀ base outer g env.locals s [I] [(I, o), (l, ol)] (J l (i + 1)) Q) E { s with heap := h, toks := tk })
    (hQ : ∀ g' h' tk m' news', KtsTurn (outer.filterMap (·.frame)) g g' → Below A₀ base outer g' → Fr g' env.locals h' m' → News g' env.locals h' news' → J l ns.length m' news' → Q .next { s with heap := h', toks := tk })
    (hE : PassesOwn (model prog w) A env E := by passes_own) :
    wpAny (model prog w) A (pyIter (.ref l)) (fun it s₂ => codeAny (model prog w) A (.forLoop (.Name x px) it body [] env) (fun r s' => match r with | .ok f => Q f s' | .error e => cameBackBy (model prog w) A env E e s') s₂) E s := by
  have hlg : s.heap.get? l = some (lstO vs.toArray c) := (N _ (.head _)).1
  have hls : s.heap.IsList l vs.toArray := ⟨_, hlg, rfl, _, rfl⟩
  have hne : l ≠ s.heap.objs.size := Nat.ne_of_lt (Heap.lt_size hlg)
  refine wpAny_pyIter_list hls ?_
  have W := Walks.list (prog := prog) (w := w) hh s.heap.objs.size l hne vs.toArray
  have hlen : vs.toArray.size = ns.length := by simp [hi.length]
  rw [hlen] at W
  have nL : env.locals < s.heap.objs.size := F.ns.lt
  refine for_code (g := g) (news := news) (R := fun r s' => match r with | .ok f => Q f s' | .error e => cameBackBy (model prog w) A env E e s') W hx hp ?_ ?_ ?_ ⟨⟨_, Heap.get?_push_size _ rfl, rfl, rfl⟩, hls.at fun o e => Heap.get?_push_of_some _ e⟩ B (F.push _) (fun p hp => ⟨Heap.get?_push_of_some _ (N p (.tail _ hp)).1, (N p (.tail _ hp)).2⟩) (J l) h0 ?_ hQ
  · intro hm
    rcases List.mem_cons.mp hm with e | hm
    · exact absurd nL (e ▸ Nat.lt_irrefl _)
    · exact (N _ (.head _)).2.1 (List.mem_singleton.mp hm).symm
  · intro b hb
    rcases List.mem_cons.mp hb with e | hb
    · exact e ▸ next_is_new F
    · exact (List.mem_singleton.mp hb) ▸ (N _ (.head _)).2.2
  · intro p hp hI
    exact absurd (Heap.lt_size (N p (.tail _ hp)).1) ((List.mem_singleton.mp hI) ▸ Nat.lt_irrefl _)
  · intro i v g' m₁ news₁ h tk own hin hP hJ hnw hsub hown hst KT B' F' N'
    obtain ⟨⟨oI, hoI, _⟩, hlS⟩ := id hst
    obtain ⟨t, hxv⟩ := hi.get i ns[i] (by simp [hin])
    have hv : v = .int ns[i] t := by
      have hP' : vs[i]? = some v := by simpa using hP
      rw [hxv] at hP'; exact (Option.some.inj hP').symm
    subst hv
    obtain ⟨ol, hol, _⟩ := id hlS
    have eown : ∀ p ∈ own, p ∈ [(s.heap.objs.size, oI), (l, ol)] := own_two hsub (fun p hp => (N' p (List.mem_append_left _ hp)).1) hoI hol
    refine wpAny_passesOwn hE (wpAny_mono (step s.heap.objs.size i ns[i] t g' m₁ news₁ h tk oI ol (by simp [hin]) hJ (fun p hp e => hnw p hp (List.mem_singleton.mpr e)) KT B' F' ?_) (fun f s₃ h₃ => ?_) fun _ _ e => e)
    · intro p hp
      rcases List.mem_cons.mp hp with rfl | hp
      · exact N' _ (List.mem_append_left _ (hown _ (.head _) _ hoI))
      · rcases List.mem_cons.mp hp with rfl | hp
        · exact N' _ (List.mem_append_left _ (hown _ (.tail _ (.head _)) _ hol))
        · exact N' _ (List.mem_append_right _ hp)
    · exact FPost.own eown h₃
theorem for_range {x : Str} {px : Pos} {body : List Stmt} {r : Addr} {n : Nat} {b₀ : Int} {t₀ u₀ v₀ : Tok} {m : Str → Option Value} {news : Led}
    (hh : A.handled = none) (hx : env.kindOf x = some .local) (hp : (env.scope.kind == .class || (env.scope.kind == .module && env.locals != env.globals)) = false)
    (hr : IsRange s.heap r 0 b₀ 1 t₀ u₀ v₀) (hsmall : Builtin.Range.small 0 b₀ 1 = true) (hn : Builtin.Range.rangeSize 0 b₀ 1 = (n : Int))
    (B : Below A₀ base outer g) (F : Fr g env.locals s.heap m) (N : News g env.locals s.heap news)
    (J : Nat → (Str → Option Value) → Led → Prop) (h0 : J 0 m news)
    (step : ∀ (I : Nat) (i : Nat) (t : Tok) g' m₁ news₁ h tk o, i < n → J i m₁ news₁ → (∀ p ∈ news₁, p.1 ≠ I) → KtsTurn (outer.filterMap (·.frame)) g g' → Below A₀ base outer g' →
      Fr g' env.locals h (fun y => if y = x then some (.int i t) else m₁ y) → News g' env.locals h ((I, o) :: news₁) →
      wpAny (model prog w) A (execs body env) (FPost A₀ base outer g env.locals s [I] [(I, o)] (J (i + 1)) Q) E { s with heap := h, toks := tk })
    (hQ : ∀ g' h' tk m' news', KtsTurn (outer.filterMap (·.frame)) g g' → Below A₀ base outer g' → Fr g' env.locals h' m' → News g' env.locals h' news' → J n m' news' → Q .next { s with heap := h', toks := tk })
    (hE : PassesOwn (model prog w) A env E := by passes_own) :
    wpAny (model prog w) A (pyIter (.ref r)) (fun it s₂ => codeAny (model prog w) A (.forLoop (.Name x px) it body [] env) (fun r s' => match r with | .ok f => Q f s' | .error e => cameBackBy (model prog w) A env E e s') s₂) E s := by
  refine wpAny_pyIter_range hr hsmall ?_
  have W : Walks prog w A s.heap.objs.size [s.heap.objs.size] [s.heap.objs.size] n (fun i v => i < n ∧ ∃ t, v = .int (0 + i * 1) t)
      (fun i h => IsRangeIter h s.heap.objs.size (0 + (i : Nat) * 1) ((n : Int) - (i : Nat)) 1) := (Walks.range hh _ 0 1 n).bound
  have nL : env.locals < s.heap.objs.size := F.ns.lt
  refine for_code (g := g) (news := news) (R := fun r s' => match r with | .ok f => Q f s' | .error e => cameBackBy (model prog w) A env E e s') W hx hp ?_ ?_ ?_ (by show IsRangeIter _ _ _ _ _; rw [hn]; simpa using Heap.get?_push_size _ rfl) B (F.push _) (fun p hp => ⟨Heap.get?_push_of_some _ (N p hp).1, (N p hp).2⟩) J h0 ?_ hQ
  · intro hm
    exact absurd nL ((List.mem_singleton.mp hm) ▸ Nat.lt_irrefl _)
  · intro b hb
    exact (List.mem_singleton.mp hb) ▸ next_is_new F
  · intro p hp hI
    exact absurd (Heap.lt_size (N p hp).1) ((List.mem_singleton.mp hI) ▸ Nat.lt_irrefl _)
  · intro i v g' m₁ news₁ h tk own hin hP hJ hnw hsub hown hst KT B' F' N'
    obtain ⟨_, t, rfl⟩ := hP
    obtain ⟨oI, hoI⟩ : ∃ oI, h.get? s.heap.objs.size = some oI := ⟨_, hst⟩
    have eown := own_one' hsub (fun p hp => (N' p (List.mem_append_left _ hp)).1) hoI
    rw [show (0 : Int) + (i : Int) * 1 = i from by omega] at F'
    refine wpAny_passesOwn hE (wpAny_mono (step s.heap.objs.size i t g' m₁ news₁ h tk oI hin hJ (fun p hp e => hnw p hp (List.mem_singleton.mpr e)) KT B' F' ?_) (fun f s₃ h₃ => ?_) fun _ _ e => e)
    · intro p hp
      rcases List.mem_cons.mp hp with rfl | hp
      · exact N' _ (List.mem_append_left _ (hown _ (.head _) _ hoI))
      · exact N' _ (List.mem_append_right _ hp)
    · exact FPost.own eown h₃
end
end
section
-- part MEq
theorem canLay_strs : ∀ ns : List Str, (∀ x ∈ ns, PyData.strOk x = true) → PyData.canLayAll0 (ns.map PyData.str) = true
  | [], _ => rfl
  | a :: r, h => by simp [PyData.canLayAll0, PyData.canLay0, canLay_strs r (fun x hx => h x (.tail _ hx)), h a (.head _)]
theorem depth_strs : ∀ ns : List Str, PyData.depthAll (ns.map PyData.str) = 0
  | [] => rfl
  | _ :: r => by simp [PyData.depthAll, PyData.depth, depth_strs r]
theorem shaped_strs (ns : List Str) (h : ∀ x ∈ ns, PyData.strOk x = true) : SeqAt.shaped (.list (ns.map PyData.str)) = true := by
  simp [SeqAt.shaped, PyData.canLay0, PyData.depth, canLay_strs _ h, depth_strs]
theorem eqv_strs : ∀ ns ms : List Str, PyData.eqvAll (ns.map PyData.str) (ms.map PyData.str) = decide (ns = ms)
  | [], [] => by simp [PyData.eqvAll]
  | [], _ :: _ => by simp [PyData.eqvAll]
  | _ :: _, [] => by simp [PyData.eqvAll]
  | a :: r, b :: t => by
    simp only [List.map_cons, PyData.eqvAll, PyData.eqv, eqv_strs r t]
    by_cases h : a = b <;> by_cases h' : r = t <;> simp [h, h']
section
variable {prog : Program} {w : World} {A : Around} {E : Value → Shared → Prop} {s : Shared} {a b : Addr} {oa ob : Obj} {xs ys : List Value} {rs ss : List Str} {n1 n2 : Nat} {Q : Value → Shared → Prop}
theorem reads_strs {h : Heap} {a : Addr} {xs : Array Value} {rs : List Str} (ha : h.IsList a xs) (h1 : StrsAre xs.toList rs) : Reads h (.ref a) (.list (rs.map .str)) (a :: []) := by
  obtain ⟨o, ho, hc, n, hd⟩ := ha
  exact reads_list_at ho hc hd (h1.reads h)
theorem eq_strs {xs ys : Array Value} (ha : s.heap.IsList a xs) (hb : s.heap.IsList b ys) (h1 : StrsAre xs.toList rs) (h2 : StrsAre ys.toList ss) (o1 : ∀ x ∈ rs, PyData.strOk x = true) (o2 : ∀ x ∈ ss, PyData.strOk x = true) (hu : A.units + 64 < cLine) (h : Q (.bool (decide (rs = ss))) s) :
    wpAny (model prog w) A (compareOp .Eq (.ref a) (.ref b)) Q E s :=
  eq_dataH (reads_strs ha h1) (reads_strs hb h2) (shaped_strs _ o1) (shaped_strs _ o2) hu (by rw [PyData.eqv, eqv_strs]; exact h)
theorem ne_strs {xs ys : Array Value} (ha : s.heap.IsList a xs) (hb : s.heap.IsList b ys) (h1 : StrsAre xs.toList rs) (h2 : StrsAre ys.toList ss) (o1 : ∀ x ∈ rs, PyData.strOk x = true) (o2 : ∀ x ∈ ss, PyData.strOk x = true) (hu : A.units + 64 < cLine) (h : Q (.bool (!decide (rs = ss))) s) :
    wpAny (model prog w) A (compareOp .NotEq (.ref a) (.ref b)) Q E s :=
  ne_dataH (reads_strs ha h1) (reads_strs hb h2) (shaped_strs _ o1) (shaped_strs _ o2) hu (by rw [PyData.eqv, eqv_strs]; exact h)
end
end
-- part M14b
structure Ln where
  (row : List Str) (text fault : Str)
noncomputable def LnAt (led : Led) (v : Value) (ln : Ln) : Prop :=
  ∃ (p r : Nat) (xs : List Value) (c1 c2 : Nat) (t f : Tok), v = .ref p ∧ (p, lstO #[.ref r, .str ln.text t, .str ln.fault f] c1) ∈ led ∧ (r, lstO xs.toArray c2) ∈ led ∧ StrsAre xs ln.row
inductive Lns (led : Led) : List Value → List Ln → Prop
  | nil : Lns led [] []
  | cons {v ln vs lns} : LnAt led v ln → Lns led vs lns → Lns led (v :: vs) (ln :: lns)
theorem abs_flow {M : Model} {A : Around} {E : Value → Shared → Prop} {t : Sem Flow} {s₀ : Shared} {W₀ : Flow → Shared → Prop} (h : ∀ W : Flow → Shared → Prop, (∀ f s, W₀ f s → W f s) → wpAny M A t W E s₀) : wpAny M A t W₀ E s₀ := h W₀ fun _ _ x => x
theorem LnAt.mono {led led' : Led} {v : Value} {ln : Ln} (h : ∀ p ∈ led, p ∈ led') : LnAt led v ln → LnAt led' v ln := by
  rintro ⟨p, r, xs, c1, c2, t, f, rfl, h1, h2, h3⟩
  exact ⟨p, r, xs, c1, c2, t, f, rfl, h _ h1, h _ h2, h3⟩
theorem Lns.mono {led led' : Led} (h : ∀ p ∈ led, p ∈ led') : ∀ {vs : List Value} {lns : List Ln}, Lns led vs lns → Lns led' vs lns
  | _, _, .nil => .nil
  | _, _, .cons a b => .cons (a.mono h) (b.mono h)
theorem Lns.snoc {led : Led} {v : Value} {ln : Ln} : ∀ {vs : List Value} {lns : List Ln}, Lns led vs lns → LnAt led v ln → Lns led (vs ++ [v]) (lns ++ [ln])
  | _, _, .nil, h => .cons h .nil
  | _, _, .cons a b, h => .cons a (b.snoc h)
theorem Lns.length {led : Led} : ∀ {vs : List Value} {lns : List Ln}, Lns led vs lns → vs.length = lns.length
  | _, _, .nil => rfl
  | _, _, .cons _ b => by simp [b.length]
theorem seq_last (us : List Value) (v : Value) : seqIndex? (-1) (us ++ [v]).length = some us.length := by
  rw [List.length_append, List.length_singleton]
  unfold seqIndex?
  simp
  omega
theorem news_pre2 {g h : Heap} {L : Addr} {a b : Addr × Obj} {l : Led} (N : News g L h l) (h1 : a ∈ l) (h2 : b ∈ l) : News g L h (a :: b :: l) := by
  intro q hq
  rcases List.mem_cons.mp hq with rfl | hq
  · exact N _ h1
  · rcases List.mem_cons.mp hq with rfl | hq
    · exact N _ h2
    · exact N _ hq
abbrev LnS := List Ln × Ln
noncomputable def signs : List Nat := [97, 98, 32, 39, 34, 92, 35, 10]
noncomputable def lnStep (st : LnS) (x : Int) : LnS :=
  let ln := st.2
  if x.fmod 12 = 0 then (st.1 ++ [ln], ⟨[], Str.ofString "", Str.ofString ""⟩)
  else if x.fmod 12 = 1 then (st.1, ⟨ln.row ++ [Str.ofString ""], ln.text ++ Str.ofString " ''", ln.fault⟩)
  else if x.fmod 12 = 2 then (st.1, ⟨ln.row ++ [Str.ofString "b"], ln.text ++ Str.ofString "\t b", ln.fault⟩)
  else if x.fmod 12 = 3 then (st.1, ⟨ln.row, ln.text, Txt.item (Str.ofString "'\\") ((x.fdiv 12).fmod 2)⟩)
  else
    let ch := signs.getD (x.fmod 12 - 4).toNat 0
    let last : Str := match ln.row.getLast? with | some l => l ++ ⟨#[ch]⟩ | none => ⟨#[ch]⟩
    (st.1, ⟨ln.row.dropLast ++ [last], ln.text ++ ⟨(spelled ch ((x.fdiv 12).fmod 3)).toArray⟩, ln.fault⟩)
noncomputable def lns0 : LnS := ([⟨[Str.ofString "a"], Str.ofString "a", Str.ofString "'"⟩, ⟨[Str.ofString "b"], Str.ofString "b", Str.ofString ""⟩], ⟨[Str.ofString "a", Str.ofString ""], Str.ofString "a ''", Str.ofString ""⟩)
noncomputable def linesOf (ns : List Int) : LnS := ns.foldl lnStep lns0
noncomputable def allLines (ns : List Int) : List Ln := (linesOf ns).1 ++ [(linesOf ns).2]
theorem linesOf_succ {ns : List Int} {i : Nat} {x : Int} (h : ns[i]? = some x) : linesOf (ns.take (i + 1)) = lnStep (linesOf (ns.take i)) x := by
  unfold linesOf
  rw [List.take_add_one, h, List.foldl_append]
  rfl
theorem strOk_alpha {x : Str} (h : x.cps.toList.all isAlpha = true) : PyData.strOk x = true := by
  unfold PyData.strOk
  rw [← Array.all_toList]
  rw [List.all_eq_true] at h ⊢
  intro c hc
  have := h c hc
  simp [isAlpha] at this ⊢
  omega
theorem sign_at {k : Int} (h0 : 0 ≤ k) (h8 : k < 8) : Txt.item (Str.ofString "ab '\"\\#\n") k = ⟨#[signs.getD k.toNat 0]⟩ := by
  obtain ⟨n, rfl⟩ := Int.eq_ofNat_of_zero_le h0
  have : n < 8 := by omega
  rcases n with _ | _ | _ | _ | _ | _ | _ | _ | n
  all_goals first | rfl | (exfalso; omega)
theorem spelled_len (ch : Nat) (way : Int) : (⟨(spelled ch way).toArray⟩ : Str).length ≤ 4 := by
  show (spelled ch way).toArray.size ≤ 4
  rw [List.size_toArray]
  unfold spelled
  split
  · split <;> simp
  · split
    · split <;> simp
    · split <;> simp
theorem strs_snoc {lw : Str} : ∀ {ri : List Str} {xs : List Value}, StrsAre xs (ri ++ [lw]) → ∃ xi t, xs = xi ++ [.str lw t] ∧ StrsAre xi ri
  | [], _, .cons _ t .nil => ⟨[], t, rfl, .nil⟩
  | a :: ri, _, .cons _ t h => by
    obtain ⟨xi, u, rfl, h2⟩ := strs_snoc h
    exact ⟨.str a t :: xi, u, rfl, .cons _ t h2⟩
theorem nil_or_snoc {α : Type} (l : List α) : l = [] ∨ ∃ i x, l = i ++ [x] := by
  rcases List.eq_nil_or_concat l with h | ⟨i, x, h⟩
  · exact .inl h
  · exact .inr ⟨i, x, by rw [h, List.concat_eq_append]⟩
structure LnB (k : Nat) (st : LnS) : Prop where
  a : st.1.length ≤ 2 + k
  b : st.2.row.length ≤ 2 + k
  c : st.2.text.length ≤ 4 + 4 * k
  d : ∀ w ∈ st.2.row, w.length ≤ 1 + k ∧ w.cps.toList.all isAlpha = true
theorem app_list (a b : Str) : (a ++ b).cps.toList = a.cps.toList ++ b.cps.toList := by
  show (a.cps ++ b.cps).toList = _
  simp
theorem app_len (a b : Str) : (a ++ b).length = a.length + b.length := by
  show (a.cps ++ b.cps).size = a.cps.size + b.cps.size
  simp
theorem sign_alpha (k : Nat) : k < 8 → isAlpha (signs.getD k 0) = true := by
  intro h
  rcases k with _ | _ | _ | _ | _ | _ | _ | _ | k
  all_goals first | rfl | (exfalso; omega)
theorem LnB.step {k : Nat} {st : LnS} (h : LnB k st) (x : Int) : LnB (k + 1) (lnStep st x) := by
  obtain ⟨a, b, c, d⟩ := h
  have hm12 := Int.fmod_nonneg_of_pos x (b := 12) (by decide)
  have hm12' := Int.fmod_lt_of_pos x (b := 12) (by decide)
  have d' : ∀ w ∈ st.2.row, w.length ≤ 1 + (k + 1) ∧ w.cps.toList.all isAlpha = true := fun w hw => ⟨by have := (d w hw).1; omega, (d w hw).2⟩
  unfold lnStep
  dsimp only
  split
  · refine ⟨by simp; omega, by simp, by show 0 ≤ _; omega, fun w hw => nomatch hw⟩
  · split
    · refine ⟨by dsimp only; omega, by simp; omega, by dsimp only; rw [app_len]; show _ + 3 ≤ _; omega, fun w hw => ?_⟩
      rcases List.mem_append.mp hw with hw | hw
      · exact d' w hw
      · cases List.mem_singleton.mp hw
        exact ⟨by show 0 ≤ _; omega, rfl⟩
    · split
      · refine ⟨by dsimp only; omega, by simp; omega, by dsimp only; rw [app_len]; show _ + 3 ≤ _; omega, fun w hw => ?_⟩
        rcases List.mem_append.mp hw with hw | hw
        · exact d' w hw
        · cases List.mem_singleton.mp hw
          exact ⟨by show 1 ≤ _; omega, by decide⟩
      · split
        · exact ⟨by dsimp only; omega, by dsimp only; omega, by dsimp only; omega, d'⟩
        · have hs := sign_alpha (x.fmod 12 - 4).toNat (by omega)
          generalize signs.getD (x.fmod 12 - 4).toNat 0 = ch at hs ⊢
          have h4 := spelled_len ch ((x.fdiv 12).fmod 3)
          refine ⟨by dsimp only; omega, by simp; omega, by dsimp only; rw [app_len]; omega, fun w hw => ?_⟩
          rcases List.mem_append.mp hw with hw | hw
          · exact d' w ((List.dropLast_sublist _).subset hw)
          · have := List.mem_singleton.mp hw
            subst this
            cases e : st.2.row.getLast? with
            | none => exact ⟨by show 1 ≤ _; omega, by simpa using hs⟩
            | some l =>
              have hl := d l (List.mem_of_getLast? e)
              dsimp only
              rw [app_len, app_list, List.all_append, hl.2]
              exact ⟨by show _ + 1 ≤ _; omega, by simpa using hs⟩
theorem LnB.fold : ∀ (ns : List Int) {k : Nat} {st : LnS}, LnB k st → LnB (k + ns.length) (ns.foldl lnStep st)
  | [], _, _, h => h
  | x :: r, k, st, h => by
    have := LnB.fold r (h.step x)
    rw [List.length_cons, List.foldl_cons]
    rwa [show k + (r.length + 1) = k + 1 + r.length from by omega]
theorem LnB.mono {k j : Nat} {st : LnS} (h : LnB k st) (hj : k ≤ j) : LnB j st :=
  ⟨by have := h.a; omega, by have := h.b; omega, by have := h.c; omega, fun w hw => ⟨by have := (h.d w hw).1; omega, (h.d w hw).2⟩⟩
theorem LnB.base : LnB 0 lns0 := ⟨by decide, by decide, by decide, by decide⟩
theorem linesOf_bound {ns : List Int} {k : Nat} (h : ns.length ≤ k) : LnB k (linesOf ns) := (LnB.fold ns LnB.base).mono (by omega)
noncomputable def LnJ (D : Nat) (st : LnS) (m : Str → Option Value) (news : Led) : Prop :=
  ∃ (l c : Nat) (vs : List Value) (v : Value) (sub : Led), m (Str.ofString "lines") = some (.ref l) ∧ news = (l, lstO (vs ++ [v]).toArray c) :: sub ∧ (∀ p ∈ sub, p.1 ≠ l) ∧ (∀ p ∈ news, p.1 ≠ D) ∧ Lns sub vs st.1 ∧ LnAt sub v st.2
theorem tl {α : Type} {x : α} {l : List α} (n : Nat) (h : x ∈ l.drop n) : x ∈ l := List.mem_of_mem_drop h
section
variable {A₀ : Around} {base : Heap} {outer : List Env} {g g' h' : Heap} {L : Addr} {s : Shared} {Q : Flow → Shared → Prop} {m' : Str → Option Value} {tk : Nat}
theorem ln_next {I D l c : Nat} {o ol : Obj} {vs : List Value} {v : Value} {pre sub led : Led} {st : LnS} (KT : KtsTurn (outer.filterMap (·.frame)) g g') (B : Below A₀ base outer g') (F : Fr g' L h' m')
    (N : News g' L h' led) (hpm : ∀ q ∈ pre, q ∈ led) (hIm : (I, o) ∈ led) (hDm : (D, ol) ∈ led) (hlm : (l, lstO (vs ++ [v]).toArray c) ∈ led) (hsm : ∀ q ∈ sub, q ∈ led)
    (hpre : ∀ q ∈ pre, q.1 ≠ l ∧ q.1 ≠ I ∧ q.1 ≠ D) (hsl : ∀ q ∈ sub, q.1 ≠ l) (hI : l ≠ I ∧ ∀ q ∈ sub, q.1 ≠ I) (hD : l ≠ D ∧ ∀ q ∈ sub, q.1 ≠ D)
    (hml : m' (Str.ofString "lines") = some (.ref l)) (h1 : Lns (pre ++ sub) vs st.1) (h2 : LnAt (pre ++ sub) v st.2) : FPost A₀ base outer g L s [I] [(I, o), (D, ol)] (LnJ D st) Q .next { s with heap := h', toks := tk } := by
  have key : ∀ P : Nat → Prop, P l → (∀ q ∈ pre, P q.1) → (∀ q ∈ sub, P q.1) → ∀ q ∈ (l, lstO (vs ++ [v]).toArray c) :: (pre ++ sub), P q.1 := by
    intro P a b c q hq
    rcases List.mem_cons.mp hq with rfl | hq
    · exact a
    · rcases List.mem_append.mp hq with hq | hq
      · exact b q hq
      · exact c q hq
  refine ⟨g', h', tk, m', (l, lstO (vs ++ [v]).toArray c) :: (pre ++ sub), rfl, KT, B, F, ?_, ?_, l, c, vs, v, pre ++ sub, hml, rfl, ?_, ?_, h1, h2⟩
  · intro q hq
    apply N
    simp only [List.mem_append, List.mem_cons, List.not_mem_nil, or_false] at hq
    rcases hq with (rfl | rfl) | rfl | h | h
    · exact hIm
    · exact hDm
    · exact hlm
    · exact hpm _ h
    · exact hsm _ h
  · exact key (fun a => a ∉ [I]) (by simpa using hI.1) (fun q hq => by simpa using (hpre q hq).2.1) (fun q hq => by simpa using hI.2 q hq)
  · intro q hq
    rcases List.mem_append.mp hq with hq | hq
    · exact (hpre q hq).1
    · exact hsl q hq
  · exact key (fun a => a ≠ D) hD.1 (fun q hq => (hpre q hq).2.2) hD.2
theorem upd_pre {d : Nat} {o o' : Obj} {post : Led} (hp : ∀ q ∈ post, q.1 ≠ d) : ∀ {pre : Led}, (∀ q ∈ pre, q.1 ≠ d) → Upd d o o' (pre ++ (d, o) :: post) (pre ++ (d, o') :: post)
  | [], _ => .head hp
  | a :: pre, h => .tail (h a (.head _)) (upd_pre hp (pre := pre) fun q hq => h q (.tail _ hq))
end
section
variable {prog : Program} {w : World} {A : Around} {E : Value → Shared → Prop} {s : Shared} {h₀ : Heap} {L D : Addr} {m : Str → Option Value} {news news' : Led}
theorem pick_dl (xs : List Value) : kms_pick xs.toArray.toList none (some (-1)) = xs.dropLast := by
  unfold kms_pick kms_lo kms_hi
  rw [List.toList_toArray]
  simp [List.dropLast_eq_take]
theorem add_new {xs ys : List Value} {l b : Addr} {n1 n2 : Nat} {Q : Value → Shared → Prop} (F : Fr h₀ L s.heap m) (N : News h₀ L s.heap news) (hl : (l, listOf xs.toArray n1) ∈ news) (hb : (b, listOf ys.toArray n2) ∈ news) (hz : xs.length + ys.length ≤ 1000)
    (h : ∀ (D' : Nat) h', Fr h₀ L h' m → News h₀ L h' ((D', listOf (xs ++ ys).toArray 0) :: news) → (∀ p ∈ news, p.1 < D') → Q (.ref D') { s with heap := h' }) : wpAny (model prog w) A (binaryOp .Add (.ref l) (.ref b)) Q E s := by
  refine add_arrays F N ⟨_, (N _ hl).1, rfl, _, rfl⟩ ⟨_, (N _ hb).1, rfl, _, rfl⟩ (fun h' F' N' => h _ h' F' N' (fun p hp => Heap.lt_size (N p hp).1)) ?_
  have : (1000 : Nat) ≤ sizeLine := by decide
  simp
  omega
theorem app_last {us : List Value} {v : Value} {n : Nat} {Q : Value → Shared → Prop} (F : Fr h₀ L s.heap m) (N : News h₀ L s.heap news) (U : Upd D (listOf us.toArray n) (listOf (us ++ [v]).toArray (n + 1)) news news')
    (hz : us.length ≤ 200) (h : ∀ h', Fr h₀ L h' m → News h₀ L h' news' → Q .none { s with heap := h' }) : wpAny (model prog w) A (call (.builtin "list.append") [.ref D, v]) Q E s :=
  append_K (its := us.toArray) (n := n) F N (by simpa using U) h (by have : (200 : Nat) ≤ sizeLine := by decide
                                                                     simp; omega)
theorem set_last {us : List Value} {old v : Value} {n : Nat} {t : Tok} {Q : Unit → Shared → Prop} (F : Fr h₀ L s.heap m) (N : News h₀ L s.heap news) (U : Upd D (listOf (us ++ [old]).toArray n) (listOf (us ++ [v]).toArray n) news news')
    (h : ∀ h', Fr h₀ L h' m → News h₀ L h' news' → Q () { s with heap := h' }) : wpAny (model prog w) A (setItem (.ref D) (.int (-1) t) v) Q E s := by
  obtain ⟨pre, post, rfl, rfl, a, b⟩ := U.split
  have z := N (D, listOf (us ++ [old]).toArray n) (List.mem_append.mpr (.inr (.head _)))
  refine ki_setBack z.1 (by decide) (by simp; omega) (by decide) (h _ (F.change (Heap.SameBut.update ..) z.2.1 z.2.2) (ki_turn _ N a b ?_ ?_))
  · show (us ++ [old]).toArray.setIfInBounds ((-1 : Int) + ((us ++ [old]).toArray.size : Int)).toNat v = (us ++ [v]).toArray
    have e : ((-1 : Int) + ((us ++ [old]).toArray.size : Int)).toNat = us.length := by simp; omega
    rw [e]
    apply Array.toList_inj.mp
    simp
  · simp
end
theorem eqi_yes {prog : Program} {w : World} {A : Around} {E : Value → Shared → Prop} {s : Shared} {a b : Int} {t u : Tok} {Q : Value → Shared → Prop} (hb : a = b) (h : Q (.bool true) s) : wpAny (model prog w) A (compareOp .Eq (.int a t) (.int b u)) Q E s :=
  PyProof.Rows.eq_int (by rw [hb]; simpa using h)
theorem eqi_no {prog : Program} {w : World} {A : Around} {E : Value → Shared → Prop} {s : Shared} {a b : Int} {t u : Tok} {Q : Value → Shared → Prop} (hb : ¬ a = b) (h : Q (.bool false) s) : wpAny (model prog w) A (compareOp .Eq (.int a t) (.int b u)) Q E s :=
  PyProof.Rows.eq_int (by rw [beq_eq_false_iff_ne.mpr hb]; exact h)
local macro_rules | `(tactic| walk_at "compareOp Eq int int") => `(tactic| (k_here; first | (refine' eqi_yes ?hb ?_; (case hb => with_reducible assumption)) | (refine' eqi_no ?hb ?_; (case hb => with_reducible assumption))))
local macro_rules | `(tactic| walk_at "subscriptTail Name Slice ref ref") => `(tactic| (k_here; (with_reducible show wpAny _ _ (subscriptTail _ (Expr.Slice none (some (Expr.UnaryOp _ _ _)) none _) _ _) _ _ _); k_dflt (refine' kms_slice_lit ?F ?N ?l ?p ?q ?e ?_ ?s ?t ?z; (case F => k_asm); (case N => k_asm); (case l => exact News.isList (by k_asm) (by k_mem)); (case p => kmk_part); (case q => kmk_part); (case e => exact pick_dl _); (case s => with_unfolding_all rfl); (case t => kmk_pure); (case z => (simp only [List.size_toArray]; omega)); k_whole; intro D' h' F' N' l1; (try k_lt l1); (try k_sweep))))
local macro_rules | `(tactic| walk_at "binaryOp Add ref ref") => `(tactic| (k_here; k_dflt (refine' add_new ?kF ?kN ?kl ?kb ?kz ?_; (case kF => k_asm); (case kN => k_asm); (case kl => k_mem); (case kb => k_mem); (case kz => first | (simp only [List.length_cons, List.length_nil, List.length_dropLast]; omega) | (simp only [List.length_cons, List.length_nil, List.length_take, List.length_drop, List.length_append]; omega)); k_whole; intro D' h' F' N' l1; (try k_lt l1); (try k_sweep))))
section
local macro_rules | `(tactic| walk_at $s) => if ["call ref", "exec For Name Subscript cons nil", "pyIter ref", "subscriptTail Name UnaryOp ref int", "exec For", "call builtin:list.append", "compareOp NotEq ref ref", "setItem ref int"].contains s.getString then `(tactic| (k_here; refine cut_any ?_)) else Lean.Macro.throwUnsupported
theorem lines_spec {prog : Program} {w : World} {dp un : Nat} {gd : Option (List Code)} {s : Shared} {base : Heap} {fs : List Env} {loose : List Str} {mean : ExcName → Option Value} {mg mb : Str → Option Value}
    {Q : Value → Shared → Prop} {E : Value → Shared → Prop} {sc : Nat} {vs : List Value} {ns : List Int}
    (B : Below (Ar dp un gd fs) base fs s.heap) (X : (fr.heap_1 w.params).In base) {vw : Program} (T : Top vw loose mean mg mb base) (hd : dp + 20 < recursionLimit) (hu : un + 200 < cLine)
    (hsc : s.heap.IsList sc vs.toArray) (hi : IntsAre vs ns) (hns : ns.length ≤ 63)
    (hret : ∀ (l c : Nat) (items : List Value) h' tk' sub, KeptS fs ((l, lstO items.toArray c) :: sub) s.heap h' → (∀ p ∈ (l, lstO items.toArray c) :: sub, s.heap.get? p.1 = none) → (∀ p ∈ sub, p.1 ≠ l) → Lns sub items (allLines (ns.take 16)) → Q (.ref l) { s with heap := h', toks := tk' }) :
    wpAny (model prog w) (Ar dp un gd fs) (call (.ref 784) [.ref sc]) Q E s := by
  refine wpAny_call ?_
  refine' enterO (own := []) B X T (fun _ h => nomatch h) ?k6 ?k7 ?k8 ?k9 ?kB ?_ ?c5 ?c2 ?c3 ?c4
  (((case k6 => k_is); (case k7 => k_is); (case k8 => (dsimp only [Ar]; omega)); (case k9 => first | exact BindsTo.of_eq rfl | exact binds_K (Frag.In.keeps (by assumption) (Below.stays (by assumption))) rfl (by k_is) rfl rfl rfl); (case c5 => decide); (case kB => exact locs rfl); (case c2 => exact rfl); (case c3 => exact rfl); (case c4 => exact rfl)))
  intro g' L' h' hg' F' N' B' X' T' l1
  dsimp only
  k_fold
  have hscg : g'.IsList sc vs.toArray := stays_list (fun b o e => hg'.get b o e (fun _ h => nomatch h)) hsc
  (repeat' (first | (k_unfold; (try dsimp only)) | walk1 | (dsimp only; walk1) | (dsimp only; k_unfold; (try dsimp only))))
  unfold Stop
  refine wpAny_For ?_ (by intro _; rfl)
  (repeat' (first | (k_unfold; (try dsimp only)) | walk1 | (dsimp only; walk1) | (dsimp only; k_unfold; (try dsimp only))))
  unfold Stop
  (with_reducible rename Fr _ _ _ _ => kF)
  (with_reducible rename News _ _ _ _ => kN)
  (with_reducible rename IntsAre _ (List.take 16 ns) => kI)
  refine for_ints (J := fun D i => LnJ D (linesOf ((ns.take 16).take i))) rfl rfl rfl kI B' kF kN ?J0 ?step ?done
  case J0 =>
    refine ⟨_, _, [_, _], _, _, rfl, rfl, ?_, ?_, ?_, ?_⟩
    · (((repeat' (first | (with_reducible refine List.forall_mem_cons.mpr ⟨?_, ?_⟩) | exact List.forall_mem_nil _)) <;> k_ne))
    · (((repeat' (first | (with_reducible refine List.forall_mem_cons.mpr ⟨?_, ?_⟩) | exact List.forall_mem_nil _)) <;> k_ne))
    · exact .cons ⟨_, _, [_], _, _, _, _, rfl, tl 4 (.head _), tl 5 (.head _), .cons _ _ .nil⟩ (.cons ⟨_, _, [_], _, _, _, _, rfl, tl 2 (.head _), tl 3 (.head _), .cons _ _ .nil⟩ .nil)
    · exact ⟨_, _, [_, _], _, _, _, _, rfl, .head _, .tail _ (.head _), .cons _ _ (.cons _ _ .nil)⟩
  case done =>
    rintro g2 h2 tk2 m2 news2 KT B2 F2 N2 ⟨l, c, us, v, sub, hml, rfl, hsl, hD, hL1, hL2⟩
    rw [List.take_of_length_le (Nat.le_refl _)] at hL1 hL2
    have X2 := X.keeps B2.stays
    have T2 := T.keeps B2.stays
    have F3 : Fr g2 L' h2 (kstB _ _) := fr_kst (ps := [(Str.ofString "lines", .ref l)]) F2 (fun p hp => by cases List.mem_singleton.mp hp; exact hml)
    have N3 : News g2 L' h2 _ := N2
    clear F2 N2 kF kN X' T'
    (repeat' (first | (k_unfold; (try dsimp only)) | walk1 | (dsimp only; walk1) | (dsimp only; k_unfold; (try dsimp only))))
    refine hret _ _ _ _ _ _ (keptS_all ((hg'.toS (base := base) (fun _ h => nomatch h)).turn KT) F3 N3 (fun _ h => nomatch h)) (fun p hp => ?_) hsl (hL1.snoc hL2)
    have n0 := (N3 p hp).2.2
    cases e : s.heap.get? p.1 with
    | none => rfl
    | some o =>
      obtain ⟨sl, e2⟩ := KT.up (hg'.get _ _ e (fun _ h => nomatch h))
      rw [e2] at n0; cases n0
  case step =>
    clear kF kN X' T'
    rintro I i x t g2 m₁ news₁ h2 tk2 o ol hx ⟨l, c, us, v, sub, hml, rfl, hsl, hD, hL1, hL2⟩ hI KT B2 F2 N2
    have hst : linesOf ((ns.take 16).take (i + 1)) = lnStep (linesOf ((ns.take 16).take i)) x := linesOf_succ hx
    rw [hst]
    clear hst
    have hlD : l ≠ _ := hD _ (.head _)
    have hlI : l ≠ I := hI _ (.head _)
    have sz200 : (200 : Nat) ≤ sizeLine := by decide
    have hD2 := fun q hq => hD q (.tail _ hq)
    have hI2 := fun q hq => hI q (.tail _ hq)
    have hbd : LnB 16 (linesOf ((ns.take 16).take i)) := linesOf_bound (by simp; omega)
    generalize linesOf ((ns.take 16).take i) = st at hL1 hL2 hbd ⊢
    obtain ⟨ini, row, text, fault⟩ := st
    obtain ⟨p, r, xs, c1, c2, t1, t2, rfl, hp1, hr1, hxs⟩ := hL2
    dsimp only at hL1 hp1 hxs ⊢
    obtain ⟨b1, b2, b3, b4⟩ := hbd
    have hxl := hxs.length
    dsimp only at b1 b2 b3 b4
    have hpl : p ≠ l := hsl _ hp1
    have hrl : r ≠ l := hsl _ hr1
    have e0 : ∀ (q : Nat) (oq : Obj), (q, oq) ∈ sub → q ≠ l := fun q oq h => hsl _ h
    have X2 := X.keeps B2.stays
    have T2 := T.keeps B2.stays
    have F3 : Fr g2 L' h2 (kstB _ _) := fr_kst (ps := [(Str.ofString "x", .int x t), (Str.ofString "lines", .ref l)]) F2 (all2 rfl hml)
    clear F2
    have N3 : News g2 L' h2 (_ :: _ :: _) := news_pre2 N2 (.tail _ (.tail _ (.tail _ hp1))) (.tail _ (.tail _ (.tail _ hr1)))
    clear N2
    refine abs_flow fun W hW => ?_
    (repeat' (first | (k_unfold; (try dsimp only)) | walk1 | (dsimp only; walk1) | (dsimp only; k_unfold; (try dsimp only))))
    unfold Stop
    refine kde_neg (vs := us ++ [Value.ref p]) (j := us.length) (v := .ref p) ⟨_, (N3 _ (.tail _ (.tail _ (.tail _ (.tail _ (.head _)))))).1, rfl, _, rfl⟩ (by decide) (by decide) (seq_last _ _) (by simp) ?_ (by with_unfolding_all rfl)
    by_cases h0 : x.fmod 12 = 0
    · (repeat' (first | (k_unfold; (try dsimp only)) | walk1 | (dsimp only; walk1) | (dsimp only; k_unfold; (try dsimp only))))
      unfold Stop
      (with_reducible rename Fr _ _ _ _ => kF)
      (with_reducible rename News _ _ _ _ => kN)
      refine app_last (us := us ++ [.ref p]) kF kN (upd_pre (pre := [_, _, _, _, _, _]) hsl (by (((repeat' (first | (with_reducible refine List.forall_mem_cons.mpr ⟨?_, ?_⟩) | exact List.forall_mem_nil _)) <;> k_ne)))) (by simp; have := hL1.length; omega) ?_
      intro h5 F5 N5
      simp only [List.cons_append, List.nil_append] at N5
      (repeat' (first | (k_unfold; (try dsimp only)) | walk1 | (dsimp only; walk1) | (dsimp only; k_unfold; (try dsimp only))))
      have e : lnStep (ini, ⟨row, text, fault⟩) x = (ini ++ [⟨row, text, fault⟩], ⟨[], Str.ofString "", Str.ofString ""⟩) := by unfold lnStep; simp only [if_pos h0]
      refine hW _ _ ?_
      rw [e]
      refine ln_next (pre := [_, _]) (vs := us ++ [.ref p]) KT B2 F5 N5 (all2 (.head _) (.tail _ (.head _))) (tl 4 (.head _)) (tl 5 (.head _)) (tl 6 (.head _)) (fun q hq => tl 7 hq) (by (((repeat' (first | (with_reducible refine List.forall_mem_cons.mpr ⟨?_, ?_⟩) | exact List.forall_mem_nil _)) <;> (refine ⟨?_, ?_, ?_⟩ <;> k_ne)))) hsl ⟨hlI, hI2⟩ ⟨hlD, hD2⟩ rfl ?_ ?_
      · exact (hL1.mono (fun q hq => List.mem_append_right _ hq)).snoc (LnAt.mono (fun q hq => List.mem_append_right _ hq) ⟨p, r, xs, c1, c2, t1, t2, rfl, hp1, hr1, hxs⟩)
      · exact ⟨_, _, [], _, _, _, _, rfl, .head _, .tail _ (.head _), .nil⟩
    by_cases h1 : x.fmod 12 = 1
    · (repeat' (first | (k_unfold; (try dsimp only)) | walk1 | (dsimp only; walk1) | (dsimp only; k_unfold; (try dsimp only))))
      unfold Stop
      (with_reducible rename Fr _ _ _ _ => kF)
      (with_reducible rename News _ _ _ _ => kN)
      refine set_last (us := us) kF kN (upd_pre (pre := [_, _, _, _, _, _, _]) hsl (by (((repeat' (first | (with_reducible refine List.forall_mem_cons.mpr ⟨?_, ?_⟩) | exact List.forall_mem_nil _)) <;> k_ne)))) ?_
      intro h5 F5 N5
      simp only [List.cons_append, List.nil_append] at N5
      (repeat' (first | (k_unfold; (try dsimp only)) | walk1 | (dsimp only; walk1) | (dsimp only; k_unfold; (try dsimp only))))
      have e : lnStep (ini, ⟨row, text, fault⟩) x = (ini, ⟨row ++ [Str.ofString ""], text ++ Str.ofString " ''", fault⟩) := by unfold lnStep; simp only [h0, h1, if_true, if_false, reduceCtorEq]; try simp
      refine hW _ _ ?_
      rw [e]
      refine ln_next (pre := [_, _]) (vs := us) KT B2 F5 N5 (all2 (.head _) (.tail _ (.head _))) (tl 5 (.head _)) (tl 6 (.head _)) (tl 7 (.head _)) (fun q hq => tl 8 hq) (by (((repeat' (first | (with_reducible refine List.forall_mem_cons.mpr ⟨?_, ?_⟩) | exact List.forall_mem_nil _)) <;> (refine ⟨?_, ?_, ?_⟩ <;> k_ne)))) hsl ⟨hlI, hI2⟩ ⟨hlD, hD2⟩ rfl ?_ ?_
      · exact hL1.mono (fun q hq => List.mem_append_right _ hq)
      · exact ⟨_, _, _, _, _, _, _, rfl, .head _, .tail _ (.head _), hxs.append' (.cons _ _ .nil)⟩
    by_cases h2 : x.fmod 12 = 2
    · (repeat' (first | (k_unfold; (try dsimp only)) | walk1 | (dsimp only; walk1) | (dsimp only; k_unfold; (try dsimp only))))
      unfold Stop
      (with_reducible rename Fr _ _ _ _ => kF)
      (with_reducible rename News _ _ _ _ => kN)
      refine set_last (us := us) kF kN (upd_pre (pre := [_, _, _, _, _, _, _]) hsl (by (((repeat' (first | (with_reducible refine List.forall_mem_cons.mpr ⟨?_, ?_⟩) | exact List.forall_mem_nil _)) <;> k_ne)))) ?_
      intro h5 F5 N5
      simp only [List.cons_append, List.nil_append] at N5
      (repeat' (first | (k_unfold; (try dsimp only)) | walk1 | (dsimp only; walk1) | (dsimp only; k_unfold; (try dsimp only))))
      have e : lnStep (ini, ⟨row, text, fault⟩) x = (ini, ⟨row ++ [Str.ofString "b"], text ++ Str.ofString "\t b", fault⟩) := by unfold lnStep; simp only [h0, h1, h2, if_true, if_false, reduceCtorEq]; try simp
      refine hW _ _ ?_
      rw [e]
      refine ln_next (pre := [_, _]) (vs := us) KT B2 F5 N5 (all2 (.head _) (.tail _ (.head _))) (tl 5 (.head _)) (tl 6 (.head _)) (tl 7 (.head _)) (fun q hq => tl 8 hq) (by (((repeat' (first | (with_reducible refine List.forall_mem_cons.mpr ⟨?_, ?_⟩) | exact List.forall_mem_nil _)) <;> (refine ⟨?_, ?_, ?_⟩ <;> k_ne)))) hsl ⟨hlI, hI2⟩ ⟨hlD, hD2⟩ rfl ?_ ?_
      · exact hL1.mono (fun q hq => List.mem_append_right _ hq)
      · exact ⟨_, _, _, _, _, _, _, rfl, .head _, .tail _ (.head _), hxs.append' (.cons _ _ .nil)⟩
    by_cases h3 : x.fmod 12 = 3
    · (repeat' (first | (k_unfold; (try dsimp only)) | walk1 | (dsimp only; walk1) | (dsimp only; k_unfold; (try dsimp only))))
      unfold Stop
      (with_reducible rename Fr _ _ _ _ => kF)
      (with_reducible rename News _ _ _ _ => kN)
      refine set_last (us := us) kF kN (upd_pre (pre := [_, _, _, _, _]) hsl (by (((repeat' (first | (with_reducible refine List.forall_mem_cons.mpr ⟨?_, ?_⟩) | exact List.forall_mem_nil _)) <;> k_ne)))) ?_
      intro h5 F5 N5
      simp only [List.cons_append, List.nil_append] at N5
      (repeat' (first | (k_unfold; (try dsimp only)) | walk1 | (dsimp only; walk1) | (dsimp only; k_unfold; (try dsimp only))))
      have e : lnStep (ini, ⟨row, text, fault⟩) x = (ini, ⟨row, text, Txt.item (Str.ofString "'\\") ((x.fdiv 12).fmod 2)⟩) := by unfold lnStep; simp only [h0, h1, h2, h3, if_true, if_false, reduceCtorEq]; try simp
      refine hW _ _ ?_
      rw [e]
      refine ln_next (pre := [_]) (vs := us) KT B2 F5 N5 (fun q hq => by cases List.mem_singleton.mp hq; exact .head _) (tl 3 (.head _)) (tl 4 (.head _)) (tl 5 (.head _)) (fun q hq => tl 6 hq) (by (((repeat' (first | (with_reducible refine List.forall_mem_cons.mpr ⟨?_, ?_⟩) | exact List.forall_mem_nil _)) <;> (refine ⟨?_, ?_, ?_⟩ <;> k_ne)))) hsl ⟨hlI, hI2⟩ ⟨hlD, hD2⟩ rfl ?_ ?_
      · exact hL1.mono (fun q hq => List.mem_append_right _ hq)
      · exact ⟨_, _, _, _, _, _, _, rfl, .head _, .tail _ hr1, hxs⟩
    have hm12 := Int.fmod_nonneg_of_pos x (b := 12) (by decide)
    have hm12' := Int.fmod_lt_of_pos x (b := 12) (by decide)
    have es := sign_at (k := x.fmod 12 - 4) (by omega) (by omega)
    (repeat' (first | (k_unfold; (try dsimp only)) | walk1 | (dsimp only; walk1) | (dsimp only; k_unfold; (try dsimp only))))
    unfold Stop
    (with_reducible rename Fr _ _ _ _ => kF)
    (with_reducible rename News _ _ _ _ => kN)
    rw [es] at kF
    generalize hch : signs.getD (x.fmod 12 - 4).toNat 0 = ch at kF
    clear es
    refine ne_strs (rs := row) (ss := []) (xs := xs.toArray) (ys := #[]) ⟨_, (kN _ (tl 2 (.head _))).1, rfl, _, rfl⟩ ⟨_, (kN _ (.head _)).1, rfl, _, rfl⟩ hxs .nil (fun w hw => strOk_alpha (b4 w hw).2) (fun _ h => nomatch h) (by dsimp only [Ar, Around.deeper]; omega) ?_
    rcases nil_or_snoc row with rfl | ⟨ri, lw, rfl⟩
    · obtain rfl := hxs.nil_inv
      (repeat' (first | (k_unfold; (try dsimp only)) | walk1 | (dsimp only; walk1) | (dsimp only; k_unfold; (try dsimp only))))
      unfold Stop
      (with_reducible rename Fr _ _ _ _ => kF2)
      (with_reducible rename News _ _ _ _ => kN2)
      refine spelled_spec (ch := ch) (ar_below kF2 B2 rfl rfl) X T (by dsimp only [Ar]; omega) ?_
      intro h6 tk6 t6 kp
      obtain ⟨F6, N6⟩ : Fr g2 L' h6 _ ∧ News g2 L' h6 _ := ⟨fr_back kF2 kN2 kp (fun _ h => nomatch h), news_back kF2 kN2 kp (fun _ h => nomatch h) (fun p hp => .inr ⟨hp, fun _ h => nomatch h⟩)⟩
      clear kF2 kN2 kp
      have h4 : (⟨(spelled ch ((x.fdiv 12).fmod 3)).toArray⟩ : Str).length ≤ 4 := spelled_len _ _
      (repeat' (first | (k_unfold; (try dsimp only)) | walk1 | (dsimp only; walk1) | (dsimp only; k_unfold; (try dsimp only))))
      unfold Stop
      (with_reducible rename Fr _ _ _ _ => kF3)
      (with_reducible rename News _ _ _ _ => kN3)
      refine set_last (us := us) kF3 kN3 (upd_pre (pre := [_, _, _, _, _, _, _, _, _]) hsl (by (((repeat' (first | (with_reducible refine List.forall_mem_cons.mpr ⟨?_, ?_⟩) | exact List.forall_mem_nil _)) <;> k_ne)))) ?_
      intro h5 F5 N5
      simp only [List.cons_append, List.nil_append] at N5
      (repeat' (first | (k_unfold; (try dsimp only)) | walk1 | (dsimp only; walk1) | (dsimp only; k_unfold; (try dsimp only))))
      have e : lnStep (ini, ⟨[], text, fault⟩) x = (ini, ⟨[⟨#[ch]⟩], text ++ ⟨(spelled ch ((x.fdiv 12).fmod 3)).toArray⟩, fault⟩) := by unfold lnStep; rw [if_neg h0, if_neg h1, if_neg h2, if_neg h3]; dsimp only; rw [hch]; rfl
      refine hW _ _ ?_
      rw [e]
      refine ln_next (pre := [_, _]) (vs := us) KT B2 F5 N5 (all2 (.head _) (.tail _ (.head _))) (tl 7 (.head _)) (tl 8 (.head _)) (tl 9 (.head _)) (fun q hq => tl 10 hq) (by (((repeat' (first | (with_reducible refine List.forall_mem_cons.mpr ⟨?_, ?_⟩) | exact List.forall_mem_nil _)) <;> (refine ⟨?_, ?_, ?_⟩ <;> k_ne)))) hsl ⟨hlI, hI2⟩ ⟨hlD, hD2⟩ rfl ?_ ?_
      · exact hL1.mono (fun q hq => List.mem_append_right _ hq)
      · exact ⟨_, _, [_], _, _, _, _, rfl, .head _, .tail _ (.head _), .cons _ _ .nil⟩
    · obtain ⟨xi, tw, rfl, hxi⟩ := strs_snoc hxs
      rw [show (!decide (ri ++ [lw] = ([] : List Str))) = true from by simp]
      have hlw := (b4 lw (by simp)).1
      (repeat' (first | (k_unfold; (try dsimp only)) | walk1 | (dsimp only; walk1) | (dsimp only; k_unfold; (try dsimp only))))
      unfold Stop
      (with_reducible rename News _ _ _ _ => kN1)
      refine kde_neg (vs := xi ++ [Value.str lw tw]) (j := xi.length) (v := .str lw tw) ⟨_, (kN1 _ (tl 2 (.head _))).1, rfl, _, rfl⟩ (by decide) (by decide) (seq_last _ _) (by simp) ?_ (by with_unfolding_all rfl)
      (repeat' (first | (k_unfold; (try dsimp only)) | walk1 | (dsimp only; walk1) | (dsimp only; k_unfold; (try dsimp only))))
      unfold Stop
      (with_reducible rename Fr _ _ _ _ => kF2)
      (with_reducible rename News _ _ _ _ => kN2)
      refine spelled_spec (ch := ch) (ar_below kF2 B2 rfl rfl) X T (by dsimp only [Ar]; omega) ?_
      intro h6 tk6 t6 kp
      obtain ⟨F6, N6⟩ : Fr g2 L' h6 _ ∧ News g2 L' h6 _ := ⟨fr_back kF2 kN2 kp (fun _ h => nomatch h), news_back kF2 kN2 kp (fun _ h => nomatch h) (fun p hp => .inr ⟨hp, fun _ h => nomatch h⟩)⟩
      clear kF2 kN2 kp
      have h4 : (⟨(spelled ch ((x.fdiv 12).fmod 3)).toArray⟩ : Str).length ≤ 4 := spelled_len _ _
      (repeat' (first | (k_unfold; (try dsimp only)) | walk1 | (dsimp only; walk1) | (dsimp only; k_unfold; (try dsimp only))))
      unfold Stop
      (with_reducible rename Fr _ _ _ _ => kF3)
      (with_reducible rename News _ _ _ _ => kN3)
      refine set_last (us := us) kF3 kN3 (upd_pre (pre := [_, _, _, _, _, _, _, _, _]) hsl (by (((repeat' (first | (with_reducible refine List.forall_mem_cons.mpr ⟨?_, ?_⟩) | exact List.forall_mem_nil _)) <;> k_ne)))) ?_
      intro h5 F5 N5
      simp only [List.cons_append, List.nil_append] at N5
      (repeat' (first | (k_unfold; (try dsimp only)) | walk1 | (dsimp only; walk1) | (dsimp only; k_unfold; (try dsimp only))))
      have e : lnStep (ini, ⟨ri ++ [lw], text, fault⟩) x = (ini, ⟨ri ++ [lw ++ ⟨#[ch]⟩], text ++ ⟨(spelled ch ((x.fdiv 12).fmod 3)).toArray⟩, fault⟩) := by unfold lnStep; rw [if_neg h0, if_neg h1, if_neg h2, if_neg h3]; dsimp only; rw [hch, List.getLast?_concat, List.dropLast_concat]
      refine hW _ _ ?_
      rw [e]
      refine ln_next (pre := [_, _]) (vs := us) KT B2 F5 N5 (all2 (.head _) (.tail _ (.head _))) (tl 7 (.head _)) (tl 8 (.head _)) (tl 9 (.head _)) (fun q hq => tl 10 hq) (by (((repeat' (first | (with_reducible refine List.forall_mem_cons.mpr ⟨?_, ?_⟩) | exact List.forall_mem_nil _)) <;> (refine ⟨?_, ?_, ?_⟩ <;> k_ne)))) hsl ⟨hlI, hI2⟩ ⟨hlD, hD2⟩ rfl ?_ ?_
      · exact hL1.mono (fun q hq => List.mem_append_right _ hq)
      · refine ⟨_, _, _, _, _, _, _, rfl, .head _, .tail _ (.head _), ?_⟩
        rw [List.dropLast_concat]
        exact hxi.append' (.cons _ _ .nil)
end
section
-- part MCell
section
variable {prog : Program} {w : World} {A : Around} {s : Shared} {base : Heap} {fs : List Env} {own : Led} {K : Frag} {p : Program} {loose : List Str} {mean : ExcName → Option Value} {mg mb : Str → Option Value}
  {R : Result → Shared → Prop} {name qual : Str} {params : Arguments} {body : List Stmt} {scope : Scope} {dV kV doc pm cdv ct oc : Value} {an od : Option Addr} {osl : Array (Option Value)} {f : Addr} {args : Args} {binds : List (Str × Value)}
theorem enterC (B : Below A base fs s.heap) (X : K.In base) (T : Top p loose mean mg mb base) (O : Own base fs s.heap own)
    (ho : K.lookup f = some ⟨oc, od, .func (fnX name qual params body scope [] dV kV doc pm an cdv ct), osl⟩) (hcd : codeIn K cdv qual = true) (hroom : A.depth < recursionLimit)
    (hbind : BindsTo s (fnX name qual params body scope [] dV kV doc pm an cdv ct) args binds)
    (hkind : ∀ n, ∀ x ∈ binds, scope.names.lookup x.1 = some .local ∨ (scope.names.lookup x.1 = some .cell ∧ ((cellsFrom n scope.names []).lookup x.1).isSome = true))
    (hnd : ((cellsFrom 0 scope.names []).map (·.1)).Nodup)
    (h : ∀ g L' h₁ tk cells, Sub s.heap own g → Fr g L' h₁ (bindL (envOfC qual scope L' f cdv).kindOf binds fun _ => none) → News g L' h₁ (cells ++ own) →
      CellsAre (bindC (envOfC qual scope L' f cdv).kindOf binds fun _ => none) (cellsFrom (L' + 1) scope.names []) cells → Below A base fs g → K.In g → Top p loose mean mg mb g → (∀ p ∈ own, p.1 < L') →
      wpAny (model prog w) (A.deeper (envOfC qual scope L' f cdv)) (execs body (envOfC qual scope L' f cdv))
        (fun fl s' => R (.ok (.ret (match fl with | .ret v => v | _ => .none))) s')
        (fun e s' => wpAny (model prog w) (A.deeper (envOfC qual scope L' f cdv)) (leaving (envOfC qual scope L' f cdv) e) (fun _ s'' => R (.error e) s'') (fun e' s'' => R (.error e') s'') s')
        { s with heap := h₁, toks := tk })
    (hco : scope.isCoroutine = false) (hgen : scope.isGenerator = false) (hk : scope.kind = .function) : codeAny (model prog w) A (.call (.ref f) args) R s := by
  have BG := below_hide B O
  have XS : K.In s.heap := X.keeps B.stays
  refine codeAny_call_function hroom (XS _ _ ho) rfl hco hgen rfl (codeRec_of XS hcd) (hbind _ _ _ _ ?_)
  refine wpAny_newFunctionEnv_cells hk (hkind _) fun env' he s' x => ?_
  subst he
  refine ⟨(T.nolimit.keeps B.stays).keeps x.toInCall.keep, codeAny_func ?_⟩
  obtain ⟨h₁, tk, rfl, _⟩ := x.done
  have hk₁ := x.toInCall.keep
  obtain ⟨cells, NC, Y⟩ := Cl.news (h₀ := s.heap) (Nat.le_refl _) fun n c hm => ⟨x.cell n c (lookup_of_mem_nodup (cellsFrom_names scope.names 0 (s.heap.objs.size + 1) [] [] rfl ▸ hnd) hm), x.above n c hm⟩
  refine h _ s.heap.objs.size h₁ tk cells ⟨fun b o e q => hideAll_get _ e fun z => by obtain ⟨p, hp, rfl⟩ := List.mem_map.mp z; exact q p hp rfl, fun b o e => of_hideAll _ e⟩
    ⟨x.toInCall.ns, fun b o e => hk₁ b o (of_hideAll _ e), Nat.le_of_eq (hideAll_size _ _)⟩ (fun p hp => ?_) Y BG (X.keeps BG.stays) (T.keeps BG.stays) (fun p hp => Heap.lt_size (O p hp).1)
  rcases List.mem_append.mp hp with hp | hp
  · refine ⟨(NC p hp).1, (NC p hp).2.1, ?_⟩
    cases q : (hideAll s.heap (own.map (·.1))).get? p.1 with
    | none => rfl
    | some o => have := of_hideAll _ q; rw [(NC p hp).2.2] at this; cases this
  · exact ⟨hk₁ _ _ (O p hp).1, Nat.ne_of_lt (Heap.lt_size (O p hp).1), hideAll_none _ (List.mem_map_of_mem hp)⟩
end
end
section
-- part MComp
inductive All2 {α β : Type} (R : α → β → Prop) : List α → List β → Prop
  | nil : All2 R [] []
  | cons {a b l m} : R a b → All2 R l m → All2 R (a :: l) (b :: m)
theorem All2.length {α β : Type} {R : α → β → Prop} : ∀ {l : List α} {m : List β}, All2 R l m → l.length = m.length
  | _, _, .nil => rfl
  | _, _, .cons _ b => by simp [b.length]
theorem All2.get {α β : Type} {R : α → β → Prop} : ∀ {l : List α} {m : List β}, All2 R l m → ∀ {i : Nat} {a : α}, l[i]? = some a → ∃ b, m[i]? = some b ∧ R a b
  | _, _, .nil, i, a, h => by simp at h
  | _, _, .cons x r, 0, a, h => by cases h; exact ⟨_, rfl, x⟩
  | _, _, .cons x r, i + 1, a, h => by
    obtain ⟨b, h1, h2⟩ := r.get (i := i) (by simpa using h)
    exact ⟨b, by simpa using h1, h2⟩
theorem All2.at {α β : Type} {R : α → β → Prop} : ∀ {l : List α} {m : List β}, All2 R l m → ∀ {i : Nat}, i < m.length → ∃ a b, l[i]? = some a ∧ m[i]? = some b ∧ R a b
  | _, _, .nil, i, h => by simp at h
  | _, _, .cons x r, 0, h => ⟨_, _, rfl, rfl, x⟩
  | _, _, .cons x r, i + 1, h => by
    obtain ⟨a, b, h1, h2, h3⟩ := r.at (i := i) (by simpa using h)
    exact ⟨a, b, by simpa using h1, by simpa using h2, h3⟩
theorem All2.mono {α β : Type} {R R' : α → β → Prop} (h : ∀ a b, R a b → R' a b) : ∀ {l : List α} {m : List β}, All2 R l m → All2 R' l m
  | _, _, .nil => .nil
  | _, _, .cons a b => .cons (h _ _ a) (b.mono h)
theorem All2.mem {α β : Type} {R : α → β → Prop} : ∀ {l : List α} {m : List β}, All2 R l m → All2 (fun a b => R a b ∧ b ∈ m) l m
  | _, _, .nil => .nil
  | _, _, .cons a b => .cons ⟨a, .head _⟩ (b.mem.mono fun _ _ h => ⟨h.1, .tail _ h.2⟩)
theorem All2.append {α β : Type} {R : α → β → Prop} : ∀ {l : List α} {m : List β} {l' : List α} {m' : List β}, All2 R l m → All2 R l' m' → All2 R (l ++ l') (m ++ m')
  | _, _, _, _, .nil, h => h
  | _, _, _, _, .cons a b, h => .cons a (b.append h)
theorem All2.take {α β : Type} {R : α → β → Prop} : ∀ (n : Nat) {l : List α} {m : List β}, All2 R l m → All2 R (l.take n) (m.take n)
  | 0, _, _, _ => by simpa using .nil
  | _ + 1, _, _, .nil => by simpa using .nil
  | n + 1, _, _, .cons a b => by simpa using .cons a (b.take n)
theorem All2.drop {α β : Type} {R : α → β → Prop} : ∀ (n : Nat) {l : List α} {m : List β}, All2 R l m → All2 R (l.drop n) (m.drop n)
  | 0, _, _, h => by simpa using h
  | _ + 1, _, _, .nil => by simpa using .nil
  | n + 1, _, _, .cons _ b => by simpa using b.drop n
section
variable {prog : Program} {w : World} {A : Around} {s : Shared} {h₀ : Heap} {L : Addr} {m : Str → Option Value} {env : Env} {ct elt : Expr} {x : Str} {scope : Scope} {cl : List (Str × Addr)} {S : Led → Prop} {Fin : List Value → Led → Prop} {news : Led}
  {δ : Type} {R : Value → δ → Prop} {its : List Value} {D : List δ}
open LCg LCt
/-- a comprehension with a test that makes nothing: how many items are kept -/
theorem rest_count (keep : δ → Bool) (hR : All2 R its D) (hS : S news)
    (test : ∀ v d I oI C oC D' m₂ ys h tk (E' : Value → Shared → Prop) (Q' : Bool → Shared → Prop), R v d → NsObj oC m₂ → m₂ x = some v → Fr h₀ L h m → News h₀ L h ((I, oI) :: (C, oC) :: (D', lst ys) :: news) →
      (∀ tk', Q' (keep d) { s with heap := h, toks := tk' }) → wpAny (model prog w) A (isTrue ct (compEnvC scope cl C env) (eval ct (compEnvC scope cl C env))) Q' E' { s with heap := h, toks := tk })
    (elem : ∀ v d I oI C oC D' m₂ ys h tk (E' : Value → Shared → Prop) (Q' : Value → Shared → Prop), R v d → NsObj oC m₂ → m₂ x = some v → Fr h₀ L h m → News h₀ L h ((I, oI) :: (C, oC) :: (D', lst ys) :: news) →
      (∀ tk', Q' v { s with heap := h, toks := tk' }) → wpAny (model prog w) A (eval elt (compEnvC scope cl C env)) Q' E' { s with heap := h, toks := tk })
    (fin : ∀ ys, ys.length = D.countP keep → Fin ys news) : CompRestT prog w A h₀ L m env ct elt x scope cl s S (fun i v => its.toArray[i]? = some v) Fin its.toArray.size 0 [] news := by
  have key : ∀ (k i : Nat) (ys : List Value), i + k = D.length → ys.length = (D.take i).countP keep → CompRestT prog w A h₀ L m env ct elt x scope cl s S (fun i v => its.toArray[i]? = some v) Fin k i ys news := by
    intro k
    induction k with
    | zero =>
      intro i ys hi hy
      rw [List.take_of_length_le (by omega)] at hy
      exact CompRestT.zero (fin ys hy)
    | succ k ih =>
      intro i ys hi hy
      refine CompRestT.succ ?_
      intro v I oI C oC D' m₂ h tk E' hP hC hx F N off ne
      obtain ⟨d, hd, hr⟩ := hR.get (i := i) (a := v) (by simpa using hP)
      have ht : (D.take (i + 1)).countP keep = (D.take i).countP keep + if keep d = true then 1 else 0 := by
        rw [List.take_add_one, hd, List.countP_append]; simp
      refine test v d I oI C oC D' m₂ ys h tk E' _ hr hC hx F N fun tk1 => ?_
      cases hk : keep d with
      | true =>
        simp only [if_true]
        rw [hk, if_pos rfl] at ht
        refine elem v d I oI C oC D' m₂ ys h tk1 E' _ hr hC hx F N fun tk2 => ?_
        exact CompEnd.intro F N news (fun p hp => hp) off hS (ih (i + 1) (ys ++ [v]) (by omega) (by rw [ht, List.length_append, hy]; rfl))
      | false =>
        simp only [Bool.false_eq_true, if_false]
        rw [hk] at ht
        exact CompEnd.intro F N news (fun p hp => hp) off hS (ih (i + 1) ys (by omega) (by rw [ht, hy]; simp))
  have hl : its.toArray.size = D.length := by rw [List.size_toArray, hR.length]
  rw [hl]
  exact key D.length 0 [] (by omega) (by simp)
/-- a comprehension without a test that makes nothing but its list -/
theorem rest_map {R' : Value → δ → Prop} (hR : All2 R its D) (hS : S news)
    (elem : ∀ v d I oI C oC D' m₂ ys h tk (E' : Value → Shared → Prop) (Q' : Value → Shared → Prop), R v d → NsObj oC m₂ → m₂ x = some v → Fr h₀ L h m → News h₀ L h ((I, oI) :: (C, oC) :: (D', lst ys) :: news) →
      (∀ y tk', R' y d → Q' y { s with heap := h, toks := tk' }) → wpAny (model prog w) A (eval elt (compEnvC scope cl C env)) Q' E' { s with heap := h, toks := tk })
    (fin : ∀ ys, All2 R' ys D → Fin ys news) : CompRest prog w A h₀ L m env elt x scope cl s S (fun i v => its.toArray[i]? = some v) Fin its.toArray.size 0 [] news := by
  have key : ∀ (k i : Nat) (ys : List Value), i + k = D.length → All2 R' ys (D.take i) → CompRest prog w A h₀ L m env elt x scope cl s S (fun i v => its.toArray[i]? = some v) Fin k i ys news := by
    intro k
    induction k with
    | zero =>
      intro i ys hi hy
      rw [List.take_of_length_le (by omega)] at hy
      exact CompRest.zero (fin ys hy)
    | succ k ih =>
      intro i ys hi hy
      refine CompRest.succ ?_
      intro v I oI C oC D' m₂ h tk E' hP hC hx F N off ne
      obtain ⟨d, hd, hr⟩ := hR.get (i := i) (a := v) (by simpa using hP)
      refine elem v d I oI C oC D' m₂ ys h tk E' _ hr hC hx F N fun y tk1 hy' => ?_
      refine CompEnd.intro F N news (fun p hp => hp) off hS (ih (i + 1) (ys ++ [y]) (by omega) ?_)
      rw [List.take_add_one, hd]
      exact hy.append (.cons hy' .nil)
  have hl : its.toArray.size = D.length := by rw [List.size_toArray, hR.length]
  rw [hl]
  exact key D.length 0 [] (by omega) (by simpa using .nil)
end
end
section
-- part MComp2
/-- the stack's frames as entries of a ledger, their slots as they may be -/
noncomputable def FrsOf (g : Heap) (fr : List Addr) (frs : Led) : Prop := (∀ b ∈ fr, ∃ p ∈ frs, p.1 = b) ∧ ∀ p ∈ frs, p.1 ∈ fr ∧ ∃ o sl, g.get? p.1 = some o ∧ p.2 = { o with slots := sl }
section
variable {A₀ : Around} {base g g2 h : Heap} {outer : List Env} {L : Addr} {m : Str → Option Value} {own : Led}
theorem turn_back {fr : List Addr} (KT : KtsTurn fr g g2) {b : Addr} (e : g2.get? b = none) : g.get? b = none := by
  cases q : g.get? b with
  | none => rfl
  | some o => obtain ⟨sl, e2⟩ := KT.up q; rw [e] at e2; cases e2
theorem hideF (B : Below A₀ base outer g) (KT : KtsTurn (outer.filterMap (·.frame)) g g2) (F : Fr g2 L h m) (N : News g2 L h own) :
    ∃ frs, FrsOf g (outer.filterMap (·.frame)) frs ∧ Fr (hideAll g (outer.filterMap (·.frame))) L h m ∧ News (hideAll g (outer.filterMap (·.frame))) L h (frs ++ own) ∧ ∀ p ∈ own, g.get? p.1 = none := by
  have hb : ∀ b ∈ outer.filterMap (·.frame), ∃ o sl, g.get? b = some o ∧ h.get? b = some { o with slots := sl } := by
    intro b hb
    obtain ⟨_, o, ho, _⟩ := B.frames.mem hb
    obtain ⟨sl, e⟩ := KT.frame b o ho hb
    exact ⟨o, sl, ho, F.keep _ _ e⟩
  have hgo : ∀ p ∈ own, g.get? p.1 = none := fun p hp => turn_back KT (N p hp).2.2
  generalize outer.filterMap (·.frame) = fr at hb KT
  refine ⟨fr.map fun b => (b, (h.get? b).getD default), ⟨fun b hm => ⟨_, List.mem_map_of_mem hm, rfl⟩, fun p hp => ?_⟩, ⟨F.ns, fun b o e => ?_, ?_⟩, fun p hp => ?_, hgo⟩
  · obtain ⟨b, hm, rfl⟩ := List.mem_map.mp hp
    obtain ⟨o, sl, e1, e2⟩ := hb b hm
    exact ⟨hm, o, sl, e1, by simp [e2]⟩
  · have hn : b ∉ fr := fun hm => by rw [hideAll_none fr hm] at e; cases e
    exact F.keep _ _ (KT.other b o (of_hideAll _ e) hn)
  · rw [hideAll_size, ← KT.size]; exact F.above
  · rcases List.mem_append.mp hp with hp | hp
    · obtain ⟨b, hm, rfl⟩ := List.mem_map.mp hp
      obtain ⟨o, sl, e1, e2⟩ := hb b hm
      refine ⟨by simp [e2], fun z => ?_, hideAll_none fr hm⟩
      have := kts_self F
      dsimp only at z
      rw [← z] at this
      obtain ⟨sl', e3⟩ := KT.up e1
      rw [this] at e3; cases e3
    · refine ⟨(N p hp).1, (N p hp).2.1, ?_⟩
      cases q : (hideAll g fr).get? p.1 with
      | none => rfl
      | some o => have := of_hideAll _ q; rw [hgo p hp] at this; cases this
theorem unhideF {frs : Led} (B : Below A₀ base outer g) (hf : FrsOf g (outer.filterMap (·.frame)) frs) (F : Fr (hideAll g (outer.filterMap (·.frame))) L h m) (N : News (hideAll g (outer.filterMap (·.frame))) L h (frs ++ own)) (hgo : ∀ p ∈ own, g.get? p.1 = none) :
    ∃ g2, KtsTurn (outer.filterMap (·.frame)) g g2 ∧ Below A₀ base outer g2 ∧ Fr g2 L h m ∧ News g2 L h own := by
  obtain ⟨T, S⟩ := kts_turn_at (h := h) (fs := outer.filterMap (·.frame)) (g := g)
    (fun b hb => by obtain ⟨_, o, ho, _⟩ := B.frames.mem hb; exact ⟨o, ho⟩)
    (fun b o e nm => F.keep _ _ (hideAll_get _ e nm))
    (fun b o e hm => by
      obtain ⟨p, hp, rfl⟩ := hf.1 b hm
      obtain ⟨_, o', sl, e1, e2⟩ := hf.2 p hp
      rw [e] at e1; cases e1
      exact ⟨sl, by rw [(N p (List.mem_append_left _ hp)).1, e2]⟩)
  refine ⟨_, T, ⟨B.stack, fun b o e => T.other b o (B.stays b o e) (fun hm => by rw [(B.frames.mem hm).1] at e; cases e), B.frames.of_keeps fun b o e _ => ?_⟩, ⟨F.ns, S, ?_⟩, fun p hp => ?_⟩
  · obtain ⟨sl, hs⟩ := T.up e
    exact ⟨_, hs, rfl⟩
  · rw [T.size]; have := F.above; rwa [hideAll_size] at this
  · have n := N p (List.mem_append_right _ hp)
    exact ⟨n.1, n.2.1, T.none_ _ (hgo p hp)⟩
end
noncomputable def RowAt (rl : Led) (v : Value) (row : List Str) : Prop := ∃ r xs c, v = .ref r ∧ (r, lstO xs.toArray c) ∈ rl ∧ StrsAre xs row
theorem RowAt.mono {rl rl' : Led} {v : Value} {row : List Str} (h : ∀ p ∈ rl, p ∈ rl') : RowAt rl v row → RowAt rl' v row := by
  rintro ⟨r, xs, c, rfl, h1, h2⟩
  exact ⟨r, xs, c, rfl, h _ h1, h2⟩
section
variable {prog : Program} {w : World} {A A₀ : Around} {s : Shared} {base g : Heap} {outer : List Env} {L : Addr} {m : Str → Option Value} {env : Env} {elt iter : Expr} {x : Str} {px pos : Pos} {scope : Scope} {cl : List (Str × Addr)} {own : Led}
  {δ : Type} {R : Value → δ → Prop} {its : List Value} {D : List δ} {row : δ → List Str} {ax c : Nat} {Q E : Value → Shared → Prop}
open LCg
theorem comp_split (B : Below A₀ base outer g) (F : Fr g L s.heap m) (N : News g L s.heap own) (hf : env.frame = some L) (hm : (ax, lstO its.toArray c) ∈ own) (hsz : its.length ≤ 1000) (hh : A.handled = none)
    (hclos : closureFor scope env = pure cl) (hcell : ∀ y ∈ scope.names, y.2 ≠ .cell) (hkind : scope.kind = .function)
    (hnames : ∀ y ∈ scope.names, y.2 = .local → scope.names.lookup y.1 = some .local) (hx : scope.names.lookup x = some .local) (hs : ∀ x, foldedSetIterable iter env x = pure x)
    (hR : All2 R its D) (hit : ∀ Q' : Value → Shared → Prop, Q' (.ref ax) s → wpAny (model prog w) A (eval iter env) Q' E s)
    (elem : ∀ v d I oI C oC D' m₂ ys g2 h tk rl (E' Q' : Value → Shared → Prop), R v d → NsObj oC m₂ → m₂ x = some v → KtsTurn (outer.filterMap (·.frame)) g g2 → Below A₀ base outer g2 → Fr g2 L h m → News g2 L h ((I, oI) :: (C, oC) :: (D', lst ys) :: (rl ++ own)) →
      (∀ r xs c h3 tk3, StrsAre xs (row d) → KeptS (env :: outer) [(r, lstO xs.toArray c)] h h3 → h.get? r = none → Q' (.ref r) { s with heap := h3, toks := tk3 }) →
      wpAny (model prog w) A (eval elt (compEnvC scope cl C env)) Q' E' { s with heap := h, toks := tk })
    (hQ : ∀ D' h tk g2 ys rl, KtsTurn (outer.filterMap (·.frame)) g g2 → Below A₀ base outer g2 → Fr g2 L h m → News g2 L h ((D', lst ys) :: (rl ++ own)) → All2 (RowAt rl) ys (D.map row) → Q (.ref D') { s with heap := h, toks := tk }) :
    wpAny (model prog w) A (eval (.ListComp elt [⟨.Name x px, iter, [], 0⟩] scope pos) env) Q E s := by
  obtain ⟨frs, hfr, F₀, N₀, hgo⟩ := hideF B .refl F N
  refine ListComp_U F₀ hclos hcell hkind hnames hx (hit _ ?_) hs
  refine CompSrc.ledger hh F₀ N₀ (List.mem_append_right _ hm) (by rw [List.size_toArray]; exact Nat.le_trans hsz (by decide)) fun gg => ?_
  have key : ∀ (k i : Nat) (ys : List Value) (frs rl : Led), i + k = D.length → All2 (RowAt rl) ys ((D.take i).map row) → FrsOf g (outer.filterMap (·.frame)) frs → (∀ p ∈ rl ++ own, g.get? p.1 = none) →
      CompRest prog w A (hideAll g (outer.filterMap (·.frame))) L m env elt x scope cl { s with heap := gg } (SrcAt (hideAll g (outer.filterMap (·.frame))) ax its.toArray) (fun i v => its.toArray[i]? = some v)
        (FinE (hideAll g (outer.filterMap (·.frame))) L m { s with heap := gg } Q) k i ys (frs ++ (rl ++ own)) := by
    intro k
    induction k with
    | zero =>
      intro i ys frs rl hi hy hfr hrl
      rw [List.take_of_length_le (by omega)] at hy
      refine CompRest.zero ?_
      intro D' h tk F' N' off
      have hD : g.get? D' = none := by
        cases q : g.get? D' with
        | none => rfl
        | some o =>
          have n := (N' _ (.head _)).2.2
          by_cases hmm : D' ∈ outer.filterMap (·.frame)
          · obtain ⟨p, hp, e⟩ := hfr.1 _ hmm
            have : p.1 ≠ D' := by
              have key : ∀ l : Led, Off1 D' l → ∀ p ∈ l, p.1 ≠ D' := by
                intro l
                induction l with
                | nil => intro _ p hp; cases hp
                | cons a l ih =>
                  intro ho p hp
                  rcases List.mem_cons.mp hp with rfl | hp
                  · exact ho.1
                  · exact ih ho.2 p hp
              exact key _ off p (List.mem_append_left _ hp)
            exact absurd e this
          · have e2 : (hideAll g (outer.filterMap (·.frame))).get? D' = none := n
            rw [hideAll_get _ q hmm] at e2; cases e2
      obtain ⟨g2, KT, B2, F2, N2⟩ := unhideF (own := (D', lst ys) :: (rl ++ own)) B hfr F' (fun p hp => N' p (by
        simp only [List.mem_append, List.mem_cons] at hp ⊢
        rcases hp with h | h | h | h
        · exact .inr (.inl h)
        · exact .inl h
        · exact .inr (.inr (.inl h))
        · exact .inr (.inr (.inr h)))) (fun p hp => by
          rcases List.mem_cons.mp hp with rfl | hp
          · exact hD
          · exact hrl p hp)
      exact hQ D' h tk g2 ys rl KT B2 F2 N2 hy
    | succ k ih =>
      intro i ys frs rl hi hy hfr hrl
      refine CompRest.succ ?_
      intro v I oI C oC D' m₂ h tk E' hP hC hx' F' N' off ne
      obtain ⟨d, hd, hr⟩ := hR.get (i := i) (a := v) (by simpa using hP)
      have off' := off.mem
      have hnf : ∀ a ∈ [I, C, D'], a ∉ outer.filterMap (·.frame) := by
        intro a ha hmm
        obtain ⟨p, hp, e⟩ := hfr.1 _ hmm
        have o := off' p (List.mem_append_left _ hp)
        simp only [List.mem_cons, List.not_mem_nil, or_false] at ha
        rcases ha with rfl | rfl | rfl
        · exact o.1 e
        · exact o.2.1 e
        · exact o.2.2 e
      have hg3 : ∀ a o, a ∈ [I, C, D'] → (a, o) ∈ (I, oI) :: (C, oC) :: (D', lst ys) :: (frs ++ (rl ++ own)) → g.get? a = none := by
        intro a o ha hmm
        cases q : g.get? a with
        | none => rfl
        | some o' =>
          have n := (N' _ hmm).2.2
          rw [hideAll_get _ q (hnf a ha)] at n; cases n
      have hall : ∀ p ∈ (I, oI) :: (C, oC) :: (D', lst ys) :: (rl ++ own), g.get? p.1 = none := by
        intro p hp
        rcases List.mem_cons.mp hp with rfl | hp
        · exact hg3 I oI (.head _) (.head _)
        rcases List.mem_cons.mp hp with rfl | hp
        · exact hg3 C oC (.tail _ (.head _)) (.tail _ (.head _))
        rcases List.mem_cons.mp hp with rfl | hp
        · exact hg3 D' _ (.tail _ (.tail _ (.head _))) (.tail _ (.tail _ (.head _)))
        · exact hrl p hp
      obtain ⟨g2, KT, B2, F2, N2⟩ := unhideF (own := (I, oI) :: (C, oC) :: (D', lst ys) :: (rl ++ own)) B hfr F' (fun p hp => N' p (by
        simp only [List.mem_append, List.mem_cons] at hp ⊢
        rcases hp with h | h | h | h | h | h
        · exact .inr (.inr (.inr (.inl h)))
        · exact .inl h
        · exact .inr (.inl h)
        · exact .inr (.inr (.inl h))
        · exact .inr (.inr (.inr (.inr (.inl h))))
        · exact .inr (.inr (.inr (.inr (.inr h)))))) hall
      refine elem v d I oI C oC D' m₂ ys g2 h tk rl E' _ hr hC hx' KT B2 F2 N2 ?_
      intro r xs c' h3 tk3 hxs KS hnew
      have hne : ∀ p ∈ (I, oI) :: (C, oC) :: (D', lst ys) :: (rl ++ own), p.1 ≠ r := fun p hp e => by
        have := (N2 p hp).1; rw [e, hnew] at this; cases this
      obtain ⟨g3, KT3, F3, B3, N3⟩ := groundS (news' := (r, lstO xs.toArray c') :: (I, oI) :: (C, oC) :: (D', lst ys) :: (rl ++ own)) B2 F2 N2 hf KS (fun p hp => .inr (by cases List.mem_singleton.mp hp; exact hnew)) (fun p hp => by
        rcases List.mem_cons.mp hp with rfl | hp
        · exact .inl (.head _)
        · exact .inr ⟨hp, fun q hq => by cases List.mem_singleton.mp hq; exact fun e => hne p hp e.symm⟩)
      obtain ⟨frs3, hfr3, F4, N4, hgo4⟩ := hideF B (KT.trans KT3) F3 N3
      refine CompEnd.intro F4 N4 (frs3 ++ (((r, lstO xs.toArray c') :: rl) ++ own)) ?_ (Off3.of ?_) (.inr ⟨lstO its.toArray c, ?_, rfl, c, rfl⟩) (ih (i + 1) (ys ++ [.ref r]) frs3 ((r, lstO xs.toArray c') :: rl) (by omega) ?_ hfr3 ?_)
      · intro p hp
        simp only [List.mem_append, List.mem_cons] at hp ⊢
        rcases hp with h | h | h | h | (h | h) | h
        · exact .inr (.inr (.inl h))
        · exact .inr (.inr (.inr (.inl h)))
        · exact .inr (.inr (.inr (.inr (.inl h))))
        · exact .inl h
        · exact .inr (.inl h)
        · exact .inr (.inr (.inr (.inr (.inr (.inl h)))))
        · exact .inr (.inr (.inr (.inr (.inr (.inr h)))))
      · intro p hp
        rcases List.mem_append.mp hp with hp | hp
        · have hb := (hfr3.2 p hp).1
          exact ⟨fun e => hnf I (.head _) (e ▸ hb), fun e => hnf C (.tail _ (.head _)) (e ▸ hb), fun e => hnf D' (.tail _ (.tail _ (.head _))) (e ▸ hb)⟩
        · rcases List.mem_cons.mp hp with rfl | hp
          · exact ⟨fun e => hne _ (.head _) e.symm, fun e => hne _ (.tail _ (.head _)) e.symm, fun e => hne _ (.tail _ (.tail _ (.head _))) e.symm⟩
          · exact off' p (List.mem_append_right _ hp)
      · exact List.mem_append_right _ (List.mem_append_right _ hm)
      · rw [List.take_add_one, hd, List.map_append]
        exact (hy.mono fun _ _ z => z.mono fun p hp => .tail _ hp).append (.cons ⟨r, xs, c', rfl, .head _, hxs⟩ .nil)
      · intro p hp
        rcases List.mem_cons.mp hp with rfl | hp
        · exact hgo4 _ (.head _)
        · exact hrl p hp
  have hl : its.toArray.size = D.length := by rw [List.size_toArray, hR.length]
  rw [hl]
  exact key D.length 0 [] frs [] (by omega) (by simpa using .nil) hfr (by simpa using hgo)
end
end
section
-- part MOrd
theorem str_tri {a b : Str} (h1 : ¬ a.cps.toList < b.cps.toList) (h2 : ¬ b.cps.toList < a.cps.toList) : a = b := by
  have : a.cps.toList = b.cps.toList := List.le_antisymm (List.not_lt.mp h2) (List.not_lt.mp h1)
  cases a; cases b
  simp only [Str.mk.injEq]
  exact Array.toList_inj.mp this
theorem str_ne {a b : Str} (h : a.cps.toList < b.cps.toList) : a ≠ b := by
  rintro rfl
  exact List.lt_irrefl _ h
theorem ltS_irrefl : ∀ a : List Str, ltS a a = false
  | [] => rfl
  | a :: r => by unfold ltS; simp [ltS_irrefl r]
theorem ltS_asymm : ∀ {a b : List Str}, ltS a b = true → ltS b a = false
  | _, [], h => by unfold ltS at h; simp at h
  | [], _ :: _, _ => rfl
  | a :: r, b :: t, h => by
    unfold ltS at h ⊢
    by_cases e : a = b
    · subst e
      simp only [beq_self_eq_true, if_true] at h ⊢
      exact ltS_asymm h
    · have e' : ¬ b = a := fun z => e z.symm
      simp only [beq_iff_eq, e, e', if_false, decide_eq_true_eq, decide_eq_false_iff_not] at h ⊢
      exact List.lt_asymm h
theorem ltS_tri : ∀ {a b : List Str}, ltS a b = false → ltS b a = false → a = b
  | [], [], _, _ => rfl
  | [], _ :: _, h, _ => by unfold ltS at h; cases h
  | _ :: _, [], _, h => by unfold ltS at h; cases h
  | a :: r, b :: t, h1, h2 => by
    unfold ltS at h1 h2
    by_cases e : a = b
    · subst e
      simp only [beq_self_eq_true, if_true] at h1 h2
      rw [ltS_tri h1 h2]
    · have e' : ¬ b = a := fun z => e z.symm
      simp only [beq_iff_eq, e, e', if_false, decide_eq_false_iff_not] at h1 h2
      exact absurd (str_tri h1 h2) e
theorem ltS_trans : ∀ {a b c : List Str}, ltS a b = true → ltS b c = true → ltS a c = true
  | _, _, [], _, h => by unfold ltS at h; simp at h
  | _, [], _ :: _, h, _ => by unfold ltS at h; simp at h
  | [], _ :: _, _ :: _, _, _ => rfl
  | a :: r, b :: t, c :: u, h1, h2 => by
    unfold ltS at h1 h2 ⊢
    by_cases e1 : a = b
    · subst e1
      simp only [beq_self_eq_true, if_true] at h1
      by_cases e2 : a = c
      · subst e2
        simp only [beq_self_eq_true, if_true] at h2 ⊢
        exact ltS_trans h1 h2
      · simpa only [beq_iff_eq, e2, if_false] using h2
    · simp only [beq_iff_eq, e1, if_false, decide_eq_true_eq] at h1
      by_cases e2 : b = c
      · subst e2
        simp only [beq_iff_eq, e1, if_false, decide_eq_true_eq]
        exact h1
      · simp only [beq_iff_eq, e2, if_false, decide_eq_true_eq] at h2
        have h3 := List.lt_trans h1 h2
        simp only [beq_iff_eq, str_ne h3, if_false, decide_eq_true_eq]
        exact h3
/-- a ≤ b < c -/
theorem leS_lt {a b c : List Str} (h1 : ltS b a = false) (h2 : ltS b c = true) : ltS a c = true := by
  cases h : ltS a b with
  | true => exact ltS_trans h h2
  | false => rw [ltS_tri h h1]; exact h2
theorem ltS_le {a b c : List Str} (h1 : ltS a b = true) (h2 : ltS c b = false) : ltS a c = true := by
  cases h : ltS b c with
  | true => exact ltS_trans h1 h
  | false => rw [ltS_tri h2 h]; exact h1
noncomputable def Srt (rs : List (List Str)) : Prop := rs.Pairwise fun a b => ltS b a = false
noncomputable def cntL (rs : List (List Str)) (x : List Str) : Nat := rs.countP fun r => ltS r x
noncomputable def cntE (rs : List (List Str)) (x : List Str) : Nat := rs.countP fun r => decide (r = x)
theorem cntL_le (rs : List (List Str)) (x : List Str) : cntL rs x ≤ rs.length := List.countP_le_length
theorem cntL_at : ∀ {rs : List (List Str)} {x : List Str}, Srt rs → ∀ i r, rs[i]? = some r → ltS r x = decide (i < cntL rs x)
  | [], _, _, i, r, h => by simp at h
  | a :: rs, x, hs, i, r, h => by
    obtain ⟨h1, h2⟩ := List.pairwise_cons.mp hs
    unfold cntL
    rw [List.countP_cons]
    cases ha : ltS a x with
    | true =>
      cases i with
      | zero => cases h; simp [ha]
      | succ i =>
        rw [cntL_at h2 i r (by simpa using h)]
        unfold cntL
        simp
    | false =>
      have all : ∀ b ∈ rs, ltS b x = false := by
        intro b hb
        cases hbx : ltS b x with
        | false => rfl
        | true => rw [leS_lt (h1 b hb) hbx] at ha; cases ha
      have z : rs.countP (fun r => ltS r x) = 0 := List.countP_eq_zero.mpr fun b hb => by simp [all b hb]
      rw [z]
      cases i with
      | zero => cases h; simp [ha]
      | succ i => rw [all r (List.mem_of_getElem? (by simpa using h))]; simp
theorem cntR_eq (rs : List (List Str)) (x : List Str) : cntL rs x + cntE rs x = rs.countP fun r => !ltS x r := by
  unfold cntL cntE
  induction rs with
  | nil => rfl
  | cons a rs ih =>
    rw [List.countP_cons, List.countP_cons, List.countP_cons, ← ih]
    cases h1 : ltS a x with
    | true =>
      have h2 : ltS x a = false := ltS_asymm h1
      have h3 : a ≠ x := by rintro rfl; rw [ltS_irrefl] at h1; cases h1
      simp [h2, h3]; omega
    | false =>
      cases h2 : ltS x a with
      | true =>
        have h3 : a ≠ x := by rintro rfl; rw [h1] at h2; cases h2
        simp [h3]
      | false =>
        have h3 : a = x := ltS_tri h1 h2
        simp [h3]; omega
theorem cntR_le (rs : List (List Str)) (x : List Str) : cntL rs x + cntE rs x ≤ rs.length := by rw [cntR_eq]; exact List.countP_le_length
theorem cntR_at' : ∀ {rs : List (List Str)} {x : List Str}, Srt rs → ∀ i r, rs[i]? = some r → ltS x r = decide (rs.countP (fun r => !ltS x r) ≤ i)
  | [], _, _, i, r, h => by simp at h
  | a :: rs, x, hs, i, r, h => by
    obtain ⟨h1, h2⟩ := List.pairwise_cons.mp hs
    rw [List.countP_cons]
    cases ha : ltS x a with
    | false =>
      cases i with
      | zero => cases h; simp [ha]
      | succ i =>
        rw [cntR_at' h2 i r (by simpa using h)]
        simp
    | true =>
      have all : ∀ b ∈ rs, ltS x b = true := fun b hb => ltS_le ha (h1 b hb)
      have z : rs.countP (fun r => !ltS x r) = 0 := List.countP_eq_zero.mpr fun b hb => by simp [all b hb]
      rw [z]
      cases i with
      | zero => cases h; simp [ha]
      | succ i => rw [all r (List.mem_of_getElem? (by simpa using h))]; simp
theorem cntR_at {rs : List (List Str)} {x : List Str} (hs : Srt rs) (i : Nat) (r : List Str) (h : rs[i]? = some r) : ltS x r = decide (cntL rs x + cntE rs x ≤ i) := by
  rw [cntR_eq]; exact cntR_at' hs i r h
theorem srt_ins {rs : List (List Str)} {x : List Str} {K : Nat} (hs : Srt rs) (h1 : ∀ i r, rs[i]? = some r → i < K → ltS x r = false) (h2 : ∀ i r, rs[i]? = some r → K ≤ i → ltS r x = false) : Srt (rs.take K ++ x :: rs.drop K) := by
  unfold Srt at hs ⊢
  have hs' := hs
  rw [← List.take_append_drop K rs] at hs'
  obtain ⟨a, b, c⟩ := List.pairwise_append.mp hs'
  refine List.pairwise_append.mpr ⟨a, List.pairwise_cons.mpr ⟨fun r hr => ?_, b⟩, fun r hr q hq => ?_⟩
  · obtain ⟨i, hi⟩ := List.getElem?_of_mem hr
    rw [List.getElem?_drop] at hi
    exact h2 _ _ hi (by omega)
  · rcases List.mem_cons.mp hq with rfl | hq
    · obtain ⟨i, hi⟩ := List.getElem?_of_mem hr
      rw [List.getElem?_take] at hi
      split at hi
      · exact h1 _ _ hi (by assumption)
      · cases hi
    · exact c r hr q hq
theorem srt_insL {rs : List (List Str)} {x : List Str} (hs : Srt rs) : Srt (rs.take (cntL rs x) ++ x :: rs.drop (cntL rs x)) :=
  srt_ins hs (fun i r h hi => ltS_asymm (by rw [cntL_at hs i r h]; simpa using hi)) (fun i r h hi => by rw [cntL_at hs i r h]; simpa using hi)
theorem srt_insR {rs : List (List Str)} {x : List Str} (hs : Srt rs) : Srt (rs.take (cntL rs x + cntE rs x) ++ x :: rs.drop (cntL rs x + cntE rs x)) :=
  srt_ins hs (fun i r h hi => by rw [cntR_at hs i r h]; simpa using hi) (fun i r h hi => ltS_asymm (by rw [cntR_at hs i r h]; simpa using hi))
theorem Rows.ins : ∀ {ts : List Str} {rs : List (List Str)} {t : Str} {r : List Str} (K : Nat), Rows ts rs → t.length ≤ 1000000 → t.cps.toList.all isAlpha = true → Wds .ws t.cps.toList (some r) → Rows (ts.take K ++ t :: ts.drop K) (rs.take K ++ r :: rs.drop K)
  | _, _, _, _, 0, h, a, b, c => by simpa using .cons a b c h
  | _, _, _, _, _ + 1, .nil, a, b, c => by simpa using .cons a b c .nil
  | _, _, _, _, K + 1, .cons a' b' c' h, a, b, c => by simpa using .cons a' b' c' (h.ins K a b c)
theorem Rows.length : ∀ {ts : List Str} {rs : List (List Str)}, Rows ts rs → ts.length = rs.length
  | _, _, .nil => rfl
  | _, _, .cons _ _ _ h => by simp [h.length]
end
section
-- part M15
local macro_rules | `(tactic| walk_at $s) => if ["exec If", "call ref", "exec For", "exec For Name Call cons nil", "pyIter ref", "call builtin:len", "eval ListComp", "subscriptTail Name Name ref int", "subscriptTail Name Constant ref int", "compareOp Lt ref ref", "compareOp Eq ref ref", "compareOp NotEq ref ref"].contains s.getString then `(tactic| (k_here; refine cut_any ?_)) else Lean.Macro.throwUnsupported
local macro_rules | `(tactic| k_updF) => `(tactic| first | (refine' UpdF.head ?a; (case a => first | assumption | k_all)) | (refine' UpdF.tail ?a ?b; (case a => first | assumption | k_ne); (case b => k_updF)))
theorem nei_no {prog : Program} {w : World} {A : Around} {E : Value → Shared → Prop} {s : Shared} {a b : Int} {t u : Tok} {Q : Value → Shared → Prop} (hb : a = b) (h : Q (.bool false) s) : wpAny (model prog w) A (compareOp .NotEq (.int a t) (.int b u)) Q E s :=
  PyProof.Rows.ne_int (by rw [hb]; simpa using h)
local macro_rules | `(tactic| walk_at "compareOp NotEq int int") => `(tactic| (k_here; refine' nei_no ?hb ?_; (case hb => omega)))
theorem pick_take (xs : List Value) (K : Nat) : kms_pick xs.toArray.toList none (some (K : Int)) = xs.take K := by
  unfold kms_pick kms_lo kms_hi
  rw [List.toList_toArray]
  simp only [if_neg (show ¬ (K : Int) < 0 from by omega), Int.toNat_natCast, List.drop_zero, Nat.sub_zero]
  by_cases h : K ≤ xs.length
  · rw [Nat.min_eq_left h]
  · rw [Nat.min_eq_right (by omega), List.take_of_length_le (Nat.le_refl _), List.take_of_length_le (by omega)]
theorem pick_drop (xs : List Value) (K : Nat) : kms_pick xs.toArray.toList (some (K : Int)) none = xs.drop K := by
  unfold kms_pick kms_lo kms_hi
  rw [List.toList_toArray]
  simp only [if_neg (show ¬ (K : Int) < 0 from by omega), Int.toNat_natCast]
  rw [List.take_of_length_le (by rw [List.length_drop]; omega)]
  by_cases h : K ≤ xs.length
  · rw [Nat.min_eq_left h]
  · rw [Nat.min_eq_right (by omega), List.drop_of_length_le (Nat.le_refl _), List.drop_of_length_le (by omega)]
local macro_rules | `(tactic| walk_at "subscriptTail Name Slice ref ref") => `(tactic| (k_here; k_dflt (refine' kms_slice_lit ?F ?N ?l ?p ?q ?e ?_ ?s ?t ?z; (case F => k_asm); (case N => k_asm); (case l => exact News.isList (by k_asm) (by k_mem)); (case p => kmk_part); (case q => kmk_part); (case e => first | exact pick_take _ _ | exact pick_drop _ _); (case s => with_unfolding_all rfl); (case t => kmk_pure); (case z => (simp only [List.size_toArray]; omega)); k_whole; intro D' h' F' N' l1; (try k_lt l1); (try k_sweep))))
/-- a line in the ground -/
noncomputable def LnH (g : Heap) (v : Value) (ln : Ln) : Prop :=
  ∃ (p r : Nat) (xs : List Value) (t f : Tok), v = .ref p ∧ g.IsList p #[.ref r, .str ln.text t, .str ln.fault f] ∧ g.IsList r xs.toArray ∧ StrsAre xs ln.row
/-- an entry of due -/
noncomputable def DuAt (g : Heap) (sub : Led) (v : Value) (d : List Str × Str) : Prop :=
  ∃ (q r : Nat) (xs : List Value) (t : Tok) (c : Nat), v = .ref q ∧ (q, lstO #[.ref r, .str d.2 t] c) ∈ sub ∧ g.IsList r xs.toArray ∧ StrsAre xs d.1
structure KpJ (g : Heap) (l L' : Nat) (D : List (List Str × Str)) (m : Str → Option Value) (news : Led) (kp du c1 c2 : Nat) (ks ds : List Value) (o : Obj) (sub : Led) (cv : Option Value) : Prop where
  m1 : m (Str.ofString "lines") = some (.ref l)
  m2 : m (Str.ofString "kept") = some (.ref kp)
  m3 : m (Str.ofString "due") = some (.ref du)
  n : news = (kp, lstO ks.toArray c1) :: (du, lstO ds.toArray c2) :: (L' + 1, o) :: sub
  cell : o.data = .cell cv
  hk : StrsAre ks (D.map (·.2))
  hd : All2 (DuAt g sub) ds D
  d1 : kp ≠ du
  d2 : kp ≠ L' + 1
  d3 : du ≠ L' + 1
  hs : ∀ p ∈ sub, p.1 ≠ kp ∧ p.1 ≠ du ∧ p.1 ≠ L' + 1
noncomputable def KpI (g : Heap) (l L' : Nat) (D : List (List Str × Str)) (m : Str → Option Value) (news : Led) : Prop := ∃ kp du c1 c2 ks ds o sub cv, KpJ g l L' D m news kp du c1 c2 ks ds o sub cv
noncomputable def duStep (k : Nat) (D : List (List Str × Str)) (ln : Ln) : List (List Str × Str) :=
  if ln.fault = Str.ofString "" then
    if k % 2 = 1 then D.take (cntL (D.map (·.1)) ln.row) ++ (ln.row, ln.text) :: D.drop (cntL (D.map (·.1)) ln.row)
    else D.take (cntL (D.map (·.1)) ln.row + cntE (D.map (·.1)) ln.row) ++ (ln.row, ln.text) :: D.drop (cntL (D.map (·.1)) ln.row + cntE (D.map (·.1)) ln.row)
  else D
noncomputable def duOf : Nat → List (List Str × Str) → List Ln → List (List Str × Str)
  | _, D, [] => D
  | k, D, ln :: r => duOf (k + 1) (duStep k D ln) r
theorem duOf_snoc : ∀ (k : Nat) (D : List (List Str × Str)) (l : List Ln) (ln : Ln), duOf k D (l ++ [ln]) = duStep (k + l.length) (duOf k D l) ln
  | _, _, [], _ => rfl
  | k, D, a :: l, ln => by
    rw [List.cons_append]
    unfold duOf
    rw [duOf_snoc, List.length_cons]
    rw [show k + 1 + l.length = k + (l.length + 1) from by omega]
structure LnOk (ln : Ln) : Prop where
  len : ln.text.length ≤ 1000
  flen : ln.fault.length ≤ 1000
  ta : ln.text.cps.toList.all isAlpha = true
  fa : ln.fault.cps.toList.all isAlpha = true
  words : ∀ x ∈ ln.row, PyData.strOk x = true
  good : ln.fault = Str.ofString "" → Wds .ws ln.text.cps.toList (some ln.row)
  bad : ln.fault ≠ Str.ofString "" → Wds .ws (ln.text ++ ln.fault).cps.toList none
structure DOk (n : Nat) (D : List (List Str × Str)) : Prop where
  len : D.length ≤ n
  rows : Rows (D.map (·.2)) (D.map (·.1))
  srt : Srt (D.map (·.1))
  words : ∀ d ∈ D, ∀ x ∈ d.1, PyData.strOk x = true
theorem DOk.ins {n K : Nat} {D : List (List Str × Str)} {ln : Ln} (h : DOk n D) (o : LnOk ln) (hf : ln.fault = Str.ofString "") (hs : Srt ((D.map (·.1)).take K ++ ln.row :: (D.map (·.1)).drop K)) : DOk (n + 1) (D.take K ++ (ln.row, ln.text) :: D.drop K) := by
  refine ⟨?_, ?_, ?_, fun d hd => ?_⟩
  · have := h.len
    rw [List.length_append, List.length_cons, List.length_take, List.length_drop]; omega
  · rw [List.map_append, List.map_append, List.map_cons, List.map_cons, List.map_take, List.map_take, List.map_drop, List.map_drop]
    exact h.rows.ins K (Nat.le_trans o.len (by decide)) o.ta (o.good hf)
  · rw [List.map_append, List.map_cons, List.map_take, List.map_drop]
    exact hs
  · rcases List.mem_append.mp hd with hd | hd
    · exact h.words d (List.mem_of_mem_take hd)
    · rcases List.mem_cons.mp hd with rfl | hd
      · exact o.words
      · exact h.words d (List.mem_of_mem_drop hd)
theorem DOk.step {n k : Nat} {D : List (List Str × Str)} {ln : Ln} (h : DOk n D) (o : LnOk ln) : DOk (n + 1) (duStep k D ln) := by
  unfold duStep
  split
  · split
    · exact h.ins o (by assumption) (srt_insL h.srt)
    · exact h.ins o (by assumption) (srt_insR h.srt)
  · exact ⟨Nat.le_succ_of_le h.len, h.rows, h.srt, h.words⟩
theorem DOk.of : ∀ {l : List Ln} {n k : Nat} {D : List (List Str × Str)}, DOk n D → (∀ ln ∈ l, LnOk ln) → DOk (n + l.length) (duOf k D l)
  | [], _, _, _, h, _ => h
  | ln :: r, n, k, D, h, o => by
    have := DOk.of (k := k + 1) (h.step (k := k) (o ln (.head _))) (fun x hx => o x (.tail _ hx))
    unfold duOf
    rw [List.length_cons]
    rwa [show n + (r.length + 1) = n + 1 + r.length from by omega]
theorem DOk.mono {n k : Nat} {D : List (List Str × Str)} (h : DOk n D) (hk : n ≤ k) : DOk k D := ⟨Nat.le_trans h.len hk, h.rows, h.srt, h.words⟩
theorem Rows.ok : ∀ {ts : List Str} {rs : List (List Str)}, Rows ts rs → ∀ t ∈ ts, PyData.strOk t = true
  | _, _, .cons _ b _ h, t, hm => by
    rcases List.mem_cons.mp hm with rfl | hm
    · exact strOk_alpha b
    · exact h.ok t hm
theorem dicts_cons {fs : List Env} {env : Env} {g h : Heap} {L : Addr} {m : Str → Option Value} (F : Fr g L h m) (hf : env.frame = some L) (D : KtsDicts (fs.filterMap (·.frame)) g) : KtsDicts ((env :: fs).filterMap (·.frame)) h := by
  intro b hb
  rw [List.filterMap_cons, hf] at hb
  rcases List.mem_cons.mp hb with rfl | hb
  · obtain ⟨o, es, n, h1, h2, _⟩ := F.ns
    exact ⟨o, es, n, h1, h2⟩
  · obtain ⟨o, es, n, h1, h2⟩ := D b hb
    exact ⟨o, es, n, F.keep _ _ h1, h2⟩
theorem strs_all2 {α : Type} {f : α → Str} : ∀ {ys : List Value} {D : List α}, All2 (fun y d => ∃ t, y = .str (f d) t) ys D → StrsAre ys (D.map f)
  | _, _, .nil => .nil
  | _, _, .cons ⟨t, e⟩ h => by subst e; exact .cons _ t (strs_all2 h)
theorem not_I {I a b c : Nat} {oa ob oc : Obj} {sub : Led} (h1 : a ≠ I) (h2 : b ≠ I) (h3 : c ≠ I) (h4 : ∀ p ∈ sub, p.1 ≠ I) : ∀ p ∈ (a, oa) :: (b, ob) :: (c, oc) :: sub, p.1 ∉ [I] := by
  intro p hp
  rw [List.mem_singleton]
  rcases List.mem_cons.mp hp with rfl | hp
  · exact h1
  rcases List.mem_cons.mp hp with rfl | hp
  · exact h2
  rcases List.mem_cons.mp hp with rfl | hp
  · exact h3
  · exact h4 p hp
theorem upd_kp {I kp du c : Nat} {oI ok ok' od oc : Obj} {sub : Led} (h1 : kp ≠ I) (d1 : kp ≠ du) (d2 : kp ≠ c) (hs : ∀ p ∈ sub, p.1 ≠ kp ∧ p.1 ≠ du ∧ p.1 ≠ c) :
    ∀ p ∈ (I, oI) :: (kp, ok') :: (du, od) :: (c, oc) :: sub, p ∈ [(kp, ok')] ∨ (p ∈ (I, oI) :: (kp, ok) :: (du, od) :: (c, oc) :: sub ∧ ∀ q ∈ [(kp, ok')], q.1 ≠ p.1) := by
  intro p hp
  rcases List.mem_cons.mp hp with rfl | hp
  · exact .inr ⟨.head _, fun q hq => by cases List.mem_singleton.mp hq; exact h1⟩
  rcases List.mem_cons.mp hp with rfl | hp
  · exact .inl (.head _)
  rcases List.mem_cons.mp hp with rfl | hp
  · exact .inr ⟨tl 2 (.head _), fun q hq => by cases List.mem_singleton.mp hq; exact d1⟩
  rcases List.mem_cons.mp hp with rfl | hp
  · exact .inr ⟨tl 3 (.head _), fun q hq => by cases List.mem_singleton.mp hq; exact d2⟩
  · exact .inr ⟨tl 4 hp, fun q hq => by cases List.mem_singleton.mp hq; exact fun e => (hs p hp).1 e.symm⟩
theorem strs_ins {t : Str} {tk : Tok} : ∀ (K : Nat) {ks : List Value} {ts : List Str}, StrsAre ks ts → StrsAre (ks.take K ++ .str t tk :: ks.drop K) (ts.take K ++ t :: ts.drop K)
  | 0, _, _, h => by simpa using .cons t tk h
  | _ + 1, _, _, .nil => by simpa using .cons t tk .nil
  | K + 1, _, _, .cons a u h => by simpa using .cons a u (strs_ins K h)
theorem allLt_mem {d : Nat} : ∀ {l : Led}, AllLt d l → ∀ p ∈ l, p.1 < d
  | [], _, _, h => nomatch h
  | _ :: _, h, p, hp => by
    rcases List.mem_cons.mp hp with rfl | hp
    · exact h.1
    · exact allLt_mem h.2 p hp
theorem kp_done {A₀ : Around} {base g g9 h' : Heap} {outer : List Env} {L : Nat} {s : Shared} {m' : Str → Option Value} {tk I kp du q d r c8 l K : Nat} {o o' : Obj} {D D2 : List (List Str × Str)} {ln : Ln} {ks ds xs : List Value} {t1 : Tok} {sub led : Led} {cv : Option Value} {P : Prop}
    (hD : D2 = D.take K ++ (ln.row, ln.text) :: D.drop K) (KT : KtsTurn (outer.filterMap (·.frame)) g g9) (B : Below A₀ base outer g9) (F : Fr g9 L h' m') (N : News g9 L h' led)
    (hl : ∀ p ∈ (I, o) :: (kp, lstO (ks.take K ++ .str ln.text t1 :: ks.drop K).toArray c8) :: (d, lstO (ds.take K ++ [Value.ref q] ++ ds.drop K).toArray 0) :: (L + 1, o') :: (q, lstO #[.ref r, .str ln.text t1] 0) :: sub, p ∈ led)
    (m1 : m' (Str.ofString "lines") = some (.ref l)) (m2 : m' (Str.ofString "kept") = some (.ref kp)) (m3 : m' (Str.ofString "due") = some (.ref d)) (hcell : o'.data = .cell cv) (hks : StrsAre ks (D.map (·.2))) (hds : All2 (DuAt g sub) ds D) (hr : g.IsList r xs.toArray) (hxs : StrsAre xs ln.row)
    (hIk : kp ≠ I) (hIc : I ≠ L + 1) (hIs : ∀ p ∈ sub, p.1 ≠ I) (d2 : kp ≠ L + 1) (hsub : ∀ p ∈ sub, p.1 ≠ kp ∧ p.1 ≠ du ∧ p.1 ≠ L + 1)
    (lq : I < q ∧ kp < q ∧ du < q ∧ L + 1 < q ∧ AllLt q sub) (ld : q < d ∧ P ∧ I < d ∧ kp < d ∧ du < d ∧ L + 1 < d ∧ AllLt d sub) :
    FEnd A₀ base outer g L s [I] [(I, o)] (KpI g l L D2) { s with heap := h', toks := tk } := by
  subst hD
  obtain ⟨q1, q2, q3, q4, q5⟩ := lq
  obtain ⟨e1, _, e2, e3, e4, e5, e6⟩ := ld
  refine ⟨g9, h', tk, m', (kp, lstO (ks.take K ++ .str ln.text t1 :: ks.drop K).toArray c8) :: (d, lstO (ds.take K ++ [Value.ref q] ++ ds.drop K).toArray 0) :: (L + 1, o') :: (q, lstO #[.ref r, .str ln.text t1] 0) :: sub, rfl, KT, B, F, fun p hp => N p (hl p hp), not_I hIk (Nat.ne_of_gt e2) (Ne.symm hIc) (List.forall_mem_cons.mpr ⟨Nat.ne_of_gt q1, hIs⟩),
    kp, d, c8, 0, ks.take K ++ .str ln.text t1 :: ks.drop K, ds.take K ++ [Value.ref q] ++ ds.drop K, o', (q, lstO #[.ref r, .str ln.text t1] 0) :: sub, cv, m1, m2, m3, rfl, hcell, ?_, ?_, Nat.ne_of_lt e3, d2, Nat.ne_of_gt e5, List.forall_mem_cons.mpr ⟨⟨Nat.ne_of_gt q2, Nat.ne_of_lt e1, Nat.ne_of_gt q4⟩, fun p hp => ⟨(hsub p hp).1, Nat.ne_of_lt (allLt_mem e6 p hp), (hsub p hp).2.2⟩⟩⟩
  · rw [List.map_append, List.map_cons, List.map_take, List.map_drop]
    exact strs_ins K hks
  · have h2 : All2 (DuAt g ((q, lstO #[.ref r, .str ln.text t1] 0) :: sub)) ds D := hds.mono fun v d h => by
      obtain ⟨q, r, xs, t, c, e, h1, h2, h3⟩ := h
      exact ⟨q, r, xs, t, c, e, .tail _ h1, h2, h3⟩
    rw [List.append_assoc]
    exact (h2.take K).append (.cons ⟨q, r, xs, t1, 0, rfl, .head _, hr, hxs⟩ (h2.drop K))
theorem fmod2 {k : Nat} : (k : Int).fmod 2 = 1 ↔ k % 2 = 1 := by
  rw [Int.fmod_eq_emod_of_nonneg _ (by decide)]
  omega
noncomputable def RowIn (h : Heap) (v : Value) (row : List Str) : Prop := ∃ r xs, v = .ref r ∧ h.IsList r (List.toArray xs) ∧ StrsAre xs row
theorem reads_rows {h : Heap} : ∀ {vs : List Value} {rows : List (List Str)}, All2 (RowIn h) vs rows → ∃ as, ReadsAll h vs (rows.map fun r => .list (r.map .str)) as
  | _, _, .nil => ⟨_, .nil⟩
  | _, _, .cons ⟨r, xs, e, h1, h2⟩ t => by
    subst e
    obtain ⟨as, ht⟩ := reads_rows t
    exact ⟨_, .cons (reads_strs h1 h2) ht⟩
theorem canLay_rows : ∀ rows : List (List Str), (∀ r ∈ rows, ∀ x ∈ r, PyData.strOk x = true) → PyData.canLayAll0 (rows.map fun r => .list (r.map .str)) = true
  | [], _ => rfl
  | a :: r, h => by simp [PyData.canLayAll0, PyData.canLay0, canLay_rows r (fun x hx => h x (.tail _ hx)), canLay_strs a (h a (.head _))]
theorem depth_rows : ∀ rows : List (List Str), PyData.depthAll (rows.map fun r => .list (r.map .str)) ≤ 1
  | [] => by simp [PyData.depthAll]
  | a :: r => by have := depth_rows r; simp [PyData.depthAll, PyData.depth, depth_strs a]; omega
theorem eq_rows {prog : Program} {w : World} {A : Around} {E : Value → Shared → Prop} {s : Shared} {a b : Addr} {vs us : List Value} {rows : List (List Str)} {Q : Value → Shared → Prop} (ha : s.heap.IsList a vs.toArray) (hb : s.heap.IsList b us.toArray) (h1 : All2 (RowIn s.heap) vs rows) (h2 : All2 (RowIn s.heap) us rows)
    (ok : ∀ r ∈ rows, ∀ x ∈ r, PyData.strOk x = true) (hu : A.units + 64 < cLine) (h : Q (.bool true) s) : wpAny (model prog w) A (compareOp .Eq (.ref a) (.ref b)) Q E s := by
  obtain ⟨as, r1⟩ := reads_rows h1
  obtain ⟨bs, r2⟩ := reads_rows h2
  obtain ⟨oa, ea, ca, na, da⟩ := ha
  obtain ⟨ob, eb, cb, nb, db⟩ := hb
  have cl : PyData.canLay0 (.list (rows.map fun r => .list (r.map .str))) = true := by simp [PyData.canLay0, canLay_rows rows ok]
  have sh : SeqAt.shaped (.list (rows.map fun r => .list (r.map .str))) = true := by
    have := depth_rows rows
    unfold SeqAt.shaped
    rw [cl]
    simp [PyData.depth]; omega
  refine eq_dataH (reads_list_at ea ca da r1) (reads_list_at eb cb db r2) sh sh hu ?_
  rw [SeqAt.eqv_refl _ cl]
  exact h
theorem news_swap {g h : Heap} {L : Addr} {a b c : Addr × Obj} (N : News g L h (a :: b :: ([c] ++ []))) : News g L h [b, a, c] := by
  intro p hp
  refine N p ?_
  simp only [List.mem_cons, List.mem_append, List.not_mem_nil, or_false] at hp ⊢
  rcases hp with h | h | h <;> simp [h]
theorem kp_start {g : Heap} {l L kp du : Nat} {o : Obj} {cv : Option Value} {m : Str → Option Value} (lk : ∀ p ∈ [(L + 1, o)] ++ [], p.1 < kp) (ld : kp < du ∧ AllLt du ([(L + 1, o)] ++ [])) (hc : o.data = .cell cv)
    (m1 : m (Str.ofString "lines") = some (.ref l)) (m2 : m (Str.ofString "kept") = some (.ref kp)) (m3 : m (Str.ofString "due") = some (.ref du)) : KpI g l L [] m [(kp, listOf #[] 0), (du, listOf #[] 0), (L + 1, o)] :=
  ⟨kp, du, 0, 0, [], [], o, [], cv, m1, m2, m3, rfl, hc, .nil, .nil, Nat.ne_of_lt ld.1, Nat.ne_of_gt (lk _ (.head _)), Nat.ne_of_gt ld.2.1, fun _ h => nomatch h⟩
noncomputable def TxOk (v : Value) (d : List Str × Str) : Prop := (∃ t, v = .str d.2 t) ∧ d.2.length ≤ 1000000 ∧ d.2.cps.toList.all isAlpha = true ∧ Wds .ws d.2.cps.toList (some d.1)
theorem tx_all : ∀ {ks : List Value} {D : List (List Str × Str)}, StrsAre ks (D.map (·.2)) → Rows (D.map (·.2)) (D.map (·.1)) → All2 TxOk ks D
  | _, [], .nil, _ => .nil
  | _, d :: D, .cons _ t h, .cons a b c r => .cons ⟨⟨t, rfl⟩, a, b, c⟩ (tx_all h r)
theorem all2_map {α : Type} {R : Value → List Str → Prop} {f : α → List Str} : ∀ {ys : List Value} {D : List α}, All2 (fun y d => R y (f d)) ys D → All2 R ys (D.map f)
  | _, _, .nil => .nil
  | _, _, .cons a h => .cons a (all2_map h)
theorem dok0 : DOk 0 [] := ⟨Nat.le_refl _, .nil, List.Pairwise.nil, fun _ h => nomatch h⟩
theorem all4 {α : Type} {p : α → Prop} {a b c d : α} (h1 : p a) (h2 : p b) (h3 : p c) (h4 : p d) : ∀ x ∈ [a, b, c, d], p x :=
  List.forall_mem_cons.mpr ⟨h1, List.forall_mem_cons.mpr ⟨h2, List.forall_mem_cons.mpr ⟨h3, List.forall_mem_cons.mpr ⟨h4, fun _ h => nomatch h⟩⟩⟩⟩
theorem range_size (n : Nat) : Builtin.Range.rangeSize 0 (n : Int) 1 = (n : Int) := by
  rw [rangeSize_nat]; simp
theorem range_small {n : Nat} (h : n ≤ 1000) : Builtin.Range.small 0 (n : Int) 1 = true := by
  unfold Builtin.Range.small
  rw [range_size]
  simp [Builtin.Range.rangeFitsLong]
  omega
theorem kept_spec {prog : Program} {w : World} {dp un : Nat} {gd : Option (List Code)} {s : Shared} {base : Heap} {fs : List Env} {loose : List Str} {mean : ExcName → Option Value} {mg mb : Str → Option Value}
    {Q : Value → Shared → Prop} {E : Value → Shared → Prop} {l : Nat} {items : List Value} {lns : List Ln}
    (B : Below (Ar dp un gd fs) base fs s.heap) (X : (fr.heap_1 w.params).In base) {vw : Program} (T : Top vw loose mean mg mb base) (hd : dp + 80 < recursionLimit) (hu : un + 300 < cLine) (KD : KtsDicts (fs.filterMap (·.frame)) s.heap)
    (hl : s.heap.IsList l items.toArray) (hln : All2 (LnH s.heap) items lns) (hok : ∀ ln ∈ lns, LnOk ln) (hlen2 : lns.length ≤ 100)
    (hret : ∀ h' tk', KeptS fs [] s.heap h' → Q (.bool true) { s with heap := h', toks := tk' }) :
    wpAny (model prog w) (Ar dp un gd fs) (call (.ref 796) [.ref l]) Q E s := by
  refine wpAny_call ?_
  refine' enterC (own := []) B X T (fun _ h => nomatch h) ?k6 ?k7 ?k8 ?k9 ?kK ?kD ?_ ?c2 ?c3 ?c4
  (case k6 => k_is)
  (case k7 => k_is)
  (case k8 => (dsimp only [Ar]; omega))
  (case k9 => exact BindsTo.of_eq rfl)
  (case kK => exact kindsX rfl)
  (case kD => decide)
  (case c2 => exact rfl)
  (case c3 => exact rfl)
  (case c4 => exact rfl)
  intro g' L' h' tk cells hg' F' N' Y B' X' T' l1
  dsimp only
  k_fold
  k_cells Y
  have eg : ∀ b o, s.heap.get? b = some o → g'.get? b = some o := fun b o e => hg'.get b o e (fun _ h => nomatch h)
  have hlg : g'.IsList l items.toArray := stays_list eg hl
  have hlng : All2 (LnH g') items lns := hln.mono fun v ln h => by
    obtain ⟨p, r, xs, t, f, e, h1, h2, h3⟩ := h
    exact ⟨p, r, xs, t, f, e, stays_list eg h1, stays_list eg h2, h3⟩
  (repeat' (first | (k_unfold; (try dsimp only)) | walk1 | (dsimp only; walk1) | (dsimp only; k_unfold; (try dsimp only))))
  unfold Stop
  refine wpAny_For ?_ (by intro _; rfl)
  (repeat' (first | (k_unfold; (try dsimp only)) | walk1 | (dsimp only; walk1) | (dsimp only; k_unfold; (try dsimp only))))
  unfold Stop
  (with_reducible rename Fr _ _ _ _ => kF)
  refine kun_lenL (k := (lns.length : Int)) (stays_list kF.keep hlg) (by rw [List.size_toArray, hln.length]) (by omega) ?_
  (repeat' (first | (k_unfold; (try dsimp only)) | walk1 | (dsimp only; walk1) | (dsimp only; k_unfold; (try dsimp only))))
  unfold Stop
  (with_reducible rename Fr _ _ _ _ => kF)
  (with_reducible rename News _ _ _ _ => kN)
  refine for_range (n := lns.length) (J := fun k => KpI g' l L' (duOf 0 [] (lns.take k))) rfl rfl rfl (by assumption) (range_small (by omega)) (range_size _) B' kF (news_swap kN) ?J0 ?step ?done
  case J0 => exact kp_start (by assumption) (by assumption) (by assumption) rfl rfl rfl
  case done =>
    clear kF kN X' T'
    rintro g2 h2 tk2 m2 news2 KT B2 F2 N2 ⟨kp, du, c1, c2, ks, ds, oc, sub, cv, hm1, hm2, hm3, rfl, hcv, hks, hds, d1, d2, d3, hsub⟩
    have dok : DOk 100 (duOf 0 [] (lns.take lns.length)) := (DOk.of (k := 0) dok0 (fun x hx => hok x (List.mem_of_mem_take hx))).mono (by rw [List.length_take]; omega)
    generalize duOf 0 [] (lns.take lns.length) = D at hks hds dok
    have hdl := dok.len
    have hdsl := hds.length
    have hksl := hks.length
    rw [List.length_map] at hksl
    have sz200 : (200 : Nat) ≤ sizeLine := by decide
    have X2 := X.keeps B2.stays
    have T2 := T.keeps B2.stays
    have F3 : Fr g2 L' h2 (kstB _ _) := fr_kst (ps := [(Str.ofString "lines", .ref l), (Str.ofString "kept", .ref kp), (Str.ofString "due", .ref du)]) F2 (all3 hm1 hm2 hm3)
    clear F2
    dsimp only
    (repeat' (first | (k_unfold; (try dsimp only)) | walk1 | (dsimp only; walk1) | (dsimp only; k_unfold; (try dsimp only))))
    unfold Stop
    refine comp_split (row := (·.1)) (its := ks) B2 F3 N2 rfl (.head _) (by omega) rfl (by rfl) (by decide) (by rfl) (by decide) (by rfl) (by intro _; rfl) (tx_all hks dok.rows) (fun Q' hQ' => nameX_L F3 (by rfl) hQ' (by rfl) (by rfl)) ?elem ?fin
    case elem =>
      intro v d I' oI C oC D' m₂ ys g4 h tk rl E' Q' hr' hC hx KT4 B4 F4 N4 hQ
      obtain ⟨⟨t, rfl⟩, a1, a2, a3⟩ := hr'
      have X4 := X.keeps B4.stays
      have T4 := T.keeps B4.stays
      (repeat' (first | (k_unfold; (try dsimp only)) | walk1 | (dsimp only; walk1) | (dsimp only; k_unfold; (try dsimp only))))
      unfold Stop
      refine split_spec (ar_below F4 B4 rfl rfl) X T (by dsimp only [Ar]; omega) a1 a2 a3 ?ret ?rse
      case rse => intro e h' tk' G hno; cases hno
      case ret =>
        intro r' ri c' h5 tk5 rs hrs hri KS hnew
        cases hrs
        exact hQ _ _ _ _ _ hri KS hnew
    case fin =>
      intro D' h4 tk4 g4 ys rl KT4 B4 F4 N4 hys
      have X4 := X.keeps B4.stays
      have T4 := T.keeps B4.stays
      clear F3 N2 X2 T2
      dsimp only
      (repeat' (first | (k_unfold; (try dsimp only)) | walk1 | (dsimp only; walk1) | (dsimp only; k_unfold; (try dsimp only))))
      unfold Stop
      refine LCg.ListComp_U (F₀ := F4) (by rfl) (by decide) (by rfl) (by decide) (by rfl) ?_
      refine nameX_L F4 (by rfl) ?_ (by rfl) (by rfl)
      refine LCg.CompSrc.ledger rfl F4 N4 (.tail _ (List.mem_append_right _ (.tail _ (.head _)))) (by rw [List.size_toArray]; omega) ?_
      intro gg
      refine rest_map (R' := fun y d => RowIn g4 y d.1) hds (.inr ⟨_, .tail _ (List.mem_append_right _ (.tail _ (.head _))), rfl, _, rfl⟩) ?elem ?fin
      case elem =>
        intro v d I' oI C oC D' m₂ ys h tk E' Q' hr' hC hx F N hQ
        dsimp only at hQ ⊢
        obtain ⟨q, rq, xq, tq, cq, rfl, hq, hrq, hxq⟩ := hr'
        (repeat' (first | (k_unfold; (try dsimp only)) | walk1 | (dsimp only; walk1) | (dsimp only; k_unfold; (try dsimp only))))
        unfold Stop
        refine item_litK (vs := [.ref rq, .str d.2 tq]) (v := .ref rq) ⟨_, (N _ (tl 4 (List.mem_append_right _ (tl 3 hq)))).1, rfl, _, rfl⟩ (by decide) (by decide) rfl ?_ (by with_unfolding_all rfl)
        exact hQ _ _ ⟨_, _, rfl, isList_turn KT4 (isList_turn KT hrq), hxq⟩
      case fin =>
        intro zs hzs D2 h5 tk5 F5 N5 off
        dsimp only
        (repeat' (first | (k_unfold; (try dsimp only)) | walk1 | (dsimp only; walk1) | (dsimp only; k_unfold; (try dsimp only))))
        unfold Stop
        refine eq_rows (vs := ys) (us := zs) (rows := D.map (·.1)) ⟨_, (N5 _ (.tail _ (.head _))).1, rfl, _, rfl⟩ ⟨_, (N5 _ (.head _)).1, rfl, _, rfl⟩ (hys.mono fun v row hh => ?_) (all2_map (hzs.mono fun v d hh => ?_)) (fun r hr => ?_) (by dsimp only [Ar, Around.deeper]; omega) ?_
        · obtain ⟨r, xs, c, rfl, e1, e2⟩ := hh
          exact ⟨r, xs, rfl, ⟨_, (N5 _ (tl 2 (List.mem_append_left _ e1))).1, rfl, _, rfl⟩, e2⟩
        · obtain ⟨r, xs, rfl, e1, e2⟩ := hh
          exact ⟨r, xs, rfl, stays_list F5.keep e1, e2⟩
        · obtain ⟨d, hd', rfl⟩ := List.mem_map.mp hr
          exact dok.words d hd'
        · have N6 : News g4 L' h5 [] := News.nil
          clear N5 off N4 F4
          (repeat' (first | (k_unfold; (try dsimp only)) | walk1 | (dsimp only; walk1) | (dsimp only; k_unfold; (try dsimp only))))
          exact hret _ _ (keptS_all ((hg'.toS (base := base) (fun _ h => nomatch h)).turn (KT.trans KT4)) F5 N6 (fun _ h => nomatch h))
  case step =>
    clear kF kN X' T'
    rintro I k t g2 m₁ news₁ h2 tk2 o hk ⟨kp, du, c1, c2, ks, ds, oc, sub, cv, hm1, hm2, hm3, rfl, hcv, hks, hds, d1, d2, d3, hsub⟩ hI KT B2 F2 N2
    obtain ⟨v, ln, hv, hln1, p, r, xs, t1, t2, rfl, hp, hr, hxs⟩ := hlng.at hk
    have dok : DOk 100 (duOf 0 [] (lns.take k)) := (DOk.of (k := 0) dok0 (fun x hx => hok x (List.mem_of_mem_take hx))).mono (by rw [List.length_take]; omega)
    have KD2 : KtsDicts (fs.filterMap (·.frame)) g2 := KtsDicts.turn (fun b m => by
      obtain ⟨o, es, n, e1, e2⟩ := KD b m
      exact ⟨o, es, n, eg _ _ e1, e2⟩) KT
    have lok : LnOk ln := hok ln (List.mem_of_getElem? hln1)
    have hnext : duOf 0 [] (lns.take (k + 1)) = duStep k (duOf 0 [] (lns.take k)) ln := by
      rw [List.take_add_one, hln1]
      show duOf 0 [] (lns.take k ++ [ln]) = _
      rw [duOf_snoc, List.length_take, Nat.zero_add, Nat.min_eq_left (by omega)]
    rw [hnext]
    clear hnext
    generalize duOf 0 [] (lns.take k) = D at hks hds dok ⊢
    have hcl := cntL_le (D.map (·.1)) ln.row
    have hcr := cntR_le (D.map (·.1)) ln.row
    rw [List.length_map] at hcl hcr
    have hdl := dok.len
    have hdsl := hds.length
    have sz200 : (200 : Nat) ≤ sizeLine := by decide
    have X2 := X.keeps B2.stays
    have T2 := T.keeps B2.stays
    have F3 : Fr g2 L' h2 (kstB _ _) := fr_kst (ps := [(Str.ofString "k", .int k t), (Str.ofString "lines", .ref l), (Str.ofString "kept", .ref kp), (Str.ofString "due", .ref du)]) F2 (all4 rfl hm1 hm2 hm3)
    have N3 : News g2 L' h2 _ := N2
    clear F2 N2
    have hp2 := isList_turn KT hp
    have hr2 := isList_turn KT hr
    have hIc : I ≠ L' + 1 := fun e => hI _ (.tail _ (.tail _ (.head _))) e.symm
    have hIk : kp ≠ I := hI _ (.head _)
    have hId : du ≠ I := hI _ (.tail _ (.head _))
    have hIs : ∀ p ∈ sub, p.1 ≠ I := fun p hp => hI p (.tail _ (.tail _ (.tail _ hp)))
    have hsubc : ∀ p ∈ sub, p.1 ≠ L' + 1 := fun p hp => (hsub p hp).2.2
    (repeat' (first | (k_unfold; (try dsimp only)) | walk1 | (dsimp only; walk1) | (dsimp only; k_unfold; (try dsimp only))))
    unfold Stop
    (with_reducible rename Fr _ _ _ _ => kF)
    refine item_litK (vs := items) (v := .ref p) (stays_list kF.keep (isList_turn KT hlg)) (by omega) (by omega) (by rw [Int.toNat_natCast]; exact hv) ?_ (by with_unfolding_all rfl)
    have hp3 := stays_list kF.keep hp2
    (repeat' (first | (k_unfold; (try dsimp only)) | walk1 | (dsimp only; walk1) | (dsimp only; k_unfold; (try dsimp only))))
    clear hp3
    unfold Stop
    (with_reducible rename Fr _ _ _ _ => kF)
    (with_reducible rename News _ _ _ _ => kN)
    (with_reducible rename _ = Data.cell _ => hcell)
    refine LCt.ListComp_T (F₀ := kF) (by rfl) (by decide) (by rfl) (by decide) (by rfl) ?_
    refine nameX_L kF (by rfl) ?_ (by rfl) (by rfl)
    refine LCt.CompSrcT.ledger rfl kF kN (.tail _ (.tail _ (.head _))) (by rw [List.size_toArray, hds.length]; exact Nat.le_trans dok.len (by decide)) ?_
    intro gg
    refine rest_count (fun d => ltS d.1 ln.row) hds (.inr ⟨_, .tail _ (.tail _ (.head _)), rfl, _, rfl⟩) ?test ?elem ?fin
    case test =>
      intro v d I' oI C oC D' m₂ ys h tk E' Q' hr' hC hx F N hQ
      dsimp only at hQ ⊢
      obtain ⟨q, rq, xq, tq, cq, rfl, hq, hrq, hxq⟩ := hr'
      (repeat' (first | (k_unfold; (try dsimp only)) | walk1 | (dsimp only; walk1) | (dsimp only; k_unfold; (try dsimp only))))
      unfold Stop
      refine item_litK (vs := [.ref rq, .str d.2 tq]) (v := .ref rq) ⟨_, (N _ (tl 7 hq)).1, rfl, _, rfl⟩ (by decide) (by decide) rfl ?_ (by with_unfolding_all rfl)
      (repeat' (first | (k_unfold; (try dsimp only)) | walk1 | (dsimp only; walk1) | (dsimp only; k_unfold; (try dsimp only))))
      unfold Stop
      refine lt_lists (stays_list F.keep (isList_turn KT hrq)) (stays_list F.keep hr2) hxq hxs (by dsimp only [Ar, Around.deeper]; omega) ?_
      (repeat' (first | (k_unfold; (try dsimp only)) | walk1 | (dsimp only; walk1) | (dsimp only; k_unfold; (try dsimp only))))
      exact hQ _
    case elem =>
      intro v d I' oI C oC D' m₂ ys h tk E' Q' hr' hC hx F N hQ
      exact LCgL.ld_own N (.tail _ (.head _)) hC hx (hQ _)
    case fin =>
      intro ys hys D' h3 tk3 F3 N3 off
      dsimp only
      clear kF kN
      (repeat' (first | (k_unfold; (try dsimp only)) | walk1 | (dsimp only; walk1) | (dsimp only; k_unfold; (try dsimp only))))
      unfold Stop
      refine kun_lenL (k := (cntL (D.map (·.1)) ln.row : Int)) ⟨_, (N3 _ (.head _)).1, rfl, _, rfl⟩ (by rw [List.size_toArray, hys]; unfold cntL; rw [List.countP_map]; rfl) (by omega) ?_
      have N4 : News g2 L' h3 _ := fun p hp => N3 p (.tail _ hp)
      clear N3 off
      (repeat' (first | (k_unfold; (try dsimp only)) | walk1 | (dsimp only; walk1) | (dsimp only; k_unfold; (try dsimp only))))
      unfold Stop
      (with_reducible rename Fr _ _ _ _ => kF)
      (with_reducible rename News _ _ _ _ => kN)
      refine LCt.ListComp_T (F₀ := kF) (by rfl) (by decide) (by rfl) (by decide) (by rfl) ?_
      refine nameX_L kF (by rfl) ?_ (by rfl) (by rfl)
      refine LCt.CompSrcT.ledger rfl kF kN (.tail _ (.tail _ (.head _))) (by rw [List.size_toArray, hds.length]; exact Nat.le_trans dok.len (by decide)) ?_
      intro gg
      refine rest_count (fun d => decide (d.1 = ln.row)) hds.mem (.inr ⟨_, .tail _ (.tail _ (.head _)), rfl, _, rfl⟩) ?test ?elem ?fin
      case test =>
        intro v d I' oI C oC D' m₂ ys h tk E' Q' hr' hC hx F N hQ
        dsimp only at hQ ⊢
        obtain ⟨⟨q, rq, xq, tq, cq, rfl, hq, hrq, hxq⟩, hdm⟩ := hr'
        (repeat' (first | (k_unfold; (try dsimp only)) | walk1 | (dsimp only; walk1) | (dsimp only; k_unfold; (try dsimp only))))
        unfold Stop
        refine item_litK (vs := [.ref rq, .str d.2 tq]) (v := .ref rq) ⟨_, (N _ (tl 7 hq)).1, rfl, _, rfl⟩ (by decide) (by decide) rfl ?_ (by with_unfolding_all rfl)
        (repeat' (first | (k_unfold; (try dsimp only)) | walk1 | (dsimp only; walk1) | (dsimp only; k_unfold; (try dsimp only))))
        unfold Stop
        refine eq_strs (stays_list F.keep (isList_turn KT hrq)) (stays_list F.keep hr2) hxq hxs (dok.words d hdm) lok.words (by dsimp only [Ar, Around.deeper]; omega) ?_
        (repeat' (first | (k_unfold; (try dsimp only)) | walk1 | (dsimp only; walk1) | (dsimp only; k_unfold; (try dsimp only))))
        exact hQ _
      case elem =>
        intro v d I' oI C oC D' m₂ ys h tk E' Q' hr' hC hx F N hQ
        exact LCgL.ld_own N (.tail _ (.head _)) hC hx (hQ _)
      case fin =>
        intro ys hys D' h3 tk3 F3 N3 off
        dsimp only
        clear kF kN
        (repeat' (first | (k_unfold; (try dsimp only)) | walk1 | (dsimp only; walk1) | (dsimp only; k_unfold; (try dsimp only))))
        unfold Stop
        refine kun_lenL (k := (cntE (D.map (·.1)) ln.row : Int)) ⟨_, (N3 _ (.head _)).1, rfl, _, rfl⟩ (by rw [List.size_toArray, hys]; unfold cntE; rw [List.countP_map]; rfl) (by omega) ?_
        have N4 : News g2 L' h3 _ := fun p hp => N3 p (.tail _ hp)
        clear N3 off
        (repeat' (first | (k_unfold; (try dsimp only)) | walk1 | (dsimp only; walk1) | (dsimp only; k_unfold; (try dsimp only))))
        unfold Stop
        (with_reducible rename Fr _ _ _ _ => kF)
        (with_reducible rename News _ _ _ _ => kN)
        rw [← Int.natCast_add] at kF
        refine wpAny_mono (Q := fun f s' => f = Flow.next ∧ FEnd (Ar dp un gd fs) base fs g' L' s [I] [(I, o)] (KpI g' l L' (duStep k D ln)) s') ?iff ?after (fun _ _ e => e)
        case after =>
          rintro f s' ⟨rfl, g6, h6, tk6, m6, news6, rfl, KT6, B6, F6, N6, hI6, kp6, du6, c16, c26, ks6, ds6, oc6, sub6, cv6, n1, n2, n3, rfl, hcv6, hks6, hds6, e1, e2, e3, hsub6⟩
          clear kF kN
          have dok6 : DOk 101 (duStep k D ln) := dok.step lok
          have h6l := hds6.length
          have h6m := dok6.len
          have X6 := X.keeps B6.stays
          have T6 := T.keeps B6.stays
          have F7 : Fr g6 L' h6 (kstB _ _) := fr_kst (ps := [(Str.ofString "lines", .ref l), (Str.ofString "kept", .ref kp6), (Str.ofString "due", .ref du6)]) F6 (all3 n1 n2 n3)
          clear F6
          dsimp only
          (repeat' (first | (k_unfold; (try dsimp only)) | walk1 | (dsimp only; walk1) | (dsimp only; k_unfold; (try dsimp only))))
          unfold Stop
          refine wpAny_If ?_
          (repeat' (first | (k_unfold; (try dsimp only)) | walk1 | (dsimp only; walk1) | (dsimp only; k_unfold; (try dsimp only))))
          unfold Stop
          refine LCg.ListComp_U (F₀ := F7) (by rfl) (by decide) (by rfl) (by decide) (by rfl) ?_
          refine nameX_L F7 (by rfl) ?_ (by rfl) (by rfl)
          refine LCg.CompSrc.ledger rfl F7 N6 (.tail _ (.tail _ (.head _))) (by rw [List.size_toArray]; omega) ?_
          intro gg
          refine rest_map (R' := fun y d => ∃ t, y = .str d.2 t) hds6 (.inr ⟨_, .tail _ (.tail _ (.head _)), rfl, _, rfl⟩) ?elem ?fin
          case elem =>
            intro v d I' oI C oC D' m₂ ys h tk E' Q' hr' hC hx F N hQ
            dsimp only at hQ ⊢
            obtain ⟨q, rq, xq, tq, cq, rfl, hq, hrq, hxq⟩ := hr'
            (repeat' (first | (k_unfold; (try dsimp only)) | walk1 | (dsimp only; walk1) | (dsimp only; k_unfold; (try dsimp only))))
            unfold Stop
            refine item_litK (vs := [.ref rq, .str d.2 tq]) (v := .str d.2 tq) ⟨_, (N _ (tl 7 hq)).1, rfl, _, rfl⟩ (by decide) (by decide) rfl ?_ (by with_unfolding_all rfl)
            exact hQ _ _ ⟨_, rfl⟩
          case fin =>
            intro ys hys D' h3 tk3 F3 N3 off
            dsimp only
            clear F7
            (repeat' (first | (k_unfold; (try dsimp only)) | walk1 | (dsimp only; walk1) | (dsimp only; k_unfold; (try dsimp only))))
            unfold Stop
            refine ne_strs (rs := (duStep k D ln).map (·.2)) (ss := (duStep k D ln).map (·.2)) ⟨_, (N3 _ (tl 2 (.head _))).1, rfl, _, rfl⟩ ⟨_, (N3 _ (.head _)).1, rfl, _, rfl⟩ hks6 (strs_all2 hys) dok6.rows.ok dok6.rows.ok (by dsimp only [Ar, Around.deeper]; omega) ?_
            rw [decide_eq_true rfl]
            have N4 : News g6 L' h3 _ := fun p hp => N3 p (.tail _ hp)
            clear N3 off N6
            (repeat' (first | (k_unfold; (try dsimp only)) | walk1 | (dsimp only; walk1) | (dsimp only; k_unfold; (try dsimp only))))
            exact ⟨g6, _, _, _, _, rfl, KT6, B6, F3, N4, hI6, kp6, du6, c16, c26, ks6, ds6, oc6, sub6, cv6, rfl, rfl, rfl, rfl, hcv6, hks6, hds6, e1, e2, e3, hsub6⟩
        case iff =>
          refine wpAny_If ?_
          (repeat' (first | (k_unfold; (try dsimp only)) | walk1 | (dsimp only; walk1) | (dsimp only; k_unfold; (try dsimp only))))
          · (with_reducible rename (ln.fault != _) = true => hfa)
            have hfb : ln.fault ≠ Str.ofString "" := by simpa using hfa
            clear hfa
            have hl1 := lok.len
            have hl2 := lok.flen
            unfold Stop
            refine wpAny_If ?_
            (repeat' (first | (k_unfold; (try dsimp only)) | walk1 | (dsimp only; walk1) | (dsimp only; k_unfold; (try dsimp only))))
            unfold Stop
            (with_reducible rename Fr _ _ _ _ => kF)
            (with_reducible rename News _ _ _ _ => kN)
            show wpAny _ _ (call (.ref 791) [.ref kp, .str (ln.text ++ ln.fault) _]) _ _ _
            refine ref_spec (ar_below kF B2 rfl rfl) X T (by dsimp only [Ar]; omega) (dicts_cons kF rfl KD2) (by rw [app_len]; have := lok.len; have := lok.flen; omega) (by rw [app_list, List.all_append, lok.ta, lok.fa]; rfl) (lok.bad hfb) ?_
            intro h6 tk6 KS
            obtain ⟨g6, KT6, F6, B6, N6⟩ := groundS B2 kF kN rfl KS (fun p hp => nomatch hp) (fun p hp => .inr ⟨hp, fun q hq => nomatch hq⟩)
            clear kF kN KS
            have X6 := X.keeps B6.stays
            have T6 := T.keeps B6.stays
            (repeat' (first | (k_unfold; (try dsimp only)) | walk1 | (dsimp only; walk1) | (dsimp only; k_unfold; (try dsimp only))))
            rw [show duStep k D ln = D from if_neg hfb]
            exact ⟨g6, _, _, _, _, rfl, KT.trans KT6, B6, F6, N6, not_I hIk hId (Ne.symm hIc) hIs, kp, du, c1, c2, ks, ds, _, sub, _, rfl, rfl, rfl, rfl, hcell, hks, hds, d1, d2, d3, hsub⟩
          · (with_reducible rename (ln.fault != _) = false => hfa)
            have hfb : ln.fault = Str.ofString "" := by simpa using hfa
            clear hfa
            unfold Stop
            refine wpAny_If ?_
            (repeat' (first | (k_unfold; (try dsimp only)) | walk1 | (dsimp only; walk1) | (dsimp only; k_unfold; (try dsimp only))))
            unfold Stop
            (with_reducible rename Fr _ _ _ _ => kF)
            (with_reducible rename News _ _ _ _ => kN)
            show wpAny _ _ (call (.ref 75) [.ref kp, .ref r] [(Str.ofString "key", .ref 770)]) _ _ _
            refine bisL_spec (K := cntL (D.map (·.1)) ln.row) (ar_below kF B2 rfl rfl) X T (by dsimp only [Ar]; omega) (by dsimp only [Ar]; omega) (.inl rfl) ⟨_, (kN _ (.tail _ (.head _))).1, rfl, _, rfl⟩ (stays_list kF.keep hr2) hks hxs dok.rows (by rw [List.length_map]; omega) (by rw [List.length_map]; omega) (cntL_at dok.srt) ?_
            intro t6 h6 tk6 KS
            obtain ⟨g6, KT6, F6, B6, N6⟩ := groundS B2 kF kN rfl KS (fun p hp => nomatch hp) (fun p hp => .inr ⟨hp, fun q hq => nomatch hq⟩)
            clear kF kN KS
            have X6 := X.keeps B6.stays
            have T6 := T.keeps B6.stays
            (repeat' (first | (k_unfold; (try dsimp only)) | walk1 | (dsimp only; walk1) | (dsimp only; k_unfold; (try dsimp only))))
            unfold Stop
            refine wpAny_If ?_
            (repeat' (first | (k_unfold; (try dsimp only)) | walk1 | (dsimp only; walk1) | (dsimp only; k_unfold; (try dsimp only))))
            unfold Stop
            (with_reducible rename Fr _ _ _ _ => kF)
            (with_reducible rename News _ _ _ _ => kN)
            show wpAny _ _ (call (.ref 57) [.ref kp, .ref r] [(Str.ofString "key", .ref 770)]) _ _ _
            refine bisR_spec (K := cntL (D.map (·.1)) ln.row + cntE (D.map (·.1)) ln.row) (ar_below kF B6 rfl rfl) X T (by dsimp only [Ar]; omega) (by dsimp only [Ar]; omega) (.inl rfl) ⟨_, (kN _ (.tail _ (.head _))).1, rfl, _, rfl⟩ (stays_list kF.keep (isList_turn KT6 hr2)) hks hxs dok.rows (by rw [List.length_map]; omega) (by rw [List.length_map]; omega) (cntR_at dok.srt) ?_
            intro t7 h7 tk7 KS
            obtain ⟨g7, KT7, F7, B7, N7⟩ := groundS B6 kF kN rfl KS (fun p hp => nomatch hp) (fun p hp => .inr ⟨hp, fun q hq => nomatch hq⟩)
            clear kF kN KS X6 T6
            have X7 := X.keeps B7.stays
            have T7 := T.keeps B7.stays
            have hr7 := isList_turn KT7 (isList_turn KT6 hr2)
            have KT8 := (KT.trans KT6).trans KT7
            clear hr2 hp2 KT6 KT7 B6 KT B2 X2 T2
            (repeat' (first | (k_unfold; (try dsimp only)) | walk1 | (dsimp only; walk1) | (dsimp only; k_unfold; (try dsimp only))))
            unfold Stop
            refine wpAny_If ?_
            by_cases hk2 : (k : Int).fmod 2 = 1
            · have hk3 : k % 2 = 1 := fmod2.mp hk2
              (repeat' (first | (k_unfold; (try dsimp only)) | walk1 | (dsimp only; walk1) | (dsimp only; k_unfold; (try dsimp only))))
              unfold Stop
              (with_reducible rename Fr _ _ _ _ => kF)
              (with_reducible rename News _ _ _ _ => kN)
              show wpAny _ _ (call (.ref 66) [.ref kp, .str ln.text t1] [(Str.ofString "key", .ref 770)]) _ _ _
              refine insL_spec (K := cntL (D.map (·.1)) ln.row) (ar_below kF B7 rfl rfl) X T (by dsimp only [Ar]; omega) (by dsimp only [Ar]; omega) (own_of B7 kN rfl (fun p hp => by cases List.mem_singleton.mp hp; exact .tail _ (.head _))) hks dok.rows (by rw [List.length_map]; omega) (Nat.le_trans lok.len (by decide)) lok.ta (lok.good hfb) (by rw [List.length_map]; omega) (cntL_at dok.srt) ?_
              intro h8 tk8 c8 KS
              obtain ⟨g9, KT9, F9, B9, N9⟩ := groundS (news' := (I, o) :: (kp, _) :: (du, _) :: (L' + 1, _) :: sub) B7 kF kN rfl KS (fun p hp => .inl ⟨_, .tail _ (.head _), by cases List.mem_singleton.mp hp; rfl⟩) (upd_kp hIk d1 d2 hsub)
              clear kF kN KS X7 T7
              have X9 := X.keeps B9.stays
              have T9 := T.keeps B9.stays
              (repeat' (first | (k_unfold; (try dsimp only)) | walk1 | (dsimp only; walk1) | (dsimp only; k_unfold; (try dsimp only))))
              (with_reducible rename Fr _ _ _ _ => kF)
              (with_reducible rename News _ _ _ _ => kN)
              (with_reducible rename _ ∧ _ ∧ _ ∧ _ ∧ _ ∧ _ ∧ _ ∧ _ ∧ _ ∧ AllLt _ _ => ld)
              (with_reducible rename _ ∧ _ ∧ _ ∧ _ ∧ _ ∧ AllLt _ _ => lq)
              refine kp_done (t1 := t1) (c8 := c8) (K := cntL (D.map (·.1)) ln.row) (if_pos hfb |>.trans (if_pos hk3)) (KT8.trans KT9) B9 kF kN ?_ rfl rfl rfl hcell hks hds hr hxs hIk hIc hIs d2 hsub lq.2 ld.2.2.2
              exact List.forall_mem_cons.mpr ⟨tl 6 (.head _), List.forall_mem_cons.mpr ⟨tl 7 (.head _), List.forall_mem_cons.mpr ⟨.head _, List.forall_mem_cons.mpr ⟨tl 9 (.head _), List.forall_mem_cons.mpr ⟨tl 4 (.head _), fun p hp => tl 10 hp⟩⟩⟩⟩⟩
            · have hk3 : ¬ k % 2 = 1 := fun e => hk2 (fmod2.mpr e)
              (repeat' (first | (k_unfold; (try dsimp only)) | walk1 | (dsimp only; walk1) | (dsimp only; k_unfold; (try dsimp only))))
              unfold Stop
              (with_reducible rename Fr _ _ _ _ => kF)
              (with_reducible rename News _ _ _ _ => kN)
              show wpAny _ _ (call (.ref 48) [.ref kp, .str ln.text t1] [(Str.ofString "key", .ref 770)]) _ _ _
              refine insR_spec (K := cntL (D.map (·.1)) ln.row + cntE (D.map (·.1)) ln.row) (ar_below kF B7 rfl rfl) X T (by dsimp only [Ar]; omega) (by dsimp only [Ar]; omega) (own_of B7 kN rfl (fun p hp => by cases List.mem_singleton.mp hp; exact .tail _ (.head _))) hks dok.rows (by rw [List.length_map]; omega) (Nat.le_trans lok.len (by decide)) lok.ta (lok.good hfb) (by rw [List.length_map]; omega) (cntR_at dok.srt) ?_
              intro h8 tk8 c8 KS
              obtain ⟨g9, KT9, F9, B9, N9⟩ := groundS (news' := (I, o) :: (kp, _) :: (du, _) :: (L' + 1, _) :: sub) B7 kF kN rfl KS (fun p hp => .inl ⟨_, .tail _ (.head _), by cases List.mem_singleton.mp hp; rfl⟩) (upd_kp hIk d1 d2 hsub)
              clear kF kN KS X7 T7
              have X9 := X.keeps B9.stays
              have T9 := T.keeps B9.stays
              (repeat' (first | (k_unfold; (try dsimp only)) | walk1 | (dsimp only; walk1) | (dsimp only; k_unfold; (try dsimp only))))
              (with_reducible rename Fr _ _ _ _ => kF)
              (with_reducible rename News _ _ _ _ => kN)
              (with_reducible rename _ ∧ _ ∧ _ ∧ _ ∧ _ ∧ _ ∧ _ ∧ _ ∧ _ ∧ AllLt _ _ => ld)
              (with_reducible rename _ ∧ _ ∧ _ ∧ _ ∧ _ ∧ AllLt _ _ => lq)
              refine kp_done (t1 := t1) (c8 := c8) (K := cntL (D.map (·.1)) ln.row + cntE (D.map (·.1)) ln.row) (if_pos hfb |>.trans (if_neg hk3)) (KT8.trans KT9) B9 kF kN ?_ rfl rfl rfl hcell hks hds hr hxs hIk hIc hIs d2 hsub lq.2 ld.2.2.2
              exact List.forall_mem_cons.mpr ⟨tl 6 (.head _), List.forall_mem_cons.mpr ⟨tl 7 (.head _), List.forall_mem_cons.mpr ⟨.head _, List.forall_mem_cons.mpr ⟨tl 9 (.head _), List.forall_mem_cons.mpr ⟨tl 4 (.head _), fun p hp => tl 10 hp⟩⟩⟩⟩⟩
end
section
-- part MPure
/-- the words that come when the reading stands amid a word -/
noncomputable def WdsG (st : St) (q : Bool) (tok rest : List Nat) (R : Option (List Str)) : Prop :=
  (rt st q tok rest = none ∧ R = none) ∨ (∃ st' r', rt st q tok rest = some ([], false, st', r') ∧ R = some []) ∨
    ∃ tok' q' st' r' R', rt st q tok rest = some (tok', q', st', r') ∧ ¬ (q' = false ∧ tok' = []) ∧ Wds st' r' R' ∧ R = R'.map (⟨tok'.toArray⟩ :: ·)
theorem WdsG.wds {st : St} {rest : List Nat} {R : Option (List Str)} (h : WdsG st false [] rest R) : Wds st rest R := by
  rcases h with ⟨h, rfl⟩ | ⟨st', r', h, rfl⟩ | ⟨tok', q', st', r', R', h, hn, hw, rfl⟩
  · exact .err h
  · exact .stop h
  · exact .word h hn hw
/-- behind the text t: the words W are read, the state is st, q, tok -/
noncomputable def Pre (t : List Nat) (W : List Str) (st : St) (q : Bool) (tok : List Nat) : Prop := ∀ u R, WdsG st q tok u R → Wds .ws (t ++ u) (R.map (W ++ ·))
theorem Pre.start : Pre [] [] .ws false [] := fun u R h => by
  have := h.wds
  cases R <;> exact this
theorem Pre.go {t u : List Nat} {W : List Str} {st st₂ : St} {q q₂ : Bool} {tok tok₂ : List Nat} (h : Pre t W st q tok) (e : ∀ r, rt st q tok (u ++ r) = rt st₂ q₂ tok₂ r) : Pre (t ++ u) W st₂ q₂ tok₂ := fun v R hv => by
  rw [List.append_assoc]
  refine h (u ++ v) R ?_
  unfold WdsG at hv ⊢
  rwa [e v]
theorem Pre.cut {t : List Nat} {W : List Str} {st : St} {q : Bool} {tok : List Nat} {c : Nat} (h : Pre t W st q tok) (e : ∀ r, rt st q tok (c :: r) = some (tok, q, .ws, r)) (hn : ¬ (q = false ∧ tok = [])) : Pre (t ++ [c]) (W ++ [⟨tok.toArray⟩]) .ws false [] := fun v R hv => by
  rw [List.append_assoc]
  have := h (c :: v) (R.map (⟨tok.toArray⟩ :: ·)) (.inr (.inr ⟨tok, q, .ws, v, R, e v, hn, hv.wds, rfl⟩))
  cases R with
  | none => exact this
  | some R => simpa using this
/-- a line as it stands: nothing, or amid its last word -/
noncomputable def LInv (row : List Str) (text : List Nat) : Prop :=
  (row = [] ∧ Pre text [] .ws false []) ∨ ∃ W q tok, row = W ++ [⟨tok.toArray⟩] ∧ ¬ (q = false ∧ tok = []) ∧ Pre text W .word q tok
theorem LInv.good {row : List Str} {text : List Nat} (h : LInv row text) : Wds .ws text (some row) := by
  rcases h with ⟨rfl, h⟩ | ⟨W, q, tok, rfl, hn, h⟩
  · have := h [] (some []) (.inr (.inl ⟨.done, [], rfl, rfl⟩))
    simpa using this
  · have := h [] (some [⟨tok.toArray⟩]) (.inr (.inr ⟨tok, q, .done, [], some [], rfl, hn, .stop (st' := .done) (r' := []) rfl, rfl⟩))
    simpa using this
theorem LInv.bad {row : List Str} {text : List Nat} {c : Nat} (h : LInv row text) (hc : c = 39 ∨ c = 92) : Wds .ws (text ++ [c]) none := by
  rcases h with ⟨rfl, h⟩ | ⟨W, q, tok, rfl, hn, h⟩
  · exact h [c] none (.inl ⟨by rcases hc with rfl | rfl <;> rfl, rfl⟩)
  · exact h [c] none (.inl ⟨by rcases hc with rfl | rfl <;> simp [rt, isWs], rfl⟩)
/-- behind a blank a new word is to come -/
theorem LInv.blank {row : List Str} {text : List Nat} {c : Nat} (h : LInv row text) (hc : isWs c = true) : Pre (text ++ [c]) row .ws false [] := by
  rcases h with ⟨rfl, h⟩ | ⟨W, q, tok, rfl, hn, h⟩
  · exact h.go fun r => by simp [rt, hc]
  · refine h.cut (fun r => ?_) hn
    have : tok ≠ [] ∨ q = true := by
      cases q with
      | true => exact .inr rfl
      | false => exact .inl fun e => hn ⟨rfl, e⟩
    simp only [rt, hc, if_true]
    rw [if_pos this]
theorem LInv.op1 {row : List Str} {text : List Nat} (h : LInv row text) : LInv (row ++ [Str.ofString ""]) (text ++ [32, 39, 39]) := by
  refine .inr ⟨row, true, [], rfl, by simp, ?_⟩
  have := (h.blank (c := 32) rfl).go (u := [39, 39]) (st₂ := .word) (q₂ := true) (tok₂ := []) fun r => by simp [rt, isWs]
  simpa using this
theorem LInv.op2 {row : List Str} {text : List Nat} (h : LInv row text) : LInv (row ++ [Str.ofString "b"]) (text ++ [9, 32, 98]) := by
  refine .inr ⟨row, false, [98], by rw [show (⟨[98].toArray⟩ : Str) = Str.ofString "b" from by decide], by simp, ?_⟩
  have := (h.blank (c := 9) rfl).go (u := [32, 98]) (st₂ := .word) (q₂ := false) (tok₂ := [98]) fun r => by simp [rt, isWs]
  simpa using this
theorem rt_sign {ch : Nat} (hc : ch ∈ signs) (way : Int) (q : Bool) (tok : List Nat) : ∃ q', ∀ r, rt .word q tok (spelled ch way ++ r) = rt .word q' (tok ++ [ch]) r := by
  simp only [signs, List.mem_cons, List.not_mem_nil, or_false] at hc
  unfold spelled
  by_cases h0 : way = 0
  · refine ⟨q, fun r => ?_⟩
    rcases hc with rfl | rfl | rfl | rfl | rfl | rfl | rfl | rfl <;> simp [h0, rt, isWs]
  · refine ⟨true, fun r => ?_⟩
    by_cases h1 : way = 1
    · rcases hc with rfl | rfl | rfl | rfl | rfl | rfl | rfl | rfl <;> simp [h1, rt, isWs]
    · rcases hc with rfl | rfl | rfl | rfl | rfl | rfl | rfl | rfl <;> simp [h0, h1, rt, isWs]
theorem rt_sign0 {ch : Nat} (hc : ch ∈ signs) (way : Int) : ∃ q', ∀ r, rt .ws false [] (spelled ch way ++ r) = rt .word q' [ch] r := by
  simp only [signs, List.mem_cons, List.not_mem_nil, or_false] at hc
  unfold spelled
  by_cases h0 : way = 0
  · refine ⟨false, fun r => ?_⟩
    rcases hc with rfl | rfl | rfl | rfl | rfl | rfl | rfl | rfl <;> simp [h0, rt, isWs]
  · refine ⟨true, fun r => ?_⟩
    by_cases h1 : way = 1
    · rcases hc with rfl | rfl | rfl | rfl | rfl | rfl | rfl | rfl <;> simp [h1, rt, isWs]
    · rcases hc with rfl | rfl | rfl | rfl | rfl | rfl | rfl | rfl <;> simp [h0, h1, rt, isWs]
theorem LInv.sign {row : List Str} {text : List Nat} {ch : Nat} (h : LInv row text) (hc : ch ∈ signs) (way : Int) :
    LInv (row.dropLast ++ [match row.getLast? with | some l => l ++ (⟨#[ch]⟩ : Str) | none => ⟨#[ch]⟩]) (text ++ spelled ch way) := by
  rcases h with ⟨rfl, h⟩ | ⟨W, q, tok, rfl, hn, h⟩
  · obtain ⟨q', e⟩ := rt_sign0 hc way
    exact .inr ⟨[], q', [ch], rfl, by simp, h.go e⟩
  · obtain ⟨q', e⟩ := rt_sign hc way q tok
    refine .inr ⟨W, q', tok ++ [ch], ?_, by simp, h.go e⟩
    rw [List.dropLast_concat, List.getLast?_concat]
    have : ∀ t : List Nat, ((⟨t.toArray⟩ : Str) ++ (⟨#[ch]⟩ : Str)) = ⟨(t ++ [ch]).toArray⟩ := fun t => by
      show (⟨t.toArray ++ #[ch]⟩ : Str) = _
      simp
    rw [← this]
theorem spelled_alpha {ch : Nat} (hc : ch ∈ signs) (way : Int) : (spelled ch way).all isAlpha = true := by
  simp only [signs, List.mem_cons, List.not_mem_nil, or_false] at hc
  unfold spelled
  by_cases h0 : way = 0
  · rcases hc with rfl | rfl | rfl | rfl | rfl | rfl | rfl | rfl <;> simp [h0, isAlpha]
  · by_cases h1 : way = 1
    · rcases hc with rfl | rfl | rfl | rfl | rfl | rfl | rfl | rfl <;> simp [h1, isAlpha]
    · rcases hc with rfl | rfl | rfl | rfl | rfl | rfl | rfl | rfl <;> simp [h0, h1, isAlpha]
theorem sign_mem (k : Nat) (h : k < 8) : signs.getD k 0 ∈ signs := by
  rcases k with _ | _ | _ | _ | _ | _ | _ | _ | k
  all_goals first | decide | (exfalso; omega)
structure LV (k : Nat) (ln : Ln) : Prop where
  len : ln.text.length ≤ 4 + 4 * k
  ta : ln.text.cps.toList.all isAlpha = true
  wa : ∀ w ∈ ln.row, w.cps.toList.all isAlpha = true
  ff : ln.fault = Str.ofString "" ∨ ln.fault = Str.ofString "'" ∨ ln.fault = Str.ofString "\\"
  inv : LInv ln.row ln.text.cps.toList
theorem LV.mono {k j : Nat} {ln : Ln} (h : LV k ln) (hj : k ≤ j) : LV j ln := ⟨Nat.le_trans h.len (by omega), h.ta, h.wa, h.ff, h.inv⟩
theorem LV.ok {k : Nat} {ln : Ln} (h : LV k ln) (hk : k ≤ 16) : LnOk ln := by
  refine ⟨Nat.le_trans h.len (by omega), ?_, h.ta, ?_, fun w hw => strOk_alpha (h.wa w hw), fun _ => h.inv.good, fun hf => ?_⟩
  · rcases h.ff with e | e | e <;> rw [e] <;> decide
  · rcases h.ff with e | e | e <;> rw [e] <;> decide
  · rcases h.ff with e | e | e
    · exact absurd e hf
    · rw [app_list, e, show (Str.ofString "'").cps.toList = [39] from by decide]
      exact h.inv.bad (.inl rfl)
    · rw [app_list, e, show (Str.ofString "\\").cps.toList = [92] from by decide]
      exact h.inv.bad (.inr rfl)
theorem fault_at (x : Int) : Txt.item (Str.ofString "'\\") (x.fmod 2) = Str.ofString "'" ∨ Txt.item (Str.ofString "'\\") (x.fmod 2) = Str.ofString "\\" := by
  have h1 := Int.fmod_nonneg_of_pos x (b := 2) (by decide)
  have h2 := Int.fmod_lt_of_pos x (b := 2) (by decide)
  have : x.fmod 2 = 0 ∨ x.fmod 2 = 1 := by omega
  rcases this with e | e <;> rw [e]
  · exact .inl (by decide)
  · exact .inr (by decide)
theorem LV.step {k : Nat} {st : LnS} (h1 : ∀ ln ∈ st.1, LV k ln) (h2 : LV k st.2) (x : Int) : (∀ ln ∈ (lnStep st x).1, LV (k + 1) ln) ∧ LV (k + 1) (lnStep st x).2 := by
  have hm12 := Int.fmod_nonneg_of_pos x (b := 12) (by decide)
  have hm12' := Int.fmod_lt_of_pos x (b := 12) (by decide)
  have h1' : ∀ ln ∈ st.1, LV (k + 1) ln := fun ln hl => (h1 ln hl).mono (by omega)
  have h2' := h2.mono (Nat.le_succ k)
  obtain ⟨a, b, c, d, e⟩ := h2
  unfold lnStep
  dsimp only
  split
  · refine ⟨fun ln hl => ?_, ⟨by show 0 ≤ _; omega, rfl, (fun _ hw => nomatch hw), .inl rfl, .inl ⟨rfl, Pre.start⟩⟩⟩
    rcases List.mem_append.mp hl with hl | hl
    · exact h1' ln hl
    · cases List.mem_singleton.mp hl; exact h2'
  · split
    · refine ⟨h1', ⟨by dsimp only; rw [app_len]; show _ + 3 ≤ _; omega, ?_, fun w hw => ?_, d, ?_⟩⟩
      · dsimp only
        rw [app_list, List.all_append, b]; decide
      · rcases List.mem_append.mp hw with hw | hw
        · exact c w hw
        · cases List.mem_singleton.mp hw; rfl
      · dsimp only
        rw [app_list, show (Str.ofString " ''").cps.toList = [32, 39, 39] from by decide]
        exact e.op1
    · split
      · refine ⟨h1', ⟨by dsimp only; rw [app_len]; show _ + 3 ≤ _; omega, ?_, fun w hw => ?_, d, ?_⟩⟩
        · dsimp only
          rw [app_list, List.all_append, b]; decide
        · rcases List.mem_append.mp hw with hw | hw
          · exact c w hw
          · cases List.mem_singleton.mp hw; decide
        · dsimp only
          rw [app_list, show (Str.ofString "\t b").cps.toList = [9, 32, 98] from by decide]
          exact e.op2
      · split
        · exact ⟨h1', ⟨by dsimp only; omega, b, c, .inr (fault_at _), e⟩⟩
        · have hs := sign_mem (x.fmod 12 - 4).toNat (by omega)
          have hal := sign_alpha (x.fmod 12 - 4).toNat (by omega)
          generalize signs.getD (x.fmod 12 - 4).toNat 0 = ch at hs hal ⊢
          have h4 := spelled_len ch ((x.fdiv 12).fmod 3)
          refine ⟨h1', ⟨by dsimp only; rw [app_len]; omega, ?_, fun w hw => ?_, d, ?_⟩⟩
          · dsimp only
            rw [app_list, List.all_append, b, List.toList_toArray, spelled_alpha hs]; rfl
          · rcases List.mem_append.mp hw with hw | hw
            · exact c w ((List.dropLast_sublist _).subset hw)
            · have := List.mem_singleton.mp hw
              subst this
              cases z : st.2.row.getLast? with
              | none => simpa using hal
              | some l =>
                have hl := c l (List.mem_of_getLast? z)
                dsimp only
                rw [app_list, List.all_append, hl]
                simpa using hal
          · dsimp only
            rw [app_list, List.toList_toArray]
            exact e.sign hs _
theorem LV.base : (∀ ln ∈ lns0.1, LV 0 ln) ∧ LV 0 lns0.2 := by
  have ha : LInv [Str.ofString "a"] [97] := .inr ⟨[], false, [97], by rw [show (⟨[97].toArray⟩ : Str) = Str.ofString "a" from by decide]; rfl, by simp, Pre.start.go (u := [97]) fun r => by simp [rt, isWs]⟩
  have hb : LInv [Str.ofString "b"] [98] := .inr ⟨[], false, [98], by rw [show (⟨[98].toArray⟩ : Str) = Str.ofString "b" from by decide]; rfl, by simp, Pre.start.go (u := [98]) fun r => by simp [rt, isWs]⟩
  refine ⟨fun ln hl => ?_, ⟨by decide, by decide, by decide, .inl rfl, ?_⟩⟩
  · rcases List.mem_cons.mp hl with rfl | hl
    · exact ⟨by decide, by decide, by decide, .inr (.inl rfl), by rw [show (Str.ofString "a").cps.toList = [97] from by decide]; exact ha⟩
    · cases List.mem_singleton.mp hl
      exact ⟨by decide, by decide, by decide, .inl rfl, by rw [show (Str.ofString "b").cps.toList = [98] from by decide]; exact hb⟩
  · show LInv [Str.ofString "a", Str.ofString ""] (Str.ofString "a ''").cps.toList
    rw [show (Str.ofString "a ''").cps.toList = [97] ++ [32, 39, 39] from by decide]
    exact ha.op1
theorem LV.fold : ∀ (ns : List Int) {k : Nat} {st : LnS}, (∀ ln ∈ st.1, LV k ln) ∧ LV k st.2 → (∀ ln ∈ (ns.foldl lnStep st).1, LV (k + ns.length) ln) ∧ LV (k + ns.length) (ns.foldl lnStep st).2
  | [], _, _, h => h
  | x :: r, k, st, h => by
    have := LV.fold r (LV.step h.1 h.2 x)
    rw [List.length_cons, List.foldl_cons]
    rwa [show k + (r.length + 1) = k + 1 + r.length from by omega]
theorem lines_ok {ns : List Int} (h : ns.length ≤ 16) : ∀ ln ∈ allLines ns, LnOk ln := by
  have z := LV.fold ns LV.base
  intro ln hl
  rcases List.mem_append.mp hl with hl | hl
  · exact (z.1 ln hl).ok (by omega)
  · cases List.mem_singleton.mp hl
    exact z.2.ok (by omega)
theorem lines_len {ns : List Int} (h : ns.length ≤ 16) : (allLines ns).length ≤ 100 := by
  have := (linesOf_bound h).a
  unfold allLines
  rw [List.length_append, List.length_singleton]; omega
end
section
-- part MLaw
local macro_rules | `(tactic| walk_at "call ref") => `(tactic| (k_here; refine cut_any ?_))
theorem lnh_of {h : Heap} {sub : Led} (hs : ∀ p ∈ sub, h.get? p.1 = some p.2) : ∀ {items : List Value} {lns : List Ln}, Lns sub items lns → All2 (LnH h) items lns
  | _, _, .nil => .nil
  | _, _, .cons ⟨p, r, xs, c1, c2, t, f, e, h1, h2, h3⟩ b => .cons ⟨p, r, xs, t, f, e, ⟨_, hs _ h1, rfl, _, rfl⟩, ⟨_, hs _ h2, rfl, _, rfl⟩, h3⟩ (lnh_of hs b)
noncomputable def frAs : List Nat := [2, 3, 33, 35, 36, 38, 39, 40, 41, 42, 44, 45, 47, 48, 49, 50, 51, 53, 54, 56, 57, 58, 59, 60, 62, 63, 65, 66, 67, 68, 69, 71, 72, 74, 75, 76, 78, 79, 81, 82, 83, 85, 86, 88, 89, 90, 97, 98, 99, 100, 110, 112, 113, 115, 116, 117, 118, 119, 120, 121, 122, 125, 132, 133, 134, 137, 144, 145, 146, 149, 156, 157, 159, 160, 162, 163, 164, 166, 167, 169, 170, 171, 173, 174, 176, 177, 178, 180, 181, 183, 184, 185, 186, 188, 189, 191, 192, 193, 195, 196, 198, 199, 200, 202, 203, 205, 206, 207, 209, 210, 212, 213, 214, 216, 217, 219, 220, 221, 223, 224, 226, 227, 228, 230, 231, 233, 234, 235, 237, 238, 240, 241, 242, 244, 245, 247, 248, 249, 251, 252, 254, 255, 256, 258, 259, 261, 262, 263, 265, 266, 268, 269, 270, 272, 273, 275, 276, 277, 278, 280, 281, 283, 284, 285, 286, 288, 289, 291, 292, 293, 294, 296, 297, 299, 300, 301, 302, 304, 305, 307, 308, 309, 311, 312, 314, 315, 316, 318, 319, 321, 322, 323, 324, 326, 327, 329, 330, 331, 332, 334, 335, 337, 338, 339, 341, 342, 344, 345, 346, 348, 349, 351, 352, 353, 355, 356, 358, 359, 360, 362, 363, 365, 366, 367, 369, 370, 372, 373, 374, 375, 376, 379, 386, 387, 389, 390, 392, 393, 394, 396, 397, 399, 400, 401, 403, 404, 406, 407, 408, 410, 411, 413, 414, 415, 417, 418, 420, 421, 422, 424, 425, 427, 428, 429, 430, 432, 433, 435, 436, 437, 438, 440, 441, 443, 444, 445, 446, 448, 449, 451, 452, 453, 454, 456, 457, 459, 460, 461, 462, 464, 465, 467, 468, 469, 471, 472, 474, 475, 476, 478, 479, 481, 482, 483, 485, 486, 488, 489, 490, 492, 493, 495, 496, 497, 499, 500, 502, 503, 504, 506, 507, 509, 510, 511, 513, 514, 516, 517, 518, 520, 521, 523, 524, 525, 527, 528, 530, 531, 532, 534, 535, 537, 538, 539, 541, 542, 544, 545, 546, 547, 549, 550, 552, 553, 554, 555, 557, 558, 560, 561, 562, 563, 565, 566, 568, 569, 570, 571, 573, 574, 576, 577, 578, 579, 581, 582, 584, 585, 586, 588, 589, 591, 592, 593, 595, 596, 598, 599, 600, 602, 603, 605, 606, 607, 609, 610, 612, 613, 614, 616, 617, 619, 620, 621, 622, 623, 626, 628, 629, 631, 632, 633, 635, 636, 638, 639, 640, 642, 643, 645, 646, 647, 649, 650, 652, 653, 654, 656, 657, 659, 660, 661, 663, 664, 666, 667, 675, 676, 678, 679, 681, 682, 683, 685, 686, 688, 689, 690, 691, 693, 694, 696, 697, 698, 699, 701, 702, 704, 705, 706, 708, 709, 711, 712, 713, 715, 716, 718, 719, 720, 722, 723, 725, 726, 727, 729, 730, 732, 733, 734, 735, 737, 738, 740, 741, 742, 744, 745, 747, 748, 749, 751, 752, 754, 755, 756, 757, 758, 759, 760, 763, 764, 766, 767, 769, 770, 771, 773, 774, 776, 777, 778, 780, 781, 783, 784, 785, 787, 788, 790, 791, 792, 795, 796, 797, 799, 800, 802, 803]
theorem law_holds.tw8859302580147135156 : True := trivial
theorem law_holds.tw4555462946037337122 : True := trivial
theorem law_holds.tw16899690658457600479 : True := trivial
theorem law_holds.tw8119506175891960245 : True := trivial
theorem law_holds.tw6153651199633365451 : True := trivial
theorem law_holds.tw14605975082253263376 : True := trivial
theorem law_holds.tw2172110980117977203 : True := trivial
theorem law_holds.tw1106634685326191770 : True := trivial
theorem law_holds.tw10075067528582697704 : True := trivial
theorem law_holds.tw13536078969547264968 : True := trivial
theorem law_holds.tw3646117549564021419 : True := trivial
theorem law_holds.tw6252867021891362534 : True := trivial
theorem law_holds.tw6927793712695671261 : True := trivial
theorem law_holds.tw4054605426343851304 : True := trivial
theorem law_holds.tw17828303244738647514 : True := trivial
theorem law_holds.tw1419976552520188833 : True := trivial
theorem law_holds.tw2776995349075885022 : True := trivial
theorem law_holds.tw14615927840715752834 : True := trivial
theorem law_holds.tw5125778097945113979 : True := trivial
theorem law_holds.tw16510464861438871135 : True := trivial
theorem law_holds.tw7589297994852775868 : True := trivial
theorem law_holds.tw9656155294286435184 : True := trivial
theorem law_holds.tw3497416489672200475 : True := trivial
theorem law_holds.tw860077500063870494 : True := trivial
theorem law_holds.tw12443291839271357519 : True := trivial
theorem law_holds.tw6785346068080328177 : True := trivial
theorem law_holds.tw6649348088445503080 : True := trivial
theorem law_holds.tw10525934492689040289 : True := trivial
theorem law_holds.tw11663298496581841922 : True := trivial
theorem law_holds.tw17012788314835774953 : True := trivial
theorem law_holds.tw6704310671800884803 : True := trivial
theorem law_holds.tw9168033884955339765 : True := trivial
theorem law_holds.tw5020664805780731950 : True := trivial
theorem law_holds.tw7754230317916052659 : True := trivial
theorem law_holds.tw13227533145525514938 : True := trivial
theorem law_holds.tw2112619612379961697 : True := trivial
theorem law_holds.tw2580079619333081803 : True := trivial
theorem law_holds.tw17156363617357476176 : True := trivial
theorem law_holds.tw9746213474893016414 : True := trivial
theorem law_holds.tw939789544308352329 : True := trivial
theorem law_holds.tw6429003314605503815 : True := trivial
theorem law_holds.tw3595789414353437717 : True := trivial
theorem law_holds.tw13359578995793934705 : True := trivial
theorem law_holds.tw17334856725959723724 : True := trivial
theorem law_holds.tw17570675385486235261 : True := trivial
theorem law_holds.tw5033615099794278105 : True := trivial
theorem law_holds.tw12610764987094191714 : True := trivial
theorem law_holds.tw11583271856484122956 : True := trivial
theorem law_holds.tw15012669898789001497 : True := trivial
theorem law_holds.tw8297313697389066934 : True := trivial
theorem law_holds.tw723553956927101924 : True := trivial
theorem law_holds.tw13425932534011304816 : True := trivial
theorem law_holds.tw3904345055887950832 : True := trivial
theorem law_holds.tw863230966790177721 : True := trivial
theorem law_holds.tw2090888555730037645 : True := trivial
theorem law_holds.tw10296202853966499060 : True := trivial
theorem law_holds.tw7346270606818648071 : True := trivial
theorem law_holds.tw8170779377897787297 : True := trivial
theorem law_holds.tw18255678716917950113 : True := trivial
theorem law_holds.tw3033269912633744064 : True := trivial
theorem law_holds.tw16745559208196026265 : True := trivial
theorem law_holds.tw12795448055554024986 : True := trivial
theorem law_holds.tw15305978602068356694 : True := trivial
theorem law_holds.tw18135211599370774712 : True := trivial
theorem law_holds.tw16804138575897400367 : True := trivial
theorem law_holds.tw15567558954438479688 : True := trivial
theorem law_holds.tw16612359704951912572 : True := trivial
theorem law_holds.tw12459966957829302596 : True := trivial
theorem law_holds.tw15825954081357454955 : True := trivial
theorem law_holds.tw11789484784352828139 : True := trivial
theorem law_holds.tw15726739188670627701 : True := trivial
theorem law_holds.tw3186734533307500241 : True := trivial
theorem law_holds.tw9606376775287448836 : True := trivial
theorem law_holds.tw2353898745366128913 : True := trivial
theorem law_holds.tw13907478101703683472 : True := trivial
theorem law_holds.tw13482675847692870326 : True := trivial
theorem law_holds.tw13780023080261437657 : True := trivial
theorem law_holds.tw13622051036641316209 : True := trivial
theorem law_holds.tw602461330855297101 : True := trivial
theorem law_holds.tw14561673929254271789 : True := trivial
theorem law_holds.tw10886391378514542500 : True := trivial
theorem law_holds.tw12977093529070104392 : True := trivial
theorem law_holds.tw8909828626151137519 : True := trivial
theorem law_holds.tw8534950812830455928 : True := trivial
theorem law_holds.tw18254337876149969668 : True := trivial
theorem law_holds.tw5455921660152230842 : True := trivial
theorem law_holds.tw13280740594461564331 : True := trivial
theorem law_holds.tw4381352254846559562 : True := trivial
theorem law_holds.tw660297872995803996 : True := trivial
theorem law_holds.tw12115171985352901274 : True := trivial
theorem law_holds.tw4037582482628031876 : True := trivial
theorem law_holds.tw13232312132910849962 : True := trivial
theorem law_holds.tw3253568177066640346 : True := trivial
theorem law_holds.tw447027507633508388 : True := trivial
theorem law_holds.tw4926307855859175397 : True := trivial
theorem law_holds.tw16614716721108272449 : True := trivial
theorem law_holds.tw8432627066985610756 : True := trivial
theorem law_holds.tw14506525250483169144 : True := trivial
theorem law_holds.tw5660955012450978138 : True := trivial
theorem law_holds.tw4038704711768132658 : True := trivial
theorem law_holds.tw12854008231185623406 : True := trivial
theorem law_holds.tw16273140198857503625 : True := trivial
theorem law_holds.tw15621117886176486297 : True := trivial
theorem law_holds.tw6507877686720480950 : True := trivial
theorem law_holds.tw13253626941996190775 : True := trivial
theorem law_holds.tw10219052351128147325 : True := trivial
theorem law_holds.tw1792485165599250781 : True := trivial
theorem law_holds.tw13974142956242929375 : True := trivial
theorem law_holds.tw14822640431511872941 : True := trivial
theorem law_holds.tw17942499455142895165 : True := trivial
theorem law_holds.tw13235696075060083372 : True := trivial
theorem law_holds.tw13953844522926457337 : True := trivial
theorem law_holds.tw4000965053056674031 : True := trivial
theorem law_holds.tw8785698371604719795 : True := trivial
theorem law_holds.tw15250911252390386021 : True := trivial
theorem law_holds.tw2960636616782300143 : True := trivial
theorem law_holds.tw179590077315354965 : True := trivial
theorem law_holds.tw17057571662750997169 : True := trivial
theorem law_holds.tw10188763426450519768 : True := trivial
theorem law_holds.tw16406091861079842607 : True := trivial
theorem law_holds.tw10288635621117254392 : True := trivial
theorem law_holds.tw15985639844270965063 : True := trivial
theorem law_holds.tw10817052189556005596 : True := trivial
theorem law_holds.tw6934448944433832347 : True := trivial
theorem law_holds.tw11179126903783522316 : True := trivial
theorem law_holds.tw1426520634613210456 : True := trivial
theorem law_holds.tw7680771383935959743 : True := trivial
theorem law_holds.tw8970147916757833333 : True := trivial
theorem law_holds.tw10368410895845634921 : True := trivial
theorem law_holds.tw18088736630749135056 : True := trivial
theorem law_holds.tw16720094985154256693 : True := trivial
theorem law_holds.tw1973129929022764952 : True := trivial
theorem law_holds.tw3776956092104397036 : True := trivial
theorem law_holds.tw14754953459478485650 : True := trivial
theorem law_holds.tw6736380345627730017 : True := trivial
theorem law_holds.tw2871364008783790576 : True := trivial
theorem law_holds.tw3313065913633700124 : True := trivial
theorem law_holds.tw3955097671198598788 : True := trivial
theorem law_holds.tw3005452535816212104 : True := trivial
theorem law_holds.tw10093647634046251098 : True := trivial
theorem law_holds.tw11576900812866516365 : True := trivial
theorem law_holds.tw9648503400671879409 : True := trivial
theorem law_holds.tw17687412246758094834 : True := trivial
theorem law_holds.tw13387019031968454983 : True := trivial
theorem law_holds.tw12987194180023231900 : True := trivial
theorem law_holds.tw2053967980211584130 : True := trivial
theorem law_holds.tw16893121556090616931 : True := trivial
theorem law_holds.tw218528332313867021 : True := trivial
theorem law_holds.tw685781381014034950 : True := trivial
theorem law_holds.tw9432397437662838624 : True := trivial
theorem law_holds.tw5700548256593830582 : True := trivial
theorem law_holds.tw2334766641761910077 : True := trivial
theorem law_holds.tw6580623548314892615 : True := trivial
theorem law_holds.tw16888884763356830040 : True := trivial
theorem law_holds.tw14892801356780361778 : True := trivial
theorem law_holds.tw10107399243637674519 : True := trivial
theorem law_holds.tw11047685208138227551 : True := trivial
theorem law_holds.tw15088961453551581880 : True := trivial
theorem law_holds.tw1046446015878126456 : True := trivial
theorem law_holds.tw14390602165704524457 : True := trivial
theorem law_holds.tw2602977815382960713 : True := trivial
theorem law_holds.tw13810450838352492673 : True := trivial
theorem law_holds.tw18221428039690301666 : True := trivial
theorem law_holds.tw11417216600806533712 : True := trivial
theorem law_holds.tw15236117334343867423 : True := trivial
theorem law_holds.tw10666784280354678857 : True := trivial
theorem law_holds.tw18207237522527388385 : True := trivial
theorem law_holds.tw12163923063683932303 : True := trivial
theorem law_holds.tw3366817510852727610 : True := trivial
theorem law_holds.tw11404014056486942332 : True := trivial
theorem law_holds.tw8825677053947959099 : True := trivial
theorem law_holds.tw1861640637056946757 : True := trivial
theorem law_holds.tw8249079356659094474 : True := trivial
theorem law_holds.tw10323716446218800225 : True := trivial
theorem law_holds.tw15514866124879379921 : True := trivial
theorem law_holds.tw1713144814433471595 : True := trivial
theorem law_holds.tw5769158387606399586 : True := trivial
theorem law_holds.tw664576680770170031 : True := trivial
theorem law_holds.tw11347954631545130290 : True := trivial
theorem law_holds.tw59864651932915081 : True := trivial
theorem law_holds.tw14637292938222569738 : True := trivial
theorem law_holds.tw3663427449441712954 : True := trivial
theorem law_holds.tw3049941959672503198 : True := trivial
theorem law_holds.tw17371252989657294990 : True := trivial
theorem law_holds.tw1956609002073499237 : True := trivial
theorem law_holds.tw10108825076125807744 : True := trivial
theorem law_holds.tw15644819842384902770 : True := trivial
theorem law_holds.tw1784627337472249616 : True := trivial
theorem law_holds.tw11097158420108258118 : True := trivial
theorem law_holds.tw17028624522117568015 : True := trivial
theorem law_holds.tw8860054118572591635 : True := trivial
theorem law_holds.tw4992725456586698614 : True := trivial
theorem law_holds.tw907578622648922086 : True := trivial
theorem law_holds.tw1980014416275693142 : True := trivial
theorem law_holds.tw17993387198741990920 : True := trivial
theorem law_holds.tw13800329570527188203 : True := trivial
theorem law_holds.tw8035577848987061507 : True := trivial
theorem law_holds.tw9009705080361974123 : True := trivial
theorem law_holds.tw17545576798567701639 : True := trivial
theorem law_holds.tw14746153008562904142 : True := trivial
theorem law_holds.tw2798143973674455058 : True := trivial
theorem law_holds.tw607667584577438428 : True := trivial
theorem law_holds.tw2470889107711209942 : True := trivial
theorem law_holds.tw1928719863018725356 : True := trivial
theorem law_holds.tw12663309570017281627 : True := trivial
theorem law_holds.tw6991859651787742975 : True := trivial
theorem law_holds.tw6333624483447246961 : True := trivial
theorem law_holds.tw15732109348078318572 : True := trivial
theorem law_holds.tw12684681026606017882 : True := trivial
theorem law_holds.tw13791147489807684654 : True := trivial
theorem law_holds.tw14351635765420936899 : True := trivial
theorem law_holds.tw9875236377963488844 : True := trivial
theorem law_holds.tw12153922251378674784 : True := trivial
theorem law_holds.tw17309000430359075326 : True := trivial
theorem law_holds.tw3222016081226267511 : True := trivial
theorem law_holds.tw8176227357466254829 : True := trivial
theorem law_holds.tw1819244514083003361 : True := trivial
theorem law_holds.tw4439653461905209652 : True := trivial
theorem law_holds.tw18155977372800253590 : True := trivial
theorem law_holds.tw10222300733896627045 : True := trivial
theorem law_holds.tw16098122237329998606 : True := trivial
theorem law_holds.tw18200972181404202854 : True := trivial
theorem law_holds.tw2017991025062827469 : True := trivial
theorem law_holds.tw13336368349410954346 : True := trivial
theorem law_holds.tw6856271012784772064 : True := trivial
theorem law_holds.tw18430954121086234272 : True := trivial
theorem law_holds.tw13528501647155650410 : True := trivial
theorem law_holds.tw9843604407834444796 : True := trivial
theorem law_holds.tw11100686419730198450 : True := trivial
theorem law_holds.tw18394933952373947069 : True := trivial
theorem law_holds.tw3258674603298201628 : True := trivial
theorem law_holds.tw1670043908289496885 : True := trivial
theorem law_holds.tw3339164412607631549 : True := trivial
theorem law_holds.tw10764541510735364805 : True := trivial
theorem law_holds.tw16335311869981183947 : True := trivial
theorem law_holds.tw16963379459963715452 : True := trivial
theorem law_holds.tw8040771413219435098 : True := trivial
theorem law_holds.tw3487968232213910406 : True := trivial
theorem law_holds.tw14421849669547354848 : True := trivial
theorem law_holds.tw14358080080312658767 : True := trivial
theorem law_holds.tw4143738569270334224 : True := trivial
theorem law_holds.tw228058311090241170 : True := trivial
theorem law_holds.tw3916298042263642725 : True := trivial
theorem law_holds.tw13037468584768466635 : True := trivial
theorem law_holds.tw13656764964264320472 : True := trivial
theorem law_holds.tw8652346329174877282 : True := trivial
theorem law_holds.tw12780804625047726367 : True := trivial
theorem law_holds.tw15403546387958509730 : True := trivial
theorem law_holds.tw2643271747718453845 : True := trivial
theorem law_holds.tw15741379261994504178 : True := trivial
theorem law_holds.tw9030029362784504949 : True := trivial
theorem law_holds.tw5791418645094131800 : True := trivial
theorem law_holds.tw5731563423909890137 : True := trivial
theorem law_holds.tw14521376392698553312 : True := trivial
theorem law_holds.tw1762888911704233025 : True := trivial
theorem law_holds.tw1622690429015379626 : True := trivial
theorem law_holds.tw4464252984393422682 : True := trivial
theorem law_holds.tw11576763624814078588 : True := trivial
theorem law_holds.tw217386770830766740 : True := trivial
theorem law_holds.tw12394330538082041428 : True := trivial
theorem law_holds.tw10079444305495103266 : True := trivial
theorem law_holds.tw908389787484368193 : True := trivial
theorem law_holds.tw1909877003179415225 : True := trivial
theorem law_holds.tw3927331946688356228 : True := trivial
theorem law_holds.tw808278469055374699 : True := trivial
theorem law_holds.tw14252543395802736299 : True := trivial
theorem law_holds.tw8312275703017117140 : True := trivial
theorem law_holds.tw9483915327669328748 : True := trivial
theorem law_holds.tw15333956030411951890 : True := trivial
theorem law_holds.tw8505831140886102350 : True := trivial
theorem law_holds.tw9502071092897418529 : True := trivial
theorem law_holds.tw18165013545707147870 : True := trivial
theorem law_holds.tw3682559726232862161 : True := trivial
theorem law_holds.tw7703727192748681421 : True := trivial
theorem law_holds.tw1117575151148589468 : True := trivial
theorem law_holds.tw12889673554181485818 : True := trivial
theorem law_holds.tw9782971633488464159 : True := trivial
theorem law_holds.tw7569846149066573642 : True := trivial
theorem law_holds.tw3958906441317128266 : True := trivial
theorem law_holds.tw11169275537108399364 : True := trivial
theorem law_holds.tw6861490101519172755 : True := trivial
theorem law_holds.tw10786798759134214714 : True := trivial
theorem law_holds.tw2851267720448770887 : True := trivial
theorem law_holds.tw2887050238494874643 : True := trivial
theorem law_holds.tw6860709855171689206 : True := trivial
theorem law_holds.tw2924946361707170262 : True := trivial
theorem law_holds.tw2395105632611409283 : True := trivial
theorem law_holds.tw16482278838752557086 : True := trivial
theorem law_holds.tw16708887144172644987 : True := trivial
theorem law_holds.tw14498155544194170393 : True := trivial
theorem law_holds.tw10486713781251687710 : True := trivial
theorem law_holds.tw17775403365899300489 : True := trivial
theorem law_holds.tw8312341600987523519 : True := trivial
theorem law_holds.tw15544829507116839252 : True := trivial
theorem law_holds.tw17910646669766240164 : True := trivial
theorem law_holds.tw7556614973213307419 : True := trivial
theorem law_holds.tw180908045013255413 : True := trivial
theorem law_holds.tw12850535167719870617 : True := trivial
theorem law_holds.tw3152906847767001463 : True := trivial
theorem law_holds.tw13860468906599667430 : True := trivial
theorem law_holds.tw770865349035796089 : True := trivial
theorem law_holds.tw15332971116118236329 : True := trivial
theorem law_holds.tw6667284449218939238 : True := trivial
theorem law_holds.tw7769649832755249146 : True := trivial
theorem law_holds.tw14326059299131336239 : True := trivial
theorem law_holds.tw3707715988154104229 : True := trivial
theorem law_holds.tw6319825239189999033 : True := trivial
theorem law_holds.tw13334914271144262431 : True := trivial
theorem law_holds.tw14447809873574782654 : True := trivial
theorem law_holds.tw270554467692517631 : True := trivial
theorem law_holds.tw12731736397290755891 : True := trivial
theorem law_holds.tw4072507727158212662 : True := trivial
theorem law_holds.tw14160533322030094474 : True := trivial
theorem law_holds.tw9893027074817801370 : True := trivial
theorem law_holds.tw4643041051132140158 : True := trivial
theorem law_holds.tw12253894415571469376 : True := trivial
theorem law_holds.tw13068417504975948891 : True := trivial
theorem law_holds.tw15616788800653401546 : True := trivial
theorem law_holds.tw5920216800500632969 : True := trivial
theorem law_holds.tw3850334171643177529 : True := trivial
theorem law_holds.tw2127001594154878533 : True := trivial
theorem law_holds.tw5044595872519035376 : True := trivial
theorem law_holds.tw3035144380315620824 : True := trivial
theorem law_holds.tw13116430531795314387 : True := trivial
theorem law_holds.tw15123554796541802991 : True := trivial
theorem law_holds.tw17389434848343332794 : True := trivial
theorem law_holds.tw16731865509343475380 : True := trivial
theorem law_holds.tw7304591109411159013 : True := trivial
theorem law_holds.tw5587736956042788999 : True := trivial
theorem law_holds.tw10362271348294423435 : True := trivial
theorem law_holds.tw4358315822946757081 : True := trivial
theorem law_holds.tw17776234225285570622 : True := trivial
theorem law_holds.tw15873654808861938513 : True := trivial
theorem law_holds.tw13756832539634530601 : True := trivial
theorem law_holds.tw8377264794811688176 : True := trivial
theorem law_holds.tw2269544990204364226 : True := trivial
theorem law_holds.tw12230812552461218233 : True := trivial
theorem law_holds.tw14497384708736915567 : True := trivial
theorem law_holds.tw17311987242748728955 : True := trivial
theorem law_holds.tw15154110283740273250 : True := trivial
theorem law_holds.tw10028117763298573888 : True := trivial
theorem law_holds.tw4517222822008671029 : True := trivial
theorem law_holds.tw9758047768218912823 : True := trivial
theorem law_holds.tw12533077332658259058 : True := trivial
theorem law_holds.tw17305254018735503138 : True := trivial
theorem law_holds.tw9669672807639750606 : True := trivial
theorem law_holds.tw9288214680346807717 : True := trivial
theorem law_holds.tw2644812543463305238 : True := trivial
theorem law_holds.tw3674665740742831893 : True := trivial
theorem law_holds.tw9403268196540146800 : True := trivial
theorem law_holds.tw1031057903888850656 : True := trivial
theorem law_holds.tw16961963742403092116 : True := trivial
theorem law_holds.tw15661869461025623997 : True := trivial
theorem law_holds.tw194939583717160490 : True := trivial
theorem law_holds.tw2564268380859428801 : True := trivial
theorem law_holds.tw2136269947727277649 : True := trivial
theorem law_holds.tw17945400426158229696 : True := trivial
theorem law_holds.tw15293083901398250104 : True := trivial
theorem law_holds.tw12029126673135917974 : True := trivial
theorem law_holds.tw3882201998751590657 : True := trivial
theorem law_holds.tw7311554392007033315 : True := trivial
theorem law_holds.tw9629251133229016361 : True := trivial
theorem law_holds.tw9317688335297629284 : True := trivial
theorem law_holds.tw7351129398174139865 : True := trivial
theorem law_holds.tw6463668430954543056 : True := trivial
theorem law_holds.tw15883345262158282383 : True := trivial
theorem law_holds.tw521618093562937032 : True := trivial
theorem law_holds.tw13220211186989608806 : True := trivial
theorem law_holds.tw11426015686315989412 : True := trivial
theorem law_holds.tw11823568539219059922 : True := trivial
theorem law_holds.tw3028213030429885723 : True := trivial
theorem law_holds.tw6719018230134327050 : True := trivial
theorem law_holds.tw2782584491509435139 : True := trivial
theorem law_holds.tw10954758410522031216 : True := trivial
theorem law_holds.tw3077249439568447194 : True := trivial
theorem law_holds.tw9964428425899171237 : True := trivial
theorem law_holds.tw2055734563569237896 : True := trivial
theorem law_holds.tw9032369906271771983 : True := trivial
theorem law_holds.tw17046799393618780204 : True := trivial
theorem law_holds.tw15162217921772873613 : True := trivial
theorem law_holds.tw8829074647290719032 : True := trivial
theorem law_holds.tw5725672013846136890 : True := trivial
theorem law_holds.tw12622292602297523153 : True := trivial
theorem law_holds.tw2139172203440323022 : True := trivial
theorem law_holds.tw10812634152524527747 : True := trivial
theorem law_holds.tw15796309260620551687 : True := trivial
theorem law_holds.tw8398172748654082301 : True := trivial
theorem law_holds.tw7407239408455114201 : True := trivial
theorem law_holds.tw1021771657429519781 : True := trivial
theorem law_holds.tw9524400087533092186 : True := trivial
theorem law_holds.tw1588742098881680585 : True := trivial
theorem law_holds.tw17180001009569633970 : True := trivial
theorem law_holds.tw3438298445031660282 : True := trivial
theorem law_holds.tw14571795756577361901 : True := trivial
theorem law_holds.tw6159533029260741167 : True := trivial
theorem law_holds.tw2446358144275080391 : True := trivial
theorem law_holds.tw5087963091746180759 : True := trivial
theorem law_holds.tw1786514562438141433 : True := trivial
theorem law_holds.tw13024233884710821808 : True := trivial
theorem law_holds.tw17903290773200042623 : True := trivial
theorem law_holds.tw3426337659310251177 : True := trivial
theorem law_holds.tw1096898596823417342 : True := trivial
theorem law_holds.tw1737005901722704485 : True := trivial
theorem law_holds.tw18042531781279621341 : True := trivial
theorem law_holds.tw6254736894362409555 : True := trivial
theorem law_holds.tw14677013365202126530 : True := trivial
theorem law_holds.tw981846192996546977 : True := trivial
theorem law_holds.tw8634839017697508684 : True := trivial
theorem law_holds.tw16461882675039125421 : True := trivial
theorem law_holds.tw6401299144993235711 : True := trivial
theorem law_holds.tw8572072892066365893 : True := trivial
theorem law_holds.tw7408322871517469003 : True := trivial
theorem law_holds.tw11258418251754256542 : True := trivial
theorem law_holds.tw10690591221887355590 : True := trivial
theorem law_holds.tw11609493526922420660 : True := trivial
theorem law_holds.tw10516828495840041881 : True := trivial
theorem law_holds.tw545109181885906688 : True := trivial
theorem law_holds.tw6748656972983266668 : True := trivial
theorem law_holds.tw4847869748599069932 : True := trivial
theorem law_holds.tw4273555757443719353 : True := trivial
theorem law_holds.tw18234560199702728603 : True := trivial
theorem law_holds.tw17648194123239954510 : True := trivial
theorem law_holds.tw13504682048671500267 : True := trivial
theorem law_holds.tw16895252004520475267 : True := trivial
theorem law_holds.tw897403712396507413 : True := trivial
theorem law_holds.tw18313054686088952622 : True := trivial
theorem law_holds.tw5298563615123868993 : True := trivial
theorem law_holds.tw8295506355032047333 : True := trivial
theorem law_holds.tw14390095281932903014 : True := trivial
theorem law_holds.tw13709617746848070560 : True := trivial
theorem law_holds.tw3974387499553966400 : True := trivial
theorem law_holds.tw6900053685262515769 : True := trivial
theorem law_holds.tw312167199014305042 : True := trivial
theorem law_holds.tw8695310864119093835 : True := trivial
theorem law_holds.tw17385726211960272802 : True := trivial
theorem law_holds.tw8872494088307768188 : True := trivial
theorem law_holds.tw3584490593718003838 : True := trivial
theorem law_holds.tw2389365564930886873 : True := trivial
theorem law_holds.tw12045387857630236399 : True := trivial
theorem law_holds.tw18388893480867403737 : True := trivial
theorem law_holds.tw17562025525947693838 : True := trivial
theorem law_holds.tw7221428835167493151 : True := trivial
theorem law_holds.tw12294597709558488554 : True := trivial
theorem law_holds.tw10007947361888340627 : True := trivial
theorem law_holds.tw4492043994082249198 : True := trivial
theorem law_holds.tw7511139251322460048 : True := trivial
theorem law_holds.tw926570990666696690 : True := trivial
theorem law_holds.tw2168529811784733145 : True := trivial
theorem law_holds.tw3612332870262773283 : True := trivial
theorem law_holds.tw2043166853727251185 : True := trivial
theorem law_holds.tw74008026257707556 : True := trivial
theorem law_holds.tw13958071646730322851 : True := trivial
theorem law_holds.tw11881114122080957857 : True := trivial
theorem law_holds.tw15526298677375409021 : True := trivial
theorem law_holds.tw2088057726675268939 : True := trivial
theorem law_holds.tw15623931887893595886 : True := trivial
theorem law_holds.tw15829985883664642994 : True := trivial
theorem law_holds.tw14331520008513703237 : True := trivial
theorem law_holds.tw5898729028444588960 : True := trivial
theorem law_holds.tw11781800970755023335 : True := trivial
theorem law_holds.tw7566432030715092817 : True := trivial
theorem law_holds.tw1905533677188600702 : True := trivial
theorem law_holds.tw13642005409729077643 : True := trivial
theorem law_holds.tw1689763614830377041 : True := trivial
theorem law_holds.tw12342728606916771844 : True := trivial
theorem law_holds.tw7820799176418779761 : True := trivial
theorem law_holds.tw10242277825702978295 : True := trivial
theorem law_holds.tw6776455111828631412 : True := trivial
theorem law_holds.tw18269650602155537469 : True := trivial
theorem law_holds.tw15274831704391544125 : True := trivial
theorem law_holds.tw12253411696296436870 : True := trivial
theorem law_holds.tw10415944068369783135 : True := trivial
theorem law_holds.tw6131411735021997470 : True := trivial
theorem law_holds.tw1116448407281170742 : True := trivial
theorem law_holds.tw1393039868726904873 : True := trivial
theorem law_holds.tw13956741780833797525 : True := trivial
theorem law_holds.tw16561980033783445034 : True := trivial
theorem law_holds.tw2907507879108658156 : True := trivial
theorem law_holds.tw12547139144490466682 : True := trivial
theorem law_holds.tw4943266373159272645 : True := trivial
theorem law_holds.tw7034799258891941112 : True := trivial
theorem law_holds.tw18153520721480276881 : True := trivial
theorem law_holds.tw7705907089059582203 : True := trivial
theorem law_holds.tw15711721202313437401 : True := trivial
theorem law_holds.tw8844300528656570046 : True := trivial
theorem law_holds.tw13766487248619392586 : True := trivial
theorem law_holds.tw18051328159682125866 : True := trivial
theorem law_holds.tw7510824731391710808 : True := trivial
theorem law_holds.tw1681173693875575501 : True := trivial
theorem law_holds.tw1997475870405608531 : True := trivial
theorem law_holds.tw6882020374766023752 : True := trivial
theorem law_holds.tw4963573110770748834 : True := trivial
theorem law_holds.tw7636989558263936852 : True := trivial
theorem law_holds.tw12481875629721207810 : True := trivial
theorem law_holds.tw6746360682218282392 : True := trivial
theorem law_holds.tw12645607732203181651 : True := trivial
theorem law_holds.tw15607887362523206001 : True := trivial
theorem law_holds.tw2387193687640843687 : True := trivial
theorem law_holds.tw2143268655074302082 : True := trivial
theorem law_holds.tw13429453918920967058 : True := trivial
theorem law_holds.tw1083727906915337341 : True := trivial
theorem law_holds.tw10301956948240465243 : True := trivial
theorem law_holds.tw4146061822495498468 : True := trivial
theorem law_holds.tw6727219029552735585 : True := trivial
theorem law_holds.tw13663051387528795968 : True := trivial
theorem law_holds.tw4211113817173803656 : True := trivial
theorem law_holds.tw8856317710758748564 : True := trivial
theorem law_holds.tw3196237028118051783 : True := trivial
theorem law_holds.tw13528896222378765290 : True := trivial
theorem law_holds.tw15150646450996357022 : True := trivial
theorem law_holds.tw1193751542720294520 : True := trivial
theorem law_holds.tw9611832331244035263 : True := trivial
theorem law_holds.tw8330938851228082562 : True := trivial
theorem law_holds.tw2414074194907454277 : True := trivial
theorem law_holds.tw9423440377400516374 : True := trivial
theorem law_holds.tw10897144627088453450 : True := trivial
theorem law_holds.tw13921793114692110018 : True := trivial
theorem law_holds.tw11126432536435168541 : True := trivial
theorem law_holds.tw9548147230944474901 : True := trivial
theorem law_holds.tw4012412122566942357 : True := trivial
theorem law_holds.tw6952626026076278478 : True := trivial
theorem law_holds.tw10609929442622069884 : True := trivial
theorem law_holds.tw676263390381983339 : True := trivial
theorem law_holds.tw10441050188594101415 : True := trivial
theorem law_holds.tw7345768897557615242 : True := trivial
theorem law_holds.tw7479968899032947501 : True := trivial
theorem law_holds.tw6837162412863275959 : True := trivial
theorem law_holds.tw1567021292681222707 : True := trivial
theorem law_holds.tw519298541982818421 : True := trivial
theorem law_holds.tw8413839820570837369 : True := trivial
theorem law_holds.tw3943428198234077543 : True := trivial
theorem law_holds.tw3896150654470677357 : True := trivial
theorem law_holds.tw2271277622628899897 : True := trivial
theorem law_holds.tw2078624436916829710 : True := trivial
theorem law_holds.tw7761691375167764622 : True := trivial
theorem law_holds.tw10371022188087798493 : True := trivial
theorem law_holds.tw4889031023730116350 : True := trivial
theorem law_holds.tw3910120701321347557 : True := trivial
theorem law_holds.tw6499956759230125245 : True := trivial
theorem law_holds.tw13182730311906835528 : True := trivial
theorem law_holds.tw4524032621918665186 : True := trivial
theorem law_holds.tw14774650325386425613 : True := trivial
theorem law_holds.tw18203989763732354715 : True := trivial
theorem law_holds.tw9529696498207198238 : True := trivial
theorem law_holds.tw3624585105083129037 : True := trivial
theorem law_holds.tw3588475368690217884 : True := trivial
theorem law_holds.tw2008241840959921210 : True := trivial
theorem law_holds.tw12800644894191811977 : True := trivial
theorem law_holds.tw7123599913665508030 : True := trivial
theorem law_holds.tw3426384778480675251 : True := trivial
theorem law_holds.tw15202307301556495182 : True := trivial
theorem law_holds.tw9779807473162285230 : True := trivial
theorem law_holds.tw14875730727996063832 : True := trivial
theorem law_holds.tw11283290899035178999 : True := trivial
theorem law_holds.tw17923851452625207687 : True := trivial
theorem law_holds.tw10958410103948607464 : True := trivial
theorem law_holds.tw6896717019858035522 : True := trivial
theorem law_holds.tw4797790103318477656 : True := trivial
theorem law_holds.tw575232530192455986 : True := trivial
theorem law_holds.tw12294157821550436875 : True := trivial
theorem law_holds.tw8334431915071622068 : True := trivial
theorem law_holds.tw11026575858783421537 : True := trivial
theorem law_holds.tw1074212747506456669 : True := trivial
theorem law_holds.tw9992725586745946429 : True := trivial
theorem law_holds.tw1898673134495410930 : True := trivial
theorem law_holds.tw7313538909654459803 : True := trivial
theorem law_holds.tw4777767981643802736 : True := trivial
theorem law_holds.tw1258919526383655059 : True := trivial
theorem law_holds.tw14354538779393863138 : True := trivial
theorem law_holds.tw8570087061310353148 : True := trivial
theorem law_holds.tw16099233806120587224 : True := trivial
theorem law_holds.tw9184033795430018204 : True := trivial
theorem law_holds.tw18326849912455186884 : True := trivial
theorem law_holds.tw13392613628428298086 : True := trivial
theorem law_holds.tw17458534234597298029 : True := trivial
theorem law_holds.tw2842810181116790245 : True := trivial
theorem law_holds.tw12026032028955528042 : True := trivial
theorem law_holds.tw12256559969785099955 : True := trivial
theorem law_holds.tw745255978533919091 : True := trivial
theorem law_holds.tw5718591165246717604 : True := trivial
theorem law_holds.tw14828999820898988419 : True := trivial
theorem law_holds.tw3860281307899837418 : True := trivial
theorem law_holds.tw12476058986133298565 : True := trivial
theorem law_holds.tw15232040098313456343 : True := trivial
theorem law_holds.tw7985852228683721737 : True := trivial
theorem law_holds.tw5950301352895977177 : True := trivial
theorem law_holds.tw16057390660189216267 : True := trivial
theorem law_holds.tw8989625286065859495 : True := trivial
theorem law_holds.tw4358403320081769719 : True := trivial
theorem law_holds.tw9770219792253218338 : True := trivial
theorem law_holds.tw15778187320301009095 : True := trivial
theorem law_holds.tw18155623678392573649 : True := trivial
theorem law_holds.tw2887994833065977647 : True := trivial
theorem law_holds.tw12246973334233011070 : True := trivial
theorem law_holds.tw16332274672890094952 : True := trivial
theorem law_holds.tw14559193561218252903 : True := trivial
theorem law_holds.tw15031514592837009168 : True := trivial
theorem law_holds.tw9901009478667943049 : True := trivial
theorem law_holds.tw18111123423493105736 : True := trivial
theorem law_holds.tw8083882435365906211 : True := trivial
theorem law_holds.tw5471263015024950418 : True := trivial
theorem law_holds.tw8806649888931605024 : True := trivial
theorem law_holds.tw17183477848116922584 : True := trivial
theorem law_holds.tw18207139094907211405 : True := trivial
theorem law_holds.tw2557128651999224082 : True := trivial
theorem law_holds.tw3345943897349945916 : True := trivial
theorem law_holds.tw18221580467831097590 : True := trivial
theorem law_holds.tw15973758155804705043 : True := trivial
theorem law_holds.tw3607733795294823564 : True := trivial
theorem law_holds.tw9187647767651647856 : True := trivial
theorem law_holds.tw471691501087554491 : True := trivial
theorem law_holds.tw8591876402714022951 : True := trivial
theorem law_holds.tw8131574967351443871 : True := trivial
theorem law_holds.tw8509427752941578312 : True := trivial
theorem law_holds.tw7544913113114293122 : True := trivial
theorem law_holds.tw10189704592693192966 : True := trivial
theorem law_holds.tw10944507229479926786 : True := trivial
theorem law_holds.tw14844349234554566270 : True := trivial
theorem law_holds.tw3329330481660614911 : True := trivial
theorem law_holds.tw11297062200503488469 : True := trivial
theorem law_holds.tw8858119530156839631 : True := trivial
theorem law_holds.tw11067727234611919522 : True := trivial
theorem law_holds.tw2695550118857162214 : True := trivial
theorem law_holds.tw3852827713774964812 : True := trivial
theorem law_holds.tw2327590871639926724 : True := trivial
theorem law_holds.tw11330957891505755796 : True := trivial
theorem law_holds.tw1376783240425437725 : True := trivial
theorem law_holds.tw660876830718362288 : True := trivial
theorem law_holds.tw1803770708003208005 : True := trivial
theorem law_holds.tw5824406869818771718 : True := trivial
theorem law_holds.tw5037970770195530229 : True := trivial
theorem law_holds.tw160851071654074740 : True := trivial
theorem law_holds.tw6751701741844952029 : True := trivial
theorem law_holds.tw13092103797297032270 : True := trivial
theorem law_holds.tw15039968919637362723 : True := trivial
theorem law_holds.tw3110860835449505704 : True := trivial
theorem law_holds.tw11586273756423631628 : True := trivial
theorem law_holds.tw7484302960587174374 : True := trivial
theorem law_holds.tw6553333263825352884 : True := trivial
theorem law_holds.tw11956458263131016624 : True := trivial
theorem law_holds.tw17702717118452817820 : True := trivial
theorem law_holds.tw9428232062507599395 : True := trivial
theorem law_holds.tw8772434138870129864 : True := trivial
theorem law_holds.tw12080120384591051744 : True := trivial
theorem law_holds.tw8984152853971343422 : True := trivial
theorem law_holds.tw6633459197191319014 : True := trivial
theorem law_holds.tw12275847060699157868 : True := trivial
theorem law_holds.tw16384666884567717180 : True := trivial
theorem law_holds.tw9731194254967571310 : True := trivial
theorem law_holds.tw3361303092190944451 : True := trivial
theorem law_holds.tw3275888236283897050 : True := trivial
theorem law_holds.tw9785522067705436687 : True := trivial
theorem law_holds.tw2885242317795153321 : True := trivial
theorem law_holds.tw6118445216106802109 : True := trivial
theorem law_holds.tw11846676642670509255 : True := trivial
theorem law_holds.tw2785223865569585226 : True := trivial
theorem law_holds.tw465778155523134757 : True := trivial
theorem law_holds.tw2340080995546993249 : True := trivial
theorem law_holds.tw4503035019201841076 : True := trivial
theorem law_holds.tw16104154289035658226 : True := trivial
theorem law_holds.tw3058763678148523101 : True := trivial
theorem law_holds.tw8144265105397280603 : True := trivial
theorem law_holds.tw6485157915934633976 : True := trivial
theorem law_holds.tw17807172435682841974 : True := trivial
theorem law_holds.tw7408472829698581751 : True := trivial
theorem law_holds.tw14052961738847306570 : True := trivial
theorem law_holds.tw2928182479919356999 : True := trivial
theorem law_holds.tw6127397645498528670 : True := trivial
theorem law_holds.tw18016632835344607894 : True := trivial
theorem law_holds.tw4105061398784577018 : True := trivial
theorem law_holds.tw14904137174637212347 : True := trivial
theorem law_holds.tw13402424001964919149 : True := trivial
theorem law_holds.tw9952934120092978494 : True := trivial
theorem law_holds.tw11977050620070087417 : True := trivial
theorem law_holds.tw9634777828066323256 : True := trivial
theorem law_holds.tw5633279544325282263 : True := trivial
theorem law_holds.tw16462895619179043833 : True := trivial
theorem law_holds.tw3850404396616230974 : True := trivial
theorem law_holds.tw14746732674962391887 : True := trivial
theorem law_holds.tw5640673133297012132 : True := trivial
theorem law_holds.tw5994716906283268228 : True := trivial
theorem law_holds.tw2823118279179183905 : True := trivial
theorem law_holds.tw1556451293825771818 : True := trivial
theorem law_holds.tw14646867148444618371 : True := trivial
theorem law_holds.tw7472407996622490835 : True := trivial
theorem law_holds.tw2856731137302751260 : True := trivial
theorem law_holds.tw4593294709026258786 : True := trivial
theorem law_holds.tw6381524096760519305 : True := trivial
theorem law_holds.tw3756308257209627903 : True := trivial
theorem law_holds.tw2618386414584295968 : True := trivial
theorem law_holds.tw16085450786879632459 : True := trivial
theorem law_holds.tw5514985750730242732 : True := trivial
theorem law_holds.tw5647190250986860303 : True := trivial
theorem law_holds.tw10585544012083477974 : True := trivial
theorem law_holds.tw2211468639325271704 : True := trivial
theorem law_holds.tw8549365171731915398 : True := trivial
theorem law_holds.tw17274716441693411508 : True := trivial
theorem law_holds.tw12291295341487003417 : True := trivial
theorem law_holds.tw1755247457520882261 : True := trivial
theorem law_holds.tw16771549258648962210 : True := trivial
theorem law_holds.tw18254395454411644717 : True := trivial
theorem law_holds.tw10465528174321978529 : True := trivial
theorem law_holds.tw17419225075052043924 : True := trivial
theorem law_holds.tw5788490908846893860 : True := trivial
theorem law_holds.tw8045378594462670225 : True := trivial
theorem law_holds.tw11017292853192552079 : True := trivial
theorem law_holds.tw10660274270002163016 : True := trivial
theorem law_holds.tw2175471002772951711 : True := trivial
theorem law_holds.tw12411438589965969376 : True := trivial
theorem law_holds.tw2524451447272701541 : True := trivial
theorem law_holds.tw15352839923633478061 : True := trivial
theorem law_holds.tw17580165497215679439 : True := trivial
theorem law_holds.tw12001131798957381970 : True := trivial
theorem law_holds.tw6869992995446874880 : True := trivial
theorem law_holds.tw14531881819706719225 : True := trivial
theorem law_holds.tw9965324091349369512 : True := trivial
theorem law_holds.tw2667362832866536986 : True := trivial
theorem law_holds.tw11253982270263490198 : True := trivial
theorem law_holds.tw4781243967656130014 : True := trivial
theorem law_holds.tw16192464803593610453 : True := trivial
theorem law_holds.tw6111484700653504198 : True := trivial
theorem law_holds.tw2414130084998747865 : True := trivial
theorem law_holds.tw10442559174759676424 : True := trivial
theorem law_holds.tw16643359273071845452 : True := trivial
theorem law_holds.tw14991590004735058009 : True := trivial
theorem law_holds.tw7983211939772527470 : True := trivial
theorem law_holds.tw5052586510891348487 : True := trivial
theorem law_holds.tw193754988921808689 : True := trivial
theorem law_holds.tw841179935631392477 : True := trivial
theorem law_holds.tw15049334964525308263 : True := trivial
theorem law_holds.tw8790382262760724670 : True := trivial
theorem law_holds.tw2414361068126709639 : True := trivial
theorem law_holds.tw4008084134468147086 : True := trivial
theorem law_holds.tw9473953674100734253 : True := trivial
theorem law_holds.tw18090433342136740992 : True := trivial
theorem law_holds.tw5405950176245079350 : True := trivial
theorem law_holds.tw3912811242725288453 : True := trivial
theorem law_holds.tw14997073306097389879 : True := trivial
theorem law_holds.tw14596297492920191028 : True := trivial
theorem law_holds.tw4433843952089619705 : True := trivial
theorem law_holds.tw11240126127631740588 : True := trivial
theorem law_holds.tw3783255490424437341 : True := trivial
theorem law_holds.tw687851300278632918 : True := trivial
theorem law_holds.tw3586223124089845285 : True := trivial
theorem law_holds.tw16493337721930434605 : True := trivial
theorem law_holds.tw2731376850318366449 : True := trivial
theorem law_holds.tw10667895100797718341 : True := trivial
theorem law_holds.tw3046938939346580660 : True := trivial
theorem law_holds.tw11625900857008200698 : True := trivial
theorem law_holds.tw17294823503141414406 : True := trivial
theorem law_holds.tw3625451137614018508 : True := trivial
theorem law_holds.tw16641252976520058099 : True := trivial
theorem law_holds.tw1499712698015984848 : True := trivial
theorem law_holds.tw6354221664691742131 : True := trivial
theorem law_holds.tw8226277913771197264 : True := trivial
theorem law_holds.tw7185456241796803578 : True := trivial
theorem law_holds.tw11677100312832694166 : True := trivial
theorem law_holds.tw17598101756349436640 : True := trivial
theorem law_holds.tw14789792462180790578 : True := trivial
theorem law_holds.tw6265907326580845545 : True := trivial
theorem law_holds.tw8916135115820964548 : True := trivial
theorem law_holds.tw1710076424337546998 : True := trivial
theorem law_holds.tw881140697980615281 : True := trivial
theorem law_holds.tw12296726922439171297 : True := trivial
theorem law_holds.tw71255217949683197 : True := trivial
theorem law_holds.tw8666519363043736892 : True := trivial
theorem law_holds.tw7169296243666066974 : True := trivial
theorem law_holds.tw15014403891855920072 : True := trivial
theorem law_holds.tw8401860817304669148 : True := trivial
theorem law_holds.tw4916342969005030805 : True := trivial
theorem law_holds.tw8447111591413142418 : True := trivial
theorem law_holds.tw1685627985566243432 : True := trivial
theorem law_holds.tw12866619843771512703 : True := trivial
theorem law_holds.tw16887194039231368127 : True := trivial
theorem law_holds.tw293627430662643474 : True := trivial
theorem law_holds.tw7062847971049655297 : True := trivial
theorem law_holds.tw1550374771381668074 : True := trivial
theorem law_holds.tw2322801206320994539 : True := trivial
theorem law_holds.tw2039724139929955007 : True := trivial
theorem law_holds.tw13902218012105463410 : True := trivial
theorem law_holds.tw11599213532126039444 : True := trivial
theorem law_holds.tw17333074002647195236 : True := trivial
theorem law_holds.tw18197852217732850983 : True := trivial
theorem law_holds.tw15352218221683021774 : True := trivial
theorem law_holds.tw18006792725990754497 : True := trivial
theorem law_holds.tw5277994541964179845 : True := trivial
theorem law_holds.tw14988988175077273356 : True := trivial
theorem law_holds.tw11206171021150027133 : True := trivial
theorem law_holds.tw1767730674963353768 : True := trivial
theorem law_holds.tw8191475993861738794 : True := trivial
theorem law_holds.tw11182679623053108816 : True := trivial
theorem law_holds.tw5488932636959071455 : True := trivial
theorem law_holds.tw9525127294725463027 : True := trivial
theorem law_holds.tw6564709946809587534 : True := trivial
theorem law_holds.tw10093380194815717143 : True := trivial
theorem law_holds.tw17345407343664743607 : True := trivial
theorem law_holds.tw13055523775352357715 : True := trivial
theorem law_holds.tw17078278762921784054 : True := trivial
theorem law_holds.tw16606368319796509530 : True := trivial
theorem law_holds.tw9161201516280946379 : True := trivial
theorem law_holds.tw13983371404066579822 : True := trivial
theorem law_holds.tw17364227736987735495 : True := trivial
theorem law_holds.tw3441294181031003726 : True := trivial
theorem law_holds.tw9826770418859484059 : True := trivial
theorem law_holds.tw11918526154901971515 : True := trivial
theorem law_holds.tw8982592368679156308 : True := trivial
theorem law_holds.tw5765542928187402639 : True := trivial
theorem law_holds.tw5364902710198789758 : True := trivial
theorem law_holds.tw10566571302883470556 : True := trivial
theorem law_holds.tw16122234104351945819 : True := trivial
theorem law_holds.tw8804120190785687885 : True := trivial
theorem law_holds.tw15480323770066655214 : True := trivial
theorem law_holds.tw17169043682955552997 : True := trivial
theorem law_holds.tw8499850393483014974 : True := trivial
theorem law_holds.tw9758457651398904439 : True := trivial
theorem law_holds.tw16836969012518115619 : True := trivial
theorem law_holds.tw5451054884063135654 : True := trivial
theorem law_holds.tw17253691774821329096 : True := trivial
theorem law_holds.tw2142710703020379005 : True := trivial
theorem law_holds.tw5432952435368640112 : True := trivial
theorem law_holds.tw367903286550418209 : True := trivial
theorem law_holds.tw12267387818898314102 : True := trivial
theorem law_holds.tw14051398506283589457 : True := trivial
theorem law_holds.tw14967481817302583507 : True := trivial
theorem law_holds.tw15344568305301671732 : True := trivial
theorem law_holds.tw10024915671413155879 : True := trivial
theorem law_holds.tw17122233677790987533 : True := trivial
theorem law_holds.tw9975692261777386857 : True := trivial
theorem law_holds.tw6156424641528512876 : True := trivial
theorem law_holds.tw13800757232730249582 : True := trivial
theorem law_holds.tw18340598423539479173 : True := trivial
theorem law_holds.tw3572487005457819259 : True := trivial
theorem law_holds.tw7699555767970713544 : True := trivial
theorem law_holds.tw13840902789983287329 : True := trivial
theorem law_holds.tw9682718004065560343 : True := trivial
theorem law_holds.tw11098625913536864229 : True := trivial
theorem law_holds.tw5981114437932730796 : True := trivial
theorem law_holds.tw11303081109005220762 : True := trivial
theorem law_holds.tw6317479115527610633 : True := trivial
theorem law_holds.tw2029103588110406671 : True := trivial
theorem law_holds.tw10876394233666535175 : True := trivial
theorem law_holds.tw9260914124254427926 : True := trivial
theorem law_holds.tw16947615914383616782 : True := trivial
theorem law_holds.tw17253903310271361901 : True := trivial
theorem law_holds.tw17137235678499792623 : True := trivial
theorem law_holds.tw3024374315939245509 : True := trivial
theorem law_holds.tw14289194402921355359 : True := trivial
theorem law_holds.tw15802469936163623734 : True := trivial
theorem law_holds.tw13388431603621797793 : True := trivial
theorem law_holds.tw8857742495270377987 : True := trivial
theorem law_holds.tw1186782194237197914 : True := trivial
theorem law_holds.tw15609566024721092083 : True := trivial
theorem law_holds.tw10283916278828761575 : True := trivial
theorem law_holds.tw2382714987290314120 : True := trivial
theorem law_holds.tw16092355726972411579 : True := trivial
theorem law_holds.tw1989176631692091739 : True := trivial
theorem law_holds.tw3707998875871990840 : True := trivial
theorem law_holds.tw17352347295132562470 : True := trivial
theorem law_holds.tw10929289806422889615 : True := trivial
theorem law_holds.tw12423290165067640415 : True := trivial
theorem law_holds.tw6041440012092600215 : True := trivial
theorem law_holds.tw3920392572372402345 : True := trivial
theorem law_holds.tw13959763950245974101 : True := trivial
theorem law_holds.tw9659893776534165664 : True := trivial
theorem law_holds.tw17792525830624384078 : True := trivial
theorem law_holds.tw11046636381182338224 : True := trivial
theorem law_holds.tw2267570414399663512 : True := trivial
theorem law_holds.tw7759241980135008877 : True := trivial
theorem law_holds.tw2376695672464595844 : True := trivial
theorem law_holds.tw13190408463805328480 : True := trivial
theorem law_holds.tw16170062445108390699 : True := trivial
theorem law_holds.tw13257055565626018733 : True := trivial
theorem law_holds.tw2903333896348957400 : True := trivial
theorem law_holds.tw12634321019024901981 : True := trivial
theorem law_holds.tw16873695467490121585 : True := trivial
theorem law_holds.tw8553002610548859549 : True := trivial
theorem law_holds.tw9552830710289189752 : True := trivial
theorem law_holds.tw8720880381367431298 : True := trivial
theorem law_holds.tw4886312948824227682 : True := trivial
theorem law_holds.tw9432226000188453795 : True := trivial
theorem law_holds.tw16625653849559256525 : True := trivial
theorem law_holds.tw16190678330180157336 : True := trivial
theorem law_holds.tw2325693721150917532 : True := trivial
theorem law_holds.tw8854015012368427407 : True := trivial
theorem law_holds.tw3136910860242942599 : True := trivial
theorem law_holds.tw18116031599527039140 : True := trivial
theorem law_holds.tw4538803929270698141 : True := trivial
theorem law_holds.tw11223184984439025696 : True := trivial
theorem law_holds.tw12597187120891498251 : True := trivial
theorem law_holds.tw10977758072711909379 : True := trivial
theorem law_holds.tw1377309892636839040 : True := trivial
theorem law_holds.tw16174998905534648557 : True := trivial
theorem law_holds.tw246019281492129680 : True := trivial
theorem law_holds.tw12626328134170644701 : True := trivial
theorem law_holds.tw10405103093626408476 : True := trivial
theorem law_holds.tw8369274380968253667 : True := trivial
theorem law_holds.tw15617896438947887921 : True := trivial
theorem law_holds.tw1382677567924326555 : True := trivial
theorem law_holds.tw14883556706271630602 : True := trivial
theorem law_holds.tw1247253217256132012 : True := trivial
theorem law_holds.tw18243743400395545900 : True := trivial
theorem law_holds.tw13454136545276886934 : True := trivial
theorem law_holds.tw3794388667547904515 : True := trivial
theorem law_holds.tw16307713440670912930 : True := trivial
theorem law_holds.tw13028658284911697911 : True := trivial
theorem law_holds.tw18225134555866732589 : True := trivial
theorem law_holds.tw5188343433887887888 : True := trivial
theorem law_holds.tw14908662282237933112 : True := trivial
theorem law_holds.tw10024239376800412576 : True := trivial
theorem law_holds.tw18261290160731607033 : True := trivial
theorem law_holds.tw10726639523019406850 : True := trivial
theorem law_holds.tw7283070072754485986 : True := trivial
theorem law_holds.tw4192584870193575311 : True := trivial
theorem law_holds.tw2152083551845799040 : True := trivial
theorem law_holds.tw14350573489546498162 : True := trivial
theorem law_holds.tw4818577856007422655 : True := trivial
theorem law_holds.tw12831907817818079685 : True := trivial
theorem law_holds.tw95925638660483881 : True := trivial
theorem law_holds.tw1791086108937442324 : True := trivial
theorem law_holds.tw4360515638614775343 : True := trivial
theorem law_holds.tw14983226153234331074 : True := trivial
theorem law_holds.tw11764581739189218997 : True := trivial
theorem law_holds.tw17884844454425935293 : True := trivial
theorem law_holds.tw1369749317851641660 : True := trivial
theorem law_holds.tw16321023544550192223 : True := trivial
theorem law_holds.tw5317712747687158720 : True := trivial
theorem law_holds.tw1099259369241382048 : True := trivial
theorem law_holds.tw8135941239458229972 : True := trivial
theorem law_holds.tw16009327648451700120 : True := trivial
theorem law_holds.tw7143754711056708316 : True := trivial
theorem law_holds.tw13677857801504540592 : True := trivial
theorem law_holds.tw15884304794012968992 : True := trivial
theorem law_holds.tw12442163767917924457 : True := trivial
theorem law_holds.tw12707488347032175617 : True := trivial
theorem law_holds.tw8939018918628865471 : True := trivial
theorem law_holds.tw6881874429007886204 : True := trivial
theorem law_holds.tw10102834934717047885 : True := trivial
theorem law_holds.tw718173064312146323 : True := trivial
theorem law_holds.tw13590972695719381181 : True := trivial
theorem law_holds.tw550416813572682631 : True := trivial
theorem law_holds.tw14489315793263303861 : True := trivial
theorem law_holds.tw13287204720269558064 : True := trivial
theorem law_holds.tw6677821561840896501 : True := trivial
theorem law_holds.tw6890789416708739275 : True := trivial
theorem law_holds.tw503957847093417577 : True := trivial
theorem law_holds.tw17027635718292003107 : True := trivial
theorem law_holds.tw17911580528928914924 : True := trivial
theorem law_holds.tw631266038723830076 : True := trivial
theorem law_holds.tw14499810825090155391 : True := trivial
theorem law_holds.tw14381716576446811386 : True := trivial
theorem law_holds.tw11795792742502079742 : True := trivial
theorem law_holds.tw1335265377702380343 : True := trivial
theorem law_holds.tw1270187457972704292 : True := trivial
theorem law_holds.tw1514840783567845737 : True := trivial
theorem law_holds.tw6705145993079459608 : True := trivial
theorem law_holds.tw17248354013995264833 : True := trivial
theorem law_holds.tw17348551593414719351 : True := trivial
theorem law_holds.tw2661426283462663331 : True := trivial
theorem law_holds.tw11289095316329951393 : True := trivial
theorem law_holds.tw131357086916946640 : True := trivial
theorem law_holds.tw1496123403401453975 : True := trivial
theorem law_holds.tw2865737869514987218 : True := trivial
theorem law_holds.tw13250372474279835810 : True := trivial
theorem law_holds.tw10709909458450059161 : True := trivial
theorem law_holds.tw9387504603337931229 : True := trivial
theorem law_holds.tw3416923247095428876 : True := trivial
theorem law_holds.tw3012480247710183994 : True := trivial
theorem law_holds.tw16202244259718314570 : True := trivial
theorem law_holds.tw5842969613912506279 : True := trivial
theorem law_holds.tw6260460797876433568 : True := trivial
theorem law_holds.tw9220624806794609946 : True := trivial
theorem law_holds.tw3979707639553702691 : True := trivial
theorem law_holds.tw2096525686368166746 : True := trivial
theorem law_holds.tw11779019793772500504 : True := trivial
theorem law_holds.tw7356349956106387506 : True := trivial
theorem law_holds.tw11187323696070517052 : True := trivial
theorem law_holds.tw17523808032732122987 : True := trivial
theorem law_holds.tw3315642898252998016 : True := trivial
theorem law_holds.tw17237755526102222789 : True := trivial
theorem law_holds.tw312863333873483875 : True := trivial
theorem law_holds.tw3959601488294255719 : True := trivial
theorem law_holds.tw8472228645029834797 : True := trivial
theorem law_holds.tw14704515778605914334 : True := trivial
theorem law_holds.tw17713402740875732926 : True := trivial
theorem law_holds.tw440325148559900515 : True := trivial
theorem law_holds.tw1914425252493584057 : True := trivial
theorem law_holds.tw4958777108401626986 : True := trivial
theorem law_holds.tw16873799427995575018 : True := trivial
theorem law_holds.tw6765152471904792315 : True := trivial
theorem law_holds.tw6726159173723076276 : True := trivial
theorem law_holds.tw11133525997344109421 : True := trivial
theorem law_holds.tw6156673074769690058 : True := trivial
theorem law_holds.tw1053317679998426468 : True := trivial
theorem law_holds.tw2139843940965253949 : True := trivial
theorem law_holds.tw15533563059666576871 : True := trivial
theorem law_holds.tw11532970265236058100 : True := trivial
theorem law_holds.tw13650905803964671038 : True := trivial
theorem law_holds.tw11544315989524547432 : True := trivial
theorem law_holds.tw245764215241151709 : True := trivial
theorem law_holds.tw16074064945343616743 : True := trivial
theorem law_holds.tw455179833554555240 : True := trivial
theorem law_holds.tw3756957479349018193 : True := trivial
theorem law_holds.tw14375881129149169379 : True := trivial
theorem law_holds.tw3528666605387839750 : True := trivial
theorem law_holds.tw7631636504923648304 : True := trivial
theorem law_holds.tw7089819591129360890 : True := trivial
theorem law_holds.tw13294052699122959228 : True := trivial
theorem law_holds.tw4820369329881294799 : True := trivial
theorem law_holds.tw13476665736869980405 : True := trivial
theorem law_holds.tw8585773674032094923 : True := trivial
theorem law_holds.tw12874571214893485439 : True := trivial
theorem law_holds.tw16871385213344756426 : True := trivial
theorem law_holds.tw4635674611617693574 : True := trivial
theorem law_holds.tw16245577235439221107 : True := trivial
theorem law_holds.tw3390839446522356110 : True := trivial
theorem law_holds.tw733571504165245281 : True := trivial
theorem law_holds.tw12116493165278983582 : True := trivial
theorem law_holds.tw415365407113419659 : True := trivial
theorem law_holds.tw15789929832340015234 : True := trivial
theorem law_holds.tw7695934317539461687 : True := trivial
theorem law_holds.tw11470271118054631628 : True := trivial
theorem law_holds.tw4329158554759489670 : True := trivial
theorem law_holds.tw8187936588198008344 : True := trivial
theorem law_holds.tw15806970514647361693 : True := trivial
theorem law_holds.tw13014204117121516432 : True := trivial
theorem law_holds.tw9658750610502535773 : True := trivial
theorem law_holds.tw6345391036791879355 : True := trivial
theorem law_holds.tw3882250662718909693 : True := trivial
theorem law_holds.tw11097350217990362986 : True := trivial
theorem law_holds.tw15837452725152343555 : True := trivial
theorem law_holds.tw15359609613788013507 : True := trivial
theorem law_holds.tw5914870393513715829 : True := trivial
theorem law_holds.tw16106779387088534511 : True := trivial
theorem law_holds.tw16914220770136414715 : True := trivial
theorem law_holds.tw17942709131360195518 : True := trivial
theorem law_holds.tw5274592661964301406 : True := trivial
theorem law_holds.tw732671015094016272 : True := trivial
theorem law_holds.tw9950801491294251245 : True := trivial
theorem law_holds.tw12223724995276690173 : True := trivial
theorem law_holds.tw10803361673654935901 : True := trivial
theorem law_holds.tw12210932052861102225 : True := trivial
theorem law_holds.tw3438159455049519851 : True := trivial
theorem law_holds.tw12668044768207566790 : True := trivial
theorem law_holds.tw569041148215803771 : True := trivial
theorem law_holds.tw10350734228115807855 : True := trivial
theorem law_holds.tw7917754353467396125 : True := trivial
theorem law_holds.tw8701503649254672115 : True := trivial
theorem law_holds.tw12218498018843733332 : True := trivial
theorem law_holds.tw12280936224243050094 : True := trivial
theorem law_holds.tw15382015402350562565 : True := trivial
theorem law_holds.tw6116483010803129801 : True := trivial
theorem law_holds.tw9889521400790421688 : True := trivial
theorem law_holds.tw12595757733621342550 : True := trivial
theorem law_holds.tw3545908947808057021 : True := trivial
theorem law_holds.tw10841264019214440115 : True := trivial
theorem law_holds.tw12732824653754844360 : True := trivial
theorem law_holds.tw9069877914133315304 : True := trivial
theorem law_holds.tw145366339536180231 : True := trivial
theorem law_holds.tw7497986649931050792 : True := trivial
theorem law_holds.tw3692103080737180250 : True := trivial
theorem law_holds.tw9032088933897422861 : True := trivial
theorem law_holds.tw4030767218360268280 : True := trivial
theorem law_holds.tw9895272294310442608 : True := trivial
theorem law_holds.tw12624917743002284683 : True := trivial
theorem law_holds.tw4080157896497106081 : True := trivial
theorem law_holds.tw6747315666322679634 : True := trivial
theorem law_holds.tw7767266014307106701 : True := trivial
theorem law_holds.tw6177970194926469781 : True := trivial
theorem law_holds.tw2075624079617657780 : True := trivial
theorem law_holds.tw15472126771306010800 : True := trivial
theorem law_holds.tw11712238047454039950 : True := trivial
theorem law_holds.tw15032829636229128562 : True := trivial
theorem law_holds.tw13478230802861573701 : True := trivial
theorem law_holds.tw8514742172934523775 : True := trivial
theorem law_holds.tw326997939128634323 : True := trivial
theorem law_holds.tw14719725616965416121 : True := trivial
theorem law_holds.tw3585619396377516438 : True := trivial
theorem law_holds.tw69833769963255967 : True := trivial
theorem law_holds.tw4614512636035447770 : True := trivial
theorem law_holds.tw302768837105346163 : True := trivial
theorem law_holds.tw17249539165995611551 : True := trivial
theorem law_holds.tw15720521576913467304 : True := trivial
theorem law_holds.tw16060522237011120904 : True := trivial
theorem law_holds.tw10458381655096516384 : True := trivial
theorem law_holds.tw7910590604623066228 : True := trivial
theorem law_holds.tw2295933128562542503 : True := trivial
theorem law_holds.tw16898189318038581234 : True := trivial
theorem law_holds.tw7675160084493405025 : True := trivial
theorem law_holds.tw6803784606104104915 : True := trivial
theorem law_holds.tw8712014163911447464 : True := trivial
theorem law_holds.tw41732636909640268 : True := trivial
theorem law_holds.tw7604666192120794032 : True := trivial
theorem law_holds.tw17044581251229063488 : True := trivial
theorem law_holds.tw8099904116099004137 : True := trivial
theorem law_holds.tw13097044212144736960 : True := trivial
theorem law_holds.tw7748021459863145133 : True := trivial
theorem law_holds.tw14281342344845405768 : True := trivial
theorem law_holds.tw16066104587097768911 : True := trivial
theorem law_holds.tw1929443778124869092 : True := trivial
theorem law_holds.tw15325848393653090309 : True := trivial
theorem law_holds.tw3158129796062787159 : True := trivial
theorem law_holds.tw2303879751551577860 : True := trivial
theorem law_holds.tw1035469204868569938 : True := trivial
theorem law_holds.tw7014720503175028613 : True := trivial
theorem law_holds.tw5542243279508502960 : True := trivial
theorem law_holds.tw7495221243884187115 : True := trivial
theorem law_holds.tw3809755536050820187 : True := trivial
theorem law_holds.tw15140378357190847165 : True := trivial
theorem law_holds.tw4515466672771955728 : True := trivial
theorem law_holds.tw16190568399584723965 : True := trivial
theorem law_holds.tw699380112222796084 : True := trivial
theorem law_holds.tw9989359697036934923 : True := trivial
theorem law_holds.tw6377815916425241027 : True := trivial
theorem law_holds.tw5926295103528105954 : True := trivial
theorem law_holds.tw12320438053989627958 : True := trivial
theorem law_holds.tw11755603022844944925 : True := trivial
theorem law_holds.tw3253820488102484341 : True := trivial
theorem law_holds.tw4150838340823326808 : True := trivial
theorem law_holds.tw7954183362391743935 : True := trivial
theorem law_holds.tw10517181812226103804 : True := trivial
theorem law_holds.tw5914491427308094424 : True := trivial
theorem law_holds.tw8417186165934385351 : True := trivial
theorem law_holds.tw2665602086022161900 : True := trivial
theorem law_holds.tw3494445600050047599 : True := trivial
theorem law_holds.tw2589748818833699389 : True := trivial
theorem law_holds.tw17264387287909652857 : True := trivial
theorem law_holds.tw18340385619391811705 : True := trivial
theorem law_holds.tw6911747868599837429 : True := trivial
theorem law_holds.tw17744747089408723468 : True := trivial
theorem law_holds.tw1419239623039772522 : True := trivial
theorem law_holds.tw6693162373230288027 : True := trivial
theorem law_holds.tw12419048959643632839 : True := trivial
theorem law_holds.tw17758146289354676595 : True := trivial
theorem law_holds.tw3721179886434227535 : True := trivial
theorem law_holds.tw13882729330811710610 : True := trivial
theorem law_holds.tw6119071299663865417 : True := trivial
theorem law_holds.tw2124134355350193313 : True := trivial
theorem law_holds.tw17974257514489008736 : True := trivial
theorem law_holds.tw13012089966726956846 : True := trivial
theorem law_holds.tw12980350795982273224 : True := trivial
theorem law_holds.tw6346621912233149993 : True := trivial
theorem law_holds.tw4084692197679721580 : True := trivial
theorem law_holds.tw223059019891838383 : True := trivial
theorem law_holds.tw13087128984098923117 : True := trivial
theorem law_holds.tw13848119269249539950 : True := trivial
theorem law_holds.tw2782419253953178936 : True := trivial
theorem law_holds.tw15522444059895599089 : True := trivial
theorem law_holds.tw7052821283958023361 : True := trivial
theorem law_holds.tw5605356248273646047 : True := trivial
theorem law_holds.tw9897484093202304508 : True := trivial
theorem law_holds.tw2384872892506856444 : True := trivial
theorem law_holds.tw8922897050441119698 : True := trivial
theorem law_holds.tw14377833709258309704 : True := trivial
theorem law_holds.tw4575823598074768960 : True := trivial
theorem law_holds.tw13190703287169160282 : True := trivial
theorem law_holds.tw16098570224071239113 : True := trivial
theorem law_holds.tw6723812968561706957 : True := trivial
theorem law_holds.tw5858263632927829637 : True := trivial
theorem law_holds.tw123295346585929383 : True := trivial
theorem law_holds.tw3816018429785431304 : True := trivial
theorem law_holds.tw436970716684534385 : True := trivial
theorem law_holds.tw16978406815995349258 : True := trivial
theorem law_holds.tw462603977267732627 : True := trivial
theorem law_holds.tw11315637435222106236 : True := trivial
theorem law_holds.tw693293372831425869 : True := trivial
theorem law_holds.tw4114491029794296638 : True := trivial
theorem law_holds.tw17470365217354309832 : True := trivial
theorem law_holds.tw14957179600199517237 : True := trivial
theorem law_holds.tw7743764779111840046 : True := trivial
theorem law_holds.tw6709271908398517637 : True := trivial
theorem law_holds.tw10027879121665395642 : True := trivial
theorem law_holds.tw3551631022101015893 : True := trivial
theorem law_holds.tw16691439815215545270 : True := trivial
theorem law_holds.tw12687621791434340054 : True := trivial
theorem law_holds.tw3381667417286267614 : True := trivial
theorem law_holds.tw16381176275627223697 : True := trivial
theorem law_holds.tw12395405093167943222 : True := trivial
theorem law_holds.tw16563099163409725306 : True := trivial
theorem law_holds.tw11633083819707477107 : True := trivial
theorem law_holds.tw11167238688639235718 : True := trivial
theorem law_holds.tw12292296566931358977 : True := trivial
theorem law_holds.tw6368222172908013342 : True := trivial
theorem law_holds.tw6948224671027582040 : True := trivial
theorem law_holds.tw10870653069706475693 : True := trivial
theorem law_holds.tw11803358882649189518 : True := trivial
theorem law_holds.tw15198507701814350386 : True := trivial
theorem law_holds.tw1191432763711471526 : True := trivial
theorem law_holds.tw2643161274291862537 : True := trivial
theorem law_holds.tw2644310842459337959 : True := trivial
theorem law_holds.tw6592492639990696916 : True := trivial
theorem law_holds.tw2384963693675321470 : True := trivial
theorem law_holds.tw8283681822388582728 : True := trivial
theorem law_holds.tw11714151634956498000 : True := trivial
theorem law_holds.tw14918994710005357087 : True := trivial
theorem law_holds.tw5753924415299393750 : True := trivial
theorem law_holds.tw4124640904062056756 : True := trivial
theorem law_holds.tw10360522573172651426 : True := trivial
theorem law_holds.tw12503156628232749375 : True := trivial
theorem law_holds.tw1722738952054099684 : True := trivial
theorem law_holds.tw4741859662064258567 : True := trivial
theorem law_holds.tw1172607208729018732 : True := trivial
theorem law_holds.tw14925382992726071281 : True := trivial
theorem law_holds.tw8957123355933967898 : True := trivial
theorem law_holds.tw17529362906406652863 : True := trivial
theorem law_holds.tw15341342317828512493 : True := trivial
theorem law_holds.tw9758593294864014727 : True := trivial
theorem law_holds.tw2578278018795888234 : True := trivial
theorem law_holds.tw16457280410452015341 : True := trivial
theorem law_holds.tw7696488724909661519 : True := trivial
theorem law_holds.tw265737237460583615 : True := trivial
theorem law_holds.tw17089861810051081540 : True := trivial
set_option Elab.async true in
theorem law_holds : PySem.Challenge.rw_mr0362_01.Holds := by
  w_on
  o_law
  o_head (kHook fr.heap_1 frAs (fun _ => by kernel_rfl))
  (case hw => w_witness2)
  w_strict k_go0
  (with_reducible rename Fr _ _ _ _ => F0)
  (with_reducible rename News _ _ _ _ => N0)
  (with_reducible rename Below _ _ _ _ => B0)
  (with_reducible rename Top _ _ _ _ _ _ => T0)
  (with_reducible rename Frag.In _ _ => X0)
  (with_reducible rename IntsAre _ _ => hI)
  (with_reducible rename Heap.IsList _ _ _ => hL)
  (with_reducible rename ¬ _ < _ => hlen)
  dsimp only
  try k_fold
  (repeat' (first | (k_unfold; (try dsimp only)) | walk1 | (dsimp only; walk1) | (dsimp only; k_unfold; (try dsimp only))))
  unfold Stop
  (with_reducible rename Fr _ _ _ _ => kF)
  (with_reducible rename News _ _ _ _ => kN)
  refine lines_spec (ar_below kF B0 rfl rfl) X0 T0 (by decide) (by decide) (stays_list kF.keep hL) hI (by omega) ?_
  intro l c items h2 tk2 sub KS hnew hsl hlns
  obtain ⟨g3, KT3, F3, B3, N3⟩ := groundS (news' := (l, lstO items.toArray c) :: sub) B0 kF kN rfl KS (fun p hp => .inr (hnew p hp)) (fun p hp => .inl hp)
  clear kF kN KS
  have X3 := X0.keeps B3.stays
  have T3 := T0.keeps B3.stays
  (repeat' (first | (k_unfold; (try dsimp only)) | walk1 | (dsimp only; walk1) | (dsimp only; k_unfold; (try dsimp only))))
  unfold Stop
  (with_reducible rename Fr _ _ _ _ => kF)
  (with_reducible rename News _ _ _ _ => kN)
  refine kept_spec (ar_below kF B3 rfl rfl) X0 T0 (by decide) (by decide) (dicts_cons kF rfl (fun b h => nomatch h)) ⟨_, (kN _ (.head _)).1, rfl, _, rfl⟩ (lnh_of (fun p hp => (kN p (.tail _ hp)).1) hlns) (lines_ok (by rw [List.length_take]; omega)) (lines_len (by rw [List.length_take]; omega)) ?_
  intro h4 tk4 KS4
  obtain ⟨g5, KT5, F5, B5, N5⟩ := groundS (news' := []) B3 kF kN rfl KS4 (fun p hp => nomatch hp) (fun p hp => nomatch hp)
  clear kF kN KS4
  (repeat' (first | (k_unfold; (try dsimp only)) | walk1 | (dsimp only; walk1) | (dsimp only; k_unfold; (try dsimp only))))
  refine ⟨.inl ⟨_, .bool true, _, rfl, fun cls => ?raises, .bool _, ?post, ?unsh⟩, fun b o e => F5.keep b o (KT5.other b o (KT3.other b o e (fun h => nomatch h)) (fun h => nomatch h)), rfl, by assumption⟩
  case raises => rfl
  case post => first | kernel_rfl | with_unfolding_all rfl | (show (_ && _) = true; simp; done)
  case unsh => exact fun _ => ⟨List.nodup_nil, fun _ h => nomatch h⟩
end
end Mine
theorem PySem.Challenge.cw_mr0362_01_holds : PySem.Challenge.rw_mr0362_01.Holds :=
  Mine.law_holds
