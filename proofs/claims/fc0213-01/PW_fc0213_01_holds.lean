import PyProof.Rows.All
import Wide.All
import OpenK.AllK
import Wide.FinOn
import PySem.Challenge.RW_fc0213_01
open PySem PySem.W PyProof.Rows
set_option Elab.async false
set_option maxRecDepth 100000 in
set_option maxHeartbeats 8000000 in
open_top PySem.Challenge.hd for PySem.Challenge.rw_fc0213_01

section
open PySem PySem.W PyProof.Rows PySem.Calls
set_option maxRecDepth 100000
namespace Mine

/-- fill the kept fragment -/
theorem fill0 : ∀ (w : World) (h : Heap), (PySem.Challenge.hd.heap_39 w.params).In h → (PySem.Challenge.hd.heap_39 w.params).In h ∧ PySem.Challenge.rw_fc0213_01.foot = 3 := by
  k_fill
  exact fun _ _ x => ⟨x, rfl⟩

/-- apart (hidden from omega) -/
def NeF (a b : Nat) : Prop := a ≠ b
theorem NeF.ne {a b : Nat} (h : NeF a b) : a ≠ b := h
theorem NeF.symm {a b : Nat} (h : NeF a b) : NeF b a := Ne.symm h

def Kept (own own' : List (Addr × Obj)) (h h' : Heap) : Prop := ∀ b o, h.get? b = some o → b ∉ own.map (·.1) → h'.get? b = some o ∧ b ∉ own'.map (·.1)

theorem Kept.trans {a b c : List (Addr × Obj)} {h h' h'' : Heap} (x : Kept a b h h') (y : Kept b c h' h'') : Kept a c h h'' := fun d o e n =>
  let ⟨e', n'⟩ := x d o e n; y d o e' n'

section
variable {prog : Program} {w : World} {A A₀ : Around} {E : Value → Shared → Prop} {s : Shared} {K : Frag} {L : Addr} {h₀ base : Heap} {m mg mb : Str → Option Value} {own : List (Addr × Obj)} {p : Program} {loose : List Str} {mean : ExcName → Option Value}

/-- leaving, with the kept rest told -/
def LeaveS (h₀ : Heap) (L : Addr) (m : Str → Option Value) (g h : Heap) (own : List (Addr × Obj)) (R : Result → Shared → Prop) (v : Value) (s' : Shared) : Prop :=
  ∃ L' m' own', Fr g L' s'.heap m' ∧ News g L' s'.heap own' ∧ (Fr h₀ L s'.heap m → News h₀ L s'.heap own' → Kept own own' h s'.heap → R (.ok (.ret v)) s')
theorem leaveS_ {g h : Heap} {L' : Addr} {m' : Str → Option Value} {own' : List (Addr × Obj)} {R : Result → Shared → Prop} {v : Value} {s' : Shared} (F' : Fr g L' s'.heap m') (N' : News g L' s'.heap own')
    (k : Fr h₀ L s'.heap m → News h₀ L s'.heap own' → Kept own own' h s'.heap → R (.ok (.ret v)) s') : LeaveS h₀ L m g h own R v s' := ⟨L', m', own', F', N', k⟩

/-- enter a plain def: as code_def, and the callee's ground keeps all that is not the ledger's -/
theorem code_split {env : Env} {outer : List Env} {R : Result → Shared → Prop} {name qual : Str} {params : Arguments} {body : List Stmt} {scope : Scope} {dV kV doc pm cdv ct oc : Value} {an od : Option Addr} {osl : Array (Option Value)} {f : Addr} {args : Args} {binds : List (Str × Value)}
    (B : Below A₀ base outer h₀) (F : Fr h₀ L s.heap m) (X₀ : K.In h₀) (N : News h₀ L s.heap own) (T : Top p loose mean mg mb h₀) (hA : A.frames = some (env :: outer)) (hf : env.frame = some L) (hke : env.scope.kind = .function)
    (ho : K.lookup f = some ⟨oc, od, .func (fnOf name qual params body scope dV kV doc pm an cdv ct), osl⟩) (hcd : codeIn K cdv qual = true) (hroom : A.depth < recursionLimit)
    (hbind : BindsTo s (fnOf name qual params body scope dV kV doc pm an cdv ct) args binds) (hloc : ∀ y ∈ binds, scope.names.lookup y.1 = some .local)
    (h : ∀ g L' h₁, Fr h₀ L g m → Fr g L' h₁ (fun y => binds.reverse.lookup y) → News g L' h₁ own → Below A base (env :: outer) g → K.In g → Top p loose mean mg mb g → (∀ b o, s.heap.get? b = some o → b ∉ own.map (·.1) → g.get? b = some o) →
      wpAny (model prog w) (A.deeper (envOf qual scope L' f cdv)) (execs body (envOf qual scope L' f cdv))
        (fun fl s' => LeaveS h₀ L m g s.heap own R (match fl with | .ret v => v | _ => .none) s')
        (fun e s' => wpAny (model prog w) (A.deeper (envOf qual scope L' f cdv)) (leaving (envOf qual scope L' f cdv) e) (fun _ s'' => R (.error e) s'') (fun e' s'' => R (.error e') s'') s')
        { s with heap := h₁, toks := s.toks + binds.length })
    (hco : scope.isCoroutine = false) (hgen : scope.isGenerator = false) (hk : scope.kind = .function)
    (hcell : ∀ x ∈ scope.names, x.2 ≠ .cell) : codeAny (model prog w) A (.call (.ref f) args) R s := by
  obtain ⟨FG, BG, st, lv⟩ := groundX (R := R) B F N hA hf hke
  refine codeAny_call_def (fd := fnX name qual params body scope [] dV kV doc pm an cdv ct) (body := body) (binds := binds) hroom ((X₀.keeps F.keep) _ _ ho) rfl (T.nolimit.keeps F.keep) (codeRec_of (X₀.keeps F.keep) hcd) rfl hbind hcell hloc (fun h₁ hns hk₁ => ?_) hco hgen hk
  refine wpAny_mono (h _ s.heap.objs.size h₁ FG ⟨hns, fun b o e => hk₁ b o (of_hideAll _ e), Nat.le_of_eq (hideAll_size _ _)⟩
    (fun p hp => ⟨hk₁ _ _ (N p hp).1, Nat.ne_of_lt (Heap.lt_size (N p hp).1), hideAll_none _ (List.mem_map_of_mem hp)⟩) BG (X₀.keeps st) (T.keeps st) fun b o e n => hideAll_get (own.map (·.1)) e n) (fun fl s' hl => ?_) fun _ _ y => y
  obtain ⟨L', m', own', F', N', k⟩ := hl
  refine lv _ _ ⟨L', m', own', F', N', fun F N => k F N fun b o e n => ?_⟩
  have hg := hideAll_get (own.map (·.1)) e n
  refine ⟨F'.keep b o hg, fun hb => ?_⟩
  obtain ⟨p, hp, rfl⟩ := List.mem_map.mp hb
  have := (N' p hp).2.2
  rw [hg] at this; cases this

/-- frame: what lies beside stays -/
theorem news_frame {h h' : Heap} {own own' rest : List (Addr × Obj)} (N : News h₀ L h rest) (hs : ∀ p ∈ rest, p.1 ∉ own.map (·.1)) (k : Kept own own' h h') (N' : News h₀ L h' own') : News h₀ L h' (own' ++ rest) := fun p hp => by
  rcases List.mem_append.mp hp with hp | hp
  · exact N' p hp
  · exact ⟨(k _ _ (N p hp).1 (hs p hp)).1, (N p hp).2⟩
end

abbrev linkO (da p n : Addr) (k : Str) (t : Tok) : Obj := { cls := .ref 26, dict := some da, slots := #[some (.str k t), some (.ref n), some (.ref p)] }
abbrev rootO (dr p n : Addr) : Obj := { cls := .ref 26, dict := some dr, slots := #[none, some (.ref n), some (.ref p)] }
abbrev osDict (w : World) (t1 t2 : Tok) (r mm : Addr) : Obj := dictOf [⟨PyData.keyHash w.params (Str.ofString "_OrderedSet__root"), .str (Str.ofString "_OrderedSet__root") t1, .ref r⟩, ⟨PyData.keyHash w.params (Str.ofString "_OrderedSet__map"), .str (Str.ofString "_OrderedSet__map") t2, .ref mm⟩] 2

theorem News.sub {h₀ h : Heap} {L : Addr} {a b : List (Addr × Obj)} (N : News h₀ L h a) (hs : ∀ p ∈ b, p ∈ a) : News h₀ L h b := fun p hp => N p (hs p hp)
theorem Kept.sub {h h' : Heap} {a b c : List (Addr × Obj)} (N : Kept a b h h') (hs : ∀ p ∈ c, p ∈ b) : Kept a c h h' := fun d o e n =>
  let ⟨e', n'⟩ := N d o e n; ⟨e', fun hq => by obtain ⟨p, hp, rfl⟩ := List.mem_map.mp hq; exact n' (List.mem_map_of_mem (hs p hp))⟩
end Mine
end

section
open PySem PySem.W PyProof.Rows PySem.Calls
open PySem.Sem (wp)
set_option maxRecDepth 100000
namespace Mine

def gProto (C : Addr) (fp : List Addr) (n₀ : Nat) (F : Nat → Value → Prop) : Protocol := fun m s₀ v s kap =>
  F (n₀ - 1 - m) v ∧ GenSince C [] s₀ s ∧ ∀ s'' : Shared, (∀ b ∈ C :: fp, ∀ o, s.heap.get? b = some o → s''.heap.get? b = some o) → kap (.send .none) s''
def gEnd (C : Addr) : GenEnd := fun n s₀ r s₁ => r = .ok (.ret .none) ∧ (n = 0 ∧ GenSince C [] s₀ s₁)

section
variable {prog : Program} {w : World} {A : Around} {E : Value → Shared → Prop} {s : Shared}

/-- next(gen) as the special method, the generator left bare -/
theorem callNext_genQ {a : Addr} {g n : Nat} {gs : GenState} {C : Addr} {fp : List Addr} {n₀ : Nat} {F : Nat → Value → Prop} {Q : Option Value → Shared → Prop}
    (hl : s.heap.NoLimit) (hroom : A.depth < recursionLimit)
    (hg : s.heap.IsGen a g) (hgs : s.gens[g]? = some gs) 
    (hgo : gs.Goes (model prog w) A.in1 (gEnd C) (gProto C fp n₀ F) (n + 1) (.send .none) (s.setGen g .running))
    (hY : ∀ v s₁ gs', gs'.bare = true → gProto C fp n₀ F n (s.setGen g .running) v s₁ (fun r' s'' => gs'.Goes (model prog w) A.in1 (gEnd C) (gProto C fp n₀ F) n r' s'') → Q (some v) (s₁.setGen g gs')) :
    wpAny (model prog w) A (callSpecial? (.ref a) (Str.ofString "__next__")) Q E s := by
  refine wpAny_callSpecial?_slot (name := Str.ofString "__next__") hg.typeIs slot_gen_next
    (wpAny_call_entry slot_gen_next hg.typeIs entry_gen_next ?_ (args_gen_next _))
  show wpAny _ A.in1 (Builtin.Generator.genWake (.ref a) (.send .none)) _ _ s
  unfold Builtin.Generator.genWake
  refine wpAny_bind (wpAny_holding (wpAny_genNumber hg (wpAny_bind (wpAny_genState hgs ?_))))
  cases gs with
  | running => exact hgo.elim
  | finished => exact hgo.elim
  | _ =>
    refine wpAny_bind (wpAny_roomToWake hl hroom ?_)
    show wpAny _ A.in1 (.resume g (.send .none) [] _) _ _ s
    refine wpAny_resumeQ hgs hgo (fun x s₁ hx => ?_) (fun v s₁ gs' hb hv => ?_)
    · exact absurd hx.2.1 (Nat.succ_ne_zero n)
    · exact wpAny_pure ⟨v, rfl, hY v s₁ gs' hb hv⟩

theorem pyNext_genQ {a : Addr} {g n : Nat} {gs : GenState} {P : Nat → Shared → Shared → Prop} {Y : Protocol} {Q : Option Value → Shared → Prop} (hh : A.handled = none)
    (hl : s.heap.NoLimit) (hroom : A.depth < recursionLimit)
    (hg : s.heap.IsGen a g) (hgs : s.gens[g]? = some gs)
    (hgo : gs.Goes (model prog w) A.in1 (fun n s₀ r s₁ => r = .ok (.ret .none) ∧ P n s₀ s₁) Y n (.send .none) (s.setGen g .running))
    (hY : ∀ v s₁ gs', gs'.bare = true → Y (n - 1) (s.setGen g .running) v s₁ (fun r' s'' => match n with
        | 0 => False
        | m + 1 => gs'.Goes (model prog w) A.in1 (fun n s₀ r s₁ => r = .ok (.ret .none) ∧ P n s₀ s₁) Y m r' s'') → Q (some v) (s₁.setGen g gs'))
    (hP : ∀ s₁, P n (s.setGen g .running) s₁ → ∀ h', (∀ b o, s₁.heap.get? b = some o → h'.get? b = some o) → Q none { s₁.setGen g .finished with heap := h' }) :
    wpAny (model prog w) A (pyNext (.ref a)) Q E s := by
  unfold pyNext
  refine wpAny_bind (wpAny_attempt (wpAny_callSpecial?_slot (name := Str.ofString "__next__") hg.typeIs slot_gen_next
    (wpAny_call_entry slot_gen_next hg.typeIs entry_gen_next ?_ (args_gen_next _))))
  show wpAny _ A.in1 (Builtin.Generator.genWake (.ref a) (.send .none)) _ _ s
  unfold Builtin.Generator.genWake
  refine wpAny_bind (wpAny_holding (wpAny_genNumber hg (wpAny_bind (wpAny_genState hgs ?_))))
  cases gs with
  | running => exact hgo.elim
  | finished => exact hgo.elim
  | _ =>
    refine wpAny_bind (wpAny_roomToWake hl hroom ?_)
    show wpAny _ A.in1 (.resume g (.send .none) [] _) _ _ s
    refine wpAny_resumeQ hgs hgo (fun x s₁ hx => ?_) (fun v s₁ gs' hb hv => ?_)
    · obtain ⟨rfl, hp⟩ := hx
      show wpAny _ A.in1 (newExc (.type "StopIteration") [] >>= _) _ _ _
      refine wpAny_bind ?_
      simp only [newExc, newTuple]
      refine wpAny_bind (wpAny_newObj_type ?_ (by size_fits))
      refine wpAny_bind (m := firstArgMember _ _) (wpAny_of_eq (a := Value.none) (by first | rfl | (simp only [firstArgMember]; rfl)) ?_)
      refine wpAny_newObj_type ?_ (by size_fits)
      simp only [raiseNew]
      refine wpAny_bind (wpAny_bind (wpAny_handled ?_))
      first | rw [show A.in1.handled = none from hh] | rw [hh]
      refine wpAny_throw ?_
      refine wpAny_bind (wpAny_isInstance (T := "StopIteration") (b := true) ⟨_, Heap.get?_push_size _ rfl, rfl⟩ isSubtype_stop ?_)
      exact wpAny_pure (hP s₁ hp _ fun b o hb => Heap.get?_push_of_some _ (Heap.get?_push_of_some _ hb))
    · exact wpAny_pure ⟨v, rfl, wpAny_pure (hY v s₁ gs' hb hv)⟩

/-- the generator stands before its item j -/
def GenFn (prog : Program) (w : World) (A : Around) (a : Addr) (g : Nat) (C : Addr) (fp : List Addr) (n₀ : Nat) (F : Nat → Value → Prop) (j : Nat) (s : Shared) : Prop :=
  s.heap.IsGen a g ∧ s.heap.NoLimit ∧ ∃ gs, s.gens[g]? = some gs ∧ ∀ s'' : Shared, (∀ b ∈ C :: fp, ∀ o, s.heap.get? b = some o → s''.heap.get? b = some o) →
    gs.Goes (model prog w) A.in1 (gEnd C) (gProto C fp n₀ F) (n₀ - j) (.send .none) s''

theorem walks_genfn (hh : A.handled = none) (a : Addr) (g : Nat) (C : Addr) (fp : List Addr) (n₀ : Nat) (F : Nat → Value → Prop) (haC : a ≠ C)
    (hroom : A.depth < recursionLimit) (hcs : cStatics ∈ fp) (hcC : cStatics ≠ C) :
    WalksS prog w A a (a :: C :: fp) [C] (GenOnlyQ g) n₀ F (GenFn prog w A a g C fp n₀ F) where
  sub := fun b hb => by
    rcases List.mem_cons.mp hb with rfl | hb
    · simp
    · cases hb
  grefl := fun _ => .inl rfl
  gtrans := fun _ _ _ x y => x.trans y
  frame := fun j s h' tk st _ hk =>
    ⟨let ⟨o, nm, qn, ho, r⟩ := st.1; ⟨o, nm, qn, hk a (List.mem_cons_self ..) o ho, r⟩,
     (let ⟨mc, hns, hnn⟩ := st.2.1; ⟨mc, hns.at' fun o e => hk cStatics (List.mem_cons_of_mem _ (List.mem_cons_of_mem _ hcs)) o e, hnn⟩),
     let ⟨gs, hgs, hgo⟩ := st.2.2; ⟨gs, hgs, fun s'' hal => hgo s'' fun b hb o e => hal b hb o (hk b (List.mem_cons_of_mem _ hb) o e)⟩⟩
  item := fun j s Q E hj st hQ => by
    obtain ⟨hg, hl, gs, hgs, hgo⟩ := st
    obtain ⟨m, hm⟩ : ∃ m, n₀ - j = m + 1 := ⟨n₀ - j - 1, by omega⟩
    rw [hm] at hgo
    refine wpAny_with_toks (Nat.le_refl s.toks) ?_
    refine pyNext_genQ (P := fun n s₀ s₁ => n = 0 ∧ GenSince C [] s₀ s₁) hh hl hroom hg hgs (hgo _ fun _ _ _ e => e) (fun v s₁ gs' hb hv => ?_) (fun s₁ hp h' hk => ?_)
    · obtain ⟨hF, ⟨h₁, tk₁, rfl, hk₁⟩, hkap⟩ := hv
      have hidx : n₀ - 1 - (m + 1 - 1) = j := by omega
      rw [hidx] at hF
      intro htk
      refine hQ v _ hF ⟨let ⟨o, nm, qn, ho, r⟩ := hg; ⟨o, nm, qn, hk₁ a o haC (by simp) ho, r⟩, (let ⟨mc, hns, hnn⟩ := hl; ⟨mc, hns.at' fun o e => hk₁ cStatics o hcC (by simp) e, hnn⟩), gs', setGen_self (gs := .running) (setGen_self hgs), fun s'' hal => ?_⟩
        ⟨fun b o hb e => hk₁ b o (fun h => hb (h ▸ List.mem_cons_self ..)) (by simp) e, GenOnlyQ.of ((GenOnly.setGen s g .running).trans (GenOnly.setGen _ g gs')) (setGen_self (gs := .running) (setGen_self hgs)) hb, rfl, rfl, htk⟩
      have e : n₀ - (j + 1) = m := by omega
      rw [e]
      exact hkap s'' hal
    · exact absurd hp.1 (Nat.succ_ne_zero m)
  done := fun s Q E st hQ => by
    obtain ⟨hg, hl, gs, hgs, hgo⟩ := st
    rw [Nat.sub_self] at hgo
    refine wpAny_with_toks (Nat.le_refl s.toks) ?_
    refine pyNext_genQ (P := fun n s₀ s₁ => n = 0 ∧ GenSince C [] s₀ s₁) hh hl hroom hg hgs (hgo _ fun _ _ _ e => e) (fun v s₁ gs' hb hv => ?_) (fun s₁ hp h' hk => ?_)
    · obtain ⟨_, _, hkap⟩ := hv
      exact False.elim (hkap s₁ fun _ _ _ e => e)
    · obtain ⟨_, h₁, tk₁, rfl, hk₁⟩ := hp
      intro htk
      exact hQ _ ⟨fun b o hb e => hk b o (hk₁ b o (fun h => hb (h ▸ List.mem_cons_self ..)) (by simp) e), GenOnlyQ.of ((GenOnly.setGen s g .running).trans (GenOnly.setGen _ g .finished)) (setGen_self (gs := .running) (setGen_self hgs)) rfl, rfl, rfl, htk⟩
  self := fun _ _ _ _ st hQ => wpAny_pyIter_gen st.1 hQ

/-- a while that yields once a turn -/
theorem seg_turns {env : Env} {test e : Expr} {st : Stmt} {yp ep : Pos} {C : Addr} {fp : List Addr} {n₀ : Nat} {F : Nat → Value → Prop} {fs : List Frame} {St : Nat → Heap → Prop}
    (hfs : splitAtGen fs = none) (hfg : fs.any Frame.guarded = false)
    (hco : env.scope.isCoroutine = false) (hi : interactive env = false)
    (frame : ∀ n h h', St n h → (∀ b ∈ C :: fp, ∀ o, h.get? b = some o → h'.get? b = some o) → St n h')
    (hat : ∀ (A' : Around) (n : Nat) (s : Shared) (Q : Bool → Shared → Prop) (E : Value → Shared → Prop), A'.handled = none → n ≤ n₀ → St n s.heap → (∀ tk, Q (decide (n ≠ 0)) { s with toks := tk }) → wpAny (model prog w) A' (isTrue test env (eval test env)) Q E s)
    (hkey : ∀ (A' : Around) (n : Nat) (s : Shared) (Q : Value → Shared → Prop) (E : Value → Shared → Prop), A'.handled = none → n + 1 ≤ n₀ → St (n + 1) s.heap → (∀ v tk, F (n₀ - 1 - n) v → Q v { s with toks := tk }) → wpAny (model prog w) A' (eval e env) Q E s)
    (hnext : ∀ (A' : Around) (n : Nat) (s : Shared) (Q : Flow → Shared → Prop) (E : Value → Shared → Prop), A'.handled = none → n + 1 ≤ n₀ → St (n + 1) s.heap →
      (∀ h' tk, St n h' → (∀ b o, b ≠ C → s.heap.get? b = some o → h'.get? b = some o) → Q .next { s with heap := h', toks := tk }) → wpAny (model prog w) A' (exec st env) Q E s)
    (hA : ∀ c, (A.over c fs).handled = none)
    (fin : ∀ s₀ s, GenSince C [] s₀ s → Seg (model prog w) A (gEnd C) (gProto C fp n₀ F) 0 s₀ (.whileLoop test [.Expr (.Yield (some e) yp) ep, st] [] env) (.pure (.done .next)) fs s) :
    ∀ (n : Nat) (s₀ s : Shared), n ≤ n₀ → St n s.heap → GenSince C [] s₀ s →
      Seg (model prog w) A (gEnd C) (gProto C fp n₀ F) n s₀ (.whileLoop test [.Expr (.Yield (some e) yp) ep, st] [] env) ((model prog w).den (.whileLoop test [.Expr (.Yield (some e) yp) ep, st] [] env)) fs s := by
  intro n
  induction n with
  | zero =>
    intro s₀ s hn hst hs
    refine seg_whileLoop (hat _ 0 s _ _ (hA _) hn hst fun tk => ?_)
    rw [if_neg (by simp)]
    refine seg_execs_nil (fin s₀ _ ?_)
    have := hs.step (h' := s.heap) (tk := tk) fun b o _ _ e => e
    exact this
  | succ n ih =>
    intro s₀ s hn hst hs
    refine seg_whileLoop (hat _ (n + 1) s _ _ (hA _) hn hst fun tk => ?_)
    rw [if_pos (by simp)]
    refine seg_execs_cons (seg_Expr_Yield hfs rfl hfg ?_ hco hi)
    refine hkey _ n _ _ _ (hA _) hn hst fun v tk' hF => ?_
    intro kap hkap
    refine ⟨hF, ?_, fun s'' hal => hkap .none s'' ?_⟩
    · exact hs.step (h' := s.heap) (tk := tk') fun b o _ _ e => e
    · show Seg _ _ _ _ _ _ _ _ _ _
      have hst'' : St (n + 1) s''.heap := frame _ _ _ hst hal
      refine seg_execs_cons (seg_wrap (hnext _ n s'' _ _ (hA _) hn hst'' fun h' tk₂ hst₂ hk₂ => ?_))
      refine seg_execs_nil (seg_again rfl (ih s'' _ (Nat.le_of_succ_le hn) hst₂ ?_))
      exact (GenSince.refl C [] s'').step (h' := h') (tk := tk₂) fun b o hb _ e => hk₂ b o hb e
end
end Mine
end

section
open PySem PySem.W PyProof.Rows PySem.Calls
set_option maxRecDepth 100000
namespace Mine
structure Node where
  a : Nat
  d : Nat
  k : Str
  t : Nat
structure OS where
  x : Nat
  dx : Nat
  t1 : Nat
  t2 : Nat
  r : Nat
  dr : Nat
  mm : Nat
  om : Obj
def firstA : List Node → Nat → Nat
  | [], e => e
  | n :: _, _ => n.a
def lastA : List Node → Nat → Nat
  | [], p => p
  | n :: r, _ => lastA r n.a
def links (p : Nat) : List Node → Nat → List (Addr × Obj)
  | [], _ => []
  | n :: r, e => (n.a, linkO n.d p (firstA r e) n.k n.t) :: (n.d, dictOf [] 0) :: links n.a r e
def osL (w : World) (o : OS) (ns : List Node) : List (Addr × Obj) :=
  (o.x, instObj 121 o.dx) :: (o.dx, osDict w o.t1 o.t2 o.r o.mm) :: (o.mm, o.om) :: (o.r, rootO o.dr (lastA ns o.r) (firstA ns o.r)) :: (o.dr, dictOf [] 0) :: links o.r ns o.r
def kvsOf (ns : List Node) : List (Str × Value) := ns.map fun n => (n.k, Value.ref n.a)
def nodeAs : List Node → List Nat
  | [] => []
  | n :: r => n.a :: n.d :: nodeAs r
def osAs (o : OS) (ns : List Node) : List Nat := o.x :: o.dx :: o.mm :: o.r :: o.dr :: nodeAs ns
structure OSok (w : World) (o : OS) (ns : List Node) : Prop where
  dict : o.om.IsDictOf (strKind PySem.Challenge.rw_fc0213_01.row.prog w) (kvsOf ns)
  lo : (o.mm == sysModules) = false
  nodup : (osAs o ns).Nodup
  small : ns.length ≤ 100

theorem links_as : ∀ (ns : List Node) (p e : Nat), (links p ns e).map (·.1) = nodeAs ns
  | [], _, _ => rfl
  | n :: r, p, e => by simp only [links, List.map_cons, nodeAs, links_as r]
theorem osL_as (w : World) (o : OS) (ns : List Node) : (osL w o ns).map (·.1) = osAs o ns := by
  simp only [osL, List.map_cons, links_as, osAs]
theorem lastA_append : ∀ (xs ys : List Node) (p : Nat), lastA (xs ++ ys) p = lastA ys (lastA xs p)
  | [], _, _ => rfl
  | n :: r, ys, p => by simp only [List.cons_append, lastA, lastA_append r]
theorem firstA_append : ∀ (xs ys : List Node) (e : Nat), firstA (xs ++ ys) e = firstA xs (firstA ys e)
  | [], _, _ => rfl
  | _ :: _, _, _ => rfl
theorem links_append : ∀ (xs ys : List Node) (p e : Nat), links p (xs ++ ys) e = links p xs (firstA ys e) ++ links (lastA xs p) ys e
  | [], _, _, _ => rfl
  | n :: r, ys, p, e => by simp only [List.cons_append, links, lastA, links_append r, firstA_append]
theorem nodeAs_append : ∀ (xs ys : List Node), nodeAs (xs ++ ys) = nodeAs xs ++ nodeAs ys
  | [], _ => rfl
  | n :: r, ys => by simp only [List.cons_append, nodeAs, nodeAs_append r]
theorem links_at : ∀ (xs : List Node) (u : Node) (us : List Node) (p e : Nat), (u.a, linkO u.d (lastA xs p) (firstA us e) u.k u.t) ∈ links p (xs ++ u :: us) e ∧ (u.d, dictOf [] 0) ∈ links p (xs ++ u :: us) e := by
  intro xs u us p e
  rw [links_append]
  exact ⟨List.mem_append_right _ (List.mem_cons_self ..), List.mem_append_right _ (List.mem_cons_of_mem _ (List.mem_cons_self ..))⟩
theorem mem_nodeAs {n : Node} : ∀ {ns : List Node}, n ∈ ns → n.a ∈ nodeAs ns
  | _ :: _, .head _ => List.mem_cons_self ..
  | _ :: _, .tail _ h => List.mem_cons_of_mem _ (List.mem_cons_of_mem _ (mem_nodeAs h))
/-- a node is not the root -/
theorem OSok.ne_root {w : World} {o : OS} {ns : List Node} (ok : OSok w o ns) {n : Node} (h : n ∈ ns) : n.a ≠ o.r := by
  have := ok.nodup
  simp only [osAs, List.nodup_cons, List.mem_cons, not_or] at this
  have h1 := mem_nodeAs h
  have h2 := this.2.2.2.1
  intro e
  exact h2.2 (e ▸ h1)
end Mine
end

section
open PySem PySem.W PyProof.Rows PySem.Calls
set_option maxRecDepth 100000
namespace Mine
theorem refill2 : ∀ (w : World) (h : Heap), (PySem.Challenge.hd.heap_39 w.params).In h → (PySem.Challenge.hd.heap_39 w.params).In h ∧ PySem.Challenge.rw_fc0213_01.foot = 3 := by
  k_fill
  exact fun _ _ x => ⟨x, rfl⟩

section
variable {prog : Program} {w : World} {A : Around} {s : Shared} {K : Frag} {L : Addr} {h₀ : Heap} {m : Str → Option Value} {own : List (Addr × Obj)}
theorem gen_split {R : Result → Shared → Prop} {name qual : Str} {params : Arguments} {body : List Stmt} {scope : Scope} {dV kV doc pm cdv ct oc : Value} {an od : Option Addr} {osl : Array (Option Value)} {f : Addr} {args : Args} {binds : List (Str × Value)}
    (F : Fr h₀ L s.heap m) (X₀ : K.In h₀) (N : News h₀ L s.heap own) (hlim : h₀.NoLimit)
    (ho : K.lookup f = some ⟨oc, od, .func (fnOf name qual params body scope dV kV doc pm an cdv ct), osl⟩) (hcd : codeIn K cdv qual = true) (hroom : A.depth < recursionLimit)
    (hbind : BindsTo s (fnOf name qual params body scope dV kV doc pm an cdv ct) args binds) (hloc : ∀ y ∈ binds, scope.names.lookup y.1 = some .local)
    (h : ∀ g h' tk, Fr h₀ L h' m → News h₀ L h' own → (∀ b o, s.heap.get? b = some o → h'.get? b = some o) → Fr g s.heap.objs.size h' (fun y => binds.reverse.lookup y) → News g s.heap.objs.size h' own → K.In g →
      h'.IsGen (s.heap.objs.size + 1) s.gens.size → h'.NoLimit → (∀ b o, s.heap.get? b = some o → b ∉ own.map (·.1) → g.get? b = some o) → (∀ b o, g.get? b = some o → s.heap.get? b = some o) →
      R (.ok (.ret (.ref (s.heap.objs.size + 1)))) { s with heap := h', gens := s.gens.push (.fresh (.func body (envOf qual scope s.heap.objs.size f cdv))), toks := tk })
    (hco : scope.isCoroutine = false) (hgen : scope.isGenerator = true) (hk : scope.kind = .function)
    (hcell : ∀ x ∈ scope.names, x.2 ≠ .cell) : codeAny (model prog w) A (.call (.ref f) args) R s := by
  refine codeAny_call_generator hroom ((X₀.keeps F.keep) _ _ ho) rfl hco hgen rfl (codeRec_of (X₀.keeps F.keep) hcd) (hbind _ _ _ _ ?_)
  refine wpAny_newFunctionEnv hcell hloc (fun h₁ hns hsb => ?_) hk
  have lim₁ : h₁.NoLimit := (hlim.keeps F.keep).fresh _ hsb
  have hk₁ : ∀ b o, s.heap.get? b = some o → h₁.get? b = some o := fun b o e => hsb.extBut b o (Nat.ne_of_lt (Heap.lt_size e)) (Heap.get?_push_of_some _ e)
  have hsz : h₁.objs.size = s.heap.objs.size + 1 := by rw [hsb.1, Heap.size_push]
  refine ⟨lim₁, ?_⟩
  have st : h₀.StaysIn (hideAll s.heap (own.map (·.1))) := fun b o e => hideAll_get _ (F.keep b o e) fun q => by
    obtain ⟨p, hp, rfl⟩ := List.mem_map.mp q
    rw [(N p hp).2.2] at e; cases e
  have up : ∀ (o : Obj), ∀ b ob, s.heap.get? b = some ob → (h₁.push o).get? b = some ob := fun o b ob e => Heap.get?_push_of_some o (hk₁ b ob e)
  obtain ⟨oL, es, ep, hL, r⟩ := F.ns
  have key := h (hideAll s.heap (own.map (·.1))) (h₁.push { cls := .type "generator", data := .fields #[.int s.gens.size 0, .str name (s.toks + binds.length), .str qual (s.toks + binds.length + 1)] }) (s.toks + binds.length + 1 + 1)
    ⟨⟨oL, es, ep, up _ _ _ hL, r⟩, fun b o e => up _ b o (F.keep b o e), F.above⟩ (fun p hp => ⟨up _ _ _ (N p hp).1, (N p hp).2⟩) (up _)
    ⟨hns.push _, fun b o e => up _ b o (of_hideAll _ e), Nat.le_of_eq (hideAll_size _ _)⟩
    (fun p hp => ⟨up _ _ _ (N p hp).1, Nat.ne_of_lt (Heap.lt_size (N p hp).1), hideAll_none _ (List.mem_map_of_mem hp)⟩) (X₀.keeps st)
    ⟨_, _, _, (by rw [← hsz]; exact Heap.get?_push_size _ rfl), rfl, rfl, rfl⟩ (lim₁.keeps fun b o e => Heap.get?_push_of_some _ e)
    (fun b o e n => hideAll_get (own.map (·.1)) e n) (fun b o e => of_hideAll _ e)
  rw [← hsz] at key
  exact key
end
end Mine
end

section
open PySem PySem.W PyProof.Rows PySem.Calls
set_option maxRecDepth 100000
namespace Mine
local macro_rules | `(tactic| walk_at "mine pad 0") => `(tactic| fail)
local macro_rules | `(tactic| walk_at "mine pad 1") => `(tactic| fail)
local macro_rules | `(tactic| walk_at "mine pad 2") => `(tactic| fail)
local macro_rules | `(tactic| walk_at "mine pad 3") => `(tactic| fail)
local macro_rules | `(tactic| walk_at "mine pad 4") => `(tactic| fail)
local macro_rules | `(tactic| walk_at "mine pad 5") => `(tactic| fail)
local macro_rules | `(tactic| walk_at "mine pad 6") => `(tactic| fail)
local macro_rules | `(tactic| walk_at "mine pad 7") => `(tactic| fail)
local macro_rules | `(tactic| walk_at "mine pad 8") => `(tactic| fail)
local macro_rules | `(tactic| walk_at "mine pad 9") => `(tactic| fail)
local macro_rules | `(tactic| walk_at "mine pad 10") => `(tactic| fail)
local macro_rules | `(tactic| walk_at "mine pad 11") => `(tactic| fail)
theorem refill1 : ∀ (w : World) (h : Heap), (PySem.Challenge.hd.heap_39 w.params).In h → (PySem.Challenge.hd.heap_39 w.params).In h ∧ PySem.Challenge.rw_fc0213_01.foot = 3 := by
  k_fill
  exact fun _ _ x => ⟨x, rfl⟩
section
variable {prog : Program} {w : World} {A : Around} {E : Value → Shared → Prop} {s : Shared} {L d : Addr} {h₀ : Heap} {m : Str → Option Value} {news : List (Addr × Obj)} {g : Obj → List (Addr × Obj)} {o : Obj} {kvs : List (Str × Value)} {k : Str} {t : Tok} {v : Value}
theorem mp_notin {Q : Value → Shared → Prop} (N : News h₀ L s.heap news) (hm : (d, o) ∈ news) (hd : o.IsDictOf (strKind prog w) kvs) (lo : (d == sysModules) = false) (hv : valueAt kvs k = none)
    (h : Q (.bool true) { s with toks := s.toks + 1 }) : wpAny (model prog w) A (compareOp .NotIn (.str k t) (.ref d)) Q E s :=
  wpAny_notIn_of (strKind_is prog w k t) lo (Heap.DictOf.mapOf (Heap.dictOf_iff.mpr ⟨o, (N _ hm).1, hd⟩)) (by rw [hv]; exact h)
theorem mp_in {Q : Value → Shared → Prop} (N : News h₀ L s.heap news) (hm : (d, o) ∈ news) (hd : o.IsDictOf (strKind prog w) kvs) (lo : (d == sysModules) = false) (hv : valueAt kvs k = some v)
    (h : Q (.bool true) { s with toks := s.toks + 1 }) : wpAny (model prog w) A (compareOp .In (.str k t) (.ref d)) Q E s :=
  wpAny_in_of (strKind_is prog w k t) lo (Heap.DictOf.mapOf (Heap.dictOf_iff.mpr ⟨o, (N _ hm).1, hd⟩)) (by rw [hv]; exact h)
theorem mp_set {Q : Unit → Shared → Prop} (F : Fr h₀ L s.heap m) (N : News h₀ L s.heap news) (U : UpdF d o news g) (hd : o.IsDictOf (strKind prog w) kvs) (hz : kvs.length ≤ 1000)
    (h : ∀ h' o', Fr h₀ L h' m → News h₀ L h' (g o') → o'.IsDictOf (strKind prog w) (stored kvs k v) → Q () { s with heap := h', toks := s.toks + 1 }) : wpAny (model prog w) A (setItem (.ref d) (.str k t) v) Q E s := by
  obtain ⟨own, rest, rfl, hg, h1, h2⟩ := U.split
  have hm := N (d, o) (List.mem_append_right _ (.head _))
  refine wpAny_setItem_pairs (hsz := by rw [sizeLine_eq]; omega) (strKind_is prog w k t) (Heap.dictOf_iff.mpr ⟨o, hm.1, hd⟩) fun h' hmm hs => ?_
  obtain ⟨o', ho', hd'⟩ := Heap.dictOf_iff.mp hmm
  exact h h' o' (F.change hs hm.2.1 hm.2.2) (hg o' ▸ N.setIn h1 h2 hs ho') hd'
end
local macro_rules | `(tactic| k_ne) => `(tactic| (refine neN ?_; (try dsimp only); first | (refine NeF.ne ?_; with_reducible assumption) | (refine NeF.ne (NeF.symm ?_); with_reducible assumption) | omega))
local macro_rules | `(tactic| walk_at "compareOp NotIn str ref") => `(tactic| (k_here; (refine' mp_notin ?N ?hm ?hd ?lo ?hv ?_; (case N => k_asm); (case hm => k_mem); (case hd => k_asm); (case lo => k_asm); (case hv => k_asm))))
local macro_rules | `(tactic| walk_at "setItem ref str") => `(tactic| (k_here; (refine' mp_set ?F ?N ?U ?hd ?hz ?_; (case F => k_asm); (case N => k_asm); (case U => k_updF); (case hd => k_asm); (case hz => k_asm); k_whole; intro h' o' F' N' d'; (try dsimp only at N'); (try k_sweep))))
local macro_rules | `(tactic| k_room) => `(tactic| ((try simp only [depth_under_make, depth_under_kw, depth_in1, depth_deeper, depth_caller]); (try dsimp only [ktrTop]); omega))
local macro_rules | `(tactic| walk_at "LeaveS") => `(tactic| (k_dflt (refine' leaveS_ ?F ?N ?_; (case F => k_asm); (case N => k_asm); k_whole); intro kF kN kK; (try dsimp only)))
local macro_rules | `(tactic| k_enter) => `(tactic| (refine' code_split ?k1 ?k2 ?k3 ?k4 ?k5 ?kA ?kF ?kK ?k6 ?k7 ?k8 ?k9 ?kB ?_ ?c2 ?c3 ?c4 ?c5; (case kA => exact rfl); (case kF => exact rfl); (case kK => assumption); (case k1 => k_asm); (case k2 => k_asm); (case k3 => k_asm); (case k4 => k_asm); (case k5 => k_asm); (case k6 => k_is); (case k7 => k_is); (case k8 => k_room); (case k9 => first | exact BindsTo.of_eq rfl | exact binds_K (by k_in) rfl (by k_is) rfl rfl rfl); (case c5 => decide); (case kB => exact locs rfl); (case c2 => exact rfl); (case c3 => exact rfl); (case c4 => exact rfl); k_whole; intro g' L' h' FG' F' N' B' X' T' hG; (try dsimp only); (try k_fold)))
set_option maxHeartbeats 8000000 in
theorem add_ne {w : World} {loose : List Str} {mean : ExcName → Option Value} {mg mb : Str → Option Value} {dp un : Nat} {gd : Option (List Code)} {cn : Str} {cs : Scope} {L a : Addr} {ccd : Value} {cl : List (Str × Addr)} {outer : List Env} {A₀ : Around} {base h₀ : Heap}
    {m : Str → Option Value} {s : Shared} {Q E : Value → Shared → Prop} {x dx mm r dr t1 t2 t la ld pa f t' : Nat} {om : Obj} {k k' : Str} {kvs : List (Str × Value)}
    (B : Below A₀ base outer h₀) (F : Fr h₀ L s.heap m) (X : (PySem.Challenge.hd.heap_39 w.params).In h₀) (T : Top PySem.Challenge.hd.view_39 loose mean mg mb h₀) (hk : cs.kind = .function)
    (hdp : dp + 10 < recursionLimit) (hun : un + 100 < cLine)
    (N : News h₀ L s.heap [(x, instObj 121 dx), (dx, osDict w t1 t2 r mm), (mm, om), (r, rootO dr la f), (dr, dictOf [] 0), (la, linkO ld pa r k' t'), (ld, dictOf [] 0)])
    (hne : NeF x dx ∧ NeF x mm ∧ NeF x r ∧ NeF x dr ∧ NeF x la ∧ NeF x ld ∧ NeF dx mm ∧ NeF dx r ∧ NeF dx dr ∧ NeF dx la ∧ NeF dx ld ∧ NeF mm r ∧ NeF mm dr ∧ NeF mm la ∧ NeF mm ld ∧ NeF r dr ∧ NeF r la ∧ NeF r ld ∧ NeF dr la ∧ NeF dr ld ∧ NeF la ld)
    (hd : om.IsDictOf (strKind PySem.Challenge.rw_fc0213_01.row.prog w) kvs) (lo : (mm == sysModules) = false) (hv : valueAt kvs k = none) (hz : kvs.length ≤ 1000)
    (ret : ∀ h' (tk' lb db : Nat) om', Fr h₀ L h' m → News h₀ L h' [(lb, linkO db la r k t), (db, dictOf [] 0), (x, instObj 121 dx), (dx, osDict w t1 t2 r mm), (mm, om'), (r, rootO dr lb f), (dr, dictOf [] 0), (la, linkO ld pa lb k' t'), (ld, dictOf [] 0)] →
      om'.IsDictOf (strKind PySem.Challenge.rw_fc0213_01.row.prog w) (stored kvs k (.ref lb)) →
      Kept [(x, instObj 121 dx), (dx, osDict w t1 t2 r mm), (mm, om), (r, rootO dr la f), (dr, dictOf [] 0), (la, linkO ld pa r k' t'), (ld, dictOf [] 0)]
        [(lb, linkO db la r k t), (db, dictOf [] 0), (x, instObj 121 dx), (dx, osDict w t1 t2 r mm), (mm, om'), (r, rootO dr lb f), (dr, dictOf [] 0), (la, linkO ld pa lb k' t'), (ld, dictOf [] 0)] s.heap h' →
      (db < lb ∧ x < db ∧ dx < db ∧ mm < db ∧ r < db ∧ dr < db ∧ la < db ∧ ld < db) → Q .none { s with heap := h', toks := tk' }) :
    wpAny (model PySem.Challenge.rw_fc0213_01.row.prog w) (ktrTop dp un gd cn cs L a ccd cl outer) (call (.ref 68) [.ref x, .str k t]) Q E s := by
  have _ := hun
  obtain ⟨_, _, _, _, _, _, _, _, _, _, _, _, _, _, _, _, _, _, _, _, _⟩ := hne
  refine wpAny_call ?_
  k_dflt k_enter
  k_steps
  refine ret _ _ _ _ _ (by assumption) (News.sub (by assumption) fun p hp => List.mem_cons_of_mem _ hp) (by assumption) (Kept.sub (by assumption) fun p hp => List.mem_cons_of_mem _ hp) ?_
  omega
set_option maxHeartbeats 8000000 in
theorem add_e {w : World} {loose : List Str} {mean : ExcName → Option Value} {mg mb : Str → Option Value} {dp un : Nat} {gd : Option (List Code)} {cn : Str} {cs : Scope} {L a : Addr} {ccd : Value} {cl : List (Str × Addr)} {outer : List Env} {A₀ : Around} {base h₀ : Heap}
    {m : Str → Option Value} {s : Shared} {Q E : Value → Shared → Prop} {x dx mm r dr t1 t2 t : Nat} {om : Obj} {k : Str} {kvs : List (Str × Value)}
    (B : Below A₀ base outer h₀) (F : Fr h₀ L s.heap m) (X : (PySem.Challenge.hd.heap_39 w.params).In h₀) (T : Top PySem.Challenge.hd.view_39 loose mean mg mb h₀) (hk : cs.kind = .function)
    (hdp : dp + 10 < recursionLimit) (hun : un + 100 < cLine)
    (N : News h₀ L s.heap [(x, instObj 121 dx), (dx, osDict w t1 t2 r mm), (mm, om), (r, rootO dr r r), (dr, dictOf [] 0)])
    (hne : NeF x dx ∧ NeF x mm ∧ NeF x r ∧ NeF x dr ∧ NeF dx mm ∧ NeF dx r ∧ NeF dx dr ∧ NeF mm r ∧ NeF mm dr ∧ NeF r dr)
    (hd : om.IsDictOf (strKind PySem.Challenge.rw_fc0213_01.row.prog w) kvs) (lo : (mm == sysModules) = false) (hv : valueAt kvs k = none) (hz : kvs.length ≤ 1000)
    (ret : ∀ h' (tk' lb db : Nat) om', Fr h₀ L h' m → News h₀ L h' [(lb, linkO db r r k t), (db, dictOf [] 0), (x, instObj 121 dx), (dx, osDict w t1 t2 r mm), (mm, om'), (r, rootO dr lb lb), (dr, dictOf [] 0)] →
      om'.IsDictOf (strKind PySem.Challenge.rw_fc0213_01.row.prog w) (stored kvs k (.ref lb)) →
      Kept [(x, instObj 121 dx), (dx, osDict w t1 t2 r mm), (mm, om), (r, rootO dr r r), (dr, dictOf [] 0)]
        [(lb, linkO db r r k t), (db, dictOf [] 0), (x, instObj 121 dx), (dx, osDict w t1 t2 r mm), (mm, om'), (r, rootO dr lb lb), (dr, dictOf [] 0)] s.heap h' →
      (db < lb ∧ x < db ∧ dx < db ∧ mm < db ∧ r < db ∧ dr < db) → Q .none { s with heap := h', toks := tk' }) :
    wpAny (model PySem.Challenge.rw_fc0213_01.row.prog w) (ktrTop dp un gd cn cs L a ccd cl outer) (call (.ref 68) [.ref x, .str k t]) Q E s := by
  have _ := hun
  obtain ⟨_, _, _, _, _, _, _, _, _, _⟩ := hne
  refine wpAny_call ?_
  k_dflt k_enter
  k_steps
  refine ret _ _ _ _ _ (by assumption) (News.sub (by assumption) fun p hp => List.mem_cons_of_mem _ hp) (by assumption) (Kept.sub (by assumption) fun p hp => List.mem_cons_of_mem _ hp) ?_
  omega
end Mine
end

section
open PySem PySem.W PyProof.Rows PySem.Calls
set_option maxRecDepth 100000
namespace Mine
local macro_rules | `(tactic| walk_at "mine pad 0") => `(tactic| fail)
local macro_rules | `(tactic| walk_at "mine pad 1") => `(tactic| fail)
local macro_rules | `(tactic| walk_at "mine pad 2") => `(tactic| fail)
local macro_rules | `(tactic| walk_at "mine pad 3") => `(tactic| fail)
local macro_rules | `(tactic| walk_at "mine pad 4") => `(tactic| fail)
local macro_rules | `(tactic| walk_at "mine pad 5") => `(tactic| fail)
local macro_rules | `(tactic| walk_at "mine pad 6") => `(tactic| fail)
local macro_rules | `(tactic| walk_at "mine pad 7") => `(tactic| fail)
local macro_rules | `(tactic| walk_at "mine pad 8") => `(tactic| fail)
local macro_rules | `(tactic| walk_at "mine pad 9") => `(tactic| fail)
local macro_rules | `(tactic| walk_at "mine pad 10") => `(tactic| fail)
local macro_rules | `(tactic| walk_at "mine pad 11") => `(tactic| fail)
local macro_rules | `(tactic| walk_at "mine pad 12") => `(tactic| fail)
theorem refill3 : ∀ (w : World) (h : Heap), (PySem.Challenge.hd.heap_39 w.params).In h → (PySem.Challenge.hd.heap_39 w.params).In h ∧ PySem.Challenge.rw_fc0213_01.foot = 3 := by
  k_fill
  exact fun _ _ x => ⟨x, rfl⟩
abbrev m0 (x : Nat) : Str → Option Value := fun y => if y = Str.ofString "self" then some (.ref x) else none
abbrev mR (x r : Nat) : Str → Option Value := fun y => if y = Str.ofString "root" then some (.ref r) else m0 x y
abbrev mC (x r c : Nat) : Str → Option Value := fun y => if y = Str.ofString "curr" then some (.ref c) else mR x r y
theorem Fr.cg {h₀ h : Heap} {L : Addr} {m m' : Str → Option Value} (F : Fr h₀ L h m) (e : ∀ y, m y = m' y) : Fr h₀ L h m' := by
  rw [show m' = m from funext fun y => (e y).symm]; exact F
theorem lookup_one (y n : Str) (v : Value) : List.lookup y [(n, v)] = if y = n then some v else none := by
  by_cases h : y = n
  · subst h; simp [List.lookup]
  · have : (y == n) = false := beq_eq_false_iff_ne.mpr h
    simp [List.lookup, h, this]
def restOf (g h : Heap) (L : Nat) : List (Addr × Obj) := (List.range h.objs.size).filterMap fun b => if b = L then none else match g.get? b with
  | some _ => none
  | none => (h.get? b).map fun o => (b, o)
theorem mem_restOf {g h : Heap} {L : Nat} {q : Addr × Obj} : q ∈ restOf g h L ↔ q.1 ≠ L ∧ g.get? q.1 = none ∧ h.get? q.1 = some q.2 := by
  unfold restOf
  rw [List.mem_filterMap]
  constructor
  · rintro ⟨b, _, hb⟩
    split at hb
    · cases hb
    · rename_i hbL
      split at hb
      · cases hb
      · rename_i hg
        obtain ⟨o, ho, rfl⟩ := Option.map_eq_some_iff.mp hb
        exact ⟨hbL, hg, ho⟩
  · rintro ⟨h1, h2, h3⟩
    refine ⟨q.1, List.mem_range.mpr (Heap.lt_size h3), ?_⟩
    rw [if_neg h1, h2, h3]; rfl
theorem news_rest {g h : Heap} {L : Nat} : News g L h (restOf g h L) := fun q hq => let ⟨a, b, c⟩ := mem_restOf.mp hq; ⟨c, a, b⟩
theorem rest_keeps {g h h' : Heap} {L : Nat} {m m' : Str → Option Value} (F : Fr g L h m) (F' : Fr g L h' m') (N' : News g L h' (restOf g h L)) : ∀ b o, b ≠ L → h.get? b = some o → h'.get? b = some o := fun b o hb e => by
  cases hq : g.get? b with
  | some o' =>
    have h1 := F.keep b o' hq
    rw [e] at h1; cases h1
    exact F'.keep b _ hq
  | none => exact (N' (b, o) (mem_restOf.mpr ⟨hb, hq, e⟩)).1
theorem news_both {g h : Heap} {L : Nat} {a b : List (Addr × Obj)} (N : News g L h a) (M : News g L h b) : News g L h (a ++ b) := fun p hp => (List.mem_append.mp hp).elim (N p) (M p)
def GSt (w : World) (g : Heap) (Lg : Nat) (o : OS) (ns : List Node) (n : Nat) (h : Heap) : Prop :=
  Fr g Lg h (mC o.x o.r (firstA (ns.drop (ns.length - n)) o.r)) ∧ News g Lg h (osL w o ns)
theorem GSt.frame {w : World} {g : Heap} {Lg : Nat} {o : OS} {ns : List Node} {fp : List Addr} (hg : ∀ b o, g.get? b = some o → b ∈ fp) (ho : ∀ p ∈ osL w o ns, p.1 ∈ fp) {n : Nat} {h h' : Heap} (st : GSt w g Lg o ns n h)
    (k : ∀ b ∈ Lg :: fp, ∀ o, h.get? b = some o → h'.get? b = some o) : GSt w g Lg o ns n h' :=
  ⟨⟨st.1.ns.at' fun o e => k _ (List.mem_cons_self ..) o e, fun b o e => k b (List.mem_cons_of_mem _ (hg b o e)) o (st.1.keep b o e), st.1.above⟩,
    fun p hp => ⟨k _ (List.mem_cons_of_mem _ (ho p hp)) _ (st.2 p hp).1, (st.2 p hp).2⟩⟩
theorem drop_cons {ns : List Node} {n : Nat} (h : n + 1 ≤ ns.length) : ∃ u us, ns.drop (ns.length - (n + 1)) = u :: us ∧ ns.drop (ns.length - n) = us ∧ ns[ns.length - 1 - n]? = some u ∧ ns = ns.take (ns.length - (n + 1)) ++ u :: us := by
  have hlt : ns.length - (n + 1) < ns.length := by omega
  refine ⟨ns[ns.length - (n + 1)], ns.drop (ns.length - (n + 1) + 1), List.drop_eq_getElem_cons hlt, by congr 1; omega, ?_, ?_⟩
  · rw [show ns.length - 1 - n = ns.length - (n + 1) by omega]; exact List.getElem?_eq_getElem hlt
  · rw [← List.drop_eq_getElem_cons hlt, List.take_append_drop]

local macro_rules | `(tactic| walk_at "compareOp NotIn str ref") => `(tactic| (k_here; (refine' mp_notin ?N ?hm ?hd ?lo ?hv ?_; (case N => k_asm); (case hm => k_mem); (case hd => k_asm); (case lo => k_asm); (case hv => k_asm))))
local macro_rules | `(tactic| walk_at "setItem ref str") => `(tactic| (k_here; (refine' mp_set ?F ?N ?U ?hd ?hz ?_; (case F => k_asm); (case N => k_asm); (case U => k_updF); (case hd => k_asm); (case hz => k_asm); k_whole; intro h' o' F' N' d'; (try dsimp only at N'); (try k_sweep))))
local macro_rules | `(tactic| k_room) => `(tactic| ((try simp only [depth_under_make, depth_under_kw, depth_in1, depth_deeper, depth_caller]); (try dsimp only [ktrTop]); omega))
local macro_rules | `(tactic| walk_at "LeaveS") => `(tactic| (k_dflt (refine' leaveS_ ?F ?N ?_; (case F => k_asm); (case N => k_asm); k_whole); intro kF kN kK; (try dsimp only)))
local macro_rules | `(tactic| k_enter) => `(tactic| (refine' code_split ?k1 ?k2 ?k3 ?k4 ?k5 ?kA ?kF ?kK ?k6 ?k7 ?k8 ?k9 ?kB ?_ ?c2 ?c3 ?c4 ?c5; (case kA => exact rfl); (case kF => exact rfl); (case kK => assumption); (case k1 => k_asm); (case k2 => k_asm); (case k3 => k_asm); (case k4 => k_asm); (case k5 => k_asm); (case k6 => k_is); (case k7 => k_is); (case k8 => k_room); (case k9 => first | exact BindsTo.of_eq rfl | exact binds_K (by k_in) rfl (by k_is) rfl rfl rfl); (case c5 => decide); (case kB => exact locs rfl); (case c2 => exact rfl); (case c3 => exact rfl); (case c4 => exact rfl); k_whole; intro g' L' h' FG' F' N' B' X' T' hG; (try dsimp only); (try k_fold)))

set_option maxHeartbeats 8000000 in
theorem os_iter {w : World} {loose : List Str} {mean : ExcName → Option Value} {mg mb : Str → Option Value} {dp un : Nat} {gd : Option (List Code)} {cn : Str} {cs : Scope} {L a : Addr} {ccd : Value} {cl : List (Str × Addr)} {outer : List Env} {h₀ : Heap}
    {m : Str → Option Value} {s : Shared} {Q E : Value → Shared → Prop} {o : OS} {ns : List Node} {own : List (Addr × Obj)}
    (F : Fr h₀ L s.heap m) (X : (PySem.Challenge.hd.heap_39 w.params).In h₀) (T : Top PySem.Challenge.hd.view_39 loose mean mg mb h₀)
    (hdp : dp + 10 < recursionLimit)
    (N : News h₀ L s.heap own) (hsub : ∀ p ∈ osL w o ns, p ∈ own) (ok : OSok w o ns)
    (ret : ∀ h' tk' gs, gs.bare = true → Fr h₀ L h' m → News h₀ L h' own → (∀ b o, s.heap.get? b = some o → h'.get? b = some o) →
      (∀ A' : Around, A'.handled = none → A'.depth < recursionLimit → GenFn PySem.Challenge.rw_fc0213_01.row.prog w A' (s.heap.objs.size + 1) s.gens.size s.heap.objs.size (List.range s.heap.objs.size) ns.length (fun i v => ∃ nd, ns[i]? = some nd ∧ v = .str nd.k nd.t) 0 { s with heap := h', gens := s.gens.push gs, toks := tk' }) →
      Q (.ref (s.heap.objs.size + 1)) { s with heap := h', gens := s.gens.push gs, toks := tk' }) :
    wpAny (model PySem.Challenge.rw_fc0213_01.row.prog w) (ktrTop dp un gd cn cs L a ccd cl outer) (call (.ref 82) [.ref o.x]) Q E s := by
  refine wpAny_call ?_
  k_dflt (refine' gen_split ?k2 ?k3 ?k4 ?k5 ?k6 ?k7 ?k8 ?k9 ?kB ?_ ?c2 ?c3 ?c4 ?c5; (case k2 => k_asm); (case k3 => k_asm); (case k4 => exact N); (case k5 => exact T.nolimit); (case k6 => k_is); (case k7 => k_is); (case k8 => k_room); (case k9 => exact BindsTo.of_eq rfl); (case c5 => decide); (case kB => exact locs rfl); (case c2 => exact rfl); (case c3 => exact rfl); (case c4 => exact rfl); k_whole)
  intro g h' tk F₁ N₁ keep FG NG XG hG hlim _ gsub
  dsimp only
  refine ret h' tk _ rfl F₁ N₁ keep fun A' hA' hdA => ⟨hG, hlim, _, (Array.getElem?_push_size ..), fun s'' hal => ⟨rfl, ?_⟩⟩
  have FG0 : Fr g s.heap.objs.size h' (m0 o.x) := Fr.cg FG fun y => (show List.lookup y [(Str.ofString "self", Value.ref o.x)] = _ from lookup_one _ _ _)
  clear FG
  -- at the wake
  have hfp : ∀ b ob, s.heap.get? b = some ob → b ∈ List.range s.heap.objs.size := fun b ob e => List.mem_range.mpr (Heap.lt_size e)
  have F2 : Fr g s.heap.objs.size s''.heap (m0 o.x) := ⟨FG0.ns.at' fun ob e => hal _ (List.mem_cons_self ..) ob e, fun b ob e => hal b (List.mem_cons_of_mem _ (hfp b ob (gsub b ob e))) ob (FG0.keep b ob e), FG0.above⟩
  have N2 : News g s.heap.objs.size s''.heap (osL w o ns) := fun p hp => ⟨hal _ (List.mem_cons_of_mem _ (by
    have := N p (hsub p hp)
    obtain ⟨oL, es, ep, hL, r⟩ := F.ns
    exact hfp _ _ this.1)) _ (NG p (hsub p hp)).1, (NG p (hsub p hp)).2⟩
  have osin : ∀ p ∈ osL w o ns, p.1 ∈ List.range s.heap.objs.size := fun p hp => hfp _ _ (N p (hsub p hp)).1
  have gin : ∀ b ob, g.get? b = some ob → b ∈ List.range s.heap.objs.size := fun b ob e => hfp b ob (gsub b ob e)
  clear hal FG0 F₁ N₁ keep hG hlim NG ret
  generalize s.heap.objs.size = Lg at *
  refine seg_func ?_
  refine seg_execs_cons (seg_wrap ?_)
  have N3 : News g Lg s''.heap ((o.x, instObj 121 o.dx) :: (o.dx, osDict w o.t1 o.t2 o.r o.mm) :: (o.mm, o.om) :: (o.r, rootO o.dr (lastA ns o.r) (firstA ns o.r)) :: (o.dr, dictOf [] 0) :: (links o.r ns o.r ++ restOf g s''.heap Lg)) := news_both N2 news_rest
  have F6 : Fr g Lg s''.heap _ ∧ True := ⟨F2, trivial⟩
  k_steps
  dsimp only
  refine seg_execs_cons (seg_wrap ?_)
  k_steps
  dsimp only
  refine seg_execs_cons (seg_While fun p => ?_)
  rw [Nat.sub_zero]
  refine seg_turns (St := GSt w g Lg o ns) rfl rfl rfl rfl (fun n h1 h2 st k => st.frame gin osin k) ?_ ?_ ?_ ?hA ?_ ns.length _ _ (Nat.le_refl _) ?_ ?_
  case hA => intro c; exact hA'
  · intro A2 n s3 Q3 E3 hh hn st hQ
    obtain ⟨F5, N5⟩ := st
    cases n with
    | zero =>
      rw [show ns.drop (ns.length - 0) = [] by simp] at F5
      k_steps
      exact hQ s3.toks
    | succ n =>
      obtain ⟨u, us, e1, e2, e3, e4⟩ := drop_cons hn
      rw [e1] at F5
      have h2 := links_at (ns.take (ns.length - (n + 1))) u us o.r o.r
      rw [← e4] at h2
      have hu := N5 _ (show (u.a, linkO u.d (lastA (ns.take (ns.length - (n + 1))) o.r) (firstA us o.r) u.k u.t) ∈ osL w o ns by simp [osL, h2.1])
      have hr := N5 _ (show (o.r, rootO o.dr (lastA ns o.r) (firstA ns o.r)) ∈ osL w o ns by simp [osL])
      have hne : u.a ≠ o.r := ok.ne_root (by rw [e4]; simp)
      k_steps
      refine wpAny_isNot_ref_other hne hu.1 hr.1 (by simp) ?_
      k_steps
      exact hQ _
  · intro A2 n s3 Q3 E3 hh hn st hQ
    obtain ⟨F5, N5⟩ := st
    obtain ⟨u, us, e1, e2, e3, e4⟩ := drop_cons hn
    rw [e1] at F5
    have N6 : News g Lg s3.heap ((u.a, linkO u.d (lastA (ns.take (ns.length - (n + 1))) o.r) (firstA us o.r) u.k u.t) :: (u.d, dictOf [] 0) :: osL w o ns) := fun q hq => by
      have h2 := links_at (ns.take (ns.length - (n + 1))) u us o.r o.r
      rw [← e4] at h2
      rcases List.mem_cons.mp hq with rfl | hq
      · exact N5 _ (by simp [osL, h2.1])
      · rcases List.mem_cons.mp hq with rfl | hq
        · exact N5 _ (by simp [osL, h2.2])
        · exact N5 _ hq
    k_steps
    exact hQ _ _ ⟨u, e3, rfl⟩
  · intro A2 n s3 Q3 E3 hh hn st hQ
    obtain ⟨F5, N5⟩ := st
    obtain ⟨u, us, e1, e2, e3, e4⟩ := drop_cons hn
    rw [e1] at F5
    have N6 : News g Lg s3.heap ((u.a, linkO u.d (lastA (ns.take (ns.length - (n + 1))) o.r) (firstA us o.r) u.k u.t) :: (u.d, dictOf [] 0) :: (osL w o ns ++ restOf g s3.heap Lg)) := fun q hq => by
      have h2 := links_at (ns.take (ns.length - (n + 1))) u us o.r o.r
      rw [← e4] at h2
      rcases List.mem_cons.mp hq with rfl | hq
      · exact N5 _ (by simp [osL, h2.1])
      · rcases List.mem_cons.mp hq with rfl | hq
        · exact N5 _ (by simp [osL, h2.2])
        · exact news_both N5 news_rest _ hq
    have F6 : Fr g Lg s3.heap _ ∧ True := ⟨F5, trivial⟩
    k_steps
    rename_i hh' FF NN
    refine hQ _ _ ⟨Fr.cg FF fun y => ?_, fun q hq => NN q (by simp [hq])⟩ (rest_keeps F6.1 FF fun q hq => NN q (by simp [hq]))
    rw [e2]
    show (if y = Str.ofString "curr" then some (Value.ref (firstA us o.r)) else if y = Str.ofString "curr" then _ else mR o.x o.r y) = (if y = Str.ofString "curr" then _ else mR o.x o.r y)
    by_cases hy : y = Str.ofString "curr"
    · rw [if_pos hy, if_pos hy]
    · rw [if_neg hy, if_neg hy, if_neg hy]
  · intro s₀ s3 hs
    refine seg_leaf (.ok .next) ?_
    exact seg_end (.ok (.ret .none)) ⟨rfl, rfl, hs⟩
  · rename_i hh' FF NN
    refine ⟨Fr.cg FF fun y => ?_, fun q hq => NN q ?_⟩
    · rw [Nat.sub_self, List.drop_zero]
    · simp only [osL, List.mem_cons] at hq
      simp only [List.mem_cons, List.mem_append]
      rcases hq with h | h | h | h | h | h <;> simp [h]
  · rename_i hh' FF NN
    exact ⟨_, _, rfl, fun b ob hb _ e => rest_keeps F6.1 FF (fun q hq => NN q (by simp [hq])) b ob hb e⟩
end Mine
end

section
open PySem PySem.W PyProof.Rows PySem.Calls
set_option maxRecDepth 100000
namespace Mine
theorem refill4 : ∀ (w : World) (h : Heap), (PySem.Challenge.hd.heap_39 w.params).In h → (PySem.Challenge.hd.heap_39 w.params).In h ∧ PySem.Challenge.rw_fc0213_01.foot = 3 := by
  k_fill
  exact fun _ _ x => ⟨x, rfl⟩

section
variable {prog : Program} {w : World} {A : Around} {E : Value → Shared → Prop} {s : Shared} {L d : Addr} {h₀ : Heap} {m : Str → Option Value} {news : List (Addr × Obj)} {g : Obj → List (Addr × Obj)} {o : Obj} {kvs : List (Str × Value)} {k : Str} {t : Tok} {v : Value}
theorem mp_len {Q : Value → Shared → Prop} (N : News h₀ L s.heap news) (hm : (d, o) ∈ news) (hd : o.IsDictOf (strKind prog w) kvs) (lo : (d == sysModules) = false) (hz : kvs.length ≤ 1000)
    (h : Q (.int kvs.length (s.toks + 1)) { s with toks := s.toks + 1 + 1 }) : wpAny (model prog w) A (call (.builtin "len") [.ref d]) Q E s :=
  call_len_dict lo (Heap.dictOf_iff.mpr ⟨o, (N _ hm).1, hd⟩) (by omega) h
theorem mp_meth {pl : Sem Bool} {Q : Value × List Value → Shared → Prop} (N : News h₀ L s.heap news) (hm : (d, o) ∈ news) (hd : o.IsDictOf (strKind prog w) kvs) (_ : (d == sysModules) = false)
    (h : Q (.builtin "dict.pop", [.ref d]) s) : wpAny (model prog w) A (getMethod (.ref d) (Str.ofString "pop") pl) Q E s :=
  have hd : s.heap.DictOf (strKind prog w) d kvs := Heap.dictOf_iff.mpr ⟨o, (N _ hm).1, hd⟩
  getMethod_builtin hd.typeIs PySem.F.plainAttrs_dict PySem.F.slot_dict_pop PySem.F.type_dict_pop hd.mapOf.noDict h
theorem mp_pop {Q : Value → Shared → Prop} (F : Fr h₀ L s.heap m) (N : News h₀ L s.heap news) (U : UpdF d o news g) (hd : o.IsDictOf (strKind prog w) kvs) (hz : kvs.length ≤ 1000) (hv : valueAt kvs k = some v)
    (h : ∀ h' o', Fr h₀ L h' m → News h₀ L h' (g o') → o'.IsDictOf (strKind prog w) (without kvs k) → Q v { s with heap := h', toks := s.toks + 1 }) : wpAny (model prog w) A (call (.builtin "dict.pop") [.ref d, .str k t]) Q E s := by
  obtain ⟨own, rest, rfl, hg, h1, h2⟩ := U.split
  have hm := N (d, o) (List.mem_append_right _ (.head _))
  have hD : s.heap.DictOf (strKind prog w) d kvs := Heap.dictOf_iff.mpr ⟨o, hm.1, hd⟩
  refine call_meetsIn PySem.F.slot_dict_pop hD.typeIs PySem.F.entry_dict_pop (PySem.F.args_dict_pop_2 _ _) (meets_dict_pop_there (strKind prog w) d (strKind_is prog w k t) [] (.inl rfl) rfl) ⟨kvs, v, hD, (by rw [sizeLine_eq]; omega), hv, fun h' hmm hs => ?_⟩
  obtain ⟨o', ho', hd'⟩ := Heap.dictOf_iff.mp hmm
  exact h h' o' (F.change hs hm.2.1 hm.2.2) (hg o' ▸ N.setIn h1 h2 hs ho') hd'
end

def GenReady (w : World) (h₀ : Heap) (L : Nat) (news : List (Addr × Obj)) (ga : Nat) (F0 : Nat → Value → Prop) (n : Nat) (h : Heap) (G : Array GenState) : Prop :=
  ∃ gi Lg fp, Lg ≠ L ∧ (∀ p ∈ news, p.1 ≠ Lg) ∧ h₀.get? Lg = none ∧ ∀ A' : Around, A'.handled = none → A'.depth < recursionLimit → ∀ d t os, GenFn PySem.Challenge.rw_fc0213_01.row.prog w A' ga gi Lg fp n F0 0 ⟨h, G, d, t, os⟩

theorem allBare_push {G : Array GenState} {x : GenState} (h : AllBare G) (hx : x.bare = true) : AllBare (G.push x) := fun y hy => by
  rcases Array.mem_push.mp hy with h1 | h1
  · exact h y h1
  · subst h1; exact hx
theorem allBare_set {G : Array GenState} {g : Nat} {x : GenState} (h : AllBare G) (hx : x.bare = true) : AllBare (G.setIfInBounds g x) := fun y hy => by
  obtain ⟨i, hi, rfl⟩ := Array.mem_iff_getElem.mp hy
  rw [Array.getElem_setIfInBounds (hj := by simpa using hi)]
  split
  · exact hx
  · exact h _ (Array.getElem_mem _)

theorem r_iter {w : World} {loose : List Str} {mean : ExcName → Option Value} {mg mb : Str → Option Value} {dp un : Nat} {gd : Option (List Code)} {cn : Str} {cs : Scope} {L a : Addr} {ccd : Value} {cl : List (Str × Addr)} {outer : List Env} {h₀ : Heap}
    {m : Str → Option Value} {s : Shared} {Q E : Value → Shared → Prop} {o : OS} {ns : List Node} {own : List (Addr × Obj)}
    (F : Fr h₀ L s.heap m) (X : (PySem.Challenge.hd.heap_39 w.params).In h₀) (T : Top PySem.Challenge.hd.view_39 loose mean mg mb h₀)
    (hdp : dp + 10 < recursionLimit)
    (N : News h₀ L s.heap own) (hsub : ∀ p ∈ osL w o ns, p ∈ own) (ok : OSok w o ns) (hB : AllBare s.gens)
    (ret : ∀ ga h' tk' G', AllBare G' → Fr h₀ L h' m → News h₀ L h' own → GenReady w h₀ L own ga (fun i v => ∃ nd, ns[i]? = some nd ∧ v = .str nd.k nd.t) ns.length h' G' →
      Q (.ref ga) { s with heap := h', gens := G', toks := tk' }) :
    wpAny (model PySem.Challenge.rw_fc0213_01.row.prog w) (ktrTop dp un gd cn cs L a ccd cl outer) (call (.builtin "iter") [.ref o.x]) Q E s := by
  refine call_function_entry (by decide +kernel) (by decide +kernel) kdk_entry_iter (kdk_args_iter _) ?_
  unfold Builtin.«iter»
  refine wpAny_bind (m := someArgs "iter" 1 2 _) (wpAny_of_eq (a := [Value.ref o.x]) (by first | rfl | kernel_rfl!) ?_)
  show wpAny _ (ktrTop dp (un + 1) gd cn cs L a ccd cl outer) (pyIter (.ref o.x) >>= _) _ _ _
  have I : InstAt s.heap o.x (instObj 121 o.dx) 121 (some (osDict w o.t1 o.t2 o.r o.mm)) := InstAt.of_news N (hsub _ (by simp [osL])) (hsub _ (by simp [osL]))
  refine wpAny_bind (owit_iter (f := 82) F X I (by k_is) (by k_is) ?_)
  refine os_iter F X T hdp N hsub ok fun h' tk' gs hb F' N' keep hGen => ?_
  have hG := (hGen { depth := 0 } rfl (by decide)).1
  have hne : ∀ b ob, s.heap.get? b = some ob → b ≠ s.heap.objs.size := fun b ob e => Nat.ne_of_lt (Heap.lt_size e)
  refine wpAny_specialOf hG.typeIs slot_gen_next.lookup ?_
  refine wpAny_pure ⟨_, rfl, ret _ h' tk' _ (allBare_push hB hb) F' N' ⟨_, _, _, ?_, fun p hp => hne _ _ (N p hp).1, ?_, fun A' h1 h2 d t os => hGen A' h1 h2⟩⟩
  · obtain ⟨oL, _, _, hL, _⟩ := F.ns
    exact (hne _ _ hL).symm
  · cases hq : h₀.get? s.heap.objs.size with
    | none => rfl
    | some ob => exact absurd (Heap.lt_size (F.keep _ _ hq)) (Nat.lt_irrefl _)

theorem kept_since {h₀ h h' : Heap} {L Lg : Nat} {m : Str → Option Value} {news : List (Addr × Obj)} (h1 : Lg ≠ L) (h2 : ∀ p ∈ news, p.1 ≠ Lg) (h3 : h₀.get? Lg = none) (F : Fr h₀ L h m) (N : News h₀ L h news)
    (k : ∀ b o, b ≠ Lg → h.get? b = some o → h'.get? b = some o) : Fr h₀ L h' m ∧ News h₀ L h' news :=
  ⟨⟨F.ns.at' fun o e => k L o (Ne.symm h1) e, fun b o e => k b o (fun q => by rw [q, h3] at e; cases e) (F.keep b o e), F.above⟩, fun p hp => ⟨k _ _ (h2 p hp) (N p hp).1, (N p hp).2⟩⟩

theorem r_next {w : World} {A : Around} {s : Shared} {Q E : Value → Shared → Prop} {L : Addr} {h₀ : Heap} {m : Str → Option Value} {news : List (Addr × Obj)} {ga n : Nat} {F0 : Nat → Value → Prop}
    (hh : A.handled = none) (hdp : A.depth < recursionLimit) (F : Fr h₀ L s.heap m) (N : News h₀ L s.heap news) (hG : GenReady w h₀ L news ga F0 (n + 1) s.heap s.gens) (hB : AllBare s.gens)
    (ret : ∀ v h' tk' G', F0 0 v → AllBare G' → Fr h₀ L h' m → News h₀ L h' news → Q v { s with heap := h', gens := G', toks := tk' }) :
    wpAny (model PySem.Challenge.rw_fc0213_01.row.prog w) A (call (.builtin "next") [.ref ga]) Q E s := by
  obtain ⟨gi, Lg, fp, h1, h2, h3, hgen⟩ := hG
  have st := hgen A.in1 hh hdp s.drawn s.toks s.os
  obtain ⟨hg, hl, gs, hgs, hgo⟩ := st
  refine call_function_entry (by decide +kernel) (by decide +kernel) kdk_entry_next (kdk_args_next _) ?_
  unfold Builtin.«next»
  refine wpAny_bind (m := someArgs "next" 1 2 _) (wpAny_of_eq (a := [Value.ref ga]) (by first | rfl | kernel_rfl!) ?_)
  dsimp only
  refine wpAny_bind (wpAny_specialOf (name := Str.ofString "__next__") (Heap.IsGen.typeIs (s := s) hg) slot_gen_next.lookup ?_)
  refine wpAny_ite_split (fun hab => absurd hab (by decide)) (fun _ => ?_)
  refine wpAny_bind (callNext_genQ (n := n) hl hdp hg hgs (hgo _ fun _ _ _ e => e) fun v s₁ gs' hb hv => ?_)
  obtain ⟨hF, ⟨h₁, tk₁, rfl, hk₁⟩, _⟩ := hv
  obtain ⟨F', N'⟩ := kept_since (h' := h₁) h1 h2 h3 F N fun b o hb e => hk₁ b o hb (by simp) e
  refine wpAny_pure ⟨_, rfl, ?_⟩
  have e0 : n + 1 - 1 - n = 0 := by omega
  rw [e0] at hF
  exact ret v h₁ tk₁ _ hF (allBare_set (allBare_set hB rfl) hb) F' N'
end Mine
end

section
open PySem PySem.W PyProof.Rows PySem.Calls
set_option maxRecDepth 100000
namespace Mine
local macro_rules | `(tactic| walk_at "mine pad 0") => `(tactic| fail)
local macro_rules | `(tactic| walk_at "mine pad 1") => `(tactic| fail)
local macro_rules | `(tactic| walk_at "mine pad 2") => `(tactic| fail)
local macro_rules | `(tactic| walk_at "mine pad 3") => `(tactic| fail)
local macro_rules | `(tactic| walk_at "mine pad 4") => `(tactic| fail)
local macro_rules | `(tactic| walk_at "mine pad 5") => `(tactic| fail)
local macro_rules | `(tactic| walk_at "mine pad 6") => `(tactic| fail)
local macro_rules | `(tactic| walk_at "mine pad 7") => `(tactic| fail)
local macro_rules | `(tactic| walk_at "mine pad 8") => `(tactic| fail)
local macro_rules | `(tactic| walk_at "mine pad 9") => `(tactic| fail)
local macro_rules | `(tactic| walk_at "mine pad 10") => `(tactic| fail)
local macro_rules | `(tactic| walk_at "mine pad 11") => `(tactic| fail)
local macro_rules | `(tactic| walk_at "mine pad 12") => `(tactic| fail)
theorem refill7 : ∀ (w : World) (h : Heap), (PySem.Challenge.hd.heap_39 w.params).In h → (PySem.Challenge.hd.heap_39 w.params).In h ∧ PySem.Challenge.rw_fc0213_01.foot = 3 := by
  k_fill
  exact fun _ _ x => ⟨x, rfl⟩
local macro_rules | `(tactic| walk_at "compareOp NotIn str ref") => `(tactic| (k_here; (refine' mp_notin ?N ?hm ?hd ?lo ?hv ?_; (case N => k_asm); (case hm => k_mem); (case hd => k_asm); (case lo => k_asm); (case hv => k_asm))))
local macro_rules | `(tactic| walk_at "setItem ref str") => `(tactic| (k_here; (refine' mp_set ?F ?N ?U ?hd ?hz ?_; (case F => k_asm); (case N => k_asm); (case U => k_updF); (case hd => k_asm); (case hz => k_asm); k_whole; intro h' o' F' N' d'; (try dsimp only at N'); (try k_sweep))))
local macro_rules | `(tactic| k_room) => `(tactic| ((try simp only [depth_under_make, depth_under_kw, depth_in1, depth_deeper, depth_caller]); (try dsimp only [ktrTop]); omega))
local macro_rules | `(tactic| walk_at "LeaveS") => `(tactic| (k_dflt (refine' leaveS_ ?F ?N ?_; (case F => k_asm); (case N => k_asm); k_whole); intro kF kN kK; (try dsimp only)))
local macro_rules | `(tactic| k_enter) => `(tactic| (refine' code_split ?k1 ?k2 ?k3 ?k4 ?k5 ?kA ?kF ?kK ?k6 ?k7 ?k8 ?k9 ?kB ?_ ?c2 ?c3 ?c4 ?c5; (case kA => exact rfl); (case kF => exact rfl); (case kK => assumption); (case k1 => k_asm); (case k2 => k_asm); (case k3 => k_asm); (case k4 => k_asm); (case k5 => k_asm); (case k6 => k_is); (case k7 => k_is); (case k8 => k_room); (case k9 => first | exact BindsTo.of_eq rfl | exact binds_K (by k_in) rfl (by k_is) rfl rfl rfl); (case c5 => decide); (case kB => exact locs rfl); (case c2 => exact rfl); (case c3 => exact rfl); (case c4 => exact rfl); k_whole; intro g' L' h' FG' F' N' B' X' T' hG; (try dsimp only); (try k_fold)))
local macro_rules | `(tactic| walk_at "call builtin:len") => `(tactic| (k_here; (refine' mp_len ?N ?hm ?hd ?lo ?hz ?_; (case N => k_asm); (case hm => k_mem); (case hd => k_asm); (case lo => k_asm); (case hz => k_asm))))
set_option maxHeartbeats 8000000 in
theorem len_c {w : World} {loose : List Str} {mean : ExcName → Option Value} {mg mb : Str → Option Value} {dp un : Nat} {gd : Option (List Code)} {cn : Str} {cs : Scope} {L a : Addr} {ccd : Value} {cl : List (Str × Addr)} {outer : List Env} {A₀ : Around} {base h₀ : Heap}
    {m : Str → Option Value} {s : Shared} {Q E : Value → Shared → Prop} {o : OS} {ns : List Node} {own : List (Addr × Obj)}
    (F : Fr h₀ L s.heap m) (X : (PySem.Challenge.hd.heap_39 w.params).In h₀) (T : Top PySem.Challenge.hd.view_39 loose mean mg mb h₀) (B : Below A₀ base outer h₀) (hk : cs.kind = .function)
    (hdp : dp + 10 < recursionLimit)
    (N : News h₀ L s.heap own) (hsub : ∀ p ∈ osL w o ns, p ∈ own) (ok : OSok w o ns)
    (ret : ∀ h' (tk' t : Nat), Fr h₀ L h' m → News h₀ L h' own → Q (.int ns.length t) { s with heap := h', toks := tk' }) :
    wpAny (model PySem.Challenge.rw_fc0213_01.row.prog w) (ktrTop dp un gd cn cs L a ccd cl outer) (call (.ref 54) [.ref o.x]) Q E s := by
  refine wpAny_call ?_
  have N0 : News h₀ L s.heap ((o.x, instObj 121 o.dx) :: (o.dx, osDict w o.t1 o.t2 o.r o.mm) :: (o.mm, o.om) :: own) := fun p hp => by
    rcases List.mem_cons.mp hp with rfl | hp
    · exact N _ (hsub _ (by simp [osL]))
    rcases List.mem_cons.mp hp with rfl | hp
    · exact N _ (hsub _ (by simp [osL]))
    rcases List.mem_cons.mp hp with rfl | hp
    · exact N _ (hsub _ (by simp [osL]))
    · exact N _ hp
  have hd := ok.dict
  have lo := ok.lo
  have hz : (kvsOf ns).length ≤ 1000 := by have := ok.small; simp [kvsOf]; omega
  clear N
  k_dflt k_enter
  k_steps
  have hl : ((kvsOf ns).length : Int) = ns.length := by simp [kvsOf]
  rw [hl]
  refine ret _ _ _ (by assumption) (News.sub (by assumption) fun p hp => List.mem_cons_of_mem _ (List.mem_cons_of_mem _ (List.mem_cons_of_mem _ hp)))

theorem r_truthy {w : World} {loose : List Str} {mean : ExcName → Option Value} {mg mb : Str → Option Value} {dp un : Nat} {gd : Option (List Code)} {cn : Str} {cs : Scope} {L a : Addr} {ccd : Value} {cl : List (Str × Addr)} {outer : List Env} {A₀ : Around} {base h₀ : Heap}
    {m : Str → Option Value} {s : Shared} {Q : Bool → Shared → Prop} {E : Value → Shared → Prop} {o : OS} {ns : List Node} {own : List (Addr × Obj)}
    (F : Fr h₀ L s.heap m) (X : (PySem.Challenge.hd.heap_39 w.params).In h₀) (T : Top PySem.Challenge.hd.view_39 loose mean mg mb h₀) (B : Below A₀ base outer h₀) (hk : cs.kind = .function)
    (hdp : dp + 10 < recursionLimit)
    (N : News h₀ L s.heap own) (hsub : ∀ p ∈ osL w o ns, p ∈ own) (ok : OSok w o ns)
    (ret : ∀ h' tk', Fr h₀ L h' m → News h₀ L h' own → Q (!ns.isEmpty) { s with heap := h', toks := tk' }) :
    wpAny (model PySem.Challenge.rw_fc0213_01.row.prog w) (ktrTop dp un gd cn cs L a ccd cl outer) (truthy (.ref o.x)) Q E s := by
  have XH := X.keeps F.keep
  have I : InstAt s.heap o.x (instObj 121 o.dx) 121 (some (osDict w o.t1 o.t2 o.r o.mm)) := InstAt.of_news N (hsub _ (by simp [osL])) (hsub _ (by simp [osL]))
  unfold truthy
  have h1 : findIn (PySem.Challenge.hd.heap_39 w.params) (.ref 121) "__bool__" = some none := by k_is
  have h2 : findIn (PySem.Challenge.hd.heap_39 w.params) (.ref 121) "__len__" = some (some (.ref 54)) := by k_is
  have h3 : isFn (PySem.Challenge.hd.heap_39 w.params) (.ref 54) = true := by k_is
  refine wpAny_bind (m := callSpecial? (.ref o.x) (Str.ofString "__bool__")) (wpAny_bind (wpAny_bind (I.type.here ((looks_findIn XH h1).here (wpAny_pure ?_)))))
  refine wpAny_bind (wpAny_bind (I.type.here ((looks_findIn XH h2).here ?_)))
  show wpAny _ _ (runValue (.builtin "len" ⟨[.ref o.x], []⟩) >>= _) _ _ _
  refine wpAny_bind (wpAny_runValue (codeAny_builtin entry_len ?_))
  rw [Around.under_plainId (by decide +kernel) _]
  show wpAny _ (ktrTop dp (un + 1) gd cn cs L a ccd cl outer) (Builtin.«len» _) _ _ _
  unfold Builtin.«len»
  refine wpAny_bind (m := oneArg "len" _) (wpAny_pure ?_)
  refine wpAny_bind (m := callSpecial? (.ref o.x) (Str.ofString "__len__")) (special_fn XH I h2 (beq_iff_eq.mp h3) ?_)
  refine len_c F X T B hk hdp N hsub ok fun h' tk' t F' N' => ?_
  have hs := ok.small
  refine wpAny_bind (wpAny_holding (wpAny_pure ?_))
  refine wpAny_bind (wpAny_letGo ?_)
  show wpAny _ _ (if (ns.length : Int) < 0 then _ else _) _ _ _
  rw [if_neg (by omega)]
  show wpAny _ _ (if (ns.length : Int) ≥ 2 ^ 63 then _ else _) _ _ _
  rw [if_neg (by omega)]
  refine wpAny_bind (wpAny_mkInt (wpAny_pure ?_))
  refine wpAny_pure ?_
  have e : ((ns.length : Int) != 0) = !ns.isEmpty := by cases ns <;> simp; omega
  rw [e]
  exact ret h' _ F' N'

theorem r_truthy1 {w : World} {loose : List Str} {mean : ExcName → Option Value} {mg mb : Str → Option Value} {dp un : Nat} {gd : Option (List Code)} {cn : Str} {cs : Scope} {L a : Addr} {ccd : Value} {cl : List (Str × Addr)} {outer : List Env} {A₀ : Around} {base h₀ : Heap}
    {m : Str → Option Value} {s : Shared} {Q : Bool → Shared → Prop} {E : Value → Shared → Prop} {o : OS} {n : Node} {ns : List Node} {own : List (Addr × Obj)}
    (F : Fr h₀ L s.heap m) (X : (PySem.Challenge.hd.heap_39 w.params).In h₀) (T : Top PySem.Challenge.hd.view_39 loose mean mg mb h₀) (B : Below A₀ base outer h₀) (hk : cs.kind = .function)
    (hdp : dp + 10 < recursionLimit)
    (N : News h₀ L s.heap own) (hsub : ∀ p ∈ osL w o (n :: ns), p ∈ own) (ok : OSok w o (n :: ns))
    (ret : ∀ h' tk', Fr h₀ L h' m → News h₀ L h' own → Q true { s with heap := h', toks := tk' }) :
    wpAny (model PySem.Challenge.rw_fc0213_01.row.prog w) (ktrTop dp un gd cn cs L a ccd cl outer) (truthy (.ref o.x)) Q E s :=
  r_truthy F X T B hk hdp N hsub ok ret
theorem mem_skip5 {α : Type} {a1 a2 a3 a4 a5 b1 b2 p : α} {ys : List α} (h : p ∈ a1 :: a2 :: a3 :: a4 :: a5 :: ys) : p ∈ a1 :: a2 :: a3 :: a4 :: a5 :: b1 :: b2 :: ys := by
  simp only [List.mem_cons] at h ⊢
  rcases h with h | h | h | h | h | h <;> simp [h]
end Mine
end

section
open PySem PySem.W PyProof.Rows PySem.Calls
set_option maxRecDepth 100000
namespace Mine
local macro_rules | `(tactic| walk_at "mine pad 0") => `(tactic| fail)
local macro_rules | `(tactic| walk_at "mine pad 1") => `(tactic| fail)
local macro_rules | `(tactic| walk_at "mine pad 2") => `(tactic| fail)
local macro_rules | `(tactic| walk_at "mine pad 3") => `(tactic| fail)
local macro_rules | `(tactic| walk_at "mine pad 4") => `(tactic| fail)
local macro_rules | `(tactic| walk_at "mine pad 5") => `(tactic| fail)
local macro_rules | `(tactic| walk_at "mine pad 6") => `(tactic| fail)
local macro_rules | `(tactic| walk_at "mine pad 7") => `(tactic| fail)
theorem refill5 : ∀ (w : World) (h : Heap), (PySem.Challenge.hd.heap_39 w.params).In h → (PySem.Challenge.hd.heap_39 w.params).In h ∧ PySem.Challenge.rw_fc0213_01.foot = 3 := by
  k_fill
  exact fun _ _ x => ⟨x, rfl⟩
local macro_rules | `(tactic| k_ne) => `(tactic| (refine neN ?_; (try dsimp only); first | (refine NeF.ne ?_; with_reducible assumption) | (refine NeF.ne (NeF.symm ?_); with_reducible assumption) | omega))
local macro_rules | `(tactic| walk_at "compareOp NotIn str ref") => `(tactic| (k_here; (refine' mp_notin ?N ?hm ?hd ?lo ?hv ?_; (case N => k_asm); (case hm => k_mem); (case hd => k_asm); (case lo => k_asm); (case hv => k_asm))))
local macro_rules | `(tactic| walk_at "setItem ref str") => `(tactic| (k_here; (refine' mp_set ?F ?N ?U ?hd ?hz ?_; (case F => k_asm); (case N => k_asm); (case U => k_updF); (case hd => k_asm); (case hz => k_asm); k_whole; intro h' o' F' N' d'; (try dsimp only at N'); (try k_sweep))))
local macro_rules | `(tactic| k_room) => `(tactic| ((try simp only [depth_under_make, depth_under_kw, depth_in1, depth_deeper, depth_caller]); (try dsimp only [ktrTop]); omega))
local macro_rules | `(tactic| walk_at "LeaveS") => `(tactic| (k_dflt (refine' leaveS_ ?F ?N ?_; (case F => k_asm); (case N => k_asm); k_whole); intro kF kN kK; (try dsimp only)))
local macro_rules | `(tactic| k_enter) => `(tactic| (refine' code_split ?k1 ?k2 ?k3 ?k4 ?k5 ?kA ?kF ?kK ?k6 ?k7 ?k8 ?k9 ?kB ?_ ?c2 ?c3 ?c4 ?c5; (case kA => exact rfl); (case kF => exact rfl); (case kK => assumption); (case k1 => k_asm); (case k2 => k_asm); (case k3 => k_asm); (case k4 => k_asm); (case k5 => k_asm); (case k6 => k_is); (case k7 => k_is); (case k8 => k_room); (case k9 => first | exact BindsTo.of_eq rfl | exact binds_K (by k_in) rfl (by k_is) rfl rfl rfl); (case c5 => decide); (case kB => exact locs rfl); (case c2 => exact rfl); (case c3 => exact rfl); (case c4 => exact rfl); k_whole; intro g' L' h' FG' F' N' B' X' T' hG; (try dsimp only); (try k_fold)))
local macro_rules | `(tactic| walk_at "compareOp In str ref") => `(tactic| (k_here; (refine' mp_in ?N ?hm ?hd ?lo ?hv ?_; (case N => k_asm); (case hm => k_mem); (case hd => k_asm); (case lo => k_asm); (case hv => k_asm))))
local macro_rules | `(tactic| walk_at "call builtin:len") => `(tactic| (k_here; (refine' mp_len ?N ?hm ?hd ?lo ?hz ?_; (case N => k_asm); (case hm => k_mem); (case hd => k_asm); (case lo => k_asm); (case hz => k_asm))))
local macro_rules | `(tactic| walk_at "getMethod ref") => `(tactic| (k_here; (with_reducible show wpAny _ _ (getMethod (Value.ref _) (Str.ofString "pop") _) _ _ _); (refine' mp_meth ?N ?hm ?hd ?lo ?_; (case N => k_asm); (case hm => k_mem); (case hd => k_asm); (case lo => k_asm))))
local macro_rules | `(tactic| walk_at "call builtin:dict.pop") => `(tactic| (k_here; (refine' mp_pop ?F ?N ?U ?hd ?hz ?hv ?_; (case F => k_asm); (case N => k_asm); (case U => k_updF); (case hd => k_asm); (case hz => k_asm); (case hv => k_asm); k_whole; intro h' o' F' N' d'; (try dsimp only at N'); (try k_sweep))))
local macro_rules | `(tactic| walk_at "call builtin:iter") => `(tactic| (k_here; k_dflt (refine' r_iter ?F ?X ?T ?dp ?N ?sub ?ok ?bare ?_; (case F => k_asm); (case X => k_asm); (case T => k_asm); (case N => k_asm); (case sub => k_asm); (case ok => k_asm); (case bare => k_asm); (case dp => k_room)); k_whole; intro ga' h' tk' G' hB' F' N' hGen'; (try k_sweep)))
local macro_rules | `(tactic| walk_at "call builtin:next") => `(tactic| (k_here; (refine' r_next ?hh ?dp ?F ?N ?G ?bare ?_; (case G => k_asm); (case F => k_asm); (case N => k_asm); (case bare => k_asm); (case dp => k_room); (case hh => rfl)); k_whole; intro v' h' tk' G' hv' hB' F' N'; (obtain ⟨nd', e', hE'⟩ := hv'; (simp only [List.getElem?_cons_zero, Option.some.injEq] at e'); subst e'; subst hE'); (try k_sweep)))
local macro_rules | `(tactic| k_all) => `(tactic| with_reducible assumption)
local macro_rules | `(tactic| walk_at "truthy ref") => `(tactic| (k_here; k_dflt (refine' r_truthy1 ?F ?X ?T ?B ?hk ?dp ?N ?sub ?ok ?_; (case F => k_asm); (case X => k_asm); (case T => k_asm); (case B => k_asm); (case hk => first | exact rfl | assumption); (case N => k_asm); (case sub => k_asm); (case ok => k_asm); (case dp => k_room)); k_whole; intro h' tk' F' N'; (try k_sweep)))
set_option maxHeartbeats 8000000 in
theorem pop_one {w : World} {loose : List Str} {mean : ExcName → Option Value} {mg mb : Str → Option Value} {dp un : Nat} {gd : Option (List Code)} {cn : Str} {cs : Scope} {L a : Addr} {ccd : Value} {cl : List (Str × Addr)} {outer : List Env} {A₀ : Around} {base h₀ : Heap}
    {m : Str → Option Value} {s : Shared} {Q E : Value → Shared → Prop} {o : OS} {n : Node}
    (B : Below A₀ base outer h₀) (F : Fr h₀ L s.heap m) (X : (PySem.Challenge.hd.heap_39 w.params).In h₀) (T : Top PySem.Challenge.hd.view_39 loose mean mg mb h₀) (hk : cs.kind = .function)
    (hdp : dp + 20 < recursionLimit) (hun : un + 200 < cLine)
    (N : News h₀ L s.heap [(o.x, instObj 121 o.dx), (o.dx, osDict w o.t1 o.t2 o.r o.mm), (o.mm, o.om), (o.r, rootO o.dr n.a n.a), (o.dr, dictOf [] 0), (n.a, linkO n.d o.r o.r n.k n.t), (n.d, dictOf [] 0)])
    (hS : ∀ p ∈ osL w o [n], p ∈ [(o.x, instObj 121 o.dx), (o.dx, osDict w o.t1 o.t2 o.r o.mm), (o.mm, o.om), (o.r, rootO o.dr n.a n.a), (o.dr, dictOf [] 0), (n.a, linkO n.d o.r o.r n.k n.t), (n.d, dictOf [] 0)])
    (hne : NeF o.x o.dx ∧ NeF o.x o.mm ∧ NeF o.x o.r ∧ NeF o.x o.dr ∧ NeF o.x n.a ∧ NeF o.x n.d ∧ NeF o.dx o.mm ∧ NeF o.dx o.r ∧ NeF o.dx o.dr ∧ NeF o.dx n.a ∧ NeF o.dx n.d ∧ NeF o.mm o.r ∧ NeF o.mm o.dr ∧ NeF o.mm n.a ∧ NeF o.mm n.d ∧ NeF o.r o.dr ∧ NeF o.r n.a ∧ NeF o.r n.d ∧ NeF o.dr n.a ∧ NeF o.dr n.d ∧ NeF n.a n.d)
    
    (ok : OSok w o [n]) (hd : o.om.IsDictOf (strKind PySem.Challenge.rw_fc0213_01.row.prog w) (kvsOf [n])) (lo : (o.mm == sysModules) = false) (hv : valueAt (kvsOf [n]) n.k = some (.ref n.a)) (hz : (kvsOf [n]).length ≤ 1000) (hB : AllBare s.gens)
    (ret : ∀ h' (tk' : Nat) om' G', AllBare G' → Fr h₀ L h' m → News h₀ L h' [(o.x, instObj 121 o.dx), (o.dx, osDict w o.t1 o.t2 o.r o.mm), (o.mm, om'), (o.r, rootO o.dr o.r o.r), (o.dr, dictOf [] 0)] →
      om'.IsDictOf (strKind PySem.Challenge.rw_fc0213_01.row.prog w) (without (kvsOf [n]) n.k) →
      Kept [(o.x, instObj 121 o.dx), (o.dx, osDict w o.t1 o.t2 o.r o.mm), (o.mm, o.om), (o.r, rootO o.dr n.a n.a), (o.dr, dictOf [] 0), (n.a, linkO n.d o.r o.r n.k n.t), (n.d, dictOf [] 0)] [(o.x, instObj 121 o.dx), (o.dx, osDict w o.t1 o.t2 o.r o.mm), (o.mm, om'), (o.r, rootO o.dr o.r o.r), (o.dr, dictOf [] 0)] s.heap h' → Q (.str n.k n.t) { s with heap := h', gens := G', toks := tk' }) :
    wpAny (model PySem.Challenge.rw_fc0213_01.row.prog w) (ktrTop dp un gd cn cs L a ccd cl outer) (call (.ref 97) [.ref o.x, .bool false]) Q E s := by
  have _ := hun
  obtain ⟨_, _, _, _, _, _, _, _, _, _, _, _, _, _, _, _, _, _, _, _, _⟩ := hne
  refine wpAny_call ?_
  k_dflt k_enter
  k_steps
  exact ret _ _ _ _ (by assumption) (by assumption) (News.sub (by assumption) fun p hp => mem_skip5 hp) (by assumption) (Kept.sub (by assumption) fun p hp => mem_skip5 hp)
end Mine
end

section
open PySem PySem.W PyProof.Rows PySem.Calls
set_option maxRecDepth 100000
namespace Mine
local macro_rules | `(tactic| walk_at "mine pad 0") => `(tactic| fail)
local macro_rules | `(tactic| walk_at "mine pad 1") => `(tactic| fail)
local macro_rules | `(tactic| walk_at "mine pad 2") => `(tactic| fail)
local macro_rules | `(tactic| walk_at "mine pad 3") => `(tactic| fail)
local macro_rules | `(tactic| walk_at "mine pad 4") => `(tactic| fail)
local macro_rules | `(tactic| walk_at "mine pad 5") => `(tactic| fail)
local macro_rules | `(tactic| walk_at "mine pad 6") => `(tactic| fail)
local macro_rules | `(tactic| walk_at "mine pad 7") => `(tactic| fail)
local macro_rules | `(tactic| walk_at "mine pad 8") => `(tactic| fail)
theorem refill6 : ∀ (w : World) (h : Heap), (PySem.Challenge.hd.heap_39 w.params).In h → (PySem.Challenge.hd.heap_39 w.params).In h ∧ PySem.Challenge.rw_fc0213_01.foot = 3 := by
  k_fill
  exact fun _ _ x => ⟨x, rfl⟩
local macro_rules | `(tactic| k_ne) => `(tactic| (refine neN ?_; (try dsimp only); first | (refine NeF.ne ?_; with_reducible assumption) | (refine NeF.ne (NeF.symm ?_); with_reducible assumption) | omega))
local macro_rules | `(tactic| walk_at "compareOp NotIn str ref") => `(tactic| (k_here; (refine' mp_notin ?N ?hm ?hd ?lo ?hv ?_; (case N => k_asm); (case hm => k_mem); (case hd => k_asm); (case lo => k_asm); (case hv => k_asm))))
local macro_rules | `(tactic| walk_at "setItem ref str") => `(tactic| (k_here; (refine' mp_set ?F ?N ?U ?hd ?hz ?_; (case F => k_asm); (case N => k_asm); (case U => k_updF); (case hd => k_asm); (case hz => k_asm); k_whole; intro h' o' F' N' d'; (try dsimp only at N'); (try k_sweep))))
local macro_rules | `(tactic| k_room) => `(tactic| ((try simp only [depth_under_make, depth_under_kw, depth_in1, depth_deeper, depth_caller]); (try dsimp only [ktrTop]); omega))
local macro_rules | `(tactic| walk_at "LeaveS") => `(tactic| (k_dflt (refine' leaveS_ ?F ?N ?_; (case F => k_asm); (case N => k_asm); k_whole); intro kF kN kK; (try dsimp only)))
local macro_rules | `(tactic| k_enter) => `(tactic| (refine' code_split ?k1 ?k2 ?k3 ?k4 ?k5 ?kA ?kF ?kK ?k6 ?k7 ?k8 ?k9 ?kB ?_ ?c2 ?c3 ?c4 ?c5; (case kA => exact rfl); (case kF => exact rfl); (case kK => assumption); (case k1 => k_asm); (case k2 => k_asm); (case k3 => k_asm); (case k4 => k_asm); (case k5 => k_asm); (case k6 => k_is); (case k7 => k_is); (case k8 => k_room); (case k9 => first | exact BindsTo.of_eq rfl | exact binds_K (by k_in) rfl (by k_is) rfl rfl rfl); (case c5 => decide); (case kB => exact locs rfl); (case c2 => exact rfl); (case c3 => exact rfl); (case c4 => exact rfl); k_whole; intro g' L' h' FG' F' N' B' X' T' hG; (try dsimp only); (try k_fold)))
local macro_rules | `(tactic| walk_at "compareOp In str ref") => `(tactic| (k_here; (refine' mp_in ?N ?hm ?hd ?lo ?hv ?_; (case N => k_asm); (case hm => k_mem); (case hd => k_asm); (case lo => k_asm); (case hv => k_asm))))
local macro_rules | `(tactic| walk_at "call builtin:len") => `(tactic| (k_here; (refine' mp_len ?N ?hm ?hd ?lo ?hz ?_; (case N => k_asm); (case hm => k_mem); (case hd => k_asm); (case lo => k_asm); (case hz => k_asm))))
local macro_rules | `(tactic| walk_at "getMethod ref") => `(tactic| (k_here; (with_reducible show wpAny _ _ (getMethod (Value.ref _) (Str.ofString "pop") _) _ _ _); (refine' mp_meth ?N ?hm ?hd ?lo ?_; (case N => k_asm); (case hm => k_mem); (case hd => k_asm); (case lo => k_asm))))
local macro_rules | `(tactic| walk_at "call builtin:dict.pop") => `(tactic| (k_here; (refine' mp_pop ?F ?N ?U ?hd ?hz ?hv ?_; (case F => k_asm); (case N => k_asm); (case U => k_updF); (case hd => k_asm); (case hz => k_asm); (case hv => k_asm); k_whole; intro h' o' F' N' d'; (try dsimp only at N'); (try k_sweep))))
local macro_rules | `(tactic| walk_at "call builtin:iter") => `(tactic| (k_here; k_dflt (refine' r_iter ?F ?X ?T ?dp ?N ?sub ?ok ?bare ?_; (case F => k_asm); (case X => k_asm); (case T => k_asm); (case N => k_asm); (case sub => k_asm); (case ok => k_asm); (case bare => k_asm); (case dp => k_room)); k_whole; intro ga' h' tk' G' hB' F' N' hGen'; (try k_sweep)))
local macro_rules | `(tactic| walk_at "call builtin:next") => `(tactic| (k_here; (refine' r_next ?hh ?dp ?F ?N ?G ?bare ?_; (case G => k_asm); (case F => k_asm); (case N => k_asm); (case bare => k_asm); (case dp => k_room); (case hh => rfl)); k_whole; intro v' h' tk' G' hv' hB' F' N'; (obtain ⟨nd', e', hE'⟩ := hv'; (simp only [List.getElem?_cons_zero, Option.some.injEq] at e'); subst e'; subst hE'); (try k_sweep)))
local macro_rules | `(tactic| k_all) => `(tactic| with_reducible assumption)
local macro_rules | `(tactic| walk_at "truthy ref") => `(tactic| (k_here; k_dflt (refine' r_truthy1 ?F ?X ?T ?B ?hk ?dp ?N ?sub ?ok ?_; (case F => k_asm); (case X => k_asm); (case T => k_asm); (case B => k_asm); (case hk => first | exact rfl | assumption); (case N => k_asm); (case sub => k_asm); (case ok => k_asm); (case dp => k_room)); k_whole; intro h' tk' F' N'; (try k_sweep)))
set_option maxHeartbeats 8000000 in
theorem pop_two {w : World} {loose : List Str} {mean : ExcName → Option Value} {mg mb : Str → Option Value} {dp un : Nat} {gd : Option (List Code)} {cn : Str} {cs : Scope} {L a : Addr} {ccd : Value} {cl : List (Str × Addr)} {outer : List Env} {A₀ : Around} {base h₀ : Heap}
    {m : Str → Option Value} {s : Shared} {Q E : Value → Shared → Prop} {o : OS} {n b : Node} {rest : List Node}
    (B : Below A₀ base outer h₀) (F : Fr h₀ L s.heap m) (X : (PySem.Challenge.hd.heap_39 w.params).In h₀) (T : Top PySem.Challenge.hd.view_39 loose mean mg mb h₀) (hk : cs.kind = .function)
    (hdp : dp + 20 < recursionLimit) (hun : un + 200 < cLine)
    (N : News h₀ L s.heap ((o.x, instObj 121 o.dx) :: (o.dx, osDict w o.t1 o.t2 o.r o.mm) :: (o.mm, o.om) :: (o.r, rootO o.dr (lastA rest b.a) n.a) :: (o.dr, dictOf [] 0) :: (n.a, linkO n.d o.r b.a n.k n.t) :: (n.d, dictOf [] 0) :: (b.a, linkO b.d n.a (firstA rest o.r) b.k b.t) :: (b.d, dictOf [] 0) :: links b.a rest o.r))
    (hS : ∀ p ∈ osL w o (n :: b :: rest), p ∈ ((o.x, instObj 121 o.dx) :: (o.dx, osDict w o.t1 o.t2 o.r o.mm) :: (o.mm, o.om) :: (o.r, rootO o.dr (lastA rest b.a) n.a) :: (o.dr, dictOf [] 0) :: (n.a, linkO n.d o.r b.a n.k n.t) :: (n.d, dictOf [] 0) :: (b.a, linkO b.d n.a (firstA rest o.r) b.k b.t) :: (b.d, dictOf [] 0) :: links b.a rest o.r))
    (hne : NeF o.x o.dx ∧ NeF o.x o.mm ∧ NeF o.x o.r ∧ NeF o.x o.dr ∧ NeF o.x n.a ∧ NeF o.x n.d ∧ NeF o.x b.a ∧ NeF o.x b.d ∧ NeF o.dx o.mm ∧ NeF o.dx o.r ∧ NeF o.dx o.dr ∧ NeF o.dx n.a ∧ NeF o.dx n.d ∧ NeF o.dx b.a ∧ NeF o.dx b.d ∧ NeF o.mm o.r ∧ NeF o.mm o.dr ∧ NeF o.mm n.a ∧ NeF o.mm n.d ∧ NeF o.mm b.a ∧ NeF o.mm b.d ∧ NeF o.r o.dr ∧ NeF o.r n.a ∧ NeF o.r n.d ∧ NeF o.r b.a ∧ NeF o.r b.d ∧ NeF o.dr n.a ∧ NeF o.dr n.d ∧ NeF o.dr b.a ∧ NeF o.dr b.d ∧ NeF n.a n.d ∧ NeF n.a b.a ∧ NeF n.a b.d ∧ NeF n.d b.a ∧ NeF n.d b.d ∧ NeF b.a b.d)
    (ht0 : ∀ p ∈ links b.a rest o.r, p.1 ≠ o.mm)
    (ht1 : ∀ p ∈ links b.a rest o.r, p.1 ≠ o.r)
    (ht2 : ∀ p ∈ links b.a rest o.r, p.1 ≠ b.a)
    (ok : OSok w o (n :: b :: rest)) (hd : o.om.IsDictOf (strKind PySem.Challenge.rw_fc0213_01.row.prog w) (kvsOf (n :: b :: rest))) (lo : (o.mm == sysModules) = false) (hv : valueAt (kvsOf (n :: b :: rest)) n.k = some (.ref n.a)) (hz : (kvsOf (n :: b :: rest)).length ≤ 1000) (hB : AllBare s.gens)
    (ret : ∀ h' (tk' : Nat) om' G', AllBare G' → Fr h₀ L h' m → News h₀ L h' ((o.x, instObj 121 o.dx) :: (o.dx, osDict w o.t1 o.t2 o.r o.mm) :: (o.mm, om') :: (o.r, rootO o.dr (lastA rest b.a) b.a) :: (o.dr, dictOf [] 0) :: (b.a, linkO b.d o.r (firstA rest o.r) b.k b.t) :: (b.d, dictOf [] 0) :: links b.a rest o.r) →
      om'.IsDictOf (strKind PySem.Challenge.rw_fc0213_01.row.prog w) (without (kvsOf (n :: b :: rest)) n.k) →
      Kept ((o.x, instObj 121 o.dx) :: (o.dx, osDict w o.t1 o.t2 o.r o.mm) :: (o.mm, o.om) :: (o.r, rootO o.dr (lastA rest b.a) n.a) :: (o.dr, dictOf [] 0) :: (n.a, linkO n.d o.r b.a n.k n.t) :: (n.d, dictOf [] 0) :: (b.a, linkO b.d n.a (firstA rest o.r) b.k b.t) :: (b.d, dictOf [] 0) :: links b.a rest o.r) ((o.x, instObj 121 o.dx) :: (o.dx, osDict w o.t1 o.t2 o.r o.mm) :: (o.mm, om') :: (o.r, rootO o.dr (lastA rest b.a) b.a) :: (o.dr, dictOf [] 0) :: (b.a, linkO b.d o.r (firstA rest o.r) b.k b.t) :: (b.d, dictOf [] 0) :: links b.a rest o.r) s.heap h' → Q (.str n.k n.t) { s with heap := h', gens := G', toks := tk' }) :
    wpAny (model PySem.Challenge.rw_fc0213_01.row.prog w) (ktrTop dp un gd cn cs L a ccd cl outer) (call (.ref 97) [.ref o.x, .bool false]) Q E s := by
  have _ := hun
  obtain ⟨_, _, _, _, _, _, _, _, _, _, _, _, _, _, _, _, _, _, _, _, _, _, _, _, _, _, _, _, _, _, _, _, _, _, _, _⟩ := hne
  refine wpAny_call ?_
  k_dflt k_enter
  k_steps
  exact ret _ _ _ _ (by assumption) (by assumption) (News.sub (by assumption) fun p hp => mem_skip5 hp) (by assumption) (Kept.sub (by assumption) fun p hp => mem_skip5 hp)
end Mine
end

section
open PySem PySem.W PyProof.Rows PySem.Calls
set_option maxRecDepth 100000
namespace Mine

theorem mem_as {l : List (Addr × Obj)} {b : Addr} : b ∈ l.map (·.1) ↔ ∃ o, (b, o) ∈ l := by
  constructor
  · intro h
    obtain ⟨p, hp, rfl⟩ := List.mem_map.mp h
    exact ⟨p.2, hp⟩
  · rintro ⟨o, h⟩
    exact List.mem_map.mpr ⟨_, h, rfl⟩
theorem Kept.widen {a b c : List (Addr × Obj)} {h h' : Heap} (k : Kept a b h h') : Kept (a ++ c) (b ++ c) h h' := fun d o e n => by
  simp only [List.map_append, List.mem_append, not_or] at n ⊢
  obtain ⟨h1, h2⟩ := k d o e n.1
  exact ⟨h1, h2, n.2⟩
theorem Kept.cg {a b a' b' : List (Addr × Obj)} {h h' : Heap} (k : Kept a b h h') (ha : ∀ x, x ∈ a.map (·.1) → x ∈ a'.map (·.1)) (hb : ∀ x, x ∈ b'.map (·.1) → x ∈ b.map (·.1)) : Kept a' b' h h' := fun d o e n =>
  let ⟨h1, h2⟩ := k d o e fun q => n (ha d q); ⟨h1, fun q => h2 (hb d q)⟩
theorem Kept.fresh {a b : List (Addr × Obj)} {h h' : Heap} (k : Kept a b h h') {x : Nat} (hx : x ∈ b.map (·.1)) (hn : x ∉ a.map (·.1)) : ∀ d o, h.get? d = some o → d ≠ x := fun d o e q => by
  subst q
  exact (k d o e hn).2 hx
/-- what lies beside a small contract's ledger -/
theorem News.beside {h₀ h h' : Heap} {L : Addr} {own own' rest : List (Addr × Obj)} (N : News h₀ L h rest) (hs : ∀ p ∈ rest, p.1 ∉ own.map (·.1)) (k : Kept own own' h h') (N' : News h₀ L h' own') : News h₀ L h' (own' ++ rest) := news_frame N hs k N'

theorem valueAt_none {ns : List Node} {k : Str} (h : k ∉ ns.map Node.k) : valueAt (kvsOf ns) k = none := by
  induction ns with
  | nil => rfl
  | cons n r ih =>
    simp only [List.map_cons, List.mem_cons, not_or] at h
    have h1 : ¬ n.k = k := fun e => h.1 e.symm
    have := ih h.2
    simp only [valueAt, kvsOf, List.map_cons, List.find?_cons, h1, decide_false] at this ⊢
    exact this
theorem valueAt_head (n : Node) (r : List Node) : valueAt (kvsOf (n :: r)) n.k = some (.ref n.a) := by
  simp [valueAt, kvsOf]
theorem stored_new {ns : List Node} {k : Str} (h : k ∉ ns.map Node.k) (v : Value) : stored (kvsOf ns) k v = kvsOf ns ++ [(k, v)] := by
  unfold stored
  rw [if_neg]
  simp only [kvsOf, List.any_map, List.any_eq_true, not_exists, not_and, Function.comp, decide_eq_true_eq]
  intro n hn e
  exact h (List.mem_map.mpr ⟨n, hn, e⟩)
theorem without_head {n : Node} {r : List Node} (h : n.k ∉ r.map Node.k) : without (kvsOf (n :: r)) n.k = kvsOf r := by
  have : without (kvsOf r) n.k = kvsOf r := without_of_not_mem _ _ (by simpa [kvsOf, Function.comp] using h)
  simp only [kvsOf, List.map_cons, without, List.filter_cons, ne_eq, not_true_eq_false, decide_false, Bool.false_eq_true, if_false] at this ⊢
  exact this
theorem OSok.keys {w : World} {o : OS} {ns : List Node} (ok : OSok w o ns) : (ns.map Node.k).Nodup := by
  obtain ⟨es, ep, _, _, _, _, hn⟩ := ok.dict
  have e : (kvsOf ns).map (·.1) = ns.map Node.k := by simp only [kvsOf, List.map_map]; rfl
  rw [e] at hn; exact hn

section
variable {w : World} {o : OS} {h h₀ : Heap} {L : Addr}
theorem osAs_mem {ns : List Node} {b : Addr} : b ∈ osAs o ns ↔ ∃ ob, (b, ob) ∈ osL w o ns := by
  rw [← osL_as w, mem_as]
theorem os_in {ns : List Node} {rest : List (Addr × Obj)} (N : News h₀ L h (osL w o ns ++ rest)) {b : Addr} (hb : b ∈ osAs o ns) : ∃ ob, h.get? b = some ob := by
  obtain ⟨ob, hm⟩ := (osAs_mem (w := w)).mp hb
  exact ⟨ob, (N _ (List.mem_append_left _ hm)).1⟩
end

/-- the ledger of a set with another map object -/
abbrev OS.up (o : OS) (om : Obj) : OS := { o with om := om }
theorem nodup_addr {o : OS} {ns : List Node} (h : (osAs o ns).Nodup) : NeF o.x o.dx ∧ NeF o.x o.mm ∧ NeF o.x o.r ∧ NeF o.x o.dr ∧ NeF o.dx o.mm ∧ NeF o.dx o.r ∧ NeF o.dx o.dr ∧ NeF o.mm o.r ∧ NeF o.mm o.dr ∧ NeF o.r o.dr ∧
    (∀ y ∈ nodeAs ns, NeF o.x y ∧ NeF o.dx y ∧ NeF o.mm y ∧ NeF o.r y ∧ NeF o.dr y) ∧ (nodeAs ns).Nodup := by
  simp only [osAs, List.nodup_cons, List.mem_cons, not_or] at h
  obtain ⟨⟨a1, a2, a3, a4, a5⟩, ⟨b1, b2, b3, b4⟩, ⟨c1, c2, c3⟩, ⟨d1, d2⟩, e1, f⟩ := h
  refine ⟨a1, a2, a3, a4, b1, b2, b3, c1, c2, d1, fun y hy => ⟨fun e => a5 (e ▸ hy), fun e => b4 (e ▸ hy), fun e => c3 (e ▸ hy), fun e => d2 (e ▸ hy), fun e => e1 (e ▸ hy)⟩, f⟩
theorem nodup_snoc {o : OS} {ns : List Node} {nd : Node} (h : (osAs o ns).Nodup) (ha : nd.a ∉ osAs o ns) (hd : nd.d ∉ osAs o ns) (hn : nd.a ≠ nd.d) : (osAs o (ns ++ [nd])).Nodup := by
  have e : osAs o (ns ++ [nd]) = osAs o ns ++ [nd.a, nd.d] := by simp [osAs, nodeAs_append, nodeAs]
  rw [e, List.nodup_append]
  refine ⟨h, by simp [hn], fun x hx y hy q => ?_⟩
  subst q
  rcases List.mem_cons.mp hy with rfl | hy
  · exact ha hx
  · rw [List.mem_singleton.mp hy] at hx; exact hd hx
theorem nodup_tail {o : OS} {n : Node} {r : List Node} (h : (osAs o (n :: r)).Nodup) : (osAs o r).Nodup := by
  refine List.Sublist.nodup ?_ h
  simp only [osAs, nodeAs]
  exact List.Sublist.cons_cons _ (List.Sublist.cons_cons _ (List.Sublist.cons_cons _ (List.Sublist.cons_cons _ (List.Sublist.cons_cons _ (List.Sublist.cons _ (List.Sublist.cons _ (List.Sublist.refl _)))))))

set_option maxHeartbeats 1000000 in
theorem add_os {w : World} {loose : List Str} {mean : ExcName → Option Value} {mg mb : Str → Option Value} {dp un : Nat} {gd : Option (List Code)} {cn : Str} {cs : Scope} {L a : Addr} {ccd : Value} {cl : List (Str × Addr)} {outer : List Env} {A₀ : Around} {base h₀ : Heap}
    {m : Str → Option Value} {s : Shared} {Q E : Value → Shared → Prop} {o : OS} {ns : List Node} {rest : List (Addr × Obj)} {k : Str} {t : Nat}
    (B : Below A₀ base outer h₀) (F : Fr h₀ L s.heap m) (X : (PySem.Challenge.hd.heap_39 w.params).In h₀) (T : Top PySem.Challenge.hd.view_39 loose mean mg mb h₀) (hk : cs.kind = .function)
    (hdp : dp + 10 < recursionLimit) (hun : un + 100 < cLine)
    (N : News h₀ L s.heap (osL w o ns ++ rest)) (sep : ∀ p ∈ rest, p.1 ∉ osAs o ns) (ok : OSok w o ns) (hkn : k ∉ ns.map Node.k) (hz : ns.length < 100)
    (ret : ∀ h' tk' om' nd, nd.k = k → nd.t = t → Fr h₀ L h' m → News h₀ L h' (osL w (o.up om') (ns ++ [nd]) ++ rest) → (∀ p ∈ rest, p.1 ∉ osAs o (ns ++ [nd])) → OSok w (o.up om') (ns ++ [nd]) →
      Kept (osL w o ns ++ rest) (osL w (o.up om') (ns ++ [nd]) ++ rest) s.heap h' → Q .none { s with heap := h', toks := tk' }) :
    wpAny (model PySem.Challenge.rw_fc0213_01.row.prog w) (ktrTop dp un gd cn cs L a ccd cl outer) (call (.ref 68) [.ref o.x, .str k t]) Q E s := by
  have hv := valueAt_none hkn
  have hz' : (kvsOf ns).length ≤ 1000 := by simp [kvsOf]; omega
  -- what is shared by the two ways
  have fin : ∀ (h' : Heap) (tk' lb db : Nat) (om' : Obj), Fr h₀ L h' m → News h₀ L h' (osL w (o.up om') (ns ++ [⟨lb, db, k, t⟩])) → om'.IsDictOf (strKind PySem.Challenge.rw_fc0213_01.row.prog w) (stored (kvsOf ns) k (.ref lb)) →
      Kept (osL w o ns) (osL w (o.up om') (ns ++ [⟨lb, db, k, t⟩])) s.heap h' → lb ≠ db → lb ∉ osAs o ns → db ∉ osAs o ns → Q .none { s with heap := h', toks := tk' } := by
    intro h' tk' lb db om' F' N' hd' kk hn1 hn2 hn3
    have ha : ∀ {om : Obj} {nn : List Node}, osAs (o.up om) nn = osAs o nn := rfl
    have N2 := News.beside (rest := rest) (fun p hp => N p (List.mem_append_right _ hp)) (fun p hp => by rw [osL_as]; exact sep p hp) kk N'
    refine ret h' tk' om' ⟨lb, db, k, t⟩ rfl rfl F' N2 ?_ ?_ kk.widen
    · intro p hp
      have := (kk p.1 p.2 (N p (List.mem_append_right _ hp)).1 (by rw [osL_as]; exact sep p hp)).2
      rw [osL_as] at this; exact this
    · refine ⟨?_, ok.lo, nodup_snoc ok.nodup hn2 hn3 hn1, by simp; omega⟩
      rw [stored_new hkn] at hd'
      simpa [kvsOf] using hd'
  obtain ⟨a1, a2, a3, a4, b1, b2, b3, c1, c2, d1, hy, hnn⟩ := nodup_addr ok.nodup
  rcases List.eq_nil_or_concat ns with rfl | ⟨init, l, hil⟩
  · refine add_e B F X T hk hdp hun (News.sub N fun p hp => List.mem_append_left _ hp) ⟨a1, a2, a3, a4, b1, b2, b3, c1, c2, d1⟩ ok.dict ok.lo hv hz' fun h' tk' lb db om' F' N' hd' kk hlt => ?_
    have fl : ∀ d ob, s.heap.get? d = some ob → d ≠ lb := kk.fresh (by simp) (by simp; omega)
    have fd : ∀ d ob, s.heap.get? d = some ob → d ≠ db := kk.fresh (by simp) (by simp; omega)
    refine fin h' tk' lb db om' F' (News.sub N' fun p hp => ?_) hd' (kk.cg (fun x hx => by rw [osL_as]; exact hx) fun x hx => ?_) (by omega) (fun q => let ⟨ob, e⟩ := os_in N q; fl _ _ e rfl) (fun q => let ⟨ob, e⟩ := os_in N q; fd _ _ e rfl)
    · simp only [osL, links, lastA, firstA, List.nil_append, List.mem_cons, List.not_mem_nil, or_false] at hp ⊢
      rcases hp with h | h | h | h | h | h | h <;> simp [h]
    · rw [osL_as] at hx
      simp only [osAs, nodeAs, List.nil_append, List.mem_cons, List.not_mem_nil, or_false] at hx
      simp only [List.map_cons, List.map_nil, List.mem_cons, List.not_mem_nil, or_false]
      rcases hx with h | h | h | h | h | h | h <;> simp [h]
  · rw [List.concat_eq_append] at hil
    subst hil
    have hla : lastA (init ++ [l]) o.r = l.a := by rw [lastA_append]; rfl
    have hlk : links o.r (init ++ [l]) o.r = links o.r init l.a ++ [(l.a, linkO l.d (lastA init o.r) o.r l.k l.t), (l.d, dictOf [] 0)] := by rw [links_append]; rfl
    have hnA : nodeAs (init ++ [l]) = nodeAs init ++ [l.a, l.d] := by rw [nodeAs_append]; rfl
    have hya := hy l.a (by rw [hnA]; simp)
    have hyd := hy l.d (by rw [hnA]; simp)
    rw [hnA, List.nodup_append] at hnn
    obtain ⟨_, hn2, hn3⟩ := hnn
    have hld : NeF l.a l.d := (by simpa using hn2 : l.a ≠ l.d)
    refine add_ne (t1 := o.t1) (t2 := o.t2) (la := l.a) (ld := l.d) (pa := lastA init o.r) (f := firstA (init ++ [l]) o.r) (t' := l.t) (k' := l.k) B F X T hk hdp hun (News.sub N fun p hp => ?_) ⟨a1, a2, a3, a4, hya.1, hyd.1, b1, b2, b3, hya.2.1, hyd.2.1, c1, c2, hya.2.2.1, hyd.2.2.1, d1, hya.2.2.2.1, hyd.2.2.2.1, hya.2.2.2.2, hyd.2.2.2.2, hld⟩ ok.dict ok.lo hv hz' fun h' tk' lb db om' F' N' hd' kk hlt => ?_
    · simp only [osL, hla, hlk, List.mem_cons, List.mem_append, List.not_mem_nil, or_false] at hp ⊢
      rcases hp with h | h | h | h | h | h | h <;> simp [h]
    have fl : ∀ d ob, s.heap.get? d = some ob → d ≠ lb := kk.fresh (by simp) (by simp; omega)
    have fd : ∀ d ob, s.heap.get? d = some ob → d ≠ db := kk.fresh (by simp) (by simp; omega)
    have nfl : lb ∉ osAs o (init ++ [l]) := fun q => let ⟨ob, e⟩ := os_in N q; fl _ _ e rfl
    have nfd : db ∉ osAs o (init ++ [l]) := fun q => let ⟨ob, e⟩ := os_in N q; fd _ _ e rfl
    refine fin h' tk' lb db om' F' (fun p hp => ?_) hd' (fun b ob e nb => ?_) (by omega) nfl nfd
    · have hlk2 : links o.r (init ++ [l] ++ [⟨lb, db, k, t⟩]) o.r = links o.r init l.a ++ [(l.a, linkO l.d (lastA init o.r) lb l.k l.t), (l.d, dictOf [] 0), (lb, linkO db l.a o.r k t), (db, dictOf [] 0)] := by
        rw [links_append, links_append, hla]; simp [links, firstA]
      have hla2 : lastA (init ++ [l] ++ [⟨lb, db, k, t⟩]) o.r = lb := by rw [lastA_append]; rfl
      have hfa2 : firstA (init ++ [l] ++ [⟨lb, db, k, t⟩]) o.r = firstA (init ++ [l]) o.r := by cases init <;> rfl
      simp only [osL, hla2, hfa2, hlk2, List.mem_cons, List.mem_append, List.not_mem_nil, or_false] at hp
      rcases hp with h | h | h | h | h | h | h | h | h | h
      all_goals first
        | exact N' p (by simp only [List.mem_cons, List.not_mem_nil, or_false]; simp [h])
        | skip
      have hold : p ∈ osL w o (init ++ [l]) := by simp only [osL, hlk, List.mem_cons, List.mem_append]; simp [h]
      have hN := N p (List.mem_append_left _ hold)
      have hpa : p.1 ∈ nodeAs init := by rw [← links_as init o.r l.a]; exact List.mem_map_of_mem h
      have hyp := hy p.1 (by rw [hnA]; exact List.mem_append_left _ hpa)
      have h1 := hn3 p.1 hpa l.a (by simp)
      have h2 := hn3 p.1 hpa l.d (by simp)
      refine ⟨(kk p.1 p.2 hN.1 ?_).1, hN.2⟩
      simp only [List.map_cons, List.map_nil, List.mem_cons, List.not_mem_nil, or_false, not_or]
      exact ⟨hyp.1.symm.ne, hyp.2.1.symm.ne, hyp.2.2.1.symm.ne, hyp.2.2.2.1.symm.ne, hyp.2.2.2.2.symm.ne, h1, h2⟩
    · rw [osL_as] at nb ⊢
      have hsm : b ∉ ([(o.x, instObj 121 o.dx), (o.dx, osDict w o.t1 o.t2 o.r o.mm), (o.mm, o.om), (o.r, rootO o.dr l.a (firstA (init ++ [l]) o.r)), (o.dr, dictOf [] 0), (l.a, linkO l.d (lastA init o.r) o.r l.k l.t), (l.d, dictOf [] 0)] : List (Addr × Obj)).map (·.1) := by
        intro q
        apply nb
        simp only [List.map_cons, List.map_nil, List.mem_cons, List.not_mem_nil, or_false] at q
        simp only [osAs, hnA, List.mem_cons, List.mem_append, List.not_mem_nil, or_false]
        rcases q with h | h | h | h | h | h | h <;> simp [h]
      refine ⟨(kk b ob e hsm).1, ?_⟩
      have e3 : osAs (o.up om') (init ++ [l] ++ [⟨lb, db, k, t⟩]) = osAs o (init ++ [l]) ++ [lb, db] := by simp [osAs, nodeAs_append, nodeAs]
      rw [e3]
      simp only [List.mem_append, List.mem_cons, List.not_mem_nil, or_false, not_or]
      exact ⟨nb, fl _ _ e, fd _ _ e⟩
end Mine
end

section
open PySem PySem.W PyProof.Rows PySem.Calls
set_option maxRecDepth 100000
namespace Mine

set_option maxHeartbeats 1000000 in
theorem pop_os {w : World} {loose : List Str} {mean : ExcName → Option Value} {mg mb : Str → Option Value} {dp un : Nat} {gd : Option (List Code)} {cn : Str} {cs : Scope} {L a : Addr} {ccd : Value} {cl : List (Str × Addr)} {outer : List Env} {A₀ : Around} {base h₀ : Heap}
    {m : Str → Option Value} {s : Shared} {Q E : Value → Shared → Prop} {o : OS} {n : Node} {ns : List Node} {rest : List (Addr × Obj)}
    (B : Below A₀ base outer h₀) (F : Fr h₀ L s.heap m) (X : (PySem.Challenge.hd.heap_39 w.params).In h₀) (T : Top PySem.Challenge.hd.view_39 loose mean mg mb h₀) (hk : cs.kind = .function)
    (hdp : dp + 20 < recursionLimit) (hun : un + 200 < cLine)
    (N : News h₀ L s.heap (osL w o (n :: ns) ++ rest)) (sep : ∀ p ∈ rest, p.1 ∉ osAs o (n :: ns)) (ok : OSok w o (n :: ns)) (hB : AllBare s.gens)
    (ret : ∀ h' tk' om' G', AllBare G' → Fr h₀ L h' m → News h₀ L h' (osL w (o.up om') ns ++ rest) → (∀ p ∈ rest, p.1 ∉ osAs o ns) → OSok w (o.up om') ns →
      Kept (osL w o (n :: ns) ++ rest) (osL w (o.up om') ns ++ rest) s.heap h' → Q (.str n.k n.t) { s with heap := h', gens := G', toks := tk' }) :
    wpAny (model PySem.Challenge.rw_fc0213_01.row.prog w) (ktrTop dp un gd cn cs L a ccd cl outer) (call (.ref 97) [.ref o.x, .bool false]) Q E s := by
  have hz' : (kvsOf (n :: ns)).length ≤ 1000 := by have := ok.small; simp [kvsOf] at this ⊢; omega
  have hkeys := ok.keys
  have hnk : n.k ∉ ns.map Node.k := by simpa using (List.nodup_cons.mp hkeys).1
  have fin : ∀ (h' : Heap) (tk' : Nat) (om' : Obj) (G' : Array GenState), AllBare G' → Fr h₀ L h' m → News h₀ L h' (osL w (o.up om') ns) → om'.IsDictOf (strKind PySem.Challenge.rw_fc0213_01.row.prog w) (without (kvsOf (n :: ns)) n.k) →
      Kept (osL w o (n :: ns)) (osL w (o.up om') ns) s.heap h' → Q (.str n.k n.t) { s with heap := h', gens := G', toks := tk' } := by
    intro h' tk' om' G' hB' F' N' hd' kk
    have N2 := News.beside (rest := rest) (fun p hp => N p (List.mem_append_right _ hp)) (fun p hp => by rw [osL_as]; exact sep p hp) kk N'
    refine ret h' tk' om' G' hB' F' N2 (fun p hp q => sep p hp ?_) ?_ kk.widen
    · simp only [osAs, nodeAs, List.mem_cons] at q ⊢
      rcases q with h | h | h | h | h | h <;> simp [h]
    · refine ⟨?_, ok.lo, nodup_tail ok.nodup, by have := ok.small; simp at this; omega⟩
      rw [without_head hnk] at hd'
      exact hd'
  obtain ⟨a1, a2, a3, a4, b1, b2, b3, c1, c2, d1, hy, hnn⟩ := nodup_addr ok.nodup
  have hya := hy n.a (by simp [nodeAs])
  have hyd := hy n.d (by simp [nodeAs])
  have hv := valueAt_head n ns
  have N0 : News h₀ L s.heap (osL w o (n :: ns)) := News.sub N fun p hp => List.mem_append_left _ hp
  cases ns with
  | nil =>
    have hnd : NeF n.a n.d := (by simpa [nodeAs] using hnn : n.a ≠ n.d)
    exact pop_one (n := n) B F X T hk hdp hun N0 (fun p hp => hp) ⟨a1, a2, a3, a4, hya.1, hyd.1, b1, b2, b3, hya.2.1, hyd.2.1, c1, c2, hya.2.2.1, hyd.2.2.1, d1, hya.2.2.2.1, hyd.2.2.2.1, hya.2.2.2.2, hyd.2.2.2.2, hnd⟩ ok ok.dict ok.lo hv hz' hB fun h' tk' om' G' hB' F' N' hd' kk => fin h' tk' om' G' hB' F' N' hd' kk
  | cons b r =>
    have hba := hy b.a (by simp [nodeAs])
    have hbd := hy b.d (by simp [nodeAs])
    simp only [nodeAs, List.nodup_cons, List.mem_cons, not_or] at hnn
    obtain ⟨⟨m1, m2, m3, m4⟩, ⟨m5, m6, m7⟩, ⟨m8, m9⟩, m10, m11⟩ := hnn
    have tl : ∀ p ∈ links b.a r o.r, p.1 ∈ nodeAs r := fun p hp => by rw [← links_as r b.a o.r]; exact List.mem_map_of_mem hp
    exact pop_two (n := n) (b := b) (rest := r) B F X T hk hdp hun N0 (fun p hp => hp) ⟨a1, a2, a3, a4, hya.1, hyd.1, hba.1, hbd.1, b1, b2, b3, hya.2.1, hyd.2.1, hba.2.1, hbd.2.1, c1, c2, hya.2.2.1, hyd.2.2.1, hba.2.2.1, hbd.2.2.1, d1, hya.2.2.2.1, hyd.2.2.2.1, hba.2.2.2.1, hbd.2.2.2.1, hya.2.2.2.2, hyd.2.2.2.2, hba.2.2.2.2, hbd.2.2.2.2, m1, m2, m3, m5, m6, m8⟩
      (fun p hp => (hy p.1 (by simp [nodeAs, tl p hp])).2.2.1.symm.ne) (fun p hp => (hy p.1 (by simp [nodeAs, tl p hp])).2.2.2.1.symm.ne) (fun p hp e => m9 (e ▸ tl p hp)) ok ok.dict ok.lo hv hz' hB fun h' tk' om' G' hB' F' N' hd' kk => fin h' tk' om' G' hB' F' N' hd' kk
end Mine
end

section
open PySem PySem.W PyProof.Rows PySem.Calls
set_option maxRecDepth 100000
namespace Mine
local macro_rules | `(tactic| walk_at "mine pad 0") => `(tactic| fail)
local macro_rules | `(tactic| walk_at "mine pad 1") => `(tactic| fail)
local macro_rules | `(tactic| walk_at "mine pad 2") => `(tactic| fail)
local macro_rules | `(tactic| walk_at "mine pad 3") => `(tactic| fail)
local macro_rules | `(tactic| walk_at "mine pad 4") => `(tactic| fail)
local macro_rules | `(tactic| walk_at "mine pad 5") => `(tactic| fail)
local macro_rules | `(tactic| walk_at "mine pad 6") => `(tactic| fail)
local macro_rules | `(tactic| walk_at "mine pad 7") => `(tactic| fail)
local macro_rules | `(tactic| walk_at "mine pad 8") => `(tactic| fail)
local macro_rules | `(tactic| walk_at "mine pad 9") => `(tactic| fail)
local macro_rules | `(tactic| walk_at "mine pad 10") => `(tactic| fail)
local macro_rules | `(tactic| walk_at "mine pad 11") => `(tactic| fail)
local macro_rules | `(tactic| walk_at "mine pad 12") => `(tactic| fail)
local macro_rules | `(tactic| walk_at "mine pad 13") => `(tactic| fail)
local macro_rules | `(tactic| walk_at "mine pad 14") => `(tactic| fail)
local macro_rules | `(tactic| walk_at "mine pad 15") => `(tactic| fail)
theorem refill8 : ∀ (w : World) (h : Heap), (PySem.Challenge.hd.heap_39 w.params).In h → (PySem.Challenge.hd.heap_39 w.params).In h ∧ PySem.Challenge.rw_fc0213_01.foot = 3 := by
  k_fill
  exact fun _ _ x => ⟨x, rfl⟩
local macro_rules | `(tactic| k_ne) => `(tactic| (refine neN ?_; (try dsimp only); first | (refine NeF.ne ?_; with_reducible assumption) | (refine NeF.ne (NeF.symm ?_); with_reducible assumption) | omega))
local macro_rules | `(tactic| walk_at "compareOp NotIn str ref") => `(tactic| (k_here; (refine' mp_notin ?N ?hm ?hd ?lo ?hv ?_; (case N => k_asm); (case hm => k_mem); (case hd => k_asm); (case lo => k_asm); (case hv => k_asm))))
local macro_rules | `(tactic| walk_at "setItem ref str") => `(tactic| (k_here; (refine' mp_set ?F ?N ?U ?hd ?hz ?_; (case F => k_asm); (case N => k_asm); (case U => k_updF); (case hd => k_asm); (case hz => k_asm); k_whole; intro h' o' F' N' d'; (try dsimp only at N'); (try k_sweep))))
local macro_rules | `(tactic| k_room) => `(tactic| ((try simp only [depth_under_make, depth_under_kw, depth_in1, depth_deeper, depth_caller]); (try dsimp only [ktrTop]); omega))
local macro_rules | `(tactic| walk_at "LeaveS") => `(tactic| (k_dflt (refine' leaveS_ ?F ?N ?_; (case F => k_asm); (case N => k_asm); k_whole); intro kF kN kK; (try dsimp only)))
local macro_rules | `(tactic| k_enter) => `(tactic| (refine' code_split ?k1 ?k2 ?k3 ?k4 ?k5 ?kA ?kF ?kK ?k6 ?k7 ?k8 ?k9 ?kB ?_ ?c2 ?c3 ?c4 ?c5; (case kA => exact rfl); (case kF => exact rfl); (case kK => assumption); (case k1 => k_asm); (case k2 => k_asm); (case k3 => k_asm); (case k4 => k_asm); (case k5 => k_asm); (case k6 => k_is); (case k7 => k_is); (case k8 => k_room); (case k9 => first | exact BindsTo.of_eq rfl | exact binds_K (by k_in) rfl (by k_is) rfl rfl rfl); (case c5 => decide); (case kB => exact locs rfl); (case c2 => exact rfl); (case c3 => exact rfl); (case c4 => exact rfl); k_whole; intro g' L' h' FG' F' N' B' X' T' hG; (try dsimp only); (try k_fold)))

local macro_rules | `(tactic| walk_at "LeaveS") => `(tactic| (k_dflt (refine' leaveS_ ?F ?N ?_; (case F => k_asm); (case N => k_asm); k_whole); intro kF kN kK; (try dsimp only [InitBack]); (try refine ⟨rfl, ?_⟩)))
section
variable {prog : Program} {w : World} {A : Around} {s : Shared} {K : Frag} {L C : Addr} {h₀ : Heap} {m : Str → Option Value} {R : Result → Shared → Prop}
theorem make_split {rest : List Value} {kw : List (Str × Value)} {fI : Addr} (F : Fr h₀ L s.heap m) (X : K.In s.heap) (hm : makesIn K C = true)
    (hi : findIn K (.ref C) "__init__" = some (some (.ref fI))) (hf : isFn K (.ref fI) = true)
    (h : ∀ (x dx : Nat) h', Fr h₀ L h' m → News h₀ L h' [(x, instObj C dx), (dx, dictOf [] 0)] → Kept [] [(x, instObj C dx), (dx, dictOf [] 0)] s.heap h' → dx < x → (∀ b o, s.heap.get? b = some o → h'.get? b = some o ∧ @LT.lt Nat _ b dx) →
      codeAny (model prog w) (A.under (.builtin "type.__call__" ⟨.ref C :: rest, kw⟩)) (.call (.ref fI) ⟨.ref x :: rest, kw⟩) (InitBack x R) { s with heap := h' }) :
    codeAny (model prog w) A (.call (.ref C) ⟨rest, kw⟩) R s := by
  obtain ⟨hh, g, d, t, os⟩ := s
  have up : ∀ b o, hh.get? b = some o → ((hh.push emptyDict).push (instObj C hh.objs.size)).get? b = some o := fun b o e => Heap.get?_push_of_some _ (Heap.get?_push_of_some _ e)
  refine make_core (makes_of X hm) (looks_findIn X hi) (fun self => bind_fn X self (beq_iff_eq.mp hf)) (.inl rfl) (h _ hh.objs.size _ ((F.push _).push _) ?_ (fun b o e _ => ⟨up b o e, ?_⟩) (Nat.lt_succ_self _) fun b o e => ⟨up b o e, Heap.lt_size e⟩)
  · have := ((News.nil (h₀ := h₀) (L := L) (h := hh)).push F emptyDict).push (F.push _) (instObj C hh.objs.size)
    rwa [Heap.size_push] at this
  · have hlt : (b : Nat) < hh.objs.size := Heap.lt_size e
    simp only [List.map_cons, List.map_nil, List.mem_cons, List.not_mem_nil, or_false, not_or]
    exact ⟨Nat.ne_of_lt (Nat.lt_succ_of_lt hlt), Nat.ne_of_lt hlt⟩
end
theorem os_fresh {w : World} {h₀ h h1 h' : Heap} {L : Addr} {x dx r dr mm t1 t2 : Nat} {om : Obj}
    (N : News h₀ L h' [(mm, om), (r, rootO dr r r), (dr, dictOf [] 0), (x, instObj 121 dx), (dx, osDict w t1 t2 r mm)])
    (k1 : Kept [] [(x, instObj 121 dx), (dx, dictOf [] 0)] h h1)
    (k2 : Kept [(x, instObj 121 dx), (dx, dictOf [] 0)] [(mm, om), (r, rootO dr r r), (dr, dictOf [] 0), (x, instObj 121 dx), (dx, osDict w t1 t2 r mm)] h1 h')
    (hd : om.IsDictOf (strKind PySem.Challenge.rw_fc0213_01.row.prog w) []) (lo : (mm == sysModules) = false) (hlt : dx < x ∧ x < dr ∧ dr < r ∧ r < mm) :
    ∃ o : OS, o.x = x ∧ News h₀ L h' (osL w o []) ∧ OSok w o [] ∧ Kept [] (osL w o []) h h' := by
  refine ⟨⟨x, dx, t1, t2, r, dr, mm, om⟩, rfl, News.sub N fun p hp => ?_, ⟨hd, lo, ?_, Nat.zero_le _⟩, (k1.trans k2).cg (fun _ h => h) fun y hy => ?_⟩
  · simp only [osL, links, lastA, firstA, List.mem_cons, List.not_mem_nil, or_false] at hp ⊢
    rcases hp with h | h | h | h | h <;> simp [h]
  · simp only [osAs, nodeAs, List.nodup_cons, List.mem_cons, List.not_mem_nil, or_false, not_or, not_false_eq_true, List.nodup_nil, and_true]
    omega
  · rw [osL_as] at hy
    simp only [osAs, nodeAs, List.mem_cons, List.not_mem_nil, or_false] at hy
    simp only [List.map_cons, List.map_nil, List.mem_cons, List.not_mem_nil, or_false]
    rcases hy with h | h | h | h | h <;> simp [h]
set_option maxHeartbeats 8000000 in
theorem new_none {w : World} {loose : List Str} {mean : ExcName → Option Value} {mg mb : Str → Option Value} {dp un : Nat} {gd : Option (List Code)} {cn : Str} {cs : Scope} {L a : Addr} {ccd : Value} {cl : List (Str × Addr)} {outer : List Env} {A₀ : Around} {base h₀ : Heap}
    {m : Str → Option Value} {s : Shared} {Q E : Value → Shared → Prop}
    (B : Below A₀ base outer h₀) (F : Fr h₀ L s.heap m) (X : (PySem.Challenge.hd.heap_39 w.params).In h₀) (T : Top PySem.Challenge.hd.view_39 loose mean mg mb h₀) (hk : cs.kind = .function)
    (hdp : dp + 20 < recursionLimit) (hun : un + 200 < cLine)
    (ret : ∀ h' tk' o, Fr h₀ L h' m → News h₀ L h' (osL w o []) → OSok w o [] → Kept [] (osL w o []) s.heap h' → Q (.ref o.x) { s with heap := h', toks := tk' }) :
    wpAny (model PySem.Challenge.rw_fc0213_01.row.prog w) (ktrTop dp un gd cn cs L a ccd cl outer) (call (.ref 121) []) Q E s := by
  have _ := hun
  refine wpAny_call ?_
  k_dflt (refine' make_split ?k1 ?k3 ?k4 ?k5 ?k6 ?_; (case k1 => k_asm); (case k3 => k_in); (case k4 => k_is); (case k5 => k_is); (case k6 => k_is); k_whole)
  intro x dx h' F1 N1 K1 hlt up
  k_dflt k_enter
  k_steps
  obtain ⟨o, e, N9, ok9, k9⟩ := os_fresh (h₀ := h₀) (L := L) (by assumption) K1 (by assumption) (by assumption) (by assumption) (by omega)
  rw [← e]
  exact ret _ _ o (by assumption) N9 ok9 k9
end Mine
end

section
open PySem PySem.W PyProof.Rows PySem.Calls
set_option maxRecDepth 100000
namespace Mine
section
variable {prog : Program} {w : World} {A : Around} {E : Value → Shared → Prop} {s : Shared} {env : Env}
def ForAt (prog : Program) (w : World) (A : Around) (E : Value → Shared → Prop) (env : Env) (v : Str) (px : Pos) (body : List Stmt) (Q : Flow → Shared → Prop) (it : Value) (s₂ : Shared) : Prop :=
  ∃ I, it = .ref I ∧ codeAny (model prog w) A (.forLoop (.Name v px) (.ref I) body [] env) (fun r s' => match r with | .ok f => Q f s' | .error e => cameBackBy (model prog w) A env E e s') s₂
theorem fo_for {v : Str} {px pos : Pos} {iter : Expr} {body : List Stmt} {Q : Flow → Shared → Prop}
    (h : wpAny (model prog w) A (eval iter env) (fun xv s₁ => wpAny (model prog w) A (pyIter xv) (ForAt prog w A E env v px body Q) E s₁) E s)
    (hs : ∀ x, foldedSetIterable iter env x = pure x := by intro _; rfl) :
    wpAny (model prog w) A (exec (.For (.Name v px) iter body [] pos) env) Q E s :=
  wpAny_For (wpAny_mono h (fun xv s₁ h₁ => wpAny_mono h₁ (fun it s₂ h₂ => by obtain ⟨I, rfl, h₂⟩ := h₂; exact h₂) fun _ _ z => z) fun _ _ z => z) hs
def Turned (J : Shared → Prop) (Q : Flow → Shared → Prop) (f : Flow) (s₄ : Shared) : Prop := match f with
  | .next => J s₄
  | .cont => J s₄
  | .brk => Q .next s₄
  | .ret x => Q (.ret x) s₄
theorem for_turns {v : Str} {px : Pos} {body : List Stmt} {Q : Flow → Shared → Prop} {I : Addr} {fp wr : List Addr} {n : Nat} {P : Nat → Value → Prop} {St : Nat → Heap → Prop}
    (W : Walks prog w A I fp wr n P St) (J : Nat → Shared → Prop) (hJ : J 0 s) (hst : ∀ i s', i ≤ n → J i s' → St i s'.heap)
    (turn : ∀ i s' v' h₁ tk₁, i < n → J i s' → P i v' → St (i + 1) h₁ → (∀ b o, b ∉ wr → s'.heap.get? b = some o → h₁.get? b = some o) →
      wpAny (model prog w) A (storeName env v v') (fun _ s₃ => wpAny (model prog w) A (execs body env) (Turned (J (i + 1)) Q) E s₃) E { s' with heap := h₁, toks := tk₁ })
    (done : ∀ s' h₁ tk₁, J n s' → (∀ b o, b ∉ wr → s'.heap.get? b = some o → h₁.get? b = some o) → Q .next { s' with heap := h₁, toks := tk₁ })
    (hE : PassesOwn (model prog w) A env E := by passes_own) : ForAt prog w A E env v px body Q (.ref I) s := by
  refine ⟨I, rfl, codeAny_forLoop (R := fun r s' => match r with | .ok f => Q f s' | .error e => cameBackBy (model prog w) A env E e s') (fun k s' => ∃ i, J i s' ∧ i ≤ n ∧ k = n + 1 - i) ?_ (n + 1) ⟨0, hJ, Nat.zero_le _, rfl⟩⟩
  rintro k s' ⟨i, hJi, hi, rfl⟩
  by_cases hlt : i < n
  · refine wpAny_passesOwn hE (W.item i s' _ _ hlt (hst i s' hi hJi) fun v' h₁ tk₁ hP hs₁ hk₁ => ?_)
    refine wpAny_passesOwn hE (wpAny_assign_Name (wpAny_mono (turn i s' v' h₁ tk₁ hlt hJi hP hs₁ hk₁) (fun _ s₂ h₂ => ?_) fun _ _ z => z))
    refine wpAny_passesOwn hE (wpAny_mono h₂ (fun f s₃ h₃ => ?_) fun _ _ z => z)
    cases f with
    | next => exact ⟨n + 1 - (i + 1), by omega, i + 1, h₃, hlt, rfl⟩
    | cont => exact ⟨n + 1 - (i + 1), by omega, i + 1, h₃, hlt, rfl⟩
    | brk => exact h₃
    | ret _ => exact h₃
  · have hin : i = n := by omega
    subst hin
    exact W.done s' _ _ (hst i s' hi hJi) fun h₁ tk₁ hk₁ => wpAny_execs_nil (done s' h₁ tk₁ hJi hk₁)
end
end Mine
end

section
open PySem PySem.W PyProof.Rows PySem.Calls
set_option maxRecDepth 100000
namespace Mine
local macro_rules | `(tactic| walk_at "mine pad 0") => `(tactic| fail)
local macro_rules | `(tactic| walk_at "mine pad 1") => `(tactic| fail)
local macro_rules | `(tactic| walk_at "mine pad 2") => `(tactic| fail)
local macro_rules | `(tactic| walk_at "mine pad 3") => `(tactic| fail)
local macro_rules | `(tactic| walk_at "mine pad 4") => `(tactic| fail)
local macro_rules | `(tactic| walk_at "mine pad 5") => `(tactic| fail)
local macro_rules | `(tactic| walk_at "mine pad 6") => `(tactic| fail)
local macro_rules | `(tactic| walk_at "mine pad 7") => `(tactic| fail)
local macro_rules | `(tactic| walk_at "mine pad 8") => `(tactic| fail)
local macro_rules | `(tactic| walk_at "mine pad 9") => `(tactic| fail)
local macro_rules | `(tactic| walk_at "mine pad 10") => `(tactic| fail)
local macro_rules | `(tactic| walk_at "mine pad 11") => `(tactic| fail)
local macro_rules | `(tactic| walk_at "mine pad 12") => `(tactic| fail)
local macro_rules | `(tactic| walk_at "mine pad 13") => `(tactic| fail)
theorem refill9 : ∀ (w : World) (h : Heap), (PySem.Challenge.hd.heap_39 w.params).In h → (PySem.Challenge.hd.heap_39 w.params).In h ∧ PySem.Challenge.rw_fc0213_01.foot = 3 := by
  k_fill
  exact fun _ _ x => ⟨x, rfl⟩
local macro_rules | `(tactic| k_ne) => `(tactic| (refine neN ?_; (try dsimp only); first | (refine NeF.ne ?_; with_reducible assumption) | (refine NeF.ne (NeF.symm ?_); with_reducible assumption) | omega))
local macro_rules | `(tactic| walk_at "compareOp NotIn str ref") => `(tactic| (k_here; (refine' mp_notin ?N ?hm ?hd ?lo ?hv ?_; (case N => k_asm); (case hm => k_mem); (case hd => k_asm); (case lo => k_asm); (case hv => k_asm))))
local macro_rules | `(tactic| walk_at "setItem ref str") => `(tactic| (k_here; (refine' mp_set ?F ?N ?U ?hd ?hz ?_; (case F => k_asm); (case N => k_asm); (case U => k_updF); (case hd => k_asm); (case hz => k_asm); k_whole; intro h' o' F' N' d'; (try dsimp only at N'); (try k_sweep))))
local macro_rules | `(tactic| k_room) => `(tactic| ((try simp only [depth_under_make, depth_under_kw, depth_in1, depth_deeper, depth_caller]); (try dsimp only [ktrTop]); omega))
local macro_rules | `(tactic| walk_at "LeaveS") => `(tactic| (k_dflt (refine' leaveS_ ?F ?N ?_; (case F => k_asm); (case N => k_asm); k_whole); intro kF kN kK; (try dsimp only)))
local macro_rules | `(tactic| k_enter) => `(tactic| (refine' code_split ?k1 ?k2 ?k3 ?k4 ?k5 ?kA ?kF ?kK ?k6 ?k7 ?k8 ?k9 ?kB ?_ ?c2 ?c3 ?c4 ?c5; (case kA => exact rfl); (case kF => exact rfl); (case kK => assumption); (case k1 => k_asm); (case k2 => k_asm); (case k3 => k_asm); (case k4 => k_asm); (case k5 => k_asm); (case k6 => k_is); (case k7 => k_is); (case k8 => k_room); (case k9 => first | exact BindsTo.of_eq rfl | exact binds_K (by k_in) rfl (by k_is) rfl rfl rfl); (case c5 => decide); (case kB => exact locs rfl); (case c2 => exact rfl); (case c3 => exact rfl); (case c4 => exact rfl); k_whole; intro g' L' h' FG' F' N' B' X' T' hG; (try dsimp only); (try k_fold)))

def CallStop (P : Prop) : Prop := P
theorem CallStop.mk {P : Prop} (h : CallStop P) : P := h
theorem CallStop.go {P : Prop} (h : P) : CallStop P := h
def IsLst (lo : Obj) (ys : List Value) : Prop := lo.cls = .type "list" ∧ ∃ n, lo.data = .seq ys.toArray n
theorem IsLst.at {lo : Obj} {ys : List Value} {h : Heap} {a : Addr} (x : IsLst lo ys) (e : h.get? a = some lo) : h.IsList a ys.toArray := ⟨lo, e, x.1, x.2⟩
local macro_rules | `(tactic| walk_at "LeaveS") => `(tactic| (k_dflt (refine' leaveS_ ?F ?N ?_; (case F => k_asm); (case N => k_asm); k_whole); intro kF kN kK; (try dsimp only [InitBack]); (try refine ⟨rfl, ?_⟩)))
local macro_rules | `(tactic| k_units) => `(tactic| ((try simp only [units_in1, units_deeper, Around.mark_units, units_caller, units_under_make]); (try dsimp only [ktrTop]); omega))
local macro_rules | `(tactic| walk_at "exec For Name Name cons nil") => `(tactic| (k_here; k_dflt (refine fo_for ?_)))
local macro_rules | `(tactic| walk_at "pyIter ref") => `(tactic| (k_here; refine CallStop.mk ?_))
local macro_rules | `(tactic| walk_at "call ref") => `(tactic| (k_here; (with_reducible show wpAny _ _ (call (Value.ref 68) _ _) _ _ _); refine CallStop.mk ?_))
abbrev kv (p : Str × Nat) : Value := .str p.1 p.2
theorem lookup_two (y a b : Str) (v u : Value) : List.lookup y [(a, v), (b, u)] = if y = a then some v else if y = b then some u else none := by
  by_cases h : y = a
  · subst h; simp [List.lookup]
  · have h' : (y == a) = false := beq_eq_false_iff_ne.mpr h
    simp only [List.lookup, h', if_neg h]
    by_cases h2 : y = b
    · subst h2; simp
    · have h2' : (y == b) = false := beq_eq_false_iff_ne.mpr h2
      simp [h2, h2']
abbrev mI (x D r : Nat) (kk : Option Value) : Str → Option Value := fun y => if y = Str.ofString "key" then kk else if y = Str.ofString "root" then some (.ref r) else if y = Str.ofString "iterable" then some (.ref D) else if y = Str.ofString "self" then some (.ref x) else none
theorem mI_start {x D r : Nat} (y : Str) : (if y = Str.ofString "root" then some (Value.ref r) else List.lookup y [(Str.ofString "iterable", Value.ref D), (Str.ofString "self", Value.ref x)]) = mI x D r none y := by
  rw [lookup_two]
  by_cases h : y = Str.ofString "key"
  · subst h; rfl
  · simp only [mI, if_neg h]
theorem mI_key {x D r : Nat} {kk v : Option Value} (y : Str) : (if y = Str.ofString "key" then v else mI x D r kk y) = mI x D r v y := by
  by_cases h : y = Str.ofString "key"
  · simp only [mI, if_pos h]
  · simp only [mI, if_neg h]
def IterO (oI : Obj) (D i : Nat) : Prop := oI.cls = .type "list_iterator" ∧ oI.data = .fields #[.ref D, .int i 0]
theorem iter_list {prog : Program} {w : World} {A : Around} {E : Value → Shared → Prop} {s : Shared} {g : Heap} {L D : Nat} {m : Str → Option Value} {own : List (Addr × Obj)} {lo : Obj} {ys : List Value} {Q : Value → Shared → Prop} (F : Fr g L s.heap m) (N : News g L s.heap own) (hm : (D, lo) ∈ own) (hl : IsLst lo ys)
    (h : ∀ (I : Nat) oI h', Fr g L h' m → News g L h' ((I, oI) :: own) → IterO oI D 0 → (∀ p ∈ own, @LT.lt Nat _ p.1 I) → Q (.ref I) { s with heap := h' }) : wpAny (model prog w) A (pyIter (.ref D)) Q E s :=
  wpAny_pyIter_list (hl.at (N _ hm).1) (h _ _ _ (F.push _) (N.push F _) ⟨rfl, rfl⟩ fun p hp => Heap.lt_size (N p hp).1)
theorem os_fresh2 {w : World} {h₀ h' : Heap} {L : Addr} {x dx r dr mm t1 t2 : Nat} {om : Obj} {rest : List (Addr × Obj)}
    (N : News h₀ L h' ((mm, om) :: (r, rootO dr r r) :: (dr, dictOf [] 0) :: (x, instObj 121 dx) :: (dx, osDict w t1 t2 r mm) :: rest))
    (hd : om.IsDictOf (strKind PySem.Challenge.rw_fc0213_01.row.prog w) []) (lo : (mm == sysModules) = false) (hlt : dx < x ∧ x < dr ∧ dr < r ∧ r < mm) :
    ∃ o : OS, o.x = x ∧ o.r = r ∧ o.dx = dx ∧ News h₀ L h' (osL w o [] ++ rest) ∧ OSok w o [] ∧ ∀ y, y ∈ osAs o [] ↔ y = x ∨ y = dx ∨ y = mm ∨ y = r ∨ y = dr := by
  refine ⟨⟨x, dx, t1, t2, r, dr, mm, om⟩, rfl, rfl, rfl, News.sub N fun p hp => ?_, ⟨hd, lo, ?_, Nat.zero_le _⟩, fun y => by simp [osAs, nodeAs]⟩
  · simp only [osL, links, lastA, firstA, List.mem_cons, List.cons_append, List.nil_append] at hp ⊢
    rcases hp with h | h | h | h | h | h <;> simp [h]
  · simp only [osAs, nodeAs, List.nodup_cons, List.mem_cons, List.not_mem_nil, or_false, not_or, not_false_eq_true, List.nodup_nil, and_true]
    omega
/-- the state of the loop in __init__ -/
def JI (w : World) (g : Heap) (L' : Nat) (s₂ : Shared) (o : OS) (D : Nat) (lo : Obj) (I : Nat) (ks : List (Str × Nat)) (i : Nat) (s' : Shared) : Prop :=
  ∃ h' tk om us kk oI, s' = { s₂ with heap := h', toks := tk } ∧ Fr g L' h' (mI o.x D o.r kk) ∧ News g L' h' (osL w (o.up om) us ++ [(D, lo), (I, oI)]) ∧
    (∀ p ∈ [(D, lo), (I, oI)], p.1 ∉ osAs o us) ∧ OSok w (o.up om) us ∧ us.map (fun n : Node => (n.k, n.t)) = ks.take i ∧ IterO oI D i
set_option maxHeartbeats 8000000 in
theorem new_list {w : World} {loose : List Str} {mean : ExcName → Option Value} {mg mb : Str → Option Value} {dp un : Nat} {gd : Option (List Code)} {cn : Str} {cs : Scope} {L a : Addr} {ccd : Value} {cl : List (Str × Addr)} {outer : List Env} {A₀ : Around} {base h₀ : Heap}
    {m : Str → Option Value} {s : Shared} {Q E : Value → Shared → Prop} {D : Nat} {lo : Obj} {ks : List (Str × Nat)}
    (B : Below A₀ base outer h₀) (F : Fr h₀ L s.heap m) (X : (PySem.Challenge.hd.heap_39 w.params).In h₀) (T : Top PySem.Challenge.hd.view_39 loose mean mg mb h₀) (hk : cs.kind = .function)
    (hdp : dp + 40 < recursionLimit) (hun : un + 400 < cLine)
    (N : News h₀ L s.heap [(D, lo)]) (hl : IsLst lo (ks.map kv)) (hkn : (ks.map (·.1)).Nodup) (hz : ks.length ≤ 50)
    (ret : ∀ h' tk' o ns, ns.map (fun n : Node => (n.k, n.t)) = ks → Fr h₀ L h' m → News h₀ L h' (osL w o ns ++ [(D, lo)]) → D ∉ osAs o ns → OSok w o ns → Kept [(D, lo)] (osL w o ns ++ [(D, lo)]) s.heap h' → Q (.ref o.x) { s with heap := h', toks := tk' }) :
    wpAny (model PySem.Challenge.rw_fc0213_01.row.prog w) (ktrTop dp un gd cn cs L a ccd cl outer) (call (.ref 121) [.ref D]) Q E s := by
  have _ := hun
  refine wpAny_call ?_
  k_dflt (refine' make_split ?k1 ?k3 ?k4 ?k5 ?k6 ?_; (case k1 => k_asm); (case k3 => k_in); (case k4 => k_is); (case k5 => k_is); (case k6 => k_is); k_whole)
  intro x dx h' F1 N1 K1 hlt up
  have hDx := (up D lo (N _ (List.mem_cons_self ..)).1).2
  have N2 : News h₀ L h' [(x, instObj 121 dx), (dx, dictOf [] 0), (D, lo)] := fun p hp => by
    rcases List.mem_append.mp (show p ∈ [(x, instObj 121 dx), (dx, dictOf [] 0)] ++ [(D, lo)] from hp) with hp | hp
    · exact N1 p hp
    · exact ⟨(up _ _ (N p hp).1).1, (N p hp).2⟩
  clear N1
  k_dflt (refine' code_split ?k1 ?k2 ?k3 ?k4 ?k5 ?kA ?kF ?kK ?k6 ?k7 ?k8 ?k9 ?kB ?_ ?c2 ?c3 ?c4 ?c5; (case kA => exact rfl); (case kF => exact rfl); (case kK => assumption); (case k1 => k_asm); (case k2 => k_asm); (case k3 => k_asm); (case k4 => k_asm); (case k5 => k_asm); (case k6 => k_is); (case k7 => k_is); (case k8 => k_room); (case k9 => first | exact BindsTo.of_eq rfl | exact binds_K (by k_in) rfl (by k_is) rfl rfl rfl); (case c5 => decide); (case kB => exact locs rfl); (case c2 => exact rfl); (case c3 => exact rfl); (case c4 => exact rfl); k_whole)
  intro g L1 he FG FE NE BE XE TE hG
  (try dsimp only)
  (try k_fold)
  k_steps
  (with_reducible rename Fr _ _ _ _ => F5)
  (with_reducible rename News _ _ _ _ => N5)
  obtain ⟨o, ex, er, edx, N6, ok6, has⟩ := os_fresh2 (rest := [(D, lo)]) N5 (by assumption) (by assumption) (by omega)
  have F6 := Fr.cg F5 fun y => mI_start y
  subst ex er
  have hDo : D ∉ osAs o [] := fun q => by have := (has D).mp q; omega
  clear F5 N5
  have hD6 := N6 (D, lo) (by simp)
  refine CallStop.go ?_
  refine iter_list F6 N6 (by simp) hl fun I oI h7 F7 N7 hI hlt7 => ?_
  have hDI : D ≠ I := Nat.ne_of_lt (hlt7 (D, lo) (by simp))
  have hDI : D ≠ I := Nat.ne_of_lt (hlt7 (D, lo) (by simp))
  have hsz : (ks.map kv).toArray.size = ks.length := by simp
  refine for_turns (n := (ks.map kv).toArray.size) (Walks.list rfl I D hDI (ks.map kv).toArray) (fun i s' => JI w g L1 s o D lo I ks i s') ?_ ?_ ?_ ?_
  · refine ⟨h7, _, o.om, [], none, oI, rfl, F7, News.sub N7 fun p hp => ?_, fun p hp => ?_, ok6, rfl, hI⟩
    · simp only [List.mem_append, List.mem_cons, List.not_mem_nil, or_false] at hp ⊢
      rcases hp with h | h | h
      · exact .inr (.inl h)
      · exact .inr (.inr h)
      · exact .inl h
    · rcases List.mem_cons.mp hp with rfl | hp
      · exact hDo
      · rw [List.mem_singleton.mp hp]
        intro q
        obtain ⟨ob, hm⟩ := (osAs_mem (w := w)).mp q
        exact Nat.lt_irrefl _ (hlt7 _ (List.mem_append_left _ hm))
  · rintro i s' hi ⟨h8, tk8, om8, us8, kk8, oI8, rfl, F8, N8, sep8, ok8, hus8, hI8⟩
    exact ⟨⟨oI8, (N8 (I, oI8) (by simp)).1, hI8.1, hI8.2⟩, hl.at (N8 (D, lo) (by simp)).1⟩
  · rintro i s' v' h₁ tk₁ hi ⟨h8, tk8, om8, us8, kk8, oI8, rfl, F8, N8, sep8, ok8, hus8, hI8⟩ hv hst hk1
    have hi' : i < ks.length := by simpa using hi
    have hv' : v' = kv ks[i] := by
      have : (ks.map kv)[i]? = some v' := by simpa using hv
      rw [List.getElem?_map, List.getElem?_eq_getElem hi'] at this
      exact (Option.some.inj this).symm
    subst hv'
    obtain ⟨⟨oI9, ho9, hc9, hd9⟩, _⟩ := hst
    have hIN := N8 (I, oI8) (by simp)
    have hIo : I ∉ osAs o us8 := sep8 (I, oI8) (by simp)
    obtain ⟨F9, N9⟩ := kept_since (h' := h₁) (news := osL w (o.up om8) us8 ++ [(D, lo)]) hIN.2.1 (fun p hp e => by
      rcases List.mem_append.mp hp with hp | hp
      · exact hIo (by have h1 : p.1 ∈ osAs o us8 := (osAs_mem (w := w) (o := o.up om8)).mpr ⟨p.2, hp⟩
                      have e' : p.1 = I := e
                      rw [e'] at h1; exact h1)
      · rw [List.mem_singleton.mp hp] at e; exact hDI e) hIN.2.2 F8 (News.sub N8 fun p hp => by
      rcases List.mem_append.mp hp with hp | hp
      · exact List.mem_append_left _ hp
      · rw [List.mem_singleton.mp hp]; simp) fun b ob hb e => hk1 b ob (by simpa using hb) e
    have N9' : News g L1 h₁ (osL w (o.up om8) us8 ++ [(D, lo), (I, oI9)]) := fun p hp => by
      rcases List.mem_append.mp hp with hp | hp
      · exact N9 p (List.mem_append_left _ hp)
      · rcases List.mem_cons.mp hp with rfl | hp
        · exact N9 _ (by simp)
        · rw [List.mem_singleton.mp hp]; exact ⟨ho9, hIN.2⟩
    have sep9 : ∀ p ∈ [(D, lo), (I, oI9)], p.1 ∉ osAs o us8 := fun p hp => by
      rcases List.mem_cons.mp hp with rfl | hp
      · exact sep8 _ (by simp)
      · rw [List.mem_singleton.mp hp]; exact hIo
    clear F8 N8 N9 F7 N7 F6 N6
    refine storeX_L F9 N9' (fun h10 F10 N10 => ?_) rfl rfl
    clear F9 N9'
    have F11 := Fr.cg F10 fun y => mI_key y
    have N11 : News g L1 h10 ((o.x, instObj 121 o.dx) :: (o.dx, osDict w o.t1 o.t2 o.r o.mm) :: (o.mm, om8) :: (o.r, rootO o.dr (lastA us8 o.r) (firstA us8 o.r)) :: (o.dr, dictOf [] 0) :: (links o.r us8 o.r ++ [(D, lo), (I, oI9)])) := N10
    clear F10
    dsimp only
    k_steps
    refine CallStop.go ?_
    have hp8 : us8.map Node.k = (ks.take i).map (·.1) := by rw [← hus8, List.map_map]; rfl
    have hkn8 : ks[i].1 ∉ us8.map Node.k := by
      rw [hp8]
      have h2 : (ks.take (i + 1)).map (·.1) = (ks.take i).map (·.1) ++ [ks[i].1] := by rw [List.take_succ_eq_append_getElem hi', List.map_append]; rfl
      have h3 : ((ks.take (i + 1)).map (·.1)).Nodup := List.Sublist.nodup (List.Sublist.map _ (List.take_sublist _ _)) hkn
      rw [h2, List.nodup_append] at h3
      intro q
      exact h3.2.2 _ q _ (List.mem_singleton.mpr rfl) rfl
    have hz8 : us8.length < 100 := by
      have := congrArg List.length hus8
      simp at this; omega
    k_dflt (refine' add_os (o := o.up om8) (ns := us8) (rest := [(D, lo), (I, oI9)]) (k := ks[i].1) (t := ks[i].2) ?k1 F11 ?k2 ?k3 ?k4 ?k5 ?k6 N11 sep9 ok8 hkn8 hz8 ?_; (case k1 => k_asm); (case k2 => k_asm); (case k3 => k_asm); (case k4 => exact rfl); (case k5 => k_room); (case k6 => k_units))
    intro h12 tk12 om12 nd e1 e2 F12 N12 sep12 ok12 _
    k_steps
    refine ⟨h12, _, om12, us8 ++ [nd], _, oI9, rfl, F12, N12, sep12, ok12, ?_, ⟨hc9, hd9⟩⟩
    rw [List.map_append, hus8, List.take_succ_eq_append_getElem hi', List.map_cons, List.map_nil, e1, e2]
  · rintro s' h₁ tk₁ ⟨h8, tk8, om8, us8, kk8, oI8, rfl, F8, N8, sep8, ok8, hus8, hI8⟩ hk1
    have hIN := N8 (I, oI8) (by simp)
    have hIo : I ∉ osAs o us8 := sep8 (I, oI8) (by simp)
    obtain ⟨F9, N9⟩ := kept_since (h' := h₁) (news := osL w (o.up om8) us8 ++ [(D, lo)]) hIN.2.1 (fun p hp e => by
      rcases List.mem_append.mp hp with hp | hp
      · exact hIo (by have h1 : p.1 ∈ osAs o us8 := (osAs_mem (w := w) (o := o.up om8)).mpr ⟨p.2, hp⟩
                      have e' : p.1 = I := e
                      rw [e'] at h1; exact h1)
      · rw [List.mem_singleton.mp hp] at e; exact hDI e) hIN.2.2 F8 (News.sub N8 fun p hp => by
      rcases List.mem_append.mp hp with hp | hp
      · exact List.mem_append_left _ hp
      · rw [List.mem_singleton.mp hp]; simp) fun b ob hb e => hk1 b ob (by simpa using hb) e
    have hus9 : us8.map (fun n : Node => (n.k, n.t)) = ks := by rw [hus8, hsz, List.take_length]
    have hD8 : D ∉ osAs o us8 := sep8 (D, lo) (by simp)
    clear F8 N8 F7 N7 F6 N6
    k_steps
    refine ret _ _ (o.up om8) us8 hus9 (by assumption) (by assumption) hD8 ok8 ?_
    exact Kept.trans (K1.widen (c := [(D, lo)])) (by assumption)
end Mine
end

section
open PySem PySem.W PyProof.Rows PySem.Calls
set_option maxRecDepth 100000
namespace Mine
local macro_rules | `(tactic| walk_at "mine pad 0") => `(tactic| fail)
local macro_rules | `(tactic| walk_at "mine pad 1") => `(tactic| fail)
local macro_rules | `(tactic| walk_at "mine pad 2") => `(tactic| fail)
local macro_rules | `(tactic| walk_at "mine pad 3") => `(tactic| fail)
local macro_rules | `(tactic| walk_at "mine pad 4") => `(tactic| fail)
local macro_rules | `(tactic| walk_at "mine pad 5") => `(tactic| fail)
local macro_rules | `(tactic| walk_at "mine pad 6") => `(tactic| fail)
local macro_rules | `(tactic| walk_at "mine pad 7") => `(tactic| fail)
local macro_rules | `(tactic| walk_at "mine pad 8") => `(tactic| fail)
local macro_rules | `(tactic| walk_at "mine pad 9") => `(tactic| fail)
local macro_rules | `(tactic| walk_at "mine pad 10") => `(tactic| fail)
local macro_rules | `(tactic| walk_at "mine pad 11") => `(tactic| fail)
local macro_rules | `(tactic| walk_at "mine pad 12") => `(tactic| fail)
local macro_rules | `(tactic| walk_at "mine pad 13") => `(tactic| fail)
local macro_rules | `(tactic| walk_at "mine pad 14") => `(tactic| fail)
theorem refill10 : ∀ (w : World) (h : Heap), (PySem.Challenge.hd.heap_39 w.params).In h → (PySem.Challenge.hd.heap_39 w.params).In h ∧ PySem.Challenge.rw_fc0213_01.foot = 3 := by
  k_fill
  exact fun _ _ x => ⟨x, rfl⟩
local macro_rules | `(tactic| k_ne) => `(tactic| (refine neN ?_; (try dsimp only); first | (refine NeF.ne ?_; with_reducible assumption) | (refine NeF.ne (NeF.symm ?_); with_reducible assumption) | omega))
local macro_rules | `(tactic| walk_at "compareOp NotIn str ref") => `(tactic| (k_here; (refine' mp_notin ?N ?hm ?hd ?lo ?hv ?_; (case N => k_asm); (case hm => k_mem); (case hd => k_asm); (case lo => k_asm); (case hv => k_asm))))
local macro_rules | `(tactic| walk_at "setItem ref str") => `(tactic| (k_here; (refine' mp_set ?F ?N ?U ?hd ?hz ?_; (case F => k_asm); (case N => k_asm); (case U => k_updF); (case hd => k_asm); (case hz => k_asm); k_whole; intro h' o' F' N' d'; (try dsimp only at N'); (try k_sweep))))
local macro_rules | `(tactic| k_room) => `(tactic| ((try simp only [depth_under_make, depth_under_kw, depth_in1, depth_deeper, depth_caller]); (try dsimp only [ktrTop]); omega))
local macro_rules | `(tactic| walk_at "LeaveS") => `(tactic| (k_dflt (refine' leaveS_ ?F ?N ?_; (case F => k_asm); (case N => k_asm); k_whole); intro kF kN kK; (try dsimp only)))
local macro_rules | `(tactic| k_enter) => `(tactic| (refine' code_split ?k1 ?k2 ?k3 ?k4 ?k5 ?kA ?kF ?kK ?k6 ?k7 ?k8 ?k9 ?kB ?_ ?c2 ?c3 ?c4 ?c5; (case kA => exact rfl); (case kF => exact rfl); (case kK => assumption); (case k1 => k_asm); (case k2 => k_asm); (case k3 => k_asm); (case k4 => k_asm); (case k5 => k_asm); (case k6 => k_is); (case k7 => k_is); (case k8 => k_room); (case k9 => first | exact BindsTo.of_eq rfl | exact binds_K (by k_in) rfl (by k_is) rfl rfl rfl); (case c5 => decide); (case kB => exact locs rfl); (case c2 => exact rfl); (case c3 => exact rfl); (case c4 => exact rfl); k_whole; intro g' L' h' FG' F' N' B' X' T' hG; (try dsimp only); (try k_fold)))

local macro_rules | `(tactic| k_units) => `(tactic| ((try simp only [units_in1, units_deeper, Around.mark_units, units_caller, units_under_make]); (try dsimp only [ktrTop]); omega))
local macro_rules | `(tactic| walk_at "exec For Name Call cons nil") => `(tactic| (k_here; k_dflt (refine fo_for ?_)))
local macro_rules | `(tactic| walk_at "pyIter ref") => `(tactic| (k_here; refine CallStop.mk ?_))
local macro_rules | `(tactic| walk_at "call type:range") => `(tactic| (k_here; refine CallStop.mk ?_))
local macro_rules | `(tactic| walk_at "call ref") => `(tactic| (k_here; refine CallStop.mk ?_))
def rit (x left : Int) : Obj := { cls := .type "range_iterator", dict := none, data := .fields #[rawInt x, rawInt left, rawInt 1], slots := #[] }
theorem r_range {w : World} {A : Around} {E : Value → Shared → Prop} {s : Shared} {g : Heap} {L : Nat} {m : Str → Option Value} {own : List (Addr × Obj)} {N : Int} {t : Nat} {Q : Value → Shared → Prop} (F : Fr g L s.heap m) (NN : News g L s.heap own) (hlo : -(2 ^ 62) ≤ N) (hhi : N < 2 ^ 62)
    (h : ∀ (R : Nat) (h' : Heap) (tk : Nat), Fr g L h' m → News g L h' own → (∀ (E' : Value → Shared → Prop) (Q' : Value → Shared → Prop) (G : Array GenState) (dd : Drawn) (tk' : Nat) (os : OsState),
        (∀ (I : Nat) h'', Fr g L h'' m → News g L h'' ((I, rit 0 N.toNat) :: own) → (∀ p ∈ own, @LT.lt Nat _ p.1 I) → Q' (.ref I) ⟨h'', G, dd, tk', os⟩) → wpAny (model PySem.Challenge.rw_fc0213_01.row.prog w) A (pyIter (.ref R)) Q' E' ⟨h', G, dd, tk', os⟩) → Q (.ref R) { s with heap := h', toks := tk }) :
    wpAny (model PySem.Challenge.rw_fc0213_01.row.prog w) A (call (.type "range") [.int N t]) Q E s := by
  refine call_range_1 (h _ _ _ (F.push _) (fun p hp => ⟨Heap.get?_push_of_some _ (NN p hp).1, (NN p hp).2⟩) fun E' Q' G dd tk' os hq => ?_)
  refine wpAny_pyIter_range (IsRange.new ..) (small_one (by decide) (by decide) hlo hhi) ?_
  have hsz : Builtin.Range.rangeSize 0 N 1 = (N.toNat : Int) := by rw [rangeSize_one]; split <;> omega
  rw [hsz]
  have F1 := F.push { cls := .type "range", data := .fields #[.int 0 s.toks, .int N t, .int 1 (s.toks + 1)] }
  have N1 : News g L _ own := fun p hp => ⟨Heap.get?_push_of_some { cls := .type "range", data := .fields #[.int 0 s.toks, .int N t, .int 1 (s.toks + 1)] } (NN p hp).1, (NN p hp).2⟩
  exact hq _ _ (F1.push _) (News.push F1 N1 _ rfl) fun p hp => Heap.lt_size (N1 p hp).1
abbrev kt (n : Node) : Str × Nat := (n.k, n.t)
def inter {α : Type} (low : Bool) : List α → List α → List α
  | u :: us, l :: ls => if low then l :: u :: inter low us ls else u :: l :: inter low us ls
  | _, _ => []
theorem inter_snoc {α : Type} (low : Bool) : ∀ (us ls : List α) (u l : α), us.length = ls.length → inter low (us ++ [u]) (ls ++ [l]) = inter low us ls ++ (if low then [l, u] else [u, l])
  | [], [], u, l, _ => by cases low <;> rfl
  | a :: us, b :: ls, u, l, h => by
    have ih := inter_snoc low us ls u l (by simpa using h)
    simp only [List.cons_append, inter, ih]
    cases low <;> rfl
  | [], _ :: _, _, _, h => by cases h
  | _ :: _, [], _, _, h => by cases h
def shuf (low : Bool) (hf : Nat) {α : Type} (xs : List α) : List α := inter low (xs.take hf) (xs.drop hf)

abbrev mS (dx : Nat) (hf th : Nat) (low : Bool) (ax : Nat) (mv kk : Option Value) : Str → Option Value := fun y => if y = Str.ofString "k" then kk else if y = Str.ofString "mixed" then mv else if y = Str.ofString "above" then some (.ref ax) else
  if y = Str.ofString "lower" then some (.bool low) else if y = Str.ofString "half" then some (.int hf th) else if y = Str.ofString "deck" then some (.ref dx) else none
theorem lookup_cons' (y a : Str) (v : Value) (l : List (Str × Value)) : List.lookup y ((a, v) :: l) = if y = a then some v else List.lookup y l := by
  by_cases h : y = a
  · subst h; simp [List.lookup]
  · have h' : (y == a) = false := beq_eq_false_iff_ne.mpr h
    simp only [List.lookup, h', if_neg h]
theorem mS_start {dx hf th ax : Nat} {low : Bool} (y : Str) : (if y = Str.ofString "above" then some (Value.ref ax) else List.lookup y [(Str.ofString "lower", Value.bool low), (Str.ofString "half", Value.int hf th), (Str.ofString "deck", Value.ref dx)]) = mS dx hf th low ax none none y := by
  simp only [lookup_cons', List.lookup_nil]
  by_cases h : y = Str.ofString "k"
  · subst h; rfl
  · by_cases h2 : y = Str.ofString "mixed"
    · subst h2; rfl
    · simp only [mS, if_neg h, if_neg h2]
theorem mS_k {dx hf th ax : Nat} {low : Bool} {mv kk v : Option Value} (y : Str) : (if y = Str.ofString "k" then v else mS dx hf th low ax mv kk y) = mS dx hf th low ax mv v y := by
  by_cases h : y = Str.ofString "k"
  · simp only [mS, if_pos h]
  · simp only [mS, if_neg h]
theorem mS_mixed {dx hf th ax : Nat} {low : Bool} {mv kk v : Option Value} (y : Str) : (if y = Str.ofString "mixed" then v else mS dx hf th low ax mv kk y) = mS dx hf th low ax v kk y := by
  by_cases h : y = Str.ofString "k"
  · subst h; rfl
  · by_cases h2 : y = Str.ofString "mixed"
    · simp only [mS, if_neg h, if_pos h2]
    · simp only [mS, if_neg h, if_neg h2]
theorem news_iter {g h h₁ : Heap} {L I : Nat} {m : Str → Option Value} {A : List (Addr × Obj)} {o o' : Obj} (F : Fr g L h m) (N : News g L h (A ++ [(I, o)])) (hA : I ∉ A.map (·.1)) (k : ∀ b ob, b ∉ [I] → h.get? b = some ob → h₁.get? b = some ob) (e : h₁.get? I = some o') :
    Fr g L h₁ m ∧ News g L h₁ (A ++ [(I, o')]) := by
  have hI := N (I, o) (by simp)
  obtain ⟨F', N'⟩ := kept_since (h' := h₁) (news := A) hI.2.1 (fun p hp q => hA (by have h1 : p.1 ∈ A.map (·.1) := List.mem_map_of_mem hp; have q' : p.1 = I := q; rw [q'] at h1; exact h1)) hI.2.2 F (News.sub N fun p hp => List.mem_append_left _ hp) fun b ob hb e => k b ob (by simpa using hb) e
  exact ⟨F', news_both N' fun p hp => by rw [List.mem_singleton.mp hp]; exact ⟨e, hI.2⟩⟩
theorem sep_turn {w : World} {d : OS} {ds : List Node} {X : List Nat} (h : ∀ p ∈ osL w d ds, p.1 ∉ X) : ∀ x ∈ X, x ∉ osAs d ds := fun x hx q => by
  obtain ⟨ob, hm⟩ := (osAs_mem (w := w)).mp q
  exact h _ hm hx
theorem sep_back {w : World} {d : OS} {ds : List Node} {X : List Nat} (h : ∀ x ∈ X, x ∉ osAs d ds) : ∀ p ∈ osL w d ds, p.1 ∉ X := fun p hp q => h p.1 q ((osAs_mem (w := w)).mpr ⟨p.2, hp⟩)
theorem mem_swap {α : Type} (A B C : List α) : ∀ p ∈ B ++ (A ++ C), p ∈ A ++ (B ++ C) := fun p hp => by
  simp only [List.mem_append] at hp ⊢
  rcases hp with h | h | h
  · exact .inr (.inl h)
  · exact .inl h
  · exact .inr (.inr h)
theorem sep_two {w : World} {d : OS} {ds : List Node} {a : OS} {us : List Node} {I : Nat} {oI : Obj} (s1 : ∀ x ∈ osAs a us, x ∉ osAs d ds) (s2 : I ∉ osAs d ds) : ∀ p ∈ osL w a us ++ [(I, oI)], p.1 ∉ osAs d ds := fun p hp => by
  rcases List.mem_append.mp hp with hp | hp
  · exact s1 _ ((osAs_mem (w := w)).mpr ⟨p.2, hp⟩)
  · rw [List.mem_singleton.mp hp]; exact s2
theorem sep_two' {w : World} {d : OS} {ds : List Node} {a : OS} {us : List Node} {om1 om2 : Obj} {I : Nat} {oI oI' : Obj} (s1 : ∀ p ∈ osL w (a.up om1) us ++ [(I, oI)], p.1 ∉ osAs d ds) (s2 : I ∉ osAs a us) : ∀ p ∈ osL w (d.up om2) ds ++ [(I, oI')], p.1 ∉ osAs a us := fun p hp => by
  rcases List.mem_append.mp hp with hp | hp
  · intro q
    obtain ⟨ob, hm⟩ := (osAs_mem (w := w) (o := a.up om1)).mp q
    exact s1 _ (List.mem_append_left _ hm) ((osAs_mem (w := w) (o := d.up om2)).mpr ⟨p.2, hp⟩)
  · rw [List.mem_singleton.mp hp]; exact s2
theorem four {w : World} {g h : Heap} {L : Nat} {d a : OS} {ds us : List Node} {X : List (Addr × Obj)} (N : News g L h ((osL w d ds ++ osL w a us) ++ X)) :
    News g L h [(a.x, instObj 121 a.dx), (a.dx, osDict w a.t1 a.t2 a.r a.mm), (d.x, instObj 121 d.dx), (d.dx, osDict w d.t1 d.t2 d.r d.mm)] := News.sub N fun p hp => by
  simp only [List.mem_cons, List.not_mem_nil, or_false] at hp
  rcases hp with h | h | h | h <;> (subst h; simp [osL])
/-- the first loop: the upper half goes off -/
def J1 (w : World) (g : Heap) (L1 : Nat) (s : Shared) (d a : OS) (I : Nat) (ns : List Node) (hf th : Nat) (low : Bool) (i : Nat) (s' : Shared) : Prop :=
  ∃ h' tk G om1 om2 us kk, s' = { s with heap := h', gens := G, toks := tk } ∧ AllBare G ∧ Fr g L1 h' (mS d.x hf th low a.x none kk) ∧
    News g L1 h' ((osL w (d.up om1) (ns.drop i) ++ osL w (a.up om2) us) ++ [(I, rit (0 + (i : Nat) * 1) ((hf : Int) - (i : Nat)))]) ∧
    (∀ x ∈ osAs a us, x ∉ osAs d (ns.drop i)) ∧ I ∉ osAs d (ns.drop i) ∧ I ∉ osAs a us ∧ OSok w (d.up om1) (ns.drop i) ∧ OSok w (a.up om2) us ∧ us.map kt = (ns.take i).map kt


def Dis (A B : List Nat) : Prop := ∀ x ∈ A, x ∉ B
theorem Dis.symm {A B : List Nat} (h : Dis A B) : Dis B A := fun x hx q => h x q hx
theorem Dis.sub {A A' B : List Nat} (h : Dis A B) (k : ∀ x ∈ A', x ∈ A) : Dis A' B := fun x hx => h x (k x hx)
theorem osAs_tail {o : OS} {n : Node} {r : List Node} : ∀ x ∈ osAs o r, x ∈ osAs o (n :: r) := fun x hx => by
  simp only [osAs, nodeAs, List.mem_cons] at hx ⊢
  rcases hx with h | h | h | h | h | h <;> simp [h]
/-- three sets and an iterator, apart -/
structure St2 (w : World) (g : Heap) (L : Nat) (d a mx : OS) (I : Nat) (oI : Obj) (ds us ms : List Node) (h : Heap) : Prop where
  news : News g L h (osL w d ds ++ (osL w a us ++ (osL w mx ms ++ [(I, oI)])))
  da : Dis (osAs d ds) (osAs a us)
  dm : Dis (osAs d ds) (osAs mx ms)
  am : Dis (osAs a us) (osAs mx ms)
  id : I ∉ osAs d ds
  ia : I ∉ osAs a us
  im : I ∉ osAs mx ms
  okd : OSok w d ds
  oka : OSok w a us
  okm : OSok w mx ms
theorem in_os {w : World} {o : OS} {ns : List Node} {p : Addr × Obj} (h : p ∈ osL w o ns) : p.1 ∈ osAs o ns := (osAs_mem (w := w)).mpr ⟨p.2, h⟩
set_option maxHeartbeats 1000000 in
theorem pop_d {w : World} {loose : List Str} {mean : ExcName → Option Value} {mg mb : Str → Option Value} {dp un : Nat} {gd : Option (List Code)} {cn : Str} {cs : Scope} {L a : Addr} {ccd : Value} {cl : List (Str × Addr)} {outer : List Env} {A₀ : Around} {base h₀ : Heap}
    {m : Str → Option Value} {s : Shared} {Q E : Value → Shared → Prop} {d a' mx : OS} {I : Nat} {oI : Obj} {n : Node} {ds us ms : List Node}
    (S : St2 w h₀ L d a' mx I oI (n :: ds) us ms s.heap)
    (B : Below A₀ base outer h₀) (F : Fr h₀ L s.heap m) (X : (PySem.Challenge.hd.heap_39 w.params).In h₀) (T : Top PySem.Challenge.hd.view_39 loose mean mg mb h₀) (hk : cs.kind = .function)
    (hdp : dp + 20 < recursionLimit) (hun : un + 200 < cLine) (hB : AllBare s.gens)
    (ret : ∀ h' tk' om' G', AllBare G' → Fr h₀ L h' m → St2 w h₀ L (d.up om') a' mx I oI ds us ms h' → Q (.str n.k n.t) { s with heap := h', gens := G', toks := tk' }) :
    wpAny (model PySem.Challenge.rw_fc0213_01.row.prog w) (ktrTop dp un gd cn cs L a ccd cl outer) (call (.ref 97) [.ref d.x, .bool false]) Q E s :=
  pop_os B F X T hk hdp hun S.news (fun p hp q => by
    rcases List.mem_append.mp hp with hp | hp
    · exact S.da _ q (in_os hp)
    rcases List.mem_append.mp hp with hp | hp
    · exact S.dm _ q (in_os hp)
    · rw [List.mem_singleton.mp hp] at q; exact S.id q) S.okd hB fun h' tk' om' G' hB' F' N' _ ok' _ =>
  ret h' tk' om' G' hB' F' ⟨N', S.da.sub osAs_tail, S.dm.sub osAs_tail, S.am, fun q => S.id (osAs_tail _ q), S.ia, S.im, ok', S.oka, S.okm⟩
set_option maxHeartbeats 1000000 in
theorem pop_a {w : World} {loose : List Str} {mean : ExcName → Option Value} {mg mb : Str → Option Value} {dp un : Nat} {gd : Option (List Code)} {cn : Str} {cs : Scope} {L a : Addr} {ccd : Value} {cl : List (Str × Addr)} {outer : List Env} {A₀ : Around} {base h₀ : Heap}
    {m : Str → Option Value} {s : Shared} {Q E : Value → Shared → Prop} {d a' mx : OS} {I : Nat} {oI : Obj} {n : Node} {ds us ms : List Node}
    (S : St2 w h₀ L d a' mx I oI ds (n :: us) ms s.heap)
    (B : Below A₀ base outer h₀) (F : Fr h₀ L s.heap m) (X : (PySem.Challenge.hd.heap_39 w.params).In h₀) (T : Top PySem.Challenge.hd.view_39 loose mean mg mb h₀) (hk : cs.kind = .function)
    (hdp : dp + 20 < recursionLimit) (hun : un + 200 < cLine) (hB : AllBare s.gens)
    (ret : ∀ h' tk' om' G', AllBare G' → Fr h₀ L h' m → St2 w h₀ L d (a'.up om') mx I oI ds us ms h' → Q (.str n.k n.t) { s with heap := h', gens := G', toks := tk' }) :
    wpAny (model PySem.Challenge.rw_fc0213_01.row.prog w) (ktrTop dp un gd cn cs L a ccd cl outer) (call (.ref 97) [.ref a'.x, .bool false]) Q E s :=
  pop_os B F X T hk hdp hun (News.sub S.news (mem_swap _ _ _)) (fun p hp q => by
    rcases List.mem_append.mp hp with hp | hp
    · exact S.da _ (in_os hp) q
    rcases List.mem_append.mp hp with hp | hp
    · exact S.am _ q (in_os hp)
    · rw [List.mem_singleton.mp hp] at q; exact S.ia q) S.oka hB fun h' tk' om' G' hB' F' N' _ ok' _ =>
  ret h' tk' om' G' hB' F' ⟨News.sub N' (mem_swap _ _ _), (S.da.symm.sub osAs_tail).symm, S.dm, S.am.sub osAs_tail, S.id, fun q => S.ia (osAs_tail _ q), S.im, S.okd, ok', S.okm⟩
theorem mem_rot {α : Type} (A B C D : List α) : ∀ p ∈ C ++ (A ++ (B ++ D)), p ∈ A ++ (B ++ (C ++ D)) := fun p hp => by
  simp only [List.mem_append] at hp ⊢
  rcases hp with h | h | h | h <;> simp [h]
theorem mem_rot' {α : Type} (A B C D : List α) : ∀ p ∈ A ++ (B ++ (C ++ D)), p ∈ C ++ (A ++ (B ++ D)) := fun p hp => by
  simp only [List.mem_append] at hp ⊢
  rcases hp with h | h | h | h <;> simp [h]
set_option maxHeartbeats 1000000 in
theorem add_m {w : World} {loose : List Str} {mean : ExcName → Option Value} {mg mb : Str → Option Value} {dp un : Nat} {gd : Option (List Code)} {cn : Str} {cs : Scope} {L a : Addr} {ccd : Value} {cl : List (Str × Addr)} {outer : List Env} {A₀ : Around} {base h₀ : Heap}
    {m : Str → Option Value} {s : Shared} {Q E : Value → Shared → Prop} {d a' mx : OS} {I : Nat} {oI : Obj} {ds us ms : List Node} {k : Str} {t : Nat}
    (S : St2 w h₀ L d a' mx I oI ds us ms s.heap)
    (B : Below A₀ base outer h₀) (F : Fr h₀ L s.heap m) (X : (PySem.Challenge.hd.heap_39 w.params).In h₀) (T : Top PySem.Challenge.hd.view_39 loose mean mg mb h₀) (hk : cs.kind = .function)
    (hdp : dp + 20 < recursionLimit) (hun : un + 200 < cLine) (hkn : k ∉ ms.map Node.k) (hz : ms.length < 100)
    (ret : ∀ h' tk' om' nd, nd.k = k → nd.t = t → Fr h₀ L h' m → St2 w h₀ L d a' (mx.up om') I oI ds us (ms ++ [nd]) h' → Q .none { s with heap := h', toks := tk' }) :
    wpAny (model PySem.Challenge.rw_fc0213_01.row.prog w) (ktrTop dp un gd cn cs L a ccd cl outer) (call (.ref 68) [.ref mx.x, .str k t]) Q E s :=
  add_os B F X T hk (by omega) (by omega) (News.sub S.news (mem_rot _ _ _ _)) (fun p hp q => by
    rcases List.mem_append.mp hp with hp | hp
    · exact S.dm _ (in_os hp) q
    rcases List.mem_append.mp hp with hp | hp
    · exact S.am _ (in_os hp) q
    · rw [List.mem_singleton.mp hp] at q; exact S.im q) S.okm hkn hz fun h' tk' om' nd e1 e2 F' N' sep' ok' _ =>
  ret h' tk' om' nd e1 e2 F' ⟨News.sub N' (mem_rot' _ _ _ _), S.da, fun x hx q => by
      obtain ⟨ob, hm⟩ := (osAs_mem (w := w)).mp hx
      exact sep' _ (List.mem_append_left _ hm) q, fun x hx q => by
      obtain ⟨ob, hm⟩ := (osAs_mem (w := w)).mp hx
      exact sep' _ (List.mem_append_right _ (List.mem_append_left _ hm)) q, S.id, S.ia, fun q => sep' _ (List.mem_append_right _ (List.mem_append_right _ (List.mem_cons_self ..))) q, S.okd, S.oka, ok'⟩
theorem St2.six {w : World} {g : Heap} {L : Nat} {d a mx : OS} {I : Nat} {oI : Obj} {ds us ms : List Node} {h : Heap} (S : St2 w g L d a mx I oI ds us ms h) :
    News g L h [(a.x, instObj 121 a.dx), (a.dx, osDict w a.t1 a.t2 a.r a.mm), (d.x, instObj 121 d.dx), (d.dx, osDict w d.t1 d.t2 d.r d.mm), (mx.x, instObj 121 mx.dx), (mx.dx, osDict w mx.t1 mx.t2 mx.r mx.mm)] := News.sub S.news fun p hp => by
  simp only [List.mem_cons, List.not_mem_nil, or_false] at hp
  rcases hp with h | h | h | h | h | h <;> (subst h; simp [osL])
theorem St2.iter {w : World} {g : Heap} {L : Nat} {d a mx : OS} {I : Nat} {oI oI' : Obj} {ds us ms : List Node} {h h₁ : Heap} {m : Str → Option Value} (S : St2 w g L d a mx I oI ds us ms h) (F : Fr g L h m)
    (k : ∀ b ob, b ∉ [I] → h.get? b = some ob → h₁.get? b = some ob) (e : h₁.get? I = some oI') : Fr g L h₁ m ∧ St2 w g L d a mx I oI' ds us ms h₁ := by
  have N : News g L h ((osL w d ds ++ osL w a us ++ osL w mx ms) ++ [(I, oI)]) := by
    have := S.news
    simpa only [List.append_assoc] using this
  obtain ⟨F', N'⟩ := news_iter F N (by
    rw [List.map_append, List.map_append, osL_as, osL_as, osL_as]
    intro q
    rcases List.mem_append.mp q with q | q
    · exact (List.mem_append.mp q).elim S.id S.ia
    · exact S.im q) k e
  exact ⟨F', by simpa only [List.append_assoc] using N', S.da, S.dm, S.am, S.id, S.ia, S.im, S.okd, S.oka, S.okm⟩
theorem perm_du {α : Type} [DecidableEq α] (K D U : List α) (d u : α) : (K ++ (d :: D ++ u :: U)).Perm ((K ++ [d, u]) ++ (D ++ U)) := by
  rw [List.perm_iff_count]; intro a; simp [List.count_append, List.count_cons]; omega
theorem perm_ud {α : Type} [DecidableEq α] (K D U : List α) (d u : α) : (K ++ (d :: D ++ u :: U)).Perm ((K ++ [u, d]) ++ (D ++ U)) := by
  rw [List.perm_iff_count]; intro a; simp [List.count_append, List.count_cons]; omega
theorem nod_facts {α : Type} [DecidableEq α] {K D U : List α} {d u : α} (h : (K ++ (d :: D ++ u :: U)).Nodup) : d ∉ K ∧ u ∉ K ∧ d ≠ u ∧ ((K ++ [d, u]) ++ (D ++ U)).Nodup ∧ ((K ++ [u, d]) ++ (D ++ U)).Nodup := by
  have h1 := (perm_du K D U d u).nodup_iff.mp h
  have h2 := (perm_ud K D U d u).nodup_iff.mp h
  have h3 := (List.nodup_append.mp h1).1
  rw [List.nodup_append] at h3
  obtain ⟨_, h4, h5⟩ := h3
  refine ⟨fun q => h5 _ q d (by simp) rfl, fun q => h5 _ q u (by simp) rfl, by simpa using h4, h1, h2⟩
theorem inter_len {α : Type} (low : Bool) : ∀ (us ls : List α), (inter low us ls).length ≤ 2 * us.length
  | u :: us, l :: ls => by
    have := inter_len low us ls
    cases low <;> simp [inter] <;> omega
  | [], _ => by simp [inter]
  | _ :: _, [] => by simp [inter]
/-- the second loop: the halves laid together -/
def J2 (w : World) (g : Heap) (L1 : Nat) (s : Shared) (d a mx : OS) (I : Nat) (ns : List Node) (hf th : Nat) (low : Bool) (i : Nat) (s' : Shared) : Prop :=
  ∃ h' tk G om1 om2 om3 us ms kk, s' = { s with heap := h', gens := G, toks := tk } ∧ AllBare G ∧ Fr g L1 h' (mS d.x hf th low a.x (some (.ref mx.x)) kk) ∧
    St2 w g L1 (d.up om1) (a.up om2) (mx.up om3) I (rit (0 + (i : Nat) * 1) ((hf : Int) - (i : Nat))) (ns.drop (hf + i)) us ms h' ∧
    us.map kt = ((ns.map kt).take hf).drop i ∧ ms.map kt = inter low (((ns.map kt).take hf).take i) (((ns.map kt).drop hf).take i) ∧
    (ms.map Node.k ++ ((ns.drop (hf + i)).map Node.k ++ us.map Node.k)).Nodup
end Mine
end

section
open PySem PySem.W PyProof.Rows PySem.Calls
set_option maxRecDepth 100000
namespace Mine
local macro_rules | `(tactic| walk_at "mine pad 0") => `(tactic| fail)
local macro_rules | `(tactic| walk_at "mine pad 1") => `(tactic| fail)
local macro_rules | `(tactic| walk_at "mine pad 2") => `(tactic| fail)
local macro_rules | `(tactic| walk_at "mine pad 3") => `(tactic| fail)
local macro_rules | `(tactic| walk_at "mine pad 4") => `(tactic| fail)
local macro_rules | `(tactic| walk_at "mine pad 5") => `(tactic| fail)
local macro_rules | `(tactic| walk_at "mine pad 6") => `(tactic| fail)
local macro_rules | `(tactic| walk_at "mine pad 7") => `(tactic| fail)
local macro_rules | `(tactic| walk_at "mine pad 8") => `(tactic| fail)
local macro_rules | `(tactic| walk_at "mine pad 9") => `(tactic| fail)
local macro_rules | `(tactic| walk_at "mine pad 10") => `(tactic| fail)
local macro_rules | `(tactic| walk_at "mine pad 11") => `(tactic| fail)
local macro_rules | `(tactic| walk_at "mine pad 12") => `(tactic| fail)
local macro_rules | `(tactic| walk_at "mine pad 13") => `(tactic| fail)
local macro_rules | `(tactic| walk_at "mine pad 14") => `(tactic| fail)
local macro_rules | `(tactic| walk_at "mine pad 15") => `(tactic| fail)
theorem refill11 : ∀ (w : World) (h : Heap), (PySem.Challenge.hd.heap_39 w.params).In h → (PySem.Challenge.hd.heap_39 w.params).In h ∧ PySem.Challenge.rw_fc0213_01.foot = 3 := by
  k_fill
  exact fun _ _ x => ⟨x, rfl⟩
local macro_rules | `(tactic| k_ne) => `(tactic| (refine neN ?_; (try dsimp only); first | (refine NeF.ne ?_; with_reducible assumption) | (refine NeF.ne (NeF.symm ?_); with_reducible assumption) | omega))
local macro_rules | `(tactic| walk_at "compareOp NotIn str ref") => `(tactic| (k_here; (refine' mp_notin ?N ?hm ?hd ?lo ?hv ?_; (case N => k_asm); (case hm => k_mem); (case hd => k_asm); (case lo => k_asm); (case hv => k_asm))))
local macro_rules | `(tactic| walk_at "setItem ref str") => `(tactic| (k_here; (refine' mp_set ?F ?N ?U ?hd ?hz ?_; (case F => k_asm); (case N => k_asm); (case U => k_updF); (case hd => k_asm); (case hz => k_asm); k_whole; intro h' o' F' N' d'; (try dsimp only at N'); (try k_sweep))))
local macro_rules | `(tactic| k_room) => `(tactic| ((try simp only [depth_under_make, depth_under_kw, depth_in1, depth_deeper, depth_caller]); (try dsimp only [ktrTop]); omega))
local macro_rules | `(tactic| walk_at "LeaveS") => `(tactic| (k_dflt (refine' leaveS_ ?F ?N ?_; (case F => k_asm); (case N => k_asm); k_whole); intro kF kN kK; (try dsimp only)))
local macro_rules | `(tactic| k_enter) => `(tactic| (refine' code_split ?k1 ?k2 ?k3 ?k4 ?k5 ?kA ?kF ?kK ?k6 ?k7 ?k8 ?k9 ?kB ?_ ?c2 ?c3 ?c4 ?c5; (case kA => exact rfl); (case kF => exact rfl); (case kK => assumption); (case k1 => k_asm); (case k2 => k_asm); (case k3 => k_asm); (case k4 => k_asm); (case k5 => k_asm); (case k6 => k_is); (case k7 => k_is); (case k8 => k_room); (case k9 => first | exact BindsTo.of_eq rfl | exact binds_K (by k_in) rfl (by k_is) rfl rfl rfl); (case c5 => decide); (case kB => exact locs rfl); (case c2 => exact rfl); (case c3 => exact rfl); (case c4 => exact rfl); k_whole; intro g' L' h' FG' F' N' B' X' T' hG; (try dsimp only); (try k_fold)))

local macro_rules | `(tactic| k_units) => `(tactic| ((try simp only [units_in1, units_deeper, Around.mark_units, units_caller, units_under_make]); (try dsimp only [ktrTop]); omega))
local macro_rules | `(tactic| walk_at "exec For Name Call cons nil") => `(tactic| (k_here; k_dflt (refine fo_for ?_)))
local macro_rules | `(tactic| walk_at "pyIter ref") => `(tactic| (k_here; refine CallStop.mk ?_))
local macro_rules | `(tactic| walk_at "call type:range") => `(tactic| (k_here; refine CallStop.mk ?_))
local macro_rules | `(tactic| walk_at "call ref") => `(tactic| (k_here; refine CallStop.mk ?_))
set_option maxHeartbeats 8000000 in
theorem shuf_c {w : World} {loose : List Str} {mean : ExcName → Option Value} {mg mb : Str → Option Value} {dp un : Nat} {gd : Option (List Code)} {cn : Str} {cs : Scope} {L a : Addr} {ccd : Value} {cl : List (Str × Addr)} {outer : List Env} {A₀ : Around} {base h₀ : Heap}
    {m : Str → Option Value} {s : Shared} {Q E : Value → Shared → Prop} {d : OS} {ns : List Node} {hf th : Nat} {low : Bool}
    (B : Below A₀ base outer h₀) (F : Fr h₀ L s.heap m) (X : (PySem.Challenge.hd.heap_39 w.params).In h₀) (T : Top PySem.Challenge.hd.view_39 loose mean mg mb h₀) (hk : cs.kind = .function)
    (hdp : dp + 100 < recursionLimit) (hun : un + 1000 < cLine)
    (N : News h₀ L s.heap (osL w d ns)) (ok : OSok w d ns) (hlen : ns.length = 2 * hf) (hf5 : hf ≤ 5) (hB : AllBare s.gens)
    (ret : ∀ h' tk' G' o us, us.map kt = shuf low hf (ns.map kt) → AllBare G' → Fr h₀ L h' m → News h₀ L h' (osL w o us) → OSok w o us → Kept (osL w d ns) (osL w o us) s.heap h' → Q (.ref o.x) { s with heap := h', gens := G', toks := tk' }) :
    wpAny (model PySem.Challenge.rw_fc0213_01.row.prog w) (ktrTop dp un gd cn cs L a ccd cl outer) (call (.ref 133) [.ref d.x, .int hf th, .bool low]) Q E s := by
  have _ := hun
  refine wpAny_call ?_
  k_dflt (refine' code_split ?k1 ?k2 ?k3 ?k4 ?k5 ?kA ?kF ?kK ?k6 ?k7 ?k8 ?k9 ?kB ?_ ?c2 ?c3 ?c4 ?c5; (case kA => exact rfl); (case kF => exact rfl); (case kK => assumption); (case k1 => k_asm); (case k2 => k_asm); (case k3 => k_asm); (case k4 => k_asm); (case k5 => k_asm); (case k6 => k_is); (case k7 => k_is); (case k8 => k_room); (case k9 => first | exact BindsTo.of_eq rfl | exact binds_K (by k_in) rfl (by k_is) rfl rfl rfl); (case c5 => decide); (case kB => exact locs rfl); (case c2 => exact rfl); (case c3 => exact rfl); (case c4 => exact rfl); k_whole)
  intro g L1 he FG FE NE BE XE TE hG
  (try dsimp only)
  (try k_fold)

  k_steps
  refine CallStop.go ?_
  show wpAny _ _ (call (.ref 121) []) _ _ _
  k_dflt (refine' new_none (L := L1) ?k1 ?kF ?k2 ?k3 ?k4 ?k5 ?k6 ?_; (case k1 => k_asm); (case kF => k_asm); (case k2 => k_asm); (case k3 => k_asm); (case k4 => exact rfl); (case k5 => k_room); (case k6 => k_units))
  intro h2 tk2 av F2 N2 ok2 k2
  have N3 : News g L1 h2 (osL w av [] ++ osL w d ns) := News.beside NE (by simp) k2 N2
  have sep3 : ∀ p ∈ osL w d ns, p.1 ∉ osAs av [] := fun p hp => by have := (k2 p.1 p.2 (NE p hp).1 (by simp)).2; rwa [osL_as] at this
  clear NE N2 k2
  k_steps
  refine CallStop.go ?_
  (with_reducible rename Fr _ _ _ _ => F4)
  (with_reducible rename News _ _ _ _ => N4)
  refine r_range (Fr.cg F4 fun y => mS_start y) N4 (by omega) (by omega) fun R h5 tk5 F5 N5 hit => ?_
  clear F4 N4
  k_steps
  refine CallStop.go ?_
  refine hit _ _ _ _ _ _ fun I h6 F6 N6 hI6 => ?_
  rw [Int.toNat_natCast] at N6
  have hIa : I ∉ osAs av [] := fun q => by
    obtain ⟨ob, hm⟩ := (osAs_mem (w := w)).mp q
    exact Nat.lt_irrefl _ (hI6 _ (List.mem_append_left _ hm))
  have hId : I ∉ osAs d ns := fun q => by
    obtain ⟨ob, hm⟩ := (osAs_mem (w := w)).mp q
    exact Nat.lt_irrefl _ (hI6 _ (List.mem_append_right _ hm))
  refine for_turns (Walks.range rfl I 0 1 hf) (fun i s' => J1 w g L1 s d av I ns hf th low i s') ?_ ?_ ?_ ?_
  · refine ⟨h6, _, s.gens, d.om, av.om, [], none, rfl, hB, F6, News.sub N6 fun p hp => ?_, sep_turn (w := w) (d := d) (by simpa using fun a b h => sep3 (a, b) h), by simpa using hId, hIa, by simpa using ok, ok2, rfl⟩
    simp only [List.mem_append, List.mem_cons, List.not_mem_nil, or_false, List.drop_zero] at hp ⊢
    rcases hp with (h | h) | h
    · exact .inr (.inr h)
    · exact .inr (.inl h)
    · exact .inl (by simpa using h)
  · rintro i s' hi ⟨h', tk, G, om1, om2, us, kk, rfl, hB', F', N', s1, s2, s3, o1, o2, e⟩
    exact (N' (I, rit (0 + (i : Nat) * 1) ((hf : Int) - (i : Nat))) (by simp)).1
  · rintro i s' v' h₁ tk₁ hi ⟨h', tk, G, om1, om2, us, kk, rfl, hB', F', N', s1, s2, s3, o1, o2, e⟩ ⟨tv, rfl⟩ hst hk1
    obtain ⟨F7, N7⟩ := news_iter F' N' (by rw [List.map_append, osL_as, osL_as]; exact fun q => (List.mem_append.mp q).elim s2 s3) hk1 hst
    clear F' N' F6 N6
    refine storeX_L F7 N7 (fun h8 F8 N8 => ?_) rfl rfl
    clear F7 N7
    have F9 := Fr.cg F8 fun y => mS_k y
    have N9 := four N8
    clear F8
    dsimp only
    k_steps
    refine CallStop.go ?_
    have hin : i < ns.length := by omega
    have hdr : ns.drop i = ns[i] :: ns.drop (i + 1) := List.drop_eq_getElem_cons hin
    rw [hdr] at N8 s1 s2 o1
    show wpAny _ _ (call (.ref 97) [.ref d.x, .bool false]) _ _ _
    k_dflt (refine' pop_os (L := L1) (o := d.up om1) (n := ns[i]) (ns := ns.drop (i + 1)) (rest := osL w (av.up om2) us ++ [(I, rit (0 + ((i + 1 : Nat) : Int) * 1) ((hf : Int) - ((i + 1 : Nat) : Int)))]) ?k1 F9 ?k2 ?k3 ?k4 ?k5 ?k6 ?k7 ?k8 o1 hB' ?_; (case k1 => k_asm); (case k2 => k_asm); (case k3 => k_asm); (case k4 => exact rfl); (case k5 => k_room); (case k6 => k_units); (case k7 => exact (List.append_assoc _ _ _) ▸ N8); (case k8 => exact sep_two s1 s2))
    intro h10 tk10 om10 G10 hB10 F10 N10 sep10 o10 _
    clear N8 N9 F9
    k_steps
    refine CallStop.go ?_
    have hk10 : ns[i].k ∉ us.map Node.k := by
      have e2 : us.map Node.k = (ns.take i).map Node.k := by
        have := congrArg (List.map (fun q : Str × Nat => q.1)) e
        rw [List.map_map, List.map_map] at this
        exact this
      rw [e2]
      have h2 : (ns.take (i + 1)).map Node.k = (ns.take i).map Node.k ++ [ns[i].k] := by rw [List.take_succ_eq_append_getElem hin, List.map_append]; rfl
      have h3 : ((ns.take (i + 1)).map Node.k).Nodup := List.Sublist.nodup (List.Sublist.map _ (List.take_sublist _ _)) ok.keys
      rw [h2, List.nodup_append] at h3
      intro q
      exact h3.2.2 _ q _ (List.mem_singleton.mpr rfl) rfl
    have hz10 : us.length < 100 := by
      have := congrArg List.length e
      simp at this; omega
    show wpAny _ _ (call (.ref 68) [.ref av.x, .str ns[i].k ns[i].t]) _ _ _
    k_dflt (refine' add_os (L := L1) (o := av.up om2) (ns := us) (rest := osL w (d.up om10) (ns.drop (i + 1)) ++ [(I, rit (0 + ((i + 1 : Nat) : Int) * 1) ((hf : Int) - ((i + 1 : Nat) : Int)))]) (k := ns[i].k) (t := ns[i].t) ?k1 F10 ?k2 ?k3 ?k4 ?k5 ?k6 ?k7 ?k8 o2 hk10 hz10 ?_; (case k1 => k_asm); (case k2 => k_asm); (case k3 => k_asm); (case k4 => exact rfl); (case k5 => k_room); (case k6 => k_units); (case k7 => exact News.sub N10 (mem_swap _ _ _)); (case k8 => exact sep_two' sep10 s3))
    intro h12 tk12 om12 nd e1 e2 F12 N12 sep12 o12 _
    k_steps
    refine ⟨h12, _, G10, om10, om12, us ++ [nd], _, rfl, hB10, F12, News.sub N12 (fun p hp => ?_), sep_turn (w := w) (d := d.up om10) (fun p hp => sep12 p (List.mem_append_left _ hp)), fun q => sep10 _ (List.mem_append_right _ (List.mem_cons_self ..)) q, fun q => sep12 _ (List.mem_append_right _ (List.mem_cons_self ..)) q, o10, o12, ?_⟩
    · rw [List.append_assoc] at hp; exact mem_swap _ _ _ p hp
    · rw [List.map_append, e, List.take_succ_eq_append_getElem hin, List.map_append]
      simp [kt, e1, e2]
  · rintro s' h₁ tk₁ ⟨h', tk, G, om1, om2, us, kk, rfl, hB', F', N', s1, s2, s3, o1, o2, e⟩ hk1
    obtain ⟨F7, N7⟩ := kept_since (h' := h₁) (news := osL w (d.up om1) (ns.drop hf) ++ osL w (av.up om2) us) (N' (I, rit (0 + (hf : Nat) * 1) ((hf : Int) - (hf : Nat))) (by simp)).2.1 (fun p hp q => by
        have q' : p.1 = I := q
        rcases List.mem_append.mp hp with hp | hp
        · exact s2 (by have h := in_os (o := d.up om1) hp; rw [q'] at h; exact h)
        · exact s3 (by have h := in_os (o := av.up om2) hp; rw [q'] at h; exact h)) (N' (I, rit (0 + (hf : Nat) * 1) ((hf : Int) - (hf : Nat))) (by simp)).2.2 F' (News.sub N' fun p hp => List.mem_append_left _ hp) fun b ob hb e => hk1 b ob (by simpa using hb) e
    clear F' N' F6 N6
    dsimp only
    k_steps
    refine CallStop.go ?_
    show wpAny _ _ (call (.ref 121) []) _ _ _
    k_dflt (refine' new_none (L := L1) ?k1 ?kF ?k2 ?k3 ?k4 ?k5 ?k6 ?_; (case k1 => k_asm); (case kF => exact F7); (case k2 => k_asm); (case k3 => k_asm); (case k4 => exact rfl); (case k5 => k_room); (case k6 => k_units))
    intro h12 tk12 mv F12 N12 ok12 k12
    have N13 : News g L1 h12 (osL w mv [] ++ (osL w (d.up om1) (ns.drop hf) ++ osL w (av.up om2) us)) := News.beside N7 (by simp) k12 N12
    have sep13 : ∀ p ∈ osL w (d.up om1) (ns.drop hf) ++ osL w (av.up om2) us, p.1 ∉ osAs mv [] := fun p hp => by have := (k12 p.1 p.2 (N7 p hp).1 (by simp)).2; rwa [osL_as] at this
    clear N7 N12 k12 F7
    k_steps
    refine CallStop.go ?_
    (with_reducible rename Fr _ _ _ _ => F14)
    (with_reducible rename News _ _ _ _ => N14)
    refine r_range (Fr.cg F14 fun y => mS_mixed y) N14 (by omega) (by omega) fun R h15 tk15 F15 N15 hit2 => ?_
    clear F14 N14
    k_steps
    refine CallStop.go ?_
    refine hit2 _ _ _ _ _ _ fun I2 h16 F16 N16 hI16 => ?_
    rw [Int.toNat_natCast] at N16
    clear hit2 hit
    have hlt16 : ∀ {o : OS} {nn : List Node} {om : Obj}, (∀ p ∈ osL w (o.up om) nn, p ∈ osL w mv [] ++ (osL w (d.up om1) (ns.drop hf) ++ osL w (av.up om2) us)) → I2 ∉ osAs o nn := fun {o nn om} hsub q => by
      obtain ⟨ob, hm⟩ := (osAs_mem (w := w) (o := o.up om)).mp q
      exact Nat.lt_irrefl _ (hI16 _ (hsub _ hm))
    have St0 : St2 w g L1 (d.up om1) (av.up om2) mv I2 (rit 0 hf) (ns.drop hf) us [] h16 := by
      refine ⟨News.sub N16 fun p hp => ?_, (fun x hx q => s1 x q hx), fun x hx q => ?_, fun x hx q => ?_, hlt16 (om := om1) fun p hp => ?_, hlt16 (om := om2) fun p hp => ?_, hlt16 (om := mv.om) fun p hp => List.mem_append_left _ hp, o1, o2, ok12⟩
      · simp only [List.mem_append, List.mem_cons, List.not_mem_nil, or_false] at hp ⊢
        rcases hp with h | h | h | h <;> simp [h]
      · obtain ⟨ob, hm⟩ := (osAs_mem (w := w) (o := d.up om1)).mp hx
        exact sep13 _ (List.mem_append_left _ hm) q
      · obtain ⟨ob, hm⟩ := (osAs_mem (w := w) (o := av.up om2)).mp hx
        exact sep13 _ (List.mem_append_right _ hm) q
      · exact List.mem_append_right _ (List.mem_append_left _ hp)
      · exact List.mem_append_right _ (List.mem_append_right _ hp)
    clear N16 sep13 hlt16 hI16
    have hus : us.map kt = ((ns.map kt).take hf).drop 0 := by rw [e, List.map_take, List.drop_zero]
    have husk : us.map Node.k = (ns.take hf).map Node.k := by
      have := congrArg (List.map (fun q : Str × Nat => q.1)) e
      rw [List.map_map, List.map_map] at this
      exact this
    refine for_turns (Walks.range rfl I2 0 1 hf) (fun i s' => J2 w g L1 s d av mv I2 ns hf th low i s') ?_ ?_ ?_ ?_
    · refine ⟨h16, _, G, om1, om2, mv.om, us, [], _, rfl, hB', F16, by simpa using St0, hus, rfl, ?_⟩
      rw [Nat.add_zero, husk, List.map_nil, List.nil_append]
      have h1 : ((ns.take hf).map Node.k ++ (ns.drop hf).map Node.k).Nodup := by rw [← List.map_append, List.take_append_drop]; exact ok.keys
      exact (List.perm_append_comm.nodup_iff).mp h1
    · rintro i s' hi ⟨h', tk, G, om1, om2, om3, us, ms, kk, rfl, hB', F', S', e1, e2, e3⟩
      exact (S'.news (I2, rit (0 + (i : Nat) * 1) ((hf : Int) - (i : Nat))) (by simp)).1
    · rintro i s' v' h₁ tk₁ hi ⟨h', tk, G, om1, om2, om3, us, ms, kk, rfl, hB1, F', S', e1, e2, e3⟩ ⟨tv, rfl⟩ hst hk1
      obtain ⟨F7, S7⟩ := S'.iter F' hk1 hst
      clear F' S' F16
      refine storeX_L F7 S7.news (fun h8 F8 N8 => ?_) rfl rfl
      have S0 : St2 w g L1 (d.up om1) (av.up om2) (mv.up om3) I2 (rit (0 + ((i + 1 : Nat) : Int) * 1) ((hf : Int) - ((i + 1 : Nat) : Int))) (ns.drop (hf + i)) us ms h8 := ⟨N8, S7.da, S7.dm, S7.am, S7.id, S7.ia, S7.im, S7.okd, S7.oka, S7.okm⟩
      have F0 := Fr.cg F8 fun y => mS_k y
      clear F7 S7 N8 F8
      have hlA : ((ns.map kt).take hf).length = hf := by simp; omega
      have hlB : ((ns.map kt).drop hf).length = hf := by simp; omega
      have hin : hf + i < ns.length := by omega
      have hdr : ns.drop (hf + i) = ns[hf + i] :: ns.drop (hf + (i + 1)) := List.drop_eq_getElem_cons hin
      have hkB : ((ns.map kt).drop hf)[i]'(by omega) = kt ns[hf + i] := by rw [List.getElem_drop, List.getElem_map]
      generalize ns[hf + i] = dn at hdr hkB
      rw [hdr] at S0 e3
      cases us with
      | nil => rw [List.map_nil] at e1; have := congrArg List.length e1; simp at this; omega
      | cons u us =>
      rw [List.drop_eq_getElem_cons (by omega), List.map_cons, List.cons.injEq] at e1
      obtain ⟨e1a, e1b⟩ := e1
      simp only [List.map_cons] at e3
      obtain ⟨n1, n2, n3, n4, n5⟩ := nod_facts e3
      have hmz : ms.length ≤ 10 := by
        have h1 := congrArg List.length e2
        have h2 := inter_len low (((ns.map kt).take hf).take i) (((ns.map kt).drop hf).take i)
        rw [List.length_map] at h1
        rw [h1]
        refine Nat.le_trans h2 ?_
        rw [List.length_take]; omega
      have htA : ((ns.map kt).take hf).take (i + 1) = ((ns.map kt).take hf).take i ++ [kt u] := by rw [List.take_succ_eq_append_getElem (by omega), e1a]
      have htB : ((ns.map kt).drop hf).take (i + 1) = ((ns.map kt).drop hf).take i ++ [kt dn] := by rw [List.take_succ_eq_append_getElem (by omega), hkB]
      have hl1 : (((ns.map kt).take hf).take i).length = i := by rw [List.length_take, hlA]; omega
      have hl2 : (((ns.map kt).drop hf).take i).length = i := by rw [List.length_take, hlB]; omega
      have hint := inter_snoc low (((ns.map kt).take hf).take i) (((ns.map kt).drop hf).take i) (kt u) (kt dn) (hl1.trans hl2.symm)
      rw [← htA, ← htB, ← e2] at hint
      have hB0 := hB1
      have N0 := S0.six
      clear hB1
      dsimp only
      cases low with
      | true =>
        k_steps
        refine CallStop.go ?_
        show wpAny _ _ (call (.ref 97) [.ref d.x, .bool false]) _ _ _
        k_dflt (refine' pop_d (L := L1) (d := d.up om1) S0 ?k1 F0 ?k2 ?k3 ?k4 ?k5 ?k6 hB0 ?_; (case k1 => k_asm); (case k2 => k_asm); (case k3 => k_asm); (case k4 => exact rfl); (case k5 => k_room); (case k6 => k_units))
        intro hp0 tkp0 omp0 Gp0 hB1 Fp0 Sp0
        clear S0 F0 N0
        k_steps
        refine CallStop.go ?_
        show wpAny _ _ (call (.ref 68) [.ref mv.x, .str dn.k dn.t]) _ _ _
        k_dflt (refine' add_m (L := L1) (mx := mv.up om3) Sp0 ?k1 Fp0 ?k2 ?k3 ?k4 ?k5 ?k6 n1 (by omega) ?_; (case k1 => k_asm); (case k2 => k_asm); (case k3 => k_asm); (case k4 => exact rfl); (case k5 => k_room); (case k6 => k_units))
        intro ha0 tka0 oma0 nd0 ek0 et0 F1 S1
        clear Sp0 Fp0
        have N1 := S1.six
        k_steps
        refine CallStop.go ?_
        show wpAny _ _ (call (.ref 97) [.ref av.x, .bool false]) _ _ _
        k_dflt (refine' pop_a (L := L1) (a' := av.up om2) S1 ?k1 F1 ?k2 ?k3 ?k4 ?k5 ?k6 hB1 ?_; (case k1 => k_asm); (case k2 => k_asm); (case k3 => k_asm); (case k4 => exact rfl); (case k5 => k_room); (case k6 => k_units))
        intro hp1 tkp1 omp1 Gp1 hB2 Fp1 Sp1
        clear S1 F1 N1
        k_steps
        refine CallStop.go ?_
        show wpAny _ _ (call (.ref 68) [.ref mv.x, .str u.k u.t]) _ _ _
        k_dflt (refine' add_m (L := L1) (mx := (mv.up om3).up oma0) Sp1 ?k1 Fp1 ?k2 ?k3 ?k4 ?k5 ?k6 (by rw [List.map_append, List.map_cons, List.map_nil, ek0]; simp [n2, n3.symm]) (by rw [List.length_append]; simp; omega) ?_; (case k1 => k_asm); (case k2 => k_asm); (case k3 => k_asm); (case k4 => exact rfl); (case k5 => k_room); (case k6 => k_units))
        intro ha1 tka1 oma1 nd1 ek1 et1 F2 S2
        clear Sp1 Fp1
        have N2 := S2.six
        k_steps
        refine ⟨ha1, _, Gp1, omp0, omp1, oma1, us, ms ++ [nd0] ++ [nd1], _, rfl, hB2, F2, S2, e1b, ?_, ?_⟩
        · rw [hint]; simp [kt, ek0, ek1, et0, et1]
        · simpa [ek0, ek1] using n4
      | false =>
        k_steps
        refine CallStop.go ?_
        show wpAny _ _ (call (.ref 97) [.ref av.x, .bool false]) _ _ _
        k_dflt (refine' pop_a (L := L1) (a' := av.up om2) S0 ?k1 F0 ?k2 ?k3 ?k4 ?k5 ?k6 hB0 ?_; (case k1 => k_asm); (case k2 => k_asm); (case k3 => k_asm); (case k4 => exact rfl); (case k5 => k_room); (case k6 => k_units))
        intro hp0 tkp0 omp0 Gp0 hB1 Fp0 Sp0
        clear S0 F0 N0
        k_steps
        refine CallStop.go ?_
        show wpAny _ _ (call (.ref 68) [.ref mv.x, .str u.k u.t]) _ _ _
        k_dflt (refine' add_m (L := L1) (mx := mv.up om3) Sp0 ?k1 Fp0 ?k2 ?k3 ?k4 ?k5 ?k6 n2 (by omega) ?_; (case k1 => k_asm); (case k2 => k_asm); (case k3 => k_asm); (case k4 => exact rfl); (case k5 => k_room); (case k6 => k_units))
        intro ha0 tka0 oma0 nd0 ek0 et0 F1 S1
        clear Sp0 Fp0
        have N1 := S1.six
        k_steps
        refine CallStop.go ?_
        show wpAny _ _ (call (.ref 97) [.ref d.x, .bool false]) _ _ _
        k_dflt (refine' pop_d (L := L1) (d := d.up om1) S1 ?k1 F1 ?k2 ?k3 ?k4 ?k5 ?k6 hB1 ?_; (case k1 => k_asm); (case k2 => k_asm); (case k3 => k_asm); (case k4 => exact rfl); (case k5 => k_room); (case k6 => k_units))
        intro hp1 tkp1 omp1 Gp1 hB2 Fp1 Sp1
        clear S1 F1 N1
        k_steps
        refine CallStop.go ?_
        show wpAny _ _ (call (.ref 68) [.ref mv.x, .str dn.k dn.t]) _ _ _
        k_dflt (refine' add_m (L := L1) (mx := (mv.up om3).up oma0) Sp1 ?k1 Fp1 ?k2 ?k3 ?k4 ?k5 ?k6 (by rw [List.map_append, List.map_cons, List.map_nil, ek0]; simp [n1, n3]) (by rw [List.length_append]; simp; omega) ?_; (case k1 => k_asm); (case k2 => k_asm); (case k3 => k_asm); (case k4 => exact rfl); (case k5 => k_room); (case k6 => k_units))
        intro ha1 tka1 oma1 nd1 ek1 et1 F2 S2
        clear Sp1 Fp1
        have N2 := S2.six
        k_steps
        refine ⟨ha1, _, Gp1, omp1, omp0, oma1, us, ms ++ [nd0] ++ [nd1], _, rfl, hB2, F2, S2, e1b, ?_, ?_⟩
        · rw [hint]; simp [kt, ek0, ek1, et0, et1]
        · simpa [ek0, ek1] using n5
    · rintro s' h₁ tk₁ ⟨h', tk, G, om1, om2, om3, us, ms, kk, rfl, hB1, F', S', e1, e2, e3⟩ hk1
      obtain ⟨F7, N7⟩ := kept_since (h' := h₁) (news := osL w (mv.up om3) ms) (S'.news (I2, rit (0 + (hf : Nat) * 1) ((hf : Int) - (hf : Nat))) (by simp)).2.1 (fun p hp q => by
        have q' : p.1 = I2 := q
        exact S'.im (by have h := in_os (o := mv.up om3) hp; rw [q'] at h; exact h)) (S'.news (I2, rit (0 + (hf : Nat) * 1) ((hf : Int) - (hf : Nat))) (by simp)).2.2 F' (News.sub S'.news fun p hp => by simp [hp]) fun b ob hb e => hk1 b ob (by simpa using hb) e
      have okm := S'.okm
      clear F' S' F16
      have hlA : ((ns.map kt).take hf).length = hf := by simp; omega
      have hlB : ((ns.map kt).drop hf).length = hf := by simp; omega
      rw [List.take_of_length_le (Nat.le_of_eq hlA), List.take_of_length_le (Nat.le_of_eq hlB)] at e2
      dsimp only
      k_steps
      exact ret _ _ G (mv.up om3) ms e2 hB1 (by assumption) (by assumption) okm (by assumption)
end Mine
end

section
open PySem PySem.W PyProof.Rows PySem.Calls
set_option maxRecDepth 100000
namespace Mine
def IntVal (s : Shared) (v : Value) (s' : Shared) : Prop := ∃ (p : Int) (t : Tok) (tk : Nat), v = .int p t ∧ s' = { s with toks := tk }
theorem IntVal.mono {M : Model} {A : Around} {E : Value → Shared → Prop} {s : Shared} {t : Sem Value} {Q : Value → Shared → Prop} (h : wpAny M A t (IntVal s) E s) (k : ∀ (p : Int) (t : Tok) (tk : Nat), Q (.int p t) { s with toks := tk }) : wpAny M A t Q E s :=
  wpAny_mono h (fun v s' hv => by obtain ⟨p, t, tk, rfl, rfl⟩ := hv; exact k p t tk) fun _ _ z => z
/-- the end of one element of a comprehension -/
def EltEnd (h₀ : Heap) (L : Addr) (m : Str → Option Value) (s₁ : Shared) (all : List (Addr × Obj)) (f : Value → Prop) (y : Value) (s₂ : Shared) : Prop :=
  ∃ h' tk, s₂ = { s₁ with heap := h', toks := tk } ∧ Fr h₀ L h' m ∧ News h₀ L h' all ∧ f y
section
variable {prog : Program} {w : World} {A : Around} {E : Value → Shared → Prop} {s : Shared} {h₀ : Heap} {L : Addr} {m : Str → Option Value} {env : Env} {elt : Expr} {x : Str} {scope : Scope} {cl : List (Str × Addr)} {news : List (Addr × Obj)}
theorem cr_fold {S : List (Addr × Obj) → Prop} {P : Nat → Value → Prop} {Fin : List Value → List (Addr × Obj) → Prop} {n : Nat} (f : Nat → Value → Prop) (hS : S news)
    (turn : ∀ i v I oI C oC D m₂ ys h tk (E' : Value → Shared → Prop), i < n → P i v → LCg.NsObj oC m₂ → m₂ x = some v → Fr h₀ L h m → News h₀ L h ((I, oI) :: (C, oC) :: (D, LCg.lst ys) :: news) → LCg.Off3 I C D news → ((@Ne Nat I C) ∧ (@Ne Nat I D) ∧ (@Ne Nat C D)) →
      wpAny (model prog w) A (eval elt (compEnvC scope cl C env)) (EltEnd h₀ L m { s with heap := h, toks := tk } ((I, oI) :: (C, oC) :: (D, LCg.lst ys) :: news) (f i)) E' { s with heap := h, toks := tk })
    (fin : ∀ ys, ys.length = n → (∀ j y, ys[j]? = some y → f j y) → Fin ys news) : LCg.CompRest prog w A h₀ L m env elt x scope cl s S P Fin n 0 [] news := by
  have key : ∀ (j i : Nat) (ys : List Value), i + j = n → ys.length = i → (∀ j y, ys[j]? = some y → f j y) → LCg.CompRest prog w A h₀ L m env elt x scope cl s S P Fin j i ys news := by
    intro j
    induction j with
    | zero =>
      intro i ys hi hl hy
      exact LCg.CompRest.zero (fin ys (by omega) hy)
    | succ j ih =>
      intro i ys hi hl hy
      refine LCg.CompRest.succ ?_
      intro v I oI C oC D m₂ h tk E' hv hC hx F N off ne
      refine wpAny_mono (turn i v I oI C oC D m₂ ys h tk E' (by omega) hv hC hx F N off ne) (fun y s₂ hq => ?_) fun _ _ e => e
      obtain ⟨h', tk', e, F', N', hf⟩ := hq
      refine ⟨h', tk', news, e, F', N', off, hS, ?_⟩
      refine ih (i + 1) _ (by omega) (by simp [hl]) fun j y hj => ?_
      rcases Nat.lt_trichotomy j ys.length with h | h | h
      · exact hy j y (by rwa [List.getElem?_append_left h] at hj)
      · subst h; simp at hj; subst hj; rw [hl]; exact hf
      · rw [List.getElem?_eq_none (by simp; omega)] at hj; cases hj
  exact key n 0 [] (by omega) rfl (fun j y hj => by simp at hj)
theorem src_range {Fin : Shared → List Value → List (Addr × Obj) → Prop} {N : Int} {t : Tok} {n : Nat} (hN : N = (n : Int)) (hn : n ≤ 1000) (hh : A.handled = none) (F : Fr h₀ L s.heap m) (NN : News h₀ L s.heap news)
    (h : ∀ g tk, LCg.CompRest prog w A h₀ L m env elt x scope cl { s with heap := g, toks := tk } (fun _ => True) (fun i v => ∃ t, v = .int (0 + (i : Int)) t) (Fin { s with heap := g, toks := tk }) n 0 [] news) :
    wpAny (model prog w) A (call (.type "range") [.int N t]) (LCg.CompSrc prog w A h₀ L m env elt x scope cl Fin) E s := by
  subst hN
  refine call_range_1 ?_
  have hsz : Builtin.Range.rangeSize 0 n 1 = ((n : Nat) : Int) := by rw [rangeSize_one]; split <;> omega
  exact LCg.CompSrc.range hh (F.push _) (fun p hp => ⟨Heap.get?_push_of_some _ (NN p hp).1, (NN p hp).2⟩) (IsRange.new ..) (small_one (by decide) (by decide) (by omega) (by omega)) hsz (by rw [sizeLine_eq]; omega) fun g => h _ _
end
end Mine
namespace Mine
theorem strs_of (f : Nat → Str) : ∀ (n : Nat) (ys : List Value), ys.length = n → (∀ (j : Nat) (y : Value), ys[j]? = some y → ∃ t, y = Value.str (f j) t) → ∃ ks : List (Str × Nat), ys = ks.map kv ∧ ks.map (·.1) = (List.range n).map f := by
  intro n
  induction n with
  | zero => intro ys hl _; exact ⟨[], by simpa using hl, rfl⟩
  | succ n ih =>
    intro ys hl hy
    obtain ⟨zs, z, rfl⟩ : ∃ zs z, ys = zs ++ [z] := by
      have hne : ys ≠ [] := by rintro rfl; cases hl
      exact ⟨_, _, (List.dropLast_concat_getLast hne).symm⟩
    have lz : zs.length = n := by simpa using hl
    obtain ⟨ks, e1, e2⟩ := ih zs lz fun j y hj => hy j y (by rw [List.getElem?_append_left (List.getElem?_eq_some_iff.mp hj).1, hj])
    obtain ⟨t, et⟩ := hy n z (by rw [← lz]; simp)
    refine ⟨ks ++ [(f n, t)], by rw [e1, et]; simp, ?_⟩
    rw [List.map_append, e2, List.range_succ, List.map_append]; rfl
theorem lst_is (ys : List Value) : IsLst (LCg.lst ys) ys := ⟨rfl, _, rfl⟩
theorem ints_of (f : Nat → Int) : ∀ (n : Nat) (ys : List Value), ys.length = n → (∀ (j : Nat) (y : Value), ys[j]? = some y → ∃ t, y = Value.int (f j) t) → IntsAre ys ((List.range n).map f) := by
  intro n
  induction n with
  | zero => intro ys hl _; rw [show ys = [] by simpa using hl]; exact .nil
  | succ n ih =>
    intro ys hl hy
    obtain ⟨zs, z, rfl⟩ : ∃ zs z, ys = zs ++ [z] := by
      have hne : ys ≠ [] := by rintro rfl; cases hl
      exact ⟨_, _, (List.dropLast_concat_getLast hne).symm⟩
    have lz : zs.length = n := by simpa using hl
    have h1 := ih zs lz fun j y hj => hy j y (by rw [List.getElem?_append_left (List.getElem?_eq_some_iff.mp hj).1, hj])
    obtain ⟨t, et⟩ := hy n z (by rw [← lz]; simp)
    rw [List.range_succ, List.map_append, et]
    exact IntsAre.append h1 (.cons (f n) t .nil)
set_option maxHeartbeats 1000000 in
theorem new_list2 {w : World} {loose : List Str} {mean : ExcName → Option Value} {mg mb : Str → Option Value} {dp un : Nat} {gd : Option (List Code)} {cn : Str} {cs : Scope} {L a : Addr} {ccd : Value} {cl : List (Str × Addr)} {outer : List Env} {A₀ : Around} {base h₀ : Heap}
    {m : Str → Option Value} {s : Shared} {Q E : Value → Shared → Prop} {D : Nat} {ys : List Value} {ks : List (Str × Nat)} {rest : List (Addr × Obj)}
    (B : Below A₀ base outer h₀) (F : Fr h₀ L s.heap m) (X : (PySem.Challenge.hd.heap_39 w.params).In h₀) (T : Top PySem.Challenge.hd.view_39 loose mean mg mb h₀) (hk : cs.kind = .function)
    (hdp : dp + 40 < recursionLimit) (hun : un + 400 < cLine)
    (N : News h₀ L s.heap ((D, LCg.lst ys) :: rest)) (off : ∀ p ∈ rest, p.1 ≠ D) (hl : ys = ks.map kv) (hkn : (ks.map (·.1)).Nodup) (hz : ks.length ≤ 50)
    (ret : ∀ h' tk' o ns, ns.map kt = ks → Fr h₀ L h' m → News h₀ L h' ((D, LCg.lst ys) :: (rest ++ osL w o ns)) → (∀ p ∈ (D, LCg.lst ys) :: rest, p.1 ∉ osAs o ns) → OSok w o ns → Q (.ref o.x) { s with heap := h', toks := tk' }) :
    wpAny (model PySem.Challenge.rw_fc0213_01.row.prog w) (ktrTop dp un gd cn cs L a ccd cl outer) (call (.ref 121) [.ref D]) Q E s := by
  refine new_list B F X T hk hdp hun (lo := LCg.lst ys) (ks := ks) (News.sub N fun p hp => by rw [List.mem_singleton.mp hp]; exact List.mem_cons_self ..) (hl ▸ lst_is ys) hkn hz fun h' tk' o ns e F' N' hD ok K => ?_
  have kr : ∀ p ∈ rest, h'.get? p.1 = some p.2 ∧ p.1 ∉ osAs o ns := fun p hp => by
    have := K p.1 p.2 (N p (List.mem_cons_of_mem _ hp)).1 (by simpa using off p hp)
    refine ⟨this.1, fun q => this.2 ?_⟩
    rw [List.map_append, osL_as]; exact List.mem_append_left _ q
  refine ret h' tk' o ns e F' (fun p hp => ?_) (fun p hp => ?_) ok
  · rcases List.mem_cons.mp hp with rfl | hp
    · exact N' _ (by simp)
    rcases List.mem_append.mp hp with hp | hp
    · exact ⟨(kr p hp).1, (N p (List.mem_cons_of_mem _ hp)).2⟩
    · exact N' _ (List.mem_append_left _ hp)
  · rcases List.mem_cons.mp hp with rfl | hp
    · exact hD
    · exact (kr p hp).2
end Mine
namespace Mine
abbrev nmL : List Str := [Str.ofString "x", Str.ofString "y.2", Str.ofString "list", Str.ofString "a_b", Str.ofString "%41", Str.ofString "z", Str.ofString "xx", Str.ofString "Q", Str.ofString "", Str.ofString "k0"]
def nmS (q : Int) (i : Nat) : Str := nmL.getD ((0 + (i : Int) + q).fmod 10).toNat Str.empty
end Mine
namespace Mine
theorem off1_mem {D : Addr} : ∀ {l : List (Addr × Obj)}, LCg.Off1 D l → ∀ p ∈ l, p.1 ≠ D
  | [], _, _, h => nomatch h
  | _ :: _, x, p, h => by
    rcases List.mem_cons.mp h with rfl | h
    · exact x.1
    · exact off1_mem x.2 p h
theorem nm_dec : ∀ r < 10, ((List.range 10).map fun i => nmL.getD ((i + r) % 10) Str.empty).Nodup := by decide +kernel
theorem nm_nodup (q : Int) (n : Nat) (hn : n ≤ 10) : ((List.range n).map (nmS q)).Nodup := by
  have hq := Int.fmod_nonneg_of_pos q (b := 10) (by decide)
  have hq' := Int.fmod_lt_of_pos q (b := 10) (by decide)
  have e : (List.range 10).map (nmS q) = (List.range 10).map fun i => nmL.getD ((i + (q.fmod 10).toNat) % 10) Str.empty := by
    refine List.map_congr_left fun i _ => ?_
    unfold nmS
    congr 1
    have e1 : q.fmod 10 = q % 10 := Int.fmod_eq_emod_of_nonneg _ (by decide)
    have e2 : (0 + (i : Int) + q).fmod 10 = (0 + (i : Int) + q) % 10 := Int.fmod_eq_emod_of_nonneg _ (by decide)
    rw [e2]
    rw [e1] at hq hq' ⊢
    omega
  have h1 := nm_dec (q.fmod 10).toNat (by omega)
  rw [← e] at h1
  have h2 : (List.range n).Sublist (List.range 10) := by
    have : List.range n = (List.range 10).take n := by rw [List.take_range]; congr 1; omega
    rw [this]; exact List.take_sublist _ _
  exact List.Sublist.nodup (List.Sublist.map _ h2) h1
end Mine
namespace Mine
theorem bounds4 (n : Nat) : sliceBounds none (some 4) none n = (((0 : Nat) : Int), ((min 4 n : Nat) : Int), (1 : Int)) := by
  unfold sliceBounds
  simp
  omega
end Mine
namespace Mine
section
variable {prog : Program} {w : World} {A : Around} {E : Value → Shared → Prop} {s : Shared} {h₀ : Heap} {L l : Addr} {m : Str → Option Value} {news : List (Addr × Obj)}
theorem r_slice4 {value : PySem.Expr} {b : PySem.Expr} {p : Pos} {ws : List Value} {t : Tok} {Q : Value → Shared → Prop} (F : Fr h₀ L s.heap m) (N : News h₀ L s.heap news) (hm : (l, listOf ws.toArray 0) ∈ news) (hz : ws.length ≤ 1000)
    (h : ∀ (D : Nat) h', Fr h₀ L h' m → News h₀ L h' ((D, listOf (ws.take 4).toArray 0) :: news) → (∀ p ∈ news, @LT.lt Nat _ p.1 D) → Q (.ref D) { s with heap := h' }) :
    wpAny (model prog w) A (subscriptTail value (.Slice none (some b) none p) (.ref l) (.ref s.heap.objs.size)) Q E { s with heap := s.heap.push { cls := .type "slice", data := .fields #[.none, .int 4 t, .none] } } := by
  refine kba_turn (value' := PySem.Expr.Name (PySem.Str.ofString "_") ⟨0, 0, 0, 0⟩) (fun _ => rfl) ?_
  refine kmk_slice F N (lo := none) (hi := some 4) (its := ws.toArray) ⟨_, (N _ hm).1, rfl, _, rfl⟩ IsPart.none (IsPart.int _ _) (fun D h' F' N' l1 => h D h' F' ?_ l1) (by with_unfolding_all rfl) (fun _ => rfl) (by rw [sizeLine_eq]; simpa using (by omega : ws.length ≤ 16777216))
  have e := kmk_pick_nat (lo := none) (hi := some 4) ws.toArray (a := 0) (b := min 4 ws.length) (by rw [bounds4]; simp)
  rw [e] at N'
  have e2 : ((ws.toArray.toList.drop 0).take (min 4 ws.length - 0)) = ws.take 4 := by
    simp [List.take_eq_take_iff]
  rw [e2] at N'
  exact N'
end
end Mine
end

section
open PySem PySem.W PyProof.Rows PySem.Calls
set_option maxRecDepth 100000
namespace Mine
local macro_rules | `(tactic| walk_at "mine pad 0") => `(tactic| fail)
local macro_rules | `(tactic| walk_at "mine pad 1") => `(tactic| fail)
local macro_rules | `(tactic| walk_at "mine pad 2") => `(tactic| fail)
local macro_rules | `(tactic| walk_at "mine pad 3") => `(tactic| fail)
local macro_rules | `(tactic| walk_at "mine pad 4") => `(tactic| fail)
local macro_rules | `(tactic| walk_at "mine pad 5") => `(tactic| fail)
local macro_rules | `(tactic| walk_at "mine pad 6") => `(tactic| fail)
local macro_rules | `(tactic| walk_at "mine pad 7") => `(tactic| fail)
local macro_rules | `(tactic| walk_at "mine pad 8") => `(tactic| fail)
local macro_rules | `(tactic| walk_at "mine pad 9") => `(tactic| fail)
local macro_rules | `(tactic| walk_at "mine pad 10") => `(tactic| fail)
local macro_rules | `(tactic| walk_at "mine pad 11") => `(tactic| fail)
local macro_rules | `(tactic| walk_at "mine pad 12") => `(tactic| fail)
local macro_rules | `(tactic| walk_at "mine pad 13") => `(tactic| fail)
local macro_rules | `(tactic| walk_at "mine pad 14") => `(tactic| fail)
local macro_rules | `(tactic| walk_at "mine pad 15") => `(tactic| fail)
local macro_rules | `(tactic| walk_at "mine pad 16") => `(tactic| fail)
local macro_rules | `(tactic| walk_at "mine pad 17") => `(tactic| fail)
local macro_rules | `(tactic| walk_at "mine pad 18") => `(tactic| fail)
local macro_rules | `(tactic| walk_at "mine pad 19") => `(tactic| fail)
theorem refill13 : ∀ (w : World) (h : Heap), (PySem.Challenge.hd.heap_39 w.params).In h → (PySem.Challenge.hd.heap_39 w.params).In h ∧ PySem.Challenge.rw_fc0213_01.foot = 3 := by
  k_fill
  exact fun _ _ x => ⟨x, rfl⟩
local macro_rules | `(tactic| walk_at "compareOp NotIn str ref") => `(tactic| (k_here; (refine' mp_notin ?N ?hm ?hd ?lo ?hv ?_; (case N => k_asm); (case hm => k_mem); (case hd => k_asm); (case lo => k_asm); (case hv => k_asm))))
local macro_rules | `(tactic| walk_at "setItem ref str") => `(tactic| (k_here; (refine' mp_set ?F ?N ?U ?hd ?hz ?_; (case F => k_asm); (case N => k_asm); (case U => k_updF); (case hd => k_asm); (case hz => k_asm); k_whole; intro h' o' F' N' d'; (try dsimp only at N'); (try k_sweep))))
local macro_rules | `(tactic| k_room) => `(tactic| ((try simp only [depth_under_make, depth_under_kw, depth_in1, depth_deeper, depth_caller]); (try dsimp only [ktrTop]); omega))
local macro_rules | `(tactic| walk_at "LeaveS") => `(tactic| (k_dflt (refine' leaveS_ ?F ?N ?_; (case F => k_asm); (case N => k_asm); k_whole); intro kF kN kK; (try dsimp only)))
local macro_rules | `(tactic| k_enter) => `(tactic| (refine' code_split ?k1 ?k2 ?k3 ?k4 ?k5 ?kA ?kF ?kK ?k6 ?k7 ?k8 ?k9 ?kB ?_ ?c2 ?c3 ?c4 ?c5; (case kA => exact rfl); (case kF => exact rfl); (case kK => assumption); (case k1 => k_asm); (case k2 => k_asm); (case k3 => k_asm); (case k4 => k_asm); (case k5 => k_asm); (case k6 => k_is); (case k7 => k_is); (case k8 => k_room); (case k9 => first | exact BindsTo.of_eq rfl | exact binds_K (by k_in) rfl (by k_is) rfl rfl rfl); (case c5 => decide); (case kB => exact locs rfl); (case c2 => exact rfl); (case c3 => exact rfl); (case c4 => exact rfl); k_whole; intro g' L' h' FG' F' N' B' X' T' hG; (try dsimp only); (try k_fold)))
local macro_rules | `(tactic| walk_at "call builtin:len") => `(tactic| (k_here; (refine' mp_len ?N ?hm ?hd ?lo ?hz ?_; (case N => k_asm); (case hm => k_mem); (case hd => k_asm); (case lo => k_asm); (case hz => k_asm))))
theorem keep_all {h₀ h h' : Heap} {L : Addr} {own : List (Addr × Obj)} (N : News h₀ L h own) (N' : News h₀ L h' own) (k : Kept own own h h') : ∀ b o, h.get? b = some o → h'.get? b = some o := fun b o e => by
  by_cases hb : b ∈ own.map (·.1)
  · obtain ⟨p, hp, rfl⟩ := List.mem_map.mp hb
    have h1 := (N p hp).1
    rw [e] at h1
    exact (N' p hp).1.trans h1.symm
  · exact (k b o e hb).1
set_option maxHeartbeats 8000000 in
theorem len_k {w : World} {loose : List Str} {mean : ExcName → Option Value} {mg mb : Str → Option Value} {dp un : Nat} {gd : Option (List Code)} {cn : Str} {cs : Scope} {L a : Addr} {ccd : Value} {cl : List (Str × Addr)} {outer : List Env} {A₀ : Around} {base h₀ : Heap}
    {m : Str → Option Value} {s : Shared} {Q E : Value → Shared → Prop} {o : OS} {ns : List Node} {own : List (Addr × Obj)}
    (F : Fr h₀ L s.heap m) (X : (PySem.Challenge.hd.heap_39 w.params).In h₀) (T : Top PySem.Challenge.hd.view_39 loose mean mg mb h₀) (B : Below A₀ base outer h₀) (hk : cs.kind = .function)
    (hdp : dp + 10 < recursionLimit)
    (N : News h₀ L s.heap own) (hsub : ∀ p ∈ osL w o ns, p ∈ own) (ok : OSok w o ns)
    (ret : ∀ h' (tk' t : Nat), Fr h₀ L h' m → News h₀ L h' own → (∀ b ob, s.heap.get? b = some ob → h'.get? b = some ob) → Q (.int ns.length t) { s with heap := h', toks := tk' }) :
    wpAny (model PySem.Challenge.rw_fc0213_01.row.prog w) (ktrTop dp un gd cn cs L a ccd cl outer) (call (.ref 54) [.ref o.x]) Q E s := by
  refine wpAny_call ?_
  have N0 : News h₀ L s.heap ((o.x, instObj 121 o.dx) :: (o.dx, osDict w o.t1 o.t2 o.r o.mm) :: (o.mm, o.om) :: own) := fun p hp => by
    rcases List.mem_cons.mp hp with rfl | hp
    · exact N _ (hsub _ (by simp [osL]))
    rcases List.mem_cons.mp hp with rfl | hp
    · exact N _ (hsub _ (by simp [osL]))
    rcases List.mem_cons.mp hp with rfl | hp
    · exact N _ (hsub _ (by simp [osL]))
    · exact N _ hp
  have hd := ok.dict
  have lo := ok.lo
  have hz : (kvsOf ns).length ≤ 1000 := by have := ok.small; simp [kvsOf]; omega
  k_dflt k_enter
  k_steps
  have hl : ((kvsOf ns).length : Int) = ns.length := by simp [kvsOf]
  rw [hl]
  refine ret _ _ _ (by assumption) (News.sub (by assumption) fun p hp => List.mem_cons_of_mem _ (List.mem_cons_of_mem _ (List.mem_cons_of_mem _ hp))) (keep_all N0 (by assumption) (by assumption))

end Mine
end

section
open PySem PySem.W PyProof.Rows PySem.Calls
set_option maxRecDepth 100000
namespace Mine
local macro_rules | `(tactic| walk_at "mine pad 0") => `(tactic| fail)
local macro_rules | `(tactic| walk_at "mine pad 1") => `(tactic| fail)
local macro_rules | `(tactic| walk_at "mine pad 2") => `(tactic| fail)
local macro_rules | `(tactic| walk_at "mine pad 3") => `(tactic| fail)
local macro_rules | `(tactic| walk_at "mine pad 4") => `(tactic| fail)
local macro_rules | `(tactic| walk_at "mine pad 5") => `(tactic| fail)
local macro_rules | `(tactic| walk_at "mine pad 6") => `(tactic| fail)
local macro_rules | `(tactic| walk_at "mine pad 7") => `(tactic| fail)
local macro_rules | `(tactic| walk_at "mine pad 8") => `(tactic| fail)
local macro_rules | `(tactic| walk_at "mine pad 9") => `(tactic| fail)
local macro_rules | `(tactic| walk_at "mine pad 10") => `(tactic| fail)
local macro_rules | `(tactic| walk_at "mine pad 11") => `(tactic| fail)
local macro_rules | `(tactic| walk_at "mine pad 12") => `(tactic| fail)
local macro_rules | `(tactic| walk_at "mine pad 13") => `(tactic| fail)
local macro_rules | `(tactic| walk_at "mine pad 14") => `(tactic| fail)
local macro_rules | `(tactic| walk_at "mine pad 15") => `(tactic| fail)
local macro_rules | `(tactic| walk_at "mine pad 16") => `(tactic| fail)
local macro_rules | `(tactic| walk_at "mine pad 17") => `(tactic| fail)
local macro_rules | `(tactic| walk_at "mine pad 18") => `(tactic| fail)
local macro_rules | `(tactic| walk_at "mine pad 19") => `(tactic| fail)
local macro_rules | `(tactic| walk_at "mine pad 20") => `(tactic| fail)
local macro_rules | `(tactic| walk_at "mine pad 21") => `(tactic| fail)
theorem refill14 : ∀ (w : World) (h : Heap), (PySem.Challenge.hd.heap_39 w.params).In h → (PySem.Challenge.hd.heap_39 w.params).In h ∧ PySem.Challenge.rw_fc0213_01.foot = 3 := by
  k_fill
  exact fun _ _ x => ⟨x, rfl⟩
local macro_rules | `(tactic| walk_at "compareOp NotIn str ref") => `(tactic| (k_here; (refine' mp_notin ?N ?hm ?hd ?lo ?hv ?_; (case N => k_asm); (case hm => k_mem); (case hd => k_asm); (case lo => k_asm); (case hv => k_asm))))
local macro_rules | `(tactic| walk_at "setItem ref str") => `(tactic| (k_here; (refine' mp_set ?F ?N ?U ?hd ?hz ?_; (case F => k_asm); (case N => k_asm); (case U => k_updF); (case hd => k_asm); (case hz => k_asm); k_whole; intro h' o' F' N' d'; (try dsimp only at N'); (try k_sweep))))
local macro_rules | `(tactic| k_room) => `(tactic| ((try simp only [depth_under_make, depth_under_kw, depth_in1, depth_deeper, depth_caller]); (try dsimp only [ktrTop]); omega))
local macro_rules | `(tactic| walk_at "LeaveS") => `(tactic| (k_dflt (refine' leaveS_ ?F ?N ?_; (case F => k_asm); (case N => k_asm); k_whole); intro kF kN kK; (try dsimp only)))
local macro_rules | `(tactic| k_enter) => `(tactic| (refine' code_split ?k1 ?k2 ?k3 ?k4 ?k5 ?kA ?kF ?kK ?k6 ?k7 ?k8 ?k9 ?kB ?_ ?c2 ?c3 ?c4 ?c5; (case kA => exact rfl); (case kF => exact rfl); (case kK => assumption); (case k1 => k_asm); (case k2 => k_asm); (case k3 => k_asm); (case k4 => k_asm); (case k5 => k_asm); (case k6 => k_is); (case k7 => k_is); (case k8 => k_room); (case k9 => first | exact BindsTo.of_eq rfl | exact binds_K (by k_in) rfl (by k_is) rfl rfl rfl); (case c5 => decide); (case kB => exact locs rfl); (case c2 => exact rfl); (case c3 => exact rfl); (case c4 => exact rfl); k_whole; intro g' L' h' FG' F' N' B' X' T' hG; (try dsimp only); (try k_fold)))

set_option maxHeartbeats 8000000 in
theorem os_iterH {w : World} {loose : List Str} {mean : ExcName → Option Value} {mg mb : Str → Option Value} {dp un : Nat} {gd : Option (List Code)} {cn : Str} {cs : Scope} {L a : Addr} {ccd : Value} {cl : List (Str × Addr)} {outer : List Env} {h₀ : Heap}
    {m : Str → Option Value} {s : Shared} {Q E : Value → Shared → Prop} {o : OS} {ns : List Node} {own : List (Addr × Obj)}
    (F : Fr h₀ L s.heap m) (X : (PySem.Challenge.hd.heap_39 w.params).In h₀) (T : Top PySem.Challenge.hd.view_39 loose mean mg mb h₀)
    (hdp : dp + 10 < recursionLimit)
    (N : News h₀ L s.heap own) (hsub : ∀ p ∈ osL w o ns, p ∈ own) (ok : OSok w o ns) (hid : List Addr) (hid1 : ∀ b ∈ hid, b ∈ own.map (·.1)) (hid2 : ∀ p ∈ osL w o ns, p.1 ∉ hid)
    (ret : ∀ h' tk' gs, gs.bare = true → Fr h₀ L h' m → News h₀ L h' own → (∀ b o, s.heap.get? b = some o → h'.get? b = some o) →
      (∀ A' : Around, A'.handled = none → A'.depth < recursionLimit → GenFn PySem.Challenge.rw_fc0213_01.row.prog w A' (s.heap.objs.size + 1) s.gens.size s.heap.objs.size ((List.range s.heap.objs.size).filter fun b => decide (b ∉ hid)) ns.length (fun i v => ∃ nd, ns[i]? = some nd ∧ v = .str nd.k nd.t) 0 { s with heap := h', gens := s.gens.push gs, toks := tk' }) →
      Q (.ref (s.heap.objs.size + 1)) { s with heap := h', gens := s.gens.push gs, toks := tk' }) :
    wpAny (model PySem.Challenge.rw_fc0213_01.row.prog w) (ktrTop dp un gd cn cs L a ccd cl outer) (call (.ref 82) [.ref o.x]) Q E s := by
  refine wpAny_call ?_
  k_dflt (refine' gen_split ?k2 ?k3 ?k4 ?k5 ?k6 ?k7 ?k8 ?k9 ?kB ?_ ?c2 ?c3 ?c4 ?c5; (case k2 => k_asm); (case k3 => k_asm); (case k4 => exact N); (case k5 => exact T.nolimit); (case k6 => k_is); (case k7 => k_is); (case k8 => k_room); (case k9 => exact BindsTo.of_eq rfl); (case c5 => decide); (case kB => exact locs rfl); (case c2 => exact rfl); (case c3 => exact rfl); (case c4 => exact rfl); k_whole)
  intro g h' tk F₁ N₁ keep FG NG XG hG hlim _ gsub
  dsimp only
  refine ret h' tk _ rfl F₁ N₁ keep fun A' hA' hdA => ⟨hG, hlim, _, (Array.getElem?_push_size ..), fun s'' hal => ⟨rfl, ?_⟩⟩
  have FG0 : Fr g s.heap.objs.size h' (m0 o.x) := Fr.cg FG fun y => (show List.lookup y [(Str.ofString "self", Value.ref o.x)] = _ from lookup_one _ _ _)
  clear FG
  -- at the wake
  have hfp : ∀ b ob, s.heap.get? b = some ob → b ∉ hid → b ∈ (List.range s.heap.objs.size).filter fun b => decide (b ∉ hid) := fun b ob e hb => List.mem_filter.mpr ⟨List.mem_range.mpr (Heap.lt_size e), by simpa using hb⟩
  have hgh : ∀ b ob, g.get? b = some ob → b ∉ hid := fun b ob e hb => by
    obtain ⟨p, hp, rfl⟩ := List.mem_map.mp (hid1 b hb)
    rw [(NG p hp).2.2] at e; cases e
  have F2 : Fr g s.heap.objs.size s''.heap (m0 o.x) := ⟨FG0.ns.at' fun ob e => hal _ (List.mem_cons_self ..) ob e, fun b ob e => hal b (List.mem_cons_of_mem _ (hfp b ob (gsub b ob e) (hgh b ob e))) ob (FG0.keep b ob e), FG0.above⟩
  have N2 : News g s.heap.objs.size s''.heap (osL w o ns) := fun p hp => ⟨hal _ (List.mem_cons_of_mem _ (by
    have := N p (hsub p hp)
    obtain ⟨oL, es, ep, hL, r⟩ := F.ns
    exact hfp _ _ this.1 (hid2 p hp))) _ (NG p (hsub p hp)).1, (NG p (hsub p hp)).2⟩
  have osin : ∀ p ∈ osL w o ns, p.1 ∈ (List.range s.heap.objs.size).filter fun b => decide (b ∉ hid) := fun p hp => hfp _ _ (N p (hsub p hp)).1 (hid2 p hp)
  have gin : ∀ b ob, g.get? b = some ob → b ∈ (List.range s.heap.objs.size).filter fun b => decide (b ∉ hid) := fun b ob e => hfp b ob (gsub b ob e) (hgh b ob e)
  clear hal FG0 F₁ N₁ keep hG hlim NG ret hfp hgh
  generalize (List.range s.heap.objs.size).filter (fun b => decide (b ∉ hid)) = fpp at *
  generalize s.heap.objs.size = Lg at *
  refine seg_func ?_
  refine seg_execs_cons (seg_wrap ?_)
  have N3 : News g Lg s''.heap ((o.x, instObj 121 o.dx) :: (o.dx, osDict w o.t1 o.t2 o.r o.mm) :: (o.mm, o.om) :: (o.r, rootO o.dr (lastA ns o.r) (firstA ns o.r)) :: (o.dr, dictOf [] 0) :: (links o.r ns o.r ++ restOf g s''.heap Lg)) := news_both N2 news_rest
  have F6 : Fr g Lg s''.heap _ ∧ True := ⟨F2, trivial⟩
  k_steps
  dsimp only
  refine seg_execs_cons (seg_wrap ?_)
  k_steps
  dsimp only
  refine seg_execs_cons (seg_While fun p => ?_)
  rw [Nat.sub_zero]
  refine seg_turns (St := GSt w g Lg o ns) rfl rfl rfl rfl (fun n h1 h2 st k => st.frame gin osin k) ?_ ?_ ?_ ?hA ?_ ns.length _ _ (Nat.le_refl _) ?_ ?_
  case hA => intro c; exact hA'
  · intro A2 n s3 Q3 E3 hh hn st hQ
    obtain ⟨F5, N5⟩ := st
    cases n with
    | zero =>
      rw [show ns.drop (ns.length - 0) = [] by simp] at F5
      k_steps
      exact hQ s3.toks
    | succ n =>
      obtain ⟨u, us, e1, e2, e3, e4⟩ := drop_cons hn
      rw [e1] at F5
      have h2 := links_at (ns.take (ns.length - (n + 1))) u us o.r o.r
      rw [← e4] at h2
      have hu := N5 _ (show (u.a, linkO u.d (lastA (ns.take (ns.length - (n + 1))) o.r) (firstA us o.r) u.k u.t) ∈ osL w o ns by simp [osL, h2.1])
      have hr := N5 _ (show (o.r, rootO o.dr (lastA ns o.r) (firstA ns o.r)) ∈ osL w o ns by simp [osL])
      have hne : u.a ≠ o.r := ok.ne_root (by rw [e4]; simp)
      k_steps
      refine wpAny_isNot_ref_other hne hu.1 hr.1 (by simp) ?_
      k_steps
      exact hQ _
  · intro A2 n s3 Q3 E3 hh hn st hQ
    obtain ⟨F5, N5⟩ := st
    obtain ⟨u, us, e1, e2, e3, e4⟩ := drop_cons hn
    rw [e1] at F5
    have N6 : News g Lg s3.heap ((u.a, linkO u.d (lastA (ns.take (ns.length - (n + 1))) o.r) (firstA us o.r) u.k u.t) :: (u.d, dictOf [] 0) :: osL w o ns) := fun q hq => by
      have h2 := links_at (ns.take (ns.length - (n + 1))) u us o.r o.r
      rw [← e4] at h2
      rcases List.mem_cons.mp hq with rfl | hq
      · exact N5 _ (by simp [osL, h2.1])
      · rcases List.mem_cons.mp hq with rfl | hq
        · exact N5 _ (by simp [osL, h2.2])
        · exact N5 _ hq
    k_steps
    exact hQ _ _ ⟨u, e3, rfl⟩
  · intro A2 n s3 Q3 E3 hh hn st hQ
    obtain ⟨F5, N5⟩ := st
    obtain ⟨u, us, e1, e2, e3, e4⟩ := drop_cons hn
    rw [e1] at F5
    have N6 : News g Lg s3.heap ((u.a, linkO u.d (lastA (ns.take (ns.length - (n + 1))) o.r) (firstA us o.r) u.k u.t) :: (u.d, dictOf [] 0) :: (osL w o ns ++ restOf g s3.heap Lg)) := fun q hq => by
      have h2 := links_at (ns.take (ns.length - (n + 1))) u us o.r o.r
      rw [← e4] at h2
      rcases List.mem_cons.mp hq with rfl | hq
      · exact N5 _ (by simp [osL, h2.1])
      · rcases List.mem_cons.mp hq with rfl | hq
        · exact N5 _ (by simp [osL, h2.2])
        · exact news_both N5 news_rest _ hq
    have F6 : Fr g Lg s3.heap _ ∧ True := ⟨F5, trivial⟩
    k_steps
    rename_i hh' FF NN
    refine hQ _ _ ⟨Fr.cg FF fun y => ?_, fun q hq => NN q (by simp [hq])⟩ (rest_keeps F6.1 FF fun q hq => NN q (by simp [hq]))
    rw [e2]
    show (if y = Str.ofString "curr" then some (Value.ref (firstA us o.r)) else if y = Str.ofString "curr" then _ else mR o.x o.r y) = (if y = Str.ofString "curr" then _ else mR o.x o.r y)
    by_cases hy : y = Str.ofString "curr"
    · rw [if_pos hy, if_pos hy]
    · rw [if_neg hy, if_neg hy, if_neg hy]
  · intro s₀ s3 hs
    refine seg_leaf (.ok .next) ?_
    exact seg_end (.ok (.ret .none)) ⟨rfl, rfl, hs⟩
  · rename_i hh' FF NN
    refine ⟨Fr.cg FF fun y => ?_, fun q hq => NN q ?_⟩
    · rw [Nat.sub_self, List.drop_zero]
    · simp only [osL, List.mem_cons] at hq
      simp only [List.mem_cons, List.mem_append]
      rcases hq with h | h | h | h | h | h <;> simp [h]
  · rename_i hh' FF NN
    exact ⟨_, _, rfl, fun b ob hb _ e => rest_keeps F6.1 FF (fun q hq => NN q (by simp [hq])) b ob hb e⟩
end Mine
end

section
open PySem PySem.W PyProof.Rows PySem.Calls PyProof.V PySem.Spec PySem.SeqAt
set_option maxRecDepth 100000
namespace Mine
theorem refill12 : ∀ (w : World) (h : Heap), (PySem.Challenge.hd.heap_39 w.params).In h → (PySem.Challenge.hd.heap_39 w.params).In h ∧ PySem.Challenge.rw_fc0213_01.foot = 3 := by
  k_fill
  exact fun _ _ x => ⟨x, rfl⟩
theorem carried_kv : ∀ ks : List (Str × Nat), CarriedAll (ks.map kv) (ks.map fun p => PyData.str p.1)
  | [] => .nil
  | (a, t) :: r => .cons (.str a t) (carried_kv r)
theorem canLay_strs : ∀ ks : List (Str × Nat), (∀ k ∈ ks.map (·.1), PyData.strOk k = true) → PyData.canLayAll0 (ks.map fun p => PyData.str p.1) = true
  | [], _ => rfl
  | a :: r, h => by simp [PyData.canLayAll0, PyData.canLay0, canLay_strs r fun k hk => h k (List.mem_cons_of_mem _ hk), h a.1 (List.mem_cons_self ..)]
theorem depth_strs : ∀ ks : List (Str × Nat), PyData.depthAll (ks.map fun p => PyData.str p.1) = 0
  | [] => rfl
  | _ :: r => by simp [PyData.depthAll, PyData.depth, depth_strs r]
theorem shaped_strs (ks : List (Str × Nat)) (h : ∀ k ∈ ks.map (·.1), PyData.strOk k = true) : SeqAt.shaped (.list (ks.map fun p => PyData.str p.1)) = true := by
  simp [SeqAt.shaped, PyData.canLay0, PyData.depth, canLay_strs ks h, depth_strs]
theorem sameAll_strs : ∀ ks ls : List (Str × Nat), PySem.Spec.sameAll (ks.map fun p => PyData.str p.1) (ls.map fun p => PyData.str p.1) = decide (ks.map (·.1) = ls.map (·.1))
  | [], [] => by simp [PySem.Spec.sameAll]
  | [], _ :: _ => by simp [PySem.Spec.sameAll]
  | _ :: _, [] => by simp [PySem.Spec.sameAll]
  | a :: r, b :: t => by
    simp only [List.map_cons, PySem.Spec.sameAll, PySem.Spec.same, sameAll_strs r t]
    by_cases h : a.1 = b.1 <;> by_cases h' : r.map (·.1) = t.map (·.1) <;> simp [h, h']
theorem noMix_strs : ∀ ks ls : List (Str × Nat), noMixAll (ks.map fun p => PyData.str p.1) (ls.map fun p => PyData.str p.1) = true
  | [], [] => rfl
  | [], _ :: _ => rfl
  | _ :: _, [] => rfl
  | a :: r, b :: t => by simp [noMixAll, noMix, noMix_strs r t]
section
variable {prog : Program} {w : World} {A : Around} {E : Value → Shared → Prop} {s : Shared} {a b : Addr} {ks ls : List (Str × Nat)} {Q : Value → Shared → Prop}
theorem eq_strs (ha : s.heap.IsList a (ks.map kv).toArray) (hb : s.heap.IsList b (ls.map kv).toArray) (o1 : ∀ k ∈ ks.map (·.1), PyData.strOk k = true) (o2 : ∀ k ∈ ls.map (·.1), PyData.strOk k = true) (hu : A.units + 64 < cLine) (h : Q (.bool (decide (ks.map (·.1) = ls.map (·.1)))) s) :
    wpAny (model prog w) A (compareOp .Eq (.ref a) (.ref b)) Q E s :=
  eq_dataH_same (reads_newData ha (carried_kv ks)) (reads_newData hb (carried_kv ls)) (shaped_strs _ o1) (shaped_strs _ o2) hu (by simp only [noMix]; exact noMix_strs _ _) (by simp only [PySem.Spec.same]; rw [sameAll_strs]; exact h)
theorem ne_strs (ha : s.heap.IsList a (ks.map kv).toArray) (hb : s.heap.IsList b (ls.map kv).toArray) (o1 : ∀ k ∈ ks.map (·.1), PyData.strOk k = true) (o2 : ∀ k ∈ ls.map (·.1), PyData.strOk k = true) (hu : A.units + 64 < cLine) (h : Q (.bool (!decide (ks.map (·.1) = ls.map (·.1)))) s) :
    wpAny (model prog w) A (compareOp .NotEq (.ref a) (.ref b)) Q E s :=
  ne_dataH_same (reads_newData ha (carried_kv ks)) (reads_newData hb (carried_kv ls)) (shaped_strs _ o1) (shaped_strs _ o2) hu (by simp only [noMix]; exact noMix_strs _ _) (by simp only [PySem.Spec.same]; rw [sameAll_strs]; exact h)
end
/-- what the length hint of a set says -/
theorem hint_os {w : World} {loose : List Str} {mean : ExcName → Option Value} {mg mb : Str → Option Value} {dp un : Nat} {gd : Option (List Code)} {cn : Str} {cs : Scope} {L a : Addr} {ccd : Value} {cl : List (Str × Addr)} {outer : List Env} {A₀ : Around} {base h₀ : Heap}
    {m : Str → Option Value} {s : Shared} {Q : Bool → Shared → Prop} {E : Value → Shared → Prop} {o : OS} {ns : List Node} {own : List (Addr × Obj)}
    (F : Fr h₀ L s.heap m) (X : (PySem.Challenge.hd.heap_39 w.params).In h₀) (T : Top PySem.Challenge.hd.view_39 loose mean mg mb h₀) (B : Below A₀ base outer h₀) (hk : cs.kind = .function)
    (hdp : dp + 10 < recursionLimit)
    (N : News h₀ L s.heap own) (hsub : ∀ p ∈ osL w o ns, p ∈ own) (ok : OSok w o ns)
    (ret : ∀ h' tk', Fr h₀ L h' m → News h₀ L h' own → (∀ b ob, s.heap.get? b = some ob → h'.get? b = some ob) → Q (!ns.isEmpty) { s with heap := h', toks := tk' }) :
    wpAny (model PySem.Challenge.rw_fc0213_01.row.prog w) (ktrTop dp un gd cn cs L a ccd cl outer) (Builtin.List.listLengthHint (.ref o.x)) Q E s := by
  have XH := X.keeps F.keep
  have I : InstAt s.heap o.x (instObj 121 o.dx) 121 (some (osDict w o.t1 o.t2 o.r o.mm)) := InstAt.of_news N (hsub _ (by simp [osL])) (hsub _ (by simp [osL]))
  have h2 : findIn (PySem.Challenge.hd.heap_39 w.params) (.ref 121) "__len__" = some (some (.ref 54)) := by k_is
  have h3 : isFn (PySem.Challenge.hd.heap_39 w.params) (.ref 54) = true := by k_is
  unfold Builtin.List.listLengthHint
  refine wpAny_bind (m := specialOf (.ref o.x) (Str.ofString "__len__")) (wpAny_bind (I.type.here ((looks_findIn XH h2).here ?_)))
  show wpAny _ _ (rule "list.length-hint.len" >>= _) _ _ _
  refine wpAny_bind (wpAny_rule ?_)
  refine wpAny_bind (wpAny_attempt ?_)
  refine PySem.W.len_K F X I h2 h3 ?_
  show wpAny _ (ktrTop dp (un + 1) gd cn cs L a ccd cl outer) _ _ _ _
  refine len_k F X T B hk hdp N hsub ok fun h' tk' t F' N' K' => ?_
  have hs := ok.small
  refine ⟨⟨by omega, by omega⟩, ?_⟩
  refine wpAny_bind (wpAny_pure ?_)
  dsimp only
  have hz : Builtin.List.listTooLong ((ns.length : Nat) : Int).toNat = false := by
    rw [Int.toNat_natCast]
    have : ns.length ≤ 100 := hs
    simp only [Builtin.List.listTooLong, decide_eq_false_iff_not, sizeLine_eq]
    omega
  rw [if_neg (by rw [hz]; decide)]
  refine wpAny_pure ?_
  have e : ((ns.length : Int) != 0) = !ns.isEmpty := by cases ns <;> simp; omega
  rw [e]
  exact ret h' _ F' N' K'

theorem items_kv : ∀ (ns : List Node) (acc : Array Value), ItemsOf (fun i v => ∃ nd, ns[i]? = some nd ∧ v = .str nd.k nd.t) acc ns.length → acc = ((ns.map kt).map kv).toArray := by
  intro ns acc h
  apply Array.ext'
  rw [List.toList_toArray]
  refine List.ext_getElem? fun i => ?_
  by_cases hi : i < ns.length
  · have hi' : i < acc.size := by rw [h.1]; exact hi
    obtain ⟨nd, e1, e2⟩ := h.2 i acc[i] (Array.getElem?_eq_getElem hi')
    rw [Array.getElem?_toList, Array.getElem?_eq_getElem hi', e2]
    simp [e1]
  · rw [List.getElem?_eq_none (by simp [h.1]; omega), List.getElem?_eq_none (by simp; omega)]
set_option maxHeartbeats 4000000 in
/-- list(an OrderedSet) -/
theorem list_os {w : World} {loose : List Str} {mean : ExcName → Option Value} {mg mb : Str → Option Value} {dp un : Nat} {gd : Option (List Code)} {cn : Str} {cs : Scope} {L a : Addr} {ccd : Value} {cl : List (Str × Addr)} {outer : List Env} {A₀ : Around} {base h₀ : Heap}
    {m : Str → Option Value} {s : Shared} {Q E : Value → Shared → Prop} {o : OS} {ns : List Node} {own : List (Addr × Obj)}
    (F : Fr h₀ L s.heap m) (X : (PySem.Challenge.hd.heap_39 w.params).In h₀) (T : Top PySem.Challenge.hd.view_39 loose mean mg mb h₀) (B : Below A₀ base outer h₀) (hk : cs.kind = .function)
    (hdp : dp + 10 < recursionLimit) (hB : AllBare s.gens)
    (N : News h₀ L s.heap own) (hsub : ∀ p ∈ osL w o ns, p ∈ own) (ok : OSok w o ns) (hne : ns ≠ [])
    (ret : ∀ (S : Nat) lo h' tk' G', AllBare G' → Fr h₀ L h' m → IsLst lo ((ns.map kt).map kv) → News h₀ L h' ((S, lo) :: own) → (∀ p ∈ own, @LT.lt Nat _ p.1 S) → Q (.ref S) { s with heap := h', gens := G', toks := tk' }) :
    wpAny (model PySem.Challenge.rw_fc0213_01.row.prog w) (ktrTop dp un gd cn cs L a ccd cl outer) (call (.type "list") [.ref o.x]) Q E s := by
  refine callType_codes (Q₁ := fun obj s₁ => obj = .ref s.heap.objs.size ∧ s₁ = { s with heap := s.heap.push { cls := .type "list", data := .seq #[] } }) PySem.F.called_list (PySem.F.typeCall_list_1 _) PySem.F.entry_list_init
    (code_list_new _ ⟨rfl, rfl⟩) fun obj s₁ h₁ => ?_
  obtain ⟨rfl, rfl⟩ := h₁
  have lt : ∀ p ∈ own, @LT.lt Nat _ p.1 s.heap.objs.size := fun p hp => Heap.lt_size (N p hp).1
  have hS : (s.heap.push { cls := .type "list", data := .seq #[] }).get? s.heap.objs.size = some { cls := .type "list", data := .seq #[] } := Heap.get?_push_size _ rfl
  have F1 := F.push { cls := .type "list", data := .seq #[] }
  have N1 : News h₀ L (s.heap.push { cls := .type "list", data := .seq #[] }) ((s.heap.objs.size, { cls := .type "list", data := .seq #[] }) :: own) := N.push F _
  generalize hSS : s.heap.objs.size = S at *
  generalize s.heap.push { cls := .type "list", data := .seq #[] } = H1 at *
  refine ⟨⟨_, hS, rfl⟩, PySem.F.args_list_init_2 _ _, ?_⟩
  show wpAny _ (ktrTop dp (un + 1 + 1) gd cn cs L a ccd cl outer) (do let old ← Builtin.List.listItems (.ref S); Builtin.List.listUpdate (.ref S) (fun _ => #[]); letGo old.toList.reverse; Builtin.List.listExtendWith (.ref S) (.ref o.x) .none) _ _ _
  refine wpAny_bind ?_
  unfold Builtin.List.listItems
  refine wpAny_bind (wpAny_seqItems hS rfl (wpAny_pure ?_))
  show wpAny _ _ (updateSeq S (fun _ => #[]) >>= fun _ => letGo (#[] : Array Value).toList.reverse >>= fun _ => Builtin.List.listExtendWith (.ref S) (.ref o.x) .none) _ _ _
  refine wpAny_bind (wpAny_updateSeq hS rfl ?_)
  have hS₂ := Heap.get?_update_self (Obj.mapSeq (fun _ => (#[] : Array Value))) hS rfl
  have oth : ∀ b o, b ≠ S → H1.get? b = some o → (H1.update S (Obj.mapSeq (fun _ => (#[] : Array Value)))).get? b = some o :=
    fun b o hb e => (Heap.get?_update_other _ _ (Ne.symm hb)).trans e
  have hSL := (N1 _ (List.mem_cons_self ..)).2
  have nS : ∀ p ∈ own, p.1 ≠ S := fun p hp => Nat.ne_of_lt (lt p hp)
  obtain ⟨F2, N2⟩ := kept_since (h' := H1.update S (Obj.mapSeq (fun _ => (#[] : Array Value)))) (news := own) hSL.1 nS hSL.2 F1 (News.sub N1 fun p hp => List.mem_cons_of_mem _ hp) fun b ob hb e => oth b ob hb e
  have N3 : News h₀ L (H1.update S (Obj.mapSeq (fun _ => (#[] : Array Value)))) ((S, Obj.mapSeq (fun _ => (#[] : Array Value)) { cls := .type "list", data := .seq #[] }) :: own) := fun p hp => by
    rcases List.mem_cons.mp hp with rfl | hp
    · exact ⟨hS₂, hSL⟩
    · exact N2 p hp
  generalize H1.update S (Obj.mapSeq (fun _ => (#[] : Array Value))) = H2 at *
  refine wpAny_bind (wpAny_letGo ?_)
  have I : InstAt H2 o.x (instObj 121 o.dx) 121 (some (osDict w o.t1 o.t2 o.r o.mm)) := InstAt.of_news N2 (hsub _ (by simp [osL])) (hsub _ (by simp [osL]))
  have hxS : o.x ≠ S := nS (o.x, instObj 121 o.dx) (hsub _ (by simp [osL]))
  unfold Builtin.List.listExtendWith
  refine wpAny_bind (I.type.here ?_)
  have h1 : Builtin.List.listSameRef (.ref S) (.ref o.x) = false := by simp [Builtin.List.listSameRef, hxS.symm]
  have h2 : ((Value.ref 121) == Value.type "list") = false := by decide
  have h3 : ((Value.ref 121) == Value.type "tuple") = false := by decide
  simp only [h1, h2, h3, Bool.or_false, Bool.false_eq_true, if_false]
  refine wpAny_bind (owit_iter (f := 82) F2 X I (by k_is) (by k_is) ?_)
  refine os_iterH F2 X T hdp N3 (fun p hp => List.mem_cons_of_mem _ (hsub p hp)) ok [S] (fun b hb => by rw [List.mem_singleton.mp hb]; simp) (fun p hp hq => nS p (hsub p hp) (List.mem_singleton.mp hq)) fun h' tk' gs hb F' N' keep hGen => ?_
  have hG := (hGen { depth := 0 } rfl (by decide)).1
  refine wpAny_specialOf hG.typeIs slot_gen_next.lookup ?_
  dsimp only
  refine wpAny_bind (wpAny_holding ?_)
  refine hint_os (dp := dp) (un := un + 1 + 1) (A₀ := A₀) (base := base) F' X T B hk hdp N' (fun p hp => List.mem_cons_of_mem _ (hsub p hp)) ok fun h4 tk4 F4 N4 K4 => ?_
  have hem : (!ns.isEmpty) = true := by cases ns; exact absurd rfl hne; rfl
  rw [hem]
  show wpAny _ _ (rule "list.extend.makes-room" >>= fun _ => Builtin.List.listTouch (.ref S) >>= fun _ =>
    again (.builtin "list.extend.loop" ⟨[.ref S, .ref (H2.objs.size + 1), .none], []⟩)) _ _ _
  refine wpAny_bind (wpAny_rule ?_)
  refine wpAny_bind ?_
  show wpAny _ _ (updateSeq S (·.push .none) >>= fun _ => updateSeq S (·.pop)) _ _ _
  have hS4 := (N4 _ (List.mem_cons_self ..)).1
  refine wpAny_bind (wpAny_updateSeq hS4 rfl ?_)
  have hS₅ := Heap.get?_update_self (Obj.mapSeq (·.push Value.none)) hS4 rfl
  refine wpAny_updateSeq (hz := by seq_fits) hS₅ rfl ?_
  have hS₆ := Heap.get?_update_self (Obj.mapSeq (·.pop)) hS₅ rfl
  have oth6 : ∀ b o, b ≠ S → h4.get? b = some o → ((h4.update S (Obj.mapSeq (·.push Value.none))).update S (Obj.mapSeq (·.pop))).get? b = some o :=
    fun b o hb e => (Heap.get?_update_other _ _ (Ne.symm hb)).trans ((Heap.get?_update_other _ _ (Ne.symm hb)).trans e)
  have hSlt : S < H2.objs.size := Heap.lt_size hS₂
  have hSf : S ∉ (H2.objs.size + 1) :: H2.objs.size :: (List.range H2.objs.size).filter fun b => decide (b ∉ [S]) := fun hm => by
    rcases List.mem_cons.mp hm with e | hm
    · exact absurd e (Nat.ne_of_lt (Nat.lt_succ_of_lt hSlt))
    rcases List.mem_cons.mp hm with e | hm
    · exact absurd e (Nat.ne_of_lt hSlt)
    · have := (List.mem_filter.mp hm).2; simp at this
  have hcs : cStatics ∈ (List.range H2.objs.size).filter fun b => decide (b ∉ [S]) := by
    obtain ⟨mc, ⟨ob, _, _, e, _⟩, _⟩ := T.nolimit
    refine List.mem_filter.mpr ⟨List.mem_range.mpr (Heap.lt_size (F2.keep _ _ e)), ?_⟩
    have : cStatics ≠ S := fun q => by have := hSL.2; rw [← q, e] at this; cases this
    simpa using this
  have hcC : cStatics ≠ H2.objs.size := fun q => by
    have := (List.mem_filter.mp hcs).1
    rw [q] at this; exact absurd (List.mem_range.mp this) (Nat.lt_irrefl _)
  have W := walks_genfn (prog := PySem.Challenge.rw_fc0213_01.row.prog) (w := w) (A := (ktrTop dp (un + 1) gd cn cs L a ccd cl outer).in1) rfl (H2.objs.size + 1) s.gens.size H2.objs.size ((List.range H2.objs.size).filter fun b => decide (b ∉ [S])) ns.length (fun i v => ∃ nd, ns[i]? = some nd ∧ v = .str nd.k nd.t) (Nat.succ_ne_self _) (by show dp < recursionLimit; omega) hcs hcC
  have st0 : GenFn PySem.Challenge.rw_fc0213_01.row.prog w (ktrTop dp (un + 1) gd cn cs L a ccd cl outer).in1 (H2.objs.size + 1) s.gens.size H2.objs.size ((List.range H2.objs.size).filter fun b => decide (b ∉ [S])) ns.length (fun i v => ∃ nd, ns[i]? = some nd ∧ v = .str nd.k nd.t) 0 ⟨h', s.gens.push gs, s.drawn, tk4, s.os⟩ := hGen _ rfl (by show dp < recursionLimit; omega)
  have st6 := W.frame 0 _ ((h4.update S (Obj.mapSeq (·.push Value.none))).update S (Obj.mapSeq (·.pop))) tk4 st0 (Nat.le_refl _) fun b hb ob e => oth6 b ob (fun q => hSf (q ▸ hb)) (K4 b ob e)
  refine wpAny_pure ⟨plainId_quiet PySem.F.plain_extend_loop _, codeAny_extend_loopS W (by rw [sizeLine_eq]; have := ok.small; omega) S hSf .none ns.length 0 _ _ _ rfl (Nat.zero_le _) st6 hS₆ (ItemsOf.nil _) fun s' acc' c' hm hS' hacc => ?_⟩
  have es : s' = ⟨s'.heap, s'.gens, s.drawn, s'.toks, s.os⟩ := by
    have h1 := hm.drawn; have h2 := hm.os
    cases s'; simp only at h1 h2; subst h1 h2; rfl
  rw [es]
  have kk : ∀ b ob, b ≠ S → b ≠ H2.objs.size → h4.get? b = some ob → s'.heap.get? b = some ob := fun b ob h1 h2 e => hm.heap b ob (by simp only [List.mem_cons, List.not_mem_nil, or_false, not_or]; exact ⟨h1, h2⟩) (oth6 b ob h1 e)
  have hC0 : h₀.get? H2.objs.size = none := by
    cases q : h₀.get? H2.objs.size with
    | none => rfl
    | some ob => exact absurd (Heap.lt_size (F2.keep _ _ q)) (Nat.lt_irrefl _)
  have hLlt : L < H2.objs.size := F2.ns.lt
  have F9 : Fr h₀ L s'.heap m := ⟨F4.ns.at' fun ob e => kk L ob (Ne.symm hSL.1) (Nat.ne_of_lt hLlt) e, fun b ob e => kk b ob (fun q => by rw [q, hSL.2] at e; cases e) (fun q => by rw [q, hC0] at e; cases e) (F4.keep b ob e), F4.above⟩
  refine ⟨rfl, ret S { cls := .type "list", dict := none, data := .seq acc' c', slots := #[] } _ _ _ (hm.gens.bare (allBare_push hB hb)) F9 ⟨rfl, c', by rw [items_kv ns acc' hacc]⟩ (fun p hp => ?_) lt⟩
  rcases List.mem_cons.mp hp with rfl | hp
  · exact ⟨hS', hSL⟩
  · refine ⟨kk _ _ (nS p hp) (Nat.ne_of_lt ?_) (N4 p (List.mem_cons_of_mem _ hp)).1, (N4 p (List.mem_cons_of_mem _ hp)).2⟩
    exact Heap.lt_size (N3 p (List.mem_cons_of_mem _ hp)).1
end Mine
end

section
open PySem PySem.W PyProof.Rows PySem.Calls
set_option maxRecDepth 100000
namespace Mine
local macro_rules | `(tactic| walk_at "mine pad 0") => `(tactic| fail)
local macro_rules | `(tactic| walk_at "mine pad 1") => `(tactic| fail)
local macro_rules | `(tactic| walk_at "mine pad 2") => `(tactic| fail)
local macro_rules | `(tactic| walk_at "mine pad 3") => `(tactic| fail)
local macro_rules | `(tactic| walk_at "mine pad 4") => `(tactic| fail)
local macro_rules | `(tactic| walk_at "mine pad 5") => `(tactic| fail)
local macro_rules | `(tactic| walk_at "mine pad 6") => `(tactic| fail)
local macro_rules | `(tactic| walk_at "mine pad 7") => `(tactic| fail)
local macro_rules | `(tactic| walk_at "mine pad 8") => `(tactic| fail)
local macro_rules | `(tactic| walk_at "mine pad 9") => `(tactic| fail)
local macro_rules | `(tactic| walk_at "mine pad 10") => `(tactic| fail)
local macro_rules | `(tactic| walk_at "mine pad 11") => `(tactic| fail)
local macro_rules | `(tactic| walk_at "mine pad 12") => `(tactic| fail)
local macro_rules | `(tactic| walk_at "mine pad 13") => `(tactic| fail)
local macro_rules | `(tactic| walk_at "mine pad 14") => `(tactic| fail)
local macro_rules | `(tactic| walk_at "mine pad 15") => `(tactic| fail)
theorem refill15 : ∀ (w : World) (h : Heap), (PySem.Challenge.hd.heap_39 w.params).In h → (PySem.Challenge.hd.heap_39 w.params).In h ∧ PySem.Challenge.rw_fc0213_01.foot = 3 := by
  k_fill
  exact fun _ _ x => ⟨x, rfl⟩
local macro_rules | `(tactic| k_ne) => `(tactic| (refine neN ?_; (try dsimp only); first | (refine NeF.ne ?_; with_reducible assumption) | (refine NeF.ne (NeF.symm ?_); with_reducible assumption) | omega))
local macro_rules | `(tactic| walk_at "compareOp NotIn str ref") => `(tactic| (k_here; (refine' mp_notin ?N ?hm ?hd ?lo ?hv ?_; (case N => k_asm); (case hm => k_mem); (case hd => k_asm); (case lo => k_asm); (case hv => k_asm))))
local macro_rules | `(tactic| walk_at "setItem ref str") => `(tactic| (k_here; (refine' mp_set ?F ?N ?U ?hd ?hz ?_; (case F => k_asm); (case N => k_asm); (case U => k_updF); (case hd => k_asm); (case hz => k_asm); k_whole; intro h' o' F' N' d'; (try dsimp only at N'); (try k_sweep))))
local macro_rules | `(tactic| k_room) => `(tactic| ((try simp only [depth_under_make, depth_under_kw, depth_in1, depth_deeper, depth_caller]); (try dsimp only [ktrTop]); omega))
local macro_rules | `(tactic| walk_at "LeaveS") => `(tactic| (k_dflt (refine' leaveS_ ?F ?N ?_; (case F => k_asm); (case N => k_asm); k_whole); intro kF kN kK; (try dsimp only)))

local macro_rules | `(tactic| k_units) => `(tactic| ((try simp only [units_in1, units_deeper, Around.mark_units, units_caller, units_under_make]); (try dsimp only [ktrTop]); omega))
local macro_rules | `(tactic| walk_at "exec For Name Call cons nil") => `(tactic| (k_here; k_dflt (refine fo_for ?_)))
local macro_rules | `(tactic| walk_at "pyIter ref") => `(tactic| (k_here; refine CallStop.mk ?_))
local macro_rules | `(tactic| walk_at "call type:range") => `(tactic| (k_here; refine CallStop.mk ?_))
local macro_rules | `(tactic| walk_at "call ref") => `(tactic| (k_here; refine CallStop.mk ?_))
local macro_rules | `(tactic| walk_at "call builtin:len") => `(tactic| (k_here; refine CallStop.mk ?_))
local macro_rules | `(tactic| walk_at "call type:list") => `(tactic| (k_here; refine CallStop.mk ?_))
local macro_rules | `(tactic| walk_at "compareOp Eq ref ref") => `(tactic| (k_here; refine CallStop.mk ?_))
set_option maxHeartbeats 8000000 in
theorem eq_c {w : World} {loose : List Str} {mean : ExcName → Option Value} {mg mb : Str → Option Value} {dp un : Nat} {gd : Option (List Code)} {cn : Str} {cs : Scope} {L a : Addr} {ccd : Value} {cl : List (Str × Addr)} {outer : List Env} {A₀ : Around} {base h₀ : Heap}
    {m : Str → Option Value} {s : Shared} {Q E : Value → Shared → Prop} {d st : OS} {ns ss : List Node} {own : List (Addr × Obj)}
    (B : Below A₀ base outer h₀) (F : Fr h₀ L s.heap m) (X : (PySem.Challenge.hd.heap_39 w.params).In h₀) (T : Top PySem.Challenge.hd.view_39 loose mean mg mb h₀) (hk : cs.kind = .function)
    (hdp : dp + 40 < recursionLimit) (hun : un + 1000 < cLine)
    (N : News h₀ L s.heap own) (hsub : ∀ p ∈ osL w d ns, p ∈ own) (hsub2 : ∀ p ∈ osL w st ss, p ∈ own) (ok : OSok w d ns) (ok2 : OSok w st ss) (hne : ns ≠ []) (hlen : ns.length = ss.length) (hB : AllBare s.gens)
    (s1 : ∀ k ∈ (ns.map kt).map (·.1), PyData.strOk k = true) (s2 : ∀ k ∈ (ss.map kt).map (·.1), PyData.strOk k = true)
    (ret : ∀ h' tk' G', AllBare G' → Fr h₀ L h' m → News h₀ L h' own → Q (.bool (decide ((ns.map kt).map (·.1) = (ss.map kt).map (·.1)))) { s with heap := h', gens := G', toks := tk' }) :
    wpAny (model PySem.Challenge.rw_fc0213_01.row.prog w) (ktrTop dp un gd cn cs L a ccd cl outer) (call (.ref 118) [.ref d.x, .ref st.x]) Q E s := by
  have _ := hun
  have N0 : News h₀ L s.heap ((st.x, instObj 121 st.dx) :: (st.dx, osDict w st.t1 st.t2 st.r st.mm) :: (d.x, instObj 121 d.dx) :: (d.dx, osDict w d.t1 d.t2 d.r d.mm) :: own) := fun p hp => by
    rcases List.mem_cons.mp hp with rfl | hp
    · exact N _ (hsub2 _ (by simp [osL]))
    rcases List.mem_cons.mp hp with rfl | hp
    · exact N _ (hsub2 _ (by simp [osL]))
    rcases List.mem_cons.mp hp with rfl | hp
    · exact N _ (hsub _ (by simp [osL]))
    rcases List.mem_cons.mp hp with rfl | hp
    · exact N _ (hsub _ (by simp [osL]))
    · exact N _ hp
  refine wpAny_call ?_
  k_dflt (refine' code_defC ?k1 ?k2 ?k3 ?k4 ?k5 ?kA ?kF ?kK ?k6 ?k7 ?k8 ?k9 ?kB ?kD ?_ ?c2 ?c3 ?c4; (case kA => exact rfl); (case kF => exact rfl); (case kK => assumption); (case k1 => k_asm); (case k2 => k_asm); (case k3 => k_asm); (case k4 => k_asm); (case k5 => k_asm); (case k6 => k_is); (case k7 => k_is); (case k8 => k_room); (case k9 => first | exact BindsTo.of_eq rfl | exact binds_K (by k_in) rfl (by k_is) rfl rfl rfl); (case kB => exact rfl); (case kD => decide +kernel); (case c2 => exact rfl); (case c3 => exact rfl); (case c4 => exact rfl); k_whole)
  intro g L1 he tkk cells FG FE NE Y BE XE TE l1
  k_cells Y
  (try simp only [List.cons_append, List.nil_append] at NE)
  (try dsimp only)
  (try k_fold)
  have h2 : findIn (PySem.Challenge.hd.heap_39 w.params) (.ref 121) "__len__" = some (some (.ref 54)) := by k_is
  have h3 : isFn (PySem.Challenge.hd.heap_39 w.params) (.ref 54) = true := by k_is
  have hsm := ok.small
  have hsm2 := ok2.small
  have inN : ∀ {h : Heap} {own' : List (Addr × Obj)}, News g L1 h own' → (∀ p ∈ own, p ∈ own') → InstAt h d.x (instObj 121 d.dx) 121 (some (osDict w d.t1 d.t2 d.r d.mm)) := fun N hs => InstAt.of_news N (hs _ (hsub _ (by simp [osL]))) (hs _ (hsub _ (by simp [osL])))
  have inN2 : ∀ {h : Heap} {own' : List (Addr × Obj)}, News g L1 h own' → (∀ p ∈ own, p ∈ own') → InstAt h st.x (instObj 121 st.dx) 121 (some (osDict w st.t1 st.t2 st.r st.mm)) := fun N hs => InstAt.of_news N (hs _ (hsub2 _ (by simp [osL]))) (hs _ (hsub2 _ (by simp [osL])))
  k_steps
  refine CallStop.go ?_
  (with_reducible rename Fr _ _ _ _ => F4)
  (with_reducible rename News _ _ _ _ => N4)
  refine PySem.W.len_K F4 XE (inN N4 fun p hp => by simp [hp]) h2 h3 ?_
  k_dflt (refine' len_c (L := L1) (o := d) (ns := ns) F4 ?k1 ?k2 ?k3 ?k4 ?k5 N4 ?k6 ok ?_; (case k1 => k_asm); (case k2 => k_asm); (case k3 => k_asm); (case k4 => exact rfl); (case k5 => k_room); (case k6 => exact fun p hp => by simp [hsub p hp]))
  intro h5 tk5 t5 F5 N5
  clear F4 N4
  refine ⟨⟨by omega, by omega⟩, ?_⟩
  k_steps
  refine CallStop.go ?_
  refine PySem.W.len_K F5 XE (inN2 N5 fun p hp => by simp [hp]) h2 h3 ?_
  k_dflt (refine' len_c (L := L1) (o := st) (ns := ss) F5 ?k1 ?k2 ?k3 ?k4 ?k5 N5 ?k6 ok2 ?_; (case k1 => k_asm); (case k2 => k_asm); (case k3 => k_asm); (case k4 => exact rfl); (case k5 => k_room); (case k6 => exact fun p hp => by simp [hsub2 p hp]))
  intro h6 tk6 t6 F6 N6
  clear F5 N5
  refine ⟨⟨by omega, by omega⟩, ?_⟩
  rw [hlen]
  k_steps
  rotate_left 1
  · exfalso
    (rename @Ne Int _ _ => hq)
    exact hq rfl
  refine CallStop.go ?_
  k_dflt (refine' list_os (L := L1) (o := d) (ns := ns) F6 ?k1 ?k2 ?k3 ?k4 ?k5 ?k6 N6 ?k7 ok hne ?_; (case k1 => k_asm); (case k2 => k_asm); (case k3 => k_asm); (case k4 => exact rfl); (case k5 => k_room); (case k6 => exact hB); (case k7 => exact fun p hp => by simp [hsub p hp]))
  intro S1 lo1 h7 tk7 G7 hB7 F7 hl1 N7 lt7
  clear F6 N6
  have hne2 : ss ≠ [] := by rintro rfl; exact hne (List.eq_nil_of_length_eq_zero hlen)
  k_steps
  refine CallStop.go ?_
  k_dflt (refine' list_os (L := L1) (o := st) (ns := ss) F7 ?k1 ?k2 ?k3 ?k4 ?k5 ?k6 N7 ?k7 ok2 hne2 ?_; (case k1 => k_asm); (case k2 => k_asm); (case k3 => k_asm); (case k4 => exact rfl); (case k5 => k_room); (case k6 => exact hB7); (case k7 => exact fun p hp => by simp [hsub2 p hp]))
  intro S2 lo2 h8 tk8 G8 hB8 F8 hl2 N8 lt8
  clear F7 N7
  k_steps
  refine CallStop.go ?_
  k_dflt (refine' eq_strs (ks := ns.map kt) (ls := ss.map kt) ?e1 ?e2 s1 s2 ?e3 ?_; (case e1 => exact hl1.at (N8 (S1, lo1) (by simp)).1); (case e2 => exact hl2.at (N8 (S2, lo2) (by simp)).1); (case e3 => k_units))
  k_steps
  exact ret _ _ G8 hB8 (by assumption) (News.sub (by assumption) fun p hp => by simp [hp])
end Mine
end

section
open PySem PySem.W PyProof.Rows PySem.Calls
set_option maxRecDepth 100000
namespace Mine
section
variable {prog : Program} {w : World} {A : Around} {E : Value → Shared → Prop}
def GenAt (prog : Program) (w : World) (A : Around) (Q : Value → Shared → Prop) (it : Value) (s₂ : Shared) : Prop :=
  ∃ (I g C : Nat) (fp : List Nat) (n : Nat) (P : Nat → Value → Prop), it = .ref I ∧ n ≤ 1000 ∧ (∀ b ∈ I :: C :: fp, @LT.lt Nat _ b s₂.heap.objs.size) ∧ I ≠ C ∧ cStatics ∈ fp ∧ cStatics ≠ C ∧ GenFn prog w A I g C fp n P 0 s₂ ∧ AllBare s₂.gens ∧
    ∀ (D : Nat) h' tk G' ys, s₂.heap.objs.size ≤ D → AllBare G' → h'.get? D = some (LCg.lst ys) → ys.length = n → (∀ (j : Nat) (y : Value), ys[j]? = some y → P j y) → (∀ b o, b ≠ C → s₂.heap.get? b = some o → h'.get? b = some o) → Q (.ref D) ⟨h', G', s₂.drawn, tk, s₂.os⟩
set_option maxHeartbeats 2000000 in
theorem row_comp {s : Shared} {env : Env} {x : Str} {pe px : Pos} {iter : PySem.Expr} {scope : Scope} {pos : Pos} {Q : Value → Shared → Prop}
    (hfree : ∀ y ∈ scope.names, y.2 ≠ .free) (hcell : ∀ y ∈ scope.names, y.2 ≠ .cell) (hkind : scope.kind = .function)
    (hnames : ∀ y ∈ scope.names, y.2 = .local → scope.names.lookup y.1 = some .local) (hx : scope.names.lookup x = some .local) (hxd : (x == ("__debug__" : Str)) = false)
    (hh : A.handled = none) (hroom : A.depth < recursionLimit)
    (h : wpAny (model prog w) A (eval iter env) (fun v s₁ => wpAny (model prog w) A (pyIter v) (GenAt prog w A Q) E s₁) E s)
    (hs : ∀ x, foldedSetIterable iter env x = pure x := by intro _; rfl) :
    wpAny (model prog w) A (eval (.ListComp (.Name x pe) [⟨.Name x px, iter, [], 0⟩] scope pos) env) Q E s := by
  refine wpAny_ListComp hfree hkind hnames (wpAny_mono h (fun xv s₁ h₁ => wpAny_mono h₁ (fun it s₂ h₂ => ?_) fun _ _ e => e) fun _ _ e => e) hs
  obtain ⟨I, g, C, fp, n, P, rfl, hn, hfp, hIC, hcs, hcC, hst, hB, hQ⟩ := h₂
  have W := walks_genfn (prog := prog) (w := w) (A := A) hh I g C fp n P hIC hroom hcs hcC
  refine wpAny_newObj_type (wpAny_newFunctionEnv hcell (by intro y hy; simp at hy) (fun h₁ hns₁ hsb₁ => ?_) hkind)
  dsimp only at hns₁ hsb₁ ⊢
  generalize hH2 : s₂.heap.push { cls := .type "list", dict := none, data := .seq ([] : List Value).toArray } = H2 at hns₁ hsb₁ ⊢
  have hCe : H2.objs.size = s₂.heap.objs.size + 1 := by rw [← hH2, Heap.size_push]
  have hDC : s₂.heap.objs.size ≠ H2.objs.size := by rw [hCe]; exact Nat.ne_of_lt (Nat.lt_succ_self _)
  have below : ∀ b, b < s₂.heap.objs.size → b ≠ H2.objs.size ∧ b ≠ s₂.heap.objs.size := fun b hb => ⟨by rw [hCe]; exact Nat.ne_of_lt (Nat.lt_succ_of_lt hb), Nat.ne_of_lt hb⟩
  have hDf : s₂.heap.objs.size ∉ I :: C :: fp := fun hm => Nat.lt_irrefl _ (hfp _ hm)
  have hCf : H2.objs.size ∉ I :: C :: fp := fun hm => by have := hfp _ hm; rw [hCe] at this; exact Nat.lt_irrefl _ (Nat.lt_of_succ_lt this)
  have old : ∀ b o, s₂.heap.get? b = some o → h₁.get? b = some o := fun b o e => hsb₁.extBut b o (below b (Heap.lt_size e)).1 (Heap.get?_push_of_some _ (hH2 ▸ Heap.get?_push_of_some _ e))
  have hacc : h₁.get? s₂.heap.objs.size = some (LCg.lst []) := hsb₁.extBut _ _ hDC (Heap.get?_push_of_some _ (hH2 ▸ Heap.get?_push_size _ rfl))
  have hst₁ : GenFn prog w A I g C fp n P 0 { s₂ with heap := h₁, toks := s₂.toks + ([] : List (Str × Value)).length } := W.frame 0 s₂ h₁ _ hst (by exact Nat.le_refl _) fun b _ o e => old b o e
  have hCC : C ≠ H2.objs.size := (below C (hfp C (by simp))).1
  have hCD : C ≠ s₂.heap.objs.size := (below C (hfp C (by simp))).2
  have sizeD : ∀ b o, s₂.heap.get? b = some o → b < s₂.heap.objs.size := fun b o e => Heap.lt_size e
  generalize hDD : s₂.heap.objs.size = D at *
  generalize H2.objs.size = Cc at *
  have loop : ∀ s₃ : Shared, s₃ = { s₂ with heap := h₁, toks := s₂.toks + ([] : List (Str × Value)).length } →
      codeAny (model prog w) A (.compLoop (.ListComp (.Name x pe) [⟨.Name x px, iter, [], 0⟩] scope pos) 0 (.ref I) (.ref D) (compEnv scope Cc env))
        (fun r s' => ∃ m, s'.heap.Ns Cc m ∧ ∀ h', Heap.SameBut Cc s'.heap h' →
          match r with | .ok _ => Q (.ref D) { s' with heap := h' } | .error x => wpAny (model prog w) A (passOn "comprehension.variables-let-go" x (compEnv scope Cc env)) Q E { s' with heap := h' }) s₃ := by
    rintro s₃ rfl
    refine codeAny_compLoop_list
      (fun k s' => ∃ h' tk G' i ys m', s' = ⟨h', G', s₂.drawn, tk, s₂.os⟩ ∧ i ≤ n ∧ k = n + 1 - i ∧ GenFn prog w A I g C fp n P i ⟨h', G', s₂.drawn, tk, s₂.os⟩ ∧ h'.get? D = some (LCg.lst ys) ∧ h'.Ns Cc m' ∧
        ys.length = i ∧ (∀ (j : Nat) (y : Value), ys[j]? = some y → P j y) ∧ AllBare G' ∧ ∀ b o, b ≠ C → s₂.heap.get? b = some o → h'.get? b = some o) ?_ (n + 1)
      ⟨h₁, _, s₂.gens, 0, [], _, rfl, Nat.zero_le _, rfl, hst₁, hacc, hns₁, rfl, (fun j y hj => by simp at hj), hB, fun b o _ e => old b o e⟩
    rintro k s' ⟨h', tk, G', i, ys, m', rfl, hi, rfl, hst', hD', hns', hl', hP', hB', hk'⟩
    by_cases hlt : i < n
    · refine W.item i _ _ _ hlt hst' fun v s₄ hPv hst₄ hm => ?_
      have es : s₄ = ⟨s₄.heap, s₄.gens, s₂.drawn, s₄.toks, s₂.os⟩ := by
        have h1 := hm.drawn; have h2 := hm.os
        cases s₄; simp only at h1 h2; subst h1 h2; rfl
      have hk4 : ∀ b o, b ≠ C → h'.get? b = some o → s₄.heap.get? b = some o := fun b o hb e => hm.heap b o (by simpa using hb) e
      have hB4 : AllBare s₄.gens := hm.gens.bare hB'
      rw [es] at hst₄ ⊢
      dsimp only at hst₄ ⊢
      refine wpAny_assign_Name (wpAny_storeName_local hx (hns'.at' fun o e => hk4 _ o (Ne.symm hCC) e) (fun h₅ hn₅ hs₅ => ?_) (by simp [compEnv, hkind]))
      refine wpAny_Name (wpAny_loadName_local (by exact hkind) (by exact hx) hn₅ (if_pos rfl) ?_) hxd
      have hD5 : h₅.get? D = some (LCg.lst ys) := hs₅.extBut _ _ hDC (hk4 _ _ (Ne.symm hCD) hD')
      refine append_at (hsz := by show ys.toArray.size ≤ sizeLine; rw [List.size_toArray, hl', sizeLine_eq]; omega) hD5 fun h₆ hs₆ hD₆ => ?_
      refine ⟨n + 1 - (i + 1), by omega, h₆, _, s₄.gens, i + 1, ys ++ [v], _, rfl, hlt, rfl, ?_, hD₆.trans (congrArg some (LCg.lst_snoc ys v)), hn₅.sameBut hs₆ (Ne.symm hDC), by simp [hl'], fun j y hj => ?_, hB4, fun b o hb e => ?_⟩
      · exact W.frame (i + 1) _ _ _ hst₄ (Nat.le_succ _) fun b hb o e => hs₆.extBut b o (fun q => hDf (q ▸ hb)) (hs₅.extBut b o (fun q => hCf (by have q' : b = Cc := q; rw [← q']; exact hb)) e)
      · rcases Nat.lt_trichotomy j ys.length with h | h | h
        · exact hP' j y (by rwa [List.getElem?_append_left h] at hj)
        · subst h; simp at hj; subst hj; rw [hl']; exact hPv
        · rw [List.getElem?_eq_none (by simp; omega)] at hj; cases hj
      · have hlt2 := sizeD b o e
        exact hs₆.extBut b o (below b hlt2).2 (hs₅.extBut b o (below b hlt2).1 (hk4 b o hb (hk' b o hb e)))
    · obtain rfl : i = n := Nat.le_antisymm hi (Nat.not_lt.mp hlt)
      refine W.done _ _ _ hst' fun s₄ hm => ?_
      have es : s₄ = ⟨s₄.heap, s₄.gens, s₂.drawn, s₄.toks, s₂.os⟩ := by
        have h1 := hm.drawn; have h2 := hm.os
        cases s₄; simp only at h1 h2; subst h1 h2; rfl
      have hk4 : ∀ b o, b ≠ C → h'.get? b = some o → s₄.heap.get? b = some o := fun b o hb e => hm.heap b o (by simpa using hb) e
      rw [es]
      refine ⟨m', hns'.at' fun o e => hk4 _ o (Ne.symm hCC) e, fun h₅ hs₅ => ?_⟩
      dsimp only at hs₅ ⊢
      exact hQ D h₅ _ s₄.gens ys (by exact Nat.le_refl _) (hm.gens.bare hB') (hs₅.extBut _ _ hDC (hk4 _ _ (Ne.symm hCD) hD')) hl' hP' fun b o hb e => hs₅.extBut b o (below b (sizeD b o e)).1 (hk4 b o hb (hk' b o hb e))
  exact codeAny_compStart_list (loop _ rfl) (W.self 0 _ _ _ hst₁ (loop _ rfl))
end
end Mine
end

section
open PySem PySem.W PyProof.Rows PySem.Calls
set_option maxRecDepth 100000
namespace Mine
theorem refill16 : ∀ (w : World) (h : Heap), (PySem.Challenge.hd.heap_39 w.params).In h → (PySem.Challenge.hd.heap_39 w.params).In h ∧ PySem.Challenge.rw_fc0213_01.foot = 3 := by
  k_fill
  exact fun _ _ x => ⟨x, rfl⟩
set_option maxHeartbeats 2000000 in
theorem r_genAt {w : World} {loose : List Str} {mean : ExcName → Option Value} {mg mb : Str → Option Value} {dp un : Nat} {gd : Option (List Code)} {cn : Str} {cs : Scope} {L a : Addr} {ccd : Value} {cl : List (Str × Addr)} {outer : List Env} {h₀ : Heap}
    {m : Str → Option Value} {s : Shared} {Q E : Value → Shared → Prop} {o : OS} {ns : List Node} {own : List (Addr × Obj)}
    (F : Fr h₀ L s.heap m) (X : (PySem.Challenge.hd.heap_39 w.params).In h₀) (T : Top PySem.Challenge.hd.view_39 loose mean mg mb h₀)
    (hdp : dp + 10 < recursionLimit)
    (N : News h₀ L s.heap own) (hsub : ∀ p ∈ osL w o ns, p ∈ own) (ok : OSok w o ns) (hB : AllBare s.gens)
    (ret : ∀ (D : Nat) h' tk' G', AllBare G' → Fr h₀ L h' m → News h₀ L h' ((D, LCg.lst ((ns.map kt).map kv)) :: own) → (∀ p ∈ own, @LT.lt Nat _ p.1 D) → Q (.ref D) { s with heap := h', gens := G', toks := tk' }) :
    wpAny (model PySem.Challenge.rw_fc0213_01.row.prog w) (ktrTop dp un gd cn cs L a ccd cl outer) (pyIter (.ref o.x)) (GenAt PySem.Challenge.rw_fc0213_01.row.prog w (ktrTop dp un gd cn cs L a ccd cl outer) Q) E s := by
  have I : InstAt s.heap o.x (instObj 121 o.dx) 121 (some (osDict w o.t1 o.t2 o.r o.mm)) := InstAt.of_news N (hsub _ (by simp [osL])) (hsub _ (by simp [osL]))
  refine owit_iter (f := 82) F X I (by k_is) (by k_is) ?_
  refine os_iter F X T hdp N hsub ok fun h' tk' gs hb F' N' keep hGen => ?_
  have hG := (hGen { depth := 0 } rfl (by decide)).1
  refine wpAny_specialOf hG.typeIs slot_gen_next.lookup ?_
  dsimp only
  have hGI := (hGen (ktrTop dp un gd cn cs L a ccd cl outer) rfl (by show dp < recursionLimit; omega))
  have ltI : s.heap.objs.size + 1 < h'.objs.size := by
    obtain ⟨ob, _, _, e, _⟩ := hG; exact Heap.lt_size e
  have hcs : cStatics ∈ List.range s.heap.objs.size := by
    obtain ⟨mc, ⟨ob, _, _, e, _⟩, _⟩ := T.nolimit
    exact List.mem_range.mpr (Heap.lt_size (F.keep _ _ e))
  have hC0 : h₀.get? s.heap.objs.size = none := by
    cases q : h₀.get? s.heap.objs.size with
    | none => rfl
    | some ob => exact absurd (Heap.lt_size (F.keep _ _ q)) (Nat.lt_irrefl _)
  have nC : ∀ p ∈ own, p.1 ≠ s.heap.objs.size := fun p hp => Nat.ne_of_lt (Heap.lt_size (N p hp).1)
  have hCL : s.heap.objs.size ≠ L := Ne.symm (Nat.ne_of_lt F.ns.lt)
  refine ⟨s.heap.objs.size + 1, s.gens.size, s.heap.objs.size, List.range s.heap.objs.size, ns.length, _, rfl, by have := ok.small; omega, fun b hb => ?_, Nat.succ_ne_self _, hcs, fun q => ?_, hGI, allBare_push hB hb, ?_⟩
  · show b < h'.objs.size
    rcases List.mem_cons.mp hb with rfl | hb
    · exact ltI
    rcases List.mem_cons.mp hb with rfl | hb
    · exact Nat.lt_of_succ_lt ltI
    · exact Nat.lt_trans (List.mem_range.mp hb) (Nat.lt_of_succ_lt ltI)
  · rw [q] at hcs; exact absurd (List.mem_range.mp hcs) (Nat.lt_irrefl _)
  · intro D h6 tk6 G6 ys hD hB6 hD6 hl hP hk
    have e : ys.toArray = ((ns.map kt).map kv).toArray := items_kv ns ys.toArray ⟨by simpa using hl, fun j v hj => hP j v (by simpa using hj)⟩
    have e' : ys = (ns.map kt).map kv := by simpa using e
    subst e'
    obtain ⟨F6, N6⟩ := kept_since (h' := h6) hCL nC hC0 F' N' hk
    have hDh : ∀ b ob, h'.get? b = some ob → @LT.lt Nat _ b D := fun b ob e => Nat.lt_of_lt_of_le (Heap.lt_size e) hD
    refine ret D h6 tk6 G6 hB6 F6 (fun p hp => ?_) fun p hp => hDh _ _ (N' p hp).1
    rcases List.mem_cons.mp hp with rfl | hp
    · refine ⟨hD6, fun q => ?_, ?_⟩
      · obtain ⟨ob, _, _, eL, _⟩ := F'.ns
        have := hDh _ _ eL
        exact Nat.lt_irrefl _ (q ▸ this)
      · cases q : h₀.get? D with
        | none => rfl
        | some ob => exact absurd (hDh _ _ (F'.keep _ _ q)) (Nat.lt_irrefl _)
    · exact N6 p hp
end Mine
end

section
open PySem PySem.W PyProof.Rows PySem.Calls
set_option maxRecDepth 100000
namespace Mine
abbrev mW (sc : Value) (hf th D st dk P : Nat) (top num low : Option Value) : Str → Option Value := fun y => if y = Str.ofString "lower" then low else if y = Str.ofString "number" then num else if y = Str.ofString "top" then top else
  if y = Str.ofString "places" then some (.ref P) else if y = Str.ofString "deck" then some (.ref dk) else if y = Str.ofString "start" then some (.ref st) else if y = Str.ofString "names" then some (.ref D) else
  if y = Str.ofString "half" then some (.int hf th) else if y = Str.ofString "script" then some sc else none
section
variable {sc : Value} {hf th D st dk P : Nat} {top num low : Option Value}
theorem mW_lower {v : Option Value} (y : Str) : (if y = Str.ofString "lower" then v else mW sc hf th D st dk P top num low y) = mW sc hf th D st dk P top num v y := by
  by_cases h : y = Str.ofString "lower"
  · simp only [mW, if_pos h]
  · simp only [mW, if_neg h]
theorem mW_number {v : Option Value} (y : Str) : (if y = Str.ofString "number" then v else mW sc hf th D st dk P top num low y) = mW sc hf th D st dk P top v low y := by
  by_cases h : y = Str.ofString "number"
  · subst h; rfl
  · simp only [mW, if_neg h]
theorem mW_top {v : Option Value} (y : Str) : (if y = Str.ofString "top" then v else mW sc hf th D st dk P top num low y) = mW sc hf th D st dk P v num low y := by
  by_cases h : y = Str.ofString "top"
  · subst h; rfl
  · simp only [mW, if_neg h]
theorem mW_places {v : Nat} (y : Str) : (if y = Str.ofString "places" then some (Value.ref v) else mW sc hf th D st dk P top num low y) = mW sc hf th D st dk v top num low y := by
  by_cases h : y = Str.ofString "places"
  · subst h; rfl
  · simp only [mW, if_neg h]
theorem mW_deck {v : Nat} (y : Str) : (if y = Str.ofString "deck" then some (Value.ref v) else mW sc hf th D st dk P top num low y) = mW sc hf th D st v P top num low y := by
  by_cases h : y = Str.ofString "deck"
  · subst h; rfl
  · simp only [mW, if_neg h]
end
abbrev odd (n : Int) : Bool := n.fmod 2 == 1
def stepP (b : Bool) (hf : Nat) (p : Int) : Int := if b then (2 * p + 1).fmod (2 * (hf : Int) + 1) else if p = 2 * (hf : Int) - 1 then p else (2 * p).fmod (2 * (hf : Int) - 1)
def deckF {α : Type} (hf : Nat) (bits : List Bool) (xs : List α) : List α := bits.foldl (fun xs b => shuf b hf xs) xs
def posF (hf : Nat) (bits : List Bool) : List Int := bits.foldl (fun ps b => ps.map (stepP b hf)) ((List.range (2 * hf)).map fun (i : Nat) => (i : Int))
def topF (bits : List Bool) : Int := bits.foldl (fun t b => 2 * t + (if b then 1 else 0)) 0
def bitsOf (nums : List Int) (i : Nat) : List Bool := (nums.take i).map odd
theorem bits_succ {nums : List Int} {i : Nat} {n : Int} (h : nums[i]? = some n) : bitsOf nums (i + 1) = bitsOf nums i ++ [odd n] := by
  unfold bitsOf
  rw [List.take_add_one, h]; simp
theorem deckF_snoc {α : Type} (hf : Nat) (bits : List Bool) (b : Bool) (xs : List α) : deckF hf (bits ++ [b]) xs = shuf b hf (deckF hf bits xs) := by simp [deckF]
theorem posF_snoc (hf : Nat) (bits : List Bool) (b : Bool) : posF hf (bits ++ [b]) = (posF hf bits).map (stepP b hf) := by simp [posF]
theorem topF_snoc (bits : List Bool) (b : Bool) : topF (bits ++ [b]) = 2 * topF bits + (if b then 1 else 0) := by simp [topF]

/-- the ledger of the law's loop -/
structure LL (w : World) (h₀ : Heap) (L P : Nat) (ps : List Value) (I : Nat) (oI : Obj) (cr : Nat) (oR : Obj) (Rst : List (Addr × Obj)) (dk : OS) (ds : List Node) (h : Heap) : Prop where
  news : News h₀ L h ((P, LCg.lst ps) :: (I, oI) :: (cr, oR) :: (Rst ++ osL w dk ds))
  iP : I ≠ P
  ic : I ≠ cr
  iR : ∀ p ∈ Rst, p.1 ≠ I
  id : I ∉ osAs dk ds
  cP : cr ≠ P
  cR : ∀ p ∈ Rst, p.1 ≠ cr
  cd : cr ∉ osAs dk ds
  dP : P ∉ osAs dk ds
  dR : ∀ p ∈ Rst, p.1 ∉ osAs dk ds
  ok : OSok w dk ds
section
variable {w : World} {h₀ h h' : Heap} {L P : Nat} {ps : List Value} {I : Nat} {oI oI' : Obj} {cr : Nat} {oR oR' : Obj} {Rst : List (Addr × Obj)} {dk dk' : OS} {ds us : List Node} {m : Str → Option Value}
theorem LL.inI (K : LL w h₀ L P ps I oI cr oR Rst dk ds h) : h.get? I = some oI ∧ I ≠ L ∧ h₀.get? I = none := K.news (I, oI) (by simp)
theorem LL.iter (K : LL w h₀ L P ps I oI cr oR Rst dk ds h) (F : Fr h₀ L h m) (k : ∀ b ob, b ∉ [I] → h.get? b = some ob → h'.get? b = some ob) (e : h'.get? I = some oI') :
    Fr h₀ L h' m ∧ LL w h₀ L P ps I oI' cr oR Rst dk ds h' := by
  have hI := K.inI
  obtain ⟨F', N'⟩ := kept_since (h' := h') (news := (P, LCg.lst ps) :: (cr, oR) :: (Rst ++ osL w dk ds)) hI.2.1 (fun p hp => by
    rcases List.mem_cons.mp hp with rfl | hp
    · exact Ne.symm K.iP
    rcases List.mem_cons.mp hp with rfl | hp
    · exact Ne.symm K.ic
    rcases List.mem_append.mp hp with hp | hp
    · exact K.iR p hp
    · intro q; exact K.id (by have h := in_os hp; rw [q] at h; exact h)) hI.2.2 F (News.sub K.news fun p hp => by
      simp only [List.mem_cons] at hp ⊢
      rcases hp with h | h | h <;> simp [h]) fun b ob hb e => k b ob (by simpa using hb) e
  refine ⟨F', ⟨fun p hp => ?_, K.iP, K.ic, K.iR, K.id, K.cP, K.cR, K.cd, K.dP, K.dR, K.ok⟩⟩
  rcases List.mem_cons.mp hp with rfl | hp
  · exact N' _ (by simp)
  rcases List.mem_cons.mp hp with rfl | hp
  · exact ⟨e, hI.2⟩
  · exact N' p (List.mem_cons_of_mem _ hp)
theorem LL.shuf (K : LL w h₀ L P ps I oI cr oR Rst dk ds h) (k : Kept (osL w dk ds) (osL w dk' us) h h') (N' : News h₀ L h' (osL w dk' us)) (ok' : OSok w dk' us) : LL w h₀ L P ps I oI cr oR Rst dk' us h' := by
  have f : ∀ p ∈ (P, LCg.lst ps) :: (I, oI) :: (cr, oR) :: Rst, h'.get? p.1 = some p.2 ∧ p.1 ∉ osAs dk' us := fun p hp => by
    have hn := K.news p (by simp only [List.mem_cons, List.mem_append] at hp ⊢; rcases hp with h | h | h | h <;> simp [h])
    have := k p.1 p.2 hn.1 (by
      rw [osL_as]
      rcases List.mem_cons.mp hp with rfl | hp
      · exact K.dP
      rcases List.mem_cons.mp hp with rfl | hp
      · exact K.id
      rcases List.mem_cons.mp hp with rfl | hp
      · exact K.cd
      · exact K.dR p hp)
    exact ⟨this.1, by have h2 := this.2; rwa [osL_as] at h2⟩
  refine ⟨fun p hp => ?_, K.iP, K.ic, K.iR, (f (I, oI) (by simp)).2, K.cP, K.cR, (f (cr, oR) (by simp)).2, (f (P, LCg.lst ps) (by simp)).2, fun p hp => (f p (by simp [hp])).2, ok'⟩
  by_cases hq : p ∈ osL w dk' us
  · exact N' p hq
  · have hp' : p ∈ (P, LCg.lst ps) :: (I, oI) :: (cr, oR) :: Rst := by
      simp only [List.mem_cons, List.mem_append] at hp ⊢
      rcases hp with h | h | h | h | h
      · exact .inl h
      · exact .inr (.inl h)
      · exact .inr (.inr (.inl h))
      · exact .inr (.inr (.inr h))
      · exact absurd h hq
    have hn := K.news p (by simp only [List.mem_cons, List.mem_append] at hp' ⊢; rcases hp' with h | h | h | h <;> simp [h])
    exact ⟨(f p hp').1, hn.2⟩
theorem LL.places {P2 : Nat} {ps2 : List Value} (K : LL w h₀ L P ps I oI cr oR Rst dk ds h) (N : News h₀ L h' ((P2, LCg.lst ps2) :: (P, LCg.lst ps) :: (I, oI) :: (cr, oR) :: (Rst ++ osL w dk ds))) (off : ∀ p ∈ (P, LCg.lst ps) :: (I, oI) :: (cr, oR) :: (Rst ++ osL w dk ds), p.1 ≠ P2) : LL w h₀ L P2 ps2 I oI cr oR Rst dk ds h' := by
  refine ⟨News.sub N fun p hp => ?_, fun q => off (I, oI) (by simp) q, K.ic, K.iR, K.id, fun q => off (cr, oR) (by simp) q, K.cR, K.cd, fun q => ?_, K.dR, K.ok⟩
  · simp only [List.mem_cons] at hp ⊢
    rcases hp with h | h
    · exact .inl h
    · exact .inr (.inr h)
  · obtain ⟨ob, hm⟩ := (osAs_mem (w := w)).mp q
    exact off (P2, ob) (by simp [hm]) rfl
/-- the same ledger, later -/
theorem LL.same (K : LL w h₀ L P ps I oI cr oR Rst dk ds h) (N : News h₀ L h' ((P, LCg.lst ps) :: (I, oI) :: (cr, oR) :: (Rst ++ osL w dk ds))) : LL w h₀ L P ps I oI cr oR Rst dk ds h' :=
  ⟨N, K.iP, K.ic, K.iR, K.id, K.cP, K.cR, K.cd, K.dP, K.dR, K.ok⟩
theorem LL.row (K : LL w h₀ L P ps I oI cr oR Rst dk ds h) (N : News h₀ L h' ((P, LCg.lst ps) :: (I, oI) :: (cr, oR') :: (Rst ++ osL w dk ds))) : LL w h₀ L P ps I oI cr oR' Rst dk ds h' :=
  ⟨N, K.iP, K.ic, K.iR, K.id, K.cP, K.cR, K.cd, K.dP, K.dR, K.ok⟩
end
end Mine
end

section
set_option maxRecDepth 100000
namespace Mine
theorem inter_map {α β : Type} (f : α → β) (b : Bool) : ∀ (us ls : List α), inter b (us.map f) (ls.map f) = (inter b us ls).map f
  | [], [] => rfl
  | [], _ :: _ => rfl
  | _ :: _, [] => rfl
  | u :: us, l :: ls => by
    have ih := inter_map f b us ls
    cases b <;> simp [inter, ih]
theorem shuf_map {α β : Type} (f : α → β) (b : Bool) (hf : Nat) (xs : List α) : shuf b hf (xs.map f) = (shuf b hf xs).map f := by
  unfold shuf
  rw [← List.map_take, ← List.map_drop, inter_map]
theorem deckF_map {α β : Type} (f : α → β) (hf : Nat) (bits : List Bool) : ∀ (xs : List α), deckF hf bits (xs.map f) = (deckF hf bits xs).map f := by
  induction bits with
  | nil => intro xs; rfl
  | cons b r ih =>
    intro xs
    show deckF hf r (shuf b hf (xs.map f)) = _
    rw [shuf_map, ih]; rfl
def allBits : List (List Bool) := [[]] ++ ([false, true].map fun a => [a]) ++ ([false, true].flatMap fun a => [false, true].map fun b => [a, b]) ++ ([false, true].flatMap fun a => [false, true].flatMap fun b => [false, true].map fun c => [a, b, c]) ++
  ([false, true].flatMap fun a => [false, true].flatMap fun b => [false, true].flatMap fun c => [false, true].map fun d => [a, b, c, d])
theorem mem_allBits : ∀ (l : List Bool), l.length ≤ 4 → l ∈ allBits
  | [], _ => by decide
  | [a], _ => by cases a <;> decide
  | [a, b], _ => by cases a <;> cases b <;> decide
  | [a, b, c], _ => by cases a <;> cases b <;> cases c <;> decide
  | [a, b, c, d], _ => by cases a <;> cases b <;> cases c <;> cases d <;> decide
  | _ :: _ :: _ :: _ :: _ :: _, h => by simp at h
def okAt (hf : Nat) (bits : List Bool) : Bool :=
  let D := deckF hf bits (List.range (2 * hf)); let P := posF hf bits; let t := topF bits
  D.length == 2 * hf && (P.all fun p => decide (0 ≤ p) && decide (p < 2 * (hf : Int))) && (P.map fun p => D.getD p.toNat 0) == List.range (2 * hf) && decide (0 ≤ t) && (decide (2 * (hf : Int) ≤ t) || D.getD t.toNat 1 == 0) &&
  ((D == List.range (2 * hf)) == (P == (List.range (2 * hf)).map fun (i : Nat) => (i : Int))) && D.all fun d => decide (d < 2 * hf)
theorem ok1 : (allBits.all (okAt 1)) = true := by decide +kernel
theorem ok2 : (allBits.all (okAt 2)) = true := by decide +kernel
theorem ok3 : (allBits.all (okAt 3)) = true := by decide +kernel
theorem ok4 : (allBits.all (okAt 4)) = true := by decide +kernel
theorem ok5 : (allBits.all (okAt 5)) = true := by decide +kernel
theorem ok_all (hf : Nat) (h1 : 1 ≤ hf) (h5 : hf ≤ 5) (bits : List Bool) (hb : bits.length ≤ 4) : okAt hf bits = true := by
  have hm := mem_allBits bits hb
  rcases (show hf = 1 ∨ hf = 2 ∨ hf = 3 ∨ hf = 4 ∨ hf = 5 by omega) with rfl | rfl | rfl | rfl | rfl
  · exact List.all_eq_true.mp ok1 bits hm
  · exact List.all_eq_true.mp ok2 bits hm
  · exact List.all_eq_true.mp ok3 bits hm
  · exact List.all_eq_true.mp ok4 bits hm
  · exact List.all_eq_true.mp ok5 bits hm
end Mine
end

section
set_option maxRecDepth 100000
namespace Mine
section
variable {α : Type} [Inhabited α] {hf : Nat} {bits : List Bool} {ks : List α}
theorem ks_range (h : ks.length = 2 * hf) : ks = (List.range (2 * hf)).map fun i => ks.getD i default := by
  refine List.ext_getElem (by simp [h]) fun i h1 h2 => ?_
  simp [h1]
structure Facts (hf : Nat) (bits : List Bool) : Prop where
  len : (deckF hf bits (List.range (2 * hf))).length = 2 * hf
  pin : ∀ p ∈ posF hf bits, 0 ≤ p ∧ p < 2 * (hf : Int)
  back : (posF hf bits).map (fun p => (deckF hf bits (List.range (2 * hf))).getD p.toNat 0) = List.range (2 * hf)
  top0 : 0 ≤ topF bits
  top : topF bits < 2 * (hf : Int) → (deckF hf bits (List.range (2 * hf))).getD (topF bits).toNat 1 = 0
  eq : (deckF hf bits (List.range (2 * hf)) = List.range (2 * hf)) ↔ (posF hf bits = (List.range (2 * hf)).map fun (i : Nat) => (i : Int))
  din : ∀ d ∈ deckF hf bits (List.range (2 * hf)), d < 2 * hf
theorem facts (h1 : 1 ≤ hf) (h5 : hf ≤ 5) (hb : bits.length ≤ 4) : Facts hf bits := by
  have h := ok_all hf h1 h5 bits hb
  unfold okAt at h
  simp only [Bool.and_eq_true, Bool.or_eq_true, beq_iff_eq, decide_eq_true_eq, List.all_eq_true] at h
  obtain ⟨⟨⟨⟨⟨⟨a, b⟩, c⟩, d⟩, e⟩, f⟩, g⟩ := h
  refine ⟨a, b, c, d, fun ht => ?_, ?_, g⟩
  · rcases e with e | e
    · omega
    · exact e
  · constructor
    · intro q
      have : (deckF hf bits (List.range (2 * hf)) == List.range (2 * hf)) = true := by rw [q]; exact beq_self_eq_true _
      rw [this] at f; exact beq_iff_eq.mp f.symm
    · intro q
      rw [q] at f
      exact beq_iff_eq.mp (f.trans (beq_self_eq_true _))
theorem deck_ks (h : ks.length = 2 * hf) : deckF hf bits ks = (deckF hf bits (List.range (2 * hf))).map fun i => ks.getD i default := by
  conv => lhs; rw [ks_range h]
  rw [deckF_map]
theorem Facts.len' (F : Facts hf bits) (h : ks.length = 2 * hf) : (deckF hf bits ks).length = 2 * hf := by rw [deck_ks h, List.length_map, F.len]
theorem Facts.at (F : Facts hf bits) (h : ks.length = 2 * hf) (j : Nat) (hj : j < 2 * hf) (e : Nat) : (deckF hf bits ks)[j]? = some (ks.getD ((deckF hf bits (List.range (2 * hf))).getD j e) default) := by
  have hl : j < (deckF hf bits (List.range (2 * hf))).length := by rw [F.len]; exact hj
  rw [deck_ks h, List.getElem?_map, List.getElem?_eq_getElem hl]
  simp [hl]
theorem Facts.top' (F : Facts hf bits) (h : ks.length = 2 * hf) (ht : topF bits < 2 * (hf : Int)) : (deckF hf bits ks)[(topF bits).toNat]? = some (ks.getD 0 default) := by
  have h0 := F.top0
  rw [F.at h _ (by omega) 1, F.top ht]
theorem Facts.back' (F : Facts hf bits) (h : ks.length = 2 * hf) (i : Nat) (p : Int) (hp : (posF hf bits)[i]? = some p) : ∃ x, (deckF hf bits ks)[p.toNat]? = some x ∧ ks[i]? = some x := by
  have hm : p ∈ posF hf bits := List.mem_of_getElem? hp
  have hin := F.pin p hm
  refine ⟨_, F.at h p.toNat (by omega) 0, ?_⟩
  have e := congrArg (fun l => l[i]?) F.back
  simp only [List.getElem?_map, hp, Option.map_some] at e
  have hi : i < 2 * hf := by
    by_cases hi : i < 2 * hf
    · exact hi
    · rw [List.getElem?_eq_none (by simp; omega)] at e; cases e
  rw [List.getElem?_eq_getElem (by simpa using hi), List.getElem_range] at e
  rw [Option.some.inj e, List.getElem?_eq_getElem (by omega)]
  simp [show i < ks.length by omega]
theorem Facts.plen (F : Facts hf bits) : (posF hf bits).length = 2 * hf := by
  have := congrArg List.length F.back; simpa using this
theorem Facts.eq' {β : Type} [DecidableEq β] (F : Facts hf bits) (f : α → β) (h : ks.length = 2 * hf) (hn : (ks.map f).Nodup) : ((deckF hf bits ks).map f = ks.map f) ↔ (posF hf bits = (List.range (2 * hf)).map fun (i : Nat) => (i : Int)) := by
  rw [← F.eq]
  constructor
  · intro q
    rw [deck_ks h, List.map_map] at q
    refine List.ext_getElem (by rw [F.len]; simp) fun i h1 h2 => ?_
    have hi : i < 2 * hf := by rw [F.len] at h1; exact h1
    have e := congrArg (fun l => l[i]?) q
    simp only [List.getElem?_map, List.getElem?_eq_getElem h1, List.getElem?_eq_getElem (show i < ks.length by omega), Option.map_some, Option.some.injEq, Function.comp] at e
    have hd := F.din _ (List.getElem_mem h1)
    generalize (deckF hf bits (List.range (2 * hf)))[i] = d at *
    rw [List.getElem_range]
    have hd' : d < (ks.map f).length := by simp; omega
    have hi' : i < (ks.map f).length := by simp; omega
    have e3 : (ks.map f)[d] = (ks.map f)[i] := by
      rw [List.getElem_map, List.getElem_map]
      simpa [show d < ks.length by omega] using e
    have pw := List.pairwise_iff_getElem.mp hn
    rcases Nat.lt_trichotomy d i with hlt | hlt | hlt
    · exact absurd e3 (pw d i hd' hi' hlt)
    · exact hlt
    · exact absurd e3.symm (pw i d hi' hd' hlt)
  · intro q
    rw [deck_ks h, q, ← ks_range h]
end
end Mine
end

section
open PySem PySem.W PyProof.Rows PySem.Calls
set_option maxRecDepth 100000
namespace Mine
theorem LL.start {w : World} {h₀ h : Heap} {L P : Nat} {ps ys : List Value} {I S D : Nat} {oI so : Obj} {cr cs cp : Nat} {oR oS oP : Obj} {st dk : OS} {ss ds : List Node} {X9 : List (Addr × Obj)}
    (sep5 : ∀ p ∈ (D, LCg.lst ys) :: ([(cr, oR), (cs, oS), (cp, oP)] ++ osL w st ss), p.1 ∉ osAs dk ds) (sep4 : ∀ p ∈ (D, LCg.lst ys) :: [(cr, oR), (cs, oS), (cp, oP)], p.1 ∉ osAs st ss)
    (o3 : LCg.Off1 D [(cr, oR), (cs, oS), (cp, oP)]) (o7 : LCg.Off1 P ((D, LCg.lst ys) :: ([(cr, oR), (cs, oS), (cp, oP)] ++ osL w st ss ++ osL w dk ds))) (h1 : cs ≠ cr) (h2 : cp ≠ cr)
    (lt9 : ∀ p ∈ X9, @LT.lt Nat _ p.1 S) (lt10 : ∀ p ∈ (S, so) :: X9, @LT.lt Nat _ p.1 I) (sub : ∀ p ∈ (P, LCg.lst ps) :: (D, LCg.lst ys) :: ([(cr, oR), (cs, oS), (cp, oP)] ++ osL w st ss ++ osL w dk ds), p ∈ X9)
    (N : News h₀ L h ((I, oI) :: (S, so) :: X9)) (ok : OSok w dk ds) : LL w h₀ L P ps I oI cr oR ((S, so) :: (D, LCg.lst ys) :: (cs, oS) :: (cp, oP) :: osL w st ss) dk ds h := by
  have o7' := off1_mem o7
  have o3' := off1_mem o3
  have inX : ∀ p ∈ (P, LCg.lst ps) :: (D, LCg.lst ys) :: ([(cr, oR), (cs, oS), (cp, oP)] ++ osL w st ss ++ osL w dk ds), p.1 ≠ I ∧ p.1 ≠ S := fun p hp =>
    ⟨Nat.ne_of_lt (lt10 p (List.mem_cons_of_mem _ (sub p hp))), Nat.ne_of_lt (lt9 p (sub p hp))⟩
  have hS : S ≠ I := Nat.ne_of_lt (lt10 (S, so) (by simp))
  refine ⟨News.sub N fun p hp => ?_, Ne.symm (inX (P, LCg.lst ps) (by simp)).1, Ne.symm (inX (cr, oR) (by simp)).1, fun p hp => ?_, fun q => ?_, o7' (cr, oR) (by simp), fun p hp => ?_, sep5 (cr, oR) (by simp), fun q => ?_, fun p hp => ?_, ok⟩
  · have hs := sub p
    simp only [List.mem_cons, List.mem_append, List.not_mem_nil, or_false, or_assoc] at hp hs ⊢
    rcases hp with h | h | h | h | h | h | h | h | h
    · exact .inr (.inr (hs (.inl h)))
    · exact .inl h
    · exact .inr (.inr (hs (.inr (.inr (.inl h)))))
    · exact .inr (.inl h)
    · exact .inr (.inr (hs (.inr (.inl h))))
    · exact .inr (.inr (hs (.inr (.inr (.inr (.inl h))))))
    · exact .inr (.inr (hs (.inr (.inr (.inr (.inr (.inl h)))))))
    · exact .inr (.inr (hs (.inr (.inr (.inr (.inr (.inr (.inl h))))))))
    · exact .inr (.inr (hs (.inr (.inr (.inr (.inr (.inr (.inr h))))))))
  · rcases List.mem_cons.mp hp with rfl | hp
    · exact hS
    · refine (inX p ?_).1
      simp only [List.mem_cons, List.mem_append, List.not_mem_nil, or_false] at hp ⊢
      rcases hp with h | h | h | h <;> simp [h]
  · obtain ⟨ob, hm⟩ := (osAs_mem (w := w)).mp q
    exact (inX (I, ob) (by simp [hm])).1 rfl
  · rcases List.mem_cons.mp hp with rfl | hp
    · exact Ne.symm (inX (cr, oR) (by simp)).2
    rcases List.mem_cons.mp hp with rfl | hp
    · exact Ne.symm (o3' (cr, oR) (by simp))
    rcases List.mem_cons.mp hp with rfl | hp
    · exact h1
    rcases List.mem_cons.mp hp with rfl | hp
    · exact h2
    · intro q
      exact sep4 (cr, oR) (by simp) (by have h := in_os hp; rw [q] at h; exact h)
  · obtain ⟨ob, hm⟩ := (osAs_mem (w := w)).mp q
    exact o7' (P, ob) (by simp [hm]) rfl
  · rcases List.mem_cons.mp hp with rfl | hp
    · intro q
      obtain ⟨ob, hm⟩ := (osAs_mem (w := w)).mp q
      exact (inX (S, ob) (by simp [hm])).2 rfl
    · refine sep5 p ?_
      simp only [List.mem_cons, List.mem_append, List.not_mem_nil, or_false] at hp ⊢
      rcases hp with h | h | h | h <;> simp [h]
def JL (w : World) (h₀ : Heap) (L : Nat) (s₀ : Shared) (sc : Value) (hf th D : Nat) (st : OS) (I S cr : Nat) (Rst : List (Addr × Obj)) (ks : List (Str × Nat)) (nums : List Int) (i : Nat) (s' : Shared) : Prop :=
  ∃ h' tk G P ps dk ds oR oI tt nv lv, s' = { s₀ with heap := h', gens := G, toks := tk } ∧ AllBare G ∧
    Fr h₀ L h' (mW sc hf th D st.x dk.x P (some (.int (topF (bitsOf nums i)) tt)) nv lv) ∧
    LL w h₀ L P ps I oI cr oR Rst dk ds h' ∧ IterO oI S i ∧ (∃ v, oR.data = .cell v) ∧ ds.map kt = deckF hf (bitsOf nums i) ks ∧ IntsAre ps (posF hf (bitsOf nums i))
end Mine
namespace Mine
theorem bindL_one {kindOf : Str → Option NameKind} {n : Str} {v : Value} (hk : kindOf n = some .local) (y : Str) : bindL kindOf [(n, v)] (fun _ => none) y = if y = n then some v else none := by simp [bindL, hk]
theorem mW_init {sc : Value} {hf th D st dk P : Nat} {top : Option Value} (y : Str) : (if y = Str.ofString "top" then top else if y = Str.ofString "places" then some (Value.ref P) else if y = Str.ofString "deck" then some (Value.ref dk) else if y = Str.ofString "start" then some (Value.ref st) else
    if y = Str.ofString "names" then some (Value.ref D) else if y = Str.ofString "half" then some (Value.int hf th) else if y = Str.ofString "script" then some sc else none) = mW sc hf th D st dk P top none none y := by
  by_cases h : y = Str.ofString "lower"
  · subst h; rfl
  · by_cases h2 : y = Str.ofString "number"
    · subst h2; rfl
    · simp only [mW, if_neg h, if_neg h2]
end Mine
namespace Mine
theorem ints_map (g : Int → Int) (ns : List Int) (ys : List Value) (hl : ys.length = ns.length) (h : ∀ (j : Nat) (y : Value), ys[j]? = some y → ∃ k t, ns[j]? = some k ∧ y = Value.int (g k) t) : IntsAre ys (ns.map g) := by
  have h1 := ints_of (fun j => g (ns.getD j 0)) ns.length ys hl fun j y hj => by
    obtain ⟨k, t, e, rfl⟩ := h j y hj
    exact ⟨t, by simp [e]⟩
  have e : (List.range ns.length).map (fun j => g (ns.getD j 0)) = ns.map g := by
    refine List.ext_getElem (by simp) fun i h1 h2 => ?_
    have hi : i < ns.length := by simpa using h1
    simp [hi]
  rw [e] at h1; exact h1
/-- places assigned -/
def PlEnd (w : World) (h₀ : Heap) (L : Nat) (G : Array GenState) (dr : Drawn) (os : OsState) (sc : Value) (hf th D st : Nat) (dk : OS) (top num low : Option Value) (I : Nat) (oI : Obj) (cr : Nat) (oR : Obj) (Rst : List (Addr × Obj)) (us : List Node) (tgt : List Int) (f : Flow) (s' : Shared) : Prop :=
  f = .next ∧ ∃ h' tk P ps, s' = ⟨h', G, dr, tk, os⟩ ∧ Fr h₀ L h' (mW sc hf th D st dk.x P top num low) ∧ LL w h₀ L P ps I oI cr oR Rst dk us h' ∧ IntsAre ps tgt
end Mine
namespace Mine
theorem PlEnd.on {w : World} {M : Model} {A : Around} {E : Value → Shared → Prop} {s : Shared} {t : Sem Flow} {Q : Flow → Shared → Prop} {h₀ : Heap} {L hf th D st P : Nat} {sc : Value} {dk : OS} {top num low : Option Value} {ps : List Value} {I : Nat} {oI : Obj} {cr : Nat} {oR : Obj} {Rst : List (Addr × Obj)} {us : List Node}
    (_ : Fr h₀ L s.heap (mW sc hf th D st dk.x P top num low)) (_ : LL w h₀ L P ps I oI cr oR Rst dk us s.heap) (tgt : List Int)
    (h : wpAny M A t (PlEnd w h₀ L s.gens s.drawn s.os sc hf th D st dk top num low I oI cr oR Rst us tgt) E s)
    (k : ∀ h' tk P2 ps2, Fr h₀ L h' (mW sc hf th D st dk.x P2 top num low) → LL w h₀ L P2 ps2 I oI cr oR Rst dk us h' → IntsAre ps2 tgt → Q .next { s with heap := h', toks := tk }) : wpAny M A t Q E s :=
  wpAny_mono h (fun f s' hq => by obtain ⟨rfl, h', tk, P2, ps2, rfl, a, b, c⟩ := hq; exact k h' tk P2 ps2 a b c) fun _ _ z => z
end Mine
namespace Mine
def Mk (Q : Flow → Shared → Prop) (f : Flow) (s : Shared) : Prop := Q f s
theorem Mk.on {M : Model} {A : Around} {E : Value → Shared → Prop} {s : Shared} {t : Sem Flow} {Q : Flow → Shared → Prop} (h : wpAny M A t (Mk Q) E s) : wpAny M A t Q E s := h
def IfTok (s : Shared) (f : Flow) (s' : Shared) : Prop := f = .next ∧ ∃ tk, s' = { s with toks := tk }
theorem IfTok.on {M : Model} {A : Around} {E : Value → Shared → Prop} {s : Shared} {t : Sem Flow} {Q : Flow → Shared → Prop} (h : wpAny M A t (Mk (IfTok s)) E s) (k : ∀ tk, Q .next { s with toks := tk }) : wpAny M A t Q E s :=
  wpAny_mono h (fun f s' hq => by obtain ⟨rfl, tk, rfl⟩ := hq; exact k tk) fun _ _ z => z
theorem IfTok.end {s : Shared} {tk : Nat} : Mk (IfTok s) .next { s with toks := tk } := ⟨rfl, tk, rfl⟩
end Mine
namespace Mine
theorem zs_kv (ks : List (Str × Nat)) (zs : List Value) (hl : zs.length = ks.length) (h : ∀ (j : Nat) (y : Value), zs[j]? = some y → ∃ x, ks[j]? = some x ∧ y = kv x) : zs = ks.map kv := by
  refine List.ext_getElem? fun i => ?_
  by_cases hi : i < ks.length
  · have hi' : i < zs.length := by omega
    obtain ⟨x, e1, e2⟩ := h i zs[i] (List.getElem?_eq_getElem hi')
    rw [List.getElem?_eq_getElem hi', e2, List.getElem?_map, e1]; rfl
  · rw [List.getElem?_eq_none (by omega), List.getElem?_eq_none (by simp; omega)]
theorem nm_ok : ∀ s ∈ nmL, PyData.strOk s = true := by decide +kernel
theorem strOk_ks {ks : List (Str × Nat)} {q : Int} {n : Nat} (e : ks.map (·.1) = (List.range n).map (nmS q)) : ∀ k ∈ ks.map (·.1), PyData.strOk k = true := fun k hk => by
  rw [e] at hk
  obtain ⟨i, _, rfl⟩ := List.mem_map.mp hk
  unfold nmS
  have hlt : ((0 + (i : Int) + q).fmod 10).toNat < nmL.length := by
    have h1 := Int.fmod_lt_of_pos (0 + (i : Int) + q) (b := 10) (by decide)
    have h0 := Int.fmod_nonneg_of_pos (0 + (i : Int) + q) (b := 10) (by decide)
    show _ < 10
    omega
  rw [List.getD_eq_getElem?_getD, List.getElem?_eq_getElem hlt]
  exact nm_ok _ (List.getElem_mem hlt)
end Mine
end

section
open PySem PySem.W PyProof.Rows PySem.Calls
set_option maxRecDepth 100000
namespace Mine
local macro_rules | `(tactic| walk_at "mine pad 0") => `(tactic| fail)
local macro_rules | `(tactic| walk_at "mine pad 1") => `(tactic| fail)
local macro_rules | `(tactic| walk_at "mine pad 2") => `(tactic| fail)
local macro_rules | `(tactic| walk_at "mine pad 3") => `(tactic| fail)
local macro_rules | `(tactic| walk_at "mine pad 4") => `(tactic| fail)
local macro_rules | `(tactic| walk_at "mine pad 5") => `(tactic| fail)
local macro_rules | `(tactic| walk_at "mine pad 6") => `(tactic| fail)
local macro_rules | `(tactic| walk_at "mine pad 7") => `(tactic| fail)
local macro_rules | `(tactic| walk_at "mine pad 8") => `(tactic| fail)
local macro_rules | `(tactic| walk_at "call builtin:len") => `(tactic| (k_here; refine CallStop.mk ?_))
local macro_rules | `(tactic| walk_at "subscriptTail Name Name ref int") => `(tactic| (k_here; refine CallStop.mk ?_))
local macro_rules | `(tactic| walk_at "subscriptTail Name Constant ref int") => `(tactic| (k_here; (fail_if_success (with_reducible show wpAny _ _ _ (IntVal _) _ _)); refine CallStop.mk ?_))
local macro_rules | `(tactic| walk_at "compareOp Eq ref ref") => `(tactic| (k_here; refine CallStop.mk ?_))
local macro_rules | `(tactic| walk_at "compareOp NotEq ref ref") => `(tactic| (k_here; refine CallStop.mk ?_))
local macro_rules | `(tactic| walk_at "exec If") => `(tactic| (k_here; (with_reducible show wpAny _ _ (exec (Stmt.If (Expr.BoolOp _ _ _) _ _ _) _) _ _ _); (fail_if_success (with_reducible show wpAny _ _ _ (Mk _) _ _)); refine CallStop.mk ?_))
local macro_rules | `(tactic| walk_at "exec If") => `(tactic| (k_here; (with_reducible show wpAny _ _ (exec (Stmt.If (Expr.Name _ _) _ _ _) _) _ _ _); (fail_if_success (with_reducible show wpAny _ _ _ (PlEnd _ _ _ _ _ _ _ _ _ _ _ _ _ _ _ _ _ _ _ _ _ _) _ _)); refine CallStop.mk ?_))
local macro_rules | `(tactic| walk_at "exec For Name Subscript cons nil") => `(tactic| (k_here; (with_reducible show wpAny _ _ (exec (Stmt.For _ (Expr.Subscript _ _ _) _ _ _) _) _ _ _); refine CallStop.mk ?_))
local macro_rules | `(tactic| walk_at "eval IfExp") => `(tactic| (k_here; (with_reducible show wpAny _ _ (eval (Expr.IfExp (Expr.Name _ _) _ _ _) _) _ _ _); (fail_if_success (with_reducible show wpAny _ _ _ (IntVal _) _ _)); refine CallStop.mk ?_))
local macro_rules | `(tactic| walk_at "exec Assign cons ListComp") => `(tactic| (k_here; refine CallStop.mk ?_))
local macro_rules | `(tactic| walk_at "CompSrc") => `(tactic| refine CallStop.mk ?_)
local macro_rules | `(tactic| walk_at "eval ListComp") => `(tactic| (k_here; refine CallStop.mk ?_))
local macro_rules | `(tactic| k_ne) => `(tactic| (refine neN ?_; (try dsimp only); first | (refine NeF.ne ?_; with_reducible assumption) | (refine NeF.ne (NeF.symm ?_); with_reducible assumption) | omega))
local macro_rules | `(tactic| walk_at "compareOp NotIn str ref") => `(tactic| (k_here; (refine' mp_notin ?N ?hm ?hd ?lo ?hv ?_; (case N => k_asm); (case hm => k_mem); (case hd => k_asm); (case lo => k_asm); (case hv => k_asm))))
local macro_rules | `(tactic| walk_at "setItem ref str") => `(tactic| (k_here; (refine' mp_set ?F ?N ?U ?hd ?hz ?_; (case F => k_asm); (case N => k_asm); (case U => k_updF); (case hd => k_asm); (case hz => k_asm); k_whole; intro h' o' F' N' d'; (try dsimp only at N'); (try k_sweep))))
local macro_rules | `(tactic| k_room) => `(tactic| ((try simp only [depth_under_make, depth_under_kw, depth_in1, depth_deeper, depth_caller]); (try dsimp only [ktrTop]); omega))

local macro_rules | `(tactic| k_units) => `(tactic| ((try simp only [units_in1, units_deeper, Around.mark_units, units_caller, units_under_make]); (try dsimp only [ktrTop]); omega))
local macro_rules | `(tactic| walk_at "exec For Name Call cons nil") => `(tactic| (k_here; k_dflt (refine fo_for ?_)))
local macro_rules | `(tactic| walk_at "pyIter ref") => `(tactic| (k_here; refine CallStop.mk ?_))
local macro_rules | `(tactic| walk_at "call type:range") => `(tactic| (k_here; refine CallStop.mk ?_))
local macro_rules | `(tactic| walk_at "call ref") => `(tactic| (k_here; refine CallStop.mk ?_))

set_option maxHeartbeats 8000000 in
theorem law_holds : PySem.Challenge.rw_fc0213_01.Holds := PySem.Challenge.hd (by
  k_fill
  intro w s₀ s₁ mg mb G Y fa o pm cd doc dV kV ho hd hcd hD hmg hg args vals as hpre hlay hrd hwl hlo
  have KX := kIn_of Y
  have X := (Ground.X G).1
  have V := (Ground.X G).2
  refine Ground.open G ?_
  intro T B D TE TW
  try (refine guard_noD D (by decide +kernel) ?_; clear D)
  obtain ⟨_, _, M⟩ := bmod_of_top T
  have TA := at_of_top T
  try (obtain ⟨_, _, he, B0⟩ := based_of_top T rfl hmg ho hd; have he' : cd = _ := he; subst he'; clear he)
  clear hmg
  wrow_args hpre hlay hrd hwl hlo
  all_goals (
    first | refine callC_kw (enter_call ?_) | refine enter_call ?_ | refine callC_kw (enter_callW ?_) | refine enter_callW ?_ | w_how
    w_top on
    have K0 := below_caller (Top.heap T)
    w_call any ho hd hcd hD T F
    clear hd TA
    k_drop
    skip)
  all_goals try k_fold
  k_steps
  refine CallStop.go ?_
  (with_reducible rename Fr _ _ _ _ => Fa)
  have Fb := Fr.cg Fa fun y => bindL_one rfl y
  clear Fa
  refine IntVal.mono ?_ ?_
  case refine_1 =>
    k_steps
    all_goals exact ⟨_, _, _, rfl, rfl⟩
  intro pk tp tkp
  k_steps
  refine CallStop.go ?_
  (with_reducible rename Fr _ _ _ _ => F1)
  (with_reducible rename News _ _ _ _ => N1)
  obtain ⟨hf, hf1, hf5, ehf⟩ : ∃ hf : Nat, 1 ≤ hf ∧ hf ≤ 5 ∧ 1 + pk.fmod 5 = (hf : Int) := by
    have h1 := Int.fmod_nonneg_of_pos pk (b := 5) (by decide)
    have h2 := Int.fmod_lt_of_pos pk (b := 5) (by decide)
    exact ⟨(1 + pk.fmod 5).toNat, by omega, by omega, by omega⟩
  generalize 1 + pk.fmod 5 = hz at *
  subst ehf
  generalize eq : pk.fdiv 5 = q
  obtain ⟨th, F1'⟩ : ∃ th, Fr _ _ _ (fun y => if y = Str.ofString "half" then some (Value.int hf th) else if y = Str.ofString "script" then _ else none) := ⟨_, F1⟩
  (with_reducible rename _ = Data.cell (some (Value.int (2 * _) _)) => dS)
  obtain ⟨ts, dS'⟩ : ∃ ts, _ = Data.cell (some (Value.int (2 * (hf : Int)) ts)) := ⟨_, dS⟩
  clear F1 dS
  k_dflt (refine LCg.Assign_ListComp_U (F₀ := F1') (by rfl) (by with_unfolding_all rfl) (by with_unfolding_all rfl) (by decide) (by rfl) (by decide) (by rfl) (by rfl) (by rfl) ?_)
  k_steps
  refine CallStop.go ?_
  refine src_range (n := 2 * hf) (by omega) (by omega) rfl F1' N1 fun g2 tk2 => ?_
  refine cr_fold (fun i y => ∃ t, y = Value.str (nmS q i) t) trivial ?_ ?_
  · rintro i v I oI C oC D m₂ ys h tk E' hi ⟨tv, rfl⟩ hC hx F N off ne
    k_steps
    rw [eq]
    exact ⟨_, _, rfl, by assumption, by assumption, ⟨_, rfl⟩⟩
  · intro ys hl hys
    obtain ⟨ks, eys, eks⟩ := strs_of (nmS q) _ ys hl hys
    unfold LCg.FinA
    intro D h3 tk3 F3 N3 o3
    clear F1' N1
    dsimp only
    k_steps
    refine CallStop.go ?_
    show wpAny _ _ (call (.ref 121) [.ref D]) _ _ _
    k_dflt (refine' new_list2 (L := s₁.heap.objs.size) (ks := ks) ?k1 ?kF ?k2 ?k3 ?k4 ?k5 ?k6 ?kN ?off eys ?kn ?kz ?_; (case k1 => k_asm); (case kF => k_asm); (case kN => k_asm); (case k2 => k_asm); (case k3 => k_asm); (case k4 => exact rfl); (case k5 => k_room); (case k6 => k_units))
    case off => exact off1_mem o3
    case kn => rw [eks]; exact nm_nodup q _ (by omega)
    case kz => have := congrArg List.length eks; simp at this; omega
    intro h4 tk4 st ss es F4 N4 sep4 ok4
    have off4 : ∀ p ∈ [(s₁.heap.objs.size + 1 + 1 + 1, _), (s₁.heap.objs.size + 1 + 1, _), (s₁.heap.objs.size + 1, _)] ++ osL w st ss, p.1 ≠ D := fun p hp => (List.mem_append.mp hp).elim (off1_mem o3 p) fun hp q => sep4 _ (List.mem_cons_self ..) (by have h := in_os hp; rw [q] at h; exact h)
    k_steps
    refine CallStop.go ?_
    show wpAny _ _ (call (.ref 121) [.ref D]) _ _ _
    k_dflt (refine' new_list2 (L := s₁.heap.objs.size) (ks := ks) ?k1 ?kF ?k2 ?k3 ?k4 ?k5 ?k6 ?kN off4 eys ?kn ?kz ?_; (case k1 => k_asm); (case kF => k_asm); (case kN => k_asm); (case k2 => k_asm); (case k3 => k_asm); (case k4 => exact rfl); (case k5 => k_room); (case k6 => k_units))
    case kn => rw [eks]; exact nm_nodup q _ (by omega)
    case kz => have := congrArg List.length eks; simp at this; omega
    intro h5 tk5 dk ds ed F5 N5 sep5 ok5
    k_steps
    refine CallStop.go ?_
    (with_reducible rename Fr _ _ _ _ => F6)
    (with_reducible rename News _ _ _ _ => N6)
    k_dflt (refine LCg.Assign_ListComp_U (F₀ := F6) (by rfl) (by with_unfolding_all rfl) (by with_unfolding_all rfl) (by decide) (by rfl) (by decide) (by rfl) (by rfl) (by rfl) ?_)
    k_steps
    refine CallStop.go ?_
    refine src_range (n := 2 * hf) (by omega) (by omega) rfl F6 N6 fun g7 tk7 => ?_
    refine cr_fold (fun i y => ∃ t, y = Value.int (i : Int) t) trivial ?_ ?_
    · rintro i v I oI C oC D2 m₂ ys2 h tk E' hi ⟨tv, rfl⟩ hC hx F N off ne
      k_steps
      rw [Int.zero_add]
      exact ⟨_, _, rfl, by assumption, by assumption, ⟨_, rfl⟩⟩
    · intro ps hlp hps
      have ips := ints_of (fun i => (i : Int)) _ ps hlp hps
      unfold LCg.FinA
      intro P h7 tk7 F7 N7 o7
      clear F6 N6
      dsimp only
      k_steps
      refine CallStop.go ?_
      k_dflt (refine fo_for ?_)
      iterate 24 walk1
      (with_reducible rename Fr _ _ _ _ => F8)
      (with_reducible rename News _ _ _ _ => N8)
      (with_reducible rename IntsAre _ _ => I8)
      dsimp only
      k_dflt (refine r_slice4 (s := ⟨_, s₁.gens, s₁.drawn, _, s₁.os⟩) F8 N8 (List.mem_cons_self ..) ?hz fun S h9 F9 N9 lt9 => ?_)
      case hz => have := I8.length; simp at this; omega
      obtain ⟨its, nums, N9', I9, hn4⟩ : ∃ its nums, News _ _ h9 ((S, listOf its.toArray 0) :: _) ∧ IntsAre its nums ∧ nums.length ≤ 4 := ⟨_, _, N9, I8.take 4, by rw [List.length_take]; exact Nat.min_le_left ..⟩
      clear N9 I8 N8 F8
      dsimp only
      refine iter_list F9 N9' (List.mem_cons_self ..) ⟨rfl, _, rfl⟩ fun I oI h10 F10 N10 hI lt10 => ?_
      obtain ⟨tt0, F11⟩ : ∃ tt0, Fr _ _ h10 (mW _ hf th D st.x dk.x P (some (.int 0 tt0)) none none) := ⟨_, Fr.cg F10 fun y => mW_init y⟩
      clear F9 N9' F10
      have K0 := LL.start (ys := ys) sep5 sep4 o3 o7 (by omega) (by omega) (fun p hp => lt9 p hp) (fun p hp => lt10 p hp) (fun p hp => by
        simp only [List.mem_cons, List.mem_append, List.not_mem_nil, or_false, or_assoc] at hp ⊢
        exact .inr (.inr (.inr hp))) N10 ok5
      clear N10 lt10 lt9
      have F3 : True := trivial
      have hlk : ks.length = 2 * hf := by
        have h := congrArg List.length eks
        rw [List.length_map, List.length_map, List.length_range] at h; exact h
      have hnk : (ks.map (·.1)).Nodup := by rw [eks]; exact nm_nodup q _ (by omega)
      have hSI : S ≠ I := fun q => K0.iR (S, listOf its.toArray 0) (List.mem_cons_self ..) q
      have hoS : IsLst (listOf its.toArray 0) its := ⟨rfl, _, rfl⟩
      obtain ⟨Rst, cr, sc, eR, eC, F12, K1⟩ : ∃ (Rst : List (Addr × Obj)) (cr : Nat) (sc : Value), Rst = _ ∧ cr = _ ∧ Fr s₁.heap s₁.heap.objs.size h10 (mW sc hf th D st.x dk.x P (some (.int 0 tt0)) none none) ∧ LL w s₁.heap s₁.heap.objs.size P ps I oI cr _ Rst dk ds h10 := ⟨_, _, _, rfl, rfl, F11, K0⟩
      clear F11 K0
      refine for_turns (n := its.toArray.size) (Walks.list rfl I S hSI its.toArray) (fun i s' => JL w s₁.heap s₁.heap.objs.size ⟨h10, s₁.gens, s₁.drawn, 0, s₁.os⟩ sc hf th D st I S cr Rst ks nums i s') ?_ ?_ ?_ ?_
      · refine ⟨h10, _, _, P, ps, dk, ds, _, oI, tt0, none, none, rfl, by rw [hg]; exact fun y hy => by simp at hy, F12, K1, hI, ⟨_, by assumption⟩, ed, ips⟩
      · rintro i s' hi ⟨h', tk, G, P, ps, dk, ds, oR, oI, tt, nv, lv, rfl, hB, F, K, hI, hR, hd, hp⟩
        exact ⟨⟨oI, K.inI.1, hI.1, hI.2⟩, hoS.at (K.news (S, listOf its.toArray 0) (by rw [eR]; simp)).1⟩
      · rintro i s' v' h₁ tk₁ hi ⟨h', tk, G, P, ps, dk, ds, oR, oI, tt, nv, lv, rfl, hB, F, K, hI, ⟨vR, hR⟩, hd, hp⟩ hv hst hk1
        obtain ⟨n, tn, rfl, hn⟩ := IntsAre.at I9 i v' (by simpa using hv)
        obtain ⟨⟨oI9, ho9, hc9, hd9⟩, _⟩ := hst
        obtain ⟨F13, K9⟩ := K.iter F hk1 ho9
        clear F K F12 K1
        subst eR eC
        refine storeX_L F13 K9.news (fun h2 F14 N13 => ?_) rfl rfl
        have F15 := Fr.cg F14 fun y => mW_number y
        have K2 := K9.same N13
        have N14 := N13
        simp only [List.cons_append] at N14
        clear F13 F14 N13 K9
        dsimp only
        k_steps
        refine CallStop.go ?_
        (with_reducible rename Fr _ _ _ _ => F16)
        (with_reducible rename News _ _ _ _ => N16)
        have F17 := Fr.cg F16 fun y => mW_lower y
        have K3 := K2.same N16
        have fc0 := facts hf1 hf5 (bits := bitsOf nums i) (by unfold bitsOf; rw [List.length_map, List.length_take]; omega)
        have hdl : ds.length = 2 * hf := by
          have h := congrArg List.length hd
          rw [fc0.len' hlk, List.length_map] at h; exact h
        have hlt4 : i < 4 := by
          have h := (List.getElem?_eq_some_iff.mp hn).1
          omega
        have fc1 := facts hf1 hf5 (bits := bitsOf nums (i + 1)) (by unfold bitsOf; rw [List.length_map, List.length_take]; omega)
        have hbs := bits_succ hn
        clear F16
        generalize hbb : (n.fmod 2 == 1) = b
        rw [hbb] at F17
        have hbb' : odd n = b := hbb
        rw [hbb'] at hbs
        k_dflt (refine' shuf_c (L := s₁.heap.objs.size) (d := dk) (ns := ds) (hf := hf) ?k1 F17 ?k2 ?k3 ?k4 ?k5 ?k6 ?kN K3.ok hdl hf5 hB ?_; (case k1 => k_asm); (case k2 => k_asm); (case k3 => k_asm); (case k4 => exact rfl); (case k5 => k_room); (case k6 => k_units); (case kN => exact News.sub N16 fun p hp => by simp [hp]))
        intro h6 tk6 G6 dk2 us hus hB6 F18 N18 ok6 k6
        have K4 := K3.shuf k6 N18 ok6
        have hus' : us.map kt = deckF hf (bitsOf nums (i + 1)) ks := by rw [hus, hbs, deckF_snoc, hd]
        clear N18 F17 K3 K2 N16 k6
        have N19 := K4.news
        simp only [List.cons_append] at N19
        k_steps
        refine CallStop.go ?_
        (with_reducible rename Fr _ _ _ _ => F20)
        (with_reducible rename News _ _ _ _ => N20)
        have F21 := Fr.cg F20 fun y => mW_deck y
        have K5 := K4.same N20
        clear K4 F20
        k_dflt (refine PlEnd.on F21 K5 ((posF hf (bitsOf nums i)).map (stepP b hf)) ?_ ?_)
        case refine_1 =>
          cases b with
          | true =>
            k_steps
            refine CallStop.go ?_
            (with_reducible rename Fr _ _ _ _ => F22)
            (with_reducible rename News _ _ _ _ => N22)
            k_dflt (refine LCg.Assign_ListComp_U (F₀ := F22) (by rfl) (by with_unfolding_all rfl) (by with_unfolding_all rfl) (by decide) (by rfl) (by decide) (by rfl) (by rfl) (by rfl) ?_)
            k_steps
            refine CallStop.go ?_
            k_dflt (refine LCg.CompSrc.ledger (ax := P) (its := ps.toArray) (k := ps.length) rfl F22 N22 (List.mem_cons_self ..) (by rw [List.size_toArray, hp.length, fc0.plen, sizeLine_eq]; omega) fun g8 => ?_)
            refine cr_fold (fun j y => ∃ k t, (posF hf (bitsOf nums i))[j]? = some k ∧ y = Value.int (stepP true hf k) t) (.inr ⟨_, List.mem_cons_self .., rfl, _, rfl⟩) ?_ ?_
            · rintro j v I2 oI2 C2 oC2 D2 m₂ zs h tk0 E' hj hPv hC hx F N off ne
              obtain ⟨k, kt0, rfl, hk⟩ := IntsAre.at hp j v (by simpa using hPv)
              clear F22 N22
              k_steps
              exact ⟨_, _, rfl, by assumption, by assumption, k, _, hk, rfl⟩
            · intro zs hl2 hz
              unfold LCg.FinA
              intro P2 h9 tk9 F9 N9 o9
              dsimp only
              k_steps
              exact ⟨rfl, _, _, P2, zs, rfl, Fr.cg F9 fun y => mW_places y, K5.places N9 (off1_mem o9), ints_map _ _ _ (by rw [hl2]; simp [hp.length]) hz⟩
          | false =>
            k_steps
            refine CallStop.go ?_
            (with_reducible rename Fr _ _ _ _ => F22)
            (with_reducible rename News _ _ _ _ => N22)
            k_dflt (refine LCg.Assign_ListComp_U (F₀ := F22) (by rfl) (by with_unfolding_all rfl) (by with_unfolding_all rfl) (by decide) (by rfl) (by decide) (by rfl) (by rfl) (by rfl) ?_)
            k_steps
            refine CallStop.go ?_
            k_dflt (refine LCg.CompSrc.ledger (ax := P) (its := ps.toArray) (k := ps.length) rfl F22 N22 (List.mem_cons_self ..) (by rw [List.size_toArray, hp.length, fc0.plen, sizeLine_eq]; omega) fun g8 => ?_)
            refine cr_fold (fun j y => ∃ k t, (posF hf (bitsOf nums i))[j]? = some k ∧ y = Value.int (stepP false hf k) t) (.inr ⟨_, List.mem_cons_self .., rfl, _, rfl⟩) ?_ ?_
            · rintro j v I2 oI2 C2 oC2 D2 m₂ zs h tk0 E' hj hPv hC hx F N off ne
              obtain ⟨k, kt0, rfl, hk⟩ := IntsAre.at hp j v (by simpa using hPv)
              clear F22 N22
              k_steps
              · exact ⟨_, _, rfl, by assumption, by assumption, k, _, hk, congrArg (fun z => Value.int z _) (by unfold stepP; rw [if_neg (by decide), if_pos (by assumption)])⟩
              · exact ⟨_, _, rfl, by assumption, by assumption, k, _, hk, congrArg (fun z => Value.int z _) (by unfold stepP; rw [if_neg (by decide), if_neg (by assumption)])⟩
            · intro zs hl2 hz
              unfold LCg.FinA
              intro P2 h9 tk9 F9 N9 o9
              dsimp only
              k_steps
              exact ⟨rfl, _, _, P2, zs, rfl, Fr.cg F9 fun y => mW_places y, K5.places N9 (off1_mem o9), ints_map _ _ _ (by rw [hl2]; simp [hp.length]) hz⟩
        intro h7 tk7 P2 ps2 F22 K6 hp2
        rw [← posF_snoc, ← hbs] at hp2
        have N22 := K6.news
        simp only [List.cons_append] at N22
        clear F21 K5 N20
        dsimp only
        k_steps
        refine CallStop.go ?_
        k_dflt (refine wpAny_Assign_Name ?_)
        k_dflt (refine row_comp (by decide) (by decide) rfl (by decide) rfl (by decide) rfl ?hroom ?_)
        case hroom => k_room
        k_steps
        refine CallStop.go ?_
        (with_reducible rename Fr _ _ _ _ => F23)
        (with_reducible rename News _ _ _ _ => N23)
        k_dflt (refine' r_genAt (L := s₁.heap.objs.size) (o := dk2) (ns := us) F23 ?k1 ?k2 ?k3 N23 ?k4 ok6 hB6 ?_; (case k1 => k_asm); (case k2 => k_asm); (case k3 => k_room); (case k4 => exact fun p hp => by simp [hp]))
        intro R h8 tk8 G8 hB8 F24 N24 ltR
        have hcN : ∀ p ∈ (R, LCg.lst ((us.map kt).map kv)) :: (P2, LCg.lst ps2) :: (I, oI9) :: (S, listOf its.toArray 0) :: (D, LCg.lst ys) :: (s₁.heap.objs.size + 1 + 1, _) :: (s₁.heap.objs.size + 1, _) :: (osL w st ss ++ osL w dk2 us), p.1 ≠ s₁.heap.objs.size + 1 + 1 + 1 := fun p hp => by
          rcases List.mem_cons.mp hp with rfl | hp
          · exact Ne.symm (Nat.ne_of_lt (ltR (s₁.heap.objs.size + 1 + 1 + 1, oR) (by simp)))
          rcases List.mem_cons.mp hp with rfl | hp
          · exact Ne.symm K6.cP
          rcases List.mem_cons.mp hp with rfl | hp
          · exact K6.ic
          · rw [← List.cons_append, ← List.cons_append, ← List.cons_append, ← List.cons_append] at hp
            rcases List.mem_append.mp hp with hp | hp
            · exact K6.cR p hp
            · intro q
              exact K6.cd (by have h := in_os hp; rw [q] at h; exact h)
        have N25 : News _ _ h8 ((s₁.heap.objs.size + 1 + 1 + 1, oR) :: (R, LCg.lst ((us.map kt).map kv)) :: (P2, LCg.lst ps2) :: (I, oI9) :: (S, listOf its.toArray 0) :: (D, LCg.lst ys) :: (s₁.heap.objs.size + 1 + 1, _) :: (s₁.heap.objs.size + 1, _) :: (osL w st ss ++ osL w dk2 us)) := News.sub N24 fun p hp => by
          simp only [List.mem_cons] at hp ⊢
          rcases hp with h | h | h | h | h
          · exact .inr (.inr (.inr (.inl h)))
          · exact .inl h
          · exact .inr (.inl h)
          · exact .inr (.inr (.inl h))
          · exact .inr (.inr (.inr (.inr h)))
        k_dflt (refine' storeX_C F24 N25 ?c (UpdF.head hcN) hR ?_; (case c => rfl))
        intro h9 oR2 F25 N26 hR2
        have K7 : LL w s₁.heap s₁.heap.objs.size P2 ps2 I oI9 _ oR2 _ dk2 us h9 := K6.row (News.sub N26 fun p hp => by
          simp only [List.cons_append, List.mem_cons] at hp ⊢
          rcases hp with h | h | h | h
          · exact .inr (.inr (.inl h))
          · exact .inr (.inr (.inr (.inl h)))
          · exact .inl h
          · exact .inr (.inr (.inr (.inr h))))
        have hrl : ((us.map kt).map kv).length = 2 * hf := by rw [List.length_map, hus', fc1.len' hlk]
        clear K6 N24 N25 F24 hcN ltR hR N23 F23
        dsimp only at N26 ⊢
        k_steps
        refine CallStop.go ?_
        (with_reducible rename Fr _ _ _ _ => F27)
        (with_reducible rename News _ _ _ _ => N27)
        obtain ⟨tt2, F28⟩ : ∃ tt2, Fr s₁.heap s₁.heap.objs.size _ (mW sc hf th D st.x dk2.x P2 (some (.int (topF (bitsOf nums (i + 1))) tt2)) (some (.int n tn)) (some (.bool b))) := ⟨_, Fr.cg F27 fun y => (by
          have e : 2 * topF (bitsOf nums i) + n.fmod 2 = topF (bitsOf nums (i + 1)) := by
            rw [hbs, topF_snoc, ← hbb']
            have h0 := Int.fmod_nonneg_of_pos n (b := 2) (by decide)
            have h1 := Int.fmod_lt_of_pos n (b := 2) (by decide)
            by_cases h2 : n.fmod 2 = 1
            · simp [odd, h2]
            · have h3 : n.fmod 2 = 0 := by omega
              simp [odd, h3]
          rw [← e]
          exact mW_top y)⟩
        have K8 := K7.same (News.sub N27 fun p hp => by
          simp only [List.cons_append, List.mem_cons] at hp ⊢
          rcases hp with h | h | h | h
          · exact .inr (.inr (.inl h))
          · exact .inr (.inr (.inr (.inl h)))
          · exact .inl h
          · exact .inr (.inr (.inr (.inr h))))
        clear F27 K7
        have hRL : ∀ {h : Heap} {own' : List (Addr × Obj)}, News s₁.heap s₁.heap.objs.size h own' → (R, LCg.lst ((us.map kt).map kv)) ∈ own' → h.IsList R ((us.map kt).map kv).toArray := fun N hm => ⟨_, (N _ hm).1, rfl, _, rfl⟩
        have hsz : ((((us.map kt).map kv).toArray.size : Nat) : Int) = 2 * (hf : Int) := by rw [List.size_toArray, hrl]; omega
        have hDL : ys[(0 : Int).toNat]? = some (kv (ks.getD 0 default)) := by
          rw [eys, List.getElem?_map]
          cases ks with
          | nil => simp at hlk; omega
          | cons a r => rfl
        have hx1 : topF (bitsOf nums (i + 1)) < 2 * (hf : Int) → ((us.map kt).map kv)[(topF (bitsOf nums (i + 1))).toNat]? = some (kv (ks.getD 0 default)) := fun ht => by
          rw [List.getElem?_map, hus', fc1.top' hlk ht]; rfl
        have htop0 := fc1.top0
        k_dflt (refine IfTok.on ?_ fun tk9 => ?_)
        case refine_1 =>
          k_steps
          refine CallStop.go ?_
          k_dflt (refine PySem.Calls.call_len_list (hRL N27 (by simp)) (by rw [List.size_toArray, hrl]; omega) ?_)
          rw [hsz]
          k_steps
          · (rename @Ne Int _ _ => hq)
            exact absurd rfl hq
          · refine CallStop.go ?_
            (with_reducible rename _ < _ => ht)
            k_dflt (refine kim_list (lo := LCg.lst ((us.map kt).map kv)) (l := (us.map kt).map kv) N27 (by simp) rfl rfl htop0 (by omega) (hx1 ht) ?_)
            k_steps
            refine CallStop.go ?_
            k_dflt (refine kim_list (lo := LCg.lst ys) (l := ys) N27 (by simp) rfl rfl (by decide) (by decide) hDL ?_)
            k_steps
            all_goals first | exact IfTok.end | skip
            · exfalso
              rename (_ != _) = true => hq
              simp at hq
          · exact IfTok.end
        k_steps
        refine CallStop.go ?_
        k_dflt (refine Mk.on ?_)
        k_steps
        refine CallStop.go ?_
        k_dflt (refine LCg.ListComp_U (F₀ := F28) (by with_unfolding_all rfl) (by decide) (by rfl) (by decide) (by rfl) ?_)
        k_steps
        refine CallStop.go ?_
        k_dflt (refine LCg.CompSrc.ledger (ax := P2) (its := ps2.toArray) (k := ps2.length) rfl F28 N27 (by simp) (by rw [List.size_toArray, hp2.length, fc1.plen, sizeLine_eq]; omega) fun g10 => ?_)
        refine cr_fold (fun j y => ∃ x, ks[j]? = some x ∧ y = kv x) (.inr ⟨_, by simp; exact .inr (.inr (.inl rfl)), rfl, _, rfl⟩) ?_ ?_
        · rintro j v I2 oI2 C2 oC2 D2 m₂ zs h tk0 E' hj hPv hC hx F N off ne
          obtain ⟨k, kt0, rfl, hk⟩ := IntsAre.at hp2 j v (by simpa using hPv)
          obtain ⟨x, ex1, ex2⟩ := fc1.back' hlk j k hk
          have hpin := fc1.pin k (List.mem_of_getElem? hk)
          clear F28 N27
          k_steps
          refine CallStop.go ?_
          (with_reducible rename News _ _ _ _ => N30)
          k_dflt (refine kim_list (lo := LCg.lst ((us.map kt).map kv)) (l := (us.map kt).map kv) (x := kv x) N30 (by simp) rfl rfl hpin.1 (by omega) (by rw [List.getElem?_map, hus', ex1]; rfl) ?_)
          exact ⟨_, _, rfl, by assumption, by assumption, x, ex2, rfl⟩
        · intro zs hl2 hz
          have ezs := zs_kv ks zs (by rw [hl2, List.size_toArray, hp2.length, fc1.plen, hlk]) hz
          unfold LCg.FinE
          intro D3 h11 tk11 F31 N31 o31
          dsimp only
          k_steps
          refine CallStop.go ?_
          have hso := strOk_ks eks
          k_dflt (refine ne_strs (ks := ks) (ls := ks) ⟨_, (N31 (D3, LCg.lst zs) (by simp)).1, rfl, _, by rw [ezs]⟩ ⟨_, (N31 (D, LCg.lst ys) (by simp)).1, rfl, _, by rw [eys]⟩ hso hso ?hu1 ?_)
          case hu1 => k_units
          rw [show (!decide (ks.map (·.1) = ks.map (·.1))) = false by simp]
          k_steps
          refine CallStop.go ?_
          (with_reducible rename Fr _ _ _ _ => F32)
          (with_reducible rename News _ _ _ _ => N32)
          have I1 : InstAt h11 dk2.x (instObj 121 dk2.dx) 121 (some (osDict w dk2.t1 dk2.t2 dk2.r dk2.mm)) := InstAt.of_news N32 (by simp [osL]) (by simp [osL])
          have I2 : InstAt h11 st.x (instObj 121 st.dx) 121 (some (osDict w st.t1 st.t2 st.r st.mm)) := InstAt.of_news N32 (by simp [osL]) (by simp [osL])
          k_dflt (refine cmp_ofEq (cmp_K (f := 118) ?hu2 F32 KX I1 I2.type ?hn2 ?hs2 ?hf2 ?_))
          case hu2 => k_units
          case hn2 => k_is
          case hs2 => k_is
          case hf2 => k_is
          k_dflt (refine' eq_c (L := s₁.heap.objs.size) (d := dk2) (st := st) (ns := us) (ss := ss) ?k1 F32 ?k2 ?k3 ?k4 ?k5 ?k6 N32 ?k7 ?k8 ok6 ok4 ?k9 ?k10 hB8 ?k11 ?k12 ?_; (case k1 => k_asm); (case k2 => k_asm); (case k3 => k_asm); (case k4 => exact rfl); (case k5 => k_room); (case k6 => k_units); (case k7 => exact fun p hp => by simp [hp]); (case k8 => exact fun p hp => by simp [hp]))
          case k9 => rintro rfl; simp at hrl; omega
          case k10 =>
            have h1 := congrArg List.length es
            simp at h1 hrl; omega
          case k11 =>
            rw [hus', deck_ks hlk, List.map_map]
            intro k hk
            obtain ⟨j, hj, rfl⟩ := List.mem_map.mp hk
            refine hso _ (List.mem_map_of_mem (f := fun x : Str × Nat => x.1) ?_)
            have := fc1.din j hj
            show ks.getD j default ∈ ks
            rw [List.getD_eq_getElem?_getD, List.getElem?_eq_getElem (by omega)]
            exact List.getElem_mem _
          case k12 => rw [es]; exact hso
          intro h12 tk12 G12 hB12 F34 N34
          rw [hus', es, show (decide ((deckF hf (bitsOf nums (i + 1)) ks).map (·.1) = ks.map (·.1))) = decide (posF hf (bitsOf nums (i + 1)) = (List.range (2 * hf)).map fun (i : Nat) => (i : Int)) from decide_eq_decide.mpr (fc1.eq' (·.1) hlk hnk)]
          show wpAny _ _ _ _ _ _
          k_steps
          refine CallStop.go ?_
          k_dflt (refine LCg.ListComp_U (F₀ := F34) (by with_unfolding_all rfl) (by decide) (by rfl) (by decide) (by rfl) ?_)
          k_steps
          refine CallStop.go ?_
          k_dflt (refine src_range (n := 2 * hf) (by omega) (by omega) rfl F34 N34 fun g13 tk13 => ?_)
          refine cr_fold (fun i y => ∃ t, y = Value.int (i : Int) t) trivial ?_ ?_
          · rintro j v I2 oI2 C2 oC2 D2 m₂ zs2 h tk0 E' hj ⟨tv, rfl⟩ hC hx F N off ne
            clear F34 N34
            k_steps
            rw [Int.zero_add]
            exact ⟨_, _, rfl, by assumption, by assumption, ⟨_, rfl⟩⟩
          · intro zs2 hl4 hz4
            have iz := ints_of (fun i => (i : Int)) _ zs2 hl4 hz4
            unfold LCg.FinE
            intro D4 h14 tk14 F35 N35 o35
            dsimp only
            k_steps
            refine CallStop.go ?_
            k_dflt (refine ke_eq_ints (xs := ps2) (ys := zs2) ⟨_, (N35 (P2, LCg.lst ps2) (by simp)).1, rfl, _, rfl⟩ ⟨_, (N35 (D4, LCg.lst zs2) (by simp)).1, rfl, _, rfl⟩ hp2 iz ?hu3 ?_)
            case hu3 => k_units
            generalize decide (posF hf (bitsOf nums (i + 1)) = (List.range (2 * hf)).map fun (i : Nat) => (i : Int)) = bb
            k_steps
            · exfalso
              rename (_ != _) = true => hq
              simp at hq
            · unfold Mk
              dsimp only
              k_steps
              (with_reducible rename Fr _ _ _ _ => F36)
              (with_reducible rename News _ _ _ _ => N36)
              refine ⟨_, _, G12, P2, ps2, dk2, us, oR2, oI9, tt2, some (.int n tn), some (.bool b), rfl, hB12, F36, K8.same (News.sub N36 fun p hp => ?_), ⟨hc9, hd9⟩, ⟨_, hR2⟩, hus', hp2⟩
              simp only [List.cons_append, List.mem_cons] at hp ⊢
              rcases hp with h | h | h | h
              · exact .inr (.inr (.inr (.inr (.inl h))))
              · exact .inr (.inr (.inr (.inr (.inr (.inl h)))))
              · exact .inr (.inr (.inl h))
              · exact .inr (.inr (.inr (.inr (.inr (.inr h)))))
      · rintro s' h₁ tk₁ ⟨h', tk, G, P, ps, dk, ds, oR, oI, tt, nv, lv, rfl, hB, F, K, hI, hR, hd, hp⟩ hk1
        have hII := K.inI
        obtain ⟨F33, N33⟩ := kept_since (h' := h₁) (news := []) hII.2.1 (fun p hp => by simp at hp) hII.2.2 F (fun p hp => by simp at hp) fun b ob hb e => hk1 b ob (by simpa using hb) e
        clear F K
        dsimp only
        k_steps
        dsimp only
        k_steps
        refine ⟨.inl ⟨_, .bool true, [], rfl, raisesW_false ?_, .bool _, ?_, fun _ => ⟨.nil, fun a ha => nomatch ha⟩⟩, .of_keep F33.keep, rfl, hB⟩
        · first | wrow_none_raised | rfl
        · first | wrow_post | kc_post)
end Mine
end

set_option maxRecDepth 100000 in
set_option maxHeartbeats 8000000 in
theorem PySem.Challenge.cw_fc0213_01_holds : PySem.Challenge.rw_fc0213_01.Holds := by
  exact Mine.law_holds
