import PyProof.Rows.All
import Wide.All
import OpenK.AllK
import Wide.FinOn
import PySem.Challenge.RW_om0012_01
open PySem PySem.W PyProof.Rows
set_option Elab.async false
set_option maxRecDepth 100000
set_option maxHeartbeats 8000000
set_option linter.unusedVariables false
namespace Mine
-- OmHead
open_top hd for PySem.Challenge.rw_om0012_01
-- OmBase
section
open PySem PySem.W PySem.Calls PyProof.Rows

def Keeps (S : List Addr) (h h' : Heap) : Prop := ∀ b o, b ∉ S → h.get? b = some o → h'.get? b = some o

theorem Keeps.refl (S : List Addr) (h : Heap) : Keeps S h h := fun _ _ _ e => e
theorem Keeps.trans {S : List Addr} {h h' h'' : Heap} (a : Keeps S h h') (b : Keeps S h' h'') : Keeps S h h'' := fun x o n e => b x o n (a x o n e)
theorem Keeps.mono {S S' : List Addr} {h h' : Heap} (a : Keeps S h h') (sub : ∀ b ∈ S, b ∈ S') : Keeps S' h h' := fun x o n e => a x o (fun q => n (sub x q)) e

theorem Keeps.fr {S : List Addr} {h₀ h h' : Heap} {L : Addr} {m : Str → Option Value} (k : Keeps S h h') (F : Fr h₀ L h m) (hL : L ∉ S) (h0 : ∀ b ∈ S, h₀.get? b = none) : Fr h₀ L h' m := by
  obtain ⟨⟨oL, es, ep, hg, hr⟩, keep, above⟩ := F
  refine ⟨⟨oL, es, ep, k _ _ hL hg, hr⟩, fun b o e => k b o (fun q => ?_) (keep b o e), above⟩
  rw [h0 b q] at e; cases e
theorem Keeps.news {S : List Addr} {h₀ h h' : Heap} {L : Addr} {news : List (Addr × Obj)} (k : Keeps S h h') (N : News h₀ L h news) (hn : ∀ p ∈ news, p.1 ∉ S) : News h₀ L h' news :=
  fun p hp => ⟨k _ _ (hn p hp) (N p hp).1, (N p hp).2⟩

section
variable {prog : Program} {w : World} {A₀ A : Around} {s : Shared} {base h₀ : Heap} {outer : List Env} {L : Addr} {m : Str → Option Value} {env : Env} {news : List (Addr × Obj)} {K : Frag}
  {R : Result → Shared → Prop} {name qual : Str} {params : Arguments} {body : List Stmt} {scope : Scope} {dV kV doc pm cdv ct oc : Value} {an od : Option Addr} {osl : Array (Option Value)} {f : Addr} {args : Args} {binds : List (Str × Value)}
  {p : Program} {loose : List Str} {mean : ExcName → Option Value} {mg mb : Str → Option Value}

/-- A def without cells is entered: the new base is the whole heap but the objects that the call may change. -/
theorem enter_def (B : Below A₀ base outer h₀) (F : Fr h₀ L s.heap m) (X₀ : K.In h₀) (N : News h₀ L s.heap news) (T : Top p loose mean mg mb h₀)
    (hA : A.frames = some (env :: outer)) (hf : env.frame = some L) (hke : env.scope.kind = .function)
    (ho : K.lookup f = some ⟨oc, od, .func (fnOf name qual params body scope dV kV doc pm an cdv ct), osl⟩) (hcd : codeIn K cdv qual = true) (hroom : A.depth < recursionLimit)
    (hbind : BindsTo s (fnOf name qual params body scope dV kV doc pm an cdv ct) args binds) (hloc : ∀ y ∈ binds, scope.names.lookup y.1 = some .local)
    (h : ∀ g L' h₁, Keeps (news.map (·.1)) s.heap g → Fr g L' h₁ (fun y => binds.reverse.lookup y) → News g L' h₁ news → Below A base (env :: outer) g → K.In g → Top p loose mean mg mb g → (∀ q ∈ news, q.1 < L') →
      wpAny (model prog w) (A.deeper (envOf qual scope L' f cdv)) (execs body (envOf qual scope L' f cdv))
        (fun fl s' => R (.ok (.ret (match fl with | .ret v => v | _ => .none))) s')
        (fun e s' => wpAny (model prog w) (A.deeper (envOf qual scope L' f cdv)) (leaving (envOf qual scope L' f cdv) e) (fun _ s'' => R (.error e) s'') (fun e' s'' => R (.error e') s'') s')
        { s with heap := h₁, toks := s.toks + binds.length })
    (hco : scope.isCoroutine = false) (hgen : scope.isGenerator = false) (hk : scope.kind = .function)
    (hcell : ∀ x ∈ scope.names, x.2 ≠ .cell) : codeAny (model prog w) A (.call (.ref f) args) R s := by
  obtain ⟨FG, BG, st, _⟩ := groundX (R := R) B F N hA hf hke
  refine codeAny_call_def (fd := fnOf name qual params body scope dV kV doc pm an cdv ct) (body := body) (binds := binds) hroom (X₀.keeps F.keep _ _ ho) rfl (T.nolimit.keeps F.keep) (codeRec_of (X₀.keeps F.keep) hcd) rfl hbind hcell hloc (fun h₁ hns hk₁ => ?_) hco hgen hk
  exact h _ s.heap.objs.size h₁ (fun b o nb e => hideAll_get _ e nb) ⟨hns, fun b o e => hk₁ b o (of_hideAll _ e), Nat.le_of_eq (hideAll_size _ _)⟩
    (fun p hp => ⟨hk₁ _ _ (N p hp).1, Nat.ne_of_lt (Heap.lt_size (N p hp).1), hideAll_none _ (List.mem_map_of_mem hp)⟩) BG (X₀.keeps st) (T.keeps st) (fun p hp => Heap.lt_size (N p hp).1)

/-- A def with cells is entered. -/
theorem enter_defC (B : Below A₀ base outer h₀) (F : Fr h₀ L s.heap m) (X₀ : K.In h₀) (N : News h₀ L s.heap news) (T : Top p loose mean mg mb h₀)
    (hA : A.frames = some (env :: outer)) (hf : env.frame = some L) (hke : env.scope.kind = .function)
    (ho : K.lookup f = some ⟨oc, od, .func (fnOf name qual params body scope dV kV doc pm an cdv ct), osl⟩) (hcd : codeIn K cdv qual = true) (hroom : A.depth < recursionLimit)
    (hbind : BindsTo s (fnOf name qual params body scope dV kV doc pm an cdv ct) args binds) (hkind : (binds.all fun y => scope.names.lookup y.1 == some .local || scope.names.lookup y.1 == some .cell) = true)
    (hnd : ((cellsFrom 0 scope.names []).map (·.1)).Nodup)
    (h : ∀ g L' h₁ tk cells, Keeps (news.map (·.1)) s.heap g → Fr g L' h₁ (bindL (envOfC qual scope L' f cdv).kindOf binds fun _ => none) → News g L' h₁ (cells ++ news) →
      CellsAre (bindC (envOfC qual scope L' f cdv).kindOf binds fun _ => none) (cellsFrom (L' + 1) scope.names []) cells → Below A base (env :: outer) g → K.In g → Top p loose mean mg mb g → (∀ q ∈ news, q.1 < L') →
      wpAny (model prog w) (A.deeper (envOfC qual scope L' f cdv)) (execs body (envOfC qual scope L' f cdv))
        (fun fl s' => R (.ok (.ret (match fl with | .ret v => v | _ => .none))) s')
        (fun e s' => wpAny (model prog w) (A.deeper (envOfC qual scope L' f cdv)) (leaving (envOfC qual scope L' f cdv) e) (fun _ s'' => R (.error e) s'') (fun e' s'' => R (.error e') s'') s')
        { s with heap := h₁, toks := tk })
    (hco : scope.isCoroutine = false) (hgen : scope.isGenerator = false) (hk : scope.kind = .function) : codeAny (model prog w) A (.call (.ref f) args) R s := by
  obtain ⟨FG, BG, st, _⟩ := groundX (R := R) B F N hA hf hke
  refine codeAny_call_function hroom (X₀.keeps F.keep _ _ ho) rfl hco hgen rfl (codeRec_of (X₀.keeps F.keep) hcd) (hbind _ _ _ _ ?_)
  refine wpAny_newFunctionEnv_cells hk (kindsX hkind _) fun env' he s' x => ?_
  subst he
  refine ⟨(T.nolimit.keeps F.keep).keeps x.toInCall.keep, codeAny_func ?_⟩
  obtain ⟨h₁, tk, rfl, _⟩ := x.done
  have hk₁ := x.toInCall.keep
  obtain ⟨cells, NC, Y⟩ := Cl.news (h₀ := s.heap) (Nat.le_refl _) fun n c hm => ⟨x.cell n c (lookup_of_mem_nodup (cellsFrom_names scope.names 0 (s.heap.objs.size + 1) [] [] rfl ▸ hnd) hm), x.above n c hm⟩
  refine h _ s.heap.objs.size h₁ tk cells (fun b o nb e => hideAll_get _ e nb) ⟨x.toInCall.ns, fun b o e => hk₁ b o (of_hideAll _ e), Nat.le_of_eq (hideAll_size _ _)⟩ (fun p hp => ?_) Y BG (X₀.keeps st) (T.keeps st) (fun p hp => Heap.lt_size (N p hp).1)
  rcases List.mem_append.mp hp with hp | hp
  · refine ⟨(NC p hp).1, (NC p hp).2.1, ?_⟩
    cases q : (hideAll s.heap (news.map (·.1))).get? p.1 with
    | none => rfl
    | some o => have := of_hideAll _ q; rw [(NC p hp).2.2] at this; cases this
  · exact ⟨hk₁ _ _ (N p hp).1, Nat.ne_of_lt (Heap.lt_size (N p hp).1), hideAll_none _ (List.mem_map_of_mem hp)⟩

/-- A def without cells is entered that may catch: the caller's frame is on the ledger too (a raise turns its slots). -/
theorem enter_try {oc : Value} (F : Fr h₀ L s.heap m) (X₀ : K.In h₀) (N : News h₀ L s.heap news) (T : Top p loose mean mg mb h₀)
    (ho : K.lookup f = some ⟨oc, od, .func (fnOf name qual params body scope dV kV doc pm an cdv ct), osl⟩) (hcd : codeIn K cdv qual = true) (hroom : A.depth < recursionLimit)
    (hbind : BindsTo s (fnOf name qual params body scope dV kV doc pm an cdv ct) args binds) (hloc : ∀ y ∈ binds, scope.names.lookup y.1 = some .local)
    (h : ∀ g L' h₁ oL, Keeps (L :: news.map (·.1)) s.heap g → TI.Caller h₀ L m oL → s.heap.get? L = some oL → Fr g L' h₁ (fun y => binds.reverse.lookup y) → News g L' h₁ (news ++ [(L, oL)]) → K.In g → Top p loose mean mg mb g → (∀ q ∈ news, q.1 < L') → h₀.StaysIn g →
      wpAny (model prog w) (A.deeper (envOf qual scope L' f cdv)) (execs body (envOf qual scope L' f cdv))
        (fun fl s' => R (.ok (.ret (match fl with | .ret v => v | _ => .none))) s')
        (fun e s' => wpAny (model prog w) (A.deeper (envOf qual scope L' f cdv)) (leaving (envOf qual scope L' f cdv) e) (fun _ s'' => R (.error e) s'') (fun e' s'' => R (.error e') s'') s')
        { s with heap := h₁, toks := s.toks + binds.length })
    (hco : scope.isCoroutine = false) (hgen : scope.isGenerator = false) (hk : scope.kind = .function)
    (hcell : ∀ x ∈ scope.names, x.2 ≠ .cell) : codeAny (model prog w) A (.call (.ref f) args) R s := by
  have nm : ∀ b o, h₀.get? b = some o → b ∉ L :: news.map (·.1) := fun b o e q => by
    rcases List.mem_cons.mp q with rfl | q
    · exact absurd (Nat.lt_of_lt_of_le (Heap.lt_size e) F.above) (Nat.lt_irrefl _)
    · obtain ⟨p, hp, rfl⟩ := List.mem_map.mp q
      rw [(N p hp).2.2] at e; cases e
  have st : h₀.StaysIn (hideAll s.heap (L :: news.map (·.1))) := fun b o e => hideAll_get _ (F.keep b o e) (nm b o e)
  obtain ⟨oL, es, ep, hL, hLd, hLr⟩ := F.ns
  refine codeAny_call_def (fd := fnOf name qual params body scope dV kV doc pm an cdv ct) (body := body) (binds := binds) hroom (X₀.keeps F.keep _ _ ho) rfl (T.nolimit.keeps F.keep) (codeRec_of (X₀.keeps F.keep) hcd) rfl hbind hcell hloc (fun h₁ hns hk₁ => ?_) hco hgen hk
  refine h _ s.heap.objs.size h₁ oL (fun b o nb e => hideAll_get _ e nb) ⟨fun hh sl e => ⟨_, es, ep, e, hLd, hLr⟩, ⟨es, ep, hLd⟩, F.above⟩ hL ⟨hns, fun b o e => hk₁ b o (of_hideAll _ e), Nat.le_of_eq (hideAll_size _ _)⟩ (fun p hp => ?_) (X₀.keeps st) (T.keeps st) (fun p hp => Heap.lt_size (N p hp).1) st
  rcases List.mem_append.mp hp with hp | hp
  · exact ⟨hk₁ _ _ (N p hp).1, Nat.ne_of_lt (Heap.lt_size (N p hp).1), hideAll_none _ (.tail _ (List.mem_map_of_mem hp))⟩
  · rw [List.mem_singleton.mp hp]
    exact ⟨hk₁ _ _ hL, Nat.ne_of_lt (Heap.lt_size hL), hideAll_none _ (.head _)⟩
end
end
-- OmPair
section
open PySem PySem.W PySem.Calls PyProof.Rows

def Pair (h : Heap) (a : Addr) (v : Int × Int) : Prop := ∃ o t u n, h.get? a = some o ∧ o.cls = .type "tuple" ∧ o.data = .seq #[.int v.1 t, .int v.2 u] n
def plt (x y : Int × Int) : Bool := decide (x.1 < y.1 ∨ (x.1 = y.1 ∧ x.2 < y.2))

theorem Pair.keep {h h' : Heap} {a : Addr} {v : Int × Int} (p : Pair h a v) (k : ∀ o, h.get? a = some o → h'.get? a = some o) : Pair h' a v := by
  obtain ⟨o, t, u, n, e, r⟩ := p
  exact ⟨o, t, u, n, k _ e, r⟩
theorem Pair.typeIs {s : Shared} {a : Addr} {v : Int × Int} (p : Pair s.heap a v) : s.TypeIs (.ref a) "tuple" := by
  obtain ⟨o, t, u, n, e, c, _⟩ := p
  exact ⟨o, e, c⟩

section
variable {prog : Program} {w : World} {A : Around} {E : Value → Shared → Prop} {s : Shared} {a b : Addr} {x y : Int × Int}
theorem pair_lt_tree {P : PySem.Fin → Shared → Prop} (hx : Pair s.heap a x) (hy : Pair s.heap b y) (h : P (.done (.ret (.bool (plt x y)))) s) :
    wpAny (model prog w) A (Builtin.«tuple.__lt__» ⟨[.ref a, .ref b], []⟩) P E s := by
  have hTb := hy.typeIs
  obtain ⟨oa, ta, ua, na, hoa, _, hda⟩ := hx
  obtain ⟨ob, tb, ub, nb, hob, _, hdb⟩ := hy
  show wpAny _ _ (isInstance (.ref b) (.type "tuple") >>= _) _ _ s
  refine wpAny_bind (wpAny_isInstance hTb isSubtype_tuple_tuple ?_)
  simp only [Bool.not_true, Bool.false_eq_true, if_false]
  refine wpAny_bind (wpAny_tupleItemsOf hoa hda ?_)
  refine wpAny_bind (wpAny_tupleItemsOf hob hdb ?_)
  refine wpAny_bind ?_
  show wpAny _ _ (forIn [((Value.int x.1 ta), (Value.int y.1 tb)), ((Value.int x.2 ua), (Value.int y.2 ub))] _ _) _ _ s
  rw [List.forIn_cons]
  refine wpAny_bind (wpAny_bind (wpAny_eqBool_int ?_))
  by_cases h1 : x.1 = y.1
  · have e1 : (x.1 == y.1) = true := by simp [h1]
    rw [e1]
    simp only [Bool.not_true, Bool.false_eq_true, if_false]
    refine wpAny_pure ?_
    dsimp only
    rw [List.forIn_cons]
    refine wpAny_bind (wpAny_bind (wpAny_eqBool_int ?_))
    by_cases h2 : x.2 = y.2
    · have e2 : (x.2 == y.2) = true := by simp [h2]
      rw [e2]
      simp only [Bool.not_true, Bool.false_eq_true, if_false]
      refine wpAny_pure ?_
      dsimp only
      rw [List.forIn_nil]
      refine wpAny_pure ?_
      refine wpAny_pure ?_
      have : plt x y = false := by simp [plt, h1, h2]
      rw [this] at h
      exact h
    · have e2 : (x.2 == y.2) = false := by simp [h2]
      rw [e2]
      simp only [Bool.not_false, if_true]
      refine wpAny_bind (wpAny_rule ?_)
      refine wpAny_bind (show wpAny _ _ (compareOp .Lt _ _) _ _ _ from lt_int ?_)
      refine wpAny_bind (wpAny_pure (wpAny_pure ?_))
      dsimp only
      refine wpAny_pure (wpAny_pure ?_)
      have : plt x y = decide (x.2 < y.2) := by simp [plt, h1]
      rw [this] at h
      exact h
  · have e1 : (x.1 == y.1) = false := by simp [h1]
    rw [e1]
    simp only [Bool.not_false, if_true]
    refine wpAny_bind (wpAny_rule ?_)
    refine wpAny_bind (show wpAny _ _ (compareOp .Lt _ _) _ _ _ from lt_int ?_)
    refine wpAny_bind (wpAny_pure (wpAny_pure ?_))
    dsimp only
    refine wpAny_pure (wpAny_pure ?_)
    have : plt x y = decide (x.1 < y.1) := by simp [plt, h1]
    rw [this] at h
    exact h

theorem pair_lt {Q : Value → Shared → Prop} (hu : A.units < cLine) (hx : Pair s.heap a x) (hy : Pair s.heap b y) (h : Q (.bool (plt x y)) s) :
    wpAny (model prog w) A (compareOp .Lt (.ref a) (.ref b)) Q E s := by
  show wpAny _ _ (richCompare .Lt (.ref a) (.ref b)) Q E s
  exact wpAny_richCompare_same_room (op := .Lt) hx.typeIs hy.typeIs F.slot_tuple_lt
    (wpAny_call_entry F.slot_tuple_lt hx.typeIs F.entry_tuple_lt (pair_lt_tree hx hy ⟨_, rfl, (fun e => nomatch e), h⟩) (F.args_tuple_lt_2 _ _)) hu
end
end
section
local macro_rules | `(tactic| walk_at "om_steps") => `(tactic| repeat' ((fail_if_success (with_reducible show wpAny _ _ (exec (Stmt.While _ _ _ _) _) _ _ _)); (first | (k_unfold; (try dsimp only)) | (k_end; kc_close) | walk1 | (dsimp only; walk1) | (leave1; walk_say "STEP leave1"; (try dsimp only)) | fail "no step")))
local macro_rules | `(tactic| walk_at "om_enter") => `(tactic| ((case kA => exact rfl); (case kF => exact rfl); (case kK => assumption); (case k1 => k_asm); (case k2 => k_asm); (case k3 => k_asm); (case k4 => k_asm); (case k5 => k_asm); (case k6 => k_is); (case k7 => k_is); (case k8 => ktr_room); (case k9 => exact BindsTo.of_eq rfl); (case c5 => decide); (case kB => exact locs rfl); (case c2 => exact rfl); (case c3 => exact rfl); (case c4 => exact rfl); k_whole))
local macro_rules | `(tactic| walk_at "om_same") => `(tactic| (intro z h2 h3; (try simp only [List.forall_mem_cons, List.not_mem_nil, false_implies, implies_true, and_true, ne_eq] at h2); (try simp only [List.contains_cons, List.contains_nil, Bool.or_false, Bool.or_eq_false_iff, beq_eq_false_iff_ne, ne_eq] at h3); simp [kstB, h2, h3]))
local macro_rules | `(tactic| walk_at "LpPost") => `(tactic| (dsimp only [LpPost]))
open PySem PySem.W PySem.Calls PyProof.Rows
def sd (lt : Nat → Nat → Bool) (sp x : Nat) (p : Nat) (bs : List Nat) : List Nat :=
  if h : sp < p then
    if lt x (bs.getD ((p - 1) / 2) 0) then sd lt sp x ((p - 1) / 2) (bs.set p (bs.getD ((p - 1) / 2) 0)) else bs.set p x
  else bs.set p x
termination_by p
decreasing_by omega

abbrev refs (bs : List Addr) : Array Value := (bs.map Value.ref).toArray

section
variable {prog : Program} {w : World} {A : Around} {E : Value → Shared → Prop} {s : Shared} {h₀ : Heap} {L : Addr} {news : List (Addr × Obj)}
theorem sub_refs {value slice : PySem.Expr} {l : Addr} {bs : List Addr} {n : Nat} {k : Int} {u : Tok} {Q : Value → Shared → Prop}
    (N : News h₀ L s.heap news) (hm : (l, listOf (refs bs) n) ∈ news) (h0 : 0 ≤ k) (hk : k.toNat < bs.length) (hhi : k < 2 ^ 63) (h : Q (.ref (bs.getD k.toNat 0)) s)
    (hs : subscripted slice false (.ref l) (.int k u) = operate [.ref l, .int k u] (getItem (.ref l) (.int k u)) := by with_unfolding_all rfl) :
    wpAny (model prog w) A (subscriptTail value slice (.ref l) (.int k u)) Q E s := by
  have hL : s.heap.IsList l (refs bs) := ⟨_, (N _ hm).1, rfl, n, rfl⟩
  refine tail_any hL.typeIs slot_list_getitem.lookup (wpAny_getItem_list hL h0 hhi ?_ h) hs
  simp [hk]
theorem set_refs {m : Str → Option Value} {l b : Addr} {bs : List Addr} {n : Nat} {k : Int} {u : Tok} {Q : Unit → Shared → Prop} (F : Fr h₀ L s.heap m)
    (N : News h₀ L s.heap [(l, listOf (refs bs) n)]) (h0 : 0 ≤ k) (hk : k.toNat < bs.length) (hhi : k < 2 ^ 63)
    (h : ∀ h', Fr h₀ L h' m → News h₀ L h' [(l, listOf (refs (bs.set k.toNat b)) n)] → Q () { s with heap := h' }) :
    wpAny (model prog w) A (setItem (.ref l) (.int k u) (.ref b)) Q E s := by
  have z := N _ (List.Mem.head _)
  refine ki_setAt z.1 h0 hhi (by simp; omega) (h _ (F.change (Heap.SameBut.update ..) z.2.1 z.2.2) ?_)
  refine ki_turn (pre := []) (post := []) _ N (by simp) (by simp) ?_ (by simp)
  apply Array.toList_inj.mp
  simp [List.map_set]
theorem getD_mem {l : List Addr} {i : Nat} (h : i < l.length) : l.getD i 0 ∈ l := by
  simp [h]
theorem fdiv_half (p : Nat) (h : 0 < p) : ((p : Int) - 1).fdiv (2 ^ Int.toNat 1) = (((p - 1) / 2 : Nat) : Int) := by
  show ((p : Int) - 1).fdiv 2 = _
  rw [Int.fdiv_eq_ediv_of_nonneg _ (by omega)]
  omega
end

theorem siftdown_c {w : World} {p : Program} {loose : List Str} {mean : ExcName → Option Value} {mg mb : Str → Option Value}
    (dp un : Nat) (gd : Option (List Code)) (cn : Str) (cs : Scope) (a0 : Addr) (ccd : Value) (cl : List (Str × Addr)) (outer : List Env) (A₀ : Around) (base h₀ : Heap) (L : Addr) (m : Str → Option Value) (s : Shared)
    (Q E : Value → Shared → Prop) (a : Addr) (bs : List Addr) (n : Nat) (sp po : Nat) (t1 t2 : Tok) (val : Addr → Int × Int)
    (B : Below A₀ base outer h₀) (F : Fr h₀ L s.heap m) (X : (hd.heap_39 w.params).In h₀) (N : News h₀ L s.heap [(a, listOf (refs bs) n)]) (T : Top p loose mean mg mb h₀) (hk : cs.kind = .function) (hd : dp < 400) (hu : un < 1000)
    (hv : ∀ b ∈ bs, Pair s.heap b (val b)) (hpo : po < bs.length) (hlen : bs.length < 64)
    (ret : ∀ h' tk', Keeps [a] s.heap h' → h'.get? a = some (listOf (refs (sd (fun x y => plt (val x) (val y)) sp (bs.getD po 0) po bs)) n) → Q .none { s with heap := h', toks := tk' }) :
    wpAny (model PySem.Challenge.rw_om0012_01.row.prog w) (ktrTop dp un gd cn cs L a0 ccd cl outer) (call (.ref 84) [.ref a, .int sp t1, .int po t2]) Q E s := by
  revert X; k_fill; intro X
  refine wpAny_call ?_
  k_dflt (refine' enter_def (binds := [(Str.ofString "heap", .ref a), (Str.ofString "startpos", .int sp t1), (Str.ofString "pos", .int po t2)]) ?k1 ?k2 ?k3 ?k4 ?k5 ?kA ?kF ?kK ?k6 ?k7 ?k8 ?k9 ?kB ?_ ?c2 ?c3 ?c4 ?c5; walk_at "om_enter")
  intro g L' h' KG F' N' B' X' T' l'
  have hna : ∀ b ∈ bs, b ≠ a := fun b hb e => by
    obtain ⟨o, _, _, _, ho, hc, _⟩ := hv b hb
    rw [e, (N _ (List.Mem.head _)).1] at ho
    have q := (Option.some.inj ho) ▸ hc
    exact absurd q (by simp)
  have hv' : ∀ b ∈ bs, Pair g b (val b) := fun b hb => (hv b hb).keep fun o e => KG b o (fun q => hna b hb (List.mem_singleton.mp q)) e
  clear N F B X T
  (try dsimp only); (try k_fold)
  walk_at "om_steps"
  refine sub_refs N' (List.Mem.head _) (by omega) (by omega) (by omega) ?_
  walk_at "om_steps"
  rename Fr _ _ _ _ => F1
  rename News _ _ _ _ => N1
  refine ksw_while (σ := List Addr × Nat × Tok) (fun c => [(a, listOf (refs c.1) n)]) (fun c => [(Str.ofString "pos", .int c.2.1 c.2.2)]) (fun _ => True) [Str.ofString "parentpos", Str.ofString "parent"]
    (fun c => sd (fun x y => plt (val x) (val y)) sp (bs.getD po 0) c.2.1 c.1 = sd (fun x y => plt (val x) (val y)) sp (bs.getD po 0) po bs ∧ c.1.length = bs.length ∧ c.2.1 < bs.length ∧ ∀ b ∈ c.1, b ∈ bs)
    (fun c => c.2.1) (bs, po, t2) F1 N1 trivial (by kst_all) ⟨rfl, rfl, hpo, fun _ h => h⟩ ?_
  rintro ⟨bs', p', t'⟩ u h1 tk1 _ ⟨hsd, hl', hp', hsub⟩ F2 N2
  dsimp only at hsd hl' hp' hsub F2 N2 ⊢
  clear F1 N1
  (try k_fold)
  walk_at "om_steps"
  · dsimp only
    have hlt : sp < p' := by omega
    rename Fr _ _ _ _ => F3
    rename News _ _ _ _ => N3
    rw [fdiv_half p' (by omega)] at F3 ⊢
    refine sub_refs N3 (List.Mem.head _) (by omega) (by omega) (by omega) ?_
    walk_at "om_steps"
    rename Fr _ _ _ _ => F4
    rename News _ _ _ _ => N4
    have hq : (p' - 1) / 2 < bs'.length := by omega
    have hmem : bs'.getD ((p' - 1) / 2) 0 ∈ bs := hsub _ (getD_mem hq)
    have hmem2 : bs.getD po 0 ∈ bs := getD_mem hpo
    refine pair_lt (by ktr_units) ((hv' _ hmem2).keep (F4.keep _)) ((hv' _ hmem).keep (F4.keep _)) ?_
    walk_at "om_steps"
    · dsimp only
      refine set_refs F4 N4 (by omega) (by omega) (by omega) ?_
      clear F4 N4
      intro h5 F5 N5
      (try k_fold)
      walk_at "om_steps"
      rename Fr _ _ _ _ => F6
      rename News _ _ _ _ => N6
      simp only [Int.toNat_natCast] at N6
      refine ksw_end (bs'.set p' (bs'.getD ((p' - 1) / 2) 0), (p' - 1) / 2, _) F6 N6 (by kst_in) trivial (by kst_all) (by walk_at "om_same") ⟨?_, ?_, ?_, ?_⟩ ?_
      · rw [← hsd]
        conv => rhs; rw [sd]
        rw [dif_pos hlt, if_pos (by assumption)]
      · rw [List.length_set]; exact hl'
      · dsimp only; omega
      · intro b hb
        rcases List.mem_or_eq_of_mem_set hb with h | h
        · exact hsub b h
        · rw [h]; exact hmem
      · dsimp only; omega
    · dsimp only
      refine set_refs F4 N4 (by omega) (by omega) (by omega) ?_
      clear F4 N4
      intro h5 F5 N5
      (try k_fold)
      walk_at "om_steps"
      refine ret _ _ ((KG.trans fun b o _ e => F5.keep b o e)) ?_
      rw [← hsd, sd, dif_pos hlt, if_neg (by simp_all)]
      exact (N5 _ (List.Mem.head _)).1
  · dsimp only
    refine set_refs F2 N2 (by omega) (by omega) (by omega) ?_
    clear F2 N2
    intro h5 F5 N5
    (try k_fold)
    walk_at "om_steps"
    refine ret _ _ ((KG.trans fun b o _ e => F5.keep b o e)) ?_
    rw [← hsd, sd, dif_neg (by omega)]
    exact (N5 _ (List.Mem.head _)).1
end
local macro_rules | `(tactic| walk_at "om_enter") => `(tactic| ((case kA => exact rfl); (case kF => exact rfl); (case kK => assumption); (case k1 => k_asm); (case k2 => k_asm); (case k3 => k_asm); (case k4 => k_asm); (case k5 => k_asm); (case k6 => k_is); (case k7 => k_is); (case k8 => ktr_room); (case k9 => exact BindsTo.of_eq rfl); (case c5 => decide); (case kB => exact locs rfl); (case c2 => exact rfl); (case c3 => exact rfl); (case c4 => exact rfl); k_whole))
local macro_rules | `(tactic| walk_at "om_same") => `(tactic| (intro z h2 h3; (try simp only [List.forall_mem_cons, List.not_mem_nil, false_implies, implies_true, and_true, ne_eq] at h2); (try simp only [List.contains_cons, List.contains_nil, Bool.or_false, Bool.or_eq_false_iff, beq_eq_false_iff_ne, ne_eq] at h3); simp [kstB, h2, h3]))
local macro_rules | `(tactic| walk_at "om_steps") => `(tactic| repeat' ((fail_if_success (walk_at "om_stop")); (first | (k_unfold; (try dsimp only)) | (k_end; kc_close) | walk1 | (dsimp only; walk1) | (leave1; walk_say "STEP leave1"; (try dsimp only)) | fail "no step")))
local macro_rules | `(tactic| walk_at "LpPost") => `(tactic| (dsimp only [LpPost]))
local macro_rules | `(tactic| walk_at "om_enterC") => `(tactic| ((case kA => exact rfl); (case kF => exact rfl); (case kK => assumption); (case k1 => k_asm); (case k2 => k_asm); (case k3 => k_asm); (case k4 => k_asm); (case k5 => k_asm); (case k6 => k_is); (case k7 => k_is); (case k8 => ktr_room); (case k9 => first | exact BindsTo.of_eq rfl | exact binds_K (by k_in) rfl (by k_is) rfl rfl rfl); (case kB => exact rfl); (case kD => decide +kernel); (case c2 => exact rfl); (case c3 => exact rfl); (case c4 => exact rfl); k_whole))
local macro_rules | `(tactic| walk_at "om_stepsA") => `(tactic| repeat' ((fail_if_success (walk_at "om_stop")); (fail_if_success (with_reducible show And _ _)); (first | (k_unfold; (try dsimp only)) | (k_end; kc_close) | walk1 | (dsimp only; walk1) | (leave1; walk_say "STEP leave1"; (try dsimp only)) | fail "no step")))
local macro_rules | `(tactic| walk_at "om_stepsI") => `(tactic| repeat' ((fail_if_success (walk_at "om_stop")); (fail_if_success (with_reducible show (@ite Prop _ _ _ _))); (first | (k_unfold; (try dsimp only)) | (k_end; kc_close) | walk1 | (dsimp only; walk1) | (leave1; walk_say "STEP leave1"; (try dsimp only)) | fail "no step")))
local macro_rules | `(tactic| walk_at "om_stepsT") => `(tactic| repeat' ((fail_if_success (walk_at "om_stop")); (fail_if_success (with_reducible show wpAny _ _ (newTuple _) _ _ _)); (first | (k_unfold; (try dsimp only)) | (k_end; kc_close) | walk1 | (dsimp only; walk1) | (leave1; walk_say "STEP leave1"; (try dsimp only)) | fail "no step")))
local macro_rules | `(tactic| walk_at "om_stepsX") => `(tactic| repeat' ((fail_if_success (walk_at "om_stop")); (fail_if_success (with_reducible show wpAny _ _ (execs _ _) _ _ _)); (first | (k_unfold; (try dsimp only)) | (k_end; kc_close) | walk1 | (dsimp only; walk1) | (leave1; walk_say "STEP leave1"; (try dsimp only)) | fail "no step")))
local macro_rules | `(tactic| walk_at "om_stepsR") => `(tactic| repeat' ((fail_if_success (walk_at "om_stop")); (fail_if_success (with_reducible show wpAny _ _ (exec (Stmt.Raise _ _ _) _) _ _ _)); (first | (k_unfold; (try dsimp only)) | (k_end; kc_close) | walk1 | (dsimp only; walk1) | (leave1; walk_say "STEP leave1"; (try dsimp only)) | fail "no step")))
local macro_rules | `(tactic| walk_at "om_stepsS") => `(tactic| repeat' ((fail_if_success (walk_at "om_stop")); (fail_if_success (with_reducible show wpAny _ _ (exec (Stmt.Assign _ (PySem.Expr.ListComp _ _ _ _) _) _) _ _ _)); (first | (k_unfold; (try dsimp only)) | (k_end; kc_close) | walk1 | (dsimp only; walk1) | (leave1; walk_say "STEP leave1"; (try dsimp only)) | fail "no step")))
section
local macro_rules | `(tactic| walk_at "om_stop") => `(tactic| with_reducible first | show wpAny _ _ (exec (Stmt.While _ _ _ _) _) _ _ _ | show wpAny _ _ (PySem.call (Value.ref _) _ _) _ _ _ | show wpAny _ _ (subscriptTail _ _ (Value.ref _) _) _ _ _ | show wpAny _ _ (setItem (Value.ref _) _ _) _ _ _ | show wpAny _ _ (compareOp _ (Value.ref _) (Value.ref _)) _ _ _ | show wpAny _ _ (PySem.call (Value.builtin "len") _ _) _ _ _ | show wpAny _ _ (pyIter (Value.ref _)) _ _ _ | show KswEnd _ _ _ _ _ _ _ _ _ _ _ _)
-- OmSu
section
open PySem PySem.W PySem.Calls PyProof.Rows
def suLoop (lt : Nat → Nat → Bool) (n p : Nat) (bs : List Nat) : List Nat × Nat :=
  if h : 2 * p + 1 < n then
    if 2 * p + 2 < n ∧ lt (bs.getD (2 * p + 1) 0) (bs.getD (2 * p + 2) 0) = false then suLoop lt n (2 * p + 2) (bs.set p (bs.getD (2 * p + 2) 0))
    else suLoop lt n (2 * p + 1) (bs.set p (bs.getD (2 * p + 1) 0))
  else (bs, p)
termination_by n - p
decreasing_by all_goals omega

def su (lt : Nat → Nat → Bool) (p : Nat) (bs : List Nat) : List Nat :=
  sd lt p (bs.getD p 0) (suLoop lt bs.length p bs).2 ((suLoop lt bs.length p bs).1.set (suLoop lt bs.length p bs).2 (bs.getD p 0))

section
variable {prog : Program} {w : World} {A : Around} {E : Value → Shared → Prop} {s : Shared} {h₀ : Heap} {L : Addr} {news : List (Addr × Obj)}
theorem len_refs {l : Addr} {bs : List Addr} {n : Nat} {Q : Value → Shared → Prop} (N : News h₀ L s.heap news) (hm : (l, listOf (refs bs) n) ∈ news) (hfit : bs.length < 2 ^ 40)
    (h : Q (.int bs.length (s.toks + 1)) { s with toks := s.toks + 1 + 1 }) : wpAny (model prog w) A (call (.builtin "len") [.ref l]) Q E s := by
  have hL : s.heap.IsList l (refs bs) := ⟨_, (N _ hm).1, rfl, n, rfl⟩
  refine len_list hL (by simp; omega) ?_
  simpa using h
end

theorem siftup_c {w : World} {p : Program} {loose : List Str} {mean : ExcName → Option Value} {mg mb : Str → Option Value}
    (dp un : Nat) (gd : Option (List Code)) (cn : Str) (cs : Scope) (a0 : Addr) (ccd : Value) (cl : List (Str × Addr)) (outer : List Env) (A₀ : Around) (base h₀ : Heap) (L : Addr) (m : Str → Option Value) (s : Shared)
    (Q E : Value → Shared → Prop) (a : Addr) (bs : List Addr) (n : Nat) (po : Nat) (t2 : Tok) (val : Addr → Int × Int)
    (B : Below A₀ base outer h₀) (F : Fr h₀ L s.heap m) (X : (hd.heap_39 w.params).In h₀) (N : News h₀ L s.heap [(a, listOf (refs bs) n)]) (T : Top p loose mean mg mb h₀) (hk : cs.kind = .function) (hd : dp < 399) (hu : un < 900)
    (hv : ∀ b ∈ bs, Pair s.heap b (val b)) (hpo : po < bs.length) (hlen : bs.length < 64)
    (ret : ∀ h' tk', Keeps [a] s.heap h' → h'.get? a = some (listOf (refs (su (fun x y => plt (val x) (val y)) po bs)) n) → Q .none { s with heap := h', toks := tk' }) :
    wpAny (model PySem.Challenge.rw_om0012_01.row.prog w) (ktrTop dp un gd cn cs L a0 ccd cl outer) (call (.ref 91) [.ref a, .int po t2]) Q E s := by
  revert X; k_fill; intro X
  refine wpAny_call ?_
  k_dflt (refine' enter_def (binds := [(Str.ofString "heap", .ref a), (Str.ofString "pos", .int po t2)]) ?k1 ?k2 ?k3 ?k4 ?k5 ?kA ?kF ?kK ?k6 ?k7 ?k8 ?k9 ?kB ?_ ?c2 ?c3 ?c4 ?c5; walk_at "om_enter")
  intro g L' h' KG F' N' B' X' T' l'
  have hna : ∀ b ∈ bs, b ≠ a := fun b hb e => by
    obtain ⟨o, _, _, _, ho, hc, _⟩ := hv b hb
    rw [e, (N _ (List.Mem.head _)).1] at ho
    have q := (Option.some.inj ho) ▸ hc
    exact absurd q (by simp)
  have hv' : ∀ b ∈ bs, Pair g b (val b) := fun b hb => (hv b hb).keep fun o e => KG b o (fun q => hna b hb (List.mem_singleton.mp q)) e
  clear N F B X T
  (try dsimp only); (try k_fold)
  walk_at "om_steps"
  refine len_refs N' (List.Mem.head _) (by omega) ?_
  (try k_fold)
  walk_at "om_steps"
  rename Fr _ _ _ _ => F1
  rename News _ _ _ _ => N1
  refine sub_refs N1 (List.Mem.head _) (by omega) (by omega) (by omega) ?_
  walk_at "om_steps"
  rename Fr _ _ _ _ => F1
  rename News _ _ _ _ => N1
  refine ksw_while (σ := List Addr × Nat × Tok × Tok) (fun c => [(a, listOf (refs c.1) n)]) (fun c => [(Str.ofString "pos", .int c.2.1 c.2.2.1), (Str.ofString "childpos", .int (2 * c.2.1 + 1 : Int) c.2.2.2)]) (fun _ => True) [Str.ofString "rightpos"]
    (fun c => suLoop (fun x y => plt (val x) (val y)) bs.length c.2.1 c.1 = suLoop (fun x y => plt (val x) (val y)) bs.length po bs ∧ c.1.length = bs.length ∧ c.2.1 < bs.length ∧ ∀ b ∈ c.1, b ∈ bs)
    (fun c => bs.length - c.2.1) (bs, po, t2, _) F1 N1 trivial (by kst_all) ⟨rfl, rfl, hpo, fun _ h => h⟩ ?_
  rintro ⟨bs', p', t', t''⟩ u h1 tk1 _ ⟨hsd, hl', hp', hsub⟩ F2 N2
  dsimp only at hsd hl' hp' hsub F2 N2 ⊢
  clear F1 N1
  (try k_fold)
  have e1 : (2 * (p' : Int) + 1) = ((2 * p' + 1 : Nat) : Int) := by omega
  have e2 : (2 * (p' : Int) + 1 + 1) = ((2 * p' + 2 : Nat) : Int) := by omega
  have hend : ∀ c, c < bs.length → p' < c → suLoop (fun x y => plt (val x) (val y)) bs.length c (bs'.set p' (bs'.getD c 0)) = suLoop (fun x y => plt (val x) (val y)) bs.length po bs →
      suLoop (fun x y => plt (val x) (val y)) bs.length c (bs'.set p' (bs'.getD c 0)) = suLoop (fun x y => plt (val x) (val y)) bs.length po bs ∧ (bs'.set p' (bs'.getD c 0)).length = bs.length ∧ c < bs.length ∧ ∀ b ∈ bs'.set p' (bs'.getD c 0), b ∈ bs := fun c hc _ h => by
    refine ⟨h, by rw [List.length_set]; exact hl', hc, fun b hb => ?_⟩
    rcases List.mem_or_eq_of_mem_set hb with h | h
    · exact hsub b h
    · rw [h]; exact hsub _ (getD_mem (by omega))
  walk_at "om_steps"
  · dsimp only
    rename Fr _ _ _ _ => F3
    rename News _ _ _ _ => N3
    rw [e1]
    refine sub_refs N3 (List.Mem.head _) (by omega) (by omega) (by omega) ?_
    simp only [Int.toNat_natCast]
    walk_at "om_steps"
    rw [e2]
    refine sub_refs N3 (List.Mem.head _) (by omega) (by omega) (by omega) ?_
    simp only [Int.toNat_natCast]
    walk_at "om_steps"
    refine pair_lt (by ktr_units) ((hv' _ (hsub _ (getD_mem (by omega)))).keep (F3.keep _)) ((hv' _ (hsub _ (getD_mem (by omega)))).keep (F3.keep _)) ?_
    walk_at "om_steps"
    · dsimp only
      rename Fr _ _ _ _ => F5
      rename News _ _ _ _ => N5
      (try dsimp only)
      rw [e1] at F5 ⊢
      refine sub_refs N5 (List.Mem.head _) (by omega) (by omega) (by omega) ?_
      simp only [Int.toNat_natCast]
      walk_at "om_steps"
      (try dsimp only)
      refine set_refs F5 N5 (by omega) (by omega) (by omega) ?_
      clear F5 N5
      intro h6 F6 N6
      (try k_fold)
      walk_at "om_steps"
      rename Fr _ _ _ _ => F7
      rename News _ _ _ _ => N7
      simp only [Int.toNat_natCast] at N7
      refine ksw_end (bs'.set p' (bs'.getD (2 * p' + 1) 0), 2 * p' + 1, _, _) F7 N7 (by kst_in) trivial (by kst_all) (by walk_at "om_same") (hend (2 * p' + 1) (by omega) (by omega) ?_) (by dsimp only; omega)
      rw [← hsd]
      conv => rhs; rw [suLoop]
      rw [dif_pos (by omega), if_neg (by simp_all)]
    · dsimp only
      rename Fr _ _ _ _ => F5
      rename News _ _ _ _ => N5
      (try dsimp only)
      rw [e2] at F5 ⊢
      refine sub_refs N5 (List.Mem.head _) (by omega) (by omega) (by omega) ?_
      simp only [Int.toNat_natCast]
      walk_at "om_steps"
      (try dsimp only)
      refine set_refs F5 N5 (by omega) (by omega) (by omega) ?_
      clear F5 N5
      intro h6 F6 N6
      (try k_fold)
      walk_at "om_steps"
      rename Fr _ _ _ _ => F7
      rename News _ _ _ _ => N7
      simp only [Int.toNat_natCast] at N7
      refine ksw_end (bs'.set p' (bs'.getD (2 * p' + 2) 0), 2 * p' + 2, _, _) F7 N7 (by kst_in) trivial (by kst_all) (by walk_at "om_same") (hend (2 * p' + 2) (by omega) (by omega) ?_) (by dsimp only; omega)
      rw [← hsd]
      conv => rhs; rw [suLoop]
      rw [dif_pos (by omega), if_pos ⟨by omega, by assumption⟩]
  · dsimp only
    rename Fr _ _ _ _ => F5
    rename News _ _ _ _ => N5
    (try dsimp only)
    rw [e1] at F5 ⊢
    refine sub_refs N5 (List.Mem.head _) (by omega) (by omega) (by omega) ?_
    simp only [Int.toNat_natCast]
    walk_at "om_steps"
    (try dsimp only)
    refine set_refs F5 N5 (by omega) (by omega) (by omega) ?_
    clear F5 N5
    intro h6 F6 N6
    (try k_fold)
    walk_at "om_steps"
    rename Fr _ _ _ _ => F7
    rename News _ _ _ _ => N7
    simp only [Int.toNat_natCast] at N7
    refine ksw_end (bs'.set p' (bs'.getD (2 * p' + 1) 0), 2 * p' + 1, _, _) F7 N7 (by kst_in) trivial (by kst_all) (by walk_at "om_same") (hend (2 * p' + 1) (by omega) (by omega) ?_) (by dsimp only; omega)
    rw [← hsd]
    conv => rhs; rw [suLoop]
    rw [dif_pos (by omega), if_neg (fun q => by omega)]
  · dsimp only
    refine set_refs F2 N2 (by omega) (by omega) (by omega) ?_
    clear F2 N2
    intro h5 F5 N5
    (try k_fold)
    walk_at "om_steps"
    have hdone : suLoop (fun x y => plt (val x) (val y)) bs.length po bs = (bs', p') := by
      rw [← hsd, suLoop, dif_neg (by omega)]
    simp only [Int.toNat_natCast] at N5
    have hv5 : ∀ b ∈ bs'.set p' (bs.getD po 0), Pair h5 b (val b) := fun b hb => by
      have hb' : b ∈ bs := by
        rcases List.mem_or_eq_of_mem_set hb with h | h
        · exact hsub b h
        · rw [h]; exact getD_mem hpo
      exact (hv' b hb').keep (F5.keep _)
    k_dflt (refine' siftdown_c _ _ _ _ _ _ _ _ _ _ _ _ _ _ _ _ _ a (bs'.set p' (bs.getD po 0)) n po p' _ _ val B' F5 X' N5 T' ?c1 ?c2 ?c3 ?c4 ?c5 ?c6 ?_)
    case c1 => rfl
    case c2 => ktr_room
    case c3 => ktr_units
    case c4 => exact hv5
    case c5 => rw [List.length_set]; omega
    case c6 => rw [List.length_set]; omega
    intro h8 tk8 K8 G8
    (try k_fold)
    walk_at "om_steps"
    refine ret _ _ ((KG.trans fun b o _ e => F5.keep b o e).trans K8) ?_
    rw [G8]
    unfold su
    rw [hdone]
    have e9 : (bs'.set p' (bs.getD po 0)).getD p' 0 = bs.getD po 0 := by
      have : p' < bs'.length := by omega
      simp [List.getD, this]
    rw [e9]
end
-- OmPure1
section
def hpLoop (lt : Nat → Nat → Bool) : Nat → List Nat → List Nat
  | 0, bs => bs
  | k + 1, bs => hpLoop lt k (su lt k bs)

structure Ord (lt : Nat → Nat → Bool) : Prop where
  asym : ∀ x y, lt x y = true → lt y x = false
  trans : ∀ x y z, lt y x = false → lt z y = false → lt z x = false

theorem gs (l : List Nat) (i j x : Nat) (hi : i < l.length) : (l.set i x).getD j 0 = if i = j then x else l.getD j 0 := by
  by_cases h : i = j
  · subst h; simp [List.getD, hi]
  · simp [List.getD, h]

theorem set_swap_perm (l : List Nat) (p q x : Nat) (hp : p < l.length) (hq : q < l.length) (hne : p ≠ q) : ((l.set p (l.getD q 0)).set q x).Perm (l.set p x) := by
  rw [List.perm_iff_count]
  intro a
  have hq' : q < (l.set p (l.getD q 0)).length := by rw [List.length_set]; exact hq
  rw [List.count_set hq', List.count_set hp, List.count_set hp]
  have e1 : (l.set p (l.getD q 0))[q] = l[q] := by simp [List.getElem_set, hne]
  have e2 : l.getD q 0 = l[q] := by simp [List.getD, hq]
  rw [e1, e2]
  have c1 : (if (l[p] == a) = true then 1 else 0) ≤ l.count a := by
    split
    · rename_i h
      have : l[p] = a := by simpa using h
      exact List.count_pos_iff.mpr (this ▸ List.getElem_mem hp)
    · omega
  split <;> split <;> omega

theorem sd_perm (lt : Nat → Nat → Bool) (sp x : Nat) : ∀ (p : Nat) (bs : List Nat), p < bs.length → (sd lt sp x p bs).Perm (bs.set p x) := by
  intro p
  induction p using Nat.strongRecOn with
  | _ p ih =>
    intro bs hp
    rw [sd]
    split
    · rename_i h
      split
      · refine (ih ((p - 1) / 2) (by omega) _ (by rw [List.length_set]; omega)).trans ?_
        exact set_swap_perm bs p ((p - 1) / 2) x hp (by omega) (by omega)
      · exact List.Perm.refl _
    · exact List.Perm.refl _

theorem suLoop_spec (lt : Nat → Nat → Bool) (x : Nat) : ∀ (k p : Nat) (bs : List Nat), bs.length - p ≤ k → p < bs.length →
    (suLoop lt bs.length p bs).2 < bs.length ∧ (suLoop lt bs.length p bs).1.length = bs.length ∧ ((suLoop lt bs.length p bs).1.set (suLoop lt bs.length p bs).2 x).Perm (bs.set p x) := by
  intro k
  induction k with
  | zero => intro p bs h1 h2; omega
  | succ k ih =>
    intro p bs h1 hp
    rw [suLoop]
    split
    · rename_i h
      split
      · rename_i h2
        have hl : (bs.set p (bs.getD (2 * p + 2) 0)).length = bs.length := List.length_set
        have := ih (2 * p + 2) (bs.set p (bs.getD (2 * p + 2) 0)) (by omega) (by omega)
        rw [hl] at this
        exact ⟨this.1, this.2.1, this.2.2.trans (set_swap_perm bs p (2 * p + 2) x hp (by omega) (by omega))⟩
      · have hl : (bs.set p (bs.getD (2 * p + 1) 0)).length = bs.length := List.length_set
        have := ih (2 * p + 1) (bs.set p (bs.getD (2 * p + 1) 0)) (by omega) (by omega)
        rw [hl] at this
        exact ⟨this.1, this.2.1, this.2.2.trans (set_swap_perm bs p (2 * p + 1) x hp (by omega) (by omega))⟩
    · exact ⟨hp, rfl, List.Perm.refl _⟩

theorem set_getD_self (l : List Nat) (p : Nat) (hp : p < l.length) : l.set p (l.getD p 0) = l := by
  have : l.getD p 0 = l[p] := by simp [List.getD, hp]
  rw [this]; exact List.set_getElem_self hp

theorem su_perm (lt : Nat → Nat → Bool) (p : Nat) (bs : List Nat) (hp : p < bs.length) : (su lt p bs).Perm bs := by
  obtain ⟨h1, h2, h3⟩ := suLoop_spec lt (bs.getD p 0) (bs.length - p) p bs (Nat.le_refl _) hp
  unfold su
  refine (sd_perm lt p _ _ _ (by rw [List.length_set]; omega)).trans ?_
  rw [List.set_set]
  refine h3.trans ?_
  rw [set_getD_self bs p hp]

def HeapFrom (lt : Nat → Nat → Bool) (s : Nat) (l : List Nat) : Prop := ∀ j, 0 < j → j < l.length → s ≤ (j - 1) / 2 → lt (l.getD j 0) (l.getD ((j - 1) / 2) 0) = false

inductive Desc (s : Nat) : Nat → Prop
  | refl : Desc s s
  | left {p} : Desc s p → Desc s (2 * p + 1)
  | right {p} : Desc s p → Desc s (2 * p + 2)
theorem Desc.le {s p : Nat} (h : Desc s p) : s ≤ p := by induction h <;> omega
theorem Desc.up {s p : Nat} (h : Desc s p) (hlt : s < p) : Desc s ((p - 1) / 2) := by
  cases h with
  | refl => omega
  | @left p h => rw [show (2 * p + 1 - 1) / 2 = p by omega]; exact h
  | @right p h => rw [show (2 * p + 2 - 1) / 2 = p by omega]; exact h

theorem sd_heap {lt : Nat → Nat → Bool} (O : Ord lt) (s x : Nat) : ∀ (p : Nat) (bs : List Nat), p < bs.length → Desc s p →
    (∀ j, 0 < j → j < bs.length → s ≤ (j - 1) / 2 → j ≠ p → lt ((bs.set p x).getD j 0) ((bs.set p x).getD ((j - 1) / 2) 0) = false) →
    (s < p → ∀ j, 0 < j → j < bs.length → (j - 1) / 2 = p → lt ((bs.set p x).getD j 0) ((bs.set p x).getD ((p - 1) / 2) 0) = false) →
    HeapFrom lt s (sd lt s x p bs) := by
  intro p
  induction p using Nat.strongRecOn with
  | _ p ih =>
    intro bs hp hd hb hc
    have hpo : p < bs.length := hp
    rw [sd]
    split
    · rename_i hsp
      have hq : (p - 1) / 2 < p := by omega
      have hdq := hd.up hsp
      have hsq := hdq.le
      split
      · rename_i hlt
        have hlq : (p - 1) / 2 < bs.length := by omega
        have hv : ∀ j, ((bs.set p (bs.getD ((p - 1) / 2) 0)).set ((p - 1) / 2) x).getD j 0 = if (p - 1) / 2 = j then x else if p = j then bs.getD ((p - 1) / 2) 0 else bs.getD j 0 := fun j => by
          rw [gs _ _ _ _ (by rw [List.length_set]; exact hlq), gs _ _ _ _ hp]
        have hw : ∀ j, (bs.set p x).getD j 0 = if p = j then x else bs.getD j 0 := fun j => gs _ _ _ _ hp
        refine ih ((p - 1) / 2) hq _ (by rw [List.length_set]; exact hlq) hdq ?_ ?_
        · intro j hj1 hj2 hj3 hj4
          rw [List.length_set] at hj2
          rw [hv, hv, if_neg (fun e => hj4 e.symm)]
          by_cases e1 : p = j
          · subst e1
            rw [if_pos rfl, if_pos rfl]
            exact O.asym _ _ hlt
          · rw [if_neg e1]
            have hb' := hb j hj1 hj2 hj3 (fun e => e1 e.symm)
            rw [hw, hw, if_neg e1] at hb'
            by_cases e2 : (p - 1) / 2 = (j - 1) / 2
            · rw [if_pos e2]
              rw [← e2, if_neg (by omega)] at hb'
              exact O.trans x (bs.getD ((p - 1) / 2) 0) (bs.getD j 0) (O.asym _ _ hlt) hb'
            · rw [if_neg e2]
              by_cases e3 : p = (j - 1) / 2
              · rw [if_pos e3]
                have := hc hsp j hj1 hj2 e3.symm
                rw [hw, hw, if_neg e1, if_neg (by omega)] at this
                exact this
              · rw [if_neg e3]
                rw [if_neg e3] at hb'
                exact hb'
        · intro hs j hj1 hj2 hj3
          rw [List.length_set] at hj2
          have hup := (hdq.up hs).le
          have hg := hb ((p - 1) / 2) (by omega) hlq hup (by omega)
          rw [hw, hw, if_neg (by omega), if_neg (by omega)] at hg
          rw [hv, hv, if_neg (show ¬ (p - 1) / 2 = j by omega), if_neg (show ¬ (p - 1) / 2 = ((p - 1) / 2 - 1) / 2 by omega), if_neg (show ¬ p = ((p - 1) / 2 - 1) / 2 by omega)]
          by_cases e1 : p = j
          · rw [if_pos e1]; exact hg
          · rw [if_neg e1]
            have hb' := hb j hj1 hj2 (by omega) (fun e => e1 e.symm)
            rw [hw, hw, if_neg e1, hj3, if_neg (by omega)] at hb'
            exact O.trans _ _ _ hg hb'
      · rename_i hnlt
        intro j hj1 hj2 hj3
        rw [List.length_set] at hj2
        by_cases e : j = p
        · subst e
          rw [gs _ _ _ _ hp, gs _ _ _ _ hp, if_pos rfl, if_neg (by omega)]
          simpa using hnlt
        · exact hb j hj1 hj2 hj3 e
    · rename_i hsp
      intro j hj1 hj2 hj3
      rw [List.length_set] at hj2
      have := hd.le
      exact hb j hj1 hj2 hj3 (by omega)

theorem suLoop_heap {lt : Nat → Nat → Bool} (O : Ord lt) (s x : Nat) : ∀ (k p : Nat) (bs : List Nat), bs.length - p ≤ k → p < bs.length → Desc s p →
    (∀ j, 0 < j → j < bs.length → s ≤ (j - 1) / 2 → j ≠ p → (j - 1) / 2 ≠ p → lt ((bs.set p x).getD j 0) ((bs.set p x).getD ((j - 1) / 2) 0) = false) →
    (s < p → ∀ j, 0 < j → j < bs.length → (j - 1) / 2 = p → lt ((bs.set p x).getD j 0) ((bs.set p x).getD ((p - 1) / 2) 0) = false) →
    Desc s (suLoop lt bs.length p bs).2 ∧ bs.length ≤ 2 * (suLoop lt bs.length p bs).2 + 1 ∧
    ∀ j, 0 < j → j < bs.length → s ≤ (j - 1) / 2 → j ≠ (suLoop lt bs.length p bs).2 →
      lt (((suLoop lt bs.length p bs).1.set (suLoop lt bs.length p bs).2 x).getD j 0) (((suLoop lt bs.length p bs).1.set (suLoop lt bs.length p bs).2 x).getD ((j - 1) / 2) 0) = false := by
  intro k
  induction k with
  | zero => intro p bs h1 h2; omega
  | succ k ih =>
    intro p bs h1 hp hd hb hc
    have hw : ∀ j, (bs.set p x).getD j 0 = if p = j then x else bs.getD j 0 := fun j => gs _ _ _ _ hp
    have go : ∀ c, c < bs.length → (c = 2 * p + 1 ∨ c = 2 * p + 2) → (∀ j, j < bs.length → (j = 2 * p + 1 ∨ j = 2 * p + 2) → j ≠ c → lt (bs.getD j 0) (bs.getD c 0) = false) →
        Desc s (suLoop lt bs.length c (bs.set p (bs.getD c 0))).2 ∧ bs.length ≤ 2 * (suLoop lt bs.length c (bs.set p (bs.getD c 0))).2 + 1 ∧
        ∀ j, 0 < j → j < bs.length → s ≤ (j - 1) / 2 → j ≠ (suLoop lt bs.length c (bs.set p (bs.getD c 0))).2 →
          lt (((suLoop lt bs.length c (bs.set p (bs.getD c 0))).1.set (suLoop lt bs.length c (bs.set p (bs.getD c 0))).2 x).getD j 0) (((suLoop lt bs.length c (bs.set p (bs.getD c 0))).1.set (suLoop lt bs.length c (bs.set p (bs.getD c 0))).2 x).getD ((j - 1) / 2) 0) = false := by
      intro c hc1 hc2 hmin
      have hl : (bs.set p (bs.getD c 0)).length = bs.length := List.length_set
      have hv : ∀ j, ((bs.set p (bs.getD c 0)).set c x).getD j 0 = if c = j then x else if p = j then bs.getD c 0 else bs.getD j 0 := fun j => by
        rw [gs _ _ _ _ (by rw [List.length_set]; exact hc1), gs _ _ _ _ hp]
      have hdc : Desc s c := by
        rcases hc2 with e | e
        · rw [e]; exact hd.left
        · rw [e]; exact hd.right
      have hsp := hd.le
      have := ih c (bs.set p (bs.getD c 0)) (by omega) (by omega) hdc ?_ ?_
      · rw [hl] at this; exact this
      · intro j hj1 hj2 hj3 hj4 hj5
        rw [hl] at hj2
        rw [hv, hv, if_neg (show ¬ c = j from fun e => hj4 e.symm), if_neg (show ¬ c = (j - 1) / 2 from fun e => hj5 e.symm)]
        by_cases e1 : p = j
        · rw [if_pos e1]
          rw [if_neg (show ¬ p = (j - 1) / 2 by omega)]
          have := hc (by omega) c (by omega) hc1 (by omega)
          rw [hw, hw, if_neg (by omega), if_neg (by omega)] at this
          rw [← e1]; exact this
        · rw [if_neg e1]
          by_cases e2 : p = (j - 1) / 2
          · rw [if_pos e2]
            exact hmin j hj2 (by omega) hj4
          · rw [if_neg e2]
            have := hb j hj1 hj2 hj3 (fun e => e1 e.symm) (fun e => e2 e.symm)
            rw [hw, hw, if_neg e1, if_neg e2] at this
            exact this
      · intro hs j hj1 hj2 hj3
        rw [hl] at hj2
        rw [hv, hv, if_neg (by omega), if_neg (by omega), if_neg (by omega), if_pos (by omega)]
        have := hb j hj1 hj2 (by omega) (by omega) (by omega)
        rw [hw, hw, if_neg (by omega), if_neg (by omega), hj3] at this
        exact this
    rw [suLoop]
    split
    · rename_i h
      split
      · rename_i h2
        refine go (2 * p + 2) h2.1 (.inr rfl) ?_
        intro j _ hj hne
        rcases hj with e | e
        · subst e; exact h2.2
        · exact absurd e hne
      · rename_i h2
        refine go (2 * p + 1) h (.inl rfl) ?_
        intro j hjl hj hne
        rcases hj with e | e
        · exact absurd e hne
        · subst e
          refine O.asym _ _ ?_
          cases q : lt (bs.getD (2 * p + 1) 0) (bs.getD (2 * p + 2) 0) with
          | true => rfl
          | false => exact absurd ⟨hjl, q⟩ h2
    · rename_i h
      refine ⟨hd, by omega, ?_⟩
      intro j hj1 hj2 hj3 hj4
      exact hb j hj1 hj2 hj3 hj4 (by omega)

theorem su_heap {lt : Nat → Nat → Bool} (O : Ord lt) (p : Nat) (bs : List Nat) (hp : p < bs.length) (h : HeapFrom lt (p + 1) bs) : HeapFrom lt p (su lt p bs) := by
  obtain ⟨h1, h2, h3⟩ := suLoop_spec lt (bs.getD p 0) (bs.length - p) p bs (Nat.le_refl _) hp
  obtain ⟨g1, g2, g3⟩ := suLoop_heap O p (bs.getD p 0) (bs.length - p) p bs (Nat.le_refl _) hp .refl
    (by intro j a b c d e; rw [set_getD_self bs p hp]; exact h j a b (by omega)) (by intro h; omega)
  unfold su
  refine sd_heap O p _ _ _ (by rw [List.length_set]; omega) g1 ?_ ?_
  · intro j a b c d
    rw [List.length_set, h2] at b
    rw [List.set_set]
    exact g3 j a b c d
  · intro _ j a b c
    rw [List.length_set, h2] at b
    omega

theorem hp_spec {lt : Nat → Nat → Bool} (O : Ord lt) : ∀ (k : Nat) (bs : List Nat), k ≤ bs.length → HeapFrom lt k bs → (hpLoop lt k bs).Perm bs ∧ HeapFrom lt 0 (hpLoop lt k bs) := by
  intro k
  induction k with
  | zero => intro bs _ h; exact ⟨List.Perm.refl _, h⟩
  | succ k ih =>
    intro bs hk h
    have hp := su_perm lt k bs (by omega)
    obtain ⟨a, b⟩ := ih (su lt k bs) (by rw [hp.length_eq]; omega) (su_heap O k bs (by omega) h)
    exact ⟨a.trans hp, b⟩
theorem hp_heap {lt : Nat → Nat → Bool} (O : Ord lt) (bs : List Nat) : (hpLoop lt (bs.length / 2) bs).Perm bs ∧ HeapFrom lt 0 (hpLoop lt (bs.length / 2) bs) :=
  hp_spec O _ bs (by omega) (fun j a b c => by omega)

theorem heap_min {lt : Nat → Nat → Bool} (O : Ord lt) (hirr : ∀ x, lt x x = false) {l : List Nat} (h : HeapFrom lt 0 l) : ∀ j, j < l.length → lt (l.getD j 0) (l.getD 0 0) = false := by
  intro j
  induction j using Nat.strongRecOn with
  | _ j ih =>
    intro hj
    by_cases e : j = 0
    · subst e; exact hirr _
    · exact O.trans _ _ _ (ih ((j - 1) / 2) (by omega) (by omega)) (h j (by omega) hj (Nat.zero_le _))
end
-- OmLoop
section
open PySem PySem.W PySem.Calls PyProof.Rows

def LpEnd (h₀ : Heap) (L I : Addr) (oI : Obj) (J : (Str → Option Value) → List (Addr × Obj) → Prop) (s₁ s₂ : Shared) : Prop :=
  ∃ h' tk m₂ news₂, s₂ = { s₁ with heap := h', toks := tk } ∧ Fr h₀ L h' m₂ ∧ News h₀ L h' ((I, oI) :: news₂) ∧ (∀ p ∈ news₂, p.1 ≠ I) ∧ J m₂ news₂
def LpPost (h₀ : Heap) (L I : Addr) (oI : Obj) (J : (Str → Option Value) → List (Addr × Obj) → Prop) (s₁ : Shared) (Q : Flow → Shared → Prop) (f : Flow) (s₂ : Shared) : Prop :=
  match f with
  | .ret v => Q (.ret v) s₂
  | .brk => Q .next s₂
  | _ => LpEnd h₀ L I oI J s₁ s₂
theorem LpEnd.intro {h₀ h' : Heap} {L I : Addr} {oI : Obj} {J : (Str → Option Value) → List (Addr × Obj) → Prop} {s₁ : Shared} {tk : Nat} {m₂ : Str → Option Value} {news₂ : List (Addr × Obj)}
    (F : Fr h₀ L h' m₂) (N : News h₀ L h' ((I, oI) :: news₂)) (hn : ∀ p ∈ news₂, p.1 ≠ I) (hj : J m₂ news₂) : LpEnd h₀ L I oI J s₁ { s₁ with heap := h', toks := tk } := ⟨h', tk, m₂, news₂, rfl, F, N, hn, hj⟩

section
variable {prog : Program} {w : World} {A : Around} {E : Value → Shared → Prop} {s : Shared} {h₀ : Heap} {env : Env} {x : Str} {body : List Stmt} {Q : Flow → Shared → Prop}
theorem loop_range {I : Addr} {n : Nat} {a c : Int} {m : Str → Option Value} {news : List (Addr × Obj)} (hh : A.handled = none) (st : IsRangeIter s.heap I a n c) (F : Fr h₀ env.locals s.heap m) (N : News h₀ env.locals s.heap news)
    (hI0 : h₀.get? I = none) (hIL : env.locals ≠ I) (hIn : ∀ p ∈ news, p.1 ≠ I) (J : Nat → (Str → Option Value) → List (Addr × Obj) → Prop) (h0 : J 0 m news)
    (turn : ∀ i t m₁ news₁ h tk oI, i < n → J i m₁ news₁ → (∀ p ∈ news₁, p.1 ≠ I) → Fr h₀ env.locals h (fun y => if y = x then some (.int (a + (i : Nat) * c) t) else m₁ y) → News h₀ env.locals h ((I, oI) :: news₁) →
      wpAny (model prog w) A (execs body env) (LpPost h₀ env.locals I oI (J (i + 1)) { s with heap := h, toks := tk } Q) E { s with heap := h, toks := tk })
    (done : ∀ h' tk m' news', Fr h₀ env.locals h' m' → News h₀ env.locals h' news' → J n m' news' → Q .next { s with heap := h', toks := tk }) :
    LoopAtV prog w A h₀ env x body Q E (.ref I) s := by
  refine ⟨I, [I], [I], n, _, _, m, news, J, rfl, Walks.range (prog := prog) (w := w) hh I a c n, by simpa using hIL, by simpa using hI0, fun p hp => by simpa using hIn p hp, ?_, F, N, h0, ?_, fun h' tk m' news' F' N' _ J' => done h' tk m' news' F' N' J'⟩
  · show IsRangeIter s.heap I (a + ((0 : Nat) : Int) * c) ((n : Int) - ((0 : Nat) : Int)) c
    simpa using st
  · rintro i v m₁ news₁ s₁ own ⟨h, tk, rfl⟩ hin ⟨t, rfl⟩ hJ hoff hown hob hall hst F₁ N₁
    obtain ⟨oI, hI⟩ : ∃ oI, h.get? I = some oI := ⟨_, hst⟩
    have hoI : (I, oI) ∈ own := hall I (by simp) hI0 _ hI
    have N₂ : News h₀ env.locals h ((I, oI) :: news₁) := fun p hp => by
      rcases List.mem_cons.mp hp with rfl | hp
      · exact N₁ _ (List.mem_append_left _ hoI)
      · exact N₁ _ (List.mem_append_right _ hp)
    refine wpAny_mono (turn i t m₁ news₁ h tk oI hin hJ (fun p hp => by simpa using hoff p hp) F₁ N₂) (fun f s₂ p => ?_) fun _ _ e => e
    have fin : LpEnd h₀ env.locals I oI (J (i + 1)) { s with heap := h, toks := tk } s₂ → LoopStepU h₀ env.locals [I] own (J (i + 1)) { s with heap := h, toks := tk } .next s₂ := by
      rintro ⟨h', tk', m₂, news₂, rfl, F', N', hn, hj⟩
      refine ⟨rfl, h', tk', m₂, news₂, rfl, F', fun p hp => ?_, fun p hp => by simpa using hn p hp, hj⟩
      rcases List.mem_append.mp hp with hp | hp
      · have e1 : p.1 = I := by simpa using hown p hp
        have e2 := hob p hp
        have e3 : p = (I, p.2) := by rw [← e1]
        have e4 : some p.2 = some oI := (e1 ▸ e2).symm.trans hI
        have := N' _ (List.Mem.head _)
        rw [e3, Option.some.inj e4]
        exact this
      · exact N' p (.tail _ hp)
    cases f with
    | ret v => exact .ret p
    | brk => exact .brk p
    | next => exact .next (fin p)
    | cont => exact .cont (fin p)

theorem for_range {r : Addr} {a b c : Int} {n : Nat} {t u v : Tok} {m : Str → Option Value} {news : List (Addr × Obj)} (hh : A.handled = none) (hr : IsRange s.heap r a b c t u v) (hsmall : Builtin.Range.small a b c = true) (hn : Builtin.Range.rangeSize a b c = n)
    (F : Fr h₀ env.locals s.heap m) (N : News h₀ env.locals s.heap news) (J : Nat → (Str → Option Value) → List (Addr × Obj) → Prop) (h0 : J 0 m news)
    (turn : ∀ i t m₁ news₁ h tk oI, i < n → J i m₁ news₁ → (∀ p ∈ news₁, p.1 ≠ s.heap.objs.size) → Fr h₀ env.locals h (fun y => if y = x then some (.int (a + (i : Nat) * c) t) else m₁ y) → News h₀ env.locals h ((s.heap.objs.size, oI) :: news₁) →
      wpAny (model prog w) A (execs body env) (LpPost h₀ env.locals s.heap.objs.size oI (J (i + 1)) { s with heap := h, toks := tk } Q) E { s with heap := h, toks := tk })
    (done : ∀ h' tk m' news', Fr h₀ env.locals h' m' → News h₀ env.locals h' news' → J n m' news' → Q .next { s with heap := h', toks := tk }) :
    wpAny (model prog w) A (pyIter (.ref r)) (fun it s₂ => LoopAtV prog w A h₀ env x body Q E it s₂) E s := by
  refine wpAny_pyIter_range hr hsmall ?_
  rw [hn]
  have F2 := F.push { cls := .type "range_iterator", data := .fields #[rawInt a, rawInt n, rawInt c] }
  have N2 := News.push F N { cls := .type "range_iterator", data := .fields #[rawInt a, rawInt n, rawInt c] }
  have hI := N2 _ (List.Mem.head _)
  exact loop_range hh hI.1 F2 (fun p hp => N2 p (.tail _ hp)) hI.2.2 (Ne.symm hI.2.1) (fun p hp => Nat.ne_of_lt (Heap.lt_size (N p hp).1)) J h0 (fun i t m₁ news₁ h tk oI => turn i t m₁ news₁ h tk oI) fun h' tk m' news' => done h' tk m' news'
theorem size_up {k : Int} : Builtin.Range.rangeSize 0 k 1 = (k.toNat : Int) := by
  unfold Builtin.Range.rangeSize
  rw [if_pos (by decide)]
  split <;> omega
theorem small_up {k : Int} (h0 : -1000 ≤ k) (h1 : k ≤ 1000) : Builtin.Range.small 0 k 1 = true := by
  unfold Builtin.Range.small
  rw [size_up]
  unfold Builtin.Range.rangeFitsLong
  simp
  omega
end

section
variable {prog : Program} {w : World} {A : Around} {E : Value → Shared → Prop} {s : Shared}
theorem sub_ri_reversed : isSubtype (.type "range_iterator") (.type "reversed") = pure false := by rw [isSubtype_type]; kernel_rfl
theorem call_range_reversed {r : Addr} {k : Nat} {t u v : Tok} {Q : Value → Shared → Prop} (hr : IsRange s.heap r 0 k 1 t u v) (hk : k < 1000)
    (h : Q (.ref s.heap.objs.size) { s with heap := s.heap.push { cls := .type "range_iterator", data := .fields #[rawInt ((k : Int) - 1), rawInt k, rawInt (-1)] } }) :
    wpAny (model prog w) A (call (.builtin "range.__reversed__") [.ref r]) Q E s := by
  have hT : s.TypeIs (.ref r) "range" := ⟨_, hr, rfl⟩
  refine wpAny_call_entry F.slot_range_reversed hT F.entry_range_reversed ?_ (F.args_range_reversed_1 _)
  unfold Builtin.«range.__reversed__»
  refine wpAny_bind (wpAny_of_eq (a := Value.ref r) rfl ?_)
  refine wpAny_bind ?_
  unfold Builtin.Range.rangeFields
  generalize hK : (k : Int) = K at hr ⊢
  refine wpAny_bind (wpAny_field hr rfl (x := .int 0 t) rfl ?_)
  refine wpAny_bind (wpAny_of_eq (a := some (0 : Int)) rfl ?_)
  refine wpAny_bind (wpAny_field hr rfl (x := .int K u) rfl ?_)
  refine wpAny_bind (wpAny_of_eq (a := some K) rfl ?_)
  refine wpAny_bind (wpAny_field hr rfl (x := .int 1 v) rfl ?_)
  refine wpAny_bind (wpAny_of_eq (a := some (1 : Int)) rfl ?_)
  subst hK
  refine wpAny_pure ?_
  dsimp only
  have hn : Builtin.Range.rangeSize 0 (k : Int) 1 = k := by
    unfold Builtin.Range.rangeSize
    rw [if_pos (by decide)]
    split <;> omega
  have hs : (Builtin.Range.rangeFitsLong 0 && Builtin.Range.rangeFitsLong (k : Int) && Builtin.Range.rangeFitsLong 1 && Builtin.Range.rangeFitsLong (-1) && Builtin.Range.rangeFitsLong (0 - 1) && Builtin.Range.rangeFitsLong (k : Int)) = true := by
    have : Builtin.Range.rangeFitsLong (k : Int) = true := by
      unfold Builtin.Range.rangeFitsLong
      simp; omega
    rw [this]; decide
  rw [hn, hs]
  simp only [Bool.not_true, Bool.false_eq_true, if_false, if_true]
  rw [show (0 : Int) + ((k : Int) - 1) * 1 = (k : Int) - 1 by omega]
  exact wpAny_bind (wpAny_newObj_type (wpAny_pure ⟨_, rfl, h⟩))
theorem code_reversed_range {r : Addr} {k : Nat} {t u v : Tok} {Q₁ : Value → Shared → Prop} (hr : IsRange s.heap r 0 k 1 t u v) (hk : k < 1000)
    (h : Q₁ (.ref s.heap.objs.size) { s with heap := s.heap.push { cls := .type "range_iterator", data := .fields #[rawInt ((k : Int) - 1), rawInt k, rawInt (-1)] } }) :
    codeAny (model prog w) A (.call (.builtin "reversed.__new__") ⟨[.type "reversed", .ref r], []⟩) (wants Q₁ E) s := by
  have hT : s.TypeIs (.ref r) "range" := ⟨_, hr, rfl⟩
  refine codeAny_of_tree ?_
  show wpAny _ A.in1 (do checkBuiltinCall "reversed.__new__" ⟨[.type "reversed", .ref r], []⟩; again (.builtin "reversed.__new__" ⟨[.type "reversed", .ref r], []⟩)) _ _ s
  refine wpAny_bind (wpAny_of_eq (F.newCall_reversed_1 _) (wpAny_pure ⟨plainId_quiet F.plain_reversed_new _, codeAny_builtin F.entry_reversed_new ?_⟩))
  rw [Around.under_plainId F.plain_reversed_new _]
  unfold Builtin.«reversed.__new__»
  refine wpAny_bind (wpAny_of_eq (newClass_reversed _) ?_)
  try dsimp only
  refine wpAny_bind (wpAny_of_eq (a := ()) (by first | rfl | kernel_rfl) ?_)
  refine wpAny_bind (wpAny_of_eq (a := ()) (by first | rfl | kernel_rfl) ?_)
  try dsimp only
  refine wpAny_bind (wpAny_specialOf hT F.slot_range_reversed.lookup ?_)
  try dsimp only
  refine wpAny_bind (wpAny_of_eq (F.slot_range_reversed.bind _) ?_)
  try dsimp only
  rw [if_neg (show ¬ ((Value.builtin "range.__reversed__" == Value.none) = true) from Bool.false_ne_true)]
  refine wpAny_bind (wpAny_rule ?_)
  refine wpAny_bind (m := runValue (.call (.builtin "range.__reversed__") ⟨[.ref r], []⟩)) (show wpAny _ _ (call (.builtin "range.__reversed__") [.ref r]) _ _ _ from call_range_reversed hr hk ?_)
  first
  | exact wpAny_pure h
  | exact wpAny_bind (wpAny_pure (wpAny_pure h))
theorem call_reversed_range {r : Addr} {k : Nat} {t u v : Tok} {Q : Value → Shared → Prop} (hr : IsRange s.heap r 0 k 1 t u v) (hk : k < 1000)
    (h : Q (.ref s.heap.objs.size) { s with heap := s.heap.push { cls := .type "range_iterator", data := .fields #[rawInt ((k : Int) - 1), rawInt k, rawInt (-1)] } }) :
    wpAny (model prog w) A (call (.type "reversed") [.ref r]) Q E s := by
  refine callType_other (U := "range_iterator") (Q₁ := fun obj s₁ => obj = .ref s.heap.objs.size ∧ s₁ = { s with heap := s.heap.push { cls := .type "range_iterator", data := .fields #[rawInt ((k : Int) - 1), rawInt k, rawInt (-1)] } }) (by decide +kernel) F.create_reversed ⟨_, _, F.mro_reversed⟩ F.made_reversed sub_ri_reversed (F.typeCall_reversed_1 _) (code_reversed_range hr hk ⟨rfl, rfl⟩) ?_
  rintro obj s₁ ⟨rfl, rfl⟩
  exact ⟨⟨_, Heap.get?_push_size _ rfl, rfl⟩, h⟩
end
end
end
section
local macro_rules | `(tactic| walk_at "om_stop") => `(tactic| with_reducible first | show wpAny _ _ (exec (Stmt.While _ _ _ _) _) _ _ _ | show wpAny _ _ (PySem.call (Value.ref _) _ _) _ _ _ | show wpAny _ _ (subscriptTail _ _ (Value.ref _) _) _ _ _ | show wpAny _ _ (setItem (Value.ref _) _ _) _ _ _ | show wpAny _ _ (compareOp _ (Value.ref _) (Value.ref _)) _ _ _ | show wpAny _ _ (PySem.call (Value.builtin "len") _ _) _ _ _ | show wpAny _ _ (pyIter (Value.ref _)) _ _ _ | show wpAny _ _ (PySem.call (Value.type "reversed") _ _) _ _ _ | show LpEnd _ _ _ _ _ _ _ | show KswEnd _ _ _ _ _ _ _ _ _ _ _ _)
-- OmHp
section
open PySem PySem.W PySem.Calls PyProof.Rows
theorem pin {m : Str → Option Value} {x : Str} {v : Value} (h : m x = some v) : m = fun y => if y = x then some v else m y := by
  funext y
  by_cases e : y = x
  · subst e; simp [h]
  · simp [e]

theorem heapify_c {w : World} {p : Program} {loose : List Str} {mean : ExcName → Option Value} {mg mb : Str → Option Value}
    (dp un : Nat) (gd : Option (List Code)) (cn : Str) (cs : Scope) (a0 : Addr) (ccd : Value) (cl : List (Str × Addr)) (outer : List Env) (A₀ : Around) (base h₀ : Heap) (L : Addr) (m : Str → Option Value) (s : Shared)
    (Q E : Value → Shared → Prop) (a : Addr) (bs : List Addr) (n : Nat) (val : Addr → Int × Int)
    (B : Below A₀ base outer h₀) (F : Fr h₀ L s.heap m) (X : (hd.heap_39 w.params).In h₀) (N : News h₀ L s.heap [(a, listOf (refs bs) n)]) (T : Top p loose mean mg mb h₀) (hk : cs.kind = .function) (hd : dp < 398) (hu : un < 800)
    (hv : ∀ b ∈ bs, Pair s.heap b (val b)) (hlen : bs.length < 64)
    (ret : ∀ h' tk', Keeps [a] s.heap h' → h'.get? a = some (listOf (refs (hpLoop (fun x y => plt (val x) (val y)) (bs.length / 2) bs)) n) → Q .none { s with heap := h', toks := tk' }) :
    wpAny (model PySem.Challenge.rw_om0012_01.row.prog w) (ktrTop dp un gd cn cs L a0 ccd cl outer) (call (.ref 77) [.ref a]) Q E s := by
  revert X; k_fill; intro X
  refine wpAny_call ?_
  k_dflt (refine' enter_def (binds := [(Str.ofString "x", .ref a)]) ?k1 ?k2 ?k3 ?k4 ?k5 ?kA ?kF ?kK ?k6 ?k7 ?k8 ?k9 ?kB ?_ ?c2 ?c3 ?c4 ?c5; walk_at "om_enter")
  intro g L' h' KG F' N' B' X' T' l'
  have hna : ∀ b ∈ bs, b ≠ a := fun b hb e => by
    obtain ⟨o, _, _, _, ho, hc, _⟩ := hv b hb
    rw [e, (N _ (List.Mem.head _)).1] at ho
    have q := (Option.some.inj ho) ▸ hc
    exact absurd q (by simp)
  have hv' : ∀ b ∈ bs, Pair g b (val b) := fun b hb => (hv b hb).keep fun o e => KG b o (fun q => hna b hb (List.mem_singleton.mp q)) e
  clear N F B X T
  (try dsimp only); (try k_fold)
  walk_at "om_steps"
  refine len_refs N' (List.Mem.head _) (by omega) ?_
  (try k_fold)
  walk_at "om_steps"
  rename Fr _ _ _ _ => F1
  rename News _ _ _ _ => N1
  rename IsRange _ _ _ _ _ _ _ _ => R1
  have ek : ((bs.length : Int)).fdiv 2 = ((bs.length / 2 : Nat) : Int) := by rw [Int.fdiv_eq_ediv_of_nonneg _ (by omega)]; omega
  rw [ek] at R1
  refine call_reversed_range R1 (by omega) ?_
  have F2 := F1.push { cls := .type "range_iterator", data := .fields #[rawInt (((bs.length / 2 : Nat) : Int) - 1), rawInt ((bs.length / 2 : Nat) : Int), rawInt (-1)] }
  have N2 := News.push F1 N1 { cls := .type "range_iterator", data := .fields #[rawInt (((bs.length / 2 : Nat) : Int) - 1), rawInt ((bs.length / 2 : Nat) : Int), rawInt (-1)] }
  (try dsimp only)
  have hI := N2 _ (List.Mem.head _)
  have haI := Heap.lt_size (N1 _ (List.Mem.head _)).1
  refine (Walks.range (by rfl) _ (((bs.length / 2 : Nat) : Int) - 1) (-1) (bs.length / 2)).self 0 _ _ _ (by show IsRangeIter _ _ _ _ _; simpa using hI.1) ?_
  refine loop_range (by rfl) hI.1 F2 (fun p hp => N2 p (.tail _ hp)) hI.2.2 (Ne.symm hI.2.1) (by intro p hp; rw [List.mem_singleton.mp hp]; exact Nat.ne_of_lt haI)
    (fun i m₁ news₁ => ∃ bs', news₁ = [(a, listOf (refs bs') n)] ∧ (∀ p ∈ [(Str.ofString "x", Value.ref a)], m₁ p.1 = some p.2) ∧ bs'.length = bs.length ∧ (∀ b ∈ bs', b ∈ bs) ∧ hpLoop (fun x y => plt (val x) (val y)) (bs.length / 2 - i) bs' = hpLoop (fun x y => plt (val x) (val y)) (bs.length / 2) bs)
    ⟨bs, rfl, by kst_all, rfl, fun _ h => h, rfl⟩ ?_ ?_
  · rintro i t m₁ news₁ h3 tk3 oI hi ⟨bs', rfl, hx, hl', hsub, hhp⟩ hoff F3 N3
    have hx' := hx _ (List.Mem.head _)
    rw [pin hx'] at F3
    clear F1 N1 F2 N2
    (try dsimp only); (try k_fold)
    walk_at "om_steps"
    have ei : (((bs.length / 2 : Nat) : Int) - 1 + (i : Int) * -1) = ((bs.length / 2 - 1 - i : Nat) : Int) := by omega
    rw [ei] at F3 ⊢
    change Fr g L' h3 _ at F3
    change News g L' h3 _ at N3
    have N4 : News g L' h3 [(a, listOf (refs bs') n)] := fun p hp => N3 p (.tail _ hp)
    k_dflt (refine' siftup_c _ _ _ _ _ _ _ _ _ _ _ _ _ _ _ _ _ a bs' n (bs.length / 2 - 1 - i) _ val B' F3 X' N4 T' ?c1 ?c2 ?c3 ?c4 ?c5 ?c6 ?_)
    case c1 => rfl
    case c2 => ktr_room
    case c3 => ktr_units
    case c4 => exact fun b hb => (hv' b (hsub b hb)).keep (F3.keep _)
    case c5 => omega
    case c6 => omega
    intro h8 tk8 K8 G8
    dsimp only at K8
    have z := N4 _ (List.Mem.head _)
    have F8 := K8.fr F3 (by simpa using Ne.symm z.2.1) (by intro b hb; rw [List.mem_singleton.mp hb]; exact z.2.2)
    (try k_fold)
    walk_at "om_steps"
    have hpm := su_perm (fun x y => plt (val x) (val y)) (bs.length / 2 - 1 - i) bs' (by omega)
    have hne := hoff _ (List.Mem.head _)
    refine LpEnd.intro F8 (news₂ := [(a, listOf (refs (su (fun x y => plt (val x) (val y)) (bs.length / 2 - 1 - i) bs')) n)]) ?_ (by intro p hp; rw [List.mem_singleton.mp hp]; exact hne) ⟨_, rfl, by kst_all, ?_, ?_, ?_⟩
    · intro p hp
      rcases List.mem_cons.mp hp with rfl | hp
      · have q := N3 _ (List.Mem.head _)
        exact ⟨K8 _ _ (by simpa using Ne.symm hne) q.1, q.2⟩
      · rw [List.mem_singleton.mp hp]
        exact ⟨G8, z.2⟩
    · rw [hpm.length_eq]; exact hl'
    · exact fun b hb => hsub b (hpm.mem_iff.mp hb)
    · rw [← hhp, show bs.length / 2 - i = (bs.length / 2 - 1 - i) + 1 by omega, show bs.length / 2 - (i + 1) = bs.length / 2 - 1 - i by omega]
      rfl
  · rintro h9 tk9 m9 news9 F9 N9 ⟨bs', rfl, hx, hl', hsub, hhp⟩
    clear F1 N1 F2 N2
    (try k_fold)
    walk_at "om_steps"
    refine ret _ _ (KG.trans fun b o _ e => F9.keep b o e) ?_
    rw [← hhp, Nat.sub_self]
    exact (N9 _ (List.Mem.head _)).1
end
-- OmList
section
open PySem PySem.W PySem.Calls PyProof.Rows

section
variable {prog : Program} {w : World} {A : Around} {E : Value → Shared → Prop} {s : Shared} {h₀ : Heap} {L : Addr} {m : Str → Option Value}

theorem pop_at {l : Addr} {vs : List Value} {v : Value} {n : Nat} {Q : Value → Shared → Prop} (ho : s.heap.get? l = some (listOf (vs ++ [v]).toArray n)) (hsz : vs.length < 2 ^ 20)
    (h : ∀ h' n', Heap.SameBut l s.heap h' → h'.get? l = some (listOf vs.toArray n') → Q v { s with heap := h' }) : wpAny (model prog w) A (call (.builtin "list.pop") [.ref l]) Q E s := by
  have hT : s.TypeIs (.ref l) "list" := ⟨_, ho, rfl⟩
  refine wpAny_call_entry F.slot_list_pop hT F.entry_list_pop ?_ (F.args_list_pop_1 _)
  unfold Builtin.«list.pop»
  refine wpAny_bind (wpAny_of_eq (a := (Value.ref l, [])) rfl ?_)
  dsimp only
  refine wpAny_bind (wpAny_pure ?_)
  rw [if_neg (by decide)]
  refine wpAny_bind (listItems_at ho rfl ?_)
  rw [if_neg (by simp)]
  have hs : seqIndex? (-1) (vs ++ [v]).toArray.size = some vs.length := by
    simp [seqIndex?]
    omega
  have hx : ((vs ++ [v]).toArray)[vs.length]? = some v := by simp
  rw [hs]
  dsimp only [Option.bind]
  rw [hx]
  dsimp only [Option.map]
  have he : (vs ++ [v]).toArray.eraseIdxIfInBounds vs.length = vs.toArray := by
    apply Array.toList_inj.mp
    rw [Array.eraseIdxIfInBounds, dif_pos (by simp)]
    simp [List.eraseIdx_append]
  refine wpAny_bind (listUpdate_at ho rfl ?_ (by rw [List.size_toArray, List.length_append, sizeLine_eq]; simp; omega) (by rw [he, List.size_toArray, sizeLine_eq]; omega))
  refine wpAny_bind (wpAny_pure ?_)
  have q := get?_update_seq ho (fun xs => xs.eraseIdxIfInBounds vs.length)
  rw [he] at q
  exact wpAny_pure ⟨v, rfl, h _ _ (Heap.SameBut.update ..) q⟩

abbrev iv (ps : List (Int × Tok)) : List Value := ps.map fun p => Value.int p.1 p.2
theorem iv_ints : ∀ ps : List (Int × Tok), kf_ints (iv ps) = true
  | [] => rfl
  | _ :: r => iv_ints r
theorem iv_erase : ∀ (qs : List (Int × Tok)) (j : Nat), (iv qs).eraseIdx j = iv (qs.eraseIdx j)
  | [], _ => rfl
  | _ :: _, 0 => rfl
  | q :: r, j + 1 => congrArg (Value.int q.1 q.2 :: ·) (iv_erase r j)
theorem iv_count : ∀ (qs : List (Int × Tok)) (k : Int), (iv qs).countP (isInt k) = (qs.map (·.1)).count k
  | [], _ => rfl
  | q :: r, k => by
    have ih := iv_count r k
    simp only [iv, List.map_cons, List.countP_cons, List.count_cons] at ih ⊢
    rw [ih]
    rfl
theorem remove_none {l : Addr} {qs : List (Int × Tok)} {k : Int} {t : Tok} {n : Nat} {Q : Value → Shared → Prop} (hh : A.handled = none) (ho : s.heap.get? l = some (listOf (iv qs).toArray n)) (hno : ∀ q ∈ qs, q.1 ≠ k)
    (h : ∀ h' tk e, Heap.NewExc s.heap h' e "ValueError" → E (.ref e) { s with heap := h', toks := tk }) : wpAny (model prog w) A (call (.builtin "list.remove") [.ref l, .int k t]) Q E s := by
  refine call_meets PySem.F.slot_list_remove ⟨_, ho, rfl⟩ PySem.F.entry_list_remove (PySem.F.args_list_remove_2 _ _)
    (MeetsSeq.list_remove_none l (iv qs).toArray n (.int k t) (isInt k) (fun y hy => kf_eq (iv_ints qs) y (by simpa using hy)) ?_) ⟨ho, hh, h⟩
  intro j hj
  have hj' : j < qs.length := by simpa using hj
  have e : (iv qs).toArray[j] = Value.int qs[j].1 qs[j].2 := by simp
  rw [e]
  have := hno _ (List.getElem_mem hj')
  simp [isInt, this]
theorem remove_some {l : Addr} {qs : List (Int × Tok)} {k : Int} {t : Tok} {n j : Nat} {Q : Value → Shared → Prop} (ho : s.heap.get? l = some (listOf (iv qs).toArray n)) (hj : j < qs.length) (hit : qs[j].1 = k) (hno : ∀ i (hi : i < qs.length), i < j → qs[i].1 ≠ k) (hsz : qs.length < 1000)
    (h : ∀ h' n', Heap.SameBut l s.heap h' → h'.get? l = some (listOf (iv (qs.eraseIdx j)).toArray n') → Q .none { s with heap := h' }) : wpAny (model prog w) A (call (.builtin "list.remove") [.ref l, .int k t]) Q E s := by
  have he : ∀ i (hi : i < qs.length), isInt k ((iv qs).toArray[i]'(by simpa using hi)) = (qs[i].1 == k) := fun i hi => by
    have e : (iv qs).toArray[i]'(by simpa using hi) = Value.int qs[i].1 qs[i].2 := by simp
    rw [e]
    simp [isInt]
  refine call_meets PySem.F.slot_list_remove ⟨_, ho, rfl⟩ PySem.F.entry_list_remove (PySem.F.args_list_remove_2 _ _)
    (MeetsSeq.list_remove l (iv qs).toArray n (.int k t) (isInt k) (fun y hy => kf_eq (iv_ints qs) y (by simpa using hy)) j (by simpa using hj) (by rw [he j hj]; simp [hit]) (fun i hi hlt => by rw [he i (by simpa using hi)]; simpa using hno i (by simpa using hi) hlt) (by rw [sizeLine_eq]; simp; omega)) ⟨ho, ?_⟩
  have q := get?_update_seq ho (fun xs => xs.eraseIdxIfInBounds j)
  have e : (iv qs).toArray.eraseIdxIfInBounds j = (iv (qs.eraseIdx j)).toArray := by
    apply Array.toList_inj.mp
    rw [Array.eraseIdxIfInBounds, dif_pos (by simpa using hj)]
    simp only [List.eraseIdx_toArray, Array.toList_eraseIdx]
    exact iv_erase qs j
  rw [e] at q
  exact h _ _ (Heap.SameBut.update ..) q
theorem count_at {l : Addr} {qs : List (Int × Tok)} {k : Int} {t : Tok} {n : Nat} {Q : Value → Shared → Prop} (ho : s.heap.get? l = some (listOf (iv qs).toArray n))
    (h : Q (.int (((qs.map (·.1)).count k : Nat) : Int) s.toks) { s with toks := s.toks + 1 }) : wpAny (model prog w) A (call (.builtin "list.count") [.ref l, .int k t]) Q E s := by
  refine call_meets PySem.F.slot_list_count ⟨_, ho, rfl⟩ PySem.F.entry_list_count (PySem.F.args_list_count_2 _ _)
    (MeetsSeq.list_count l (iv qs).toArray n (.int k t) (isInt k) (fun y hy => kf_eq (iv_ints qs) y (by simpa using hy))) ⟨ho, ?_⟩
  have e : ((iv qs).toArray.toList.countP (isInt k)) = (qs.map (·.1)).count k := iv_count qs k
  rw [e]
  exact h
end
end
end
section
local macro_rules | `(tactic| walk_at "om_stop") => `(tactic| with_reducible first | show wpAny _ _ (exec (Stmt.While _ _ _ _) _) _ _ _ | show wpAny _ _ (PySem.call (Value.ref _) _ _) _ _ _ | show wpAny _ _ (subscriptTail _ _ (Value.ref _) _) _ _ _ | show wpAny _ _ (setItem (Value.ref _) _ _) _ _ _ | show wpAny _ _ (compareOp _ (Value.ref _) (Value.ref _)) _ _ _ | show wpAny _ _ (PySem.call (Value.builtin "len") _ _) _ _ _ | show wpAny _ _ (pyIter (Value.ref _)) _ _ _ | show wpAny _ _ (PySem.call (Value.type "reversed") _ _) _ _ _ | show wpAny _ _ (PySem.call (Value.builtin "list.pop") _ _) _ _ _ | show wpAny _ _ (truthy (Value.ref _)) _ _ _ | show LpEnd _ _ _ _ _ _ _ | show KswEnd _ _ _ _ _ _ _ _ _ _ _ _)
-- OmPop
section
open PySem PySem.W PySem.Calls PyProof.Rows
def popL (lt : Nat → Nat → Bool) (bs : List Nat) : List Nat :=
  if bs.length = 1 then [] else su lt 0 (bs.dropLast.set 0 (bs.getD (bs.length - 1) 0))

section
variable {prog : Program} {w : World} {A : Around} {E : Value → Shared → Prop} {s : Shared} {h₀ : Heap} {L : Addr} {m : Str → Option Value}
theorem pop_refs {l : Addr} {bs : List Addr} {n : Nat} {Q : Value → Shared → Prop} (F : Fr h₀ L s.heap m) (N : News h₀ L s.heap [(l, listOf (refs bs) n)]) (hpos : 0 < bs.length) (hsz : bs.length < 64)
    (h : ∀ h' n', Fr h₀ L h' m → News h₀ L h' [(l, listOf (refs bs.dropLast) n')] → Q (.ref (bs.getD (bs.length - 1) 0)) { s with heap := h' }) : wpAny (model prog w) A (call (.builtin "list.pop") [.ref l]) Q E s := by
  have z := N _ (List.Mem.head _)
  have hne : bs ≠ [] := by intro e; rw [e] at hpos; simp at hpos
  have e : bs.map Value.ref = bs.dropLast.map Value.ref ++ [Value.ref (bs.getD (bs.length - 1) 0)] := by
    have h1 : bs.getD (bs.length - 1) 0 = bs.getLast hne := by
      rw [List.getLast_eq_getElem]
      have : bs.length - 1 < bs.length := by omega
      simp [List.getD, this]
    conv => lhs; rw [← List.dropLast_concat_getLast hne]
    rw [List.map_append, h1]; rfl
  have ho : s.heap.get? l = some (listOf (bs.dropLast.map Value.ref ++ [Value.ref (bs.getD (bs.length - 1) 0)]).toArray n) := by rw [← e]; exact z.1
  refine pop_at ho (by rw [List.length_map, List.length_dropLast]; omega) fun h' n' hs hl => ?_
  refine h h' n' (F.change hs z.2.1 z.2.2) fun p hp => ?_
  rw [List.mem_singleton.mp hp]
  exact ⟨hl, z.2⟩
end

theorem heappop_c {w : World} {p : Program} {loose : List Str} {mean : ExcName → Option Value} {mg mb : Str → Option Value}
    (dp un : Nat) (gd : Option (List Code)) (cn : Str) (cs : Scope) (a0 : Addr) (ccd : Value) (cl : List (Str × Addr)) (outer : List Env) (A₀ : Around) (base h₀ : Heap) (L : Addr) (m : Str → Option Value) (s : Shared)
    (Q E : Value → Shared → Prop) (a : Addr) (bs : List Addr) (n : Nat) (val : Addr → Int × Int)
    (B : Below A₀ base outer h₀) (F : Fr h₀ L s.heap m) (X : (hd.heap_39 w.params).In h₀) (N : News h₀ L s.heap [(a, listOf (refs bs) n)]) (T : Top p loose mean mg mb h₀) (hk : cs.kind = .function) (hd : dp < 398) (hu : un < 800)
    (hv : ∀ b ∈ bs, Pair s.heap b (val b)) (hlen : bs.length < 64) (hpos : 0 < bs.length)
    (ret : ∀ h' tk' n', Keeps [a] s.heap h' → h'.get? a = some (listOf (refs (popL (fun x y => plt (val x) (val y)) bs)) n') → Q (.ref (bs.getD 0 0)) { s with heap := h', toks := tk' }) :
    wpAny (model PySem.Challenge.rw_om0012_01.row.prog w) (ktrTop dp un gd cn cs L a0 ccd cl outer) (call (.ref 70) [.ref a]) Q E s := by
  revert X; k_fill; intro X
  refine wpAny_call ?_
  k_dflt (refine' enter_def (binds := [(Str.ofString "heap", .ref a)]) ?k1 ?k2 ?k3 ?k4 ?k5 ?kA ?kF ?kK ?k6 ?k7 ?k8 ?k9 ?kB ?_ ?c2 ?c3 ?c4 ?c5; walk_at "om_enter")
  intro g L' h' KG F' N' B' X' T' l'
  have hna : ∀ b ∈ bs, b ≠ a := fun b hb e => by
    obtain ⟨o, _, _, _, ho, hc, _⟩ := hv b hb
    rw [e, (N _ (List.Mem.head _)).1] at ho
    have q := (Option.some.inj ho) ▸ hc
    exact absurd q (by simp)
  have hv' : ∀ b ∈ bs, Pair g b (val b) := fun b hb => (hv b hb).keep fun o e => KG b o (fun q => hna b hb (List.mem_singleton.mp q)) e
  clear N F B X T
  (try dsimp only); (try k_fold)
  walk_at "om_steps"
  (try dsimp only)
  refine pop_refs F' N' hpos hlen fun h2 n2 F2 N2 => ?_
  clear F' N'
  (try k_fold)
  walk_at "om_steps"
  rename Fr _ _ _ _ => F3
  rename News _ _ _ _ => N3
  have hdl : bs.dropLast.length = bs.length - 1 := List.length_dropLast
  refine wpAny_truthy_list (l := a) (items := refs bs.dropLast) ⟨_, (N3 _ (List.Mem.head _)).1, rfl, _, rfl⟩ (by simp; omega) ?_
  have hsz : (refs bs.dropLast).size = bs.length - 1 := by simp
  by_cases h1 : bs.length = 1
  · have e0 : (refs bs.dropLast).isEmpty = true := by unfold Array.isEmpty; rw [hsz, h1]; rfl
    rw [e0]
    simp only [Bool.not_true, Bool.false_eq_true, if_false]
    (try k_fold)
    walk_at "om_steps"
    have e1 : bs.getD (bs.length - 1) 0 = bs.getD 0 0 := by rw [h1]
    rw [e1]
    refine ret _ _ n2 (KG.trans fun b o _ e => F3.keep b o e) ?_
    unfold popL
    rw [if_pos h1]
    have e2 : bs.dropLast = [] := List.eq_nil_of_length_eq_zero (by omega)
    rw [e2] at N3
    exact (N3 _ (List.Mem.head _)).1
  · have e0 : (refs bs.dropLast).isEmpty = false := by unfold Array.isEmpty; rw [hsz]; simp; omega
    rw [e0]
    simp only [Bool.not_false, if_true]
    (try k_fold)
    walk_at "om_steps"
    refine sub_refs N3 (List.Mem.head _) (by omega) (by simp; omega) (by omega) ?_
    (try dsimp only); (try k_fold)
    walk_at "om_steps"
    rename Fr _ _ _ _ => F4
    rename News _ _ _ _ => N4
    refine set_refs F4 N4 (by omega) (by simp; omega) (by omega) ?_
    clear F4 N4
    intro h5 F5 N5
    (try dsimp only); (try k_fold)
    walk_at "om_steps"
    change Fr g L' h5 (fun y => if y = Str.ofString "returnitem" then some (Value.ref (bs.dropLast.getD 0 0)) else if y = Str.ofString "lastelt" then some (Value.ref (bs.getD (bs.length - 1) 0)) else List.lookup y [(Str.ofString "heap", Value.ref a)].reverse) at F5
    change News g L' h5 [(a, listOf (refs (bs.dropLast.set 0 (bs.getD (bs.length - 1) 0))) n2)] at N5
    have hsub : ∀ b ∈ bs.dropLast.set 0 (bs.getD (bs.length - 1) 0), b ∈ bs := fun b hb => by
      rcases List.mem_or_eq_of_mem_set hb with h | h
      · exact List.dropLast_subset _ h
      · rw [h]; exact getD_mem (by omega)
    have hl5 : (bs.dropLast.set 0 (bs.getD (bs.length - 1) 0)).length = bs.length - 1 := by rw [List.length_set]; exact hdl
    k_dflt (refine' siftup_c _ _ _ _ _ _ _ _ _ _ _ _ _ _ _ _ _ a (bs.dropLast.set 0 (bs.getD (bs.length - 1) 0)) n2 0 _ val B' F5 X' N5 T' ?c1 ?c2 ?c3 ?c4 ?c5 ?c6 ?_)
    case c1 => rfl
    case c2 => ktr_room
    case c3 => ktr_units
    case c4 => exact fun b hb => (hv' b (hsub b hb)).keep (F5.keep _)
    case c5 => omega
    case c6 => omega
    intro h8 tk8 K8 G8
    dsimp only at K8
    have z := N5 _ (List.Mem.head _)
    have F8 := K8.fr F5 (by simpa using Ne.symm z.2.1) (by intro b hb; rw [List.mem_singleton.mp hb]; exact z.2.2)
    have e1 : bs.dropLast.getD 0 0 = bs.getD 0 0 := by
      have h0 : 0 < bs.length - 1 := by omega
      have h00 : 0 < bs.length := hpos
      simp [List.getD, h0, h00]
    rw [e1] at F8
    clear F5
    (try k_fold)
    walk_at "om_steps"
    refine ret _ _ n2 ((KG.trans fun b o _ e => F8.keep b o e)) ?_
    unfold popL
    rw [if_neg h1]
    exact G8
end
-- OmComp
section
open PySem PySem.W PySem.Calls PyProof.Rows

/-- the state but for heap and tokens -/
def Like (s s' : Shared) : Prop := ∃ h tk, s' = { s with heap := h, toks := tk }
theorem Like.refl (s : Shared) : Like s s := ⟨s.heap, s.toks, rfl⟩
theorem Like.trans {a b c : Shared} (x : Like a b) (y : Like b c) : Like a c := by
  obtain ⟨h, t, rfl⟩ := x
  obtain ⟨h', t', rfl⟩ := y
  exact ⟨h', t', rfl⟩
theorem Like.mk {s : Shared} {h : Heap} {tk : Nat} : Like s { s with heap := h, toks := tk } := ⟨h, tk, rfl⟩

section
variable {prog : Program} {w : World} {A : Around} {E : Value → Shared → Prop} {s : Shared} {env : Env}

theorem append_at {l : Addr} {vs : List Value} {v : Value} {n : Nat} {Q : Value → Shared → Prop} (ho : s.heap.get? l = some (listOf vs.toArray n)) (hsz : vs.length < 2 ^ 20)
    (h : ∀ h' n', Heap.SameBut l s.heap h' → h'.get? l = some (listOf (vs ++ [v]).toArray n') → Q .none { s with heap := h' }) : wpAny (model prog w) A (call (.builtin "list.append") [.ref l, v]) Q E s := by
  have hT : s.TypeIs (.ref l) "list" := ⟨_, ho, rfl⟩
  refine wpAny_call_entry slot_list_append hT entry_list_append ?_ (args_list_append _ _)
  show wpAny _ _ (updateSeq l (·.push v) >>= fun _ => ret .none) _ _ s
  have q := get?_update_seq ho (·.push v)
  have e : vs.toArray.push v = (vs ++ [v]).toArray := by simp
  refine wpAny_bind (wpAny_updateSeq ho rfl ?_ (by rw [List.size_toArray, sizeLine_eq]; omega) (by rw [Array.size_push, List.size_toArray, sizeLine_eq]; omega))
  rw [e] at q
  exact wpAny_pure ⟨.none, rfl, h _ _ (Heap.SameBut.update ..) q⟩

/-- One clause, any walk, an invariant J over (turns, heap, what is built); S: what an element may change. The new list is at N0, the block's names at N0 + 1. -/
theorem comp1 {elt iter : Expr} {x : Str} {px : Pos} {ifs : List Expr} {scope : Scope} {cl : List (Str × Addr)} {pos : Pos} {Q : Value → Shared → Prop}
    (hclos : closureFor scope env = pure cl) (hcell : ∀ y ∈ scope.names, y.2 ≠ .cell) (hkind : scope.kind = .function)
    (hnames : ∀ y ∈ scope.names, y.2 = .local → scope.names.lookup y.1 = some .local) (hx : scope.names.lookup x = some .local)
    (h : wpAny (model prog w) A (eval iter env) (fun xv s₁ => wpAny (model prog w) A (pyIter xv) (fun it s₂ => ∃ I fp wr n P St, ∃ (J : Nat → Heap → List Value → Prop) (S : List Addr), it = .ref I ∧ Walks prog w A I fp wr n P St ∧ n < 2 ^ 19 ∧ St 0 s₂.heap ∧
      (∀ b ∈ fp, b < s₂.heap.objs.size ∧ b ∉ S) ∧ (∀ b ∈ S, b < s₂.heap.objs.size) ∧
      (∀ h, (∀ b o, s₂.heap.get? b = some o → h.get? b = some o) → J 0 h []) ∧
      (∀ i h h' ys, J i h ys → (∀ b o, b ≠ s₂.heap.objs.size → b ≠ s₂.heap.objs.size + 1 → b ∉ wr → h.get? b = some o → h'.get? b = some o) → J i h' ys) ∧
      (∀ i v s₃ m₃ ys E', i < n → P i v → Like s₂ s₃ → s₂.heap.objs.size + 2 ≤ s₃.heap.objs.size → J i s₃.heap ys → s₃.heap.Ns (compEnvC scope cl (s₂.heap.objs.size + 1) env).locals m₃ → m₃ x = some v →
        (∀ b o, b ∉ S → b ∉ wr → s₂.heap.get? b = some o → s₃.heap.get? b = some o) →
        wpAny (model prog w) A (forIn ifs true fun c r => if r = true then do let ok ← isTrue c (compEnvC scope cl (s₂.heap.objs.size + 1) env) (eval c (compEnvC scope cl (s₂.heap.objs.size + 1) env)); pure (ForInStep.yield ok) else pure (ForInStep.yield r))
          (fun ok s₄ => Like s₃ s₄ ∧ Keeps S s₃.heap s₄.heap ∧
            if ok = true then wpAny (model prog w) A (eval elt (compEnvC scope cl (s₂.heap.objs.size + 1) env)) (fun y s₅ => Like s₄ s₅ ∧ Keeps S s₄.heap s₅.heap ∧ J (i + 1) s₅.heap (ys ++ [y])) E' s₄
            else J (i + 1) s₄.heap ys) E' s₃) ∧
      (∀ h' tk ys n', h'.get? s₂.heap.objs.size = some (listOf ys.toArray n') → J n h' ys → (∀ b o, b ∉ S → b ∉ wr → s₂.heap.get? b = some o → h'.get? b = some o) → Q (.ref s₂.heap.objs.size) { s₂ with heap := h', toks := tk })) E s₁) E s)
    (hs : ∀ x, foldedSetIterable iter env x = pure x) :
    wpAny (model prog w) A (eval (.ListComp elt [⟨.Name x px, iter, ifs, 0⟩] scope pos) env) Q E s := by
  rw [eval_ListComp]
  refine wpAny_comprehension_free (use := none) rfl hs hclos hkind hnames (wpAny_mono h (fun xv s₁ h₁ => wpAny_mono h₁ (fun it s₂ h₂ => ?_) fun _ _ e => e) fun _ _ e => e)
  obtain ⟨I, fp, wr, n, P, St, J, S, rfl, W, hsz, hst, hfp, hS, h0, hJ, turn, done⟩ := h₂
  refine wpAny_newObj_type (wpAny_newFunctionEnv hcell (by intro y hy; simp at hy) (fun h₁ hns₁ hsb₁ => ?_) hkind)
  dsimp only at hns₁ hsb₁ ⊢
  generalize hH2 : s₂.heap.push { cls := .type "list", dict := none, data := .seq ([] : List Value).toArray } = H2 at hns₁ hsb₁ ⊢
  have hC : H2.objs.size = s₂.heap.objs.size + 1 := by rw [← hH2, Heap.size_push]
  have below : ∀ b, b < s₂.heap.objs.size → b ≠ H2.objs.size ∧ b ≠ s₂.heap.objs.size := fun b hb => ⟨by rw [hC]; exact Nat.ne_of_lt (Nat.lt_succ_of_lt hb), Nat.ne_of_lt hb⟩
  have hDC : s₂.heap.objs.size ≠ H2.objs.size := by rw [hC]; exact Nat.ne_of_lt (Nat.lt_succ_self _)
  have hDf : s₂.heap.objs.size ∉ fp := fun hm => Nat.lt_irrefl _ (hfp _ hm).1
  have hCf : H2.objs.size ∉ fp := fun hm => by have := (hfp _ hm).1; rw [hC] at this; exact Nat.lt_irrefl _ (Nat.lt_of_succ_lt this)
  have hDS : s₂.heap.objs.size ∉ S := fun hm => Nat.lt_irrefl _ (hS _ hm)
  have hCS : H2.objs.size ∉ S := fun hm => by have := hS _ hm; rw [hC] at this; exact Nat.lt_irrefl _ (Nat.lt_of_succ_lt this)
  have hDw : s₂.heap.objs.size ∉ wr := fun h => hDf (W.sub _ h)
  have hCw : H2.objs.size ∉ wr := fun h => hCf (W.sub _ h)
  have old : ∀ b o, s₂.heap.get? b = some o → h₁.get? b = some o := fun b o e => hsb₁.extBut b o (below b (Heap.lt_size e)).1 (Heap.get?_push_of_some _ (hH2 ▸ Heap.get?_push_of_some _ e))
  have hacc : h₁.get? s₂.heap.objs.size = some (listOf ([] : List Value).toArray 0) := hsb₁.extBut _ _ hDC (Heap.get?_push_of_some _ (hH2 ▸ Heap.get?_push_size _ rfl))
  have hst₁ : St 0 h₁ := W.frame _ _ _ hst fun b _ o e => old b o e
  have loop : ∀ s₃ : Shared, s₃ = { s₂ with heap := h₁, toks := s₂.toks + ([] : List (Str × Value)).length } →
      codeAny (model prog w) A (.compLoop (.ListComp elt [⟨.Name x px, iter, ifs, 0⟩] scope pos) 0 (.ref I) (.ref s₂.heap.objs.size) (compEnvC scope cl H2.objs.size env))
        (compPost (model prog w) A E none Q (.ref s₂.heap.objs.size) H2.objs.size) s₃ := by
    rintro s₃ rfl
    rw [hC] at hns₁ hDC hCf hCS hCw ⊢
    refine codeAny_compLoop_tests
      (fun k s' => ∃ h' tk m' ys n' i, s' = { s₂ with heap := h', toks := tk } ∧ St i h' ∧ h'.get? s₂.heap.objs.size = some (listOf ys.toArray n') ∧ h'.Ns (s₂.heap.objs.size + 1) m' ∧
        J i h' ys ∧ ys.length ≤ i ∧ i ≤ n ∧ k = n + 1 - i ∧ (∀ b o, b ∉ S → b ∉ wr → s₂.heap.get? b = some o → h'.get? b = some o)) ?_ (n + 1)
      ⟨h₁, _, _, [], 0, 0, rfl, hst₁, hacc, hns₁, h0 _ old, by simp, Nat.zero_le _, rfl, fun b o _ _ e => old b o e⟩
    rintro k s' ⟨H, tk, m', ys, n', i, rfl, hst', hacc', hn', hJ', hyl, hi, rfl, hk⟩
    by_cases hlt : i < n
    · refine W.item i _ _ _ hlt hst' fun v h₂ tk₂ hPv hst₂ hk₂ => ?_
      refine wpAny_assign_Name (wpAny_storeName_local (lookup_relabel_local hx) (hn'.at' fun o e => hk₂ _ o hCw e) (fun h₃ hn₃ hs₃ => ?_) (by simp [compEnvC, relabel, hkind]))
      have up₃ : ∀ b o, b ≠ s₂.heap.objs.size + 1 → b ∉ wr → H.get? b = some o → h₃.get? b = some o := fun b o hbC hbf e => hs₃.extBut b o hbC (hk₂ b o hbf e)
      have hst₃ : St (i + 1) h₃ := W.frame _ _ _ hst₂ fun b hb o e => hs₃.extBut b o (fun h => hCf ((show b = s₂.heap.objs.size + 1 from h) ▸ hb)) e
      have hJ₃ : J i h₃ ys := hJ i H h₃ ys hJ' fun b o _ hbC hbw e => up₃ b o hbC hbw e
      have hlt3 : s₂.heap.objs.size + 2 ≤ h₃.objs.size := hn₃.lt
      refine wpAny_mono (turn i v { s₂ with heap := h₃, toks := tk₂ + 1 } _ ys _ hlt hPv .mk hlt3 hJ₃ hn₃ (by simp) fun b o hbS hbw e => up₃ b o (Nat.ne_of_lt (Nat.lt_succ_of_lt (Heap.lt_size e))) hbw (hk b o hbS hbw e)) (fun ok s₄ h₄ => ?_) fun _ _ e => e
      obtain ⟨⟨h₄', tk₄, rfl⟩, K₄, r₄⟩ := h₄
      dsimp only at K₄ r₄
      have hst₄ : St (i + 1) h₄' := W.frame _ _ _ hst₃ fun b hb o e => K₄ b o (hfp b hb).2 e
      have hacc₄ : h₄'.get? s₂.heap.objs.size = some (listOf ys.toArray n') := K₄ _ _ hDS (up₃ _ _ hDC hDw hacc')
      have hn₄ := hn₃.at' fun o e => K₄ _ o hCS e
      have hk₄ : ∀ b o, b ∉ S → b ∉ wr → s₂.heap.get? b = some o → h₄'.get? b = some o := fun b o hbS hbw e => K₄ b o hbS (up₃ b o (Nat.ne_of_lt (Nat.lt_succ_of_lt (Heap.lt_size e))) hbw (hk b o hbS hbw e))
      cases ok with
      | false =>
        simp only [Bool.false_eq_true, if_false] at r₄ ⊢
        exact ⟨n + 1 - (i + 1), by omega, h₄', tk₄, _, ys, n', i + 1, rfl, hst₄, hacc₄, hn₄, r₄, by omega, hlt, rfl, hk₄⟩
      | true =>
        simp only [if_true] at r₄ ⊢
        refine wpAny_mono r₄ (fun y s₅ h₅ => ?_) fun _ _ e => e
        obtain ⟨⟨h₅', tk₅, rfl⟩, K₅, J₅⟩ := h₅
        dsimp only at K₅ J₅
        have hst₅ : St (i + 1) h₅' := W.frame _ _ _ hst₄ fun b hb o e => K₅ b o (hfp b hb).2 e
        have hacc₅ : h₅'.get? s₂.heap.objs.size = some (listOf ys.toArray n') := K₅ _ _ hDS hacc₄
        refine append_at hacc₅ (by omega) fun h₆ n₆ hs₆ hl₆ => ?_
        refine ⟨n + 1 - (i + 1), by omega, h₆, tk₅, _, ys ++ [y], n₆, i + 1, rfl, W.frame _ _ _ hst₅ fun b hb o e => hs₆.extBut b o (fun h => hDf (h ▸ hb)) e, hl₆, (hn₄.at' fun o e => K₅ _ o hCS e).at' fun o e => hs₆.extBut _ o (Ne.symm hDC) e,
          hJ _ _ _ _ J₅ fun b o hbD _ _ e => hs₆.extBut b o hbD e, by simp; omega, hlt, rfl, fun b o hbS hbw e => hs₆.extBut b o (Nat.ne_of_lt (Heap.lt_size e)) (K₅ b o hbS (hk₄ b o hbS hbw e))⟩
    · have hin : i = n := by omega
      subst hin
      refine W.done _ _ _ hst' fun h₂ tk₂ hk₂ => ?_
      refine ⟨m', hn'.at' fun o e => hk₂ _ o hCw e, fun h₃ hs₃ => ?_⟩
      have up : ∀ b o, b ≠ s₂.heap.objs.size + 1 → b ∉ wr → H.get? b = some o → h₃.get? b = some o := fun b o hbC hbf e => hs₃.extBut b o hbC (hk₂ b o hbf e)
      exact done h₃ tk₂ ys n' (up _ _ hDC hDw hacc') (hJ _ H h₃ ys hJ' fun b o _ hbC hbw e => up b o hbC hbw e) fun b o hbS hbw e => up b o (Nat.ne_of_lt (Nat.lt_succ_of_lt (Heap.lt_size e))) hbw (hk b o hbS hbw e)
  exact codeAny_compStart_list (loop _ rfl) (W.self 0 _ _ _ hst₁ (loop _ rfl))

/-- what comp1 asks behind pyIter -/
def CompAsk (prog : Program) (w : World) (A : Around) (env : Env) (scope : Scope) (cl : List (Str × Addr)) (x : Str) (ifs : List Expr) (elt : Expr) (Q : Value → Shared → Prop) (it : Value) (s₂ : Shared) : Prop :=
  ∃ I fp wr n P St, ∃ (J : Nat → Heap → List Value → Prop) (S : List Addr), it = .ref I ∧ Walks prog w A I fp wr n P St ∧ n < 2 ^ 19 ∧ St 0 s₂.heap ∧
      (∀ b ∈ fp, b < s₂.heap.objs.size ∧ b ∉ S) ∧ (∀ b ∈ S, b < s₂.heap.objs.size) ∧
      (∀ h, (∀ b o, s₂.heap.get? b = some o → h.get? b = some o) → J 0 h []) ∧
      (∀ i h h' ys, J i h ys → (∀ b o, b ≠ s₂.heap.objs.size → b ≠ s₂.heap.objs.size + 1 → b ∉ wr → h.get? b = some o → h'.get? b = some o) → J i h' ys) ∧
      (∀ i v s₃ m₃ ys E', i < n → P i v → Like s₂ s₃ → s₂.heap.objs.size + 2 ≤ s₃.heap.objs.size → J i s₃.heap ys → s₃.heap.Ns (compEnvC scope cl (s₂.heap.objs.size + 1) env).locals m₃ → m₃ x = some v →
        (∀ b o, b ∉ S → b ∉ wr → s₂.heap.get? b = some o → s₃.heap.get? b = some o) →
        wpAny (model prog w) A (forIn ifs true fun c r => if r = true then do let ok ← isTrue c (compEnvC scope cl (s₂.heap.objs.size + 1) env) (eval c (compEnvC scope cl (s₂.heap.objs.size + 1) env)); pure (ForInStep.yield ok) else pure (ForInStep.yield r))
          (fun ok s₄ => Like s₃ s₄ ∧ Keeps S s₃.heap s₄.heap ∧
            if ok = true then wpAny (model prog w) A (eval elt (compEnvC scope cl (s₂.heap.objs.size + 1) env)) (fun y s₅ => Like s₄ s₅ ∧ Keeps S s₄.heap s₅.heap ∧ J (i + 1) s₅.heap (ys ++ [y])) E' s₄
            else J (i + 1) s₄.heap ys) E' s₃) ∧
      (∀ h' tk ys n', h'.get? s₂.heap.objs.size = some (listOf ys.toArray n') → J n h' ys → (∀ b o, b ∉ S → b ∉ wr → s₂.heap.get? b = some o → h'.get? b = some o) → Q (.ref s₂.heap.objs.size) { s₂ with heap := h', toks := tk })
theorem comp_ask {elt iter : Expr} {x : Str} {px : Pos} {ifs : List Expr} {scope : Scope} {cl : List (Str × Addr)} {pos : Pos} {Q : Value → Shared → Prop}
    (hclos : closureFor scope env = pure cl) (hcell : ∀ y ∈ scope.names, y.2 ≠ .cell) (hkind : scope.kind = .function)
    (hnames : ∀ y ∈ scope.names, y.2 = .local → scope.names.lookup y.1 = some .local) (hx : scope.names.lookup x = some .local)
    (hs : ∀ x, foldedSetIterable iter env x = pure x)
    (h : wpAny (model prog w) A (eval iter env) (fun xv s₁ => wpAny (model prog w) A (pyIter xv) (CompAsk prog w A env scope cl x ifs elt Q) E s₁) E s) :
    wpAny (model prog w) A (eval (.ListComp elt [⟨.Name x px, iter, ifs, 0⟩] scope pos) env) Q E s := comp1 hclos hcell hkind hnames hx h hs

def CompTurn (prog : Program) (w : World) (A : Around) (cenv : Env) (S : List Addr) (ifs : List Expr) (elt : Expr) (J : Heap → List Value → Prop) (ys : List Value) (s₃ : Shared) : Prop :=
  ∀ E', wpAny (model prog w) A (forIn ifs true fun c r => if r = true then do let ok ← isTrue c cenv (eval c cenv); pure (ForInStep.yield ok) else pure (ForInStep.yield r))
          (fun ok s₄ => Like s₃ s₄ ∧ Keeps S s₃.heap s₄.heap ∧
            if ok = true then wpAny (model prog w) A (eval elt cenv) (fun y s₅ => Like s₄ s₅ ∧ Keeps S s₄.heap s₅.heap ∧ J s₅.heap (ys ++ [y])) E' s₄
            else J s₄.heap ys) E' s₃
theorem turn0 {cenv : Env} {S : List Addr} {elt : Expr} {J : Heap → List Value → Prop} {ys : List Value} {s₃ : Shared}
    (h : ∀ E', wpAny (model prog w) A (eval elt cenv) (fun y s₅ => Like s₃ s₅ ∧ Keeps S s₃.heap s₅.heap ∧ J s₅.heap (ys ++ [y])) E' s₃) : CompTurn prog w A cenv S [] elt J ys s₃ := fun E' => by
  rw [List.forIn_nil]
  exact wpAny_pure ⟨.refl _, .refl _ _, by simp only [if_true]; exact h E'⟩
theorem turn1 {cenv : Env} {S : List Addr} {c elt : Expr} {J : Heap → List Value → Prop} {ys : List Value} {s₃ : Shared}
    (h : ∀ E', wpAny (model prog w) A (isTrue c cenv (eval c cenv)) (fun ok s₄ => Like s₃ s₄ ∧ Keeps S s₃.heap s₄.heap ∧
            if ok = true then wpAny (model prog w) A (eval elt cenv) (fun y s₅ => Like s₄ s₅ ∧ Keeps S s₄.heap s₅.heap ∧ J s₅.heap (ys ++ [y])) E' s₄
            else J s₄.heap ys) E' s₃) : CompTurn prog w A cenv S [c] elt J ys s₃ := fun E' => wpAny_tests_one (h E')

/-- a list as the source -/
theorem comp_list {l : Addr} {vs : List Value} {elt : Expr} {x : Str} {ifs : List Expr} {scope : Scope} {cl : List (Str × Addr)} {Q : Value → Shared → Prop} (J : Nat → Heap → List Value → Prop) (S : List Addr)
    (hh : A.handled = none) (hl : s.heap.IsList l vs.toArray) (hsz : vs.length < 2 ^ 19) (hlS : l ∉ S) (hS : ∀ b ∈ S, b < s.heap.objs.size)
    (h0 : ∀ h, (∀ b o, s.heap.get? b = some o → h.get? b = some o) → J 0 h [])
    (hJ : ∀ i h h' ys, J i h ys → (∀ b o, (b < s.heap.objs.size ∨ s.heap.objs.size + 3 ≤ b) → h.get? b = some o → h'.get? b = some o) → J i h' ys)
    (turn : ∀ i v s₃ m₃ ys, vs[i]? = some v → Like s s₃ → s.heap.objs.size + 3 ≤ s₃.heap.objs.size → J i s₃.heap ys → s₃.heap.Ns (compEnvC scope cl (s.heap.objs.size + 2) env).locals m₃ → m₃ x = some v → Keeps S s.heap s₃.heap →
      CompTurn prog w A (compEnvC scope cl (s.heap.objs.size + 2) env) S ifs elt (J (i + 1)) ys s₃)
    (done : ∀ h' tk ys n', h'.get? (s.heap.objs.size + 1) = some (listOf ys.toArray n') → J vs.length h' ys → Keeps S s.heap h' → Q (.ref (s.heap.objs.size + 1)) { s with heap := h', toks := tk }) :
    wpAny (model prog w) A (pyIter (.ref l)) (CompAsk prog w A env scope cl x ifs elt Q) E s := by
  obtain ⟨ol, hol, hoc⟩ := id hl
  have hlt := Heap.lt_size hol
  refine wpAny_pyIter_list hl ?_
  have hsize : ∀ o : Obj, (s.heap.push o).objs.size = s.heap.objs.size + 1 := fun o => Heap.size_push ..
  refine ⟨s.heap.objs.size, [s.heap.objs.size, l], [s.heap.objs.size], vs.toArray.size, _, _, J, S, rfl, Walks.list hh _ _ (Nat.ne_of_lt hlt) vs.toArray, by simpa using hsz, ⟨⟨_, Heap.get?_push_size _ rfl, rfl, rfl⟩, hl.push _⟩, ?_, ?_, ?_, ?_, ?_, ?_⟩
  · intro b hb
    dsimp only
    rw [hsize]
    rcases List.mem_cons.mp hb with rfl | hb
    · exact ⟨Nat.lt_succ_self _, fun h => Nat.lt_irrefl _ (hS _ h)⟩
    · rw [List.mem_singleton.mp hb]
      exact ⟨Nat.lt_succ_of_lt hlt, hlS⟩
  · intro b hb
    dsimp only
    rw [hsize]
    exact Nat.lt_succ_of_lt (hS b hb)
  · exact fun h hk => h0 h fun b o e => hk b o (Heap.get?_push_of_some _ e)
  · intro i h h' ys j hk
    refine hJ i h h' ys j fun b o hb e => hk b o ?_ ?_ ?_ e
    · dsimp only; rw [hsize]; omega
    · dsimp only; rw [hsize]; omega
    · simp only [List.mem_singleton]; omega
  · intro i v s₃ m₃ ys E' hi hP hL hsz3 hj hn hm hk
    dsimp only at hsz3 hn hk hL ⊢
    rw [hsize] at hsz3 hn ⊢
    refine turn i v s₃ m₃ ys (by simpa using hP) ?_ hsz3 hj hn hm (fun b o nb e => hk b o nb (by simp only [List.mem_singleton]; exact Nat.ne_of_lt (Heap.lt_size e)) (Heap.get?_push_of_some _ e)) E'
    obtain ⟨h, tk, rfl⟩ := hL
    exact ⟨h, tk, rfl⟩
  · intro h' tk ys n' hD hj hk
    dsimp only at hD hk ⊢
    rw [hsize] at hD ⊢
    have hj' : J vs.length h' ys := by simpa using hj
    exact done h' tk ys n' hD hj' (fun b o nb e => hk b o nb (by simp only [List.mem_singleton]; exact Nat.ne_of_lt (Heap.lt_size e)) (Heap.get?_push_of_some _ e))
end
end
end
section
local macro_rules | `(tactic| walk_at "om_stop") => `(tactic| with_reducible first | show wpAny _ _ (exec (Stmt.While _ _ _ _) _) _ _ _ | show wpAny _ _ (PySem.call (Value.ref _) _ _) _ _ _ | show wpAny _ _ (subscriptTail _ _ (Value.ref _) _) _ _ _ | show wpAny _ _ (setItem (Value.ref _) _ _) _ _ _ | show wpAny _ _ (compareOp _ (Value.ref _) (Value.ref _)) _ _ _ | show wpAny _ _ (PySem.call (Value.builtin "len") _ _) _ _ _ | show wpAny _ _ (pyIter (Value.ref _)) _ _ _ | show wpAny _ _ (PySem.call (Value.type "reversed") _ _) _ _ _ | show wpAny _ _ (PySem.call (Value.builtin "list.pop") _ _) _ _ _ | show wpAny _ _ (truthy (Value.ref _)) _ _ _ | show wpAny _ _ (PySem.call (Value.type "list") _ _) _ _ _ | show wpAny _ _ (eval (PySem.Expr.ListComp _ _ _ _) _) _ _ _ | show wpAny _ _ (binaryOp PySem.Operator.Add (Value.ref _) (Value.ref _)) _ _ _ | show LpEnd _ _ _ _ _ _ _ | show KswEnd _ _ _ _ _ _ _ _ _ _ _ _)
-- OmOff
section
open PySem PySem.W PySem.Calls PyProof.Rows
def popAll (lt : Nat → Nat → Bool) : Nat → List Nat → List Nat × List Nat
  | 0, h => ([], h)
  | k + 1, h => (h.getD 0 0 :: (popAll lt k (popL lt h)).1, (popAll lt k (popL lt h)).2)
def offL (lt : Nat → Nat → Bool) (bs : List Nat) : List Nat :=
  (popAll lt bs.length (hpLoop lt (bs.length / 2) bs)).1 ++ (popAll lt bs.length (hpLoop lt (bs.length / 2) bs)).2

theorem popL_sub (lt : Nat → Nat → Bool) (hb : List Nat) (hpos : 0 < hb.length) : (popL lt hb).length = hb.length - 1 ∧ ∀ b ∈ popL lt hb, b ∈ hb := by
  unfold popL
  split
  · rename_i h
    exact ⟨by simp [h], fun b hb => nomatch hb⟩
  · rename_i h
    have hl : (hb.dropLast.set 0 (hb.getD (hb.length - 1) 0)).length = hb.length - 1 := by rw [List.length_set, List.length_dropLast]
    have hp := su_perm lt 0 (hb.dropLast.set 0 (hb.getD (hb.length - 1) 0)) (by omega)
    refine ⟨by rw [hp.length_eq, hl], fun b hb' => ?_⟩
    rcases List.mem_or_eq_of_mem_set (hp.mem_iff.mp hb') with h | h
    · exact List.dropLast_subset _ h
    · rw [h]; exact getD_mem (by omega)

theorem popAll_len (lt : Nat → Nat → Bool) : ∀ (k : Nat) (h : List Nat), (popAll lt k h).1.length = k
  | 0, _ => rfl
  | k + 1, h => by simp [popAll, popAll_len lt k]
theorem plt_asym {x y : Int × Int} (h : plt x y = true) : plt y x = false := by
  unfold plt at *
  simp only [decide_eq_true_eq, decide_eq_false_iff_not] at *
  omega
theorem plt_trans {x y z : Int × Int} (h1 : plt y x = false) (h2 : plt z y = false) : plt z x = false := by
  unfold plt at *
  simp only [decide_eq_false_iff_not] at *
  omega
theorem plt_ord (val : Nat → Int × Int) : Ord (fun x y => plt (val x) (val y)) := ⟨fun _ _ h => plt_asym h, fun _ _ _ h1 h2 => plt_trans h1 h2⟩

theorem off_c {w : World} {p : Program} {loose : List Str} {mean : ExcName → Option Value} {mg mb : Str → Option Value}
    (dp un : Nat) (gd : Option (List Code)) (cn : Str) (cs : Scope) (a0 : Addr) (ccd : Value) (cl : List (Str × Addr)) (outer : List Env) (A₀ : Around) (base h₀ : Heap) (L : Addr) (m : Str → Option Value) (s : Shared)
    (Q E : Value → Shared → Prop) (l : Addr) (bs : List Addr) (n : Nat) (val : Addr → Int × Int)
    (B : Below A₀ base outer h₀) (F : Fr h₀ L s.heap m) (X : (hd.heap_39 w.params).In h₀) (T : Top p loose mean mg mb h₀) (hk : cs.kind = .function) (hd : dp < 390) (hu : un < 700)
    (hl : s.heap.get? l = some (listOf (refs bs) n))
    (hv : ∀ b ∈ bs, Pair s.heap b (val b)) (hlen : bs.length < 64)
    (ret : ∀ r h' tk' n', Keeps [] s.heap h' → s.heap.get? r = none → h'.get? r = some (listOf (refs (offL (fun x y => plt (val x) (val y)) bs)) n') → Q (.ref r) { s with heap := h', toks := tk' }) :
    wpAny (model PySem.Challenge.rw_om0012_01.row.prog w) (ktrTop dp un gd cn cs L a0 ccd cl outer) (call (.ref 108) [.ref l]) Q E s := by
  revert X; k_fill; intro X
  have N : News h₀ L s.heap [] := News.nil
  refine wpAny_call ?_
  k_dflt (refine' enter_defC (binds := [(Str.ofString "items", .ref l)]) ?k1 ?k2 ?k3 ?k4 ?k5 ?kA ?kF ?kK ?k6 ?k7 ?k8 ?k9 ?kB ?kD ?_ ?c2 ?c3 ?c4; walk_at "om_enterC")
  intro g L' h' tk' cells KG F' N' Y B' X' T' l'
  k_cells Y
  (try simp only [List.cons_append, List.nil_append] at N')
  clear N F B X T
  (try dsimp only); (try k_fold)
  walk_at "om_steps"
  have hg : g.get? l = some (listOf (refs bs) n) := KG l _ (by simp) hl
  have hvg : ∀ b ∈ bs, Pair g b (val b) := fun b hb => (hv b hb).keep fun o e => KG b o (by simp) e
  refine list_copyK F' N' (items := refs bs) ⟨_, F'.keep _ _ hg, rfl, n, rfl⟩ ?_ (by rw [sizeLine_eq]; simp; omega)
  intro D c h2 F2 N2 l2
  clear F' N'
  (try k_lt l2)
  (try k_fold)
  walk_at "om_steps"
  rename Fr _ _ _ _ => F3
  rename News _ _ _ _ => N3
  have z3 := N3 _ (List.Mem.head _)
  have N4 : News g L' _ [(D, listOf (refs bs) c)] := fun p hp => N3 p (by rw [List.mem_singleton.mp hp]; exact .head _)
  have zc := N3 _ (List.Mem.tail _ (List.Mem.head _))
  k_dflt (refine' heapify_c _ _ _ _ _ _ _ _ _ _ _ _ _ _ _ _ _ D bs c val B' F3 X' N4 T' ?c1 ?c2 ?c3 ?c4 ?c5 ?_)
  case c1 => rfl
  case c2 => ktr_room
  case c3 => ktr_units
  case c4 => exact fun b hb => (hvg b hb).keep (F3.keep _)
  case c5 => omega
  intro h8 tk8 K8 G8
  dsimp only at K8
  have F8 := K8.fr F3 (by simpa using Ne.symm z3.2.1) (by intro b hb; rw [List.mem_singleton.mp hb]; exact z3.2.2)
  have hDc : L' + 1 ≠ D := Nat.ne_of_lt l2
  have N8 : News g L' h8 [(D, listOf (refs (hpLoop (fun x y => plt (val x) (val y)) (bs.length / 2) bs)) c), (L' + 1, _)] := fun p hp => by
    rcases List.mem_cons.mp hp with rfl | hp
    · exact ⟨G8, z3.2⟩
    · rw [List.mem_singleton.mp hp]
      exact ⟨K8 _ _ (by simpa using hDc) zc.1, zc.2⟩
  clear F3 N3 N4
  (try k_fold)
  walk_at "om_steps"
  k_dflt (refine comp_ask (by with_unfolding_all rfl) (by decide) (by rfl) (by decide) (by rfl) (by intro _; rfl) ?_)
  walk_at "om_steps"
  have zD := N8 _ (List.Mem.head _)
  have zC := N8 _ (List.Mem.tail _ (List.Mem.head _))
  have hlD : l ≠ D := fun e => by rw [e, zD.2.2] at hg; cases hg
  have hpp : (hpLoop (fun x y => plt (val x) (val y)) (bs.length / 2) bs).Perm bs := (hp_heap (plt_ord val) bs).1
  refine comp_list (vs := bs.map Value.ref) (fun i h ys => ∃ hb done n', h.get? D = some (listOf (refs hb) n') ∧ ys = done.map Value.ref ∧ hb.length = bs.length - i ∧ (∀ b ∈ hb, b ∈ bs) ∧
      (popAll (fun x y => plt (val x) (val y)) bs.length (hpLoop (fun x y => plt (val x) (val y)) (bs.length / 2) bs)).1 = done ++ (popAll (fun x y => plt (val x) (val y)) (bs.length - i) hb).1 ∧
      (popAll (fun x y => plt (val x) (val y)) bs.length (hpLoop (fun x y => plt (val x) (val y)) (bs.length / 2) bs)).2 = (popAll (fun x y => plt (val x) (val y)) (bs.length - i) hb).2) [D]
    (by rfl) ⟨_, F8.keep _ _ hg, rfl, n, rfl⟩ (by rw [List.length_map]; omega) (by simpa using hlD) (by intro b hb; rw [List.mem_singleton.mp hb]; exact Heap.lt_size zD.1) ?_ ?_ ?_ ?_
  · intro h hk
    exact ⟨_, [], c, hk _ _ zD.1, rfl, by rw [hpp.length_eq]; rfl, fun b hb => hpp.mem_iff.mp hb, by simp, by simp⟩
  · rintro i h h' ys ⟨hb, dn, n', e1, e2⟩ hk
    exact ⟨hb, dn, n', hk D _ (.inl (Heap.lt_size zD.1)) e1, e2⟩
  · rintro i v s₃ m₃ ys hv3 ⟨h3, tk3, rfl⟩ hlt3 ⟨hb, dn, n', hD3, rfl, hlb, hsub, hp1, hp2⟩ hn hm K3
    refine turn0 fun E' => ?_
    have hi : i < bs.length := by
      rcases Nat.lt_or_ge i bs.length with h | h
      · exact h
      · rw [List.getElem?_eq_none (by rw [List.length_map]; exact h)] at hv3; cases hv3
    dsimp only at K3 hD3 hn ⊢
    have F9 := K3.fr F8 (by simpa using Ne.symm zD.2.1) (by intro b hb; rw [List.mem_singleton.mp hb]; exact zD.2.2)
    have N9 : News g L' h3 [(D, listOf (refs hb) n'), (L' + 1, _)] := fun p hp => by
      rcases List.mem_cons.mp hp with rfl | hp
      · exact ⟨hD3, zD.2⟩
      · rw [List.mem_singleton.mp hp]
        exact ⟨K3 _ _ (by simpa using hDc) zC.1, zC.2⟩
    clear F8 N8
    (try k_fold)
    walk_at "om_steps"
    have N10 : News g L' h3 [(D, listOf (refs hb) n')] := fun p hp => N9 p (by rw [List.mem_singleton.mp hp]; exact .head _)
    k_dflt (refine' heappop_c _ _ _ _ _ _ _ _ _ _ _ _ _ _ _ _ _ D hb n' val B' F9 X' N10 T' ?c1 ?c2 ?c3 ?c4 ?c5 ?c6 ?_)
    case c1 => rfl
    case c2 => ktr_room
    case c3 => ktr_units
    case c4 => exact fun b hb' => (hvg b (hsub b hb')).keep (F9.keep _)
    case c5 => omega
    case c6 => omega
    intro h11 tk11 n11 K11 G11
    (try k_unfold)
    have hpl : (popL (fun x y => plt (val x) (val y)) hb).length = hb.length - 1 ∧ ∀ b ∈ popL (fun x y => plt (val x) (val y)) hb, b ∈ hb := popL_sub _ hb (by omega)
    have e1 : bs.length - i = (bs.length - (i + 1)) + 1 := by omega
    refine ⟨.mk, K11, popL (fun x y => plt (val x) (val y)) hb, dn ++ [hb.getD 0 0], n11, G11, by simp, by rw [hpl.1, hlb]; omega, fun b hb' => hsub b (hpl.2 b hb'), ?_, ?_⟩
    · rw [hp1, e1]
      simp [popAll]
    · rw [hp2, e1]
      rfl
  · rintro h11 tk11 ys n11 hD11 ⟨hb, dn, n', hD3, rfl, hlb, hsub, hp1, hp2⟩ K11
    have F9 := K11.fr F8 (by simpa using Ne.symm zD.2.1) (by intro b hb; rw [List.mem_singleton.mp hb]; exact zD.2.2)
    have N9 : News g L' h11 [(D, listOf (refs hb) n'), (L' + 1, _)] := fun p hp => by
      rcases List.mem_cons.mp hp with rfl | hp
      · exact ⟨hD3, zD.2⟩
      · rw [List.mem_singleton.mp hp]
        exact ⟨K11 _ _ (by simpa using hDc) zC.1, zC.2⟩
    clear F8 N8
    (try k_fold)
    walk_at "om_steps"
    have e0 : bs.length - (List.map Value.ref bs).length = 0 := by rw [List.length_map]; omega
    have hpa := popAll_len (fun x y => plt (val x) (val y)) bs.length (hpLoop (fun x y => plt (val x) (val y)) (bs.length / 2) bs)
    rw [e0] at hp1 hp2
    simp only [popAll, List.append_nil] at hp1 hp2
    rw [hp1] at hpa
    refine add_lists F9 N9 ⟨_, hD11, rfl, _, rfl⟩ ⟨_, hD3, rfl, _, rfl⟩ ?_ (by rw [sizeLine_eq, List.length_map, List.length_map]; omega)
    intro h12 F12 N12
    (try dsimp only); (try k_fold)
    walk_at "om_steps"
    have z12 := N12 _ (List.Mem.head _)
    refine ret _ _ _ 0 (KG.trans fun b o _ e => F12.keep b o e) ?_ ?_
    · cases q : s.heap.get? h11.objs.size with
      | none => rfl
      | some o => have := KG _ _ (by simp) q; rw [z12.2.2] at this; cases this
    · rw [z12.1]
      unfold offL
      rw [hp1, hp2, refs, List.map_append]
end
-- OmSw
section
open PySem PySem.W PySem.Calls PyProof.Rows
def tiltN (vs : List (Int × Int)) : Nat → Int
  | 0 => 0
  | i + 1 => tiltN vs i + (vs.getD i (0, 0)).2
def builtN (vs : List (Int × Int)) : Nat → Int
  | 0 => 0
  | i + 1 => builtN vs i + tiltN vs (i + 1) * tiltN vs (i + 1) * ((vs.getD (i + 1) (0, 0)).1 - (vs.getD i (0, 0)).1)

section
variable {prog : Program} {w : World} {A : Around} {E : Value → Shared → Prop} {s : Shared}
theorem sub_is {value slice : PySem.Expr} {l : Addr} {bs : List Addr} {k : Int} {u : Tok} {Q : Value → Shared → Prop}
    (hL : s.heap.IsList l (refs bs)) (h0 : 0 ≤ k) (hk : k.toNat < bs.length) (hhi : k < 2 ^ 63) (h : Q (.ref (bs.getD k.toNat 0)) s)
    (hs : subscripted slice false (.ref l) (.int k u) = operate [.ref l, .int k u] (getItem (.ref l) (.int k u)) := by with_unfolding_all rfl) :
    wpAny (model prog w) A (subscriptTail value slice (.ref l) (.int k u)) Q E s := by
  refine tail_any hL.typeIs slot_list_getitem.lookup (wpAny_getItem_list hL h0 hhi ?_ h) hs
  simp [hk]
theorem sub_fst {value slice : PySem.Expr} {b : Addr} {v : Int × Int} {u : Tok} {Q : Value → Shared → Prop} (hp : Pair s.heap b v) (h : ∀ t, Q (.int v.1 t) s)
    (hs : subscripted slice false (.ref b) (.int 0 u) = operate [.ref b, .int 0 u] (getItem (.ref b) (.int 0 u)) := by with_unfolding_all rfl) :
    wpAny (model prog w) A (subscriptTail value slice (.ref b) (.int 0 u)) Q E s := by
  obtain ⟨o, t, u', n, ho, hc, hd⟩ := hp
  exact item_tupleT (l := [.int v.1 t, .int v.2 u']) ⟨o, ho, hc, n, hd⟩ (by decide) (by decide) (j := 0) (by rfl) rfl (h t) hs
theorem sub_snd {value slice : PySem.Expr} {b : Addr} {v : Int × Int} {u : Tok} {Q : Value → Shared → Prop} (hp : Pair s.heap b v) (h : ∀ t, Q (.int v.2 t) s)
    (hs : subscripted slice false (.ref b) (.int 1 u) = operate [.ref b, .int 1 u] (getItem (.ref b) (.int 1 u)) := by with_unfolding_all rfl) :
    wpAny (model prog w) A (subscriptTail value slice (.ref b) (.int 1 u)) Q E s := by
  obtain ⟨o, t, u', n, ho, hc, hd⟩ := hp
  exact item_tupleT (l := [.int v.1 t, .int v.2 u']) ⟨o, ho, hc, n, hd⟩ (by decide) (by decide) (j := 1) (by rfl) rfl (h u') hs
end

section
variable {prog : Program} {w : World} {A : Around} {E : Value → Shared → Prop} {s : Shared}
theorem mul_i {a b : Int} {t u : Tok} {Q : Value → Shared → Prop} (h1 : -(2 ^ 60) < a) (h2 : a < 2 ^ 60) (h : Q (.int (a * b) s.toks) { s with toks := s.toks + 1 }) : wpAny (model prog w) A (binaryOp .Mult (.int a t) (.int b u)) Q E s :=
  mul_int h (.of_left (intBits_le_64 (by omega) (by omega)))
end
theorem sq_bound {a : Int} (h1 : -64 ≤ a) (h2 : a ≤ 64) : 0 ≤ a * a ∧ a * a ≤ 4096 := by
  have e : a * a = ((a.natAbs * a.natAbs : Nat) : Int) := (Int.natAbs_mul_self).symm
  have : a.natAbs * a.natAbs ≤ 64 * 64 := Nat.mul_le_mul (by omega) (by omega)
  omega
theorem tilt_bound {vs : List (Int × Int)} (h : ∀ v ∈ vs, v.2 = 1 ∨ v.2 = -1) : ∀ i, i ≤ vs.length → -(i : Int) ≤ tiltN vs i ∧ tiltN vs i ≤ i
  | 0, _ => by simp [tiltN]
  | i + 1, hi => by
    have ih := tilt_bound h i (by omega)
    have hm : vs.getD i (0, 0) ∈ vs := by
      have : i < vs.length := by omega
      simp [List.getD, this]
    have := h _ hm
    simp only [tiltN]
    omega

theorem swept_c {w : World} {p : Program} {loose : List Str} {mean : ExcName → Option Value} {mg mb : Str → Option Value}
    (dp un : Nat) (gd : Option (List Code)) (cn : Str) (cs : Scope) (a0 : Addr) (ccd : Value) (cl : List (Str × Addr)) (outer : List Env) (A₀ : Around) (base h₀ : Heap) (L : Addr) (m : Str → Option Value) (s : Shared)
    (Q E : Value → Shared → Prop) (l : Addr) (bs : List Addr) (n : Nat) (val : Addr → Int × Int)
    (B : Below A₀ base outer h₀) (F : Fr h₀ L s.heap m) (X : (hd.heap_39 w.params).In h₀) (T : Top p loose mean mg mb h₀) (hk : cs.kind = .function) (hd : dp < 390) (hu : un < 700)
    (hl : s.heap.get? l = some (listOf (refs bs) n))
    (hv : ∀ b ∈ bs, Pair s.heap b (val b)) (hpos : 0 < bs.length) (hlen : bs.length < 64) (hc : ∀ b ∈ bs, (val b).2 = 1 ∨ (val b).2 = -1) (hx : ∀ b ∈ bs, -2 ^ 20 ≤ (val b).1 ∧ (val b).1 ≤ 2 ^ 20)
    (ret : ∀ h' tk' t', Keeps [] s.heap h' → Q (.int (builtN (bs.map val) (bs.length - 1)) t') { s with heap := h', toks := tk' }) :
    wpAny (model PySem.Challenge.rw_om0012_01.row.prog w) (ktrTop dp un gd cn cs L a0 ccd cl outer) (call (.ref 115) [.ref l]) Q E s := by
  revert X; k_fill; intro X
  have N : News h₀ L s.heap [] := News.nil
  refine wpAny_call ?_
  k_dflt (refine' enter_def (binds := [(Str.ofString "marked", .ref l)]) ?k1 ?k2 ?k3 ?k4 ?k5 ?kA ?kF ?kK ?k6 ?k7 ?k8 ?k9 ?kB ?_ ?c2 ?c3 ?c4 ?c5; walk_at "om_enter")
  intro g L' h' KG F' N' B' X' T' l'
  clear N F B X T
  have hg : g.get? l = some (listOf (refs bs) n) := KG l _ (by simp) hl
  have hvg : ∀ b ∈ bs, Pair g b (val b) := fun b hb => (hv b hb).keep fun o e => KG b o (by simp) e
  (try dsimp only); (try k_fold)
  walk_at "om_steps"
  rename Fr _ _ _ _ => F1
  rename News _ _ _ _ => N1
  refine len_list (items := refs bs) ⟨_, F1.keep _ _ hg, rfl, n, rfl⟩ (by simp; omega) ?_
  (try k_fold)
  walk_at "om_steps"
  rename Fr _ _ _ _ => F1
  rename News _ _ _ _ => N1
  rename IsRange _ _ _ _ _ _ _ _ => R1
  have ers : ((refs bs).size : Int) - 1 = ((bs.length - 1 : Nat) : Int) := by simp; omega
  rw [ers] at R1
  have hnil := (News.nil : News g L' h' [])
  refine for_range (n := bs.length - 1) (by rfl) R1 (small_up (by omega) (by omega)) (by rw [size_up]; omega) F1 N1
    (fun i m₁ news₁ => news₁ = [] ∧ m₁ (Str.ofString "marked") = some (.ref l) ∧ (∃ t, m₁ (Str.ofString "tilt") = some (.int (tiltN (bs.map val) i) t)) ∧ ∃ t, m₁ (Str.ofString "built") = some (.int (builtN (bs.map val) i) t))
    ⟨rfl, by rfl, ⟨_, by rfl⟩, ⟨_, by rfl⟩⟩ ?_ ?_
  · rintro i t m₁ news₁ h3 tk3 oI hi ⟨rfl, hm1, ⟨t1, hm2⟩, ⟨t2, hm3⟩⟩ hoff F3 N3
    rw [pin hm1, pin hm2, pin hm3] at F3
    have ei : (0 : Int) + (i : Int) * 1 = ((i : Nat) : Int) := by omega
    rw [ei] at F3
    change Fr g L' h3 _ at F3
    change News g L' h3 _ at N3
    clear F1 N1
    (try dsimp only); (try k_fold)
    dsimp only at hoff N3
    walk_at "om_steps"
    have hL3 : h3.IsList l (refs bs) := ⟨_, F3.keep _ _ hg, rfl, n, rfl⟩
    refine sub_is hL3 (by omega) (by omega) (by omega) ?_
    simp only [Int.toNat_natCast]
    walk_at "om_steps"
    refine sub_snd ((hvg _ (getD_mem (by omega))).keep (F3.keep _)) fun t4 => ?_
    (try dsimp only); (try k_fold)
    walk_at "om_steps"
    have ev : ∀ j, j < bs.length → val (bs.getD j 0) = (bs.map val).getD j (0, 0) := fun j hj => by simp [List.getD, hj]
    have et : tiltN (bs.map val) i + (val (bs.getD i 0)).2 = tiltN (bs.map val) (i + 1) := by rw [ev i (by omega)]; rfl
    have tb := tilt_bound (vs := bs.map val) (by intro v hv; obtain ⟨b, hb, rfl⟩ := List.mem_map.mp hv; exact hc b hb) (i + 1) (by rw [List.length_map]; omega)
    rename Fr _ _ _ _ => F4
    rename News _ _ _ _ => N4
    rw [et] at F4 ⊢
    refine mul_i (by omega) (by omega) ?_
    (try dsimp only); (try k_fold)
    walk_at "om_steps"
    have hL4 := hL3
    clear hL4
    refine sub_is (bs := bs) ⟨_, F4.keep _ _ hg, rfl, n, rfl⟩ (by omega) (by omega) (by omega) ?_
    rw [show ((i : Int) + 1).toNat = i + 1 by omega]
    (try dsimp only); (try k_fold)
    walk_at "om_steps"
    refine sub_fst ((hvg _ (getD_mem (by omega))).keep (F4.keep _)) fun t5 => ?_
    (try dsimp only); (try k_fold)
    walk_at "om_steps"
    refine sub_is (bs := bs) ⟨_, F4.keep _ _ hg, rfl, n, rfl⟩ (by omega) (by omega) (by omega) ?_
    rw [Int.toNat_natCast]
    (try dsimp only); (try k_fold)
    walk_at "om_steps"
    refine sub_fst ((hvg _ (getD_mem (by omega))).keep (F4.keep _)) fun t6 => ?_
    (try dsimp only); (try k_fold)
    walk_at "om_steps"
    have sqb := sq_bound (a := tiltN (bs.map val) (i + 1)) (by omega) (by omega)
    refine mul_i (by omega) (by omega) ?_
    (try dsimp only); (try k_fold)
    walk_at "om_steps"
    rename Fr _ _ _ _ => F5
    rename News _ _ _ _ => N5
    rw [ev (i + 1) (by omega), ev i (by omega)] at F5
    exact LpEnd.intro F5 N5 (fun p hp => nomatch hp) ⟨rfl, by rfl, ⟨_, by rfl⟩, ⟨_, by rfl⟩⟩
  · rintro h9 tk9 m9 news9 F9 N9 ⟨rfl, hm1, ⟨t1, hm2⟩, ⟨t2, hm3⟩⟩
    rw [pin hm3] at F9
    change Fr g L' h9 _ at F9
    change News g L' h9 _ at N9
    clear F1 N1
    (try dsimp only); (try k_fold)
    walk_at "om_steps"
    exact ret _ _ _ (KG.trans fun b o _ e => F9.keep b o e)
end
end
section
local macro_rules | `(tactic| walk_at "om_stop") => `(tactic| with_reducible first | show wpAny _ _ (exec (Stmt.While _ _ _ _) _) _ _ _ | show wpAny _ _ (PySem.call (Value.ref _) _ _) _ _ _ | show wpAny _ _ (subscriptTail _ _ (Value.ref _) _) _ _ _ | show wpAny _ _ (setItem (Value.ref _) _ _) _ _ _ | show wpAny _ _ (compareOp _ (Value.ref _) (Value.ref _)) _ _ _ | show wpAny _ _ (PySem.call (Value.builtin "len") _ _) _ _ _ | show wpAny _ _ (pyIter (Value.ref _)) _ _ _ | show wpAny _ _ (PySem.call (Value.type "reversed") _ _) _ _ _ | show wpAny _ _ (PySem.call (Value.builtin "list.pop") _ _) _ _ _ | show wpAny _ _ (truthy (Value.ref _)) _ _ _ | show wpAny _ _ (PySem.call (Value.type "list") _ _) _ _ _ | show wpAny _ _ (eval (PySem.Expr.ListComp _ _ _ _) _) _ _ _ | show wpAny _ _ (binaryOp PySem.Operator.Add (Value.ref _) (Value.ref _)) _ _ _ | show wpAny _ _ (PySem.call (Value.builtin "list.remove") _ _) _ _ _ | show wpAny _ _ (PySem.call (Value.builtin "list.append") _ _) _ _ _ | show wpAny _ _ (PySem.call (Value.builtin "list.count") _ _) _ _ _ | show LpEnd _ _ _ _ _ _ _ | show KswEnd _ _ _ _ _ _ _ _ _ _ _ _)
-- OmUld
section
open PySem PySem.W PySem.Calls PyProof.Rows
def uldP : List (Int × Tok) → List (Int × Tok) → List (Int × Tok) → List (Int × Tok) × List (Int × Tok)
  | [], qs, ms => (ms, qs)
  | p :: r, qs, ms => if p.1 ∈ qs.map (·.1) then uldP r (qs.eraseIdx (qs.findIdx (·.1 == p.1))) ms else uldP r qs (ms ++ [p])

theorem news_upd1 {h₀ h h' : Heap} {L x : Addr} {o o' : Obj} {news news' : List (Addr × Obj)} (N : News h₀ L h news) (hx : (x, o) ∈ news) (hs : Heap.SameBut x h h') (hg : h'.get? x = some o') (hn : ∀ p ∈ news', p = (x, o') ∨ (p ∈ news ∧ p.1 ≠ x)) : News h₀ L h' news' := fun p hp => by
  rcases hn p hp with rfl | ⟨hm, hne⟩
  · exact ⟨hg, (N _ hx).2⟩
  · exact ⟨(hs.2 _ hne).trans (N _ hm).1, (N _ hm).2⟩

theorem sameUp_one {L : Addr} {o : Obj} {sl : Array (Option Value)} {frs : List (Addr × Obj)} (h : TI.SameUp [(L, { o with slots := sl })] frs) : ∃ sl', frs = [(L, { o with slots := sl' })] := by
  cases frs with
  | nil => exact h.elim
  | cons q r =>
    cases r with
    | nil =>
      obtain ⟨h1, ⟨sl', h2⟩, _⟩ := h
      refine ⟨sl', ?_⟩
      obtain ⟨q1, q2⟩ := q
      dsimp only at h1 h2
      rw [h1, h2]
    | cons _ _ => exact h.2.2.elim

theorem uld_c {w : World} {p : Program} {loose : List Str} {mean : ExcName → Option Value} {mg mb : Str → Option Value}
    (dp un : Nat) (gd : Option (List Code)) (cn : Str) (cs : Scope) (a0 : Addr) (ccd : Value) (cl : List (Str × Addr)) (h₀ : Heap) (L : Addr) (m : Str → Option Value) (s : Shared)
    (Q E : Value → Shared → Prop) (e a : Addr) (ps qs : List (Int × Tok)) (n1 n2 : Nat)
    (F : Fr h₀ L s.heap m) (X : (hd.heap_39 w.params).In h₀) (T : Top p loose mean mg mb h₀) (hk : cs.kind = .function) (hd : dp < 390) (hu : un < 700)
    (N : News h₀ L s.heap [(e, listOf (iv ps).toArray n1), (a, listOf (iv qs).toArray n2)]) (hea : e ≠ a)
    (hlen : ps.length < 64) (hlen2 : qs.length < 64)
    (hT1 : Str.ofString "ValueError" ∉ loose) (hT2 : Str.ofString "ValueError" ∉ (recsOf p).map (·.name)) (hT3 : Str.ofString "ValueError" ∉ (litsOf p).map (·.1)) (hT4 : Str.ofString "ValueError" ∉ (clssOf p loose).map (·.name))
    (ret : ∀ h' tk' r lm n1' n2' n3', Fr h₀ L h' m → Keeps [L, e, a] s.heap h' → s.heap.get? r = none → s.heap.get? lm = none → h'.get? e = some (listOf #[] n1') → h'.get? a = some (listOf (iv (uldP ps.reverse qs []).2).toArray n2') →
      h'.get? lm = some (listOf (iv (uldP ps.reverse qs []).1).toArray n3') → IsTup h' r #[.ref lm, .ref a] → Q (.ref r) { s with heap := h', toks := tk' }) :
    wpAny (model PySem.Challenge.rw_om0012_01.row.prog w) (ktrTop dp un gd cn cs L a0 ccd cl []) (call (.ref 98) [.ref e, .ref a]) Q E s := by
  revert X; k_fill; intro X
  refine wpAny_call ?_
  k_dflt (refine' enter_try (binds := [(Str.ofString "expected", .ref e), (Str.ofString "actual", .ref a)]) F X N T ?k6 ?k7 ?k8 ?k9 ?kB ?_ ?c2 ?c3 ?c4 ?c5; (case k6 => k_is); (case k7 => k_is); (case k8 => ktr_room); (case k9 => exact BindsTo.of_eq rfl); (case c5 => decide); (case kB => exact locs rfl); (case c2 => exact rfl); (case c3 => exact rfl); (case c4 => exact rfl); k_whole)
  intro g L' h' oL KG hC hoL F' N' X' T' l' st
  have hdict := hC.dict
  have hLe : L ≠ e := Ne.symm (N _ (List.Mem.head _)).2.1
  have hLa : L ≠ a := Ne.symm (N _ (List.Mem.tail _ (List.Mem.head _))).2.1
  have hFabove := F.above
  clear N F X T
  (try simp only [List.cons_append, List.nil_append] at N')
  (try dsimp only); (try k_fold)
  walk_at "om_steps"
  rename Fr _ _ _ _ => F1
  rename News _ _ _ _ => N1
  rename_i lm _ hl3 _
  obtain ⟨hlt1, hlt2, hlt3⟩ := hl3
  have hme : lm ≠ e := Nat.ne_of_gt hlt1
  have hma : lm ≠ a := Nat.ne_of_gt hlt2
  have hmL : lm ≠ L := Nat.ne_of_gt hlt3
  refine ksw_while (σ := (List (Int × Tok) × List (Int × Tok) × List (Int × Tok)) × Nat × Nat × Nat × Array (Option Value))
    (fun c => [(lm, listOf (iv c.1.2.2).toArray c.2.2.2.1), (e, listOf (iv c.1.1).toArray c.2.1), (a, listOf (iv c.1.2.1).toArray c.2.2.1), (L, { oL with slots := c.2.2.2.2 })]) (fun c => []) (fun _ => True) [Str.ofString "item"]
    (fun c => uldP c.1.1.reverse c.1.2.1 c.1.2.2 = uldP ps.reverse qs [] ∧ c.1.1.length ≤ ps.length ∧ c.1.2.1.length ≤ qs.length ∧ c.1.2.2.length + c.1.1.length ≤ ps.length) (fun c => c.1.1.length) ((ps, qs, []), n1, n2, 0, oL.slots) F1 N1 trivial (by kst_all) ⟨rfl, Nat.le_refl _, Nat.le_refl _, by simp⟩ ?_
  rintro ⟨⟨ps', qs', ms'⟩, n1', n2', n3', sl⟩ u h1 tk1 _ ⟨hP, hl1, hl2, hl3⟩ F2 N2
  dsimp only at hP hl1 hl2 hl3 F2 N2 ⊢
  clear F1 N1
  (try k_fold)
  walk_at "om_steps"
  have z2 := N2 _ (List.Mem.tail _ (List.Mem.head _))
  refine wpAny_truthy_list (l := e) (items := (iv ps').toArray) ⟨_, z2.1, rfl, _, rfl⟩ (by simp; omega) ?_
  (try k_unfold); (try dsimp only)
  by_cases hnil : ps' = []
  · subst hnil
    rw [if_neg (by simp)]
    (try k_fold)
    walk_at "om_steps"
    (try k_unfold); (try dsimp only)
    rename Fr _ _ _ _ => F3
    rename News _ _ _ _ => N3
    have y0 := N3 _ (List.Mem.head _)
    have y1 := N3 _ (List.Mem.tail _ (List.Mem.head _))
    have y2 := N3 _ (List.Mem.tail _ (List.Mem.tail _ (List.Mem.head _)))
    have y3 := N3 _ (List.Mem.tail _ (List.Mem.tail _ (List.Mem.tail _ (List.Mem.head _))))
    have y4 := N3 _ (List.Mem.tail _ (List.Mem.tail _ (List.Mem.tail _ (List.Mem.tail _ (List.Mem.head _)))))
    have hnew : ∀ b, g.get? b = none → b ≠ L → b ≠ e → b ≠ a → s.heap.get? b = none := fun b hb h1 h2 h3 => by
      cases q : s.heap.get? b with
      | none => rfl
      | some o => have := KG b o (by simp [h1, h2, h3]) q; rw [hb] at this; cases this
    have hres : uldP ps.reverse qs [] = (ms', qs') := by rw [← hP]; rfl
    refine ret _ _ _ lm n1' n2' n3' ⟨hC.ns _ _ y4.1, fun b o q => F3.keep b o (st b o q), hC.above⟩ (KG.trans fun b o _ q => F3.keep b o q) (hnew _ y0.2.2 ?_ ?_ ?_) (hnew _ y1.2.2 hmL hme hma) y2.1 (by rw [hres]; exact y3.1) (by rw [hres]; exact y1.1) ⟨_, y0.1, rfl, _, rfl⟩
    all_goals (intro q; (try dsimp only at q); rename _ ∧ _ ∧ _ ∧ _ => hlts; simp only [q] at hlts; omega)
  · obtain ⟨pp, p, rfl⟩ : ∃ pp p, ps' = pp ++ [p] := ⟨ps'.dropLast, ps'.getLast hnil, (List.dropLast_concat_getLast hnil).symm⟩
    rw [if_pos (by simp)]
    (try k_fold)
    walk_at "om_steps"
    simp only [List.length_append, List.length_singleton] at hl1 hl3
    refine pop_at (vs := iv pp) (v := .int p.1 p.2) (n := n1') (by rw [z2.1]; simp [iv]) (by simp; omega) fun h4 n4 hs4 hg4 => ?_
    dsimp only at hs4
    have F4 := F2.change hs4 z2.2.1 z2.2.2
    have N4 : News g L' h4 [(lm, listOf (iv ms').toArray n3'), (e, listOf (iv pp).toArray n4), (a, listOf (iv qs').toArray n2'), (L, { oL with slots := sl })] := news_upd1 N2 (.tail _ (.head _)) hs4 hg4 (by
      intro q hq
      simp only [List.mem_cons, List.not_mem_nil, or_false] at hq
      rcases hq with rfl | rfl | rfl | rfl
      · exact .inr ⟨.head _, hme⟩
      · exact .inl rfl
      · exact .inr ⟨.tail _ (.tail _ (.head _)), Ne.symm hea⟩
      · exact .inr ⟨.tail _ (.tail _ (.tail _ (.head _))), hLe⟩)
    clear F2 N2 z2
    (try dsimp only); (try k_fold)
    walk_at "om_steps"
    rename Fr _ _ _ _ => F5
    rename News _ _ _ _ => N5
    have z3 := N5 _ (List.Mem.tail _ (List.Mem.tail _ (List.Mem.head _)))
    by_cases hin : p.1 ∈ qs'.map (·.1)
    · have hj : qs'.findIdx (·.1 == p.1) < qs'.length := by
        rw [List.findIdx_lt_length]
        obtain ⟨q, hq, e⟩ := List.mem_map.mp hin
        exact ⟨q, hq, by simp [e]⟩
      refine remove_some (j := qs'.findIdx (·.1 == p.1)) z3.1 hj (by simpa using List.findIdx_getElem (w := hj)) (fun i hi hlt => by simpa using List.not_of_lt_findIdx hlt) (by omega) fun h6 n6 hs6 hg6 => ?_
      dsimp only at hs6
      have F6 := F5.change hs6 z3.2.1 z3.2.2
      have N6 : News g L' h6 [(lm, listOf (iv ms').toArray n3'), (e, listOf (iv pp).toArray n4), (a, listOf (iv (qs'.eraseIdx (qs'.findIdx (·.1 == p.1)))).toArray n6), (L, { oL with slots := sl })] := news_upd1 N5 (.tail _ (.tail _ (.head _))) hs6 hg6 (by
        intro q hq
        simp only [List.mem_cons, List.not_mem_nil, or_false] at hq
        rcases hq with rfl | rfl | rfl | rfl
        · exact .inr ⟨.head _, hma⟩
        · exact .inr ⟨.tail _ (.head _), hea⟩
        · exact .inl rfl
        · exact .inr ⟨.tail _ (.tail _ (.tail _ (.head _))), hLa⟩)
      clear F5 N5 z3
      (try dsimp only); (try k_fold)
      walk_at "om_steps"
      refine ksw_end ((pp, qs'.eraseIdx (qs'.findIdx (·.1 == p.1)), ms'), n4, n6, n3', sl) F6 N6 (by kst_in) trivial (by kst_all) (by walk_at "om_same") ⟨?_, ?_, ?_, ?_⟩ ?_
      · rw [← hP, List.reverse_append]
        show uldP pp.reverse _ _ = uldP (p :: pp.reverse) qs' ms'
        rw [uldP, if_pos hin]
      · dsimp only; omega
      · dsimp only; rw [List.length_eraseIdx]; split <;> omega
      · dsimp only; omega
      · simp
    · refine remove_none (by rfl) z3.1 (fun q hq e => hin (e ▸ List.mem_map_of_mem hq)) fun h6 tk6 x6 hx6 => ?_
      dsimp only at hx6
      refine TI.noted_newT3 (l := [envX cn cs L a0 ccd cl]) (frs := [(L, { oL with slots := sl })]) (by rfl) (by show _ ∧ _ ∧ _ ∧ True; exact ⟨by show cs.kind ≠ _; rw [hk]; decide, rfl, hdict, trivial⟩) hx6 F5 N5 (by rfl) ?_
      intro h7 frs7 hSU hFrs hH
      obtain ⟨sl', e7⟩ := sameUp_one hSU
      rw [e7] at hH
      refine TT.HeldNA.land hH ?_
      intro h8 hH8
      refine TT.clause_hitTN hH8 T' (t2 := hT1) (t3 := hT2) (t4 := hT3) (t5 := hT4) (k := ?_)
      intro h9 F9 N9
      clear F5 N5 z3 hH hH8
      (try dsimp only); (try k_fold)
      walk_at "om_steps"
      have w1 := N9 _ (List.Mem.head _)
      refine append_at (vs := iv ms') w1.1 (by simp; omega) fun h10 n10 hs10 hg10 => ?_
      dsimp only at hs10
      have hg10' : h10.get? lm = some (listOf (iv (ms' ++ [p])).toArray n10) := by rw [hg10]; simp [iv]
      have F10 := F9.change hs10 w1.2.1 w1.2.2
      have N10 : News g L' h10 [(lm, listOf (iv (ms' ++ [p])).toArray n10), (e, listOf (iv pp).toArray n4), (a, listOf (iv qs').toArray n2'), (L, { oL with slots := sl' })] := news_upd1 N9 (.head _) hs10 hg10' (by
        intro q hq
        simp only [List.mem_cons, List.not_mem_nil, or_false] at hq
        rcases hq with rfl | rfl | rfl | rfl
        · exact .inl rfl
        · exact .inr ⟨.tail _ (.head _), Ne.symm hme⟩
        · exact .inr ⟨.tail _ (.tail _ (.head _)), Ne.symm hma⟩
        · exact .inr ⟨.tail _ (.tail _ (.tail _ (.head _))), Ne.symm hmL⟩)
      clear F9 N9 w1
      (try dsimp only); (try k_fold)
      walk_at "om_steps"
      refine ksw_end ((pp, qs', ms' ++ [p]), n4, n2', n10, sl') F10 N10 (by kst_in) trivial (by kst_all) (by walk_at "om_same") ⟨?_, ?_, ?_, ?_⟩ ?_
      · rw [← hP, List.reverse_append]
        show uldP pp.reverse _ _ = uldP (p :: pp.reverse) qs' ms'
        rw [uldP, if_neg hin]
      · dsimp only; omega
      · dsimp only; omega
      · dsimp only; rw [List.length_append, List.length_singleton]; omega
      · simp
end
-- OmComp2
section
open PySem PySem.W PySem.Calls PyProof.Rows

theorem compTurn_two0 (elt t0 i0 t1 i1 : Expr) (scope : Scope) (pos : Pos) (it acc : Value) (env : Env) :
    compTurn (.ListComp elt [⟨t0, i0, [], 0⟩, ⟨t1, i1, [], 0⟩] scope pos) 0 it acc env = (do
      standAt i0.pos
      match ← pyNext it with
      | none => pure (.done .next)
      | some v =>
        letOwnedTupleGo t0 it v
        assign t0 env v
        let x ← eval i1 env
        standAt i1.pos
        let x ← foldedSetIterable i1 env x
        let _ ← runOwn (.compStart (.ListComp elt [⟨t0, i0, [], 0⟩, ⟨t1, i1, [], 0⟩] scope pos) 1 (← holding [x] (pyIter x)) acc env) env
        again (.compLoop (.ListComp elt [⟨t0, i0, [], 0⟩, ⟨t1, i1, [], 0⟩] scope pos) 0 it acc env)) := by rfl
theorem compTurn_two1 (elt t0 i0 t1 i1 : Expr) (scope : Scope) (pos : Pos) (it acc : Value) (env : Env) :
    compTurn (.ListComp elt [⟨t0, i0, [], 0⟩, ⟨t1, i1, [], 0⟩] scope pos) 1 it acc env = (do
      standAt i1.pos
      match ← pyNext it with
      | none => pure (.done .next)
      | some v =>
        letOwnedTupleGo t1 it v
        assign t1 env v
        (do let _ ← call (.builtin "list.append") [acc, ← eval elt env])
        again (.compLoop (.ListComp elt [⟨t0, i0, [], 0⟩, ⟨t1, i1, [], 0⟩] scope pos) 1 it acc env)) := by rfl

section
variable {prog : Program} {w : World} {A : Around} {E : Value → Shared → Prop} {R : Result → Shared → Prop} {s : Shared} {cenv : Env}

theorem comp_inner {elt i0 i1 : Expr} {x y : Str} {px py : Pos} {scope : Scope} {pos : Pos} {I l D : Addr} {vs : List Value} {m : Str → Option Value} {v0 : Value} {ys : List Value} {n0 : Nat} (d : Value → Int)
    (hh : A.handled = none) (hy : cenv.kindOf y = some .local) (hxy : x ≠ y)
    (hp : (cenv.scope.kind == .class || (cenv.scope.kind == .module && cenv.locals != cenv.globals)) = false)
    (hDC : D ≠ cenv.locals) (hIC : I ≠ cenv.locals) (hID : I ≠ D) (hlI : l ≠ I) (hlD : l ≠ D) (hlC : l ≠ cenv.locals)
    (hit : s.heap.IsListIter I l 0) (hl : s.heap.IsList l vs.toArray) (hacc : s.heap.get? D = some (listOf ys.toArray n0)) (hn : s.heap.Ns cenv.locals m) (hm : m x = some v0) (hsz : ys.length + vs.length < 2 ^ 19)
    (helt : ∀ v1 s₃ m₃ E', v1 ∈ vs → Like s s₃ → (∀ b o, b ≠ D → b ≠ cenv.locals → b ≠ I → s.heap.get? b = some o → s₃.heap.get? b = some o) → s₃.heap.Ns cenv.locals m₃ → m₃ x = some v0 → m₃ y = some v1 →
      wpAny (model prog w) A (eval elt cenv) (fun z s₄ => (∃ t, z = .int (d v1) t) ∧ Like s₃ s₄ ∧ Keeps [] s₃.heap s₄.heap) E' s₃)
    (hR : ∀ h' tk m' ps n', h'.get? D = some (listOf (ys ++ iv ps).toArray n') → ps.map (·.1) = vs.map d → h'.Ns cenv.locals m' → (∀ b o, b ≠ D → b ≠ cenv.locals → b ≠ I → s.heap.get? b = some o → h'.get? b = some o) → R (.ok .next) { s with heap := h', toks := tk }) :
    codeAny (model prog w) A (.compLoop (.ListComp elt [⟨.Name x px, i0, [], 0⟩, ⟨.Name y py, i1, [], 0⟩] scope pos) 1 (.ref I) (.ref D) cenv) R s := by
  have W := Walks.list (prog := prog) (w := w) hh I l hlI vs.toArray
  have hLf : cenv.locals ∉ [I, l] := by simp [Ne.symm hIC, Ne.symm hlC]
  have hDf : D ∉ [I, l] := by simp [Ne.symm hID, Ne.symm hlD]
  refine codeAny_loop rfl
    (fun k s' => ∃ h' tk m' ps n' i, s' = { s with heap := h', toks := tk } ∧ (h'.IsListIter I l i ∧ h'.IsList l vs.toArray) ∧ h'.get? D = some (listOf (ys ++ iv ps).toArray n') ∧ h'.Ns cenv.locals m' ∧ m' x = some v0 ∧
      ps.map (·.1) = (vs.take i).map d ∧ i ≤ vs.length ∧ k = vs.length + 1 - i ∧ (∀ b o, b ≠ D → b ≠ cenv.locals → b ≠ I → s.heap.get? b = some o → h'.get? b = some o)) (fun k s' hI => ?_) (vs.length + 1)
    ⟨s.heap, s.toks, m, [], n0, 0, rfl, ⟨hit, hl⟩, by simpa using hacc, hn, hm, rfl, Nat.zero_le _, rfl, fun _ _ _ _ _ e => e⟩
  obtain ⟨H, tk, m', ps, n', i, rfl, hst, hacc', hn', hm', hps, hi, rfl, hk⟩ := hI
  show wpAny _ A ((compTurn (.ListComp elt [⟨.Name x px, i0, [], 0⟩, ⟨.Name y py, i1, [], 0⟩] scope pos) 1 (.ref I) (.ref D) cenv).onRaise (fun x => do noteFrame x cenv; theTreesLotGoes x)) _ _ _
  refine wpAny_noted ?_
  rw [compTurn_two1]
  refine wpAny_bind (wpAny_standAt (wpAny_bind ?_))
  have hpl : ps.length = min i vs.length := by
    have := congrArg List.length hps
    simpa using this
  by_cases hlt : i < vs.length
  · refine W.item i _ _ _ (by simpa using hlt) hst fun v h₂ tk₂ hPv hst₂ hk₂ => ?_
    have hPv' : vs[i]? = some v := by simpa using hPv
    refine wpAny_bind (wpAny_of_eq (a := ()) rfl ?_)
    refine wpAny_bind (wpAny_assign_Name (wpAny_storeName_local hy (hn'.at' fun o e => hk₂ _ o (by simpa using Ne.symm hIC) e) (fun h₃ hn₃ hs₃ => ?_) hp))
    have up₃ : ∀ b o, b ≠ cenv.locals → b ≠ I → H.get? b = some o → h₃.get? b = some o := fun b o hbC hbI e => hs₃.extBut b o hbC (hk₂ b o (by simpa using hbI) e)
    have hst₃ := W.frame _ _ h₃ hst₂ fun b hb o e => hs₃.extBut b o (fun q => hLf (q ▸ hb)) e
    refine wpAny_bind (wpAny_bind (wpAny_mono (helt v _ _ _ (List.mem_of_getElem? hPv') .mk (fun b o h1 h2 h3 e => up₃ b o h2 h3 (hk b o h1 h2 h3 e)) hn₃ (by simp [hxy, hm']) (by simp)) (fun z s₄ h₄ => ?_) fun _ _ e => e))
    obtain ⟨⟨t, rfl⟩, ⟨h₄', tk₄, rfl⟩, K₄⟩ := h₄
    dsimp only at K₄
    have hacc₄ := K₄ _ _ (by simp) (up₃ _ _ hDC (Ne.symm hID) hacc')
    refine wpAny_bind (append_at hacc₄ (by simp; omega) fun h₅ n₅ hs₅ hl₅ => ?_)
    refine wpAny_pure (wpAny_pure ⟨rfl, vs.length + 1 - (i + 1), by omega, h₅, tk₄, _, ps ++ [(d v, t)], n₅, i + 1, rfl, W.frame _ _ _ hst₃ fun b hb o e => hs₅.extBut b o (fun q => hDf (q ▸ hb)) (K₄ b o (by simp) e), ?_, (hn₃.at' fun o e => K₄ _ o (by simp) e).at' fun o e => hs₅.extBut _ o (Ne.symm hDC) e, by simp [hxy, hm'], ?_, hlt, rfl, fun b o h1 h2 h3 e => hs₅.extBut b o h1 (K₄ b o (by simp) (up₃ b o h2 h3 (hk b o h1 h2 h3 e)))⟩)
    · rw [hl₅]; simp [iv]
    · rw [List.take_add_one, hPv']
      simp [hps]
  · have hin : i = vs.length := by omega
    subst hin
    refine W.done _ _ _ (by simpa using hst) fun h₂ tk₂ hk₂ => ?_
    refine wpAny_pure (hR h₂ tk₂ m' ps n' (hk₂ _ _ (by simpa using Ne.symm hID) hacc') (by rw [hps, List.take_length]) (hn'.at' fun o e => hk₂ _ o (by simpa using Ne.symm hIC) e) fun b o h1 h2 h3 e => hk₂ b o (by simpa using h3) (hk b o h1 h2 h3 e))

theorem compStart_in {elt i0 i1 : Expr} {t0 t1 : Expr} {scope : Scope} {pos : Pos} {it acc : Value} 
    (h0 : codeAny (model prog w) A (.compLoop (.ListComp elt [⟨t0, i0, [], 0⟩, ⟨t1, i1, [], 0⟩] scope pos) 1 it acc cenv) R s)
    (h : wpAny (model prog w) A (pyIter it) (fun it' s' => codeAny (model prog w) A (.compLoop (.ListComp elt [⟨t0, i0, [], 0⟩, ⟨t1, i1, [], 0⟩] scope pos) 1 it' acc cenv) R s')
      (notedBy (model prog w) A cenv fun x s' => R (.error x) s') s) :
    codeAny (model prog w) A (.compStart (.ListComp elt [⟨t0, i0, [], 0⟩, ⟨t1, i1, [], 0⟩] scope pos) 1 it acc cenv) R s := by
  refine codeAny_of_tree ?_
  show wpAny _ _ ((compStart (.ListComp elt [⟨t0, i0, [], 0⟩, ⟨t1, i1, [], 0⟩] scope pos) 1 it acc cenv).onRaise (fun x => do noteFrame x cenv; standAt theWindowsPlace)) _ _ s
  refine wpAny_notedAt ?_
  unfold compStart
  show wpAny _ _ (ask >>= _) _ _ s
  refine wpAny_bind (wpAny_askSetting (wpAny_ite ?_))
  split
  · first
      | exact wpAny_bind (wpAny_pure (wpAny_pure (And.intro rfl h0)))
      | exact wpAny_pure (And.intro rfl h0)
  · first
      | exact wpAny_bind (wpAny_rule (wpAny_bind (wpAny_standAt (wpAny_bind (wpAny_mono h (fun it' s' h' => wpAny_pure (And.intro rfl h')) fun _ _ x => x)))))
      | (refine wpAny_bind (wpAny_rule ?_); show wpAny _ _ (standAt i1.pos >>= _) _ _ s; exact wpAny_bind (wpAny_standAt (wpAny_bind (wpAny_mono h (fun it' s' h' => wpAny_pure (And.intro rfl h')) fun _ _ x => x))))

theorem comp_outer {elt i0 i1 : Expr} {x y : Str} {px py : Pos} {scope : Scope} {pos : Pos} {I l0 l1 D : Addr} {vs0 vs1 : List Value} {m : Str → Option Value} (d : Value → Value → Int)
    (hh : A.handled = none) (hx : cenv.kindOf x = some .local) (hy : cenv.kindOf y = some .local) (hxy : x ≠ y)
    (hp : (cenv.scope.kind == .class || (cenv.scope.kind == .module && cenv.locals != cenv.globals)) = false)
    (hDC : D ≠ cenv.locals) (hIC : I ≠ cenv.locals) (hID : I ≠ D) (hlI : l0 ≠ I) (hlD : l0 ≠ D) (hlC : l0 ≠ cenv.locals) (h1D : l1 ≠ D) (h1C : l1 ≠ cenv.locals) (h1I : l1 ≠ I)
    (hit : s.heap.IsListIter I l0 0) (hl : s.heap.IsList l0 vs0.toArray) (hl1 : s.heap.IsList l1 vs1.toArray) (hacc : s.heap.get? D = some (listOf ([] : List Value).toArray 0)) (hn : s.heap.Ns cenv.locals m) (hsz : vs0.length < 500) (hsz1 : vs1.length < 500)
    (hs1 : ∀ x, foldedSetIterable i1 cenv x = pure x)
    (hi1 : ∀ s₃ m₃ E', Like s s₃ → (∀ b o, b ≠ D → b ≠ cenv.locals → b ≠ I → s.heap.get? b = some o → s₃.heap.get? b = some o) → s₃.heap.Ns cenv.locals m₃ →
      wpAny (model prog w) A (eval i1 cenv) (fun z s₄ => z = .ref l1 ∧ Like s₃ s₄ ∧ Keeps [] s₃.heap s₄.heap) E' s₃)
    (helt : ∀ v0 v1 s₃ m₃ E', v0 ∈ vs0 → v1 ∈ vs1 → Like s s₃ → (∀ b o, b ≠ D → b ≠ cenv.locals → b ≠ I → s.heap.get? b = some o → s₃.heap.get? b = some o) → s₃.heap.Ns cenv.locals m₃ → m₃ x = some v0 → m₃ y = some v1 →
      wpAny (model prog w) A (eval elt cenv) (fun z s₄ => (∃ t, z = .int (d v0 v1) t) ∧ Like s₃ s₄ ∧ Keeps [] s₃.heap s₄.heap) E' s₃)
    (hR : ∀ h' tk m' ps n', h'.get? D = some (listOf (iv ps).toArray n') → ps.map (·.1) = vs0.flatMap (fun v0 => vs1.map (d v0)) → h'.Ns cenv.locals m' → (∀ b o, b ≠ D → b ≠ cenv.locals → b ≠ I → s.heap.get? b = some o → h'.get? b = some o) → R (.ok .next) { s with heap := h', toks := tk }) :
    codeAny (model prog w) A (.compLoop (.ListComp elt [⟨.Name x px, i0, [], 0⟩, ⟨.Name y py, i1, [], 0⟩] scope pos) 0 (.ref I) (.ref D) cenv) R s := by
  have W := Walks.list (prog := prog) (w := w) hh I l0 hlI vs0.toArray
  have hLf : cenv.locals ∉ [I, l0] := by simp [Ne.symm hIC, Ne.symm hlC]
  refine codeAny_loop rfl
    (fun k s' => ∃ h' tk m' ps n' i, s' = { s with heap := h', toks := tk } ∧ (h'.IsListIter I l0 i ∧ h'.IsList l0 vs0.toArray) ∧ h'.get? D = some (listOf (iv ps).toArray n') ∧ h'.Ns cenv.locals m' ∧
      ps.map (·.1) = (vs0.take i).flatMap (fun v0 => vs1.map (d v0)) ∧ i ≤ vs0.length ∧ k = vs0.length + 1 - i ∧ (∀ b o, b ≠ D → b ≠ cenv.locals → b ≠ I → s.heap.get? b = some o → h'.get? b = some o)) (fun k s' hI => ?_) (vs0.length + 1)
    ⟨s.heap, s.toks, m, [], 0, 0, rfl, ⟨hit, hl⟩, by simpa using hacc, hn, rfl, Nat.zero_le _, rfl, fun _ _ _ _ _ e => e⟩
  obtain ⟨H, tk, m', ps, n', i, rfl, hst, hacc', hn', hps, hi, rfl, hk⟩ := hI
  show wpAny _ A ((compTurn (.ListComp elt [⟨.Name x px, i0, [], 0⟩, ⟨.Name y py, i1, [], 0⟩] scope pos) 0 (.ref I) (.ref D) cenv).onRaise (fun x => do noteFrame x cenv; theTreesLotGoes x)) _ _ _
  refine wpAny_noted ?_
  rw [compTurn_two0]
  refine wpAny_bind (wpAny_standAt (wpAny_bind ?_))
  have hpl : ps.length ≤ i * vs1.length := by
    have e1 : ps.length = ((vs0.take i).flatMap (fun v0 => vs1.map (d v0))).length := by rw [← hps, List.length_map]
    rw [e1, List.length_flatMap]
    simp only [List.length_map]
    rw [List.map_const', List.sum_replicate_nat]
    exact Nat.mul_le_mul_right _ (by rw [List.length_take]; exact Nat.min_le_left _ _)
  by_cases hlt : i < vs0.length
  · refine W.item i _ _ _ (by simpa using hlt) hst fun v h₂ tk₂ hPv hst₂ hk₂ => ?_
    have hPv' : vs0[i]? = some v := by simpa using hPv
    refine wpAny_bind (wpAny_of_eq (a := ()) rfl ?_)
    refine wpAny_bind (wpAny_assign_Name (wpAny_storeName_local hx (hn'.at' fun o e => hk₂ _ o (by simpa using Ne.symm hIC) e) (fun h₃ hn₃ hs₃ => ?_) hp))
    have up₃ : ∀ b o, b ≠ cenv.locals → b ≠ I → H.get? b = some o → h₃.get? b = some o := fun b o hbC hbI e => hs₃.extBut b o hbC (hk₂ b o (by simpa using hbI) e)
    have all₃ : ∀ b o, b ≠ D → b ≠ cenv.locals → b ≠ I → s.heap.get? b = some o → h₃.get? b = some o := fun b o h1 h2 h3 e => up₃ b o h2 h3 (hk b o h1 h2 h3 e)
    have hst₃ := W.frame _ _ h₃ hst₂ fun b hb o e => hs₃.extBut b o (fun q => hLf (q ▸ hb)) e
    refine wpAny_bind (wpAny_mono (hi1 _ _ _ .mk all₃ hn₃) (fun z s₄ h₄ => ?_) fun _ _ e => e)
    obtain ⟨rfl, ⟨h₄', tk₄, rfl⟩, K₄⟩ := h₄
    dsimp only at K₄
    refine wpAny_bind (wpAny_standAt (wpAny_bind (wpAny_of_eq (hs1 _) ?_)))
    have hl1' : h₄'.IsList l1 vs1.toArray := hl1.at fun o e => K₄ _ o (by simp) (all₃ _ o h1D h1C h1I e)
    obtain ⟨ol, hol, _⟩ := id hl1'
    have hl1lt := Heap.lt_size hol
    refine wpAny_bind (wpAny_holding (wpAny_pyIter_list hl1' ?_))
    refine wpAny_bind (wpAny_runOwn ?_)
    rw [Around.mark_none]
    have hC4 : h₄'.Ns cenv.locals _ := hn₃.at' fun o e => K₄ _ o (by simp) e
    have hD4 : h₄'.get? D = _ := K₄ _ _ (by simp) (up₃ _ _ hDC (Ne.symm hID) hacc')
    have hI4 : ∃ o, h₄'.get? I = some o := by
      obtain ⟨⟨o, ho, _⟩, _⟩ := hst₃
      exact ⟨o, K₄ _ _ (by simp) ho⟩
    obtain ⟨oI, hI4⟩ := hI4
    have hIlt := Heap.lt_size hI4
    have hDlt := Heap.lt_size hD4
    have hClt := hC4.lt
    refine (fun (inner : ∀ s₅ : Shared, s₅ = { s with heap := h₄'.push { cls := .type "list_iterator", data := .fields #[.ref l1, .int 0 0] }, toks := tk₄ } → codeAny (model prog w) A (.compLoop (.ListComp elt [⟨.Name x px, i0, [], 0⟩, ⟨.Name y py, i1, [], 0⟩] scope pos) 1 (.ref h₄'.objs.size) (.ref D) cenv) _ s₅) => compStart_in (inner _ rfl) (wpAny_pyIter_listiter (i := 0) ⟨_, Heap.get?_push_size _ rfl, rfl, rfl⟩ (inner _ rfl))) ?_
    · skip
      rintro s₅ rfl
      refine comp_inner (I := h₄'.objs.size) (l := l1) (D := D) (vs := vs1) (v0 := v) (ys := iv ps) (d v) hh hy hxy hp hDC (Nat.ne_of_gt hClt) (Nat.ne_of_gt hDlt) (Nat.ne_of_lt hl1lt) h1D h1C ⟨_, Heap.get?_push_size _ rfl, rfl, rfl⟩ (hl1'.push _) (Heap.get?_push_of_some _ hD4) (hC4.at' fun o e => Heap.get?_push_of_some _ e) (by simp) ?_ ?_ ?_
      · have h1 : i * vs1.length ≤ 500 * 500 := Nat.mul_le_mul (by omega) (by omega)
        rw [List.length_map]; omega
      · intro v1 s₆ m₆ E' hv1 hL6 hk6 hn6 hm6 hm6'
        refine helt v v1 s₆ m₆ E' (List.mem_of_getElem? hPv') hv1 ?_ ?_ hn6 hm6 hm6'
        · obtain ⟨h, tk, rfl⟩ := hL6; exact .mk
        · intro b o h1 h2 h3 e
          have e4 := K₄ b o (by simp) (all₃ b o h1 h2 h3 e)
          exact hk6 b o h1 h2 (Nat.ne_of_lt (Heap.lt_size e4)) (Heap.get?_push_of_some _ e4)
      · intro h₆ tk₆ m₆ ps₆ n₆ hD6 hps6 hn6 hk6
        dsimp only at hk6 ⊢
        refine wpAny_pure ⟨rfl, vs0.length + 1 - (i + 1), by omega, h₆, tk₆, m₆, ps ++ ps₆, n₆, i + 1, rfl, ?_, ?_, hn6, ?_, hlt, rfl, ?_⟩
        · refine W.frame _ _ h₆ hst₃ fun b hb o e => ?_
          have e4 := K₄ b o (by simp) e
          refine hk6 b o ?_ (fun q => hLf (q ▸ hb)) (Nat.ne_of_lt (Heap.lt_size e4)) (Heap.get?_push_of_some _ e4)
          rintro rfl
          simp only [List.mem_cons, List.not_mem_nil, or_false] at hb
          rcases hb with rfl | rfl
          · exact hID rfl
          · exact hlD rfl
        · rw [hD6]; simp [iv]
        · rw [List.take_add_one, hPv', List.flatMap_append, List.map_append, hps, hps6]
          simp
        · intro b o h1 h2 h3 e
          have e4 := K₄ b o (by simp) (all₃ b o h1 h2 h3 e)
          exact hk6 b o h1 h2 (Nat.ne_of_lt (Heap.lt_size e4)) (Heap.get?_push_of_some _ e4)
  · have hin : i = vs0.length := by omega
    subst hin
    refine W.done _ _ _ (by simpa using hst) fun h₂ tk₂ hk₂ => ?_
    refine wpAny_pure (hR h₂ tk₂ m' ps n' (hk₂ _ _ (by simpa using Ne.symm hID) hacc') (by rw [hps, List.take_length]) (hn'.at' fun o e => hk₂ _ o (by simpa using Ne.symm hIC) e) fun b o h1 h2 h3 e => hk₂ b o (by simpa using h3) (hk b o h1 h2 h3 e))

def Comp2Ask (prog : Program) (w : World) (A : Around) (env : Env) (scope : Scope) (cl : List (Str × Addr)) (x y : Str) (i1 elt : Expr) (Q : Value → Shared → Prop) (xv : Value) (s₁ : Shared) : Prop :=
  ∃ (l0 l1 : Addr) (vs0 vs1 : List Value) (d : Value → Value → Int), xv = .ref l0 ∧ s₁.heap.IsList l0 vs0.toArray ∧ s₁.heap.IsList l1 vs1.toArray ∧ vs0.length < 500 ∧ vs1.length < 500 ∧
    (∀ s₃ m₃ E', Like s₁ s₃ → Keeps [] s₁.heap s₃.heap → s₃.heap.Ns (compEnvC scope cl (s₁.heap.objs.size + 2) env).locals m₃ →
      wpAny (model prog w) A (eval i1 (compEnvC scope cl (s₁.heap.objs.size + 2) env)) (fun z s₄ => z = .ref l1 ∧ Like s₃ s₄ ∧ Keeps [] s₃.heap s₄.heap) E' s₃) ∧
    (∀ v0 v1 s₃ m₃ E', v0 ∈ vs0 → v1 ∈ vs1 → Like s₁ s₃ → Keeps [] s₁.heap s₃.heap → s₃.heap.Ns (compEnvC scope cl (s₁.heap.objs.size + 2) env).locals m₃ → m₃ x = some v0 → m₃ y = some v1 →
      wpAny (model prog w) A (eval elt (compEnvC scope cl (s₁.heap.objs.size + 2) env)) (fun z s₄ => (∃ t, z = .int (d v0 v1) t) ∧ Like s₃ s₄ ∧ Keeps [] s₃.heap s₄.heap) E' s₃) ∧
    (∀ h' tk ps n', h'.get? (s₁.heap.objs.size + 1) = some (listOf (iv ps).toArray n') → ps.map (·.1) = vs0.flatMap (fun v0 => vs1.map (d v0)) → Keeps [] s₁.heap h' → Q (.ref (s₁.heap.objs.size + 1)) { s₁ with heap := h', toks := tk })

theorem comp2 {env : Env} {elt i0 i1 : Expr} {x y : Str} {px py : Pos} {scope : Scope} {cl : List (Str × Addr)} {pos : Pos} {Q : Value → Shared → Prop} (hh : A.handled = none)
    (hclos : closureFor scope env = pure cl) (hcell : ∀ y ∈ scope.names, y.2 ≠ .cell) (hkind : scope.kind = .function)
    (hnames : ∀ y ∈ scope.names, y.2 = .local → scope.names.lookup y.1 = some .local) (hx : scope.names.lookup x = some .local) (hy : scope.names.lookup y = some .local) (hxy : x ≠ y)
    (hs : ∀ x, foldedSetIterable i0 env x = pure x) (hs1 : ∀ C x, foldedSetIterable i1 (compEnvC scope cl C env) x = pure x)
    (h : wpAny (model prog w) A (eval i0 env) (Comp2Ask prog w A env scope cl x y i1 elt Q) E s) :
    wpAny (model prog w) A (eval (.ListComp elt [⟨.Name x px, i0, [], 0⟩, ⟨.Name y py, i1, [], 0⟩] scope pos) env) Q E s := by
  rw [eval_ListComp]
  refine wpAny_comprehension_free (use := none) rfl hs hclos hkind hnames (wpAny_mono h (fun xv s₁ h₁ => ?_) fun _ _ e => e)
  obtain ⟨l0, l1, vs0, vs1, d, rfl, hl0, hl1, hz0, hz1, hi1, helt, done⟩ := h₁
  obtain ⟨o0, ho0, _⟩ := id hl0
  obtain ⟨o1, ho1, _⟩ := id hl1
  have lt0 : @LT.lt Nat _ l0 s₁.heap.objs.size := Heap.lt_size ho0
  have lt1 : @LT.lt Nat _ l1 s₁.heap.objs.size := Heap.lt_size ho1
  refine wpAny_pyIter_list hl0 ?_
  refine wpAny_newObj_type (wpAny_newFunctionEnv hcell (by intro y hy; simp at hy) (fun h₁ hns₁ hsb₁ => ?_) hkind)
  dsimp only at hns₁ hsb₁ ⊢
  have e1 : (s₁.heap.push { cls := .type "list_iterator", data := .fields #[.ref l0, .int 0 0] }).objs.size = s₁.heap.objs.size + 1 := Heap.size_push ..
  have e2 : ((s₁.heap.push { cls := .type "list_iterator", data := .fields #[.ref l0, .int 0 0] }).push { cls := .type "list", dict := none, data := .seq ([] : List Value).toArray }).objs.size = s₁.heap.objs.size + 2 := by rw [Heap.size_push, e1]
  rw [e1]
  rw [e2] at hns₁ hsb₁ ⊢
  have old : ∀ b o, s₁.heap.get? b = some o → h₁.get? b = some o := fun b o e => hsb₁.extBut b o (Nat.ne_of_lt (Nat.lt_of_lt_of_le (Heap.lt_size e) (Nat.le_add_right _ _))) (Heap.get?_push_of_some _ (Heap.get?_push_of_some _ (Heap.get?_push_of_some _ e)))
  have hI : h₁.get? s₁.heap.objs.size = some { cls := .type "list_iterator", data := .fields #[.ref l0, .int 0 0] } := hsb₁.extBut _ _ (neN (by omega)) (Heap.get?_push_of_some _ (Heap.get?_push_of_some _ (Heap.get?_push_size _ rfl)))
  have hD : h₁.get? (s₁.heap.objs.size + 1) = some (listOf ([] : List Value).toArray 0) := by
    refine hsb₁.extBut _ _ (neN (by omega)) (Heap.get?_push_of_some _ ?_)
    rw [← e1]; exact Heap.get?_push_size _ rfl
  have keep : ∀ h' : Heap, (∀ b o, b ≠ s₁.heap.objs.size + 1 → b ≠ s₁.heap.objs.size + 2 → b ≠ s₁.heap.objs.size → h₁.get? b = some o → h'.get? b = some o) → Keeps [] s₁.heap h' := fun h' hk b o _ e => by
    have hlt : @LT.lt Nat _ b s₁.heap.objs.size := Heap.lt_size e
    exact hk b o (neN (by omega)) (neN (by omega)) (neN (by omega)) (old b o e)
  have loop : ∀ s₃ : Shared, s₃ = { s₁ with heap := h₁, toks := s₁.toks + ([] : List (Str × Value)).length } →
      codeAny (model prog w) A (.compLoop (.ListComp elt [⟨.Name x px, i0, [], 0⟩, ⟨.Name y py, i1, [], 0⟩] scope pos) 0 (.ref s₁.heap.objs.size) (.ref (s₁.heap.objs.size + 1)) (compEnvC scope cl (s₁.heap.objs.size + 2) env))
        (compPost (model prog w) A E none Q (.ref (s₁.heap.objs.size + 1)) (s₁.heap.objs.size + 2)) s₃ := by
    rintro s₃ rfl
    refine comp_outer (cenv := compEnvC scope cl (s₁.heap.objs.size + 2) env) (l0 := l0) (l1 := l1) (vs0 := vs0) (vs1 := vs1) d hh (lookup_relabel_local hx) (lookup_relabel_local hy) hxy (by simp [compEnvC, relabel, hkind]) (neN (a := s₁.heap.objs.size + 1) (b := s₁.heap.objs.size + 2) (by omega)) (neN (a := s₁.heap.objs.size) (b := s₁.heap.objs.size + 2) (by omega)) (neN (by omega)) (neN (by omega)) (neN (by omega)) (neN (a := l0) (b := s₁.heap.objs.size + 2) (by omega)) (neN (by omega)) (neN (a := l1) (b := s₁.heap.objs.size + 2) (by omega)) (neN (by omega))
      ⟨_, hI, rfl, rfl⟩ (hl0.at fun o e => old _ o e) (hl1.at fun o e => old _ o e) hD hns₁ hz0 hz1 (hs1 _) ?_ ?_ ?_
    · intro s₃ m₃ E' hL hk hn
      refine hi1 s₃ m₃ E' ?_ (keep _ hk) hn
      obtain ⟨h, tk, rfl⟩ := hL; exact .mk
    · intro v0 v1 s₃ m₃ E' hv0 hv1 hL hk hn hm hm'
      refine helt v0 v1 s₃ m₃ E' hv0 hv1 ?_ (keep _ hk) hn hm hm'
      obtain ⟨h, tk, rfl⟩ := hL; exact .mk
    · intro h' tk m' ps n' hD' hps hn' hk
      refine ⟨m', hn', fun h₃ hs₃ => ?_⟩
      refine done h₃ tk ps n' (hs₃.extBut _ _ (neN (by omega)) hD') hps (fun b o nb e => ?_)
      have hlt : @LT.lt Nat _ b s₁.heap.objs.size := Heap.lt_size e
      exact hs₃.extBut b o (neN (by omega)) (keep _ hk b o nb e)
  exact codeAny_compStart_list (loop _ rfl) (wpAny_pyIter_listiter (i := 0) ⟨_, hI, rfl, rfl⟩ (loop _ rfl))
end
end
-- OmDist
section
open PySem PySem.W PySem.Calls PyProof.Rows
def distL (sg : Int) (xs ys : List Int) : List Int := xs.flatMap fun x => ys.map fun y => sg * 225 * ((x - y).natAbs : Int)
def intOf : Value → Int
  | .int n _ => n
  | _ => 0

theorem dist_c {w : World} {p : Program} {loose : List Str} {mean : ExcName → Option Value} {mg mb : Str → Option Value}
    (dp un : Nat) (gd : Option (List Code)) (cn : Str) (cs : Scope) (a0 : Addr) (ccd : Value) (cl : List (Str × Addr)) (outer : List Env) (A₀ : Around) (base h₀ : Heap) (L : Addr) (m : Str → Option Value) (s : Shared)
    (Q E : Value → Shared → Prop) (l0 l1 : Addr) (sg : Int) (tg : Tok) (ps qs : List (Int × Tok)) (n1 n2 : Nat)
    (B : Below A₀ base outer h₀) (F : Fr h₀ L s.heap m) (X : (hd.heap_39 w.params).In h₀) (T : Top p loose mean mg mb h₀) (hk : cs.kind = .function) (hd : dp < 390) (hu : un < 700)
    (hl0 : s.heap.get? l0 = some (listOf (iv ps).toArray n1)) (hl1 : s.heap.get? l1 = some (listOf (iv qs).toArray n2)) (hsg : sg = 1 ∨ sg = -1)
    (hlen : ps.length < 64) (hlen2 : qs.length < 64)
    (ret : ∀ h' tk' r ds n', Keeps [] s.heap h' → s.heap.get? r = none → h'.get? r = some (listOf (iv ds).toArray n') → ds.map (·.1) = distL sg (ps.map (·.1)) (qs.map (·.1)) → Q (.ref r) { s with heap := h', toks := tk' }) :
    wpAny (model PySem.Challenge.rw_om0012_01.row.prog w) (ktrTop dp un gd cn cs L a0 ccd cl outer) (call (.ref 103) [.int sg tg, .ref l0, .ref l1]) Q E s := by
  revert X; k_fill; intro X
  have N : News h₀ L s.heap [] := News.nil
  refine wpAny_call ?_
  k_dflt (refine' enter_defC (binds := [(Str.ofString "sign", .int sg tg), (Str.ofString "these", .ref l0), (Str.ofString "those", .ref l1)]) ?k1 ?k2 ?k3 ?k4 ?k5 ?kA ?kF ?kK ?k6 ?k7 ?k8 ?k9 ?kB ?kD ?_ ?c2 ?c3 ?c4; walk_at "om_enterC")
  intro g L' h' tk' cells KG F' N' Y B' X' T' l'
  k_cells Y
  (try simp only [List.cons_append, List.nil_append] at N')
  clear N F B X T
  rename_i o1 o2 d1 d2
  change o1.data = Data.cell (some (.ref l1)) at d1
  change o2.data = Data.cell (some (.int sg tg)) at d2
  (try dsimp only); (try k_fold)
  walk_at "om_steps"
  have hg0 : g.get? l0 = _ := KG l0 _ (by simp) hl0
  have hg1 : g.get? l1 = _ := KG l1 _ (by simp) hl1
  k_dflt (refine comp2 (by rfl) (by with_unfolding_all rfl) (by decide) (by rfl) (by decide) (by rfl) (by rfl) (by decide) (by intro _; rfl) (by intro _ _; rfl) ?_)
  walk_at "om_steps"
  refine ⟨l0, l1, iv ps, iv qs, fun a b => sg * 225 * ((intOf a - intOf b).natAbs : Int), rfl, ⟨_, F'.keep _ _ hg0, rfl, _, rfl⟩, ⟨_, F'.keep _ _ hg1, rfl, _, rfl⟩, by simp; omega, by simp; omega, ?_, ?_, ?_⟩
  · rintro s₃ m₃ E' ⟨h3, tk3, rfl⟩ K3 hn
    dsimp only at K3 hn ⊢
    have F3 := K3.fr F' (by simp) (by simp)
    have N3 := K3.news N' (by simp)
    clear F' N'
    (try k_fold)
    walk_at "om_stepsA"
    exact ⟨rfl, .refl _, .refl _ _⟩
  · rintro v0 v1 s₃ m₃ E' hv0 hv1 ⟨h3, tk3, rfl⟩ K3 hn hm0 hm1
    obtain ⟨⟨x, tx⟩, hx, rfl⟩ := List.mem_map.mp hv0
    obtain ⟨⟨y, ty⟩, hy, rfl⟩ := List.mem_map.mp hv1
    dsimp only at K3 hn hm0 hm1 ⊢
    have F3 := K3.fr F' (by simp) (by simp)
    have N3 := K3.news N' (by simp)
    clear F' N'
    (try k_fold)
    walk_at "om_stepsA"
    have e : (if x - y < 0 then -(x - y) else x - y) = ((x - y).natAbs : Int) := by split <;> omega
    rw [e]
    exact ⟨⟨_, rfl⟩, .mk, .refl _ _⟩
  · intro h4 tk4 ds n4 hD hds K4
    have F4 := K4.fr F' (by simp) (by simp)
    have N4 := K4.news N' (by simp)
    (try dsimp only); (try k_fold)
    walk_at "om_steps"
    refine ret _ _ _ ds n4 ((KG.trans fun b o _ e => F'.keep b o e).trans K4) ?_ hD ?_
    · cases q : s.heap.get? (h'.objs.size + 1) with
      | none => rfl
      | some o =>
        have := Heap.lt_size (F'.keep _ _ (KG _ _ (by simp) q))
        exact absurd this (by show ¬ @LT.lt Nat _ _ _; omega)
    · rw [hds]
      unfold distL
      rw [List.flatMap_map, List.flatMap_map]
      congr 1
      funext a
      rw [List.map_map, List.map_map]
      rfl
end
-- OmFlt
section
open PySem PySem.Float64

/-- x is finite and its value is z / 16 -/
def Fx (x : UInt64) (z : Int) : Prop := ∃ a m e, decode x = .fin a m e ∧ val x = z * 2 ^ 1070

theorem two_split {j : Nat} (h : j ≤ 1070) : (2 : Nat) ^ j * 2 ^ (1070 - j) = 2 ^ 1070 := by
  rw [← Nat.pow_add]; congr 1; omega

theorem V_has {z : Nat} (hz : z < 2 ^ 53) : ∃ t, t < infMag ∧ V t = z * 2 ^ 1070 := by
  by_cases h0 : z = 0
  · exact ⟨0, by unfold infMag; decide, by rw [h0, Nat.zero_mul]; exact V_zero⟩
  · have hl : z.log2 ≤ 52 := by
      have := (Nat.log2_lt h0).mpr hz
      omega
    have h1 : 2 ^ z.log2 ≤ z := Nat.log2_self_le h0
    have h2 : z < 2 ^ (z.log2 + 1) := Nat.lt_log2_self
    have e1 : (2 : Nat) ^ z.log2 * 2 ^ (52 - z.log2) = 2 ^ 52 := by rw [← Nat.pow_add]; congr 1; omega
    have e2 : (2 : Nat) ^ (z.log2 + 1) * 2 ^ (52 - z.log2) = 2 ^ 53 := by rw [← Nat.pow_add]; congr 1; omega
    have hlo : 2 ^ 52 ≤ z * 2 ^ (52 - z.log2) := by rw [← e1]; exact Nat.mul_le_mul_right _ h1
    have hhi : z * 2 ^ (52 - z.log2) ≤ 2 ^ 53 := by rw [← e2]; exact Nat.mul_le_mul_right _ (Nat.le_of_lt h2)
    refine ⟨(1070 - (52 - z.log2)) * 2 ^ 52 + z * 2 ^ (52 - z.log2), ?_, ?_⟩
    · unfold infMag
      have : (1070 - (52 - z.log2)) * 2 ^ 52 ≤ 1070 * 2 ^ 52 := Nat.mul_le_mul_right _ (by omega)
      omega
    · rw [V_at hhi (.inl hlo), Nat.mul_assoc, two_split (by omega)]

theorem exact_of {r : UInt64} {neg : Bool} {W D z : Nat} (h : Right r neg W D) (hD : 0 < D) (hW : W = z * 2 ^ 1070 * D) (hz : z < 2 ^ 53) : ∃ m e, decode r = .fin neg m e ∧ val r = sgn neg (z * 2 ^ 1070) := by
  obtain ⟨t, rfl, ht, hover, hnear⟩ := h
  obtain ⟨t', ht', hV'⟩ := V_has hz
  have hlt : t < infMag := by
    rcases Nat.lt_or_ge t infMag with q | q
    · exact q
    · exfalso
      have : t = infMag := by omega
      have := hover.mp this
      rw [hW] at this
      have h3 : z * 2 ^ 1070 * D < 2 ^ 53 * 2 ^ 1070 * D := Nat.mul_lt_mul_of_pos_right (Nat.mul_lt_mul_of_pos_right hz (Nat.two_pow_pos _)) hD
      have h4 : D * ((2 ^ 54 - 1) * 2 ^ 2045) = ((2 ^ 54 - 1) * 2 ^ 2045) * D := Nat.mul_comm _ _
      have h5 : 2 * (2 ^ 53 * 2 ^ 1070 * D) ≤ ((2 ^ 54 - 1) * 2 ^ 2045) * D := by
        rw [← Nat.mul_assoc]
        exact Nat.mul_le_mul_right _ (by decide)
      omega
  have hd := (hnear hlt t').1
  rw [hV', hW, Nat.mul_comm D (z * 2 ^ 1070)] at hd
  have hdz : dist (z * 2 ^ 1070 * D) (z * 2 ^ 1070 * D) = 0 := by unfold dist; omega
  have hd0 : dist (z * 2 ^ 1070 * D) (D * V t) = 0 := by omega
  have he : z * 2 ^ 1070 * D = D * V t := by unfold dist at hd0; omega
  have hVt : V t = z * 2 ^ 1070 := by
    rw [Nat.mul_comm] at he
    exact (Nat.eq_of_mul_eq_mul_left hD he).symm
  obtain ⟨m, e, hdec, hv⟩ := decode_pack neg hlt
  exact ⟨m, e, hdec, by rw [val_pack neg hlt, hVt]⟩

theorem sgn_int (z : Int) (K : Nat) : sgn (decide (z < 0)) (z.natAbs * K) = z * (K : Int) := by
  unfold sgn
  by_cases h : z < 0
  · rw [if_pos (by simpa using h), Int.natCast_mul]
    have : (z.natAbs : Int) = -z := by omega
    rw [this, Int.neg_mul, Int.neg_neg]
  · rw [if_neg (by simpa using h), Int.natCast_mul]
    have : (z.natAbs : Int) = z := by omega
    rw [this]

theorem pow16 : (2 : Nat) ^ 1074 = 16 * 2 ^ 1070 := by rw [show (16 : Nat) = 2 ^ 4 by rfl, ← Nat.pow_add]
theorem pow16i : (2 : Int) ^ 1074 = 16 * 2 ^ 1070 := by
  have := pow16
  have h : ((2 ^ 1074 : Nat) : Int) = ((16 * 2 ^ 1070 : Nat) : Int) := by rw [this]
  simpa using h

theorem Fx.ofInt {i : Int} (h : i.natAbs < 2 ^ 49) : Fx (ofInt i) (16 * i) := by
  obtain ⟨m, e, hd, hv⟩ := exact_of (z := 16 * i.natAbs) (ofInt_right i) (by decide) (by rw [pow16]; generalize (2 : Nat) ^ 1070 = K; rw [Nat.mul_one, Nat.mul_comm 16 i.natAbs, Nat.mul_assoc]) (by omega)
  refine ⟨_, m, e, hd, ?_⟩
  rw [hv, Nat.mul_assoc, Nat.mul_left_comm, sgn_int]
  generalize hK : (2 : Int) ^ 1070 = K
  have : ((16 * 2 ^ 1070 : Nat) : Int) = 16 * K := by rw [← hK]; simp
  rw [this, Int.mul_left_comm, Int.mul_assoc]

theorem pos1070 : (0 : Int) < 2 ^ 1070 := Int.pow_pos (by decide)
theorem Fx.zero (b : Bool) : Fx (zero b) 0 := by
  have hlt : 0 < infMag := by unfold infMag; decide
  obtain ⟨m, e, hd, _⟩ := decode_pack b hlt
  refine ⟨b, m, e, hd, ?_⟩
  show val (pack b 0) = _
  rw [val_pack b hlt, V_zero, Int.zero_mul]
  cases b <;> rfl
theorem Fx.add {x y : UInt64} {a b : Int} (hx : Fx x a) (hy : Fx y b) (h : (a + b).natAbs < 2 ^ 53) : Fx (add x y) (a + b) := by
  obtain ⟨s1, m1, e1, d1, v1⟩ := hx
  obtain ⟨s2, m2, e2, d2, v2⟩ := hy
  have hs : val x + val y = (a + b) * 2 ^ 1070 := by rw [v1, v2, Int.add_mul]
  by_cases h0 : a + b = 0
  · rw [(add_right d1 d2).1 (by rw [hs, h0, Int.zero_mul]), h0]
    exact Fx.zero _
  · have hne : val x + val y ≠ 0 := by
      rw [hs]
      intro q
      rcases Int.mul_eq_zero.mp q with q | q
      · exact h0 q
      · have := pos1070; omega
    have R := (add_right d1 d2).2 hne
    have hneg : decide (val x + val y < 0) = decide (a + b < 0) := by
      rw [hs]
      apply decide_eq_decide.mpr
      constructor
      · intro q
        by_cases h2 : a + b < 0
        · exact h2
        · have := Int.mul_nonneg (show 0 ≤ a + b by omega) (Int.le_of_lt pos1070)
          omega
      · intro q; exact Int.mul_neg_of_neg_of_pos q pos1070
    have hW : (val x + val y).natAbs = (a + b).natAbs * 2 ^ 1070 * 1 := by rw [hs, Int.natAbs_mul, Nat.mul_one]; congr 1
    rw [hneg] at R
    obtain ⟨m, e, hd, hv⟩ := exact_of R (by decide) hW h
    refine ⟨_, m, e, hd, ?_⟩
    rw [hv, sgn_int]
    simp

theorem Fx.neg {y : UInt64} {b : Int} (hy : Fx y b) : Fx (neg y) (-b) := by
  obtain ⟨s, m, e, d, v⟩ := hy
  exact ⟨_, m, e, neg_decode d, by rw [neg_val d, v, Int.neg_mul]⟩
theorem Fx.sub {x y : UInt64} {a b : Int} (hx : Fx x a) (hy : Fx y b) (h : (a - b).natAbs < 2 ^ 53) : Fx (sub x y) (a - b) := by
  rw [Int.sub_eq_add_neg] at h ⊢
  unfold Float64.sub
  exact Fx.add hx hy.neg h
theorem Fx.fin {x : UInt64} {a : Int} (hx : Fx x a) : isFinite x = true := by
  obtain ⟨s, m, e, d, v⟩ := hx
  unfold isFinite
  rw [d]
theorem Fx.isZero {x : UInt64} {a : Int} (hx : Fx x a) : isZero x = decide (a = 0) := by
  obtain ⟨s, m, e, d, v⟩ := hx
  have hp := pos1070
  unfold Float64.isZero
  rw [d]
  have hv := val_natAbs d
  rw [v, Int.natAbs_mul] at hv
  cases m with
  | zero =>
    rw [Nat.zero_mul] at hv
    have : a = 0 := by
      rcases Nat.mul_eq_zero.mp hv with q | q
      · omega
      · exfalso; omega
    simp [this]
  | succ m =>
    have hne : a ≠ 0 := by
      intro q
      rw [q] at hv
      have h1 : 0 < (m + 1) * 2 ^ (e + 1074).toNat := Nat.mul_pos (by omega) (Nat.two_pow_pos _)
      have h2 : (0 : Int).natAbs * (2 ^ 1070 : Int).natAbs = 0 := by rw [Int.natAbs_zero, Nat.zero_mul]
      rw [h2] at hv
      omega
    simp [hne]
theorem Fx.cmp {x y : UInt64} {a b : Int} (hx : Fx x a) (hy : Fx y b) : cmp x y = some (compare a b) := by
  obtain ⟨s1, m1, e1, d1, v1⟩ := hx
  obtain ⟨s2, m2, e2, d2, v2⟩ := hy
  rw [cmp_right d1 d2, v1, v2]
  have hp := pos1070
  generalize (2 : Int) ^ 1070 = K at hp
  rcases Int.lt_trichotomy a b with h | h | h
  · rw [Int.compare_eq_lt.mpr h, Int.compare_eq_lt.mpr (Int.mul_lt_mul_of_pos_right h hp)]
  · subst h; simp
  · rw [Int.compare_eq_gt.mpr h, Int.compare_eq_gt.mpr (Int.mul_lt_mul_of_pos_right h hp)]
theorem Fx.cmpInt {x : UInt64} {a : Int} (hx : Fx x a) (i : Int) : cmpInt x i = some (compare a (16 * i)) := by
  obtain ⟨s1, m1, e1, d1, v1⟩ := hx
  rw [cmpInt_right d1, v1, pow16i, ← Int.mul_assoc, Int.mul_comm i 16]
  have hp := pos1070
  generalize (2 : Int) ^ 1070 = K at hp
  rcases Int.lt_trichotomy a (16 * i) with h | h | h
  · rw [Int.compare_eq_lt.mpr h, Int.compare_eq_lt.mpr (Int.mul_lt_mul_of_pos_right h hp)]
  · rw [h]; simp
  · rw [Int.compare_eq_gt.mpr h, Int.compare_eq_gt.mpr (Int.mul_lt_mul_of_pos_right h hp)]

theorem sgn_val {x : UInt64} {s : Bool} {m : Nat} {e : Int} {a : Int} (d : decode x = .fin s m e) (v : val x = a * 2 ^ 1070) : (s = true → a ≤ 0) ∧ (s = false → 0 ≤ a) := by
  have hp := pos1070
  have hv := val_eq d
  rw [v] at hv
  generalize (2 : Int) ^ 1070 = K at hp hv
  constructor
  · rintro rfl
    unfold sgn at hv
    rw [if_pos rfl] at hv
    by_cases h : a ≤ 0
    · exact h
    · have := Int.mul_pos (show 0 < a by omega) hp
      omega
  · rintro rfl
    unfold sgn at hv
    rw [if_neg (by decide)] at hv
    by_cases h : 0 ≤ a
    · exact h
    · have := Int.mul_neg_of_neg_of_pos (show a < 0 by omega) hp
      omega
/-- an int k times a float -/
theorem Fx.mulInt {x y : UInt64} {k b : Int} (hx : Fx x (16 * k)) (hy : Fx y b) (h : (k * b).natAbs < 2 ^ 53) : Fx (mul x y) (k * b) := by
  obtain ⟨s1, m1, e1, d1, v1⟩ := hx
  obtain ⟨s2, m2, e2, d2, v2⟩ := hy
  have R := mul_right d1 d2
  have hW : (val x).natAbs * (val y).natAbs = (k * b).natAbs * 2 ^ 1070 * 2 ^ 1074 := by
    have hK : ((2 : Int) ^ 1070).natAbs = 2 ^ 1070 := by
      have : (2 : Int) ^ 1070 = ((2 ^ 1070 : Nat) : Int) := by simp
      rw [this, Int.natAbs_natCast]
    rw [v1, v2, Int.natAbs_mul, Int.natAbs_mul, Int.natAbs_mul, Int.natAbs_mul, hK, pow16]
    generalize (2 : Nat) ^ 1070 = K
    show 16 * k.natAbs * K * (b.natAbs * K) = k.natAbs * b.natAbs * K * (16 * K)
    ac_rfl
  obtain ⟨m, e, hd, hv⟩ := exact_of R (Nat.two_pow_pos _) hW h
  refine ⟨_, m, e, hd, ?_⟩
  rw [hv]
  have g1 := sgn_val d1 v1
  have g2 := sgn_val d2 v2
  have hK : ((2 ^ 1070 : Nat) : Int) = 2 ^ 1070 := by simp
  rw [sgn_mul, hK]
  congr 1
  unfold sgn
  cases s1 <;> cases s2
  · have h1 := g1.2 rfl; have h2 := g2.2 rfl
    have := Int.mul_nonneg (show 0 ≤ k by omega) h2
    simp; omega
  · have h1 := g1.2 rfl; have h2 := g2.1 rfl
    have := Int.mul_nonneg (show 0 ≤ k by omega) (show 0 ≤ -b by omega)
    rw [Int.mul_neg] at this
    simp; omega
  · have h1 := g1.1 rfl; have h2 := g2.2 rfl
    have := Int.mul_nonneg (show 0 ≤ -k by omega) h2
    rw [Int.neg_mul] at this
    simp; omega
  · have h1 := g1.1 rfl; have h2 := g2.1 rfl
    have := Int.mul_nonneg (show 0 ≤ -k by omega) (show 0 ≤ -b by omega)
    rw [Int.neg_mul_neg] at this
    simp; omega
/-- a float by an int, exactly -/
theorem Fx.divInt {x y : UInt64} {z k : Int} (hk : 0 < k) (hx : Fx x (z * k)) (hy : Fx y (16 * k)) (h : z.natAbs < 2 ^ 53) : Fx (div x y) z := by
  obtain ⟨s1, m1, e1, d1, v1⟩ := hx
  obtain ⟨s2, m2, e2, d2, v2⟩ := id hy
  have hy0 := hy.isZero
  have hm2 : m2 ≠ 0 := by
    rintro rfl
    unfold Float64.isZero at hy0
    rw [d2] at hy0
    simp at hy0
    omega
  have R := div_right d1 d2 hm2
  have hK : ((2 : Int) ^ 1070).natAbs = 2 ^ 1070 := by
    have : (2 : Int) ^ 1070 = ((2 ^ 1070 : Nat) : Int) := by simp
    rw [this, Int.natAbs_natCast]
  have hW : (val x).natAbs * 2 ^ 1074 = z.natAbs * 2 ^ 1070 * (val y).natAbs := by
    rw [v1, v2, Int.natAbs_mul, Int.natAbs_mul, Int.natAbs_mul, Int.natAbs_mul, hK, pow16]
    generalize (2 : Nat) ^ 1070 = K
    show z.natAbs * k.natAbs * K * (16 * K) = z.natAbs * K * (16 * k.natAbs * K)
    ac_rfl
  have hD : 0 < (val y).natAbs := by
    have hp := pos1070
    rw [v2]
    have := Int.mul_pos (show 0 < 16 * k by omega) hp
    omega
  obtain ⟨m, e, hd, hv⟩ := exact_of R hD hW h
  refine ⟨_, m, e, hd, ?_⟩
  rw [hv]
  have g1 := sgn_val d1 v1
  have g2 := sgn_val d2 v2
  have hK : ((2 ^ 1070 : Nat) : Int) = 2 ^ 1070 := by simp
  rw [sgn_mul, hK]
  congr 1
  have hs2 : s2 = false := by
    cases s2
    · rfl
    · have := g2.1 rfl; omega
  subst hs2
  unfold sgn
  cases s1
  · have h1 := g1.2 rfl
    have : 0 ≤ z := by
      by_cases q : 0 ≤ z
      · exact q
      · have := Int.mul_neg_of_neg_of_pos (show z < 0 by omega) hk; omega
    simp; omega
  · have h1 := g1.1 rfl
    have : z ≤ 0 := by
      by_cases q : z ≤ 0
      · exact q
      · have := Int.mul_pos (show 0 < z by omega) hk; omega
    simp; omega
end
-- OmFsum
section
open PySem PySem.W PySem.Calls PyProof.Rows PySem.Flt

theorem kind_fsum : builtinKind "math.fsum" = none := by decide +kernel
theorem plain_fsum : plainId "math.fsum" = true := by decide +kernel
theorem entry_fsum : entryFor table "math.fsum" = some Builtin.«math.fsum» := entryFor_of_fast (by kernel_rfl)
theorem args_fsum (a : Value) : argsOk "math.fsum" ⟨[a], []⟩ := by unfold argsOk; kernel_rfl
theorem plain_fsum_loop : plainId "math.fsum.loop" = true := by decide +kernel
theorem entry_fsum_loop : entryFor table "math.fsum.loop" = some Builtin.«math.fsum.loop» := entryFor_of_fast (by kernel_rfl)

abbrev bitsObj (ps : List UInt64) : Obj := { cls := .type "tuple", data := .seq (ps.map fun x => rawInt x.toNat).toArray }
def bitsOf (vs : Array Value) : List UInt64 := vs.toList.map fun | .int i _ => i.toNat.toUInt64 | _ => 0
theorem bitsOf_obj (ps : List UInt64) : bitsOf (ps.map fun x => rawInt x.toNat).toArray = ps := by
  unfold bitsOf
  rw [List.map_map]
  conv => rhs; rw [← List.map_id ps]
  refine List.map_congr_left fun x _ => ?_
  show ((x.toNat : Int).toNat).toUInt64 = x
  simp

theorem unpack {M : Model} {A : Around} {E : Value → Shared → Prop} {s : Shared} {a : Addr} {ps : List UInt64} {Q : List UInt64 → Shared → Prop} (h : s.heap.get? a = some (bitsObj ps)) (hq : Q ps s) :
    wpAny M A (seqItems? (.ref a) >>= fun r => pure (bitsOf (r.getD #[]))) Q E s := by
  refine wpAny_bind (wpAny_seqItems h rfl (wpAny_pure ?_))
  have e : bitsOf ((some (ps.map fun x => rawInt x.toNat).toArray).getD #[]) = ps := bitsOf_obj ps
  rw [e]
  exact hq
theorem fsum_add0 (x : UInt64) : Float64.fsumAdd [] x = ([], x) := rfl
theorem fsum_add1 {p x : UInt64} {S d : Int} (hp : Fx p (16 * S)) (hx : Fx x (16 * d)) (b1 : (16 * S).natAbs < 2 ^ 50) (b2 : (16 * d).natAbs < 2 ^ 50) : (Float64.fsumAdd [p] x).1 = [] ∧ Fx (Float64.fsumAdd [p] x).2 (16 * (S + d)) := by
  have go : ∀ {x y : UInt64} {a b : Int}, Fx x a → Fx y b → a.natAbs < 2 ^ 50 → b.natAbs < 2 ^ 50 → Float64.isZero (Float64.sub y (Float64.sub (Float64.add x y) x)) = true ∧ Fx (Float64.add x y) (a + b) := fun {x y a b} hx hy h1 h2 => by
    have h := Fx.add hx hy (by omega)
    have h' := Fx.sub h hx (by omega)
    have h'' := Fx.sub hy h' (by omega)
    rw [h''.isZero]
    refine ⟨by simp; omega, h⟩
  by_cases hl : Float64.lt (Float64.abs x) (Float64.abs p) = true
  · have g := go hp hx b1 b2
    have e : Float64.fsumAdd [p] x = (if Float64.isZero (Float64.sub x (Float64.sub (Float64.add p x) p)) = true then [] else [Float64.sub x (Float64.sub (Float64.add p x) p)], Float64.add p x) := by simp [Float64.fsumAdd, hl]
    rw [e, if_pos g.1]
    refine ⟨rfl, ?_⟩
    have := g.2
    rw [← Int.mul_add] at this
    exact this
  · have g := go hx hp b2 b1
    have e : Float64.fsumAdd [p] x = (if Float64.isZero (Float64.sub p (Float64.sub (Float64.add x p) x)) = true then [] else [Float64.sub p (Float64.sub (Float64.add x p) x)], Float64.add x p) := by simp [Float64.fsumAdd, hl]
    rw [e, if_pos g.1]
    refine ⟨rfl, ?_⟩
    have := g.2
    rw [← Int.mul_add, Int.add_comm] at this
    exact this
/-- the partials hold the sum S -/
def Parts (ps : List UInt64) (S : Int) : Prop := (ps = [] ∧ S = 0) ∨ ∃ p, ps = [p] ∧ S ≠ 0 ∧ Fx p (16 * S)
theorem parts_add {ps : List UInt64} {x : UInt64} {S d : Int} (h : Parts ps S) (hx : Fx x (16 * d)) (b1 : (16 * S).natAbs < 2 ^ 50) (b2 : (16 * d).natAbs < 2 ^ 50) :
    Float64.isFinite (Float64.fsumAdd ps x).2 = true ∧ Parts (if Float64.isZero (Float64.fsumAdd ps x).2 = true then (Float64.fsumAdd ps x).1 else (Float64.fsumAdd ps x).1 ++ [(Float64.fsumAdd ps x).2]) (S + d) := by
  have key : (Float64.fsumAdd ps x).1 = [] ∧ Fx (Float64.fsumAdd ps x).2 (16 * (S + d)) := by
    rcases h with ⟨rfl, rfl⟩ | ⟨p, rfl, _, hp⟩
    · rw [fsum_add0, Int.zero_add]; exact ⟨rfl, hx⟩
    · exact fsum_add1 hp hx b1 b2
  refine ⟨key.2.fin, ?_⟩
  rw [key.1, key.2.isZero]
  by_cases h0 : S + d = 0
  · rw [if_pos (by simp [h0])]; exact .inl ⟨rfl, h0⟩
  · rw [if_neg (by simp; omega)]; exact .inr ⟨_, rfl, h0, key.2⟩
theorem parts_end {ps : List UInt64} {S : Int} (h : Parts ps S) : Fx (Float64.fsumEnd ps) (16 * S) := by
  rcases h with ⟨rfl, rfl⟩ | ⟨p, rfl, _, hp⟩
  · exact Fx.zero false
  · exact hp

section
variable {prog : Program} {w : World} {A : Around} {R : Result → Shared → Prop} {I : Addr} {fp wr : List Addr} {n : Nat} {P : Nat → Value → Prop} {St : Nat → Heap → Prop}
def pre (ds : Nat → Int) : Nat → Int
  | 0 => 0
  | i + 1 => pre ds i + ds i
theorem not_over {d : Int} (h : (16 * d).natAbs < 2 ^ 50) : ¬ Over d := by
  intro q
  have h2 : (2 ^ 50 : Nat) ≤ 2 ^ 1024 - 2 ^ 970 := by decide +kernel
  exact absurd (Nat.le_trans h2 q) (by omega)
theorem fsum_loop (W : Walks prog w A.in1 I fp wr n P St) (hA : A.handled = none) (ds : Nat → Int) (hval : ∀ i v, P i v → ∃ t, v = .int (ds i) t) (hb : ∀ i, i < n → (16 * ds i).natAbs < 2 ^ 50 ∧ (16 * pre ds i).natAbs < 2 ^ 50) :
    ∀ (k i : Nat) (s : Shared) (pt sp : Addr) (ps : List UInt64), n - i = k → i ≤ n → St i s.heap → s.heap.get? pt = some (bitsObj ps) → s.heap.get? sp = some (bitsObj [Float64.zero false, Float64.zero false]) → Parts ps (pre ds i) → sp ∉ wr →
    (∀ h' tk x t, (∀ b o, b ∉ wr → s.heap.get? b = some o → h'.get? b = some o) → Fx x (16 * pre ds n) → R (.ok (.ret (.float x t))) { s with heap := h', toks := tk }) →
    codeAny (model prog w) A (.builtin "math.fsum.loop" ⟨[.ref I, .ref pt, .ref sp], []⟩) R s := by
  intro k
  induction k with
  | zero =>
    intro i s pt sp ps hk hi hst hp hsp hps hspw hR
    have hin : i = n := by omega
    subst hin
    refine codeAny_builtin entry_fsum_loop ?_
    rw [Around.under_plainId plain_fsum_loop _]
    unfold Builtin.«math.fsum.loop»
    dsimp only
    refine wpAny_bind (show wpAny _ A.in1 (seqItems? (.ref pt) >>= fun r => pure (bitsOf (r.getD #[]))) _ _ s from unpack hp ?_)
    refine wpAny_bind (show wpAny _ A.in1 (seqItems? (.ref sp) >>= fun r => pure (bitsOf (r.getD #[]))) _ _ s from unpack hsp ?_)
    dsimp only
    refine wpAny_bind (W.done s _ _ hst fun h' tk hk' => ?_)
    dsimp only
    rw [if_neg (by decide +kernel)]
    unfold Builtin.Float.retFloat
    refine wpAny_bind (wpAny_bind (wpAny_fresh (wpAny_pure (wpAny_pure ?_))))
    exact hR h' _ _ _ hk' (parts_end hps)
  | succ k ih =>
    intro i s pt sp ps hk hi hst hp hsp hps hspw hR
    have hlt : i < n := by omega
    refine codeAny_builtin entry_fsum_loop ?_
    rw [Around.under_plainId plain_fsum_loop _]
    unfold Builtin.«math.fsum.loop»
    dsimp only
    refine wpAny_bind (show wpAny _ A.in1 (seqItems? (.ref pt) >>= fun r => pure (bitsOf (r.getD #[]))) _ _ s from unpack hp ?_)
    refine wpAny_bind (show wpAny _ A.in1 (seqItems? (.ref sp) >>= fun r => pure (bitsOf (r.getD #[]))) _ _ s from unpack hsp ?_)
    dsimp only
    refine wpAny_bind (W.item i s _ _ hlt hst fun v h' tk hP hst' hk' => ?_)
    obtain ⟨t, rfl⟩ := hval i v hP
    dsimp only
    obtain ⟨b1, b2⟩ := hb i hlt
    refine wpAny_bind (wpAny_holding (realArg_int hA (fun h => absurd h (not_over b1)) fun _ => ?_))
    have key := parts_add hps (Fx.ofInt (i := ds i) (by omega)) b2 b1
    rw [if_pos key.1]
    refine wpAny_bind (show wpAny _ A.in1 (newTuple _) _ _ _ from wpAny_newTuple ?_ ?_)
    · refine wpAny_pure ⟨plainId_quiet plain_fsum_loop _, ?_⟩
      dsimp only
      refine ih (i + 1) _ _ sp _ (by omega) hlt (W.frame _ _ _ hst' fun b _ o e => Heap.get?_push_of_some _ e) (Heap.get?_push_size _ rfl) (Heap.get?_push_of_some _ (hk' _ _ hspw hsp)) key.2 hspw ?_
      intro h₅ tk₅ x₅ t₅ hk₅ hx₅
      exact hR h₅ tk₅ x₅ t₅ (fun b o nb e => hk₅ b o nb (Heap.get?_push_of_some _ (hk' b o nb e))) hx₅
    · have hl : ∀ S, Parts (if Float64.isZero (Float64.fsumAdd ps (Float64.ofInt (ds i))).2 = true then (Float64.fsumAdd ps (Float64.ofInt (ds i))).1 else (Float64.fsumAdd ps (Float64.ofInt (ds i))).1 ++ [(Float64.fsumAdd ps (Float64.ofInt (ds i))).2]) S → (if Float64.isZero (Float64.fsumAdd ps (Float64.ofInt (ds i))).2 = true then (Float64.fsumAdd ps (Float64.ofInt (ds i))).1 else (Float64.fsumAdd ps (Float64.ofInt (ds i))).1 ++ [(Float64.fsumAdd ps (Float64.ofInt (ds i))).2]).length ≤ 1 := fun S h => by
        rcases h with ⟨e, _⟩ | ⟨p, e, _⟩ <;> rw [e] <;> simp
      have := hl _ key.2
      rw [List.length_map, sizeLine_eq]
      omega
end

section
variable {prog : Program} {w : World} {A : Around} {E : Value → Shared → Prop} {s : Shared}
theorem fsum_list {l : Addr} {ps : List (Int × Tok)} {n : Nat} {Q : Value → Shared → Prop} (hA : A.handled = none) (ho : s.heap.get? l = some (listOf (iv ps).toArray n)) (hlen : ps.length ≤ 100) (hb : ∀ p ∈ ps, p.1.natAbs < 2 ^ 36)
    (h : ∀ h' tk x t, Keeps [] s.heap h' → Fx x (16 * (ps.map (·.1)).sum) → Q (.float x t) { s with heap := h', toks := tk }) : wpAny (model prog w) A (call (.builtin "math.fsum") [.ref l]) Q E s := by
  have hL : s.heap.IsList l (iv ps).toArray := ⟨_, ho, rfl, n, rfl⟩
  have hlt : @LT.lt Nat _ l s.heap.objs.size := Heap.lt_size ho
  have bound : ∀ i, (pre (fun j => (ps.getD j (0, 0)).1) i).natAbs ≤ i * 2 ^ 36 := fun i => by
    induction i with
    | zero => simp [pre]
    | succ i ih =>
      have hd : ((ps.getD i (0, 0)).1).natAbs < 2 ^ 36 := by
        by_cases hi : i < ps.length
        · have : ps.getD i (0, 0) = ps[i] := by simp [List.getD, hi]
          rw [this]; exact hb _ (List.getElem_mem hi)
        · have : ps.getD i (0, 0) = (0, 0) := by simp [List.getD, Nat.le_of_not_lt hi]
          rw [this]; decide
      simp only [pre]
      omega
  have hsum : pre (fun j => (ps.getD j (0, 0)).1) ps.length = (ps.map (·.1)).sum := by
    have : ∀ k, k ≤ ps.length → pre (fun j => (ps.getD j (0, 0)).1) k = ((ps.take k).map (·.1)).sum := fun k => by
      induction k with
      | zero => intro _; rfl
      | succ k ih =>
        intro hk
        have hi : k < ps.length := by omega
        rw [pre, ih (by omega), List.take_add_one]
        have e : ps[k]? = some ps[k] := by simp [hi]
        have e2 : ps.getD k (0, 0) = ps[k] := by simp [List.getD, hi]
        rw [e, e2, List.map_append, List.sum_append]
        show _ = _ + ([ps[k].1]).sum
        simp only [List.sum_cons, List.sum_nil, Int.add_zero]
    rw [this _ (Nat.le_refl _), List.take_length]
  refine call_function_tree kind_fsum plain_fsum entry_fsum (args_fsum _) ?_
  unfold Builtin.«math.fsum»
  refine wpAny_bind (wpAny_of_eq (a := Value.ref l) rfl ?_)
  refine wpAny_bind (wpAny_pyIter_list hL ?_)
  refine wpAny_bind (show wpAny _ A.in1 (newTuple []) _ _ _ from wpAny_newTuple ?_ (by rw [sizeLine_eq]; decide))
  refine wpAny_bind (show wpAny _ A.in1 (newTuple [rawInt (Float64.zero false).toNat, rawInt (Float64.zero false).toNat]) _ _ _ from wpAny_newTuple ?_ (by rw [sizeLine_eq]; decide))
  refine wpAny_pure ⟨plainId_quiet plain_fsum_loop _, ?_⟩
  have e1 : ∀ o : Obj, (s.heap.push o).objs.size = s.heap.objs.size + 1 := fun _ => Heap.size_push ..
  have e2 : ∀ o o' : Obj, ((s.heap.push o).push o').objs.size = s.heap.objs.size + 2 := fun o o' => by rw [Heap.size_push, e1]
  dsimp only
  have W := Walks.list (prog := prog) (w := w) (A := A.in1) hA s.heap.objs.size l (neN (by omega)) (iv ps).toArray
  have hsz : (iv ps).toArray.size = ps.length := by simp
  rw [hsz] at W
  refine fsum_loop W hA (fun j => (ps.getD j (0, 0)).1) ?_ ?_ ps.length 0 _ _ _ [] rfl (Nat.zero_le _) ⟨⟨_, Heap.get?_push_of_some _ (Heap.get?_push_of_some _ (Heap.get?_push_size _ rfl)), rfl, rfl⟩, ((hL.push _).push _).push _⟩ (Heap.get?_push_of_some _ (Heap.get?_push_size _ rfl)) (Heap.get?_push_size _ rfl) (.inl ⟨rfl, rfl⟩) ?_ ?_
  · intro i v hv
    have hv' : (ps.map fun p => Value.int p.1 p.2)[i]? = some v := by simpa using hv
    rw [List.getElem?_map] at hv'
    cases q : ps[i]? with
    | none => rw [q] at hv'; cases hv'
    | some p =>
      rw [q] at hv'
      refine ⟨p.2, ?_⟩
      have : ps.getD i (0, 0) = p := by simp [List.getD, q]
      rw [this]
      exact (Option.some.inj hv').symm
  · intro i hi
    have hd : ((ps.getD i (0, 0)).1).natAbs < 2 ^ 36 := by
      have : ps.getD i (0, 0) = ps[i] := by simp [List.getD, hi]
      rw [this]; exact hb _ (List.getElem_mem hi)
    have := bound i
    (try dsimp only)
    constructor
    · omega
    · have h3 : i * 2 ^ 36 ≤ 100 * 2 ^ 36 := Nat.mul_le_mul_right _ (by omega)
      omega
  · rw [e2]
    simp only [List.mem_singleton]
    exact neN (by omega)
  · intro h' tk x t hk hx
    dsimp only at hk ⊢
    rw [hsum] at hx
    refine h h' tk x t (fun b o _ e => ?_) hx
    have hlt' : @LT.lt Nat _ b s.heap.objs.size := Heap.lt_size e
    exact hk b o (by simp only [List.mem_singleton]; exact neN (by omega)) (Heap.get?_push_of_some _ (Heap.get?_push_of_some _ (Heap.get?_push_of_some _ e)))
end
end
end
section
local macro_rules | `(tactic| walk_at "om_stop") => `(tactic| with_reducible first | show wpAny _ _ (exec (Stmt.While _ _ _ _) _) _ _ _ | show wpAny _ _ (PySem.call (Value.ref _) _ _) _ _ _ | show wpAny _ _ (subscriptTail _ _ (Value.ref _) _) _ _ _ | show wpAny _ _ (setItem (Value.ref _) _ _) _ _ _ | show wpAny _ _ (compareOp _ (Value.ref _) (Value.ref _)) _ _ _ | show wpAny _ _ (PySem.call (Value.builtin "len") _ _) _ _ _ | show wpAny _ _ (pyIter (Value.ref _)) _ _ _ | show wpAny _ _ (PySem.call (Value.type "reversed") _ _) _ _ _ | show wpAny _ _ (PySem.call (Value.builtin "list.pop") _ _) _ _ _ | show wpAny _ _ (truthy (Value.ref _)) _ _ _ | show wpAny _ _ (PySem.call (Value.type "list") _ _) _ _ _ | show wpAny _ _ (eval (PySem.Expr.ListComp _ _ _ _) _) _ _ _ | show wpAny _ _ (binaryOp PySem.Operator.Add (Value.ref _) (Value.ref _)) _ _ _ | show wpAny _ _ (PySem.call (Value.builtin "list.remove") _ _) _ _ _ | show wpAny _ _ (PySem.call (Value.builtin "list.append") _ _) _ _ _ | show wpAny _ _ (PySem.call (Value.builtin "list.count") _ _) _ _ _ | show wpAny _ _ (PySem.call (Value.builtin "math.fsum") _ _) _ _ _ | show wpAny _ _ (binaryOp _ (Value.float _ _) _) _ _ _ | show wpAny _ _ (binaryOp _ _ (Value.float _ _)) _ _ _ | show wpAny _ _ (compareOp _ (Value.float _ _) _) _ _ _ | show wpAny _ _ (exec (Stmt.Try _ _ _ _ _) _) _ _ _ | show LpEnd _ _ _ _ _ _ _ | show KswEnd _ _ _ _ _ _ _ _ _ _ _ _)
-- OmFmean
section
open PySem PySem.W PySem.Calls PyProof.Rows
theorem fmean_c {w : World} {p : Program} {loose : List Str} {mean : ExcName → Option Value} {mg mb : Str → Option Value}
    (dp un : Nat) (gd : Option (List Code)) (cn : Str) (cs : Scope) (a0 : Addr) (ccd : Value) (cl : List (Str × Addr)) (outer : List Env) (A₀ : Around) (base h₀ : Heap) (L : Addr) (m : Str → Option Value) (s : Shared)
    (Q E : Value → Shared → Prop) (l : Addr) (ps : List (Int × Tok)) (n : Nat) (z : Int)
    (B : Below A₀ base outer h₀) (F : Fr h₀ L s.heap m) (X : (hd.heap_39 w.params).In h₀) (T : Top p loose mean mg mb h₀) (hk : cs.kind = .function) (hd : dp < 390) (hu : un < 700)
    (hl : s.heap.get? l = some (listOf (iv ps).toArray n)) (hpos : 0 < ps.length) (hlen : ps.length ≤ 100) (hb : ∀ q ∈ ps, q.1.natAbs < 2 ^ 36) (hz : 16 * (ps.map (·.1)).sum = z * ps.length) (hzb : z.natAbs < 2 ^ 50)
    (ret : ∀ h' tk' x t, Keeps [] s.heap h' → Fx x z → Q (.float x t) { s with heap := h', toks := tk' }) :
    wpAny (model PySem.Challenge.rw_om0012_01.row.prog w) (ktrTop dp un gd cn cs L a0 ccd cl outer) (call (.ref 63) [.ref l]) Q E s := by
  revert X; k_fill; intro X
  have N : News h₀ L s.heap [] := News.nil
  refine wpAny_call ?_
  k_dflt (refine' enter_defC (binds := [(Str.ofString "data", .ref l), (Str.ofString "weights", .none)]) ?k1 ?k2 ?k3 ?k4 ?k5 ?kA ?kF ?kK ?k6 ?k7 ?k8 ?k9 ?kB ?kD ?_ ?c2 ?c3 ?c4; walk_at "om_enterC")
  intro g L' h' tk' cells KG F' N' Y B' X' T' l'
  k_cells Y
  (try simp only [List.cons_append, List.nil_append] at N')
  clear N F B X T
  (try dsimp only); (try k_fold)
  walk_at "om_steps"
  have hg : g.get? l = some (listOf (iv ps).toArray n) := KG l _ (by simp) hl
  refine wpAny_Try_except ?_
  (try dsimp only); (try k_fold)
  walk_at "om_steps"
  have esz : (iv ps).toArray.size = ps.length := by simp
  refine len_list (items := (iv ps).toArray) ⟨_, F'.keep _ _ hg, rfl, n, rfl⟩ (by rw [esz]; omega) ?_
  rw [esz]
  (try dsimp only); (try k_fold)
  walk_at "om_steps"
  rename Fr _ _ _ _ => F1
  rename News _ _ _ _ => N1
  refine fsum_list (ps := ps) (n := n) (by rfl) (F1.keep _ _ hg) hlen hb fun h2 tk2 x2 t2 K2 hx2 => ?_
  dsimp only at K2
  have F2 := K2.fr F1 (by simp) (by simp)
  have N2 := K2.news N1 (by simp)
  clear F1 N1
  (try dsimp only); (try k_fold)
  walk_at "om_stepsI"
  have hn0 : ((ps.length : Int) != 0) = true := by simp only [bne_iff_ne, ne_eq]; omega
  rw [hn0, if_neg (by decide)]
  (try dsimp only); (try k_fold)
  walk_at "om_steps"
  rename Fr _ _ _ _ => F3
  refine PySem.Flt.truediv_fi (by rfl) (fun h => absurd h (not_over (by omega))) (fun h => absurd h (by omega)) ?_
  intro _ _
  (try dsimp only); (try k_fold)
  walk_at "om_steps"
  refine ret _ _ _ _ ((KG.trans fun b o _ e => F3.keep b o e)) ?_
  exact Fx.divInt (k := ps.length) (by omega) (by rw [← hz]; exact hx2) (Fx.ofInt (by omega)) (by omega)
end
-- OmSort
section
open PySem PySem.W PySem.Calls PyProof.Rows

/- the sort's tree of questions: with an order by whole numbers it ends in a sorted permutation -/
section
variable {N : Nat} {k : Nat → Int} {cmp : Nat → Nat → (Bool → Shared → Prop) → Shared → Prop} {s : Shared}

def sg (k : Nat → Int) (p : Array Nat) (i : Nat) : Int := k (p.getD i 0)
def STo (k : Nat → Int) (p : Array Nat) (m : Nat) : Prop := ∀ i j, i ≤ j → j < m → sg k p i ≤ sg k p j
def NTo (k : Nat → Int) (p : Array Nat) (m : Nat) : Prop := ∀ i j, i ≤ j → j < m → sg k p j ≤ sg k p i
def PGood (N : Nat) (p : Array Nat) : Prop := p.Perm (List.range N).toArray

theorem PGood.size {p : Array Nat} (h : PGood N p) : p.size = N := by
  have := h.size_eq
  simpa using this
theorem PGood.at {p : Array Nat} (h : PGood N p) {i : Nat} (hi : i < N) : p.getD i 0 < N := by
  have hs : i < p.size := by rw [h.size]; exact hi
  have e : p.getD i 0 = p[i] := by simp [Array.getD, hs]
  have hm : p[i] ∈ p := Array.getElem_mem hs
  have := (h.mem_iff).1 hm
  rw [e]
  simpa using this
theorem PGood.mirror {p : Array Nat} (h : PGood N p) (i j d : Nat) : PGood N (mirror p i j d) := (mirror_perm _ _ _ _).trans h
theorem PGood.bubble {p : Array Nat} (h : PGood N p) (i d : Nat) : PGood N (bubble p i d) := (bubble_perm _ _ _).trans h

theorem sg_congr {p q : Array Nat} {i j : Nat} (h : p[i]? = q[j]?) : sg k p i = sg k q j := by
  unfold sg
  congr 1
  rw [Array.getD_eq_getD_getElem?, Array.getD_eq_getD_getElem?, h]
theorem sg_mirror {p : Array Nat} {i j : Nat} (hj : j ≤ p.size) (x : Nat) : sg k (mirror p i j ((j - i) / 2)) x = if i ≤ x ∧ x < j then sg k p (i + j - 1 - x) else sg k p x := by
  split
  · next h => exact sg_congr (by rw [getElem?_mirror_all hj, if_pos h])
  · next h => exact sg_congr (by rw [getElem?_mirror_all hj, if_neg h])
theorem sg_mirror_equal {p : Array Nat} {i j : Nat} (hj : j ≤ p.size) (heq : ∀ x, i ≤ x → x < j → sg k p x = sg k p (j - 1)) (x : Nat) : sg k (mirror p i j ((j - i) / 2)) x = sg k p x := by
  rw [sg_mirror hj]
  split
  · next h => rw [heq _ (by omega) (by omega), heq x h.1 h.2]
  · rfl
theorem sg_bubble {p : Array Nat} {src d : Nat} (hs : src < p.size) (hd : d ≤ src) (x : Nat) :
    sg k (bubble p src d) x = if x = src - d then sg k p src else if src - d < x ∧ x ≤ src then sg k p (x - 1) else sg k p x := by
  split
  · next h => exact sg_congr (by rw [getElem?_bubble hs d hd, if_pos h])
  · next h =>
    split
    · next h' => exact sg_congr (by rw [getElem?_bubble hs d hd, if_neg h, if_pos h'])
    · next h' => exact sg_congr (by rw [getElem?_bubble hs d hd, if_neg h, if_neg h'])

theorem asc_ok (hc : ∀ i j C, i < N → j < N → C (decide (k i < k j)) s → cmp i j C s) {p : Array Nat} (hp : PGood N p) {Q : Nat → Shared → Prop} :
    ∀ (f n : Nat), 1 ≤ n → n + f ≤ N → STo k p n → (∀ m, n ≤ m → m ≤ n + f → STo k p m → (m = n + f ∨ sg k p m < sg k p (m - 1)) → Q m s) → (kas_asc p f n).kasWp cmp Q s
  | 0, n, h1, hN, hs, h => h n (Nat.le_refl _) (Nat.le_refl _) hs (.inl rfl)
  | f + 1, n, h1, hN, hs, h => by
    refine hc _ _ _ (hp.at (by omega)) (hp.at (by omega)) ?_
    by_cases hl : k (p.getD n 0) < k (p.getD (n - 1) 0)
    · rw [decide_eq_true hl]; (try dsimp only); (try rw [if_pos rfl])
      exact h n (Nat.le_refl _) (by omega) hs (.inr hl)
    · rw [decide_eq_false hl]; (try dsimp only); (try rw [if_neg (by simp)])
      refine asc_ok hc hp f (n + 1) (by omega) (by omega) ?_ (fun m a b c d => h m (by omega) (by omega) c (by rcases d with d | d; exact .inl (by omega); exact .inr d))
      intro i j hij hj
      by_cases hjx : j < n
      · exact hs i j hij hjx
      · have hj' : j = n := by omega
        subst hj'
        by_cases hi' : i = j
        · subst hi'; exact Int.le_refl _
        · exact Int.le_trans (hs i (j - 1) (by omega) (by omega)) (Int.not_lt.mp hl)

theorem tail3_ok (hc : ∀ i j C, i < N → j < N → C (decide (k i < k j)) s → cmp i j C s) {p : Array Nat} (hp : PGood N p) {Q : Nat × Array Nat → Shared → Prop} {n : Nat} (h1 : 1 ≤ n) (hn : n ≤ N) (hs : NTo k p n)
    (h : ∀ m q, PGood N q → 1 ≤ m → m ≤ N → STo k q m → Q (m, q) s) : (kas_tail3 n N p).kasWp cmp Q s := by
  unfold kas_tail3
  rw [KasT.kasWp_bind]
  have hp' : PGood N (kas_rev p 0 n) := hp.mirror _ _ _
  refine asc_ok hc hp' (N - n) n h1 (by omega) ?_ (fun m a b c _ => h m _ hp' (by omega) (by omega) c)
  intro i j hij hj
  have hsz : n ≤ p.size := by rw [hp.size]; exact hn
  show sg k (mirror p 0 n ((n - 0) / 2)) i ≤ sg k (mirror p 0 n ((n - 0) / 2)) j
  rw [sg_mirror hsz, sg_mirror hsz, if_pos (by omega), if_pos (by omega)]
  exact hs _ _ (by omega) (by omega)

theorem desc_ok (hc : ∀ i j C, i < N → j < N → C (decide (k i < k j)) s → cmp i j C s) {Q : Array Nat × Nat × Nat → Shared → Prop} :
    ∀ (f : Nat) (p : Array Nat) (x neq : Nat), PGood N p → x + f ≤ N → NTo k p x → neq + 1 ≤ x → (∀ i, x - (neq + 1) ≤ i → i < x → sg k p i = sg k p (x - 1)) →
      (∀ q m e, PGood N q → 1 ≤ m → m ≤ N → NTo k q m → e + 1 ≤ m → (∀ i, m - (e + 1) ≤ i → i < m → sg k q i = sg k q (m - 1)) → Q (q, m, e) s) → (kas_desc f p x neq).kasWp cmp Q s
  | 0, p, x, neq, hp, hN, hs, hq, he, h => h p x neq hp (by omega) hN hs hq he
  | f + 1, p, x, neq, hp, hN, hs, hq, he, h => by
    refine hc _ _ _ (hp.at (by omega)) (hp.at (by omega)) ?_
    have hsz : x ≤ p.size := by rw [hp.size]; omega
    by_cases hl : k (p.getD x 0) < k (p.getD (x - 1) 0)
    · rw [decide_eq_true hl]; (try dsimp only); (try rw [if_pos rfl])
      have step1 : ∀ q : Array Nat, (∀ i, sg k q i = sg k p i) → NTo k q (x + 1) := by
        intro q hk i j hij hj
        rw [hk, hk]
        by_cases hjx : j < x
        · exact hs i j hij hjx
        · have hj' : j = x := by omega
          subst hj'
          by_cases hi' : i = j
          · subst hi'; exact Int.le_refl _
          · exact Int.le_trans (Int.le_of_lt hl) (hs i (j - 1) (by omega) (by omega))
      by_cases hneq : neq > 0
      · rw [if_pos hneq]
        exact desc_ok hc f _ (x + 1) 0 (hp.mirror _ _ _) (by omega) (step1 _ (sg_mirror_equal hsz he)) (by omega) (fun i a b => by congr 1; omega) h
      · rw [if_neg hneq]
        exact desc_ok hc f _ (x + 1) 0 hp (by omega) (step1 _ (fun _ => rfl)) (by omega) (fun i a b => by congr 1; omega) h
    · rw [decide_eq_false hl]; (try dsimp only); (try rw [if_neg (by simp)])
      refine hc _ _ _ (hp.at (by omega)) (hp.at (by omega)) ?_
      by_cases hg : k (p.getD (x - 1) 0) < k (p.getD x 0)
      · rw [decide_eq_true hg]; (try dsimp only); (try rw [if_pos rfl])
        exact h p x neq hp (by omega) (by omega) hs hq he
      · rw [decide_eq_false hg]; (try dsimp only); (try rw [if_neg (by simp)])
        have heqx : sg k p x = sg k p (x - 1) := by unfold sg; omega
        refine desc_ok hc f _ (x + 1) (neq + 1) hp (by omega) (fun i j hij hj => ?_) (by omega) (fun i a b => ?_) h
        · by_cases hjx : j < x
          · exact hs i j hij hjx
          · have hj' : j = x := by omega
            subst hj'
            by_cases hi' : i = j
            · subst hi'; exact Int.le_refl _
            · rw [heqx]; exact hs i (j - 1) (by omega) (by omega)
        · rw [show x + 1 - 1 = x by omega]
          by_cases hix : i = x
          · subst hix; rfl
          · rw [heqx]; exact he i (by omega) (by omega)

theorem descPart_ok (hc : ∀ i j C, i < N → j < N → C (decide (k i < k j)) s → cmp i j C s) {p : Array Nat} (hp : PGood N p) {Q : Nat × Array Nat → Shared → Prop} {n : Nat} (hn : n + 1 ≤ N) (hs : NTo k p (n + 1))
    (h : ∀ m q, PGood N q → 1 ≤ m → m ≤ N → STo k q m → Q (m, q) s) : (kas_descPart n N p).kasWp cmp Q s := by
  unfold kas_descPart
  rw [KasT.kasWp_bind]
  refine desc_ok hc _ p (n + 1) 0 hp (by omega) hs (by omega) (fun i a b => by congr 1; omega) (fun q m e hq hm1 hm2 hs' he1 he => ?_)
  dsimp only
  have hsz : m ≤ q.size := by rw [hq.size]; exact hm2
  by_cases hneq : e > 0
  · rw [if_pos hneq]
    refine tail3_ok hc (hq.mirror _ _ _) hm1 hm2 ?_ h
    intro i j hij hj
    show sg k (mirror q _ _ _) j ≤ sg k (mirror q _ _ _) i
    rw [sg_mirror_equal hsz he, sg_mirror_equal hsz he]
    exact hs' i j hij hj
  · rw [if_neg hneq]
    exact tail3_ok hc hq hm1 hm2 hs' h

theorem count_ok (hc : ∀ i j C, i < N → j < N → C (decide (k i < k j)) s → cmp i j C s) {p : Array Nat} (hp : PGood N p) {Q : Nat × Array Nat → Shared → Prop} (hN : 1 ≤ N)
    (h : ∀ m q, PGood N q → 1 ≤ m → m ≤ N → STo k q m → Q (m, q) s) : (kas_count N p).kasWp cmp Q s := by
  unfold kas_count
  rw [KasT.kasWp_bind]
  refine asc_ok hc hp (N - 1) 1 (Nat.le_refl _) (by omega) (fun i j hij hj => by have : i = j := by omega
                                                                                 subst this; exact Int.le_refl _) (fun n hn1 hn2 hsn hor => ?_)
  by_cases hnn : n = N
  · rw [if_pos (by simpa using hnn)]
    exact h n p hp hn1 (by omega) hsn
  · rw [if_neg (by simpa using hnn)]
    have hlt : sg k p n < sg k p (n - 1) := hor.resolve_left (by omega)
    by_cases hgt : n > 1
    · rw [if_pos hgt]
      refine hc _ _ _ (hp.at (by omega)) (hp.at (by omega)) ?_
      by_cases hr : k (p.getD 0 0) < k (p.getD (n - 1) 0)
      · rw [decide_eq_true hr]; (try dsimp only); (try rw [if_pos rfl])
        exact h n p hp hn1 (by omega) hsn
      · rw [decide_eq_false hr]; (try dsimp only); (try rw [if_neg (by simp)])
        have hsz : n ≤ p.size := by rw [hp.size]; omega
        have hall : ∀ x, 0 ≤ x → x < n → sg k p x = sg k p (n - 1) := by
          intro x _ hx
          have a1 := hsn 0 x (by omega) hx
          have a2 := hsn x (n - 1) (by omega) (by omega)
          have a3 : ¬ sg k p 0 < sg k p (n - 1) := hr
          omega
        refine descPart_ok hc (hp.mirror _ _ _) (by omega) ?_ h
        intro i j hij hj
        show sg k (mirror p _ _ _) j ≤ sg k (mirror p _ _ _) i
        rw [sg_mirror_equal hsz hall, sg_mirror_equal hsz hall]
        by_cases hjn : j < n
        · rw [hall i (by omega) (by omega), hall j (by omega) hjn]; exact Int.le_refl _
        · have hj' : j = n := by omega
          subst hj'
          by_cases hi' : i = j
          · subst hi'; exact Int.le_refl _
          · rw [hall i (by omega) (by omega)]; exact Int.le_of_lt hlt
    · rw [if_neg hgt]
      refine descPart_ok hc hp (by omega) ?_ h
      intro i j hij hj
      have : n = 1 := by omega
      subst this
      by_cases hi' : i = j
      · subst hi'; exact Int.le_refl _
      · have e1 : i = 0 := by omega
        have e2 : j = 1 := by omega
        subst e1 e2
        exact Int.le_of_lt hlt

theorem place_ok (hc : ∀ i j C, i < N → j < N → C (decide (k i < k j)) s → cmp i j C s) {p : Array Nat} (hp : PGood N p) {Q : Nat → Shared → Prop} {x : Nat} (hx : x < N) (hs : STo k p x) :
    ∀ (f l r : Nat), r ≤ l + f → l ≤ r → r ≤ x → (∀ i, i < l → sg k p i ≤ sg k p x) → (∀ i, r ≤ i → i < x → sg k p x < sg k p i) →
      (∀ m, m ≤ x → (∀ i, i < m → sg k p i ≤ sg k p x) → (∀ i, m ≤ i → i < x → sg k p x < sg k p i) → Q m s) → (kas_place p x f l r).kasWp cmp Q s
  | 0, l, r, hf, hlr, hr, h1, h2, h => h l (by omega) h1 (fun i a b => h2 i (by omega) b)
  | f + 1, l, r, hf, hlr, hr, h1, h2, h => by
    unfold kas_place
    by_cases hge : l ≥ r
    · rw [if_pos hge]
      exact h l (by omega) h1 (fun i a b => h2 i (by omega) b)
    · rw [if_neg hge]
      refine hc _ _ _ (hp.at hx) (hp.at (by omega)) ?_
      by_cases hl : k (p.getD x 0) < k (p.getD ((l + r) / 2) 0)
      · rw [decide_eq_true hl]; (try dsimp only); (try rw [if_pos rfl])
        refine place_ok hc hp hx hs f l _ (by omega) (by omega) (by omega) h1 (fun i a b => ?_) h
        exact Int.lt_of_lt_of_le hl (hs _ _ a b)
      · rw [decide_eq_false hl]; (try dsimp only); (try rw [if_neg (by simp)])
        refine place_ok hc hp hx hs f _ r (by omega) (by omega) hr (fun i a => ?_) h2 h
        exact Int.le_trans (hs i ((l + r) / 2) (by omega) (by omega)) (Int.not_lt.mp hl)

theorem bin_ok (hc : ∀ i j C, i < N → j < N → C (decide (k i < k j)) s → cmp i j C s) {Q : Array Nat → Shared → Prop} :
    ∀ (f : Nat) (p : Array Nat) (x : Nat), PGood N p → 1 ≤ x → x + f = N → STo k p x → (∀ q, PGood N q → STo k q N → Q q s) → (kas_bin f p x).kasWp cmp Q s
  | 0, p, x, hp, h1, hN, hs, h => h p hp (by rw [← hN]; exact hs)
  | f + 1, p, x, hp, h1, hN, hs, h => by
    unfold kas_bin
    rw [KasT.kasWp_bind]
    refine place_ok hc hp (by omega) hs x 0 x (by omega) (by omega) (by omega) (fun i a => absurd a (by omega)) (fun i a b => absurd b (by omega)) (fun m hm a b => ?_)
    refine bin_ok hc f _ (x + 1) (hp.bubble _ _) (by omega) (by omega) ?_ h
    have hsz : x < p.size := by rw [hp.size]; omega
    intro i j hij hj
    rw [sg_bubble hsz (by omega), sg_bubble hsz (by omega)]
    have e : x - (x - m) = m := by omega
    rw [e]
    by_cases i1 : i = m
    · rw [if_pos i1]
      by_cases j1 : j = m
      · rw [if_pos j1]; exact Int.le_refl _
      · rw [if_neg j1, if_pos (by omega)]
        exact Int.le_of_lt (b _ (by omega) (by omega))
    · rw [if_neg i1]
      by_cases j1 : j = m
      · rw [if_pos j1, if_neg (by omega)]
        exact a i (by omega)
      · rw [if_neg j1]
        by_cases i2 : m < i ∧ i ≤ x
        · rw [if_pos i2, if_pos (by omega)]
          exact hs _ _ (by omega) (by omega)
        · rw [if_neg i2]
          by_cases j2 : m < j ∧ j ≤ x
          · rw [if_pos j2]
            exact hs _ _ (by omega) (by omega)
          · rw [if_neg j2]
            exact hs _ _ (by omega) (by omega)

theorem sort_ok (hc : ∀ i j C, i < N → j < N → C (decide (k i < k j)) s → cmp i j C s) {Q : Array Nat → Shared → Prop} (hN : 1 ≤ N)
    (h : ∀ q, PGood N q → STo k q N → Q q s) : (kas_sort N).kasWp cmp Q s := by
  unfold kas_sort
  rw [KasT.kasWp_bind]
  refine count_ok hc (Array.Perm.refl _) hN (fun m q hq h1 h2 hs => ?_)
  dsimp only
  by_cases hl : m < N
  · rw [if_pos hl]
    have e : max m 1 = m := by omega
    rw [e]
    exact bin_ok hc _ q m hq h1 (by omega) hs h
  · rw [if_neg hl]
    have e : m = N := by omega
    exact h q hq (e ▸ hs)
end

/- every object of the heap but the frame's own, as news -/
def allNews (h₀ : Heap) (L : Addr) (h : Heap) : List (Addr × Obj) :=
  (List.range h.objs.size).filterMap fun a => (h.get? a).bind fun o => if a ≠ L ∧ (h₀.get? a).isNone then some (a, o) else none
theorem mem_allNews {h₀ h : Heap} {L a : Addr} {o : Obj} : (a, o) ∈ allNews h₀ L h ↔ h.get? a = some o ∧ a ≠ L ∧ h₀.get? a = none := by
  unfold allNews
  rw [List.mem_filterMap]
  constructor
  · rintro ⟨b, _, hb⟩
    cases hg : h.get? b with
    | none => rw [hg] at hb; simp at hb
    | some o' =>
      rw [hg] at hb
      simp only [Option.bind_some] at hb
      by_cases hc : b ≠ L ∧ (h₀.get? b).isNone
      · rw [if_pos hc] at hb
        simp only [Option.some.injEq, Prod.mk.injEq] at hb
        obtain ⟨rfl, rfl⟩ := hb
        exact ⟨hg, hc.1, by simpa using hc.2⟩
      · rw [if_neg hc] at hb
        cases hb
  · rintro ⟨h1, h2, h3⟩
    refine ⟨a, List.mem_range.mpr (Heap.lt_size h1), ?_⟩
    rw [h1]
    simp only [Option.bind_some]
    rw [if_pos ⟨h2, by rw [h3]; rfl⟩]
theorem allNews_news (h₀ h : Heap) (L : Addr) : News h₀ L h (allNews h₀ L h) := fun _ hp => mem_allNews.mp hp

/- all but the frame's own object are kept -/
def KeptL (L : Addr) (h h' : Heap) : Prop := ∀ a o, a ≠ L → h.get? a = some o → h'.get? a = some o
theorem kept_all {h₀ h h' : Heap} {L : Addr} {m m' : Str → Option Value} (F : Fr h₀ L h m) (F' : Fr h₀ L h' m') (N : News h₀ L h' (allNews h₀ L h)) : KeptL L h h' := by
  intro a o hne ho
  cases hg : h₀.get? a with
  | none => exact (N (a, o) (mem_allNews.mpr ⟨ho, hne, hg⟩)).1
  | some o' =>
    have := F.keep a o' hg
    rw [ho] at this
    rw [Option.some.inj this]
    exact F'.keep a o' hg

def ky (v : Int × Int) : Int := 3 * v.1 + v.2
theorem plt_ky {x y : Int × Int} (hx : x.2 = 1 ∨ x.2 = -1) (hy : y.2 = 1 ∨ y.2 = -1) : plt x y = decide (ky x < ky y) := by
  unfold plt ky
  apply decide_eq_decide.mpr
  omega

section
variable {prog : Program} {w : World} {A : Around} {E : Value → Shared → Prop} {s : Shared} {a b : Addr} {x y : Int × Int}
theorem pair_keyLt {Q : Bool → Shared → Prop} (hx : Pair s.heap a x) (hy : Pair s.heap b y) (h : Q (plt x y) s) :
    wpAny (model prog w) A (keyLt' (tuples' true) (.ref a) (.ref b)) Q E s := by
  obtain ⟨oa, ta, ua, na, hoa, _, hda⟩ := hx
  obtain ⟨ob, tb, ub, nb, hob, _, hdb⟩ := hy
  refine kat_lt hoa hda hob hdb ?_
  show KatLex prog w A true _ Q [(Value.int x.1 ta, Value.int y.1 tb), (Value.int x.2 ua, Value.int y.2 ub)] 0 s
  refine kat_cons (wpAny_eqBool_int ?_)
  by_cases h1 : x.1 = y.1
  · have e1 : (x.1 == y.1) = true := by simp [h1]
    rw [e1]
    refine kat_yes (kat_cons (wpAny_eqBool_int ?_))
    by_cases h2 : x.2 = y.2
    · have e2 : (x.2 == y.2) = true := by simp [h2]
      rw [e2]
      refine kat_yes (kat_nil ?_)
      have : plt x y = false := by simp [plt, h1, h2]
      rw [this] at h
      exact h
    · have e2 : (x.2 == y.2) = false := by simp [h2]
      rw [e2]
      refine kat_no ?_
      refine kat_one _ _ (lt_int ?_)
      have : plt x y = decide (x.2 < y.2) := by simp [plt, h1]
      rw [this] at h
      exact h
  · have e1 : (x.1 == y.1) = false := by simp [h1]
    rw [e1]
    refine kat_no ?_
    refine oneLt_int ?_
    have : plt x y = decide (x.1 < y.1) := by simp [plt, h1]
    rw [this] at h
    exact h

theorem katTups_pairs {h : Heap} {val : Addr → Int × Int} : ∀ (bs : List Addr), (∀ b ∈ bs, Pair h b (val b)) → ∃ fs, KatTups h (bs.map Value.ref) fs ∧ fs.length = bs.length ∧ ∀ v ∈ fs, ∃ n t, v = Value.int n t
  | [], _ => ⟨[], KatTups.nil, rfl, fun _ h => nomatch h⟩
  | b :: bs, hv => by
    obtain ⟨fs, h1, h2, h3⟩ := katTups_pairs bs fun b hb => hv b (.tail _ hb)
    obtain ⟨o, t, u, n, ho, hc, hd⟩ := hv b (.head _)
    refine ⟨Value.int (val b).1 t :: fs, KatTups.cons ho hc hd rfl h1, by simp [h2], ?_⟩
    intro v hm
    rcases List.mem_cons.mp hm with rfl | hm
    · exact ⟨_, _, rfl⟩
    · exact h3 v hm

theorem getD_ref (bs : List Addr) {i : Nat} (hi : i < bs.length) : (bs.map Value.ref).getD i Value.none = Value.ref (bs.getD i 0) := by
  simp [List.getD, hi]

theorem sorted_pairs {h₀ : Heap} {L : Addr} {m : Str → Option Value} {l : Addr} {bs : List Addr} {n : Nat} {val : Addr → Int × Int} {Q : Value → Shared → Prop} (F : Fr h₀ L s.heap m)
    (hl : s.heap.get? l = some (listOf (refs bs) n)) (hv : ∀ b ∈ bs, Pair s.heap b (val b)) (hbL : ∀ b ∈ bs, b ≠ L) (hc : ∀ b ∈ bs, (val b).2 = 1 ∨ (val b).2 = -1) (h2 : 2 ≤ bs.length) (h64 : bs.length < 64)
    (ret : ∀ D h' cs e, Fr h₀ L h' m → KeptL L s.heap h' → s.heap.get? D = none → h'.get? D = some (listOf (refs cs) e) → cs.Perm bs → cs.Pairwise (fun a b => ky (val a) ≤ ky (val b)) → Q (.ref D) { s with heap := h' }) :
    wpAny (model prog w) A (call (.builtin "sorted") [.ref l]) Q E s := by
  have hN := allNews_news h₀ s.heap L
  refine kat_sorted (vs := bs.map Value.ref) F hN ⟨_, hl, rfl, n, rfl⟩ (by simpa using h2) (by simpa using h64) fun D e1 h' F' N' hD => ?_
  have N0 : News h₀ L h' (allNews h₀ L s.heap) := fun p hp => N' p (.tail _ hp)
  have K := kept_all F F' N0
  have hv' : ∀ b ∈ bs, Pair h' b (val b) := fun b hb => (hv b hb).keep fun o ho => K b o (hbL b hb) ho
  have hDn : s.heap.get? D = none := by
    cases hg : s.heap.get? D with
    | none => rfl
    | some o =>
      have hd := N' (D, _) (.head _)
      exact absurd (hD (D, o) (mem_allNews.mpr ⟨hg, hd.2.1, hd.2.2⟩)) (Nat.lt_irrefl _)
  obtain ⟨fs, t1, t2, t3⟩ := katTups_pairs bs hv'
  refine kat_kind (T := Value.type "int") t1 (by omega) (fun v hm => ?_) rfl ?_
  · obtain ⟨n, t, rfl⟩ := t3 v hm
    exact Looks.now
  show (kas_sort (bs.map Value.ref).length).kasWp (kas_ask prog w A.in1.in1 (tuples' true) (bs.map Value.ref)) _ _
  rw [List.length_map]
  refine sort_ok (k := fun i => ky (val (bs.getD i 0))) (fun i j C hi hj hC => ?_) (by omega) (fun q hq hs => ?_)
  · unfold kas_ask
    rw [getD_ref bs hi, getD_ref bs hj]
    have mi : bs.getD i 0 ∈ bs := by simp [List.getD, hi]
    have mj : bs.getD j 0 ∈ bs := by simp [List.getD, hj]
    refine pair_keyLt (hv' _ mi) (hv' _ mj) ?_
    rw [plt_ky (hc _ mi) (hc _ mj)]
    exact hC
  · have hsz := hq.size
    have e : (q.toList.map fun i => (bs.map Value.ref).getD i Value.none) = (q.toList.map fun i => bs.getD i 0).map Value.ref := by
      rw [List.map_map]
      refine List.map_congr_left fun i hi => ?_
      have : i < bs.length := by
        have hm : i ∈ q := by simpa using hi
        have := (hq.mem_iff).1 hm
        simpa using this
      exact getD_ref bs this
    rw [e]
    have hperm : (q.toList.map fun i => bs.getD i 0).Perm bs := by
      have h1 : q.toList.Perm (List.range bs.length) := by simpa using hq.toList
      refine (h1.map _).trans ?_
      refine List.Perm.of_eq ?_
      apply List.ext_getElem
      · simp
      · intro i h1 h2
        simp [List.getD, h2]
    have hsort : (q.toList.map fun i => bs.getD i 0).Pairwise (fun a b => ky (val a) ≤ ky (val b)) := by
      rw [List.pairwise_map]
      rw [List.pairwise_iff_getElem]
      intro i j hi hj hij
      have hi' : i < q.size := by simpa using hi
      have hj' : j < q.size := by simpa using hj
      have := hs i j (by omega) (by omega)
      unfold sg at this
      simpa [Array.getD, hi', hj'] using this
    refine KasFin.intro F' N' (UpdF.head fun p hp => Nat.ne_of_lt (hD p hp)) fun h2 c F2 N2 => ?_
    have N3 : News h₀ L h2 (allNews h₀ L s.heap) := fun p hp => N2 p (.tail _ hp)
    exact ret D h2 _ c F2 (kept_all F F2 N3) hDn (N2 (D, _) (.head _)).1 hperm hsort
end
end
-- OmNeq
section
open PySem PySem.W PySem.Calls PyProof.Rows

/- two lists of pairs, alike place by place: != says False -/
theorem pair_eqAt {A : Around} {s : Shared} {a b : Addr} {x : Int × Int} (hu : A.units < cLine) (hx : Pair s.heap a x) (hy : Pair s.heap b x) : SeqAt.EqAt A s (.ref a) (.ref b) true := fun prog w E Q hq => by
  obtain ⟨oa, ta, ua, na, hoa, hca, hda⟩ := hx
  obtain ⟨ob, tb, ub, nb, hob, hcb, hdb⟩ := hy
  have k1 : IsTupleKey (intKind prog w) s.heap [x.1, x.2] a := ⟨oa, _, na, hoa, hca, hda, .cons (by simp [intKind, Value.isInt]) (.cons (by simp [intKind, Value.isInt]) .nil)⟩
  have k2 : IsTupleKey (intKind prog w) s.heap [x.1, x.2] b := ⟨ob, _, nb, hob, hcb, hdb, .cons (by simp [intKind, Value.isInt]) (.cons (by simp [intKind, Value.isInt]) .nil)⟩
  exact wpAny_eqBool_tuple hu k1 k2 (by simpa using hq)

theorem pairs_ne {prog : Program} {w : World} {A : Around} {E : Value → Shared → Prop} {s : Shared} {Q : Value → Shared → Prop} {l l' : Addr} {bs cs : List Addr} {n n' : Nat} {val : Addr → Int × Int} (hu : A.units + 64 < cLine)
    (hl : s.heap.get? l = some (listOf (refs bs) n)) (hl' : s.heap.get? l' = some (listOf (refs cs) n')) (hv : ∀ b ∈ bs, Pair s.heap b (val b)) (hv' : ∀ b ∈ cs, Pair s.heap b (val b)) (he : bs.map val = cs.map val)
    (h : Q (.bool false) s) : wpAny (model prog w) A (compareOp .NotEq (.ref l) (.ref l')) Q E s := by
  have hlen : bs.length = cs.length := by simpa using congrArg List.length he
  have hsz : (refs bs).size = (refs cs).size := by simp [refs, hlen]
  have hall : (!(List.range (refs bs).size).all fun _ => true) = false := by simp
  rw [← hall] at h
  show wpAny _ _ (richCompare .NotEq _ _) _ _ _
  refine SeqAt.RcNeAt.lists (e := fun _ => true) ⟨_, hl, rfl, n, rfl⟩ ⟨_, hl', rfl, n', rfl⟩ hsz (by omega) (fun j h1 h2 => ?_) prog w E Q h
  have j1 : j < bs.length := by simpa [refs] using h1
  have j2 : j < cs.length := by simpa [refs] using h2
  have e1 : (refs bs)[j] = .ref bs[j] := by simp [refs]
  have e2 : (refs cs)[j] = .ref cs[j] := by simp [refs]
  rw [e1, e2]
  have ev : val bs[j] = val cs[j] := by
    have := congrArg (fun l => l[j]?) he
    simpa [j1, j2] using this
  exact pair_eqAt (show A.units + 1 < cLine by omega) (hv _ (List.getElem_mem j1)) (ev ▸ hv' _ (List.getElem_mem j2))
end
-- OmOffP
section
open PySem PySem.W PySem.Calls PyProof.Rows

theorem popL_heap {lt : Nat → Nat → Bool} (O : Ord lt) (h : List Nat) (hpos : 0 < h.length) (H : HeapFrom lt 0 h) : h.Perm (h.getD 0 0 :: popL lt h) ∧ HeapFrom lt 0 (popL lt h) := by
  cases h with
  | nil => simp at hpos
  | cons a t =>
    unfold popL
    by_cases h1 : (a :: t).length = 1
    · have ht : t = [] := by simpa using h1
      subst ht
      rw [if_pos (by simp)]
      refine ⟨by simp, ?_⟩
      intro j h2 h3 _
      simp at h3
    · rw [if_neg h1]
      have ht : t ≠ [] := by intro e; subst e; simp at h1
      have hlen : (a :: t).length = t.length + 1 := by simp
      have hp : 0 < t.length := List.length_pos_iff.mpr ht
      have e1 : ((a :: t).dropLast.set 0 ((a :: t).getD ((a :: t).length - 1) 0)) = t.getLast ht :: t.dropLast := by
        rw [List.dropLast_cons_of_ne_nil ht, List.set_cons_zero]
        congr 1
        rw [hlen, Nat.add_sub_cancel, List.getD_eq_getElem?_getD, List.getElem?_cons, if_neg (by omega), List.getLast_eq_getElem, List.getElem?_eq_getElem (by omega)]
        rfl
      rw [e1]
      have hl2 : (t.getLast ht :: t.dropLast).length = t.length := by simp; omega
      have p1 : (su lt 0 (t.getLast ht :: t.dropLast)).Perm (t.getLast ht :: t.dropLast) := su_perm lt 0 _ (by omega)
      have p2 : (t.getLast ht :: t.dropLast).Perm t := by
        have : (t.dropLast ++ [t.getLast ht]).Perm t := List.Perm.of_eq (List.dropLast_concat_getLast ht)
        exact (List.perm_append_singleton _ _).symm.trans this
      refine ⟨?_, ?_⟩
      · show (a :: t).Perm (a :: _)
        exact ((p1.trans p2).symm).cons a
      · refine su_heap O 0 _ (by omega) ?_
        intro j j1 j2 j3
        rw [hl2] at j2
        have g1 : ∀ i, 0 < i → i < t.length → (t.getLast ht :: t.dropLast).getD i 0 = (a :: t).getD i 0 := by
          intro i i1 i2
          obtain ⟨i', rfl⟩ : ∃ i', i = i' + 1 := ⟨i - 1, by omega⟩
          simp only [List.getD_eq_getElem?_getD, List.getElem?_cons_succ]
          rw [List.getElem?_dropLast, if_pos (by omega)]
        rw [g1 j j1 j2, g1 ((j - 1) / 2) (by omega) (by omega)]
        exact H j j1 (by simp; omega) (by omega)

theorem popAll_sorted {lt : Nat → Nat → Bool} (O : Ord lt) (hirr : ∀ x, lt x x = false) : ∀ (k : Nat) (h : List Nat), h.length = k → HeapFrom lt 0 h →
    (popAll lt k h).2 = [] ∧ (popAll lt k h).1.Perm h ∧ (popAll lt k h).1.Pairwise (fun a b => lt b a = false)
  | 0, h, hk, _ => by
    have : h = [] := List.length_eq_zero_iff.mp hk
    subst this
    exact ⟨rfl, List.Perm.refl _, List.Pairwise.nil⟩
  | k + 1, h, hk, H => by
    obtain ⟨p1, H'⟩ := popL_heap O h (by omega) H
    have hl := (popL_sub lt h (by omega)).1
    obtain ⟨a1, a2, a3⟩ := popAll_sorted O hirr k (popL lt h) (by omega) H'
    refine ⟨a1, (a2.cons _).trans p1.symm, ?_⟩
    show (h.getD 0 0 :: _).Pairwise _
    refine List.Pairwise.cons (fun b hb => ?_) a3
    have hb' : b ∈ h := p1.mem_iff.mpr (.tail _ (a2.mem_iff.mp hb))
    obtain ⟨j, hj, e⟩ := List.mem_iff_getElem.mp hb'
    have := heap_min O hirr H j hj
    rw [show h.getD j 0 = b by simp [List.getD, hj, e]] at this
    exact this

theorem off_sorted {lt : Nat → Nat → Bool} (O : Ord lt) (hirr : ∀ x, lt x x = false) (bs : List Nat) : (offL lt bs).Perm bs ∧ (offL lt bs).Pairwise (fun a b => lt b a = false) := by
  obtain ⟨h1, h2⟩ := hp_heap O bs
  obtain ⟨a1, a2, a3⟩ := popAll_sorted O hirr bs.length _ h1.length_eq h2
  unfold offL
  rw [a1, List.append_nil]
  exact ⟨a2.trans h1, a3⟩

theorem sorted_unique {α : Type} (f : α → Int) : ∀ (l l' : List α), (∀ x ∈ l, ∀ y ∈ l', f x = f y → x = y) → l.Perm l' → l.Pairwise (fun a b => f a ≤ f b) → l'.Pairwise (fun a b => f a ≤ f b) → l = l'
  | [], l', _, p, _, _ => (List.perm_nil.mp p.symm).symm
  | a :: l, [], _, p, _, _ => absurd p.length_eq (by simp)
  | a :: l, b :: l', hi, p, h1, h2 => by
    have e : a = b := by
      have ma : a ∈ b :: l' := p.mem_iff.mp (.head _)
      have mb : b ∈ a :: l := p.mem_iff.mpr (.head _)
      have h1' := List.pairwise_cons.mp h1
      have h2' := List.pairwise_cons.mp h2
      rcases List.mem_cons.mp ma with e | ma
      · exact e
      rcases List.mem_cons.mp mb with e | mb
      · exact e.symm
      exact hi a (.head _) b (.head _) (Int.le_antisymm (h1'.1 b mb) (h2'.1 a ma))
    subst e
    rw [sorted_unique f l l' (fun x hx y hy => hi x (.tail _ hx) y (.tail _ hy)) p.cons_inv (List.pairwise_cons.mp h1).2 (List.pairwise_cons.mp h2).2]

theorem off_map {val : Nat → Int × Int} {bs cs : List Nat} (hc : ∀ b ∈ bs, (val b).2 = 1 ∨ (val b).2 = -1) (p : cs.Perm bs) (hs : cs.Pairwise (fun a b => ky (val a) ≤ ky (val b))) :
    (offL (fun x y => plt (val x) (val y)) bs).map val = cs.map val := by
  obtain ⟨p', hs'⟩ := off_sorted (plt_ord val) (fun x => by simp [plt]) bs
  refine sorted_unique ky _ _ ?_ ((p'.trans p.symm).map val) ?_ (List.pairwise_map.mpr hs)
  · intro x hx y hy he
    obtain ⟨b, hb, rfl⟩ := List.mem_map.mp hx
    obtain ⟨c, hc', rfl⟩ := List.mem_map.mp hy
    have h1 := hc b (p'.mem_iff.mp hb)
    have h2 := hc c (p.mem_iff.mp hc')
    unfold ky at he
    exact Prod.ext (by omega) (by omega)
  · refine List.pairwise_map.mpr (hs'.imp_of_mem fun {a b} ha hb h => ?_)
    rw [plt_ky (hc b (p'.mem_iff.mp hb)) (hc a (p'.mem_iff.mp ha))] at h
    have := of_decide_eq_false h
    omega
end
-- OmEn
section
open PySem PySem.W PySem.Calls PyProof.Rows

/- sums of whole numbers -/
def sm (l : List Int) : Int := l.foldr (· + ·) 0
@[simp] theorem sm_nil : sm [] = 0 := rfl
@[simp] theorem sm_cons (a : Int) (l : List Int) : sm (a :: l) = a + sm l := rfl
@[simp] theorem sm_append (l l' : List Int) : sm (l ++ l') = sm l + sm l' := by
  induction l with
  | nil => simp
  | cons a l ih => simp [ih]; omega
theorem sm_perm {l l' : List Int} (h : l.Perm l') : sm l = sm l' := by
  induction h with
  | nil => rfl
  | cons a _ ih => simp [ih]
  | swap a b l => simp; omega
  | trans _ _ i1 i2 => exact i1.trans i2
theorem sm_map_add {α : Type} (f g : α → Int) (l : List α) : sm (l.map fun x => f x + g x) = sm (l.map f) + sm (l.map g) := by
  induction l with
  | nil => rfl
  | cons a l ih => simp [ih]; omega
theorem sm_map_mul {α : Type} (c : Int) (f : α → Int) (l : List α) : sm (l.map fun x => c * f x) = c * sm (l.map f) := by
  induction l with
  | nil => simp
  | cons a l ih => simp [ih]; grind
theorem sm_congr {α : Type} {f g : α → Int} {l : List α} (h : ∀ x ∈ l, f x = g x) : sm (l.map f) = sm (l.map g) := by
  rw [List.map_congr_left h]
theorem sm_nonneg {l : List Int} (h : ∀ x ∈ l, 0 ≤ x) : 0 ≤ sm l := by
  induction l with
  | nil => simp
  | cons a l ih =>
    have := h a (.head _)
    have := ih fun x hx => h x (.tail _ hx)
    simp; omega

def ab (x : Int) : Int := (x.natAbs : Int)
theorem ab_comm (x y : Int) : ab (x - y) = ab (y - x) := by unfold ab; omega
theorem ab_nonneg (x : Int) : 0 ≤ ab x := by unfold ab; omega
theorem ab_zero (x : Int) : ab (x - x) = 0 := by unfold ab; omega
theorem ab_le {x y : Int} (h : x ≤ y) : ab (x - y) = y - x := by unfold ab; omega

/- the distances from the one's numbers to the other's -/
def Dm (a b : List Int) : Int := sm (a.map fun x => sm (b.map fun y => ab (x - y)))
@[simp] theorem Dm_nil_left (b : List Int) : Dm [] b = 0 := rfl
@[simp] theorem Dm_nil_right (a : List Int) : Dm a [] = 0 := by
  unfold Dm
  induction a with
  | nil => rfl
  | cons x a ih => simpa using ih
theorem Dm_append_left (a a' b : List Int) : Dm (a ++ a') b = Dm a b + Dm a' b := by simp [Dm]
theorem Dm_append_right (a b b' : List Int) : Dm a (b ++ b') = Dm a b + Dm a b' := by
  unfold Dm
  rw [← sm_map_add]
  exact sm_congr fun x _ => by simp
theorem Dm_perm_left {a a' : List Int} (b : List Int) (h : a.Perm a') : Dm a b = Dm a' b := sm_perm (h.map _)
theorem Dm_perm_right (a : List Int) {b b' : List Int} (h : b.Perm b') : Dm a b = Dm a b' := sm_congr fun x _ => sm_perm (h.map _)
theorem Dm_cons_left (x : Int) (a b : List Int) : Dm (x :: a) b = sm (b.map fun y => ab (x - y)) + Dm a b := rfl
theorem Dm_cons_right (a : List Int) (y : Int) (b : List Int) : Dm a (y :: b) = sm (a.map fun x => ab (x - y)) + Dm a b := by
  unfold Dm
  rw [← sm_map_add]
  exact sm_congr fun x _ => by simp
theorem Dm_comm (a b : List Int) : Dm a b = Dm b a := by
  induction a with
  | nil => simp
  | cons x a ih =>
    rw [Dm_cons_left, Dm_cons_right, ih]
    congr 1
    exact sm_congr fun y _ => ab_comm x y
theorem Dm_nonneg (a b : List Int) : 0 ≤ Dm a b := by
  unfold Dm
  refine sm_nonneg fun x hx => ?_
  obtain ⟨u, _, rfl⟩ := List.mem_map.mp hx
  refine sm_nonneg fun y hy => ?_
  obtain ⟨v, _, rfl⟩ := List.mem_map.mp hy
  exact ab_nonneg _

/- how unlike two bags are -/
def Un (a b : List Int) : Int := 2 * Dm a b - Dm a a - Dm b b
theorem Un_perm {a a' b b' : List Int} (h1 : a.Perm a') (h2 : b.Perm b') : Un a b = Un a' b' := by
  unfold Un
  rw [Dm_perm_left b h1, Dm_perm_right a' h2, Dm_perm_left a h1, Dm_perm_right a' h1, Dm_perm_left b h2, Dm_perm_right b' h2]
theorem Un_cancel (c a b : List Int) : Un (c ++ a) (c ++ b) = Un a b := by
  unfold Un
  simp only [Dm_append_left, Dm_append_right]
  rw [Dm_comm c a, Dm_comm c b]
  omega

/- the same of a list of marked numbers -/
def En (l : List (Int × Int)) : Int := sm (l.map fun u => sm (l.map fun v => u.2 * v.2 * ab (u.1 - v.1)))
def Wt (l : List (Int × Int)) (x : Int) : Int := sm (l.map fun u => u.2 * (x - u.1))
def Tl (l : List (Int × Int)) : Int := sm (l.map fun u => u.2)
def Cr (l l' : List (Int × Int)) : Int := sm (l.map fun u => sm (l'.map fun v => u.2 * v.2 * ab (u.1 - v.1)))
theorem Cr_append_left (a a' b : List (Int × Int)) : Cr (a ++ a') b = Cr a b + Cr a' b := by simp [Cr]
theorem Cr_append_right (a b b' : List (Int × Int)) : Cr a (b ++ b') = Cr a b + Cr a b' := by
  unfold Cr
  rw [← sm_map_add]
  exact sm_congr fun x _ => by simp
theorem Cr_nil_right (a : List (Int × Int)) : Cr a [] = 0 := by
  unfold Cr
  induction a with
  | nil => rfl
  | cons x a ih => simpa using ih
theorem Cr_cons_left (x : Int × Int) (a b : List (Int × Int)) : Cr (x :: a) b = sm (b.map fun v => x.2 * v.2 * ab (x.1 - v.1)) + Cr a b := rfl
theorem Cr_cons_right (a : List (Int × Int)) (y : Int × Int) (b : List (Int × Int)) : Cr a (y :: b) = sm (a.map fun x => x.2 * y.2 * ab (x.1 - y.1)) + Cr a b := by
  unfold Cr
  rw [← sm_map_add]
  exact sm_congr fun x _ => by simp
theorem Cr_comm (a b : List (Int × Int)) : Cr a b = Cr b a := by
  induction a with
  | nil => rw [Cr_nil_right]; rfl
  | cons x a ih =>
    rw [Cr_cons_left, Cr_cons_right, ih]
    congr 1
    exact sm_congr fun y _ => by rw [ab_comm x.1 y.1]; grind
theorem Cr_perm {a a' b b' : List (Int × Int)} (h1 : a.Perm a') (h2 : b.Perm b') : Cr a b = Cr a' b' := by
  have e1 : Cr a b = Cr a' b := sm_perm (h1.map _)
  have e2 : Cr a' b = Cr a' b' := sm_congr fun x _ => sm_perm (h2.map _)
  exact e1.trans e2
theorem En_Cr (l : List (Int × Int)) : En l = Cr l l := rfl
theorem Cr_signed (a b : List Int) (c d : Int) : Cr (a.map fun x => (x, c)) (b.map fun y => (y, d)) = c * d * Dm a b := by
  unfold Cr Dm
  rw [List.map_map, ← sm_map_mul]
  refine sm_congr fun x _ => ?_
  show sm (List.map _ (List.map _ b)) = _
  rw [List.map_map, ← sm_map_mul]
  exact sm_congr fun y _ => rfl
theorem En_signed (a b : List Int) : En ((a.map fun x => (x, (1 : Int))) ++ b.map fun y => (y, (-1 : Int))) = - Un a b := by
  rw [En_Cr]
  simp only [Cr_append_left, Cr_append_right, Cr_signed]
  unfold Un
  rw [Dm_comm b a]
  omega
theorem En_snoc (l : List (Int × Int)) (v : Int × Int) (h : ∀ u ∈ l, u.1 ≤ v.1) : En (l ++ [v]) = En l + 2 * v.2 * Wt l v.1 := by
  have e1 : Cr l [v] = v.2 * Wt l v.1 := by
    unfold Cr Wt
    rw [← sm_map_mul]
    refine sm_congr fun u hu => ?_
    simp only [List.map_cons, List.map_nil, sm_cons, sm_nil]
    rw [ab_le (h u hu)]
    grind
  have e2 : Cr [v] [v] = 0 := by
    unfold Cr
    simp only [List.map_cons, List.map_nil, sm_cons, sm_nil, ab_zero]
    omega
  rw [En_Cr, Cr_append_left, Cr_append_right, Cr_append_right, Cr_comm [v] l, e1, e2, En_Cr]
  grind
theorem Wt_move (l : List (Int × Int)) (x y : Int) : Wt l y = Wt l x + Tl l * (y - x) := by
  unfold Wt Tl
  induction l with
  | nil => simp
  | cons u l ih => simp only [List.map_cons, sm_cons, ih]; grind
theorem Wt_snoc (l : List (Int × Int)) (v : Int × Int) : Wt (l ++ [v]) v.1 = Wt l v.1 := by
  unfold Wt
  simp
theorem Tl_snoc (l : List (Int × Int)) (v : Int × Int) : Tl (l ++ [v]) = Tl l + v.2 := by
  unfold Tl
  simp

theorem take_snoc (vs : List (Int × Int)) {i : Nat} (hi : i < vs.length) : vs.take (i + 1) = vs.take i ++ [vs.getD i (0, 0)] := by
  rw [List.take_add_one, List.getElem?_eq_getElem hi]
  simp [List.getD, hi]
theorem tilt_take (vs : List (Int × Int)) : ∀ i, i ≤ vs.length → tiltN vs i = Tl (vs.take i)
  | 0, _ => rfl
  | i + 1, h => by
    rw [take_snoc vs (by omega), Tl_snoc, ← tilt_take vs i (by omega)]
    rfl
theorem built_take (vs : List (Int × Int)) (hs : vs.Pairwise fun u v => u.1 ≤ v.1) : ∀ i, i < vs.length →
    En (vs.take (i + 1)) + 2 * builtN vs i = 2 * Tl (vs.take (i + 1)) * Wt (vs.take (i + 1)) (vs.getD i (0, 0)).1
  | 0, h => by
    rw [take_snoc vs h]
    simp only [List.take_zero, List.nil_append]
    have e1 : ∀ v : Int × Int, En [v] = 0 := fun v => by
      unfold En
      simp only [List.map_cons, List.map_nil, sm_cons, sm_nil, ab_zero]
      omega
    have e2 : Wt [vs.getD 0 (0, 0)] (vs.getD 0 (0, 0)).1 = 0 := by simp [Wt]
    rw [e1, e2]
    simp [builtN]
  | i + 1, h => by
    have ih := built_take vs hs i (by omega)
    rw [take_snoc vs h]
    have hle : ∀ u ∈ vs.take (i + 1), u.1 ≤ (vs.getD (i + 1) (0, 0)).1 := by
      intro u hu
      obtain ⟨j, hj, rfl⟩ := List.mem_iff_getElem.mp hu
      rw [List.getElem_take]
      have hj' : j < i + 1 := by simp at hj; omega
      have := List.pairwise_iff_getElem.mp hs j (i + 1) (by omega) h hj'
      simpa [List.getD, h] using this
    rw [En_snoc _ _ hle, Tl_snoc, Wt_snoc, Wt_move (vs.take (i + 1)) (vs.getD i (0, 0)).1]
    have eb : builtN vs (i + 1) = builtN vs i + tiltN vs (i + 1) * tiltN vs (i + 1) * ((vs.getD (i + 1) (0, 0)).1 - (vs.getD i (0, 0)).1) := rfl
    rw [eb, tilt_take vs (i + 1) (by omega)]
    generalize En (vs.take (i + 1)) = e at *
    generalize Tl (vs.take (i + 1)) = t at *
    generalize Wt (vs.take (i + 1)) (vs.getD i (0, 0)).1 = w at *
    generalize builtN vs i = b at *
    grind
theorem built_En (vs : List (Int × Int)) (hs : vs.Pairwise fun u v => u.1 ≤ v.1) (h : 0 < vs.length) (ht : Tl vs = 0) : En vs = - (2 * builtN vs (vs.length - 1)) := by
  have := built_take vs hs (vs.length - 1) (by omega)
  rw [show vs.length - 1 + 1 = vs.length by omega, List.take_length, ht] at this
  omega

/- the sweep read from the front -/
def Gs : Int → List (Int × Int) → Int
  | _, [] => 0
  | _, [_] => 0
  | t, u :: v :: r => (t + u.2) * (t + u.2) * (v.1 - u.1) + Gs (t + u.2) (v :: r)
theorem built_Gs (vs : List (Int × Int)) : ∀ (k j : Nat), k + j + 1 = vs.length → builtN vs (vs.length - 1) = builtN vs j + Gs (tiltN vs j) (vs.drop j)
  | 0, j, h => by
    have e : vs.drop j = [vs[j]] := by rw [List.drop_eq_getElem_cons (by omega)]; congr 1; exact List.drop_eq_nil_of_le (by omega)
    rw [e, show vs.length - 1 = j by omega]
    show _ = _ + 0
    omega
  | k + 1, j, h => by
    have ih := built_Gs vs k (j + 1) (by omega)
    rw [ih]
    have e1 : vs.drop j = vs[j] :: vs.drop (j + 1) := List.drop_eq_getElem_cons (by omega)
    have e2 : vs.drop (j + 1) = vs[j + 1] :: vs.drop (j + 2) := List.drop_eq_getElem_cons (by omega)
    have g1 : vs.getD j (0, 0) = vs[j] := by simp [List.getD, show j < vs.length by omega]
    have g2 : vs.getD (j + 1) (0, 0) = vs[j + 1] := by simp [List.getD, show j + 1 < vs.length by omega]
    rw [e1, e2]
    show builtN vs j + tiltN vs (j + 1) * tiltN vs (j + 1) * ((vs.getD (j + 1) (0, 0)).1 - (vs.getD j (0, 0)).1) + _ = _ + ((tiltN vs j + vs[j].2) * (tiltN vs j + vs[j].2) * (vs[j + 1].1 - vs[j].1) + Gs (tiltN vs j + vs[j].2) _)
    have g3 : tiltN vs (j + 1) = tiltN vs j + vs[j].2 := by
      show tiltN vs j + (vs.getD j (0, 0)).2 = _
      rw [g1]
    rw [g1, g2, g3]
    omega
theorem Gs_nonneg : ∀ (vs : List (Int × Int)) (t : Int), (vs.Pairwise fun u v => u.1 ≤ v.1) → 0 ≤ Gs t vs
  | [], _, _ => Int.le_refl _
  | [_], _, _ => Int.le_refl _
  | u :: v :: r, t, h => by
    have h1 := List.pairwise_cons.mp h
    have h2 := Gs_nonneg (v :: r) (t + u.2) h1.2
    have h3 := h1.1 v (.head _)
    have h4 : 0 ≤ (t + u.2) * (t + u.2) * (v.1 - u.1) := Int.mul_nonneg (by rcases Int.le_total 0 (t + u.2) with h | h; exact Int.mul_nonneg h h; exact Int.mul_nonneg_of_nonpos_of_nonpos h h) (by omega)
    show 0 ≤ _ + _
    omega
def At (l : List (Int × Int)) (t : Int) : Int := sm (l.map fun u => if u.1 = t then u.2 else 0)
theorem At_none {l : List (Int × Int)} {t : Int} (h : ∀ u ∈ l, u.1 ≠ t) : At l t = 0 := by
  unfold At
  induction l with
  | nil => rfl
  | cons u l ih =>
    rw [List.map_cons, sm_cons, if_neg (h u (.head _)), ih fun x hx => h x (.tail _ hx)]
    rfl
theorem At_cons (u : Int × Int) (l : List (Int × Int)) (t : Int) : At (u :: l) t = (if u.1 = t then u.2 else 0) + At l t := rfl
theorem Gs_zero : ∀ (r : List (Int × Int)) (u : Int × Int) (τ : Int), ((u :: r).Pairwise fun u v => u.1 ≤ v.1) → Gs τ (u :: r) = 0 → τ + Tl (u :: r) = 0 →
    τ + At (u :: r) u.1 = 0 ∧ ∀ t, u.1 < t → At (u :: r) t = 0
  | [], u, τ, h, hz, ht => by
    constructor
    · rw [At_cons, if_pos rfl]
      have : Tl [u] = u.2 + 0 := rfl
      have e : At [] u.1 = 0 := rfl
      omega
    · intro t hlt
      rw [At_cons, if_neg (by omega)]
      rfl
  | v :: r, u, τ, h, hz, ht => by
    have h1 := List.pairwise_cons.mp h
    have huv := h1.1 v (.head _)
    have n1 := Gs_nonneg (v :: r) (τ + u.2) h1.2
    have n2 : 0 ≤ (τ + u.2) * (τ + u.2) := by rcases Int.le_total 0 (τ + u.2) with h | h; exact Int.mul_nonneg h h; exact Int.mul_nonneg_of_nonpos_of_nonpos h h
    have n3 : 0 ≤ (τ + u.2) * (τ + u.2) * (v.1 - u.1) := Int.mul_nonneg n2 (by omega)
    have hz' : (τ + u.2) * (τ + u.2) * (v.1 - u.1) + Gs (τ + u.2) (v :: r) = 0 := hz
    have z1 : (τ + u.2) * (τ + u.2) * (v.1 - u.1) = 0 := by omega
    have z2 : Gs (τ + u.2) (v :: r) = 0 := by omega
    have et : Tl (u :: v :: r) = u.2 + Tl (v :: r) := rfl
    obtain ⟨a1, a2⟩ := Gs_zero r v (τ + u.2) h1.2 z2 (by omega)
    by_cases he : v.1 = u.1
    · constructor
      · rw [At_cons, if_pos rfl, ← he]
        omega
      · intro t hlt
        rw [At_cons, if_neg (by omega), a2 t (by omega)]
        rfl
    · have z3 : τ + u.2 = 0 := by
        rcases Int.mul_eq_zero.mp z1 with z | z
        · rcases Int.mul_eq_zero.mp z with z | z <;> exact z
        · omega
      have hge : ∀ x ∈ v :: r, v.1 ≤ x.1 := by
        intro x hx
        rcases List.mem_cons.mp hx with rfl | hx
        · exact Int.le_refl _
        · exact (List.pairwise_cons.mp h1.2).1 x hx
      constructor
      · rw [At_cons, if_pos rfl, At_none fun x hx => by have := hge x hx; omega]
        omega
      · intro t hlt
        rw [At_cons, if_neg (by omega)]
        rcases Int.lt_trichotomy t v.1 with c | c | c
        · rw [At_none fun x hx => by have := hge x hx; omega]
          rfl
        · rw [c]; omega
        · rw [a2 t c]; rfl
theorem built_zero {vs : List (Int × Int)} (hs : vs.Pairwise fun u v => u.1 ≤ v.1) (hz : builtN vs (vs.length - 1) = 0) (ht : Tl vs = 0) (t : Int) : At vs t = 0 := by
  cases vs with
  | nil => rfl
  | cons u r =>
    have e := built_Gs (u :: r) r.length 0 (by simp)
    have e0 : builtN (u :: r) 0 = 0 := rfl
    have e1 : tiltN (u :: r) 0 = 0 := rfl
    rw [hz, e0, e1, List.drop_zero] at e
    obtain ⟨a1, a2⟩ := Gs_zero r u 0 hs (by omega) (by omega)
    rcases Int.lt_trichotomy t u.1 with c | c | c
    · refine At_none fun x hx => ?_
      rcases List.mem_cons.mp hx with rfl | hx
      · omega
      · have := (List.pairwise_cons.mp hs).1 x hx
        omega
    · rw [c]; omega
    · exact a2 t c
theorem At_perm {l l' : List (Int × Int)} (h : l.Perm l') (t : Int) : At l t = At l' t := sm_perm (h.map _)
theorem Tl_perm {l l' : List (Int × Int)} (h : l.Perm l') : Tl l = Tl l' := sm_perm (h.map _)
theorem At_append (a b : List (Int × Int)) (t : Int) : At (a ++ b) t = At a t + At b t := by simp [At]
theorem At_signed (a : List Int) (c t : Int) : At (a.map fun x => (x, c)) t = c * (a.count t : Int) := by
  induction a with
  | nil => simp [At]
  | cons x a ih =>
    rw [List.map_cons, At_cons, ih, List.count_cons]
    by_cases h : x = t
    · simp [h]; grind
    · simp [h]
theorem Tl_signed (a : List Int) (c : Int) : Tl (a.map fun x => (x, c)) = c * (a.length : Int) := by
  induction a with
  | nil => simp [Tl]
  | cons x a ih =>
    have : Tl (List.map (fun x => (x, c)) (x :: a)) = c + Tl (List.map (fun x => (x, c)) a) := rfl
    rw [this, ih, List.length_cons]
    grind

/- the two bags, marked -/
def sgn (a b : List Int) : List (Int × Int) := (a.map fun x => (x, (1 : Int))) ++ b.map fun y => (y, (-1 : Int))
theorem Un_built {a b : List Int} {vs : List (Int × Int)} (hlen : a.length = b.length) (hp : vs.Perm (sgn a b)) (hs : vs.Pairwise fun u v => u.1 ≤ v.1) (hpos : 0 < a.length) :
    Un a b = 2 * builtN vs (vs.length - 1) ∧ (Un a b = 0 → ∀ t, a.count t = b.count t) := by
  have ht : Tl vs = 0 := by
    rw [Tl_perm hp]
    have : Tl (sgn a b) = Tl (a.map fun x => (x, (1 : Int))) + Tl (b.map fun y => (y, (-1 : Int))) := by simp [Tl, sgn]
    rw [this, Tl_signed, Tl_signed, hlen]
    omega
  have hl : 0 < vs.length := by
    have := hp.length_eq
    simp [sgn] at this
    omega
  have e1 := built_En vs hs hl ht
  have e2 : En vs = - Un a b := by
    rw [En_Cr, Cr_perm hp hp, ← En_Cr]
    exact En_signed a b
  refine ⟨by omega, fun h t => ?_⟩
  have z := built_zero hs (by omega) ht t
  rw [At_perm hp, sgn, At_append, At_signed, At_signed] at z
  omega
end
-- OmUlp
section
open PySem PySem.W PySem.Calls PyProof.Rows

/- unorderable_list_difference on plain numbers -/
def ul : List Int → List Int → List Int × List Int
  | [], qs => ([], qs)
  | p :: r, qs => if p ∈ qs then ul r (qs.erase p) else (p :: (ul r qs).1, (ul r qs).2)
theorem erase_fst (qs : List (Int × Tok)) (k : Int) (h : k ∈ qs.map (·.1)) : (qs.eraseIdx (qs.findIdx (·.1 == k))).map (·.1) = (qs.map (·.1)).erase k := by
  induction qs with
  | nil => simp at h
  | cons q qs ih =>
    rw [List.findIdx_cons]
    by_cases e : q.1 = k
    · have : (q.1 == k) = true := by simp [e]
      rw [this]
      simp [e]
    · have : (q.1 == k) = false := by simp [e]
      rw [this]
      simp only [cond_false, List.eraseIdx_cons_succ, List.map_cons]
      rw [List.erase_cons_tail (by simpa using e)]
      rw [ih (by rcases List.mem_cons.mp h with h | h; exact absurd h.symm e; exact h)]
theorem uldP_ul : ∀ (ps qs ms : List (Int × Tok)), (uldP ps qs ms).1.map (·.1) = ms.map (·.1) ++ (ul (ps.map (·.1)) (qs.map (·.1))).1 ∧ (uldP ps qs ms).2.map (·.1) = (ul (ps.map (·.1)) (qs.map (·.1))).2
  | [], qs, ms => by simp [uldP, ul]
  | p :: r, qs, ms => by
    unfold uldP
    by_cases h : p.1 ∈ qs.map (·.1)
    · rw [if_pos h]
      have := uldP_ul r (qs.eraseIdx (qs.findIdx (·.1 == p.1))) ms
      rw [erase_fst qs p.1 h] at this
      simp only [List.map_cons, ul]
      rw [if_pos h]
      exact this
    · rw [if_neg h]
      have := uldP_ul r qs (ms ++ [p])
      simp only [List.map_cons, ul]
      rw [if_neg h]
      refine ⟨?_, this.2⟩
      rw [this.1]
      simp

/- those of a list that are more than g says, counted from its start -/
def lk (g : Int → Nat) : List Int → List Int → List Int
  | _, [] => []
  | pre, p :: r => (if g p < (pre ++ [p]).count p then [p] else []) ++ lk g (pre ++ [p]) r
theorem lk_range (g : Int → Nat) : ∀ (r pre all : List Int), all = pre ++ r →
    lk g pre r = (List.range' pre.length r.length).filterMap fun j => if g (all.getD j 0) < (all.take (j + 1)).count (all.getD j 0) then some (all.getD j 0) else none
  | [], pre, all, h => rfl
  | p :: r, pre, all, h => by
    have e1 : all.getD pre.length 0 = p := by rw [h]; simp [List.getD]
    have e2 : all.take (pre.length + 1) = pre ++ [p] := by rw [h, List.take_append, List.take_of_length_le (by omega)]; simp
    have ih := lk_range g r (pre ++ [p]) all (by rw [h]; simp)
    rw [List.length_append, List.length_singleton] at ih
    rw [List.length_cons, List.range'_succ, List.filterMap_cons, e1, e2]
    show (if g p < (pre ++ [p]).count p then [p] else []) ++ lk g (pre ++ [p]) r = _
    rw [ih]
    by_cases c : g p < (pre ++ [p]).count p
    · rw [if_pos c, if_pos c]; rfl
    · rw [if_neg c, if_neg c]; rfl

theorem ul_missing (qs0 : List Int) : ∀ (r pre qs : List Int), (∀ v, qs.count v = qs0.count v - pre.count v) → (ul r qs).1 = lk (fun v => qs0.count v) pre r
  | [], pre, qs, h => rfl
  | p :: r, pre, qs, h => by
    have hp := h p
    have cp : (pre ++ [p]).count p = pre.count p + 1 := by simp
    have cv : ∀ v, v ≠ p → (pre ++ [p]).count v = pre.count v := fun v hv => by
      simp [List.count_cons]; exact fun e => hv e.symm
    unfold ul lk
    by_cases hm : p ∈ qs
    · have := List.count_pos_iff.mpr hm
      rw [if_pos hm, if_neg (by rw [cp]; omega), List.nil_append]
      refine ul_missing qs0 r (pre ++ [p]) (qs.erase p) fun v => ?_
      by_cases e : v = p
      · subst e
        rw [List.count_erase_self, cp, h]
        omega
      · rw [List.count_erase_of_ne (by simpa using e), cv v e, h]
    · have hz := List.count_eq_zero.mpr hm
      rw [if_neg hm, if_pos (by rw [cp]; omega)]
      show p :: _ = p :: _
      congr 1
      refine ul_missing qs0 r (pre ++ [p]) qs fun v => ?_
      by_cases e : v = p
      · subst e
        rw [cp, h]
        omega
      · rw [cv v e, h]

def keepL : List Int → (Int → Nat) → List Int
  | [], _ => []
  | q :: qs, f => if 0 < f q then keepL qs (fun v => if v = q then f v - 1 else f v) else q :: keepL qs f
theorem keepL_cons (q : Int) (qs : List Int) (f : Int → Nat) : keepL (q :: qs) f = if 0 < f q then keepL qs (fun v => if v = q then f v - 1 else f v) else q :: keepL qs f := rfl
theorem keepL_congr : ∀ (qs : List Int) {f g : Int → Nat}, (∀ v ∈ qs, f v = g v) → keepL qs f = keepL qs g
  | [], _, _, _ => rfl
  | q :: qs, f, g, h => by
    unfold keepL
    rw [← h q (.head _)]
    rw [keepL_congr qs (f := fun v => if v = q then f v - 1 else f v) (g := fun v => if v = q then g v - 1 else g v) (fun v hv => by rw [h v (.tail _ hv)]), keepL_congr qs (f := f) (g := g) (fun v hv => h v (.tail _ hv))]
theorem keepL_erase (p : Int) : ∀ (qs : List Int) (f : Int → Nat), p ∈ qs → keepL (qs.erase p) f = keepL qs (fun v => if v = p then f v + 1 else f v)
  | [], _, h => nomatch h
  | q :: qs, f, h => by
    by_cases e : q = p
    · subst e
      rw [List.erase_cons_head, keepL_cons, if_pos (by simp)]
      refine keepL_congr qs fun v _ => ?_
      by_cases hv : v = q
      · simp [hv]
      · simp [hv]
    · have hm : p ∈ qs := by rcases List.mem_cons.mp h with h | h; exact absurd h.symm e; exact h
      rw [List.erase_cons_tail (by simpa using e)]
      rw [keepL_cons, keepL_cons]
      rw [if_neg e]
      by_cases c : 0 < f q
      · rw [if_pos c, if_pos c, keepL_erase p qs _ hm]
        refine keepL_congr qs fun v _ => ?_
        by_cases h1 : v = p
        · subst h1
          simp [Ne.symm e]
        · simp [h1]
      · rw [if_neg c, if_neg c, keepL_erase p qs _ hm]
theorem ul_left : ∀ (r qs : List Int), (ul r qs).2 = keepL qs (fun v => r.count v)
  | [], qs => by
    have : ∀ (qs : List Int), keepL qs (fun v => List.count v []) = qs := fun qs => by
      induction qs with
      | nil => rfl
      | cons q qs ih =>
        unfold keepL
        rw [if_neg (by simp), ih]
    exact (this qs).symm
  | p :: r, qs => by
    unfold ul
    by_cases hm : p ∈ qs
    · rw [if_pos hm, ul_left r (qs.erase p), keepL_erase p qs _ hm]
      refine keepL_congr qs fun v _ => ?_
      by_cases e : v = p
      · simp [e]
      · simp [e, List.count_cons, Ne.symm e]
    · rw [if_neg hm]
      show (ul r qs).2 = _
      rw [ul_left r qs]
      refine keepL_congr qs fun v hv => ?_
      have e : ¬ p = v := fun e => hm (e ▸ hv)
      simp [List.count_cons, e]
theorem keepL_lk (g : Int → Nat) : ∀ (qs pre : List Int) (f : Int → Nat), (∀ v, f v = g v - pre.count v) → keepL qs f = lk g pre qs
  | [], _, _, _ => rfl
  | q :: qs, pre, f, h => by
    have hq := h q
    have cp : (pre ++ [q]).count q = pre.count q + 1 := by simp
    have cv : ∀ v, v ≠ q → (pre ++ [q]).count v = pre.count v := fun v hv => by
      simp [List.count_cons]; exact fun e => hv e.symm
    unfold keepL lk
    by_cases c : 0 < f q
    · rw [if_pos c, if_neg (by rw [cp]; omega), List.nil_append]
      refine keepL_lk g qs (pre ++ [q]) _ fun v => ?_
      by_cases e : v = q
      · subst e
        rw [if_pos rfl, cp, h]
        omega
      · rw [if_neg e, cv v e, h]
    · rw [if_neg c, if_pos (by rw [cp]; omega)]
      show q :: _ = q :: _
      congr 1
      refine keepL_lk g qs (pre ++ [q]) f fun v => ?_
      by_cases e : v = q
      · subst e
        rw [cp, h]
        omega
      · rw [cv v e, h]

theorem ul_perm : ∀ (r qs : List Int), ∃ c, r.Perm (c ++ (ul r qs).1) ∧ qs.Perm (c ++ (ul r qs).2) ∧ ∀ v ∈ (ul r qs).1, v ∉ (ul r qs).2
  | [], qs => ⟨[], by simp [ul], by simp [ul], fun v h => by simp [ul] at h⟩
  | p :: r, qs => by
    by_cases hm : p ∈ qs
    · have eu : ul (p :: r) qs = ul r (qs.erase p) := by
        show (if p ∈ qs then _ else _) = _
        rw [if_pos hm]
      obtain ⟨c, h1, h2, h3⟩ := ul_perm r (qs.erase p)
      rw [eu]
      exact ⟨p :: c, h1.cons p, (List.perm_cons_erase hm).trans (h2.cons p), h3⟩
    · have eu : ul (p :: r) qs = (p :: (ul r qs).1, (ul r qs).2) := by
        show (if p ∈ qs then _ else _) = _
        rw [if_neg hm]
      obtain ⟨c, h1, h2, h3⟩ := ul_perm r qs
      rw [eu]
      refine ⟨c, (h1.cons p).trans List.perm_middle.symm, h2, fun v hv hv' => ?_⟩
      rcases List.mem_cons.mp hv with rfl | hv
      · exact hm (h2.mem_iff.mpr (List.mem_append.mpr (.inr hv')))
      · exact h3 v hv hv'

theorem fm_congr {α β : Type} {f g : α → Option β} : ∀ {l : List α}, (∀ x ∈ l, f x = g x) → l.filterMap f = l.filterMap g
  | [], _ => rfl
  | a :: l, h => by rw [List.filterMap_cons, List.filterMap_cons, h a (.head _), fm_congr fun x hx => h x (.tail _ hx)]

/- all that the law asks of the two lists -/
def lackK (a b : List Int) (i : Nat) : List Int := (List.range i).filterMap fun j => if b.count (a.getD (a.length - 1 - j) 0) < (a.drop (a.length - 1 - j)).count (a.getD (a.length - 1 - j) 0) then some (a.getD (a.length - 1 - j) 0) else none
def spareK (a b : List Int) (i : Nat) : List Int := (List.range i).filterMap fun j => if a.count (b.getD j 0) < (b.take (j + 1)).count (b.getD j 0) then some (b.getD j 0) else none
theorem ul_lack (a b : List Int) : (ul a.reverse b).1 = lackK a b a.length := by
  rw [ul_missing b a.reverse [] b (by simp), lk_range _ a.reverse [] a.reverse rfl, List.length_reverse]
  unfold lackK
  rw [List.range_eq_range']
  refine fm_congr fun j hj => ?_
  have hj' : j < a.length := by simpa using (List.mem_range'_1.mp hj).2
  have e1 : a.reverse.getD j 0 = a.getD (a.length - 1 - j) 0 := by
    simp only [List.getD_eq_getElem?_getD]
    rw [List.getElem?_reverse hj']
  have e2 : a.reverse.take (j + 1) = (a.drop (a.length - 1 - j)).reverse := by
    rw [List.take_reverse]
    congr 2
    omega
  rw [e1, e2, List.count_reverse]
theorem ul_spare (a b : List Int) : (ul a.reverse b).2 = spareK a b b.length := by
  rw [ul_left, keepL_lk (fun v => a.count v) b [] _ (by simp), lk_range _ b [] b rfl]
  unfold spareK
  rw [List.range_eq_range']
  rfl
theorem lack_facts {a b : List Int} (hlen : a.length = b.length) {m l : List Int} (hm : m = (ul a.reverse b).1) (hl : l = (ul a.reverse b).2) :
    m.length = l.length ∧ Un m l = Un a b ∧ (m = [] → Un a b = 0) ∧ ((∀ t, a.count t = b.count t) → m = []) ∧ (∀ v ∈ m, v ∈ a) ∧ (∀ v ∈ l, v ∈ b) ∧ m.length ≤ a.length := by
  obtain ⟨c, h1, h2, h3⟩ := ul_perm a.reverse b
  rw [← hm, ← hl] at *
  have h1' : a.Perm (c ++ m) := (List.reverse_perm a).symm.trans h1
  have hl1 := h1'.length_eq
  have hl2 := h2.length_eq
  rw [List.length_append] at hl1 hl2
  have hml : m.length = l.length := by omega
  have hU : Un m l = Un a b := by rw [Un_perm h1' h2, Un_cancel]
  refine ⟨hml, hU, fun e => ?_, fun hc => ?_, fun v hv => ?_, fun v hv => ?_, by omega⟩
  · have : l = [] := by apply List.length_eq_zero_iff.mp; rw [← hml, e]; rfl
    rw [← hU, e, this]
    rfl
  · apply List.eq_nil_iff_forall_not_mem.mpr
    intro v hv
    have c1 := h1'.count_eq v
    have c2 := h2.count_eq v
    have c3 := hc v
    rw [List.count_append] at c1 c2
    have c4 := List.count_pos_iff.mpr hv
    exact h3 v hv (List.count_pos_iff.mp (by omega))
  · exact h1'.mem_iff.mpr (List.mem_append.mpr (.inr hv))
  · exact h2.mem_iff.mpr (List.mem_append.mpr (.inr hv))
end
-- OmForT
section
open PySem PySem.W PySem.Calls PyProof.Rows

section
variable {prog : Program} {w : World} {A : Around} {E : Value → Shared → Prop} {s : Shared} {h₀ : Heap} {env : Env} {target : PySem.Expr} {body : List Stmt} {Q : Flow → Shared → Prop}
/-- for over a tuple that lies among the news; the turn is proved once, for any place. -/
theorem for_tuple {T : Addr} {oT : Obj} {vs : List Value} {k : Nat} {m : Str → Option Value} {news : List (Addr × Obj)} (hh : A.handled = none) (F : Fr h₀ env.locals s.heap m) (N : News h₀ env.locals s.heap news)
    (hm : (T, oT) ∈ news) (hc : oT.cls = .type "tuple") (hd : oT.data = .seq vs.toArray k) (J : Nat → (Str → Option Value) → List (Addr × Obj) → Prop) (hJT : ∀ i m₁ n₁, J i m₁ n₁ → (T, oT) ∈ n₁) (h0 : J 0 m news)
    (turn : ∀ i m₁ news₁ h tk oI, i < vs.length → J i m₁ news₁ → (∀ p ∈ news₁, p.1 ≠ s.heap.objs.size) → Fr h₀ env.locals h m₁ → News h₀ env.locals h ((s.heap.objs.size, oI) :: news₁) →
      wpAny (model prog w) A (assign target env (vs.getD i .none)) (fun _ s₃ => wpAny (model prog w) A (execs body env) (LpPost h₀ env.locals s.heap.objs.size oI (J (i + 1)) { s with heap := h, toks := tk } Q) E s₃) E { s with heap := h, toks := tk })
    (done : ∀ h' tk m' news', Fr h₀ env.locals h' m' → News h₀ env.locals h' news' → J vs.length m' news' → Q .next { s with heap := h', toks := tk }) :
    wpAny (model prog w) A (pyIter (.ref T)) (fun it s₂ => TurnsAt prog w A h₀ env target body Q E it s₂) E s := by
  have hax := N _ hm
  have hl : s.heap.IsTuple T vs.toArray := ⟨oT, hax.1, hc, k, hd⟩
  have hne : T ≠ s.heap.objs.size := Nat.ne_of_lt (Heap.lt_size hax.1)
  refine wpAny_pyIter_tuple hl ?_
  generalize hI : s.heap.objs.size = I at *
  have hI0 : h₀.get? I = none := by
    cases q : h₀.get? I with
    | none => rfl
    | some o => exact absurd (Heap.lt_size (F.keep _ _ q)) (by rw [hI]; exact Nat.lt_irrefl _)
  have hIL : env.locals ≠ I := by rw [← hI]; exact Nat.ne_of_lt F.ns.lt
  refine ⟨I, [I, T], [I], vs.toArray.size, _, _, _, m, news, J, rfl, KTurns.ofWalks (Walks.tuple hh I T hne vs.toArray) fun i v s Q E st q => letGo_tupleiter st.1 q, ?_, by simpa using hI0, fun p hp => ?_, ?_, F.push _, (fun p hp => ⟨Heap.get?_push_of_some _ (N p hp).1, (N p hp).2⟩), h0, ?_, ?_⟩
  · intro q
    rcases List.mem_cons.mp q with q | q
    · exact hIL q
    · exact hax.2.1 (List.mem_singleton.mp q).symm
  · rw [List.mem_singleton, ← hI]
    exact Nat.ne_of_lt (Heap.lt_size (N p hp).1)
  · subst hI
    exact ⟨⟨_, Heap.get?_push_size _ rfl, rfl, rfl⟩, hl.at fun o e => Heap.get?_push_of_some _ e⟩
  · intro i v m₁ news₁ h₁ tk₁ own hin hP hJ hoff hown hob hall hst F₁ N₁
    have hin' : i < vs.length := by simpa using hin
    have ev : v = vs.getD i .none := by
      have : vs.toArray[i]? = some v := hP
      rw [List.getElem?_toArray] at this
      simp [List.getD, this]
    rw [ev]
    obtain ⟨oI, hoI', _⟩ := hst.1
    have hoI : (I, oI) ∈ own := hall I (by simp) hI0 _ hoI'
    have N₂ : News h₀ env.locals h₁ ((I, oI) :: news₁) := fun p hp => by
      rcases List.mem_cons.mp hp with rfl | hp
      · exact N₁ _ (List.mem_append_left _ hoI)
      · exact N₁ _ (List.mem_append_right _ hp)
    refine wpAny_mono (turn i m₁ news₁ h₁ tk₁ oI hin' hJ (fun p hp => by simpa using hoff p hp) F₁ N₂) (fun _ s₃ h₃ => wpAny_mono h₃ (fun f s₂ p => ?_) fun _ _ e => e) fun _ _ e => e
    have hT₁ := (N₁ _ (List.mem_append_right _ (hJT i _ _ hJ))).1
    have fin : LpEnd h₀ env.locals I oI (J (i + 1)) { s with heap := h₁, toks := tk₁ } s₂ → LoopStepU h₀ env.locals [I] own (J (i + 1)) { s with heap := h₁, toks := tk₁ } .next s₂ := by
      rintro ⟨h', tk', m₂, news₂, rfl, F', N', hn, hj⟩
      refine ⟨rfl, h', tk', m₂, news₂, rfl, F', fun p hp => ?_, fun p hp => by simpa using hn p hp, hj⟩
      rcases List.mem_append.mp hp with hp | hp
      · have e2 := hob p hp
        have e1 := hown p hp
        rcases List.mem_cons.mp e1 with e1 | e1
        · have e3 : p = (I, p.2) := by rw [← e1]
          have e4 : some p.2 = some oI := (e1 ▸ e2).symm.trans hoI'
          rw [e3, Option.some.inj e4]
          exact N' _ (List.Mem.head _)
        · have e1 := List.mem_singleton.mp e1
          have e3 : p = (T, p.2) := by rw [← e1]
          have e4 : some p.2 = some oT := (e1 ▸ e2).symm.trans hT₁
          rw [e3, Option.some.inj e4]
          exact N' _ (.tail _ (hJT _ _ _ hj))
      · exact N' p (.tail _ hp)
    cases f with
    | ret v => exact p
    | brk => exact p
    | next => exact fin p
    | cont => exact fin p
  · intro h' tk m' news' F' N' _ J'
    exact done h' tk m' news' F' N' (by simpa using J')
end
end
-- OmCompR
section
open PySem PySem.W PySem.Calls PyProof.Rows

section
variable {prog : Program} {w : World} {A : Around} {E : Value → Shared → Prop} {s : Shared} {env : Env}
/-- a range as the source -/
theorem comp_range {r : Addr} {a b c : Int} {n : Nat} {t u v : Tok} {elt : PySem.Expr} {x : Str} {ifs : List PySem.Expr} {scope : Scope} {cl : List (Str × Addr)} {Q : Value → Shared → Prop} (J : Nat → Heap → List Value → Prop) (S : List Addr)
    (hh : A.handled = none) (hr : IsRange s.heap r a b c t u v) (hsmall : Builtin.Range.small a b c = true) (hn : Builtin.Range.rangeSize a b c = n) (hsz : n < 2 ^ 19) (hS : ∀ b ∈ S, b < s.heap.objs.size)
    (h0 : ∀ h, (∀ b o, s.heap.get? b = some o → h.get? b = some o) → J 0 h [])
    (hJ : ∀ i h h' ys, J i h ys → (∀ b o, (b < s.heap.objs.size ∨ s.heap.objs.size + 3 ≤ b) → h.get? b = some o → h'.get? b = some o) → J i h' ys)
    (turn : ∀ i t s₃ m₃ ys, i < n → Like s s₃ → s.heap.objs.size + 3 ≤ s₃.heap.objs.size → J i s₃.heap ys → s₃.heap.Ns (compEnvC scope cl (s.heap.objs.size + 2) env).locals m₃ → m₃ x = some (.int (a + (i : Nat) * c) t) → Keeps S s.heap s₃.heap →
      CompTurn prog w A (compEnvC scope cl (s.heap.objs.size + 2) env) S ifs elt (J (i + 1)) ys s₃)
    (done : ∀ h' tk ys n', h'.get? (s.heap.objs.size + 1) = some (listOf ys.toArray n') → J n h' ys → Keeps S s.heap h' → Q (.ref (s.heap.objs.size + 1)) { s with heap := h', toks := tk }) :
    wpAny (model prog w) A (pyIter (.ref r)) (CompAsk prog w A env scope cl x ifs elt Q) E s := by
  refine wpAny_pyIter_range hr hsmall ?_
  rw [hn]
  have hsize : ∀ o : Obj, (s.heap.push o).objs.size = s.heap.objs.size + 1 := fun o => Heap.size_push ..
  refine ⟨s.heap.objs.size, [s.heap.objs.size], [s.heap.objs.size], n, _, _, J, S, rfl, Walks.range hh _ a c n, hsz, ?_, ?_, ?_, ?_, ?_, ?_, ?_⟩
  · show IsRangeIter _ _ (a + ((0 : Nat) : Int) * c) ((n : Int) - ((0 : Nat) : Int)) c
    simp only [Int.natCast_zero, Int.zero_mul, Int.add_zero, Int.sub_zero]
    exact Heap.get?_push_size _ rfl
  · intro b hb
    dsimp only
    rw [hsize, List.mem_singleton.mp hb]
    exact ⟨Nat.lt_succ_self _, fun h => Nat.lt_irrefl _ (hS _ h)⟩
  · intro b hb
    dsimp only
    rw [hsize]
    exact Nat.lt_succ_of_lt (hS b hb)
  · exact fun h hk => h0 h fun b o e => hk b o (Heap.get?_push_of_some _ e)
  · intro i h h' ys j hk
    refine hJ i h h' ys j fun b o hb e => hk b o ?_ ?_ ?_ e
    · dsimp only; rw [hsize]; omega
    · dsimp only; rw [hsize]; omega
    · simp only [List.mem_singleton]; omega
  · rintro i v s₃ m₃ ys E' hi ⟨t, rfl⟩ hL hsz3 hj hn hm hk
    dsimp only at hsz3 hn hk hL ⊢
    rw [hsize] at hsz3 hn ⊢
    refine turn i t s₃ m₃ ys hi ?_ hsz3 hj hn hm (fun b o nb e => hk b o nb (by simp only [List.mem_singleton]; exact Nat.ne_of_lt (Heap.lt_size e)) (Heap.get?_push_of_some _ e)) E'
    obtain ⟨h, tk, rfl⟩ := hL
    exact ⟨h, tk, rfl⟩
  · intro h' tk ys n' hD hj hk
    dsimp only at hD hk ⊢
    rw [hsize] at hD ⊢
    exact done h' tk ys n' hD hj (fun b o nb e => hk b o nb (by simp only [List.mem_singleton]; exact Nat.ne_of_lt (Heap.lt_size e)) (Heap.get?_push_of_some _ e))
end

/- the distances' sum -/
theorem sum_sm (l : List Int) : l.sum = sm l := by
  induction l with
  | nil => rfl
  | cons a l ih => rw [List.sum_cons, ih]; rfl
theorem sm_dist (sg : Int) (xs ys : List Int) : (distL sg xs ys).sum = sg * 225 * Dm xs ys := by
  rw [sum_sm]
  unfold distL Dm
  induction xs with
  | nil => simp
  | cons x xs ih =>
    rw [List.flatMap_cons, sm_append, ih, List.map_cons, sm_cons, Int.mul_add]
    congr 1
    rw [← sm_map_mul]
    rfl
theorem distL_length (sg : Int) (xs ys : List Int) : (distL sg xs ys).length = xs.length * ys.length := by
  unfold distL
  induction xs with
  | nil => simp
  | cons x xs ih =>
    rw [List.flatMap_cons, List.length_append, ih, List.length_map, List.length_cons, Nat.succ_mul]
    omega
end
-- OmTD
section
open PySem PySem.W PySem.Calls PyProof.Rows

/- the law's own text, read out of the given row -/
def lastStmt : List Stmt → Option Stmt
  | [] => none
  | [x] => some x
  | _ :: y :: r => lastStmt (y :: r)
def fnBody : Option Stmt → List Stmt
  | some (.FunctionDef _ _ body _ _ _ _ _ _ _) => body
  | _ => []
def fnScope : Option Stmt → Scope
  | some (.FunctionDef _ _ _ _ _ _ scope _ _ _) => scope
  | _ => default
def forBody : List Stmt → List Stmt
  | [_, _, .For _ _ body _ _, _] => body
  | _ => []
def forTarget : List Stmt → PySem.Expr
  | [_, _, .For t _ _ _ _, _] => t
  | _ => default
def lawStmt : Option Stmt := lastStmt PySem.Challenge.rw_om0012_01.row.prog.main.body
def lawBody : List Stmt := fnBody lawStmt
def lawScope : Scope := fnScope lawStmt
def turnBody : List Stmt := forBody lawBody
def turnTarget : PySem.Expr := forTarget lawBody
end
-- OmDmf
section
open PySem PySem.W PySem.Calls PyProof.Rows

def Bd (xs : List Int) : Prop := ∀ x ∈ xs, -1048576 ≤ x ∧ x ≤ 1048576
theorem sm_le {l : List Int} {c : Int} (h : ∀ x ∈ l, x ≤ c) : sm l ≤ l.length * c := by
  induction l with
  | nil => simp
  | cons a l ih =>
    have h1 := h a (.head _)
    have h2 := ih fun x hx => h x (.tail _ hx)
    rw [sm_cons, List.length_cons, Int.natCast_add, Int.add_mul]
    omega
theorem Dm_le {xs ys : List Int} (hx : Bd xs) (hy : Bd ys) : Dm xs ys ≤ xs.length * (ys.length * 2097152) := by
  unfold Dm
  have : sm (xs.map fun x => sm (ys.map fun y => ab (x - y))) ≤ (xs.map fun x => sm (ys.map fun y => ab (x - y))).length * (ys.length * 2097152) := by
    refine sm_le fun v hv => ?_
    obtain ⟨x, hxm, rfl⟩ := List.mem_map.mp hv
    have : sm (ys.map fun y => ab (x - y)) ≤ (ys.map fun y => ab (x - y)).length * 2097152 := by
      refine sm_le fun v hv => ?_
      obtain ⟨y, hym, rfl⟩ := List.mem_map.mp hv
      have h1 := hx x hxm
      have h2 := hy y hym
      unfold ab
      omega
    rwa [List.length_map] at this
  rwa [List.length_map] at this

def zOf (sg : Int) (k : Nat) (xs ys : List Int) : Int := sg * (3600 / ((k : Int) * k)) * Dm xs ys
theorem sq_div {k : Nat} (h1 : 1 ≤ k) (h6 : k ≤ 6) : (3600 / ((k : Int) * k)) * ((k : Int) * k) = 3600 := by
  have : k = 1 ∨ k = 2 ∨ k = 3 ∨ k = 4 ∨ k = 5 ∨ k = 6 := by omega
  rcases this with rfl | rfl | rfl | rfl | rfl | rfl <;> decide
theorem sq_bd {k : Nat} (h1 : 1 ≤ k) (h6 : k ≤ 6) : 100 ≤ 3600 / ((k : Int) * k) ∧ 3600 / ((k : Int) * k) ≤ 3600 := by
  have : k = 1 ∨ k = 2 ∨ k = 3 ∨ k = 4 ∨ k = 5 ∨ k = 6 := by omega
  rcases this with rfl | rfl | rfl | rfl | rfl | rfl <;> decide
theorem zOf_mul {k : Nat} (h1 : 1 ≤ k) (h6 : k ≤ 6) (sg : Int) (xs ys : List Int) : zOf sg k xs ys * ((k : Int) * k) = 3600 * sg * Dm xs ys := by
  have := sq_div h1 h6
  unfold zOf
  generalize 3600 / ((k : Int) * k) = q at *
  grind
theorem zOf_bd {sg : Int} (hsg : sg = 1 ∨ sg = -1) {k : Nat} (h1 : 1 ≤ k) (h6 : k ≤ 6) {xs ys : List Int} (hx : Bd xs) (hy : Bd ys) (lx : xs.length = k) (ly : ys.length = k) : (zOf sg k xs ys).natAbs ≤ 7549747200 := by
  have d0 := Dm_nonneg xs ys
  have d1 := Dm_le hx hy
  rw [lx, ly] at d1
  have key : 3600 / ((k : Int) * k) * Dm xs ys ≤ 7549747200 := by
    have e := sq_div h1 h6
    have q0 := (sq_bd h1 h6).1
    have := Int.mul_le_mul_of_nonneg_left d1 (show 0 ≤ 3600 / ((k : Int) * k) by omega)
    have e2 : 3600 / ((k : Int) * k) * ((k : Int) * ((k : Int) * 2097152)) = 3600 * 2097152 := by
      rw [← Int.mul_assoc (k : Int), ← Int.mul_assoc, e]
    omega
  have key0 : 0 ≤ 3600 / ((k : Int) * k) * Dm xs ys := Int.mul_nonneg (by have := (sq_bd h1 h6).1; omega) d0
  unfold zOf
  rcases hsg with rfl | rfl
  · rw [Int.one_mul]; omega
  · have e : -1 * (3600 / ((k : Int) * k)) * Dm xs ys = - (3600 / ((k : Int) * k) * Dm xs ys) := by grind
    rw [e]; omega
theorem dm_facts {sg : Int} (hsg : sg = 1 ∨ sg = -1) {k : Nat} (h1 : 1 ≤ k) (h6 : k ≤ 6) {xs ys : List Int} (hx : Bd xs) (hy : Bd ys) (lx : xs.length = k) (ly : ys.length = k) {ds : List (Int × Tok)} (hd : ds.map (·.1) = distL sg xs ys) :
    0 < ds.length ∧ ds.length ≤ 100 ∧ (∀ q ∈ ds, q.1.natAbs < 2 ^ 36) ∧ 16 * (ds.map (·.1)).sum = zOf sg k xs ys * ds.length ∧ (zOf sg k xs ys).natAbs < 2 ^ 50 := by
  have hl : ds.length = k * k := by
    have := congrArg List.length hd
    rw [List.length_map, distL_length, lx, ly] at this
    exact this
  have hkk : 1 ≤ k * k ∧ k * k ≤ 36 := ⟨Nat.mul_le_mul h1 h1, Nat.mul_le_mul h6 h6⟩
  refine ⟨by omega, by omega, fun q hq => ?_, ?_, ?_⟩
  · have hm : q.1 ∈ distL sg xs ys := by rw [← hd]; exact List.mem_map_of_mem hq
    unfold distL at hm
    obtain ⟨x, hxm, hm⟩ := List.mem_flatMap.mp hm
    obtain ⟨y, hym, e⟩ := List.mem_map.mp hm
    have b1 := hx x hxm
    have b2 := hy y hym
    rw [← e]
    rcases hsg with rfl | rfl <;> omega
  · have e3 : ((k * k : Nat) : Int) = (k : Int) * k := by rw [Int.natCast_mul]
    rw [hd, sm_dist, hl, e3, zOf_mul h1 h6]
    grind
  · have := zOf_bd hsg h1 h6 hx hy lx ly
    omega
end
-- OmUfx
section
open PySem PySem.W PySem.Calls PyProof.Rows

theorem small_int {n : Int} (h : n.natAbs ≤ 1048576) : n.natAbs < 2 ^ 1023 :=
  Nat.lt_of_le_of_lt h (Nat.lt_of_lt_of_le (show 1048576 < 2 ^ 21 by decide) (Nat.pow_le_pow_right (by decide) (by decide)))
theorem ksq {k : Nat} (h1 : 1 ≤ k) (h6 : k ≤ 6) : 1 ≤ (k : Int) * k ∧ (k : Int) * k ≤ 36 := by
  have : k = 1 ∨ k = 2 ∨ k = 3 ∨ k = 4 ∨ k = 5 ∨ k = 6 := by omega
  rcases this with rfl | rfl | rfl | rfl | rfl | rfl <;> decide
theorem unlike_fx {k : Nat} (h1 : 1 ≤ k) (h6 : k ≤ 6) {xs ys : List Int} (hx : Bd xs) (hy : Bd ys) (lx : xs.length = k) (ly : ys.length = k) {x1 x2 x3 : UInt64}
    (f1 : Fx x1 (zOf (-1) k xs xs)) (f2 : Fx x2 (zOf (-1) k ys ys)) (f3 : Fx x3 (zOf 1 k xs ys)) :
    Fx (Float64.mul (Float64.ofInt ((k : Int) * k)) (Float64.add (Float64.mul (Float64.ofInt 2) x3) (Float64.add x1 x2))) (3600 * Un xs ys) := by
  have b1 := zOf_bd (sg := -1) (by decide) h1 h6 hx hx lx lx
  have b2 := zOf_bd (sg := -1) (by decide) h1 h6 hy hy ly ly
  have b3 := zOf_bd (sg := 1) (by decide) h1 h6 hx hy lx ly
  have kk := ksq h1 h6
  have e1 := zOf_mul h1 h6 (-1) xs xs
  have e2 := zOf_mul h1 h6 (-1) ys ys
  have e3 := zOf_mul h1 h6 1 xs ys
  have f4 := Fx.add f1 f2 (by omega)
  have f5 := Fx.mulInt (k := 2) (Fx.ofInt (i := 2) (by decide)) f3 (by omega)
  have f6 := Fx.add f5 f4 (by omega)
  have ez : 3600 * Un xs ys = (k : Int) * k * (2 * zOf 1 k xs ys + (zOf (-1) k xs xs + zOf (-1) k ys ys)) := by
    unfold Un
    generalize zOf 1 k xs ys = z3 at *
    generalize zOf (-1) k xs xs = z1 at *
    generalize zOf (-1) k ys ys = z2 at *
    generalize (k : Int) * k = q at *
    rw [Int.mul_comm] at e1 e2 e3
    rw [Int.mul_add, Int.mul_add, ← Int.mul_assoc q 2, Int.mul_comm q 2, Int.mul_assoc 2 q, e1, e2, e3]
    omega
  rw [ez]
  refine Fx.mulInt (Fx.ofInt (by omega)) f6 ?_
  generalize zOf 1 k xs ys = z3 at *
  generalize zOf (-1) k xs xs = z1 at *
  generalize zOf (-1) k ys ys = z2 at *
  generalize (k : Int) * k = q at *
  rw [Int.natAbs_mul]
  have g1 : q.natAbs ≤ 36 := by omega
  have g2 : (2 * z3 + (z1 + z2)).natAbs ≤ 30198988800 := by omega
  exact Nat.lt_of_le_of_lt (Nat.mul_le_mul g1 g2) (by decide)
end
-- OmPrs
section
open PySem PySem.W PySem.Calls PyProof.Rows

/- a list of addresses that hold the pairs vs -/
def PairsAre (h : Heap) : List Addr → List (Int × Int) → Prop
  | [], [] => True
  | b :: bs, v :: vs => Pair h b v ∧ PairsAre h bs vs
  | _, _ => False
theorem PairsAre.keep {h h' : Heap} : ∀ {bs : List Addr} {vs : List (Int × Int)}, PairsAre h bs vs → (∀ b ∈ bs, ∀ o, h.get? b = some o → h'.get? b = some o) → PairsAre h' bs vs
  | [], [], _, _ => trivial
  | [], _ :: _, p, _ => p.elim
  | _ :: _, [], p, _ => p.elim
  | b :: bs, v :: vs, p, k => ⟨p.1.keep (k b (.head _)), PairsAre.keep p.2 fun c hc => k c (.tail _ hc)⟩
theorem PairsAre.append {h : Heap} : ∀ {bs cs : List Addr} {vs ws : List (Int × Int)}, PairsAre h bs vs → PairsAre h cs ws → PairsAre h (bs ++ cs) (vs ++ ws)
  | [], _, [], _, _, q => q
  | [], _, _ :: _, _, p, _ => p.elim
  | _ :: _, _, [], _, p, _ => p.elim
  | b :: bs, _, v :: vs, _, p, q => ⟨p.1, PairsAre.append p.2 q⟩
theorem PairsAre.length {h : Heap} : ∀ {bs : List Addr} {vs : List (Int × Int)}, PairsAre h bs vs → bs.length = vs.length
  | [], [], _ => rfl
  | [], _ :: _, p => p.elim
  | _ :: _, [], p => p.elim
  | b :: bs, v :: vs, p => by rw [List.length_cons, List.length_cons, PairsAre.length p.2]
def valAt (h : Heap) (a : Addr) : Int × Int := match h.get? a with
  | some o => match o.data with
    | .seq xs _ => match xs.toList with
      | [.int x _, .int c _] => (x, c)
      | _ => (0, 0)
    | _ => (0, 0)
  | none => (0, 0)
theorem Pair.valAt {h : Heap} {a : Addr} {v : Int × Int} (p : Pair h a v) : valAt h a = v := by
  obtain ⟨o, t, u, n, e, _, d⟩ := p
  unfold Mine.valAt
  rw [e]
  simp only [d]
theorem PairsAre.vals {h : Heap} : ∀ {bs : List Addr} {vs : List (Int × Int)}, PairsAre h bs vs → bs.map (valAt h) = vs ∧ ∀ b ∈ bs, Pair h b (valAt h b)
  | [], [], _ => ⟨rfl, fun _ h => nomatch h⟩
  | [], _ :: _, p => p.elim
  | _ :: _, [], p => p.elim
  | b :: bs, v :: vs, p => by
    obtain ⟨h1, h2⟩ := PairsAre.vals p.2
    have e := p.1.valAt
    refine ⟨by rw [List.map_cons, e, h1], fun c hc => ?_⟩
    rcases List.mem_cons.mp hc with rfl | hc
    · rw [e]; exact p.1
    · exact h2 c hc
end
-- OmCPr
section
open PySem PySem.W PySem.Calls PyProof.Rows

section
variable {prog : Program} {w : World} {A : Around} {E : Value → Shared → Prop} {s : Shared} {env : Env}
/-- [(x, c) for x in l] -/
theorem comp_pairs {l : Addr} {ps : List (Int × Tok)} {c : Int} {elt : PySem.Expr} {x : Str} {scope : Scope} {cl : List (Str × Addr)} {Q : Value → Shared → Prop}
    (hh : A.handled = none) (hl : s.heap.IsList l (iv ps).toArray) (hsz : ps.length < 64)
    (turn : ∀ i (hi : i < ps.length) s₃ m₃ E', Like s s₃ → s₃.heap.Ns (compEnvC scope cl (s.heap.objs.size + 2) env).locals m₃ → m₃ x = some (.int ps[i].1 ps[i].2) → Keeps [] s.heap s₃.heap →
      wpAny (model prog w) A (eval elt (compEnvC scope cl (s.heap.objs.size + 2) env)) (fun y s₅ => Like s₃ s₅ ∧ Keeps [] s₃.heap s₅.heap ∧ ∃ b, y = .ref b ∧ @LE.le Nat _ s₃.heap.objs.size b ∧ Pair s₅.heap b (ps[i].1, c)) E' s₃)
    (done : ∀ h' tk bs n', h'.get? (s.heap.objs.size + 1) = some (listOf (refs bs) n') → PairsAre h' bs (ps.map fun q => (q.1, c)) → Keeps [] s.heap h' → (∀ b ∈ bs, @LE.le Nat _ (s.heap.objs.size + 3) b) → Q (.ref (s.heap.objs.size + 1)) { s with heap := h', toks := tk }) :
    wpAny (model prog w) A (pyIter (.ref l)) (CompAsk prog w A env scope cl x [] elt Q) E s := by
  refine comp_list (vs := iv ps) (fun i h ys => ∃ bs, ys = bs.map Value.ref ∧ (∀ b ∈ bs, @LE.le Nat _ (s.heap.objs.size + 3) b) ∧ PairsAre h bs ((ps.take i).map fun q => (q.1, c))) [] hh hl (by simp; omega) (by simp) (by simp) ?_ ?_ ?_ ?_
  · intro h hk
    exact ⟨[], rfl, by simp, trivial⟩
  · rintro i h h' ys ⟨bs, e1, e2, e3⟩ hk
    exact ⟨bs, e1, e2, e3.keep fun b hb o e => hk b o (.inr (e2 b hb)) e⟩
  · rintro i v s₃ m₃ ys hv3 hL hlt3 ⟨bs, rfl, hbs, hP⟩ hn hm K3
    refine turn0 fun E' => ?_
    have hi : i < ps.length := by
      rcases Nat.lt_or_ge i ps.length with h | h
      · exact h
      · rw [List.getElem?_eq_none (by simpa using h)] at hv3; cases hv3
    have hv : v = .int ps[i].1 ps[i].2 := by
      have : (iv ps)[i]? = some (.int ps[i].1 ps[i].2) := by simp [iv, hi]
      rw [this] at hv3
      exact (Option.some.inj hv3).symm
    subst hv
    refine wpAny_mono (turn i hi s₃ m₃ E' hL hn hm K3) (fun y s₅ h₅ => ?_) fun _ _ e => e
    obtain ⟨h1, h2, b, rfl, h3, h4⟩ := h₅
    refine ⟨h1, h2, bs ++ [b], by simp, fun b' hb' => ?_, ?_⟩
    · rcases List.mem_append.mp hb' with hb' | hb'
      · exact hbs b' hb'
      · rw [List.mem_singleton.mp hb']
        exact Nat.le_trans hlt3 h3
    · rw [List.take_add_one, List.getElem?_eq_getElem hi, List.map_append]
      exact (hP.keep fun b _ o e => h2 b o (by simp) e).append ⟨h4, trivial⟩
  · rintro h4 tk4 ys n4 hD4 ⟨bs, rfl, hbs, hP⟩ K4
    refine done h4 tk4 bs n4 hD4 ?_ K4 hbs
    rw [show (iv ps).length = ps.length by simp, List.take_length] at hP
    exact hP
end
end
end
section
local macro_rules | `(tactic| walk_at "om_stop") => `(tactic| with_reducible first | show wpAny _ _ (exec (Stmt.While _ _ _ _) _) _ _ _ | show wpAny _ _ (PySem.call (Value.ref _) _ _) _ _ _ | show wpAny _ _ (subscriptTail _ _ (Value.ref _) _) _ _ _ | show wpAny _ _ (setItem (Value.ref _) _ _) _ _ _ | show wpAny _ _ (compareOp _ (Value.ref _) (Value.ref _)) _ _ _ | show wpAny _ _ (PySem.call (Value.builtin "len") _ _) _ _ _ | show wpAny _ _ (pyIter (Value.ref _)) _ _ _ | show wpAny _ _ (PySem.call (Value.type "reversed") _ _) _ _ _ | show wpAny _ _ (PySem.call (Value.builtin "list.pop") _ _) _ _ _ | show wpAny _ _ (truthy (Value.ref _)) _ _ _ | show wpAny _ _ (PySem.call (Value.type "list") _ _) _ _ _ | show wpAny _ _ (eval (PySem.Expr.ListComp _ _ _ _) _) _ _ _ | show wpAny _ _ (binaryOp PySem.Operator.Add (Value.ref _) (Value.ref _)) _ _ _ | show wpAny _ _ (PySem.call (Value.builtin "list.remove") _ _) _ _ _ | show wpAny _ _ (PySem.call (Value.builtin "list.append") _ _) _ _ _ | show wpAny _ _ (PySem.call (Value.builtin "list.count") _ _) _ _ _ | show wpAny _ _ (PySem.call (Value.builtin "math.fsum") _ _) _ _ _ | show wpAny _ _ (PySem.call (Value.builtin "sorted") _ _) _ _ _ | show wpAny _ _ (binaryOp _ (Value.float _ _) _) _ _ _ | show wpAny _ _ (binaryOp _ _ (Value.float _ _)) _ _ _ | show wpAny _ _ (compareOp _ (Value.float _ _) _) _ _ _ | show wpAny _ _ (exec (Stmt.Try _ _ _ _ _) _) _ _ _ | show LpEnd _ _ _ _ _ _ _ | show KswEnd _ _ _ _ _ _ _ _ _ _ _ _)
-- OmT1
section
open PySem PySem.W PySem.Calls PyProof.Rows
theorem t1 {w : World} {p : Program} {loose : List Str} {mean : ExcName → Option Value} {mg mb : Str → Option Value}
    (dp un : Nat) (gd : Option (List Code)) (a0 : Addr) (ccd : Value) (A₀ : Around) (base h₀ : Heap) (L c1 c2 : Addr) (m : Str → Option Value) (s : Shared)
    (Q : Flow → Shared → Prop) (E : Value → Shared → Prop) (la lb : Addr) (ps qs : List (Int × Tok)) (n1 n2 : Nat) (o1 o2 : Obj) (k : Nat) (t : Tok)
    (B : Below A₀ base [] h₀) (F : Fr h₀ L s.heap m) (X : (hd.heap_39 w.params).In h₀) (T : Top p loose mean mg mb h₀) (hd : dp < 380) (hu : un < 600)
    (rest : List (Addr × Obj)) (N : News h₀ L s.heap ((c2, o2) :: (c1, o1) :: (la, listOf (iv ps).toArray n1) :: (lb, listOf (iv qs).toArray n2) :: rest)) (ho1 : o1.data = .cell (some (.ref la))) (ho2 : o2.data = .cell (some (.ref lb)))
    (hn : m (Str.ofString "n") = some (.int k t)) (hk1 : 2 ≤ k) (hk2 : k ≤ 6) (hp1 : ps.length = k) (hp2 : qs.length = k) (hb1 : Bd (ps.map (·.1))) (hb2 : Bd (qs.map (·.1)))
    (ret : ∀ (h : Heap) (tk : Nat) (m' : Str → Option Value) (S : Addr) (bs : List Addr) (val : Addr → Int × Int) (R : List (Addr × Obj)) (U : UInt64) (tU : Tok), Fr h₀ L h m' →
      News h₀ L h ((S, listOf (refs bs) 0) :: (c2, o2) :: (c1, o1) :: (la, listOf (iv ps).toArray n1) :: (lb, listOf (iv qs).toArray n2) :: R) → (∀ p ∈ rest, p ∈ R) → (∀ b ∈ bs, b ≠ L ∧ h₀.get? b = none) →
      (∀ h' : Heap, (∀ p ∈ R, h'.get? p.1 = some p.2) → ∀ b ∈ bs, Pair h' b (val b)) → bs.map val = sgn (ps.map (·.1)) (qs.map (·.1)) → Fx U (3600 * Un (ps.map (·.1)) (qs.map (·.1))) →
      m' (Str.ofString "signed") = some (.ref S) → m' (Str.ofString "unlike") = some (.float U tU) → m' (Str.ofString "n") = some (.int k t) → m' (Str.ofString "numbers") = m (Str.ofString "numbers") →
      wpAny (model PySem.Challenge.rw_om0012_01.row.prog w) (ktrTop dp un gd (Str.ofString "law") lawScope L a0 ccd [(Str.ofString "other", c2), (Str.ofString "one", c1)] []) (execs (turnBody.drop 3) (envX (Str.ofString "law") lawScope L a0 ccd [(Str.ofString "other", c2), (Str.ofString "one", c1)])) Q E { s with heap := h, toks := tk }) :
    wpAny (model PySem.Challenge.rw_om0012_01.row.prog w) (ktrTop dp un gd (Str.ofString "law") lawScope L a0 ccd [(Str.ofString "other", c2), (Str.ofString "one", c1)] []) (execs turnBody (envX (Str.ofString "law") lawScope L a0 ccd [(Str.ofString "other", c2), (Str.ofString "one", c1)])) Q E s := by
  have eb : turnBody = turnBody := rfl
  conv at eb => rhs; whnf
  have es : lawScope = lawScope := rfl
  conv at es => rhs; whnf
  rw [eb, es]
  clear eb es
  revert X; k_fill; intro X
  rw [pin hn] at F
  (try dsimp only); (try k_fold)
  walk_at "om_steps"
  rename Fr _ _ _ _ => F
  rename News _ _ _ _ => N
  have hla := (N (la, listOf (iv ps).toArray n1) (by simp)).1
  have hlb := (N (lb, listOf (iv qs).toArray n2) (by simp)).1
  k_dflt (refine' dist_c _ _ _ _ _ _ _ _ _ _ _ _ _ _ _ _ _ la la (-1) _ ps ps _ _ B F X T ?c1 ?c2 ?c3 hla hla ?c4 ?c5 ?c6 ?_)
  case c1 => rfl
  case c2 => ktr_room
  case c3 => ktr_units
  case c4 => decide
  case c5 => omega
  case c6 => omega
  intro hA1 tkA1 rA1 ds1 nA1 KA1 frA1 gA1 dA1
  obtain ⟨u1a, u1b, u1c, u1d, u1e⟩ := dm_facts (sg := (-1)) (by decide) (by omega) hk2 hb1 hb1 (by rw [List.length_map]; exact hp1) (by rw [List.length_map]; exact hp1) dA1
  replace F := KA1.fr F (by simp) (by simp)
  replace N := KA1.news N (by simp)
  (try dsimp only at F N)
  clear KA1
  (try dsimp only); (try k_fold)
  walk_at "om_steps"
  rename Fr _ _ _ _ => F
  rename News _ _ _ _ => N
  k_dflt (refine' fmean_c _ _ _ _ _ _ _ _ _ _ _ _ _ _ _ _ _ rA1 ds1 nA1 _ B F X T ?c1 ?c2 ?c3 gA1 u1a u1b u1c u1d u1e ?_)
  case c1 => rfl
  case c2 => ktr_room
  case c3 => ktr_units
  intro hB1 tkB1 x1 tB1 KB1 fx1
  clear frA1 gA1 dA1 u1a u1b u1c u1d hla hlb
  replace F := KB1.fr F (by simp) (by simp)
  replace N := KB1.news N (by simp)
  (try dsimp only at F N)
  clear KB1
  (try dsimp only); (try k_fold)
  walk_at "om_steps"
  rename Fr _ _ _ _ => F
  rename News _ _ _ _ => N
  have hla := (N (la, listOf (iv ps).toArray n1) (by simp)).1
  have hlb := (N (lb, listOf (iv qs).toArray n2) (by simp)).1
  k_dflt (refine' dist_c _ _ _ _ _ _ _ _ _ _ _ _ _ _ _ _ _ lb lb (-1) _ qs qs _ _ B F X T ?c1 ?c2 ?c3 hlb hlb ?c4 ?c5 ?c6 ?_)
  case c1 => rfl
  case c2 => ktr_room
  case c3 => ktr_units
  case c4 => decide
  case c5 => omega
  case c6 => omega
  intro hA2 tkA2 rA2 ds2 nA2 KA2 frA2 gA2 dA2
  obtain ⟨u2a, u2b, u2c, u2d, u2e⟩ := dm_facts (sg := (-1)) (by decide) (by omega) hk2 hb2 hb2 (by rw [List.length_map]; exact hp2) (by rw [List.length_map]; exact hp2) dA2
  replace F := KA2.fr F (by simp) (by simp)
  replace N := KA2.news N (by simp)
  (try dsimp only at F N)
  clear KA2
  (try dsimp only); (try k_fold)
  walk_at "om_steps"
  rename Fr _ _ _ _ => F
  rename News _ _ _ _ => N
  k_dflt (refine' fmean_c _ _ _ _ _ _ _ _ _ _ _ _ _ _ _ _ _ rA2 ds2 nA2 _ B F X T ?c1 ?c2 ?c3 gA2 u2a u2b u2c u2d u2e ?_)
  case c1 => rfl
  case c2 => ktr_room
  case c3 => ktr_units
  intro hB2 tkB2 x2 tB2 KB2 fx2
  clear frA2 gA2 dA2 u2a u2b u2c u2d hla hlb
  replace F := KB2.fr F (by simp) (by simp)
  replace N := KB2.news N (by simp)
  (try dsimp only at F N)
  clear KB2
  (try dsimp only); (try k_fold)
  walk_at "om_steps"
  rename Fr _ _ _ _ => F
  rename News _ _ _ _ => N
  refine add_float ?_
  (try dsimp only); (try k_fold)
  walk_at "om_steps"
  rename Fr _ _ _ _ => F
  rename News _ _ _ _ => N
  have hla := (N (la, listOf (iv ps).toArray n1) (by simp)).1
  have hlb := (N (lb, listOf (iv qs).toArray n2) (by simp)).1
  k_dflt (refine' dist_c _ _ _ _ _ _ _ _ _ _ _ _ _ _ _ _ _ la lb 1 _ ps qs _ _ B F X T ?c1 ?c2 ?c3 hla hlb ?c4 ?c5 ?c6 ?_)
  case c1 => rfl
  case c2 => ktr_room
  case c3 => ktr_units
  case c4 => decide
  case c5 => omega
  case c6 => omega
  intro hA3 tkA3 rA3 ds3 nA3 KA3 frA3 gA3 dA3
  obtain ⟨u3a, u3b, u3c, u3d, u3e⟩ := dm_facts (sg := 1) (by decide) (by omega) hk2 hb1 hb2 (by rw [List.length_map]; exact hp1) (by rw [List.length_map]; exact hp2) dA3
  replace F := KA3.fr F (by simp) (by simp)
  replace N := KA3.news N (by simp)
  (try dsimp only at F N)
  clear KA3
  (try dsimp only); (try k_fold)
  walk_at "om_steps"
  rename Fr _ _ _ _ => F
  rename News _ _ _ _ => N
  k_dflt (refine' fmean_c _ _ _ _ _ _ _ _ _ _ _ _ _ _ _ _ _ rA3 ds3 nA3 _ B F X T ?c1 ?c2 ?c3 gA3 u3a u3b u3c u3d u3e ?_)
  case c1 => rfl
  case c2 => ktr_room
  case c3 => ktr_units
  intro hB3 tkB3 x3 tB3 KB3 fx3
  clear frA3 gA3 dA3 u3a u3b u3c u3d hla hlb
  replace F := KB3.fr F (by simp) (by simp)
  replace N := KB3.news N (by simp)
  (try dsimp only at F N)
  clear KB3
  (try dsimp only); (try k_fold)
  walk_at "om_steps"
  rename Fr _ _ _ _ => F
  rename News _ _ _ _ => N
  refine mul_if_fits (small_int (by decide)) ?_
  (try dsimp only); (try k_fold)
  walk_at "om_steps"
  rename Fr _ _ _ _ => F
  rename News _ _ _ _ => N
  refine add_float ?_
  (try dsimp only); (try k_fold)
  walk_at "om_steps"
  rename Fr _ _ _ _ => F
  rename News _ _ _ _ => N
  refine mul_if_fits (small_int (by have := ksq (k := k) (by omega) hk2; omega)) ?_
  have hU := unlike_fx (by omega) hk2 hb1 hb2 (by rw [List.length_map]; exact hp1) (by rw [List.length_map]; exact hp2) fx1 fx2 fx3
  generalize Float64.mul (Float64.ofInt ((k : Int) * k)) (Float64.add (Float64.mul (Float64.ofInt 2) x3) (Float64.add x1 x2)) = U at hU ⊢
  clear u1e u2e u3e
  (try dsimp only); (try k_fold)
  walk_at "om_steps"
  rename Fr _ _ _ _ => F
  rename News _ _ _ _ => N
  k_dflt (refine comp_ask (by with_unfolding_all rfl) (by decide) (by rfl) (by decide) (by rfl) (by intro _; rfl) ?_)
  (try dsimp only); (try k_fold)
  walk_at "om_steps"
  rename Fr _ _ _ _ => F
  rename News _ _ _ _ => N
  (try k_unfold); (try dsimp only)
  have z1 := N (la, listOf (iv ps).toArray n1) (by simp)
  have LB1 := F.ns.lt
  (try dsimp only at LB1)
  refine comp_pairs (ps := ps) (c := 1) (by rfl) ⟨_, z1.1, rfl, _, rfl⟩ (by omega) ?_ ?_
  · rintro i hi s₃ m₃ E' ⟨h3, tk3, rfl⟩ hn hm K3
    dsimp only at K3 hn ⊢
    have F3 := K3.fr F (by simp) (by simp)
    have N3 := K3.news N (by simp)
    clear F N
    (try k_fold)
    walk_at "om_stepsT"
    refine wpAny_newTuple ?_
    (try k_unfold)
    exact ⟨.mk, fun b o _ e => Heap.get?_push_of_some _ e, _, rfl, Nat.le_refl _, _, _, _, 0, Heap.get?_push_size _ rfl, rfl, rfl⟩
  intro hC1 tkC1 bs1 nC1 gC1 pC1 KC1 lC1
  replace F := KC1.fr F (by simp) (by simp)
  replace N := KC1.news N (by simp)
  (try dsimp only at F N)
  have LC1 := F.ns.lt
  clear KC1
  (try dsimp only); (try k_fold)
  walk_at "om_steps"
  rename Fr _ _ _ _ => F
  rename News _ _ _ _ => N
  k_dflt (refine comp_ask (by with_unfolding_all rfl) (by decide) (by rfl) (by decide) (by rfl) (by intro _; rfl) ?_)
  (try dsimp only); (try k_fold)
  walk_at "om_steps"
  rename Fr _ _ _ _ => F
  rename News _ _ _ _ => N
  (try k_unfold); (try dsimp only)
  have z2 := N (lb, listOf (iv qs).toArray n2) (by simp)
  have LB2 := F.ns.lt
  (try dsimp only at LB2)
  refine comp_pairs (ps := qs) (c := (-1)) (by rfl) ⟨_, z2.1, rfl, _, rfl⟩ (by omega) ?_ ?_
  · rintro i hi s₃ m₃ E' ⟨h3, tk3, rfl⟩ hn hm K3
    dsimp only at K3 hn ⊢
    have F3 := K3.fr F (by simp) (by simp)
    have N3 := K3.news N (by simp)
    clear F N
    (try k_fold)
    walk_at "om_stepsT"
    refine wpAny_newTuple ?_
    (try k_unfold)
    exact ⟨.mk, fun b o _ e => Heap.get?_push_of_some _ e, _, rfl, Nat.le_refl _, _, _, _, 0, Heap.get?_push_size _ rfl, rfl, rfl⟩
  intro hC2 tkC2 bs2 nC2 gC2 pC2 KC2 lC2
  replace F := KC2.fr F (by simp) (by simp)
  replace N := KC2.news N (by simp)
  (try dsimp only at F N)
  have gC1' := KC2 _ _ (by simp) gC1
  have pC1' := pC1.keep fun b _ o e => KC2 b o (by simp) e
  clear KC2 gC1 pC1
  (try dsimp only); (try k_fold)
  walk_at "om_steps"
  rename Fr _ _ _ _ => F
  rename News _ _ _ _ => N
  dsimp only at gC1' gC2 lC1 lC2
  have pC := pC1'.append pC2
  have hfresh : ∀ b ∈ bs1 ++ bs2, b ≠ L ∧ h₀.get? b = none := by
    intro b hb
    have hbl : @LT.lt Nat _ L b := by
      rcases List.mem_append.mp hb with hb | hb
      · exact Nat.lt_of_lt_of_le LB1 (Nat.le_trans (Nat.le_add_right _ 3) (lC1 b hb))
      · exact Nat.lt_of_lt_of_le LB2 (Nat.le_trans (Nat.le_add_right _ 3) (lC2 b hb))
    exact ⟨Nat.ne_of_gt hbl, Heap.get?_none_of_le (Nat.le_trans F.above (Nat.le_of_lt hbl))⟩
  have hRest : ∀ p ∈ rest, p ∈ allNews h₀ L hC2 := fun p hp => mem_allNews.mpr (N p (by simp [hp]))
  have N2 : News h₀ L hC2 ((c2, o2) :: (c1, o1) :: (la, listOf (iv ps).toArray n1) :: (lb, listOf (iv qs).toArray n2) :: allNews h₀ L hC2) := fun p hp => by
    simp only [List.mem_cons] at hp
    rcases hp with rfl | rfl | rfl | rfl | hp
    · exact N _ (by simp)
    · exact N _ (by simp)
    · exact N _ (by simp)
    · exact N _ (by simp)
    · exact allNews_news _ _ _ p hp
  obtain ⟨hvm, hvp⟩ := pC.vals
  have hPv : ∀ h : Heap, (∀ p ∈ allNews h₀ L hC2, h.get? p.1 = some p.2) → ∀ b ∈ bs1 ++ bs2, Pair h b (valAt hC2 b) := fun h hh b hb => (hvp b hb).keep fun o e => hh (b, o) (mem_allNews.mpr ⟨e, hfresh b hb⟩)
  refine add_lists F N2 ⟨_, gC1', rfl, _, rfl⟩ ⟨_, gC2, rfl, _, rfl⟩ ?_ (by rw [sizeLine_eq, List.length_map, List.length_map, pC1'.length, pC2.length]; simp; omega)
  have hlenb : (bs1 ++ bs2).length = k + k := by rw [pC.length]; simp; omega
  generalize valAt hC2 = val at hvm hPv
  clear hvp
  generalize allNews h₀ L hC2 = R at N2 hRest hPv ⊢
  intro hD FD ND
  clear F N N2 gC1' gC2 pC1' pC2 lC1 lC2 LB1 LB2 LC1 z1 z2
  (try dsimp only); (try k_fold)
  walk_at "om_stepsX"
  rename Fr _ _ _ _ => F
  rename News _ _ _ _ => N
  have eN : ({ cls := Value.type "list", data := Data.seq (List.map Value.ref bs1 ++ List.map Value.ref bs2).toArray } : Obj) = listOf (refs (bs1 ++ bs2)) 0 := by
    rw [← List.map_append]
  rw [eN] at N
  have eV : (bs1 ++ bs2).map val = sgn (ps.map (·.1)) (qs.map (·.1)) := by
    rw [hvm]; unfold sgn; rw [List.map_map, List.map_map]; rfl
  exact ret _ _ _ _ _ val R U _ F N hRest (fun b hb => (hfresh b hb)) hPv eV hU rfl rfl rfl rfl
end
-- OmT2
section
open PySem PySem.W PySem.Calls PyProof.Rows
theorem t2 {w : World} {p : Program} {loose : List Str} {mean : ExcName → Option Value} {mg mb : Str → Option Value}
    (dp un : Nat) (gd : Option (List Code)) (a0 : Addr) (ccd : Value) (A₀ : Around) (base h₀ : Heap) (L c1 c2 : Addr) (m : Str → Option Value) (s : Shared)
    (Q : Flow → Shared → Prop) (E : Value → Shared → Prop) (S : Addr) (bs : List Addr) (val : Addr → Int × Int) (xs ys : List Int) (R : List (Addr × Obj)) (U : UInt64) (tU : Tok)
    (B : Below A₀ base [] h₀) (F : Fr h₀ L s.heap m) (X : (hd.heap_39 w.params).In h₀) (T : Top p loose mean mg mb h₀) (hd : dp < 380) (hu : un < 600)
    (N : News h₀ L s.heap ((S, listOf (refs bs) 0) :: R)) (hbL : ∀ b ∈ bs, b ≠ L ∧ h₀.get? b = none)
    (hPv : ∀ h' : Heap, (∀ p ∈ R, h'.get? p.1 = some p.2) → ∀ b ∈ bs, Pair h' b (val b)) (hvm : bs.map val = sgn xs ys) (hU : Fx U (3600 * Un xs ys)) (hb1 : Bd xs) (hb2 : Bd ys) (hl1 : xs.length = ys.length) (hl2 : 2 ≤ xs.length) (hl3 : xs.length ≤ 6)
    (hS : m (Str.ofString "signed") = some (.ref S)) (hUm : m (Str.ofString "unlike") = some (.float U tU))
    (ret : ∀ (h : Heap) (tk : Nat) (o : Value), Fr h₀ L h (fun y => if y = Str.ofString "off" then some o else m y) → News h₀ L h R → (Un xs ys = 0 → ∀ t, xs.count t = ys.count t) →
      wpAny (model PySem.Challenge.rw_om0012_01.row.prog w) (ktrTop dp un gd (Str.ofString "law") lawScope L a0 ccd [(Str.ofString "other", c2), (Str.ofString "one", c1)] []) (execs (turnBody.drop 5) (envX (Str.ofString "law") lawScope L a0 ccd [(Str.ofString "other", c2), (Str.ofString "one", c1)])) Q E { s with heap := h, toks := tk }) :
    wpAny (model PySem.Challenge.rw_om0012_01.row.prog w) (ktrTop dp un gd (Str.ofString "law") lawScope L a0 ccd [(Str.ofString "other", c2), (Str.ofString "one", c1)] []) (execs (turnBody.drop 3) (envX (Str.ofString "law") lawScope L a0 ccd [(Str.ofString "other", c2), (Str.ofString "one", c1)])) Q E s := by
  have eb : turnBody.drop 3 = turnBody.drop 3 := rfl
  conv at eb => rhs; whnf
  have es : lawScope = lawScope := rfl
  conv at es => rhs; whnf
  rw [eb, es]
  clear eb es
  revert X; k_fill; intro X
  have em : m = fun y => if y = Str.ofString "signed" then some (.ref S) else if y = Str.ofString "unlike" then some (.float U tU) else m y := by
    funext y
    by_cases h1 : y = Str.ofString "signed"
    · rw [if_pos h1, h1, hS]
    · rw [if_neg h1]
      by_cases h2 : y = Str.ofString "unlike"
      · rw [if_pos h2, h2, hUm]
      · rw [if_neg h2]
  have F0 := F
  rw [em] at F0
  clear F
  (try k_fold)
  walk_at "om_steps"
  have hlenb : bs.length = xs.length + ys.length := by
    have := congrArg List.length hvm
    simpa [sgn] using this
  have hc : ∀ b ∈ bs, (val b).2 = 1 ∨ (val b).2 = -1 := fun b hb => by
    have : val b ∈ sgn xs ys := by rw [← hvm]; exact List.mem_map_of_mem hb
    unfold sgn at this
    rcases List.mem_append.mp this with h | h
    · obtain ⟨x, _, e⟩ := List.mem_map.mp h
      rw [← e]; exact .inl rfl
    · obtain ⟨x, _, e⟩ := List.mem_map.mp h
      rw [← e]; exact .inr rfl
  have hx : ∀ b ∈ bs, -2 ^ 20 ≤ (val b).1 ∧ (val b).1 ≤ 2 ^ 20 := fun b hb => by
    have : val b ∈ sgn xs ys := by rw [← hvm]; exact List.mem_map_of_mem hb
    unfold sgn at this
    rcases List.mem_append.mp this with h | h
    · obtain ⟨x, hx, e⟩ := List.mem_map.mp h
      rw [← e]; exact hb1 x hx
    · obtain ⟨x, hx, e⟩ := List.mem_map.mp h
      rw [← e]; exact hb2 x hx
  have zS := N (S, listOf (refs bs) 0) (.head _)
  k_dflt (refine' off_c _ _ _ _ _ _ _ _ _ _ _ _ _ _ _ _ _ S bs 0 val B F0 X T ?c1 ?c2 ?c3 zS.1 (hPv _ fun p hp => (N p (.tail _ hp)).1) ?c4 ?_)
  case c1 => rfl
  case c2 => ktr_room
  case c3 => ktr_units
  case c4 => omega
  intro r h2 tk2 n2 K2 fr2 g2
  have hrL : r ≠ L := fun e => by
    obtain ⟨_, _, _, q, _⟩ := F0.ns
    rw [e, q] at fr2; cases fr2
  have hr0 : h₀.get? r = none := by
    cases q : h₀.get? r with
    | none => rfl
    | some o => rw [F0.keep _ _ q] at fr2; cases fr2
  have hrS : r ≠ S := fun e => by rw [e, zS.1] at fr2; cases fr2
  replace F0 := K2.fr F0 (by simp) (by simp)
  have N2 : News h₀ L h2 ((r, listOf (refs (offL (fun x y => plt (val x) (val y)) bs)) n2) :: (S, listOf (refs bs) 0) :: R) := fun p hp => by
    rcases List.mem_cons.mp hp with rfl | hp
    · exact ⟨g2, hrL, hr0⟩
    · exact K2.news N (by simp) p hp
  clear N zS K2 g2
  (try dsimp only); (try k_fold)
  walk_at "om_steps"
  rename Fr _ _ _ _ => F
  rename News _ _ _ _ => N
  have zS := N (S, listOf (refs bs) 0) (by simp)
  refine sorted_pairs (val := val) F zS.1 (hPv _ fun p hp => (N p (by simp [hp])).1) (fun b hb => (hbL b hb).1) hc (by omega) (by omega) ?_
  intro D h3 ds e3 F3 K3 fD gD pD sD
  have N3 : News h₀ L h3 ((r, listOf (refs (offL (fun x y => plt (val x) (val y)) bs)) n2) :: (S, listOf (refs bs) 0) :: R) := fun p hp => ⟨K3 _ _ (N p hp).2.1 (N p hp).1, (N p hp).2⟩
  have oM := off_map hc pD sD
  obtain ⟨oP, oS⟩ := off_sorted (plt_ord val) (fun x => by simp [plt]) bs
  clear F N zS
  (try dsimp only); (try k_fold)
  walk_at "om_steps"
  have hv3 := hPv h3 fun p hp => (N3 p (by simp [hp])).1
  refine pairs_ne (val := val) (by ktr_units) (N3 _ (.head _)).1 gD (fun b hb => hv3 b (oP.mem_iff.mp hb)) (fun b hb => hv3 b (pD.mem_iff.mp hb)) oM ?_
  (try dsimp only); (try k_fold)
  walk_at "om_steps"
  have hvo : ((offL (fun x y => plt (val x) (val y)) bs).map val).Perm (sgn xs ys) := by rw [← hvm]; exact oP.map val
  have hso : ((offL (fun x y => plt (val x) (val y)) bs).map val).Pairwise fun u v => u.1 ≤ v.1 := by
    refine List.pairwise_map.mpr (oS.imp fun {a b} h => ?_)
    unfold plt at h
    have := of_decide_eq_false h
    omega
  obtain ⟨eU, eZ⟩ := Un_built hl1 hvo hso (by omega)
  rw [List.length_map] at eU
  have hlo := oP.length_eq
  k_dflt (refine' swept_c _ _ _ _ _ _ _ _ _ _ _ _ _ _ _ _ _ r (offL (fun x y => plt (val x) (val y)) bs) n2 val B F3 X T ?c1 ?c2 ?c3 (N3 _ (.head _)).1 (fun b hb => hv3 b (oP.mem_iff.mp hb)) ?c4 ?c5 (fun b hb => hc b (oP.mem_iff.mp hb)) (fun b hb => hx b (oP.mem_iff.mp hb)) ?_)
  case c1 => rfl
  case c2 => ktr_room
  case c3 => ktr_units
  case c4 => omega
  case c5 => omega
  intro h4 tk4 t4 K4
  have F4 := K4.fr F3 (by simp) (by simp)
  have N4 := K4.news N3 (by simp)
  generalize builtN ((offL (fun x y => plt (val x) (val y)) bs).map val) ((offL (fun x y => plt (val x) (val y)) bs).length - 1) = bt at eU ⊢
  clear F3 N3 hv3 gD
  (try dsimp only); (try k_fold)
  walk_at "om_steps"
  refine ne_fi ?_
  have eC : (Float64.cmpInt U (450 * bt) != some Ordering.eq) = false := by
    rw [hU.cmpInt, eU]
    have : compare (3600 * (2 * bt)) (16 * (450 * bt)) = .eq := by
      rw [show 3600 * (2 * bt) = 16 * (450 * bt) by omega]
      simp [compare, compareOfLessAndEq]
    rw [this]
    rfl
  rw [eC]
  (try dsimp only); (try k_fold)
  walk_at "om_stepsX"
  refine wpAny_execs_nil ?_
  (try k_unfold); dsimp only
  have eF : (fun y => if y = Str.ofString "off" then some (Value.ref r) else if y = Str.ofString "signed" then some (.ref S) else if y = Str.ofString "unlike" then some (.float U tU) else m y) = fun y => if y = Str.ofString "off" then some (Value.ref r) else m y := by
    funext y
    exact congrArg (fun v => if y = Str.ofString "off" then some (Value.ref r) else v) (congrFun em y).symm
  rw [eF] at F4
  exact ret _ _ (.ref r) F4 (fun p hp => N4 p (.tail _ (.tail _ hp))) eZ
end
-- OmT3
section
open PySem PySem.W PySem.Calls PyProof.Rows
theorem t3 {w : World} {p : Program} {loose : List Str} {mean : ExcName → Option Value} {mg mb : Str → Option Value}
    (dp un : Nat) (gd : Option (List Code)) (a0 : Addr) (ccd : Value) (h₀ : Heap) (L c1 c2 : Addr) (m : Str → Option Value) (s : Shared)
    (Q : Flow → Shared → Prop) (E : Value → Shared → Prop) (la lb : Addr) (ps qs : List (Int × Tok)) (n1 n2 : Nat) (o1 o2 : Obj) (R : List (Addr × Obj))
    (F : Fr h₀ L s.heap m) (X : (hd.heap_39 w.params).In h₀) (T : Top p loose mean mg mb h₀) (hd : dp < 380) (hu : un < 600)
    (N : News h₀ L s.heap ((c2, o2) :: (c1, o1) :: (la, listOf (iv ps).toArray n1) :: (lb, listOf (iv qs).toArray n2) :: R)) (ho1 : o1.data = .cell (some (.ref la))) (ho2 : o2.data = .cell (some (.ref lb)))
    (hp1 : ps.length ≤ 6) (hp2 : qs.length ≤ 6)
    (hT1 : Str.ofString "ValueError" ∉ loose) (hT2 : Str.ofString "ValueError" ∉ (recsOf p).map (·.name)) (hT3 : Str.ofString "ValueError" ∉ (litsOf p).map (·.1)) (hT4 : Str.ofString "ValueError" ∉ (clssOf p loose).map (·.name))
    (ret : ∀ (h : Heap) (tk : Nat) (u k lm : Addr) (n3 n4 n5 : Nat) (ms rs : List (Int × Tok)), Fr h₀ L h (fun y => if y = Str.ofString "spare" then some (.ref k) else if y = Str.ofString "lacking" then some (.ref lm) else if y = Str.ofString "kept" then some (.ref k) else if y = Str.ofString "used" then some (.ref u) else m y) →
      News h₀ L h ((u, listOf #[] n3) :: (k, listOf (iv rs).toArray n4) :: (lm, listOf (iv ms).toArray n5) :: (c2, o2) :: (c1, o1) :: (la, listOf (iv ps).toArray n1) :: (lb, listOf (iv qs).toArray n2) :: R) →
      ms.map (·.1) = (ul (ps.map (·.1)).reverse (qs.map (·.1))).1 → rs.map (·.1) = (ul (ps.map (·.1)).reverse (qs.map (·.1))).2 →
      wpAny (model PySem.Challenge.rw_om0012_01.row.prog w) (ktrTop dp un gd (Str.ofString "law") lawScope L a0 ccd [(Str.ofString "other", c2), (Str.ofString "one", c1)] []) (execs (turnBody.drop 8) (envX (Str.ofString "law") lawScope L a0 ccd [(Str.ofString "other", c2), (Str.ofString "one", c1)])) Q E { s with heap := h, toks := tk }) :
    wpAny (model PySem.Challenge.rw_om0012_01.row.prog w) (ktrTop dp un gd (Str.ofString "law") lawScope L a0 ccd [(Str.ofString "other", c2), (Str.ofString "one", c1)] []) (execs (turnBody.drop 5) (envX (Str.ofString "law") lawScope L a0 ccd [(Str.ofString "other", c2), (Str.ofString "one", c1)])) Q E s := by
  have eb : turnBody.drop 5 = turnBody.drop 5 := rfl
  conv at eb => rhs; whnf
  have es : lawScope = lawScope := rfl
  conv at es => rhs; whnf
  rw [eb, es]
  clear eb es
  revert X; k_fill; intro X
  (try k_fold)
  walk_at "om_steps"
  have z1 := N (la, listOf (iv ps).toArray n1) (by simp)
  refine list_copyK F N (items := (iv ps).toArray) ⟨_, z1.1, rfl, n1, rfl⟩ ?_ (by rw [sizeLine_eq]; simp; omega)
  intro u cu h2 F2 N2 l2
  clear F N
  (try k_fold)
  walk_at "om_steps"
  rename Fr _ _ _ _ => F
  rename News _ _ _ _ => N
  have z2 := N (lb, listOf (iv qs).toArray n2) (by simp)
  refine list_copyK F N (items := (iv qs).toArray) ⟨_, z2.1, rfl, n2, rfl⟩ ?_ (by rw [sizeLine_eq]; simp; omega)
  intro k ck h3 F3 N3 l3
  clear F N
  (try k_fold)
  walk_at "om_steps"
  rename Fr _ _ _ _ => F
  rename News _ _ _ _ => N
  have huk : u ≠ k := Nat.ne_of_lt (l3 _ (.head _))
  have zu := N (u, listOf (iv ps).toArray cu) (by simp)
  have zk := N (k, listOf (iv qs).toArray ck) (by simp)
  have Nuk : News h₀ L _ [(u, listOf (iv ps).toArray cu), (k, listOf (iv qs).toArray ck)] := fun p hp => by
    rcases List.mem_cons.mp hp with rfl | hp
    · exact zu
    · rw [List.mem_singleton.mp hp]; exact zk
  k_dflt (refine' uld_c _ _ _ _ _ _ _ _ _ _ _ _ _ _ u k ps qs cu ck F X T ?c1 ?c2 ?c3 Nuk huk ?c4 ?c5 hT1 hT2 hT3 hT4 ?_)
  case c1 => rfl
  case c2 => ktr_room
  case c3 => ktr_units
  case c4 => omega
  case c5 => omega
  intro h4 tk4 r lm n3 n4 n5 F4 K4 fr fl gu gk gl tr
  dsimp only at K4 fr fl
  have hlL : lm ≠ L ∧ h₀.get? lm = none := by
    constructor
    · intro e
      obtain ⟨_, _, _, q, _⟩ := F.ns
      rw [e, q] at fl; cases fl
    · cases q : h₀.get? lm with
      | none => rfl
      | some o => rw [F.keep _ _ q] at fl; cases fl
  obtain ⟨e1, e2⟩ := uldP_ul ps.reverse qs []
  rw [List.map_reverse] at e1 e2
  rw [List.map_nil, List.nil_append] at e1
  generalize (uldP ps.reverse qs []).1 = ms at e1 gl
  generalize (uldP ps.reverse qs []).2 = rs at e2 gk
  have N4 : News h₀ L h4 ((u, listOf #[] n3) :: (k, listOf (iv rs).toArray n4) :: (lm, listOf (iv ms).toArray n5) :: (c2, o2) :: (c1, o1) :: (la, listOf (iv ps).toArray n1) :: (lb, listOf (iv qs).toArray n2) :: R) := fun p hp => by
    rcases List.mem_cons.mp hp with rfl | hp
    · exact ⟨gu, zu.2⟩
    rcases List.mem_cons.mp hp with rfl | hp
    · exact ⟨gk, zk.2⟩
    rcases List.mem_cons.mp hp with rfl | hp
    · exact ⟨gl, hlL⟩
    have zp := N p (.tail _ (.tail _ hp))
    refine ⟨K4 _ _ ?_ zp.1, zp.2⟩
    simp only [List.mem_cons, List.not_mem_nil, or_false, not_or]
    exact ⟨zp.2.1, Nat.ne_of_lt (l2 p hp), Nat.ne_of_lt (l3 p (.tail _ hp))⟩
  clear F N Nuk zu zk z1 z2
  (try dsimp only); (try k_fold)
  walk_at "om_stepsX"
  rename Fr _ _ _ _ => F
  rename News _ _ _ _ => N
  exact ret _ _ _ _ _ _ _ _ _ _ F N e1 e2
end
-- OmSl
section
open PySem PySem.W PySem.Calls PyProof.Rows
theorem iv_are : ∀ ps : List (Int × Tok), IntsAre (iv ps) (ps.map (·.1))
  | [] => .nil
  | p :: r => .cons p.1 p.2 (iv_are r)
theorem iv_snoc (ds : List (Int × Tok)) (v : Int) (t : Tok) : iv (ds ++ [(v, t)]) = iv ds ++ [.int v t] := by simp [iv]
theorem pin2 {m : Str → Option Value} {x y : Str} {v u : Value} (h : m x = some v) (h' : m y = some u) : m = fun z => if z = x then some v else if z = y then some u else m z := by
  funext z
  by_cases h1 : z = x
  · rw [if_pos h1, h1, h]
  · rw [if_neg h1]
    by_cases h2 : z = y
    · rw [if_pos h2, h2, h']
    · rw [if_neg h2]
theorem pick_from (qs : List (Int × Tok)) (x : Int) (h0 : 0 ≤ x) : kms_pick (iv qs) (some x) none = iv (qs.drop x.toNat) := by
  unfold kms_pick kms_lo kms_hi
  dsimp only
  rw [if_neg (by omega)]
  have e : (iv qs).length = qs.length := by simp
  rw [List.take_of_length_le (by rw [List.length_drop]; omega)]
  rw [e]
  by_cases c : x.toNat ≤ qs.length
  · rw [Nat.min_eq_left c]; exact List.map_drop.symm
  · rw [Nat.min_eq_right (by omega), List.drop_of_length_le (by omega), List.drop_of_length_le (by omega)]; rfl
theorem pick_to (qs : List (Int × Tok)) (y : Int) (h0 : 0 ≤ y) : kms_pick (iv qs) none (some y) = iv (qs.take y.toNat) := by
  unfold kms_pick kms_lo kms_hi
  dsimp only
  rw [if_neg (by omega), List.drop_zero, Nat.sub_zero]
  have e : (iv qs).length = qs.length := by simp
  rw [e]
  by_cases c : y.toNat ≤ qs.length
  · rw [Nat.min_eq_left c]; exact List.map_take.symm
  · rw [Nat.min_eq_right (by omega), List.take_of_length_le (by omega), List.take_of_length_le (by omega)]
theorem pick_run (qs : List (Int × Tok)) (x y : Int) (h0 : 0 ≤ x) (h1 : 0 ≤ y) : kms_pick (iv qs) (some x) (some y) = iv ((qs.drop x.toNat).take (y.toNat - x.toNat)) := by
  unfold kms_pick kms_lo kms_hi
  dsimp only
  rw [if_neg (by omega), if_neg (by omega)]
  have e : (iv qs).length = qs.length := by simp
  rw [e]
  by_cases c : x.toNat ≤ qs.length
  · rw [Nat.min_eq_left c]
    have e2 : iv ((qs.drop x.toNat).take (y.toNat - x.toNat)) = ((iv qs).drop x.toNat).take (y.toNat - x.toNat) := by
      rw [show iv ((qs.drop x.toNat).take (y.toNat - x.toNat)) = (iv (qs.drop x.toNat)).take (y.toNat - x.toNat) from List.map_take]
      rw [show iv (qs.drop x.toNat) = (iv qs).drop x.toNat from List.map_drop]
    rw [e2]
    by_cases d : y.toNat ≤ qs.length
    · rw [Nat.min_eq_left d]
    · rw [List.take_of_length_le (by rw [List.length_drop, e]; omega), List.take_of_length_le (by rw [List.length_drop, e]; omega)]
  · rw [Nat.min_eq_right (by omega : qs.length ≤ x.toNat), List.drop_of_length_le (by rw [e]; exact Nat.le_refl _), List.drop_of_length_le (by omega)]
    simp
theorem lack_succ (a b : List Int) (i : Nat) : lackK a b (i + 1) = lackK a b i ++ (if b.count (a.getD (a.length - 1 - i) 0) < (a.drop (a.length - 1 - i)).count (a.getD (a.length - 1 - i) 0) then [a.getD (a.length - 1 - i) 0] else []) := by
  unfold lackK
  rw [List.range_succ, List.filterMap_append, List.filterMap_cons, List.filterMap_nil]
  split <;> rename_i h <;> split at h <;> rename_i h2 <;> simp_all
theorem spare_succ (a b : List Int) (i : Nat) : spareK a b (i + 1) = spareK a b i ++ (if a.count (b.getD i 0) < (b.take (i + 1)).count (b.getD i 0) then [b.getD i 0] else []) := by
  unfold spareK
  rw [List.range_succ, List.filterMap_append, List.filterMap_cons, List.filterMap_nil]
  split <;> rename_i h <;> split at h <;> rename_i h2 <;> simp_all

section
variable {prog : Program} {w : World} {A : Around} {E : Value → Shared → Prop} {s : Shared} {h₀ : Heap} {L l : Addr} {m : Str → Option Value} {news : List (Addr × Obj)} {value slice : PySem.Expr} {vl vu : Value} {lo hi : Option Int} {Q : Value → Shared → Prop} {qs rs : List (Int × Tok)} {n : Nat}
theorem slice_iv (F : Fr h₀ L s.heap m) (N : News h₀ L s.heap news) (hl : s.heap.get? l = some (listOf (iv qs).toArray n)) (pl : IsPart vl lo) (pu : IsPart vu hi) (e : kms_pick (iv qs) lo hi = iv rs) (hsz : qs.length ≤ 64)
    (h : ∀ h', Fr h₀ L h' m → News h₀ L h' ((s.heap.objs.size + 1, listOf (iv rs).toArray 0) :: news) → Keeps [] s.heap h' → Q (.ref (s.heap.objs.size + 1)) { s with heap := h' })
    (hs : subscripted slice false (.ref l) (.ref s.heap.objs.size) = operate [.ref s.heap.objs.size, .ref l] (getItem (.ref l) (.ref s.heap.objs.size)) := by with_unfolding_all rfl)
    (ht : ∀ r, letTemporaryGo value (.ref l) r = pure () := by intro _; with_unfolding_all rfl) :
    wpAny (model prog w) A (subscriptTail value slice (.ref l) (.ref s.heap.objs.size)) Q E { s with heap := s.heap.push { cls := .type "slice", data := .fields #[vl, vu, .none] } } := by
  refine slice_listK (items := (iv qs).toArray) ⟨_, hl, rfl, n, rfl⟩ pl pu ?_ hs ht (by rw [sizeLine_eq]; simp; omega)
  have ep : slicePick (iv qs).toArray lo hi none = (iv rs).toArray := by rw [kms_pick_eq]; exact congrArg List.toArray e
  rw [ep]
  have N1 := News.push (F.push { cls := .type "slice", data := .fields #[vl, vu, .none] }) (N.grown fun _ _ e => Heap.get?_push_of_some _ e) (listOf (iv rs).toArray 0)
  rw [Heap.size_push] at N1
  exact h _ ((F.push _).push _) N1 fun b o _ e => Heap.get?_push_of_some _ (Heap.get?_push_of_some _ e)
end
end
-- OmT4
section
open PySem PySem.W PySem.Calls PyProof.Rows
theorem t4 {w : World} {p : Program} {loose : List Str} {mean : ExcName → Option Value} {mg mb : Str → Option Value}
    (dp un : Nat) (gd : Option (List Code)) (a0 : Addr) (ccd : Value) (h₀ : Heap) (L c1 c2 : Addr) (m : Str → Option Value) (s : Shared)
    (Q : Flow → Shared → Prop) (E : Value → Shared → Prop) (la lb lm : Addr) (ps qs ms : List (Int × Tok)) (n1 n2 n5 : Nat) (o1 o2 : Obj) (k : Nat) (t : Tok) (R : List (Addr × Obj))
    (F : Fr h₀ L s.heap m) (X : (hd.heap_39 w.params).In h₀) (T : Top p loose mean mg mb h₀) (hd : dp < 380) (hu : un < 600)
    (N : News h₀ L s.heap ((lm, listOf (iv ms).toArray n5) :: (c2, o2) :: (c1, o1) :: (la, listOf (iv ps).toArray n1) :: (lb, listOf (iv qs).toArray n2) :: R)) (ho1 : o1.data = .cell (some (.ref la))) (ho2 : o2.data = .cell (some (.ref lb)))
    (hn : m (Str.ofString "n") = some (.int k t)) (hlm : m (Str.ofString "lacking") = some (.ref lm)) (hp1 : ps.length = k) (hk1 : 1 ≤ k) (hk2 : k ≤ 6)
    (hms : ms.map (·.1) = lackK (ps.map (·.1)) (qs.map (·.1)) k)
    (ret : ∀ (h : Heap) (tk : Nat), Fr h₀ L h m → Keeps [] s.heap h →
      wpAny (model PySem.Challenge.rw_om0012_01.row.prog w) (ktrTop dp un gd (Str.ofString "law") lawScope L a0 ccd [(Str.ofString "other", c2), (Str.ofString "one", c1)] []) (execs (turnBody.drop 9) (envX (Str.ofString "law") lawScope L a0 ccd [(Str.ofString "other", c2), (Str.ofString "one", c1)])) Q E { s with heap := h, toks := tk }) :
    wpAny (model PySem.Challenge.rw_om0012_01.row.prog w) (ktrTop dp un gd (Str.ofString "law") lawScope L a0 ccd [(Str.ofString "other", c2), (Str.ofString "one", c1)] []) (execs (turnBody.drop 8) (envX (Str.ofString "law") lawScope L a0 ccd [(Str.ofString "other", c2), (Str.ofString "one", c1)])) Q E s := by
  have eb : turnBody.drop 8 = turnBody.drop 8 := rfl
  conv at eb => rhs; whnf
  have es : lawScope = lawScope := rfl
  conv at es => rhs; whnf
  rw [eb, es]
  clear eb es
  revert X; k_fill; intro X
  have em := pin2 hlm hn
  rw [em] at F
  (try dsimp only); (try k_fold)
  walk_at "om_steps"
  k_dflt (refine comp_ask (by with_unfolding_all rfl) (by decide) (by rfl) (by decide) (by rfl) (by intro _; rfl) ?_)
  (try dsimp only); (try k_fold)
  walk_at "om_steps"
  rename IsRange _ _ _ _ _ _ _ _ => hR
  rename Fr _ _ _ _ => F
  rename News _ _ _ _ => N
  rename (∀ (b : Addr) (o : Obj), _ = some o → _ = some o) => KR
  (try k_unfold); (try dsimp only at hR KR ⊢)
  refine comp_range (n := k) (fun i h ys => ∃ ds : List (Int × Tok), ys = iv ds ∧ ds.map (·.1) = lackK (ps.map (·.1)) (qs.map (·.1)) i) [] (by rfl) hR ?r1 ?r2 (by omega) (by simp) ?r3 ?r4 ?_ ?_
  case r1 => obtain rfl | rfl | rfl | rfl | rfl | rfl : k = 1 ∨ k = 2 ∨ k = 3 ∨ k = 4 ∨ k = 5 ∨ k = 6 := by omega
             all_goals rfl
  case r2 => obtain rfl | rfl | rfl | rfl | rfl | rfl : k = 1 ∨ k = 2 ∨ k = 3 ∨ k = 4 ∨ k = 5 ∨ k = 6 := by omega
             all_goals rfl
  case r3 => exact fun h _ => ⟨[], rfl, rfl⟩
  case r4 => exact fun i h h' ys j _ => j
  · rintro i ti s₃ m₃ ys hi ⟨h3, tk3, rfl⟩ hsz3 ⟨ds, rfl, hds⟩ hn3 hm3 K3
    refine turn1 fun E' => ?_
    dsimp only at K3 hn3 hsz3 ⊢
    have F3 := K3.fr F (by simp) (by simp)
    have N3 := K3.news N (by simp)
    clear F N
    (try k_fold)
    walk_at "om_steps"
    have z1 := N3 (la, listOf (iv ps).toArray n1) (by simp)
    refine slice_iv F3 N3 z1.1 (.int _ _) .none (pick_from ps _ (by omega)) (by omega) ?_
    intro h4 F4 N4 K4
    dsimp only at K4
    have hn4 := hn3.at' fun o e => K4 _ o (by simp) e
    rename InElt _ _ => cE
    replace cE : InElt h3 h4 := fun b o e => K4 b o (by simp) e
    clear F3 N3 hn3 z1
    (try dsimp only); (try k_fold)
    walk_at "om_steps"
    have z1 := N4 (la, listOf (iv ps).toArray n1) (by simp)
    refine item_anyK ⟨_, z1.1, rfl, _, rfl⟩ (iv_are ps) (by omega) (by rw [List.length_map]; omega) (by omega) ?_
    intro t5
    (try dsimp only); (try k_fold)
    walk_at "om_steps"
    refine count_at (N4 _ (.head _)).1 ?_
    (try dsimp only); (try k_fold)
    walk_at "om_steps"
    refine item_anyK ⟨_, z1.1, rfl, _, rfl⟩ (iv_are ps) (by omega) (by rw [List.length_map]; omega) (by omega) ?_
    intro t6
    (try dsimp only); (try k_fold)
    walk_at "om_steps"
    refine count_at (N4 (lb, listOf (iv qs).toArray n2) (by simp)).1 ?_
    (try dsimp only); (try k_fold)
    walk_at "om_stepsA"
    (try k_unfold); (try dsimp only)
    have ei : ((k : Int) - 1 + (i : Int) * -1).toNat = (ps.map (·.1)).length - 1 - i := by rw [List.length_map]; omega
    have hls := lack_succ (ps.map (·.1)) (qs.map (·.1)) i
    rw [ei, List.map_drop]
    refine ⟨.mk, K4, ?_⟩
    by_cases c : (qs.map (·.1)).count ((ps.map (·.1)).getD ((ps.map (·.1)).length - 1 - i) 0) < ((ps.map (·.1)).drop ((ps.map (·.1)).length - 1 - i)).count ((ps.map (·.1)).getD ((ps.map (·.1)).length - 1 - i) 0)
    · rw [if_pos (decide_eq_true (Int.ofNat_lt.mpr c))]
      (try k_fold)
      walk_at "om_steps"
      refine item_anyK ⟨_, z1.1, rfl, _, rfl⟩ (iv_are ps) (by omega) (by rw [List.length_map]; omega) (by omega) ?_
      intro t7
      rw [ei]
      (try k_unfold); (try dsimp only)
      exact ⟨.mk, .refl _ _, ds ++ [((ps.map (·.1)).getD ((ps.map (·.1)).length - 1 - i) 0, t7)], (iv_snoc ds _ t7).symm, by rw [hls, if_pos c, List.map_append, hds]; rfl⟩
    · rw [if_neg (by simpa using c)]
      exact ⟨ds, rfl, by rw [hls, if_neg c, List.append_nil, hds]⟩
  intro h5 tk5 ys n6 g5 hj K5
  obtain ⟨ds, rfl, hds⟩ := hj
  dsimp only at g5 K5
  have z1 := N (lm, listOf (iv ms).toArray n5) (.head _)
  refine ne_intsK ⟨_, K5 _ _ (by simp) z1.1, rfl, _, rfl⟩ (iv_are ms) ⟨_, g5, rfl, _, rfl⟩ (iv_are ds) (by ktr_units) ?_
  have eD : (!decide (ms.map (·.1) = ds.map (·.1))) = false := by rw [hms, hds]; simp
  rw [eD]
  replace F := K5.fr F (by simp) (by simp)
  clear N g5 eD z1
  (try dsimp only); (try k_fold)
  walk_at "om_stepsX"
  refine wpAny_execs_nil ?_
  (try k_unfold); dsimp only
  rw [← em] at F
  exact ret _ _ F fun b o _ e => K5 b o (by simp) (KR b o e)
end
-- OmT5
section
open PySem PySem.W PySem.Calls PyProof.Rows
theorem t5 {w : World} {p : Program} {loose : List Str} {mean : ExcName → Option Value} {mg mb : Str → Option Value}
    (dp un : Nat) (gd : Option (List Code)) (a0 : Addr) (ccd : Value) (h₀ : Heap) (L c1 c2 : Addr) (m : Str → Option Value) (s : Shared)
    (Q : Flow → Shared → Prop) (E : Value → Shared → Prop) (la lb lm : Addr) (ps qs ms : List (Int × Tok)) (n1 n2 n5 : Nat) (o1 o2 : Obj) (k : Nat) (t : Tok) (R : List (Addr × Obj))
    (F : Fr h₀ L s.heap m) (X : (hd.heap_39 w.params).In h₀) (T : Top p loose mean mg mb h₀) (hd : dp < 380) (hu : un < 600)
    (N : News h₀ L s.heap ((lm, listOf (iv ms).toArray n5) :: (c2, o2) :: (c1, o1) :: (la, listOf (iv ps).toArray n1) :: (lb, listOf (iv qs).toArray n2) :: R)) (ho1 : o1.data = .cell (some (.ref la))) (ho2 : o2.data = .cell (some (.ref lb)))
    (hn : m (Str.ofString "n") = some (.int k t)) (hlm : m (Str.ofString "spare") = some (.ref lm)) (hp1 : qs.length = k) (hk1 : 1 ≤ k) (hk2 : k ≤ 6)
    (hms : ms.map (·.1) = spareK (ps.map (·.1)) (qs.map (·.1)) k)
    (ret : ∀ (h : Heap) (tk : Nat), Fr h₀ L h m → Keeps [] s.heap h →
      wpAny (model PySem.Challenge.rw_om0012_01.row.prog w) (ktrTop dp un gd (Str.ofString "law") lawScope L a0 ccd [(Str.ofString "other", c2), (Str.ofString "one", c1)] []) (execs (turnBody.drop 10) (envX (Str.ofString "law") lawScope L a0 ccd [(Str.ofString "other", c2), (Str.ofString "one", c1)])) Q E { s with heap := h, toks := tk }) :
    wpAny (model PySem.Challenge.rw_om0012_01.row.prog w) (ktrTop dp un gd (Str.ofString "law") lawScope L a0 ccd [(Str.ofString "other", c2), (Str.ofString "one", c1)] []) (execs (turnBody.drop 9) (envX (Str.ofString "law") lawScope L a0 ccd [(Str.ofString "other", c2), (Str.ofString "one", c1)])) Q E s := by
  have eb : turnBody.drop 9 = turnBody.drop 9 := rfl
  conv at eb => rhs; whnf
  have es : lawScope = lawScope := rfl
  conv at es => rhs; whnf
  rw [eb, es]
  clear eb es
  revert X; k_fill; intro X
  have em := pin2 hlm hn
  rw [em] at F
  (try dsimp only); (try k_fold)
  walk_at "om_steps"
  k_dflt (refine comp_ask (by with_unfolding_all rfl) (by decide) (by rfl) (by decide) (by rfl) (by intro _; rfl) ?_)
  (try dsimp only); (try k_fold)
  walk_at "om_steps"
  rename IsRange _ _ _ _ _ _ _ _ => hR
  rename Fr _ _ _ _ => F
  rename News _ _ _ _ => N
  rename (∀ (b : Addr) (o : Obj), _ = some o → _ = some o) => KR
  (try k_unfold); (try dsimp only at hR KR ⊢)
  refine comp_range (n := k) (fun i h ys => ∃ ds : List (Int × Tok), ys = iv ds ∧ ds.map (·.1) = spareK (ps.map (·.1)) (qs.map (·.1)) i) [] (by rfl) hR ?r1 ?r2 (by omega) (by simp) ?r3 ?r4 ?_ ?_
  case r1 => obtain rfl | rfl | rfl | rfl | rfl | rfl : k = 1 ∨ k = 2 ∨ k = 3 ∨ k = 4 ∨ k = 5 ∨ k = 6 := by omega
             all_goals rfl
  case r2 => obtain rfl | rfl | rfl | rfl | rfl | rfl : k = 1 ∨ k = 2 ∨ k = 3 ∨ k = 4 ∨ k = 5 ∨ k = 6 := by omega
             all_goals rfl
  case r3 => exact fun h _ => ⟨[], rfl, rfl⟩
  case r4 => exact fun i h h' ys j _ => j
  · rintro i ti s₃ m₃ ys hi ⟨h3, tk3, rfl⟩ hsz3 ⟨ds, rfl, hds⟩ hn3 hm3 K3
    refine turn1 fun E' => ?_
    dsimp only at K3 hn3 hsz3 ⊢
    have F3 := K3.fr F (by simp) (by simp)
    have N3 := K3.news N (by simp)
    clear F N
    (try k_fold)
    walk_at "om_steps"
    have z1 := N3 (lb, listOf (iv qs).toArray n2) (by simp)
    refine slice_iv F3 N3 z1.1 .none (.int _ _) (pick_to qs _ (by omega)) (by omega) ?_
    intro h4 F4 N4 K4
    dsimp only at K4
    have hn4 := hn3.at' fun o e => K4 _ o (by simp) e
    rename InElt _ _ => cE
    replace cE : InElt h3 h4 := fun b o e => K4 b o (by simp) e
    clear F3 N3 hn3 z1
    (try dsimp only); (try k_fold)
    walk_at "om_steps"
    have z1 := N4 (lb, listOf (iv qs).toArray n2) (by simp)
    refine item_anyK ⟨_, z1.1, rfl, _, rfl⟩ (iv_are qs) (by omega) (by rw [List.length_map]; omega) (by omega) ?_
    intro t5
    (try dsimp only); (try k_fold)
    walk_at "om_steps"
    refine count_at (N4 _ (.head _)).1 ?_
    (try dsimp only); (try k_fold)
    walk_at "om_steps"
    refine item_anyK ⟨_, z1.1, rfl, _, rfl⟩ (iv_are qs) (by omega) (by rw [List.length_map]; omega) (by omega) ?_
    intro t6
    (try dsimp only); (try k_fold)
    walk_at "om_steps"
    refine count_at (N4 (la, listOf (iv ps).toArray n1) (by simp)).1 ?_
    (try dsimp only); (try k_fold)
    walk_at "om_stepsA"
    (try k_unfold); (try dsimp only)
    have ei : ((0 : Int) + (i : Int) * 1).toNat = i := by omega
    have ei1 : ((0 : Int) + (i : Int) * 1 + 1).toNat = i + 1 := by omega
    have hls := spare_succ (ps.map (·.1)) (qs.map (·.1)) i
    rw [ei1, ei, List.map_take]
    refine ⟨.mk, K4, ?_⟩
    by_cases c : (ps.map (·.1)).count ((qs.map (·.1)).getD i 0) < ((qs.map (·.1)).take (i + 1)).count ((qs.map (·.1)).getD i 0)
    · rw [if_pos (decide_eq_true (Int.ofNat_lt.mpr c))]
      (try k_fold)
      walk_at "om_steps"
      refine item_anyK ⟨_, z1.1, rfl, _, rfl⟩ (iv_are qs) (by omega) (by rw [List.length_map]; omega) (by omega) ?_
      intro t7
      rw [ei]
      (try k_unfold); (try dsimp only)
      exact ⟨.mk, .refl _ _, ds ++ [((qs.map (·.1)).getD i 0, t7)], (iv_snoc ds _ t7).symm, by rw [hls, if_pos c, List.map_append, hds]; rfl⟩
    · rw [if_neg (by simpa using c)]
      exact ⟨ds, rfl, by rw [hls, if_neg c, List.append_nil, hds]⟩
  intro h5 tk5 ys n6 g5 hj K5
  obtain ⟨ds, rfl, hds⟩ := hj
  dsimp only at g5 K5
  have z1 := N (lm, listOf (iv ms).toArray n5) (.head _)
  refine ne_intsK ⟨_, K5 _ _ (by simp) z1.1, rfl, _, rfl⟩ (iv_are ms) ⟨_, g5, rfl, _, rfl⟩ (iv_are ds) (by ktr_units) ?_
  have eD : (!decide (ms.map (·.1) = ds.map (·.1))) = false := by rw [hms, hds]; simp
  rw [eD]
  replace F := K5.fr F (by simp) (by simp)
  clear N g5 eD z1
  (try dsimp only); (try k_fold)
  walk_at "om_stepsX"
  refine wpAny_execs_nil ?_
  (try k_unfold); dsimp only
  rw [← em] at F
  exact ret _ _ F fun b o _ e => K5 b o (by simp) (KR b o e)
end
-- OmTE
section
open PySem PySem.W PySem.Calls PyProof.Rows
theorem pin6 {m : Str → Option Value} {x1 x2 x3 x4 x5 x6 : Str} {v1 v2 v3 v4 v5 v6 : Value} (h1 : m x1 = some v1) (h2 : m x2 = some v2) (h3 : m x3 = some v3) (h4 : m x4 = some v4) (h5 : m x5 = some v5) (h6 : m x6 = some v6) :
    m = fun z => if z = x1 then some v1 else if z = x2 then some v2 else if z = x3 then some v3 else if z = x4 then some v4 else if z = x5 then some v5 else if z = x6 then some v6 else m z := by
  funext z
  repeat' split
  all_goals (try (subst_vars; assumption))
  rfl
theorem tEnd {w : World} {p : Program} {loose : List Str} {mean : ExcName → Option Value} {mg mb : Str → Option Value}
    (dp un : Nat) (gd : Option (List Code)) (a0 : Addr) (ccd : Value) (h₀ : Heap) (L c1 c2 : Addr) (m : Str → Option Value) (s : Shared)
    (Q : Flow → Shared → Prop) (E : Value → Shared → Prop) (u kk : Addr) (n3 : Nat) (R : List (Addr × Obj)) (U V : UInt64) (tU tV : Tok) (z : Int) (al : Bool)
    (F : Fr h₀ L s.heap m) (X : (hd.heap_39 w.params).In h₀) (T : Top p loose mean mg mb h₀) (hd : dp < 380) (hu : un < 600)
    (N : News h₀ L s.heap ((u, listOf #[] n3) :: R))
    (hm1 : m (Str.ofString "unlike") = some (.float U tU)) (hm2 : m (Str.ofString "again") = some (.float V tV)) (hm3 : m (Str.ofString "spare") = some (.ref kk)) (hm4 : m (Str.ofString "kept") = some (.ref kk)) (hm5 : m (Str.ofString "used") = some (.ref u)) (hm6 : m (Str.ofString "alike") = some (.bool al))
    (hU : Fx U (3600 * z)) (hV : Fx V (3600 * z)) (hal : al = decide (z = 0))
    (ret : ∀ (h : Heap) (tk : Nat), Fr h₀ L h m → News h₀ L h R → Q .next { s with heap := h, toks := tk }) :
    wpAny (model PySem.Challenge.rw_om0012_01.row.prog w) (ktrTop dp un gd (Str.ofString "law") lawScope L a0 ccd [(Str.ofString "other", c2), (Str.ofString "one", c1)] []) (execs (turnBody.drop 13) (envX (Str.ofString "law") lawScope L a0 ccd [(Str.ofString "other", c2), (Str.ofString "one", c1)])) Q E s := by
  have eb : turnBody.drop 13 = turnBody.drop 13 := rfl
  conv at eb => rhs; whnf
  have es : lawScope = lawScope := rfl
  conv at es => rhs; whnf
  rw [eb, es]
  clear eb es
  revert X; k_fill; intro X
  have em := pin6 hm1 hm2 hm3 hm4 hm5 hm6
  rw [em] at F
  (try dsimp only); (try k_fold)
  walk_at "om_steps"
  refine AutoFloatOps.ne_0 ?_
  have e1 : (Float64.cmp V U != some Ordering.eq) = false := by rw [hV.cmp hU, Int.compare_eq_eq.mpr rfl]; rfl
  rw [e1]
  (try dsimp only); (try k_fold)
  walk_at "om_steps"
  refine eq_fi ?_
  have e2 : (Float64.cmpInt U 0 == some Ordering.eq) = decide (z = 0) := by
    rw [hU.cmpInt]
    by_cases c : z = 0
    · subst c; rfl
    · rw [decide_eq_false c]
      simp only [beq_eq_false_iff_ne, ne_eq, Option.some.injEq]
      intro q
      have := Int.compare_eq_eq.mp q
      omega
  rw [e2, ← hal]
  (try dsimp only); (try k_fold)
  walk_at "om_steps"
  · exfalso
    rename ((al != al) = true) => q
    clear hal
    cases al <;> cases q
  rename News _ _ _ _ => N2
  rename Fr _ _ _ _ => F2
  have y0 := N2 _ (.head _)
  have y1 := N2 _ (.tail _ (.head _))
  refine ne_intsK (vs := []) (us := []) ⟨_, y1.1, rfl, _, rfl⟩ .nil ⟨_, y0.1, rfl, _, rfl⟩ .nil (by ktr_units) ?_
  have e3 : (!decide (([] : List Int) = [])) = false := rfl
  rw [e3]
  clear y0 y1
  (try dsimp only); (try k_fold)
  walk_at "om_stepsX"
  walk1
  (try dsimp only); (try k_fold)
  walk_at "om_stepsX"
  refine wpAny_execs_nil ?_
  (try k_unfold); dsimp only
  refine wpAny_execs_nil ?_
  rename Fr _ _ _ _ => F3
  rename News _ _ _ _ => N3
  rw [← em] at F3
  exact ret _ _ F3 fun p hp => N3 p (.tail _ (.tail _ hp))
end
-- OmT6
section
open PySem PySem.W PySem.Calls PyProof.Rows
theorem pin5 {m : Str → Option Value} {x1 x2 x3 x4 x5 : Str} {v1 v2 v3 v4 v5 : Value} (h1 : m x1 = some v1) (h2 : m x2 = some v2) (h3 : m x3 = some v3) (h4 : m x4 = some v4) (h5 : m x5 = some v5) :
    m = fun z => if z = x1 then some v1 else if z = x2 then some v2 else if z = x3 then some v3 else if z = x4 then some v4 else if z = x5 then some v5 else m z := by
  funext z
  repeat' split
  all_goals (try (subst_vars; assumption))
  rfl
theorem t6 {w : World} {p : Program} {loose : List Str} {mean : ExcName → Option Value} {mg mb : Str → Option Value}
    (dp un : Nat) (gd : Option (List Code)) (a0 : Addr) (ccd : Value) (A₀ : Around) (base h₀ : Heap) (L c1 c2 : Addr) (m : Str → Option Value) (s : Shared)
    (Q : Flow → Shared → Prop) (E : Value → Shared → Prop) (u kk lm : Addr) (ms rs : List (Int × Tok)) (n3 n4 n5 : Nat) (j : Nat) (R : List (Addr × Obj)) (U : UInt64) (tU : Tok) (z : Int)
    (B : Below A₀ base [] h₀) (F : Fr h₀ L s.heap m) (X : (hd.heap_39 w.params).In h₀) (T : Top p loose mean mg mb h₀) (hd : dp < 380) (hu : un < 600)
    (N : News h₀ L s.heap ((u, listOf #[] n3) :: (kk, listOf (iv rs).toArray n4) :: (lm, listOf (iv ms).toArray n5) :: R))
    (hm1 : m (Str.ofString "unlike") = some (.float U tU)) (hm2 : m (Str.ofString "lacking") = some (.ref lm)) (hm3 : m (Str.ofString "spare") = some (.ref kk)) (hm4 : m (Str.ofString "kept") = some (.ref kk)) (hm5 : m (Str.ofString "used") = some (.ref u))
    (hj1 : 1 ≤ j) (hj2 : j ≤ 6) (hp1 : ms.length = j) (hp2 : rs.length = j) (hb1 : Bd (ms.map (·.1))) (hb2 : Bd (rs.map (·.1))) (hU : Fx U (3600 * z)) (hz : Un (ms.map (·.1)) (rs.map (·.1)) = z) (hz0 : z ≠ 0)
    (ret : ∀ (h : Heap) (tk : Nat) (m' : Str → Option Value), Fr h₀ L h m' → News h₀ L h R → m' (Str.ofString "n") = m (Str.ofString "n") → Q .next { s with heap := h, toks := tk }) :
    wpAny (model PySem.Challenge.rw_om0012_01.row.prog w) (ktrTop dp un gd (Str.ofString "law") lawScope L a0 ccd [(Str.ofString "other", c2), (Str.ofString "one", c1)] []) (execs (turnBody.drop 10) (envX (Str.ofString "law") lawScope L a0 ccd [(Str.ofString "other", c2), (Str.ofString "one", c1)])) Q E s := by
  have eb : turnBody.drop 10 = turnBody.drop 10 := rfl
  conv at eb => rhs; whnf
  have es : lawScope = lawScope := rfl
  conv at es => rhs; whnf
  rw [eb, es]
  clear eb es
  revert X; k_fill; intro X
  have em := pin5 hm1 hm2 hm3 hm4 hm5
  rw [em] at F
  (try dsimp only); (try k_fold)
  walk_at "om_steps"
  refine wpAny_Try_except ?_
  (try dsimp only); (try k_fold)
  walk_at "om_steps"
  rename Fr _ _ _ _ => F
  rename News _ _ _ _ => N
  have hla := (N (lm, listOf (iv ms).toArray n5) (by simp)).1
  have hlb := (N (kk, listOf (iv rs).toArray n4) (by simp)).1
  k_dflt (refine' dist_c _ _ _ _ _ _ _ _ _ _ _ _ _ _ _ _ _ lm lm (-1) _ ms ms _ _ B F X T ?c1 ?c2 ?c3 hla hla ?c4 ?c5 ?c6 ?_)
  case c1 => rfl
  case c2 => ktr_room
  case c3 => ktr_units
  case c4 => decide
  case c5 => omega
  case c6 => omega
  intro hA1 tkA1 rA1 ds1 nA1 KA1 frA1 gA1 dA1
  obtain ⟨u1a, u1b, u1c, u1d, u1e⟩ := dm_facts (sg := (-1)) (by decide) (by omega) hj2 hb1 hb1 (by rw [List.length_map]; exact hp1) (by rw [List.length_map]; exact hp1) dA1
  replace F := KA1.fr F (by simp) (by simp)
  replace N := KA1.news N (by simp)
  (try dsimp only at F N)
  clear KA1
  (try dsimp only); (try k_fold)
  walk_at "om_steps"
  rename Fr _ _ _ _ => F
  rename News _ _ _ _ => N
  k_dflt (refine' fmean_c _ _ _ _ _ _ _ _ _ _ _ _ _ _ _ _ _ rA1 ds1 nA1 _ B F X T ?c1 ?c2 ?c3 gA1 u1a u1b u1c u1d u1e ?_)
  case c1 => rfl
  case c2 => ktr_room
  case c3 => ktr_units
  intro hB1 tkB1 x1 tB1 KB1 fx1
  clear frA1 gA1 dA1 u1a u1b u1c u1d hla hlb
  replace F := KB1.fr F (by simp) (by simp)
  replace N := KB1.news N (by simp)
  (try dsimp only at F N)
  clear KB1
  (try dsimp only); (try k_fold)
  walk_at "om_steps"
  rename Fr _ _ _ _ => F
  rename News _ _ _ _ => N
  have hla := (N (lm, listOf (iv ms).toArray n5) (by simp)).1
  have hlb := (N (kk, listOf (iv rs).toArray n4) (by simp)).1
  k_dflt (refine' dist_c _ _ _ _ _ _ _ _ _ _ _ _ _ _ _ _ _ kk kk (-1) _ rs rs _ _ B F X T ?c1 ?c2 ?c3 hlb hlb ?c4 ?c5 ?c6 ?_)
  case c1 => rfl
  case c2 => ktr_room
  case c3 => ktr_units
  case c4 => decide
  case c5 => omega
  case c6 => omega
  intro hA2 tkA2 rA2 ds2 nA2 KA2 frA2 gA2 dA2
  obtain ⟨u2a, u2b, u2c, u2d, u2e⟩ := dm_facts (sg := (-1)) (by decide) (by omega) hj2 hb2 hb2 (by rw [List.length_map]; exact hp2) (by rw [List.length_map]; exact hp2) dA2
  replace F := KA2.fr F (by simp) (by simp)
  replace N := KA2.news N (by simp)
  (try dsimp only at F N)
  clear KA2
  (try dsimp only); (try k_fold)
  walk_at "om_steps"
  rename Fr _ _ _ _ => F
  rename News _ _ _ _ => N
  k_dflt (refine' fmean_c _ _ _ _ _ _ _ _ _ _ _ _ _ _ _ _ _ rA2 ds2 nA2 _ B F X T ?c1 ?c2 ?c3 gA2 u2a u2b u2c u2d u2e ?_)
  case c1 => rfl
  case c2 => ktr_room
  case c3 => ktr_units
  intro hB2 tkB2 x2 tB2 KB2 fx2
  clear frA2 gA2 dA2 u2a u2b u2c u2d hla hlb
  replace F := KB2.fr F (by simp) (by simp)
  replace N := KB2.news N (by simp)
  (try dsimp only at F N)
  clear KB2
  (try dsimp only); (try k_fold)
  walk_at "om_steps"
  rename Fr _ _ _ _ => F
  rename News _ _ _ _ => N
  refine add_float ?_
  (try dsimp only); (try k_fold)
  walk_at "om_steps"
  rename Fr _ _ _ _ => F
  rename News _ _ _ _ => N
  have hla := (N (lm, listOf (iv ms).toArray n5) (by simp)).1
  have hlb := (N (kk, listOf (iv rs).toArray n4) (by simp)).1
  refine len_list (items := (iv ms).toArray) ⟨_, hla, rfl, _, rfl⟩ (by simp; omega) ?_
  have esz1 : (iv ms).toArray.size = j := by simp [hp1]
  have esz2 : (iv rs).toArray.size = j := by simp [hp2]
  rw [esz1]
  (try dsimp only); (try k_fold)
  walk_at "om_steps"
  refine len_list (items := (iv rs).toArray) ⟨_, hlb, rfl, _, rfl⟩ (by simp; omega) ?_
  rw [esz2]
  clear hla hlb
  (try dsimp only); (try k_fold)
  walk_at "om_steps"
  have hla := (N (lm, listOf (iv ms).toArray n5) (by simp)).1
  have hlb := (N (kk, listOf (iv rs).toArray n4) (by simp)).1
  k_dflt (refine' dist_c _ _ _ _ _ _ _ _ _ _ _ _ _ _ _ _ _ lm kk 1 _ ms rs _ _ B F X T ?c1 ?c2 ?c3 hla hlb ?c4 ?c5 ?c6 ?_)
  case c1 => rfl
  case c2 => ktr_room
  case c3 => ktr_units
  case c4 => decide
  case c5 => omega
  case c6 => omega
  intro hA3 tkA3 rA3 ds3 nA3 KA3 frA3 gA3 dA3
  obtain ⟨u3a, u3b, u3c, u3d, u3e⟩ := dm_facts (sg := 1) (by decide) (by omega) hj2 hb1 hb2 (by rw [List.length_map]; exact hp1) (by rw [List.length_map]; exact hp2) dA3
  replace F := KA3.fr F (by simp) (by simp)
  replace N := KA3.news N (by simp)
  (try dsimp only at F N)
  clear KA3
  (try dsimp only); (try k_fold)
  walk_at "om_steps"
  rename Fr _ _ _ _ => F
  rename News _ _ _ _ => N
  k_dflt (refine' fmean_c _ _ _ _ _ _ _ _ _ _ _ _ _ _ _ _ _ rA3 ds3 nA3 _ B F X T ?c1 ?c2 ?c3 gA3 u3a u3b u3c u3d u3e ?_)
  case c1 => rfl
  case c2 => ktr_room
  case c3 => ktr_units
  intro hB3 tkB3 x3 tB3 KB3 fx3
  clear frA3 gA3 dA3 u3a u3b u3c u3d hla hlb
  replace F := KB3.fr F (by simp) (by simp)
  replace N := KB3.news N (by simp)
  (try dsimp only at F N)
  clear KB3
  (try dsimp only); (try k_fold)
  walk_at "om_steps"
  rename Fr _ _ _ _ => F
  rename News _ _ _ _ => N
  refine mul_if_fits (small_int (by decide)) ?_
  (try dsimp only); (try k_fold)
  walk_at "om_steps"
  rename Fr _ _ _ _ => F
  rename News _ _ _ _ => N
  refine add_float ?_
  (try dsimp only); (try k_fold)
  walk_at "om_steps"
  rename Fr _ _ _ _ => F
  rename News _ _ _ _ => N
  refine mul_if_fits (small_int (by have := ksq (k := j) (by omega) hj2; omega)) ?_
  have hV := unlike_fx (by omega) hj2 hb1 hb2 (by rw [List.length_map]; exact hp1) (by rw [List.length_map]; exact hp2) fx1 fx2 fx3
  generalize Float64.mul (Float64.ofInt ((j : Int) * j)) (Float64.add (Float64.mul (Float64.ofInt 2) x3) (Float64.add x1 x2)) = V at hV ⊢
  clear u1e u2e u3e
  rw [hz] at hV
  (try dsimp only); (try k_fold)
  walk_at "om_stepsX"
  refine wpAny_execs_nil ?_
  (try k_unfold); dsimp only
  (try k_fold)
  walk_at "om_stepsX"
  refine wpAny_execs_nil ?_
  (try k_unfold); dsimp only
  (try k_fold)
  walk_at "om_stepsX"
  rename Fr _ _ _ _ => F
  rename News _ _ _ _ => N
  exact tEnd _ _ _ _ _ _ _ _ _ _ _ _ _ u kk n3 _ U V tU _ z false F X T hd hu N rfl rfl rfl rfl rfl rfl hU hV (by simp [hz0]) fun h tk F' N' => ret h tk _ F' (fun p hp => N' p (by simp [hp])) rfl
end
-- OmRx
section
open PySem PySem.W PySem.Calls PyProof.Rows
section
variable {prog : Program} {w : World} {A : Around} {E : Value → Shared → Prop} {s : Shared} {name : Str} {scope : Scope} {L a : Addr} {cd : Value} {cl : List (Str × Addr)} {h₀ : Heap} {m mg : Str → Option Value}
  {x : Str} {C : Addr} {np cpos pos : Pos}
/-- raise of an own class below ValueError, in a frame with cells -/
theorem raise_x {e₀ : PySem.Expr} {Q : Flow → Shared → Prop} (F : Fr h₀ L s.heap m) (hg : h₀.Ns mainGlobals mg) (O : OwnCls x C [.type "ValueError", .type "Exception", .type "BaseException", .type "object"] "ValueError.__new__" mg h₀) (hh : A.handled = none)
    (h : wpAny (model prog w) A (spliced (backTo cpos (starEach [e₀] (envX name scope L a cd cl)))) (fun vs s₂ => vs.length ≤ sizeLine ∧ (∀ b o, h₀.get? b = some o → s₂.heap.get? b = some o) ∧
      ∀ h' e, Heap.MadeExcOf s₂.heap h' e (.ref C) vs → E (.ref e) { s₂ with heap := h' }) E s)
    (he : starEach [e₀] (envX name scope L a cd cl) = [(false, eval e₀ (envX name scope L a cd cl))])
    (hk : scope.kind = .function) (hx : (envX name scope L a cd cl).kindOf x = some .globalImplicit) (hd : (x == ("__debug__" : Str)) = false) :
    wpAny (model prog w) A (exec (.Raise (some (.Call (.Name x np) [e₀] [] cpos)) none pos) (envX name scope L a cd cl)) Q E s := by
  obtain ⟨v1, v2, v3, v4, v5, v6, v7, v8, v9, u1, u2, u3, u4, u5, u6, u7, u8, hC, hN, hni, T⟩ := O.obj
  have FB := PySem.F.excBase_ValueError
  refine wpAny_Raise_call_subT (C := C) (nm := v3) (q := v4) (N := v2) (bs := v5) (bm := v1) (hdct := v6) (sn := v7) (sub := v8) (ab := v9) (col := u1) (dd := u2) (k0 := u3) (k1 := u4) (k2 := u5) (k3 := u6) (k5 := u7) (mN := u8) FB (T.hasType FB.hasBase) hh (by rw [he]; rfl) hni (Calls.Name_function_global hk hx (Calls.loadGlobal_global (env := envX name scope L a cd cl) (hg.keeps F.keep) O.bound ⟨rfl, ?_⟩) hd)
  rw [he] at h ⊢
  exact Calls.evalArgs_plain (wpAny_mono h (fun vs s₂ h₂ => ⟨rfl, h₂.1, h₂.2.1 _ _ hC, hN.keeps h₂.2.1, T.keeps h₂.2.1, h₂.2.2⟩) fun _ _ y => y)
end

theorem frame_fun {base h : Heap} {env : Env} {L : Addr} {o : Obj} {es : Array DictEntry} {n : Nat} {l : List Env} (hk : env.scope.kind = .function) (hf : env.frame = some L) (hb : base.get? L = none) (ho : h.get? L = some o) (hd : o.data = .dict es n) (hl : h.FunFrames base l) : h.FunFrames base (env :: l) :=
  ⟨by rw [hk]; decide, ⟨L, o, hf, hb, ho, fun vs q => by rw [hd] at q; cases q⟩, hl⟩

section
variable {M : Model} {A : Around} {E : Value → Shared → Prop} {s' : Shared} {g h s₀ : Heap} {env₁ env : Env} {L L' e : Addr} {m : Str → Option Value} {cls : Value} {vs : List Value} {Q : Unit → Shared → Prop}
/-- a fresh exception leaves a frame with cells; all but the two frames is kept -/
theorem leave_x (hfr : A.frames = some [env₁, env]) (hf1 : env₁.frame = some L') (hf : env.frame = some L) (hk1 : env₁.scope.kind = .function) (hk : env.scope.kind = .function)
    (F : Fr g L' h m) (hL : ∃ o es n, g.get? L = some o ∧ o.data = .dict es n) (hx : Heap.MadeExcOf h s'.heap e cls vs) (hg : Keeps [] s₀ g)
    (hQ : ∀ h' t, Heap.FlyingW (hideAll s₀ [L]) [env] e cls (.ref t) h' → s₀.UpToSlots h' → Q () { s' with heap := h' }) :
    wpAny M A (leaving env₁ (.ref e)) Q E s' := by
  obtain ⟨o, es, n, hgL, hoL⟩ := hL
  obtain ⟨o1, es1, n1, h1, h1d, _⟩ := F.ns
  have hne : L ≠ L' := fun q => by rw [q] at hgL; exact absurd (Nat.lt_of_lt_of_le (Heap.lt_size hgL) F.above) (Nat.lt_irrefl _)
  have key : ∀ b o, s₀.get? b = some o → h.get? b = some o := fun b o q => F.keep b o (hg b o (by simp) q)
  refine wpAny_leaves_madeW (base := hideAll h [L', L]) hfr hf1 (fun b o q => of_hideAll _ q)
    (frame_fun hk1 hf1 (hideAll_none _ (by simp)) h1 h1d (frame_fun hk hf (hideAll_none _ (by simp)) (F.keep _ _ hgL) hoL trivial)) hx fun h' t x1 x2 x3 x4 => hQ h' t (flyingW_base ?_ x1) ?_
  · intro b o q
    have q1 := of_hideAll _ q
    have hbL : b ≠ L := fun z => by
      rw [z, hideAll_none _ (by simp)] at q; cases q
    refine hideAll_get _ (key b o q1) ?_
    simp only [List.mem_cons, List.not_mem_nil, or_false, not_or]
    refine ⟨fun z => ?_, hbL⟩
    have := hg b o (by simp) q1
    rw [z] at this
    exact absurd (Nat.lt_of_lt_of_le (Heap.lt_size this) F.above) (Nat.lt_irrefl _)
  · exact ((Heap.UpToSlots.of_keeps key).trans (Heap.UpToSlots.of_keeps hx.keeps)).trans x4
end
section
variable {prog : Program} {w : World} {A : Around} {E : Value → Shared → Prop} {s' : Shared} {name : Str} {scope : Scope} {L a e t C : Addr} {cd : Value} {cl : List (Str × Addr)} {h₀ h : Heap} {m mg : Str → Option Value} {news : List (Addr × Obj)}
  {x : Str} {np pos : Pos} {bmB : List Value} {newId : String} {b₀ : Stmt} {suite : List Stmt} {rest : List ExceptHandler} {Q : Flow → Shared → Prop}
/-- an own exception is caught by its own name, in a frame with cells -/
theorem catch_x (hfr : A.frames = some [envX name scope L a cd cl]) (fl : Heap.FlyingW (hideAll h [L]) [envX name scope L a cd cl] e (.ref C) (.ref t) s'.heap) (up : h.UpToSlots s'.heap)
    (F : Fr h₀ L h m) (N : News h₀ L h news) (hg : h₀.Ns mainGlobals mg) (O : OwnCls x C bmB newId mg h₀) (hb : bmB.contains (.type "BaseException") = true)
    (k : ∀ h' E', Fr h₀ L h' m → News h₀ L h' news → wpAny (model prog w) (A.mark (some (.ref e))) (execs (b₀ :: suite) (envX name scope L a cd cl)) Q E' { s' with heap := h' })
    (hk : scope.kind = .function) (hx : (envX name scope L a cd cl).kindOf x = some .globalImplicit) (hd : (x == ("__debug__" : Str)) = false) :
    wpAny (model prog w) A (noteFrame (.ref e) (envX name scope L a cd cl)) (fun _ s₂ => wpAny (model prog w) A (setFlight (.ref e) none) (fun _ s₃ =>
      wpAny (model prog w) A (handleBy (.ref e) (envX name scope L a cd cl) (.ExceptHandler (some (.Name x np)) none (b₀ :: suite) pos :: rest)) Q E s₃) E s₂) E s' := by
  have back : ∀ h', Heap.FlyingW (hideAll h [L]) [envX name scope L a cd cl] e (.ref C) (.ref t) h' → h.UpToSlots h' → Fr h₀ L h' m ∧ News h₀ L h' news := fun h' fl' up' => by
    refine ⟨⟨up'.ns F.ns, fun b o q => fl'.1 b o (hideAll_get _ (F.keep b o q) ?_), F.above⟩, fun p hp => ⟨fl'.1 _ _ (hideAll_get _ (N p hp).1 ?_), (N p hp).2⟩⟩
    · intro z
      rw [List.mem_singleton.mp z] at q
      exact absurd (Nat.lt_of_lt_of_le (Heap.lt_size q) F.above) (Nat.lt_irrefl _)
    · exact fun z => (N p hp).2.1 (List.mem_singleton.mp z)
  refine wpAny_looks_onW hfr rfl fl fun h₄ held₄ up₄ => ?_
  refine wpAny_landsW held₄ fun h₅ fl₅ up₅ => ?_
  obtain ⟨F₅, _⟩ := back h₅ fl₅ ((up.trans up₄).trans up₅)
  obtain ⟨ob, hob, hobc⟩ := fl₅.there
  obtain ⟨v1, v2, v3, v4, v5, v6, v7, v8, v9, u1, u2, u3, u4, u5, u6, u7, u8, hC, hN, hni, T⟩ := (O.keeps F₅.keep).obj
  refine wpAny_handleBy_cons (codeAny_handlers_test (Calls.Name_function_global hk hx (Calls.loadGlobal_global (env := envX name scope L a cd cl) (hg.keeps F₅.keep) O.bound ?_) hd)) (by intro q; cases q)
  refine wpAny_excMatches_sub_self hC hob hobc (T.hasType hb) (codeAny_handlers_suite ?_)
  refine lands_againW fl₅ fun h₆ fl₆ up₆ => ?_
  obtain ⟨F₆, N₆⟩ := back h₆ fl₆ (((up.trans up₄).trans up₅).trans up₆)
  exact k h₆ _ F₆ N₆
end
end
-- OmFe
section
open PySem PySem.W PySem.Calls PyProof.Rows
theorem fmean_e {w : World} {p : Program} {loose : List Str} {mean : ExcName → Option Value} {mg mb : Str → Option Value}
    (dp un : Nat) (gd : Option (List Code)) (cn : Str) (cs : Scope) (a0 : Addr) (ccd : Value) (cl : List (Str × Addr)) (A₀ : Around) (base h₀ : Heap) (L : Addr) (m : Str → Option Value) (s : Shared)
    (Q E : Value → Shared → Prop) (l : Addr) (n : Nat)
    (B : Below A₀ base [] h₀) (F : Fr h₀ L s.heap m) (X : (hd.heap_39 w.params).In h₀) (T : Top p loose mean mg mb h₀) (hk : cs.kind = .function) (hd : dp < 390) (hu : un < 700)
    (hl : s.heap.get? l = some (listOf #[] n))
    (ret : ∀ h' tk' e t, Heap.FlyingW (hideAll s.heap [L]) [envX cn cs L a0 ccd cl] e (.ref 52) (.ref t) h' → s.heap.UpToSlots h' → E (.ref e) { s with heap := h', toks := tk' }) :
    wpAny (model PySem.Challenge.rw_om0012_01.row.prog w) (ktrTop dp un gd cn cs L a0 ccd cl []) (call (.ref 63) [.ref l]) Q E s := by
  revert X; k_fill; intro X
  have N : News h₀ L s.heap [] := News.nil
  refine wpAny_call ?_
  k_dflt (refine' enter_defC (binds := [(Str.ofString "data", .ref l), (Str.ofString "weights", .none)]) ?k1 ?k2 ?k3 ?k4 ?k5 ?kA ?kF ?kK ?k6 ?k7 ?k8 ?k9 ?kB ?kD ?_ ?c2 ?c3 ?c4; walk_at "om_enterC")
  intro g L' h' tk' cells KG F' N' Y B' X' T' l'
  k_cells Y
  (try simp only [List.cons_append, List.nil_append] at N')
  obtain ⟨oL, _, _, hLs, hLd, _⟩ := F.ns
  clear N B X T F
  (try dsimp only); (try k_fold)
  walk_at "om_steps"
  have hg : g.get? l = some (listOf #[] n) := KG l _ (by simp) hl
  refine wpAny_Try_except ?_
  (try dsimp only); (try k_fold)
  walk_at "om_steps"
  refine len_list (items := #[]) ⟨_, F'.keep _ _ hg, rfl, n, rfl⟩ (by decide) ?_
  have e0 : (((#[] : Array Value).size : Nat) : Int) = 0 := rfl
  rw [e0]
  (try dsimp only); (try k_fold)
  walk_at "om_steps"
  rename Fr _ _ _ _ => F1
  rename News _ _ _ _ => N1
  refine fsum_list (ps := []) (n := n) (by rfl) (F1.keep _ _ hg) (by decide) (by simp) fun h2 tk2 x2 t2 K2 hx2 => ?_
  dsimp only at K2
  have F2 := K2.fr F1 (by simp) (by simp)
  have N2 := K2.news N1 (by simp)
  clear F1 N1
  (try dsimp only); (try k_fold)
  walk_at "om_stepsR"
  k_dflt (refine' raise_x (C := 52) ?kF (topRead_of T').g (own_of_in X' (topRead_of T') ?k1 ?k2) ?k3 ?_ ?k4 ?k5 ?k6 ?k7)
  case kF => k_asm
  case k1 => k_is
  case k2 => k_exc
  case k3 => rfl
  case k4 => rfl
  case k5 => rfl
  case k6 => rfl
  case k7 => decide
  (try dsimp only); (try k_fold)
  walk_at "om_stepsA"
  (try k_unfold); (try dsimp only)
  rename Fr _ _ _ _ => F3
  refine ⟨by rw [sizeLine_eq, List.length_singleton]; decide, F3.keep, ?_⟩
  intro h4 e hx
  (try k_unfold); (try dsimp only at hx ⊢)
  refine leave_x (L := L) (L' := L') rfl rfl rfl rfl hk F3 ⟨oL, _, _, KG _ _ (by simp) hLs, hLd⟩ hx KG ?_
  intro h5 t5 fl up
  exact ret h5 _ e t5 fl up
end
-- OmT7
section
open PySem PySem.W PySem.Calls PyProof.Rows
theorem t7 {w : World} {p : Program} {loose : List Str} {mean : ExcName → Option Value} {mg mb : Str → Option Value}
    (dp un : Nat) (gd : Option (List Code)) (a0 : Addr) (ccd : Value) (A₀ : Around) (base h₀ : Heap) (L c1 c2 : Addr) (m : Str → Option Value) (s : Shared)
    (Q : Flow → Shared → Prop) (E : Value → Shared → Prop) (u kk lm : Addr) (n3 n4 n5 : Nat) (R : List (Addr × Obj)) (U : UInt64) (tU : Tok) 
    (B : Below A₀ base [] h₀) (F : Fr h₀ L s.heap m) (X : (hd.heap_39 w.params).In h₀) (T : Top p loose mean mg mb h₀) (hd : dp < 380) (hu : un < 600)
    (N : News h₀ L s.heap ((u, listOf #[] n3) :: (kk, listOf (iv []).toArray n4) :: (lm, listOf (iv []).toArray n5) :: R))
    (hm1 : m (Str.ofString "unlike") = some (.float U tU)) (hm2 : m (Str.ofString "lacking") = some (.ref lm)) (hm3 : m (Str.ofString "spare") = some (.ref kk)) (hm4 : m (Str.ofString "kept") = some (.ref kk)) (hm5 : m (Str.ofString "used") = some (.ref u))
    (hU : Fx U (3600 * 0))
    (ret : ∀ (h : Heap) (tk : Nat) (m' : Str → Option Value), Fr h₀ L h m' → News h₀ L h R → m' (Str.ofString "n") = m (Str.ofString "n") → Q .next { s with heap := h, toks := tk }) :
    wpAny (model PySem.Challenge.rw_om0012_01.row.prog w) (ktrTop dp un gd (Str.ofString "law") lawScope L a0 ccd [(Str.ofString "other", c2), (Str.ofString "one", c1)] []) (execs (turnBody.drop 10) (envX (Str.ofString "law") lawScope L a0 ccd [(Str.ofString "other", c2), (Str.ofString "one", c1)])) Q E s := by
  have eb : turnBody.drop 10 = turnBody.drop 10 := rfl
  conv at eb => rhs; whnf
  have es : lawScope = lawScope := rfl
  conv at es => rhs; whnf
  rw [eb, es]
  clear eb es
  revert X; k_fill; intro X
  have em := pin5 hm1 hm2 hm3 hm4 hm5
  rw [em] at F
  (try dsimp only); (try k_fold)
  walk_at "om_steps"
  refine wpAny_Try_except ?_
  (try dsimp only); (try k_fold)
  walk_at "om_steps"
  rename Fr _ _ _ _ => F
  rename News _ _ _ _ => N
  have hla := (N (lm, listOf (iv []).toArray n5) (by simp)).1
  have hlb := (N (kk, listOf (iv []).toArray n4) (by simp)).1
  k_dflt (refine' dist_c _ _ _ _ _ _ _ _ _ _ _ _ _ _ _ _ _ lm lm (-1) _ [] [] _ _ B F X T ?c1 ?c2 ?c3 hla hla ?c4 ?c5 ?c6 ?_)
  case c1 => rfl
  case c2 => ktr_room
  case c3 => ktr_units
  case c4 => decide
  case c5 => decide
  case c6 => decide
  intro hA1 tkA1 rA1 ds1 nA1 KA1 frA1 gA1 dA1
  have ed : ds1 = [] := List.map_eq_nil_iff.mp dA1
  rw [ed] at gA1
  replace F := KA1.fr F (by simp) (by simp)
  replace N := KA1.news N (by simp)
  (try dsimp only at F N)
  clear KA1
  (try dsimp only); (try k_fold)
  walk_at "om_steps"
  rename Fr _ _ _ _ => F
  rename News _ _ _ _ => N
  k_dflt (refine' fmean_e _ _ _ _ _ _ _ _ _ _ _ _ _ _ _ _ rA1 nA1 B F X T ?c1 ?c2 ?c3 gA1 ?_)
  case c1 => rfl
  case c2 => ktr_room
  case c3 => ktr_units
  intro h5 tk5 e te fl up
  (try k_unfold); (try dsimp only at fl up ⊢)
  k_dflt (refine' catch_x (C := 52) (bmB := [.type "ValueError", .type "Exception", .type "BaseException", .type "object"]) (newId := "ValueError.__new__") ?q0 fl up F N (topRead_of T).g (own_of_in X (topRead_of T) ?q1 ?q2) ?q3 ?_ ?q4 ?q5 ?q6)
  case q0 => rfl
  case q1 => k_is
  case q2 => k_exc
  case q3 => rfl
  case q4 => rfl
  case q5 => rfl
  case q6 => decide
  intro h6 E6 F6 N6
  clear F N fl up gA1 frA1 dA1 hla hlb
  refine wpAny_execs_cons ?_
  (try dsimp only); (try k_fold)
  walk_at "om_stepsX"
  refine wpAny_execs_nil ?_
  (try k_unfold); dsimp only
  (try k_fold)
  walk_at "om_stepsX"
  rename Fr _ _ _ _ => F
  rename News _ _ _ _ => N
  exact tEnd _ _ _ _ _ _ _ _ _ _ _ _ _ u kk n3 _ U U tU tU 0 true F X T hd hu N rfl rfl rfl rfl rfl rfl hU hU rfl fun h tk F' N' => ret h tk _ F' (fun p hp => N' p (by simp [hp])) rfl
end
-- OmTurn
section
open PySem PySem.W PySem.Calls PyProof.Rows
/-- one turn of the law's loop -/
theorem turn_ok {w : World} {p : Program} {loose : List Str} {mean : ExcName → Option Value} {mg mb : Str → Option Value}
    (dp un : Nat) (gd : Option (List Code)) (a0 : Addr) (ccd : Value) (A₀ : Around) (base h₀ : Heap) (L c1 c2 : Addr) (m : Str → Option Value) (s : Shared)
    (Q : Flow → Shared → Prop) (E : Value → Shared → Prop) (la lb : Addr) (ps qs : List (Int × Tok)) (n1 n2 : Nat) (o1 o2 : Obj) (k : Nat) (t : Tok)
    (B : Below A₀ base [] h₀) (F : Fr h₀ L s.heap m) (X : (hd.heap_39 w.params).In h₀) (T : Top p loose mean mg mb h₀) (hd : dp < 380) (hu : un < 600)
    (rest : List (Addr × Obj)) (N : News h₀ L s.heap ((c2, o2) :: (c1, o1) :: (la, listOf (iv ps).toArray n1) :: (lb, listOf (iv qs).toArray n2) :: rest)) (ho1 : o1.data = .cell (some (.ref la))) (ho2 : o2.data = .cell (some (.ref lb)))
    (hn : m (Str.ofString "n") = some (.int k t)) (hk1 : 2 ≤ k) (hk2 : k ≤ 6) (hp1 : ps.length = k) (hp2 : qs.length = k) (hb1 : Bd (ps.map (·.1))) (hb2 : Bd (qs.map (·.1)))
    (hT1 : Str.ofString "ValueError" ∉ loose) (hT2 : Str.ofString "ValueError" ∉ (recsOf p).map (·.name)) (hT3 : Str.ofString "ValueError" ∉ (litsOf p).map (·.1)) (hT4 : Str.ofString "ValueError" ∉ (clssOf p loose).map (·.name))
    (ret : ∀ (h : Heap) (tk : Nat) (m' : Str → Option Value), Fr h₀ L h m' → News h₀ L h ((c2, o2) :: (c1, o1) :: rest) → m' (Str.ofString "n") = some (.int k t) → Q .next { s with heap := h, toks := tk }) :
    wpAny (model PySem.Challenge.rw_om0012_01.row.prog w) (ktrTop dp un gd (Str.ofString "law") lawScope L a0 ccd [(Str.ofString "other", c2), (Str.ofString "one", c1)] []) (execs turnBody (envX (Str.ofString "law") lawScope L a0 ccd [(Str.ofString "other", c2), (Str.ofString "one", c1)])) Q E s := by
  refine t1 dp un gd a0 ccd A₀ base h₀ L c1 c2 m s Q E la lb ps qs n1 n2 o1 o2 k t B F X T hd hu rest N ho1 ho2 hn hk1 hk2 hp1 hp2 hb1 hb2 ?_
  intro h tk m1 S bs val R U tU F1 N1 hRest hfresh hPv hvm hU hS hUm hn1 _
  have lx : (ps.map (·.1)).length = k := by rw [List.length_map]; exact hp1
  have ly : (qs.map (·.1)).length = k := by rw [List.length_map]; exact hp2
  refine t2 dp un gd a0 ccd A₀ base h₀ L c1 c2 m1 _ Q E S bs val (ps.map (·.1)) (qs.map (·.1)) ((c2, o2) :: (c1, o1) :: (la, listOf (iv ps).toArray n1) :: (lb, listOf (iv qs).toArray n2) :: R) U tU B F1 X T hd hu N1 hfresh
    (fun h' hh => hPv h' fun p hp => hh p (.tail _ (.tail _ (.tail _ (.tail _ hp))))) hvm hU hb1 hb2 (lx.trans ly.symm) (by omega) (by omega) hS hUm ?_
  intro h2 tk2 o2' F2 N2 eZ
  refine t3 dp un gd a0 ccd h₀ L c1 c2 _ _ Q E la lb ps qs n1 n2 o1 o2 R F2 X T hd hu N2 ho1 ho2 (by omega) (by omega) hT1 hT2 hT3 hT4 ?_
  intro h3 tk3 u kk lm n3 n4 n5 ms rs F3 N3 e1 e2
  obtain ⟨f1, f2, f3, f4, f5, f6, f7⟩ := lack_facts (lx.trans ly.symm) e1 e2
  rw [ul_lack, lx] at e1
  rw [ul_spare, ly] at e2
  refine t4 dp un gd a0 ccd h₀ L c1 c2 _ _ Q E la lb lm ps qs ms n1 n2 n5 o1 o2 k t R F3 X T hd hu (fun p hp => N3 p (.tail _ (.tail _ hp))) ho1 ho2 hn1 rfl hp1 (by omega) hk2 e1 ?_
  intro h4 tk4 F4 K4
  have N4 := K4.news N3 (by simp)
  refine t5 dp un gd a0 ccd h₀ L c1 c2 _ _ Q E la lb kk ps qs rs n1 n2 n4 o1 o2 k t R F4 X T hd hu (fun p hp => N4 p (by
    rcases List.mem_cons.mp hp with rfl | hp
    · exact .tail _ (.head _)
    · exact .tail _ (.tail _ (.tail _ hp)))) ho1 ho2 hn1 rfl hp2 (by omega) hk2 e2 ?_
  intro h5 tk5 F5 K5
  have N5 := K5.news N4 (by simp)
  have fin : ∀ (h : Heap) (tk : Nat) (m' : Str → Option Value), Fr h₀ L h m' → News h₀ L h ((c2, o2) :: (c1, o1) :: (la, listOf (iv ps).toArray n1) :: (lb, listOf (iv qs).toArray n2) :: R) → m' (Str.ofString "n") = some (.int k t) → Q .next { s with heap := h, toks := tk } := fun h tk m' F' N' e => by
    refine ret h tk m' F' (fun p hp => N' p ?_) e
    rcases List.mem_cons.mp hp with rfl | hp
    · exact .head _
    rcases List.mem_cons.mp hp with rfl | hp
    · exact .tail _ (.head _)
    exact .tail _ (.tail _ (.tail _ (.tail _ (hRest p hp))))
  by_cases c : ms = []
  · subst c
    have er : rs = [] := by
      apply List.length_eq_zero_iff.mp
      simpa using f1.symm
    subst er
    have z0 := f3 rfl
    rw [z0] at hU
    exact t7 dp un gd a0 ccd A₀ base h₀ L c1 c2 _ _ Q E u kk lm n3 n4 n5 _ U tU B F5 X T hd hu N5 hUm rfl rfl rfl rfl hU fun h tk m' F' N' e => fin h tk m' F' N' (e.trans hn1)
  · have hpos : 1 ≤ ms.length := List.length_pos_iff.mpr c
    have hz0 : Un (ps.map (·.1)) (qs.map (·.1)) ≠ 0 := fun z => c (List.map_eq_nil_iff.mp (f4 (eZ z)))
    have g1 : rs.length = ms.length := by simpa using f1.symm
    have g7 : ms.length ≤ k := by rw [List.length_map] at f7; omega
    exact t6 dp un gd a0 ccd A₀ base h₀ L c1 c2 _ _ Q E u kk lm ms rs n3 n4 n5 ms.length _ U tU _ B F5 X T hd hu N5 hUm rfl rfl rfl rfl hpos (by omega) rfl g1 (fun v hv => hb1 v (f5 v hv)) (fun v hv => hb2 v (f6 v hv)) hU f2 hz0 fun h tk m' F' N' e => fin h tk m' F' N' (e.trans hn1)
end
-- OmAc
section
open PySem PySem.W PySem.Calls PyProof.Rows
theorem paired_iv {f : Int → Int} : ∀ {ps : List (Int × Tok)} {ys : List Value}, Paired (fun v y => ∀ a t, v = Value.int a t → ∃ t', y = Value.int (f a) t') (iv ps) ys → ∃ ds : List (Int × Tok), ys = iv ds ∧ ds.map (·.1) = (ps.map (·.1)).map f
  | [], _, .nil => ⟨[], rfl, rfl⟩
  | p :: r, _, .cons h t => by
    obtain ⟨ds, rfl, e⟩ := paired_iv (ps := r) t
    obtain ⟨t', rfl⟩ := h p.1 p.2 rfl
    exact ⟨(f p.1, t') :: ds, rfl, by simp [e]⟩
section
variable {prog : Program} {w : World} {A : Around} {E : Value → Shared → Prop} {s : Shared} {env : Env} {h₀ : Heap} {L : Addr}
/-- y = [elt for x in a list of ints], each element an int of its item alone -/
theorem assign_comp {elt iter : PySem.Expr} {x y : Str} {px py : Pos} {scope : Scope} {cl : List (Str × Addr)} {pos spos : Pos} {Q : Flow → Shared → Prop} (f : Int → Int)
    (hsw : swapsWith (.ListComp elt [⟨.Name x px, iter, [], 0⟩] scope pos) (some (.Name y py)) spos.line env = pure true) (hL : env.locals = L)
    (hh : A.handled = none) (hclos : closureFor scope env = pure cl) (hcell : ∀ z ∈ scope.names, z.2 ≠ .cell) (hkind : scope.kind = .function)
    (hnames : ∀ z ∈ scope.names, z.2 = .local → scope.names.lookup z.1 = some .local) (hx : scope.names.lookup x = some .local)
    (hy : env.kindOf y = some .local) (hp : (env.scope.kind == .class || (env.scope.kind == .module && env.locals != env.globals)) = false)
    (hs : ∀ x, foldedSetIterable iter env x = pure x)
    (h : wpAny (model prog w) A (eval iter env) (fun xv s₁ => ∃ ax, ∃ ps : List (Int × Tok), ∃ n m news, xv = .ref ax ∧ s₁.heap.get? ax = some (listOf (iv ps).toArray n) ∧ ps.length ≤ 64 ∧ Fr h₀ L s₁.heap m ∧ News h₀ L s₁.heap news ∧
      (∀ C a ta s₂ m₂ E', s₂.heap.Ns C m₂ → m₂ x = some (.int a ta) → (∀ b o, s₁.heap.get? b = some o → s₂.heap.get? b = some o) →
        wpAny (model prog w) A (eval elt (compEnvC scope cl C env)) (fun v s₃ => (∃ t, v = .int (f a) t) ∧ PySem.Keeps s₂ s₃) E' s₂) ∧
      (∀ D (ds : List (Int × Tok)) n' h' tk, Fr h₀ L h' (fun z => if z = y then some (.ref D) else m z) → News h₀ L h' ((D, listOf (iv ds).toArray n') :: news) → ds.map (·.1) = (ps.map (·.1)).map f → Q .next { s₁ with heap := h', toks := tk })) E s) :
    wpAny (model prog w) A (exec (.Assign [.Name y py] (.ListComp elt [⟨.Name x px, iter, [], 0⟩] scope pos) spos) env) Q E s := by
  subst hL
  refine wpAny_Assign_ListComp_free (fun _ => true) (fun v y => ∀ a t, v = Value.int a t → ∃ t', y = Value.int (f a) t') hsw hclos hcell hkind hnames hx hy hp (wpAny_mono h (fun xv s₁ h₁ => ?_) fun _ _ e => e) hs
  obtain ⟨ax, ps, n, m, news, rfl, hl, hsz, F, N, helt, hQ⟩ := h₁
  have hlt : @LT.lt Nat _ ax s₁.heap.objs.size := Heap.lt_size hl
  have hl' : s₁.heap.IsList ax (iv ps).toArray := ⟨_, hl, rfl, n, rfl⟩
  have off : ∀ b o, s₁.heap.get? b = some o → b ∉ [s₁.heap.objs.size] := fun b o e hm => Nat.lt_irrefl _ (List.mem_singleton.mp hm ▸ Heap.lt_size e)
  refine wpAny_pyIter_list hl' ⟨s₁.heap.objs.size, [s₁.heap.objs.size, ax], [s₁.heap.objs.size], (iv ps).toArray.size, _, _, m, rfl, Walks.list hh _ _ (Nat.ne_of_lt hlt) (iv ps).toArray, (by rw [sizeLine_eq]; simp; omega), ⟨⟨_, Heap.get?_push_size _ rfl, rfl, rfl⟩, hl'.push _⟩, ?_, ?_, F.ns.push _, ⟨?_, ?_⟩, ?_⟩
  · intro b hb
    dsimp only
    rw [Heap.size_push]
    rcases List.mem_cons.mp hb with rfl | hb
    · exact Nat.lt_succ_self _
    · rw [List.mem_singleton.mp hb]
      exact Nat.lt_succ_of_lt hlt
  · intro hm
    exact absurd (List.mem_singleton.mp hm ▸ F.ns.lt) (Nat.lt_irrefl _)
  · intro C i v s₃ m₃ E' _ _ _ _ _ _
    rw [List.forIn_nil]
    exact wpAny_pure ⟨rfl, s₃.heap, s₃.toks, rfl, fun _ _ e => e⟩
  · intro C i v s₃ m₃ E' _ hP _ hn hm hk _
    have hP' : (iv ps)[i]? = some v := by simpa using hP
    obtain ⟨q, _, rfl⟩ : ∃ q ∈ ps, Value.int q.1 q.2 = v := List.mem_map.mp (List.mem_of_getElem? hP')
    refine wpAny_mono (helt C q.1 q.2 s₃ m₃ E' hn hm fun b o e => hk b o (off b o e) (Heap.get?_push_of_some _ e)) (fun y s₄ h₄ => ⟨fun a t e => ?_, h₄.2⟩) fun _ _ e => e
    injection e with e1 e2
    rw [← e1]
    exact h₄.1
  · intro D h' tk ys vs hD _ hpl hlv hPv hF hns hk
    have ev : vs = iv ps := by
      apply List.ext_getElem?
      intro j
      cases q : vs[j]? with
      | some v => simpa using (hPv j v q).symm
      | none =>
        have := List.getElem?_eq_none_iff.mp q
        rw [hlv] at this
        exact (List.getElem?_eq_none (by simpa using this)).symm
    have ef : vs.filter (fun _ => true) = iv ps := by rw [ev]; simp
    rw [ef] at hF
    obtain ⟨ds, eys, hds⟩ := paired_iv hF
    obtain ⟨n', hn'⟩ := hpl
    have eya : ys = (iv ds).toArray := by rw [← eys]
    rw [eya] at hn'
    have fresh : ∀ b o, s₁.heap.get? b = some o → b ≠ D := fun b o e q => by
      have := Heap.get?_push_of_some { cls := .type "list_iterator", data := .fields #[.ref ax, .int 0 0] } e
      rw [q] at this
      exact absurd (this.symm.trans hD) (by simp)
    obtain ⟨oL, _, _, hoL, _⟩ := F.ns
    refine hQ D ds n' h' tk ⟨hns, fun b o e => hk b o (fun q => ?_) (off b o (F.keep b o e)) (Heap.get?_push_of_some _ (F.keep b o e)), F.above⟩ (fun p hp => ?_) hds
    · rw [q] at e
      exact absurd (Nat.lt_of_lt_of_le (Heap.lt_size e) F.above) (Nat.lt_irrefl _)
    · rcases List.mem_cons.mp hp with rfl | hp
      · refine ⟨hn', fun q => fresh _ _ hoL q.symm, ?_⟩
        cases q : h₀.get? D with
        | none => rfl
        | some o => exact absurd rfl (fresh _ _ (F.keep _ _ q))
      · exact ⟨hk _ _ (N p hp).2.1 (off _ _ (N p hp).1) (Heap.get?_push_of_some _ (N p hp).1), (N p hp).2⟩
end
end
-- OmLaw1
section
open PySem PySem.W PySem.Calls PyProof.Rows
section
variable {prog : Program} {w : World} {A : Around} {E : Value → Shared → Prop} {s : Shared} {h₀ : Heap} {L l : Addr} {m : Str → Option Value} {news : List (Addr × Obj)} {value slice : PySem.Expr} {vl vu : Value} {lo hi : Option Int} {Q : Value → Shared → Prop} {qs rs : List (Int × Tok)}
theorem slice_is (F : Fr h₀ L s.heap m) (N : News h₀ L s.heap news) (hl : s.heap.IsList l (iv qs).toArray) (pl : IsPart vl lo) (pu : IsPart vu hi) (e : kms_pick (iv qs) lo hi = iv rs) (hsz : qs.length ≤ 64)
    (h : ∀ h', Fr h₀ L h' m → News h₀ L h' ((s.heap.objs.size + 1, listOf (iv rs).toArray 0) :: news) → Keeps [] s.heap h' → Q (.ref (s.heap.objs.size + 1)) { s with heap := h' })
    (hs : subscripted slice false (.ref l) (.ref s.heap.objs.size) = operate [.ref s.heap.objs.size, .ref l] (getItem (.ref l) (.ref s.heap.objs.size)) := by with_unfolding_all rfl)
    (ht : ∀ r, letTemporaryGo value (.ref l) r = pure () := by intro _; with_unfolding_all rfl) :
    wpAny (model prog w) A (subscriptTail value slice (.ref l) (.ref s.heap.objs.size)) Q E { s with heap := s.heap.push { cls := .type "slice", data := .fields #[vl, vu, .none] } } := by
  refine slice_listK (items := (iv qs).toArray) hl pl pu ?_ hs ht (by rw [sizeLine_eq]; simp; omega)
  have ep : slicePick (iv qs).toArray lo hi none = (iv rs).toArray := by rw [kms_pick_eq]; exact congrArg List.toArray e
  rw [ep]
  have N1 := News.push (F.push { cls := .type "slice", data := .fields #[vl, vu, .none] }) (N.grown fun _ _ e => Heap.get?_push_of_some _ e) (listOf (iv rs).toArray 0)
  rw [Heap.size_push] at N1
  exact h _ ((F.push _).push _) N1 fun b o _ e => Heap.get?_push_of_some _ (Heap.get?_push_of_some _ e)
end
theorem ints_iv {vs : List Value} {ns : List Int} (h : IntsAre vs ns) : ∃ ps : List (Int × Tok), vs = iv ps ∧ ps.map (·.1) = ns := by
  induction h with
  | nil => exact ⟨[], rfl, rfl⟩
  | cons n t _ ih =>
    obtain ⟨ps, rfl, rfl⟩ := ih
    exact ⟨(n, t) :: ps, rfl, rfl⟩
def red (a : Int) : Int := if -2 ^ Int.toNat 20 < a ∧ a < 2 ^ Int.toNat 20 then a else a.fmod (2 ^ Int.toNat 20)
theorem red_bd (a : Int) : -1048576 ≤ red a ∧ red a ≤ 1048576 := by
  have e : (2 : Int) ^ Int.toNat 20 = 1048576 := rfl
  unfold red
  rw [e]
  split
  · omega
  · have h1 := Int.fmod_nonneg_of_pos a (b := 1048576) (by decide)
    have h2 := Int.fmod_lt_of_pos a (b := 1048576) (by decide)
    omega
theorem mod3_bd (a : Int) : -1048576 ≤ a.fmod 3 ∧ a.fmod 3 ≤ 1048576 := by
  have h1 := Int.fmod_nonneg_of_pos a (b := 3) (by decide)
  have h2 := Int.fmod_lt_of_pos a (b := 3) (by decide)
  omega
theorem law1 {w : World} {p : Program} {loose : List Str} {mean : ExcName → Option Value} {mg mb : Str → Option Value}
    (dp un : Nat) (gd : Option (List Code)) (a0 : Addr) (ccd : Value) (A₀ : Around) (base h₀ : Heap) (L c1 c2 : Addr) (m : Str → Option Value) (s : Shared)
    (Q : Flow → Shared → Prop) (E : Value → Shared → Prop) (l : Addr) (ps : List (Int × Tok)) (o1 o2 : Obj) (R : List (Addr × Obj))
    (B : Below A₀ base [] h₀) (F : Fr h₀ L s.heap m) (X : (hd.heap_39 w.params).In h₀) (T : Top p loose mean mg mb h₀) (hd : dp < 380) (hu : un < 600)
    (N : News h₀ L s.heap ((c2, o2) :: (c1, o1) :: R)) (hs : m (Str.ofString "script") = some (.ref l)) (hl : h₀.IsList l (iv ps).toArray) (hlen : ps.length ≤ 63)
    (ret : ∀ (h : Heap) (tk : Nat) (m' : Str → Option Value) (D : Addr) (ds : List (Int × Tok)) (nD k : Nat) (t : Tok), Fr h₀ L h m' → News h₀ L h ((D, listOf (iv ds).toArray nD) :: (c2, o2) :: (c1, o1) :: R) → Bd (ds.map (·.1)) → 2 ≤ k → k ≤ 6 → 2 * k ≤ ds.length → ds.length ≤ 12 →
      m' (Str.ofString "numbers") = some (.ref D) → m' (Str.ofString "n") = some (.int k t) →
      wpAny (model PySem.Challenge.rw_om0012_01.row.prog w) (ktrTop dp un gd (Str.ofString "law") lawScope L a0 ccd [(Str.ofString "other", c2), (Str.ofString "one", c1)] []) (execs (lawBody.drop 2) (envX (Str.ofString "law") lawScope L a0 ccd [(Str.ofString "other", c2), (Str.ofString "one", c1)])) Q E { s with heap := h, toks := tk }) :
    wpAny (model PySem.Challenge.rw_om0012_01.row.prog w) (ktrTop dp un gd (Str.ofString "law") lawScope L a0 ccd [(Str.ofString "other", c2), (Str.ofString "one", c1)] []) (execs lawBody (envX (Str.ofString "law") lawScope L a0 ccd [(Str.ofString "other", c2), (Str.ofString "one", c1)])) Q E s := by
  have eb : lawBody = lawBody := rfl
  conv at eb => rhs; whnf
  have es : lawScope = lawScope := rfl
  conv at es => rhs; whnf
  rw [eb, es]
  clear eb es
  revert X; k_fill; intro X
  rw [pin hs] at F
  (try dsimp only); (try k_fold)
  walk_at "om_stepsS"
  k_dflt (refine' assign_comp (h₀ := h₀) (L := L) red ?g1 ?g2 ?g3 ?g4 ?g5 ?g6 ?g7 ?g8 ?g9 ?g10 ?g11 ?_)
  case g1 => with_unfolding_all rfl
  case g2 => rfl
  case g3 => rfl
  case g4 => with_unfolding_all rfl
  case g5 => decide
  case g6 => rfl
  case g7 => decide
  case g8 => rfl
  case g9 => rfl
  case g10 => rfl
  case g11 => intro _; rfl
  (try dsimp only); (try k_fold)
  walk_at "om_steps"
  refine slice_is F N (hl.at fun o e => F.keep _ o e) .none (.int _ _) (pick_to ps _ (by decide)) (by omega) ?_
  intro h2 F2 N2 K2
  clear F N
  (try dsimp only); (try k_fold)
  walk_at "om_steps"
  rename Fr _ _ _ _ => F
  rename News _ _ _ _ => N
  (try k_unfold); (try dsimp only)
  have y0 := N _ (.head _)
  have y1 := N _ (.tail _ (.head _))
  dsimp only at y0 y1
  refine add_lists F N ⟨_, y1.1, rfl, _, rfl⟩ ⟨_, y0.1, rfl, _, rfl⟩ ?_ (by rw [sizeLine_eq]; simp; omega)
  intro h3 F3 N3
  clear y0 y1 N F
  (try k_unfold); (try dsimp only)
  have y0 := N3 _ (.head _)
  have e0 : (iv (ps.take 8) ++ [Value.int 2 (s.toks + 1), Value.int 5 (s.toks + 1 + 1), Value.int 2 (s.toks + 1 + 1 + 1), Value.int 9 (s.toks + 1 + 1 + 1 + 1)]) = iv (ps.take 8 ++ [(2, s.toks + 1), (5, s.toks + 1 + 1), (2, s.toks + 1 + 1 + 1), (9, s.toks + 1 + 1 + 1 + 1)]) := by
    rw [show iv (ps.take 8 ++ [(2, s.toks + 1), (5, s.toks + 1 + 1), (2, s.toks + 1 + 1 + 1), (9, s.toks + 1 + 1 + 1 + 1)]) = iv (ps.take 8) ++ iv [(2, s.toks + 1), (5, s.toks + 1 + 1), (2, s.toks + 1 + 1 + 1), (9, s.toks + 1 + 1 + 1 + 1)] from List.map_append]
    rfl
  have y1 := y0.1
  dsimp only at y1
  rw [show Int.toNat 8 = 8 from rfl, e0] at y1
  have N4 : News h₀ L h3 ((c2, o2) :: (c1, o1) :: R) := fun p hp => N3 p (.tail _ (.tail _ (.tail _ hp)))
  clear y0 N3
  refine ⟨_, ps.take 8 ++ [(2, s.toks + 1), (5, s.toks + 1 + 1), (2, s.toks + 1 + 1 + 1), (9, s.toks + 1 + 1 + 1 + 1)], 0, _, _, rfl, y1, ?_, F3, N4, ?_, ?_⟩
  · rw [List.length_append, List.length_take]; simp; omega
  · rintro C a ta s₂ m₂ E' hn2 hm2 hk2
    have F5 : Fr h₀ L s₂.heap _ := F3.keeps hk2
    have N5 : News h₀ L s₂.heap _ := N4.grown hk2
    clear F3 N4
    (try k_fold)
    walk_at "om_stepsA"
    · rename_i q1 q2
      exact ⟨⟨_, by rw [red, if_pos ⟨q1, q2⟩]⟩, _, _, rfl, fun _ _ e => e⟩
    · rename_i q1 q2
      exact ⟨⟨_, by rw [red, if_neg fun z => q2 z.2]⟩, _, _, rfl, fun _ _ e => e⟩
    · rename_i q1
      exact ⟨⟨_, by rw [red, if_neg fun z => q1 z.1]⟩, _, _, rfl, fun _ _ e => e⟩
  intro D ds nD h6 tk6 F6 N6 hds
  (try dsimp only at hds); (try dsimp only); (try k_fold)
  have hbd : Bd (ds.map (·.1)) := by
    intro v hv
    rw [hds] at hv
    obtain ⟨a, _, rfl⟩ := List.mem_map.mp hv
    exact red_bd a
  have hle : ds.length = (ps.take 8).length + 4 := by
    have := congrArg List.length hds
    simpa using this
  have hl1 : 4 ≤ ds.length := by omega
  have hl2 : ds.length ≤ 12 := by rw [hle, List.length_take]; omega
  clear hds hle y1 e0 F3 N4 K2
  walk_at "om_steps"
  have y2 := N6 _ (.head _)
  refine len_list (items := (iv ds).toArray) ⟨_, y2.1, rfl, _, rfl⟩ (by simp; omega) ?_
  have esz : (iv ds).toArray.size = ds.length := by simp
  rw [esz]
  (try dsimp only); (try k_fold)
  walk_at "om_stepsX"
  rename Fr _ _ _ _ => F
  rename News _ _ _ _ => N
  have ek : ((ds.length : Nat) : Int).fdiv 2 = ((ds.length / 2 : Nat) : Int) := by
    rw [Int.fdiv_eq_ediv_of_nonneg _ (by decide)]; rfl
  rw [ek] at F
  exact ret _ _ _ D ds nD (ds.length / 2) _ F N hbd (by omega) (by omega) (by omega) hl2 rfl rfl
end
-- OmTn
section
open PySem PySem.W PySem.Calls PyProof.Rows
theorem turn2 {w : World} {p : Program} {loose : List Str} {mean : ExcName → Option Value} {mg mb : Str → Option Value}
    (dp un : Nat) (gd : Option (List Code)) (a0 : Addr) (ccd : Value) (A₀ : Around) (base h₀ : Heap) (L c1 c2 : Addr) (m : Str → Option Value) (s : Shared)
    (Q : Flow → Shared → Prop) (E : Value → Shared → Prop) (Tt la lb : Addr) (nT : Nat) (ps qs : List (Int × Tok)) (n1 n2 : Nat) (o1 o2 : Obj) (k : Nat) (t : Tok)
    (B : Below A₀ base [] h₀) (F : Fr h₀ L s.heap m) (X : (hd.heap_39 w.params).In h₀) (T : Top p loose mean mg mb h₀) (hd : dp < 380) (hu : un < 600)
    (rest : List (Addr × Obj)) (N : News h₀ L s.heap ((c2, o2) :: (c1, o1) :: (Tt, { cls := .type "tuple", data := .seq #[.ref la, .ref lb] nT }) :: (la, listOf (iv ps).toArray n1) :: (lb, listOf (iv qs).toArray n2) :: rest))
    (ho1 : ∃ v, o1.data = .cell v) (ho2 : ∃ v, o2.data = .cell v) (hcc : c1 ≠ c2) (hdis : ∀ q ∈ (Tt, { cls := .type "tuple", data := .seq #[.ref la, .ref lb] nT }) :: (la, listOf (iv ps).toArray n1) :: (lb, listOf (iv qs).toArray n2) :: rest, q.1 ≠ c1 ∧ q.1 ≠ c2)
    (hn : m (Str.ofString "n") = some (.int k t)) (hk1 : 2 ≤ k) (hk2 : k ≤ 6) (hp1 : ps.length = k) (hp2 : qs.length = k) (hb1 : Bd (ps.map (·.1))) (hb2 : Bd (qs.map (·.1)))
    (hT1 : Str.ofString "ValueError" ∉ loose) (hT2 : Str.ofString "ValueError" ∉ (recsOf p).map (·.name)) (hT3 : Str.ofString "ValueError" ∉ (litsOf p).map (·.1)) (hT4 : Str.ofString "ValueError" ∉ (clssOf p loose).map (·.name))
    (ret : ∀ (h : Heap) (tk : Nat) (m' : Str → Option Value) (o1' o2' : Obj), Fr h₀ L h m' → News h₀ L h ((c2, o2') :: (c1, o1') :: (Tt, { cls := .type "tuple", data := .seq #[.ref la, .ref lb] nT }) :: (la, listOf (iv ps).toArray n1) :: (lb, listOf (iv qs).toArray n2) :: rest) → (∃ v, o1'.data = .cell v) → (∃ v, o2'.data = .cell v) → m' (Str.ofString "n") = some (.int k t) → Q .next { s with heap := h, toks := tk }) :
    wpAny (model PySem.Challenge.rw_om0012_01.row.prog w) (ktrTop dp un gd (Str.ofString "law") lawScope L a0 ccd [(Str.ofString "other", c2), (Str.ofString "one", c1)] []) (assign turnTarget (envX (Str.ofString "law") lawScope L a0 ccd [(Str.ofString "other", c2), (Str.ofString "one", c1)]) (.ref Tt))
      (fun _ s₃ => wpAny (model PySem.Challenge.rw_om0012_01.row.prog w) (ktrTop dp un gd (Str.ofString "law") lawScope L a0 ccd [(Str.ofString "other", c2), (Str.ofString "one", c1)] []) (execs turnBody (envX (Str.ofString "law") lawScope L a0 ccd [(Str.ofString "other", c2), (Str.ofString "one", c1)])) Q E s₃) E s := by
  have eb : turnTarget = turnTarget := rfl
  conv at eb => rhs; whnf
  rw [eb]
  clear eb
  have z := N _ (.tail _ (.tail _ (.head _)))
  refine unpackN_ F N ⟨_, z.1, rfl, _, rfl⟩ (by rfl) (by rfl) (by rfl) ?_
  intro h2 F2 N2
  dsimp only [assignEach, List.map]
  obtain ⟨v1, hv1⟩ := ho1
  obtain ⟨v2, hv2⟩ := ho2
  have x2 := N2 _ (.head _)
  have x1 := N2 _ (.tail _ (.head _))
  refine assignInOrder_cons (wpAny_assign_Name (wpAny_storeName_cell (c := c1) (by rfl) (by rfl) (by rfl) ⟨o1, x1.1, hv1⟩ fun h3 hc3 hs3 => ?_))
  obtain ⟨o1', g1', d1'⟩ := hc3
  dsimp only at hs3
  have F3 := F2.change hs3 x1.2.1 x1.2.2
  have N3 : News h₀ L h3 ((c2, o2) :: (c1, o1') :: (Tt, { cls := .type "tuple", data := .seq #[.ref la, .ref lb] nT }) :: (la, listOf (iv ps).toArray n1) :: (lb, listOf (iv qs).toArray n2) :: rest) := news_upd1 N2 (.tail _ (.head _)) hs3 g1' (fun q hq => by
    rcases List.mem_cons.mp hq with rfl | hq
    · exact .inr ⟨.head _, Ne.symm hcc⟩
    rcases List.mem_cons.mp hq with rfl | hq
    · exact .inl rfl
    exact .inr ⟨.tail _ (.tail _ hq), (hdis q hq).1⟩)
  have y2 := N3 _ (.head _)
  refine assignInOrder_cons (wpAny_assign_Name (wpAny_storeName_cell (c := c2) (by rfl) (by rfl) (by rfl) ⟨o2, y2.1, hv2⟩ fun h4 hc4 hs4 => ?_))
  obtain ⟨o2', g2', d2'⟩ := hc4
  dsimp only at hs4
  have F4 := F3.change hs4 y2.2.1 y2.2.2
  have N4 : News h₀ L h4 ((c2, o2') :: (c1, o1') :: (Tt, { cls := .type "tuple", data := .seq #[.ref la, .ref lb] nT }) :: (la, listOf (iv ps).toArray n1) :: (lb, listOf (iv qs).toArray n2) :: rest) := news_upd1 N3 (.head _) hs4 g2' (fun q hq => by
    rcases List.mem_cons.mp hq with rfl | hq
    · exact .inl rfl
    rcases List.mem_cons.mp hq with rfl | hq
    · exact .inr ⟨.tail _ (.head _), hcc⟩
    exact .inr ⟨.tail _ (.tail _ hq), (hdis q hq).2⟩)
  refine assignInOrder_nil ?_
  refine turn_ok dp un gd a0 ccd A₀ base h₀ L c1 c2 m _ Q E la lb ps qs n1 n2 o1' o2' k t B F4 X T hd hu ((Tt, { cls := .type "tuple", data := .seq #[.ref la, .ref lb] nT }) :: (la, listOf (iv ps).toArray n1) :: (lb, listOf (iv qs).toArray n2) :: rest) (fun q hq => N4 q ?_) d1' d2' hn hk1 hk2 hp1 hp2 hb1 hb2 hT1 hT2 hT3 hT4 fun h tk m' F' N' e => ret h tk m' o1' o2' F' N' ⟨_, d1'⟩ ⟨_, d2'⟩ e
  rcases List.mem_cons.mp hq with rfl | hq
  · exact .head _
  rcases List.mem_cons.mp hq with rfl | hq
  · exact .tail _ (.head _)
  rcases List.mem_cons.mp hq with rfl | hq
  · exact .tail _ (.tail _ (.tail _ (.head _)))
  rcases List.mem_cons.mp hq with rfl | hq
  · exact .tail _ (.tail _ (.tail _ (.tail _ (.head _))))
  exact .tail _ (.tail _ hq)
end
-- OmLaw2
section
open PySem PySem.W PySem.Calls PyProof.Rows
section
variable {prog : Program} {w : World} {A : Around} {E : Value → Shared → Prop} {s : Shared} {h₀ : Heap} {L l : Addr} {m : Str → Option Value} {news : List (Addr × Obj)} {value slice : PySem.Expr} {vl vu : Value} {lo hi : Option Int} {Q : Value → Shared → Prop} {qs rs : List (Int × Tok)} {n : Nat}
theorem slice_new (F : Fr h₀ L s.heap m) (N : News h₀ L s.heap news) (hl : s.heap.get? l = some (listOf (iv qs).toArray n)) (pl : IsPart vl lo) (pu : IsPart vu hi) (e : kms_pick (iv qs) lo hi = iv rs) (hsz : qs.length ≤ 64)
    (h : ∀ D h', Fr h₀ L h' m → News h₀ L h' ((D, listOf (iv rs).toArray 0) :: news) → (∀ p ∈ news, p.1 < D) → Q (.ref D) { s with heap := h' })
    (hs : subscripted slice false (.ref l) (.ref s.heap.objs.size) = operate [.ref s.heap.objs.size, .ref l] (getItem (.ref l) (.ref s.heap.objs.size)) := by with_unfolding_all rfl)
    (ht : ∀ r, letTemporaryGo value (.ref l) r = pure () := by intro _; with_unfolding_all rfl) :
    wpAny (model prog w) A (subscriptTail value slice (.ref l) (.ref s.heap.objs.size)) Q E { s with heap := s.heap.push { cls := .type "slice", data := .fields #[vl, vu, .none] } } :=
  slice_iv F N hl pl pu e hsz (fun h' F' N' _ => h _ h' F' N' fun p hp => Nat.lt_succ_of_lt (Heap.lt_size (N p hp).1)) hs ht
/-- [x op .. for x in a list of ints], each element an int of its item alone -/
theorem comp_ints {ps : List (Int × Tok)} {elt : PySem.Expr} {x : Str} {scope : Scope} {cl : List (Str × Addr)} {env : Env} (f : Int → Int)
    (hh : A.handled = none) (F : Fr h₀ L s.heap m) (N : News h₀ L s.heap news) (hl : s.heap.get? l = some (listOf (iv ps).toArray n)) (hsz : ps.length ≤ 64)
    (turn : ∀ C a ta s₃ m₃ E', s₃.heap.Ns (compEnvC scope cl C env).locals m₃ → m₃ x = some (.int a ta) → Fr h₀ L s₃.heap m → News h₀ L s₃.heap news →
      wpAny (model prog w) A (eval elt (compEnvC scope cl C env)) (fun y s₅ => Like s₃ s₅ ∧ Keeps [] s₃.heap s₅.heap ∧ ∃ t, y = .int (f a) t) E' s₃)
    (done : ∀ D h' tk ds n', Fr h₀ L h' m → News h₀ L h' ((D, listOf (iv ds).toArray n') :: news) → ds.map (·.1) = (ps.map (·.1)).map f → (∀ p ∈ news, p.1 < D) → Q (.ref D) { s with heap := h', toks := tk }) :
    wpAny (model prog w) A (pyIter (.ref l)) (CompAsk prog w A env scope cl x [] elt Q) E s := by
  have LB := F.ns.lt
  refine comp_list (vs := iv ps) (fun i h ys => ∃ ds : List (Int × Tok), ys = iv ds ∧ ds.map (·.1) = ((ps.take i).map (·.1)).map f) [] hh ⟨_, hl, rfl, _, rfl⟩ (by rw [List.length_map]; omega) (by simp) (by simp) ?_ ?_ ?_ ?_
  · exact fun h _ => ⟨[], rfl, by simp⟩
  · exact fun i h h' ys j _ => j
  · rintro i v s₃ m₃ ys hv ⟨h3, tk3, rfl⟩ hlt ⟨ds, rfl, hds⟩ hn hm K3
    refine turn0 fun E' => ?_
    obtain ⟨q, hq, rfl⟩ : ∃ q, ps[i]? = some q ∧ Value.int q.1 q.2 = v := by
      rw [List.getElem?_map] at hv
      cases e : ps[i]? with
      | none => rw [e] at hv; cases hv
      | some q => rw [e] at hv; exact ⟨q, rfl, Option.some.inj hv⟩
    refine wpAny_mono (turn _ q.1 q.2 _ m₃ E' hn hm (K3.fr F (by simp) (by simp)) (K3.news N (by simp))) (fun y s₅ h₅ => ?_) fun _ _ e => e
    obtain ⟨l5, k5, t, rfl⟩ := h₅
    refine ⟨l5, k5, ds ++ [(f q.1, t)], (iv_snoc ds _ t).symm, ?_⟩
    rw [List.take_add_one, hq]
    simp [hds]
  · rintro h' tk ys n' hg ⟨ds, rfl, hds⟩ K
    rw [List.length_map, List.take_length] at hds
    refine done _ h' tk ds n' (K.fr F (by simp) (by simp)) (fun p hp => ?_) hds fun p hp => Nat.lt_succ_of_lt (Heap.lt_size (N p hp).1)
    rcases List.mem_cons.mp hp with rfl | hp
    · refine ⟨hg, Nat.ne_of_gt (Nat.lt_succ_of_lt LB), Heap.get?_none_of_le (Nat.le_trans F.above (Nat.le_of_lt (Nat.lt_succ_of_lt LB)))⟩
    · exact K.news N (by simp) p hp
end
theorem law2 {w : World} {p : Program} {loose : List Str} {mean : ExcName → Option Value} {mg mb : Str → Option Value}
    (dp un : Nat) (gd : Option (List Code)) (a0 : Addr) (ccd : Value) (A₀ : Around) (base h₀ : Heap) (L c1 c2 : Addr) (m : Str → Option Value) (s : Shared)
    (Q : Flow → Shared → Prop) (D : Addr) (ds : List (Int × Tok)) (nD k : Nat) (t : Tok) (o1 o2 : Obj) (R : List (Addr × Obj))
    (B : Below A₀ base [] h₀) (F : Fr h₀ L s.heap m) (X : (hd.heap_39 w.params).In h₀) (T : Top p loose mean mg mb h₀) (hd : dp < 380) (hu : un < 600)
    (N : News h₀ L s.heap ((D, listOf (iv ds).toArray nD) :: (c2, o2) :: (c1, o1) :: R)) (hbd : Bd (ds.map (·.1))) (hk1 : 2 ≤ k) (hk2 : k ≤ 6) (hk3 : 2 * k ≤ ds.length) (hk4 : ds.length ≤ 12)
    (ho1 : ∃ v, o1.data = .cell v) (ho2 : ∃ v, o2.data = .cell v) (hcc : c1 ≠ c2) (hR : ∀ q ∈ R, q.1 ≠ c1 ∧ q.1 ≠ c2)
    (hT1 : Str.ofString "ValueError" ∉ loose) (hT2 : Str.ofString "ValueError" ∉ (recsOf p).map (·.name)) (hT3 : Str.ofString "ValueError" ∉ (litsOf p).map (·.1)) (hT4 : Str.ofString "ValueError" ∉ (clssOf p loose).map (·.name))
    (hm1 : m (Str.ofString "numbers") = some (.ref D)) (hm2 : m (Str.ofString "n") = some (.int k t))
    (ret : ∀ (h : Heap) (tk : Nat) (m' : Str → Option Value), Fr h₀ L h m' → News h₀ L h R → Q (.ret (.bool true)) { s with heap := h, toks := tk }) :
    wpAny (model PySem.Challenge.rw_om0012_01.row.prog w) (ktrTop dp un gd (Str.ofString "law") lawScope L a0 ccd [(Str.ofString "other", c2), (Str.ofString "one", c1)] []) (execs (lawBody.drop 2) (envX (Str.ofString "law") lawScope L a0 ccd [(Str.ofString "other", c2), (Str.ofString "one", c1)])) Q (fun _ _ => False) s := by
  have eb : lawBody.drop 2 = lawBody.drop 2 := rfl
  conv at eb => rhs; whnf
  have es : lawScope = lawScope := rfl
  conv at es => rhs; whnf
  rw [eb, es]
  clear eb es
  revert X; k_fill; intro X
  have em := pin2 hm1 hm2
  rw [em] at F
  refine wpAny_execs_cons ?_
  refine For_turns (h₀ := h₀) F ?_ (by intro _; rfl) PassesOwn.never
  (try dsimp only); (try k_fold)
  walk_at "om_steps"
  rename Fr _ _ _ _ => F
  rename News _ _ _ _ => N
  have y1 := N (D, listOf (iv ds).toArray nD) (by simp)
  refine slice_new F N y1.1 .none (.int _ _) (pick_to ds _ (by omega)) (by omega) ?_
  intro la h2 F2 N2 l2
  clear F N y1
  rw [show ((k : Int)).toNat = k from rfl] at N2
  (try k_lt l2)
  (try dsimp only); (try k_fold)
  walk_at "om_steps"
  have y1 := N2 (D, listOf (iv ds).toArray nD) (by simp)
  refine slice_new F2 N2 y1.1 (.int _ _) (.int _ _) (pick_run ds _ _ (by omega) (by omega)) (by omega) ?_
  intro lb h3 F3 N3 l3
  clear F2 N2 y1
  rw [show ((2 : Int) * k).toNat - ((k : Int)).toNat = k by omega, show ((k : Int)).toNat = k from rfl] at N3
  (try k_lt l3)
  (try dsimp only); (try k_fold)
  walk_at "om_steps"
  rename Fr _ _ _ _ => F
  rename News _ _ _ _ => N
  rename_i Ta _ lTa
  k_dflt (refine comp_ask (by with_unfolding_all rfl) (by decide) (by rfl) (by decide) (by rfl) (by intro _; rfl) ?_)
  (try dsimp only); (try k_fold)
  walk_at "om_steps"
  have y1 := N (D, listOf (iv ds).toArray nD) (by simp)
  refine slice_new F N y1.1 .none (.int _ _) (pick_to ds _ (by omega)) (by omega) ?_
  intro lc h4 F4 N4 l4
  clear F N y1
  rw [show ((k : Int)).toNat = k from rfl] at N4
  (try k_lt l4)
  (try dsimp only); (try k_fold)
  walk_at "om_steps"
  (try k_unfold); (try dsimp only)
  refine comp_ints (fun a => a.fmod 3) (by rfl) F4 N4 (N4 _ (.head _)).1 (by simp; omega) ?_ ?_
  · rintro C a ta s₃ m₃ E' hn3 hm3 Fb Nb
    clear F4 N4
    (try k_fold)
    walk_at "om_stepsA"
    (try k_unfold); (try dsimp only)
    exact ⟨⟨_, _, rfl⟩, .refl _ _, _, rfl⟩
  intro ld h4' tk4 e4 n4 F N he4 l4'
  clear F4 N4
  (try k_lt l4')
  (try dsimp only); (try k_fold)
  walk_at "om_steps"
  k_dflt (refine comp_ask (by with_unfolding_all rfl) (by decide) (by rfl) (by decide) (by rfl) (by intro _; rfl) ?_)
  (try dsimp only); (try k_fold)
  walk_at "om_steps"
  have y1 := N (D, listOf (iv ds).toArray nD) (by simp)
  refine slice_new F N y1.1 (.int _ _) (.int _ _) (pick_run ds _ _ (by omega) (by omega)) (by omega) ?_
  intro le h5 F5 N5 l5
  clear F N y1
  rw [show ((2 : Int) * k).toNat - ((k : Int)).toNat = k by omega, show ((k : Int)).toNat = k from rfl] at N5
  (try k_lt l5)
  (try dsimp only); (try k_fold)
  walk_at "om_steps"
  (try k_unfold); (try dsimp only)
  refine comp_ints (fun a => a.fmod 3) (by rfl) F5 N5 (N5 _ (.head _)).1 (by simp; omega) ?_ ?_
  · rintro C a ta s₃ m₃ E' hn3 hm3 Fb Nb
    clear F5 N5
    (try k_fold)
    walk_at "om_stepsA"
    (try k_unfold); (try dsimp only)
    exact ⟨⟨_, _, rfl⟩, .refl _ _, _, rfl⟩
  intro lf h5' tk5 e5 n5 F N he5 l5'
  clear F5 N5
  (try k_lt l5')
  (try dsimp only); (try k_fold)
  walk_at "om_steps"
  rename Fr _ _ _ _ => F
  rename News _ _ _ _ => N
  rename_i Tb _ lTb Tc hc lTc
  (try k_unfold); (try dsimp only)
  obtain ⟨W, hW⟩ : ∃ W : List (Addr × Obj), W = (Tc, { cls := .type "tuple", data := .seq #[.ref Ta, .ref Tb] }) :: (Tb, { cls := .type "tuple", data := .seq #[.ref ld, .ref lf] }) :: (lf, listOf (iv e5).toArray n5) :: (ld, listOf (iv e4).toArray n4) :: (Ta, { cls := .type "tuple", data := .seq #[.ref la, .ref lb] }) :: (lb, listOf (iv ((ds.drop k).take k)).toArray 0) :: (la, listOf (iv (ds.take k)).toArray 0) :: R := ⟨_, rfl⟩
  have NW : News h₀ L hc ((c2, o2) :: (c1, o1) :: W) := fun q hq => N q (by
    rw [hW] at hq
    simp only [List.mem_cons] at hq ⊢
    rcases hq with h | h | h | h | h | h | h | h | h | h <;> simp [h])
  have hdisW : ∀ q ∈ W, q.1 ≠ c1 ∧ q.1 ≠ c2 := fun q hq => by
    rw [hW] at hq
    simp only [List.mem_cons] at hq
    obtain ⟨_, _, _, _, _, _, _, _, _, wa, wb, _⟩ := lTc
    obtain ⟨_, _, _, _, _, _, _, _, va, vb, _⟩ := lTb
    obtain ⟨_, _, _, _, _, _, _, ra, rb, _⟩ := l5'
    obtain ⟨_, _, _, _, _, da, db, _⟩ := l4'
    obtain ⟨_, _, _, ta, tb, _⟩ := lTa
    obtain ⟨_, _, ba, bb, _⟩ := l3
    obtain ⟨_, aa, ab, _⟩ := l2
    rcases hq with h | h | h | h | h | h | h | h
    · rw [h]; exact ⟨Nat.ne_of_gt wb, Nat.ne_of_gt wa⟩
    · rw [h]; exact ⟨Nat.ne_of_gt vb, Nat.ne_of_gt va⟩
    · rw [h]; exact ⟨Nat.ne_of_gt rb, Nat.ne_of_gt ra⟩
    · rw [h]; exact ⟨Nat.ne_of_gt db, Nat.ne_of_gt da⟩
    · rw [h]; exact ⟨Nat.ne_of_gt tb, Nat.ne_of_gt ta⟩
    · rw [h]; exact ⟨Nat.ne_of_gt bb, Nat.ne_of_gt ba⟩
    · rw [h]; exact ⟨Nat.ne_of_gt ab, Nat.ne_of_gt aa⟩
    · exact hR q h
  have bTc : (Tc, ({ cls := .type "tuple", data := .seq #[.ref Ta, .ref Tb] } : Obj)) ∈ W := by rw [hW]; simp
  have bTb : (Tb, ({ cls := .type "tuple", data := .seq #[.ref ld, .ref lf] } : Obj)) ∈ W := by rw [hW]; simp
  have blf : (lf, listOf (iv e5).toArray n5) ∈ W := by rw [hW]; simp
  have bld : (ld, listOf (iv e4).toArray n4) ∈ W := by rw [hW]; simp
  have bTa : (Ta, ({ cls := .type "tuple", data := .seq #[.ref la, .ref lb] } : Obj)) ∈ W := by rw [hW]; simp
  have blb : (lb, listOf (iv ((ds.drop k).take k)).toArray 0) ∈ W := by rw [hW]; simp
  have bla : (la, listOf (iv (ds.take k)).toArray 0) ∈ W := by rw [hW]; simp
  have bR : ∀ q ∈ R, q ∈ W := fun q hq => by rw [hW]; simp [hq]
  have b4 : e4.length = k := by
    have := congrArg List.length he4
    rw [List.length_map, List.length_map, List.length_map, List.length_take] at this
    omega
  have b5 : e5.length = k := by
    have := congrArg List.length he5
    rw [List.length_map, List.length_map, List.length_map, List.length_take, List.length_drop] at this
    omega
  have c4 : Bd (e4.map (·.1)) := fun v hv => by
    rw [he4] at hv
    obtain ⟨a, _, rfl⟩ := List.mem_map.mp hv
    exact mod3_bd a
  have c5 : Bd (e5.map (·.1)) := fun v hv => by
    rw [he5] at hv
    obtain ⟨a, _, rfl⟩ := List.mem_map.mp hv
    exact mod3_bd a
  have c1' : Bd ((ds.take k).map (·.1)) := fun v hv => by
    obtain ⟨a, ha, rfl⟩ := List.mem_map.mp hv
    exact hbd _ (List.mem_map_of_mem (List.mem_of_mem_take ha))
  have c2' : Bd (((ds.drop k).take k).map (·.1)) := fun v hv => by
    obtain ⟨a, ha, rfl⟩ := List.mem_map.mp hv
    exact hbd _ (List.mem_map_of_mem (List.mem_of_mem_drop (List.mem_of_mem_take ha)))
  clear N hW lTc lTb l5' l5 l4' l4 lTa l3 l2
  (try k_unfold); (try dsimp only)
  refine for_tuple (vs := [.ref Ta, .ref Tb]) (T := Tc) (oT := { cls := .type "tuple", data := .seq #[.ref Ta, .ref Tb] }) (by rfl) F NW (.tail _ (.tail _ bTc)) rfl rfl
    (fun _ m₁ news₁ => m₁ (Str.ofString "n") = some (.int k t) ∧ ∃ o1 o2, (∃ v, o1.data = .cell v) ∧ (∃ v, o2.data = .cell v) ∧ news₁ = (c2, o2) :: (c1, o1) :: W)
    (by rintro i m₁ n₁ ⟨_, _, _, _, _, rfl⟩; exact .tail _ (.tail _ bTc)) ⟨rfl, o1, o2, ho1, ho2, rfl⟩ ?_ ?_
  · rintro i m₁ news₁ h₁ tk₁ oI hi ⟨hn1, q1, q2, hq1, hq2, rfl⟩ hI F₁ N₁
    dsimp only at hI F₁ N₁
    have hi2 : i = 0 ∨ i = 1 := by
      have : i < 2 := hi
      omega
    rcases hi2 with rfl | rfl
    · show wpAny _ _ (assign _ _ (.ref Ta)) _ _ _
      refine turn2 dp un gd a0 ccd A₀ base h₀ L c1 c2 m₁ _ _ _ Ta la lb 0 (ds.take k) ((ds.drop k).take k) 0 0 q1 q2 k t B F₁ X T hd hu ((hc.objs.size, oI) :: W) (fun q hq => N₁ q ?_) hq1 hq2 hcc (fun q hq => ?_) hn1 hk1 hk2 (by rw [List.length_take]; omega) (by rw [List.length_take, List.length_drop]; omega) c1' c2' hT1 hT2 hT3 hT4 ?_
      · simp only [List.mem_cons] at hq ⊢
        rcases hq with h | h | h | h | h | h | h
        · exact .inr (.inl h)
        · exact .inr (.inr (.inl h))
        · exact .inr (.inr (.inr (h ▸ bTa)))
        · exact .inr (.inr (.inr (h ▸ bla)))
        · exact .inr (.inr (.inr (h ▸ blb)))
        · exact .inl h
        · exact .inr (.inr (.inr h))
      · simp only [List.mem_cons] at hq
        rcases hq with h | h | h | h | h
        · exact hdisW q (h ▸ bTa)
        · exact hdisW q (h ▸ bla)
        · exact hdisW q (h ▸ blb)
        · rw [h]; exact ⟨Ne.symm (hI _ (.tail _ (.head _))), Ne.symm (hI _ (.head _))⟩
        · exact hdisW q h
      · intro h tk m' o1' o2' F' N' hv1 hv2 hn'
        refine ⟨h, tk, m', (c2, o2') :: (c1, o1') :: W, rfl, F', fun q hq => N' q ?_, fun q hq => ?_, hn', o1', o2', hv1, hv2, rfl⟩
        · simp only [List.mem_cons] at hq ⊢
          rcases hq with h | h | h | h
          · exact .inr (.inr (.inr (.inr (.inr (.inl h)))))
          · exact .inl h
          · exact .inr (.inl h)
          · exact .inr (.inr (.inr (.inr (.inr (.inr h)))))
        · simp only [List.mem_cons] at hq
          rcases hq with h | h | h
          · rw [h]; exact hI (c2, q2) (.head _)
          · rw [h]; exact hI (c1, q1) (.tail _ (.head _))
          · exact hI q (.tail _ (.tail _ h))
    · show wpAny _ _ (assign _ _ (.ref Tb)) _ _ _
      refine turn2 dp un gd a0 ccd A₀ base h₀ L c1 c2 m₁ _ _ _ Tb ld lf 0 e4 e5 n4 n5 q1 q2 k t B F₁ X T hd hu ((hc.objs.size, oI) :: W) (fun q hq => N₁ q ?_) hq1 hq2 hcc (fun q hq => ?_) hn1 hk1 hk2 b4 b5 c4 c5 hT1 hT2 hT3 hT4 ?_
      · simp only [List.mem_cons] at hq ⊢
        rcases hq with h | h | h | h | h | h | h
        · exact .inr (.inl h)
        · exact .inr (.inr (.inl h))
        · exact .inr (.inr (.inr (h ▸ bTb)))
        · exact .inr (.inr (.inr (h ▸ bld)))
        · exact .inr (.inr (.inr (h ▸ blf)))
        · exact .inl h
        · exact .inr (.inr (.inr h))
      · simp only [List.mem_cons] at hq
        rcases hq with h | h | h | h | h
        · exact hdisW q (h ▸ bTb)
        · exact hdisW q (h ▸ bld)
        · exact hdisW q (h ▸ blf)
        · rw [h]; exact ⟨Ne.symm (hI _ (.tail _ (.head _))), Ne.symm (hI _ (.head _))⟩
        · exact hdisW q h
      · intro h tk m' o1' o2' F' N' hv1 hv2 hn'
        refine ⟨h, tk, m', (c2, o2') :: (c1, o1') :: W, rfl, F', fun q hq => N' q ?_, fun q hq => ?_, hn', o1', o2', hv1, hv2, rfl⟩
        · simp only [List.mem_cons] at hq ⊢
          rcases hq with h | h | h | h
          · exact .inr (.inr (.inr (.inr (.inr (.inl h)))))
          · exact .inl h
          · exact .inr (.inl h)
          · exact .inr (.inr (.inr (.inr (.inr (.inr h)))))
        · simp only [List.mem_cons] at hq
          rcases hq with h | h | h
          · rw [h]; exact hI (c2, q2) (.head _)
          · rw [h]; exact hI (c1, q1) (.tail _ (.head _))
          · exact hI q (.tail _ (.tail _ h))
  · rintro h₁ tk₁ m₁ news₁ F₁ N₁ ⟨_, q1, q2, _, _, rfl⟩
    dsimp only at F₁ N₁ ⊢
    have N2 : News h₀ L h₁ R := fun q hq => N₁ q (.tail _ (.tail _ (bR q hq)))
    clear N₁ F NW
    (try k_fold)
    walk_at "om_steps"
    (try k_unfold); dsimp only
    rename Fr _ _ _ _ => F3
    rename News _ _ _ _ => N3
    exact ret _ _ _ F3 N3
end
-- OmLawK
section
open PySem PySem.W PySem.Calls PyProof.Rows
theorem law_ok {w : World} {p : Program} {loose : List Str} {mean : ExcName → Option Value} {mg mb : Str → Option Value}
    (dp un : Nat) (gd : Option (List Code)) (a0 : Addr) (ccd : Value) (A₀ : Around) (base h₀ : Heap) (L c1 c2 : Addr) (m : Str → Option Value) (s : Shared)
    (Q : Flow → Shared → Prop) (E : Value → Shared → Prop) (l : Addr) (ps : List (Int × Tok)) (o1 o2 : Obj) (R : List (Addr × Obj))
    (B : Below A₀ base [] h₀) (F : Fr h₀ L s.heap m) (X : (hd.heap_39 w.params).In h₀) (T : Top p loose mean mg mb h₀) (hd : dp < 380) (hu : un < 600)
    (N : News h₀ L s.heap ((c2, o2) :: (c1, o1) :: R)) (hs : m (Str.ofString "script") = some (.ref l)) (hl : h₀.IsList l (iv ps).toArray) (hlen : ps.length ≤ 63)
    (ho1 : ∃ v, o1.data = .cell v) (ho2 : ∃ v, o2.data = .cell v) (hcc : c1 ≠ c2) (hR : ∀ q ∈ R, q.1 ≠ c1 ∧ q.1 ≠ c2)
    (hT1 : Str.ofString "ValueError" ∉ loose) (hT2 : Str.ofString "ValueError" ∉ (recsOf p).map (·.name)) (hT3 : Str.ofString "ValueError" ∉ (litsOf p).map (·.1)) (hT4 : Str.ofString "ValueError" ∉ (clssOf p loose).map (·.name))
    (ret : ∀ (h : Heap) (tk : Nat) (m' : Str → Option Value), Fr h₀ L h m' → News h₀ L h R → Q (.ret (.bool true)) { s with heap := h, toks := tk }) :
    wpAny (model PySem.Challenge.rw_om0012_01.row.prog w) (ktrTop dp un gd (Str.ofString "law") lawScope L a0 ccd [(Str.ofString "other", c2), (Str.ofString "one", c1)] []) (execs lawBody (envX (Str.ofString "law") lawScope L a0 ccd [(Str.ofString "other", c2), (Str.ofString "one", c1)])) Q E s := by
  refine wpAny_mono (law1 dp un gd a0 ccd A₀ base h₀ L c1 c2 m s Q (fun _ _ => False) l ps o1 o2 R B F X T hd hu N hs hl hlen ?_) (fun _ _ x => x) (fun _ _ x => x.elim)
  intro h tk m' D ds nD k t F1 N1 hbd hk1 hk2 hk3 hk4 hm1 hm2
  exact law2 dp un gd a0 ccd A₀ base h₀ L c1 c2 m' _ Q D ds nD k t o1 o2 R B F1 X T hd hu N1 hbd hk1 hk2 hk3 hk4 ho1 ho2 hcc hR hT1 hT2 hT3 hT4 hm1 hm2 fun h' tk' m'' F' N' => ret h' tk' m'' F' N'
end
-- OmTop
section
open PySem PySem.W PySem.Calls PyProof.Rows
theorem top : PySem.Challenge.rw_om0012_01.Holds := hd (by
  k_go0; (try k_fold)
  rename Fr _ _ _ _ => F
  rename News _ _ _ _ => N
  rename Below _ _ _ _ => B
  rename Frag.In _ _ => X
  rename Top _ _ _ _ _ _ => T
  rename IntsAre _ _ => hI
  rename (Heap.IsList _ _ _) => hl
  rename (¬ _ < _) => hc
  rename (Obj.data _ = Data.cell _) => d1
  rename_i d2 _ _ _
  (try k_unfold); (try dsimp only)
  obtain ⟨ps, rfl, eps⟩ := ints_iv hI
  have hlen : ps.length ≤ 63 := by
    have := congrArg List.length eps
    rw [List.length_map] at this
    omega
  refine' law_ok _ _ _ _ _ _ _ _ _ _ _ _ _ _ _ _ ps _ _ [(58, tabObj #[])] B F X T ?a1 ?a2 N ?a3 hl hlen ⟨_, ?a4⟩ ⟨_, ?a5⟩ ?a6 ?a7 ?b1 ?b2 ?b3 ?b4 ?_
  case a1 => decide
  case a2 => decide
  case a3 => rfl
  case a4 => assumption
  case a5 => assumption
  case a6 => exact Nat.ne_of_lt (Nat.lt_succ_self _)
  case a7 =>
    intro q hq
    rw [List.mem_singleton.mp hq]
    rename (58 < _) => h58
    exact ⟨Nat.ne_of_lt (Nat.lt_succ_of_lt h58), Nat.ne_of_lt (Nat.lt_succ_of_lt (Nat.lt_succ_of_lt h58))⟩
  case b1 => decide +kernel
  case b2 => decide +kernel
  case b3 => decide +kernel
  case b4 => decide +kernel
  intro h tk m' F' N'
  clear F N
  (try dsimp only); (try k_fold)
  walk_at "om_steps")
end
end
end Mine
theorem PySem.Challenge.cw_om0012_01_holds : PySem.Challenge.rw_om0012_01.Holds :=
  Mine.top
