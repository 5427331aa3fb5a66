import PyProof.Rows.All
import Wide.All
import OpenK.AllK
import Wide.FinOn
import PySem.Challenge.RW_wk0010_01
open PySem PySem.W PyProof.Rows
set_option Elab.async false
set_option maxRecDepth 100000
set_option compiler.extract_closed false
set_option maxHeartbeats 8000000
def Mine.keep (l : List Stmt) : List Stmt := (l.drop 1).take 1 ++ ((l.drop 3).take 1 ++ ((l.drop 5).take 6 ++ l.drop 12))
def Mine.view : Program := { PySem.Challenge.pw_wk0010_01 with main := { PySem.Challenge.pw_wk0010_01.main with body := Mine.keep PySem.Challenge.pw_wk0010_01.main.body } }
set_option hygiene false
local macro_rules | `(tactic| o_head $H) => `(tactic| (refine holds_open (q := Mine.view) (loose := []) (Xt := fun s => xlAt Mine.view [] s && recOk (RowW.records (OpenRow.toRowW (OpenLaw.row PySem.Challenge.rw_wk0010_01))) s) (XP := XL Mine.view []) (Yf := Hook.obs $H) (Ya := Hook.val $H) (YP := Hook.says $H) (N := 1706) ?hl (Hook.of $H) (Hook.keeps $H) (fun s e => xl_of s (Bool.and_eq_true_iff.mp e).1) XL.keeps (by rfl) (by rfl) (by rfl) (fun s e => recFacts_of (Bool.and_eq_true_iff.mp e).2) (by rfl) (by assumption) (by decide +kernel) ⟨rfl, rfl, rfl, rfl, rfl, by decide +kernel⟩ ?hw ?hc; (case hl => (intro w; unfold openEnds fencedOpening topFrom; rw [PySem.W.Fast.te4187177175401517315, PySem.W.Fast.te5923862056798008813, PySem.W.Fast.te14364793385576792824, PySem.W.Fast.te2368527892694137696, PySem.W.Fast.te14082659384304107361, PySem.W.Fast.te14289696077712309145, PySem.W.Fast.te1435165496053646825]; kernel_rfl))))
set_option hygiene true
namespace Mine
open_top hd for PySem.Challenge.rw_wk0010_01
theorem top_off : True := by
  w_top off
  exact trivial
local macro_rules | `(tactic| omega) => `(tactic| first | with_reducible assumption | with_reducible exact Ne.symm (by assumption) | lia | omega +splitDisjunctions)
section
set_option maxHeartbeats 4000000
def Keeps (ms : List Addr) (h h' : Heap) : Prop := h.objs.size ≤ h'.objs.size ∧ ∀ b o, h.get? b = some o → b ∉ ms → h'.get? b = some o
structure Ok (K : Frag) (p : Program) (loose : List Str) (mean : ExcName → Option Value) (mg mb : Str → Option Value) (B h : Heap) : Prop where
  X : K.In B
  T : Top p loose mean mg mb B
  keep : ∀ b o, B.get? b = some o → h.get? b = some o
def Own (B h : Heap) (l : List (Addr × Obj)) : Prop := ∀ p ∈ l, h.get? p.1 = some p.2 ∧ B.get? p.1 = none
def New (h h' : Heap) (pre new : List (Addr × Obj)) : Prop := ∀ p ∈ new, h'.get? p.1 = some p.2 ∧ (p.1 ∈ pre.map (·.1) ∨ h.get? p.1 = none)
def MyEnd (pre : List (Addr × Obj)) (s : Shared) (g : Heap) (L : Addr) (R : Result → Shared → Prop) (fl : Flow) (s' : Shared) : Prop :=
  ∃ new m', Fr g L s'.heap m' ∧ News g L s'.heap new ∧ (Keeps (pre.map (·.1)) s.heap s'.heap → New s.heap s'.heap pre new → R (.ok (.ret (match fl with | .ret v => v | _ => .none))) s')
theorem MyEnd.intro {pre new : List (Addr × Obj)} {s s' : Shared} {g : Heap} {L : Addr} {R : Result → Shared → Prop} {fl : Flow} {m' : Str → Option Value} (F : Fr g L s'.heap m') (N : News g L s'.heap new)
    (k : Keeps (pre.map (·.1)) s.heap s'.heap → New s.heap s'.heap pre new → R (.ok (.ret (match fl with | .ret v => v | _ => .none))) s') : MyEnd pre s g L R fl s' := ⟨new, m', F, N, k⟩
theorem Keeps.sub {pre : List (Addr × Obj)} {ms : List Addr} {h h' : Heap} {B : Heap} (k : Keeps (pre.map (·.1)) h h') (H : Own B h pre) (x : ∀ p ∈ pre, p.1 ∉ ms → h'.get? p.1 = some p.2) : Keeps ms h h' :=
  ⟨k.1, fun b o e hb => by
    by_cases hm : b ∈ pre.map (·.1)
    · obtain ⟨p, hp, rfl⟩ := List.mem_map.mp hm
      rw [(H p hp).1] at e; cases e
      exact x p hp hb
    · exact k.2 b o e hm⟩
theorem Keeps.refl {ms : List Addr} {h : Heap} : Keeps ms h h := ⟨Nat.le_refl _, fun _ _ e _ => e⟩
theorem Keeps.trans {ms ms' : List Addr} {h h' h'' : Heap} (a : Keeps ms h h') (b : Keeps ms' h' h'') (hs : ∀ x ∈ ms', x ∈ ms ∨ h.get? x = none) : Keeps ms h h'' :=
  ⟨Nat.le_trans a.1 b.1, fun x o e hx => b.2 x o (a.2 x o e hx) fun hm => (hs x hm).elim hx fun q => by rw [q] at e; cases e⟩
theorem Keeps.mono {ms ms' : List Addr} {h h' : Heap} (a : Keeps ms h h') (hs : ∀ x ∈ ms, x ∈ ms') : Keeps ms' h h' := ⟨a.1, fun x o e hx => a.2 x o e fun q => hx (hs x q)⟩
theorem ne_of_get {h : Heap} {a b : Addr} {o o' : Obj} (ha : h.get? a = some o) (hb : h.get? b = some o') (hne : o ≠ o') : a ≠ b := fun e => by rw [e, hb] at ha; exact hne (Option.some.inj ha).symm
theorem ne_of_none {h : Heap} {a b : Addr} {o : Obj} (ha : h.get? a = some o) (hb : h.get? b = none) : a ≠ b := fun e => by rw [e, hb] at ha; cases ha
abbrev Ar (dp un : Nat) (fr : Option (List Env)) (gd : Option (List Code)) : Around := { handled := none, depth := dp, frames := fr, guards := gd, units := un }
theorem cls_ne {o o' : Obj} (h : o.cls ≠ o'.cls) : o ≠ o' := fun e => h (congrArg _ e)
theorem code_ne {h : Heap} {c a : Addr} {q : Str} {o : Obj} (hc : h.CodeRec (.ref c) q) (ho : h.get? a = some o) (hn : ∀ vs t, o.data = .fields vs → vs[1]? ≠ some (.str q t)) : c ≠ a := by
  obtain ⟨c', oc, vs, t, e, hg, hd, hv⟩ := hc
  cases e
  rintro rfl
  rw [ho] at hg; cases hg
  exact hn vs t hd hv
theorem Own.ne {B h : Heap} {l : List (Addr × Obj)} {a b : Addr} {o o' : Obj} (H : Own B h l) (ha : (a, o) ∈ l) (hb : (b, o') ∈ l) (hne : o ≠ o') : a ≠ b := ne_of_get (H _ ha).1 (H _ hb).1 hne
theorem New.get {h h' : Heap} {pre new : List (Addr × Obj)} {a : Addr} {o : Obj} (hn : New h h' pre new) (hm : (a, o) ∈ new) : h'.get? a = some o := (hn _ hm).1
theorem after {g h h' : Heap} {L : Addr} {m : Str → Option Value} {news pre new rest : List (Addr × Obj)} (F : Fr g L h m) (N : News g L h news) (hpre : ∀ p ∈ pre, p ∈ news) (hk : Keeps (pre.map (·.1)) h h') (hn : New h h' pre new)
    (hr : ∀ p ∈ rest, p ∈ news ∧ p.1 ∉ pre.map (·.1)) : Fr g L h' m ∧ News g L h' (new ++ rest) := by
  have nm : ∀ b, b ∈ pre.map (·.1) → b ≠ L ∧ g.get? b = none := fun b hb => by
    obtain ⟨p, hp, rfl⟩ := List.mem_map.mp hb
    exact (N p (hpre p hp)).2
  obtain ⟨oL, es, ep, hL, r⟩ := F.ns
  have hL' : h'.get? L = some oL := hk.2 L oL hL fun q => (nm L q).1 rfl
  refine ⟨⟨⟨oL, es, ep, hL', r⟩, fun b o e => hk.2 b o (F.keep b o e) (fun q => by rw [(nm b q).2] at e; cases e), F.above⟩, fun p hp => ?_⟩
  rcases List.mem_append.mp hp with hp | hp
  · refine ⟨(hn p hp).1, ?_⟩
    rcases (hn p hp).2 with q | q
    · exact nm _ q
    · refine ⟨(fun e => by rw [e, hL] at q; cases q), ?_⟩
      cases z : g.get? p.1 with
      | none => rfl
      | some o => have := F.keep _ _ z; rw [q] at this; cases this
  · exact ⟨hk.2 _ _ (N p (hr p hp).1).1 (hr p hp).2, (N p (hr p hp).1).2⟩
section
variable {prog : Program} {w : World} {A : Around} {s : Shared} {B : Heap} {K : Frag} {p : Program} {loose : List Str} {mean : ExcName → Option Value} {mg mb : Str → Option Value}
  {R : Result → Shared → Prop} {name qual : Str} {params : Arguments} {body : List Stmt} {scope : Scope} {cl : List (Str × Addr)} {dV kV doc pm cdv ct : Value} {an : Option Addr} {fo : Obj} {f : Addr} {args : Args} {binds : List (Str × Value)}
  {pre : List (Addr × Obj)}
theorem enter (O : Ok K p loose mean mg mb B s.heap) (H : Own B s.heap pre)
    (ho : s.heap.get? f = some fo) (hd : fo.data = .func (fnX name qual params body scope cl dV kV doc pm an cdv ct)) (hcd : s.heap.CodeRec cdv qual) (hroom : A.depth < recursionLimit)
    (hbind : BindsTo s (fnX name qual params body scope cl dV kV doc pm an cdv ct) args binds) (hloc : ∀ y ∈ binds, scope.names.lookup y.1 = some .local)
    (h : ∀ g L' h₁, Fr g L' h₁ (fun y => binds.reverse.lookup y) → News g L' h₁ pre → K.In g → Top p loose mean mg mb g → L' = s.heap.objs.size → (∀ p ∈ pre, p.1 < L') →
      wpAny (model prog w) (A.deeper (envX qual scope L' f cdv cl)) (execs body (envX qual scope L' f cdv cl))
        (MyEnd pre s g L' R)
        (fun _ _ => False)
        { s with heap := h₁, toks := s.toks + binds.length })
    (hcell : ∀ x ∈ scope.names, x.2 ≠ .cell) (hco : scope.isCoroutine = false := by rfl) (hgen : scope.isGenerator = false := by rfl) (hk : scope.kind = .function := by rfl) : codeAny (model prog w) A (.call (.ref f) args) R s := by
  have st : ∀ b o, B.get? b = some o → (hideAll s.heap (pre.map (·.1))).get? b = some o := fun b o e => hideAll_get _ (O.keep b o e) (fun q => by
    obtain ⟨p, hp, rfl⟩ := List.mem_map.mp q
    rw [(H p hp).2] at e; cases e)
  refine codeAny_call_def (fd := fnX name qual params body scope cl dV kV doc pm an cdv ct) (body := body) (binds := binds) hroom ho hd (O.T.nolimit.keeps O.keep) hcd rfl hbind hcell hloc (fun h₁ hns hk₁ => ?_) hco hgen hk
  have lt : ∀ p ∈ pre, p.1 < s.heap.objs.size := fun p hp => Heap.lt_size (H p hp).1
  refine wpAny_mono (h (hideAll s.heap (pre.map (·.1))) s.heap.objs.size h₁ ⟨hns, fun b o e => hk₁ b o (of_hideAll _ e), Nat.le_of_eq (hideAll_size _ _)⟩
    (fun p hp => ⟨hk₁ _ _ (H p hp).1, Nat.ne_of_lt (lt p hp), hideAll_none _ (List.mem_map_of_mem hp)⟩) (O.X.keeps st) (O.T.keeps st) rfl lt) (fun fl s' hl => ?_) fun _ _ y => y.elim
  obtain ⟨new, m', F, N, k⟩ := hl
  have hsz : s.heap.objs.size ≤ s'.heap.objs.size := by
    obtain ⟨oL, _, _, hL, _⟩ := F.ns
    exact Nat.le_of_lt (Heap.lt_size hL)
  refine k ⟨hsz, fun b o e hb => F.keep b o (hideAll_get _ e hb)⟩ fun q hq => ⟨(N q hq).1, ?_⟩
  by_cases hm : q.1 ∈ pre.map (·.1)
  · exact .inl hm
  · refine .inr ?_
    cases hq' : s.heap.get? q.1 with
    | none => rfl
    | some o => have := (N q hq).2.2; rw [hideAll_get _ hq' hm] at this; cases this
theorem MyEnd.out {g : Heap} {fl : Flow} {s' : Shared} (hg : g = hideAll s.heap (pre.map (·.1))) (hl : MyEnd pre s g s.heap.objs.size R fl s') : R (.ok (.ret (match (generalizing := false) fl with | .ret v => v | _ => .none))) s' := by
  subst hg
  obtain ⟨new, m', F, N, k⟩ := hl
  have hsz : s.heap.objs.size ≤ s'.heap.objs.size := by
    obtain ⟨oL, _, _, hL, _⟩ := F.ns
    exact Nat.le_of_lt (Heap.lt_size hL)
  refine k ⟨hsz, fun b o e hb => F.keep b o (hideAll_get _ e hb)⟩ fun q hq => ⟨(N q hq).1, ?_⟩
  by_cases hm : q.1 ∈ pre.map (·.1)
  · exact .inl hm
  · refine .inr ?_
    cases hq' : s.heap.get? q.1 with
    | none => rfl
    | some o => have := (N q hq).2.2; rw [hideAll_get _ hq' hm] at this; cases this
theorem stays_hide (O : Ok K p loose mean mg mb B s.heap) (H : Own B s.heap pre) : ∀ b o, B.get? b = some o → (hideAll s.heap (pre.map (·.1))).get? b = some o := fun b o e => hideAll_get _ (O.keep b o e) (fun q => by
    obtain ⟨p, hp, rfl⟩ := List.mem_map.mp q
    rw [(H p hp).2] at e; cases e)
theorem enterLam {body : Expr} {c' : Addr} {ctv : Value} (O : Ok K p loose mean mg mb B s.heap) (H : Own B s.heap pre)
    (ho : s.heap.get? f = some (kla_obj name qual params body scope cl pm c' ctv)) (hcd : s.heap.CodeRec (.ref c') qual) (hroom : A.depth < recursionLimit)
    (hbind : bindArgs (kla_fn name qual params body scope cl pm (.ref c') ctv) args = pure binds) (hloc : ∀ y ∈ binds, scope.names.lookup y.1 = some .local)
    (h : ∀ g L' h₁, Fr g L' h₁ (fun y => binds.reverse.lookup y) → News g L' h₁ pre → K.In g → Top p loose mean mg mb g → L' = s.heap.objs.size → (∀ p ∈ pre, p.1 < L') →
      wpAny (model prog w) (A.deeper (envX qual scope L' f (.ref c') cl)) (eval body (envX qual scope L' f (.ref c') cl))
        (fun v => MyEnd pre s g L' R (.ret v)) (fun _ _ => False)
        { s with heap := h₁, toks := s.toks + binds.length })
    (hcell : ∀ x ∈ scope.names, x.2 ≠ .cell) (hco : scope.isCoroutine = false := by rfl) (hgen : scope.isGenerator = false := by rfl) (hk : scope.kind = .function := by rfl) : codeAny (model prog w) A (.call (.ref f) args) R s := by
  have st := stays_hide O H
  refine kla_callFunE hroom ho rfl hco hgen rfl hcd ?_
  rw [hbind]
  refine wpAny_pure (wpAny_newFunctionEnv hcell hloc (fun h₁ hns hsb => ⟨(O.T.nolimit.keeps O.keep).fresh _ hsb, ?_⟩) hk)
  show codeAny _ _ (.expr body (envX qual scope s.heap.objs.size f (.ref c') cl)) _ _
  have lt : ∀ p ∈ pre, p.1 < s.heap.objs.size := fun p hp => Heap.lt_size (H p hp).1
  have hk₁ : ∀ b o, s.heap.get? b = some o → h₁.get? b = some o := fun b o e => hsb.extBut b o (Nat.ne_of_lt (Heap.lt_size e)) (Heap.get?_push_of_some _ e)
  exact kla_codeExpr (wpAny_mono (h _ s.heap.objs.size h₁ ⟨hns, fun b o e => hk₁ b o (of_hideAll _ e), Nat.le_of_eq (hideAll_size _ _)⟩
    (fun p hp => ⟨hk₁ _ _ (H p hp).1, Nat.ne_of_lt (lt p hp), hideAll_none _ (List.mem_map_of_mem hp)⟩) (O.X.keeps st) (O.T.keeps st) rfl lt) (fun v s' hl => MyEnd.out rfl hl) fun _ _ y => y.elim)
theorem enterC (O : Ok K p loose mean mg mb B s.heap) (H : Own B s.heap pre)
    (ho : s.heap.get? f = some fo) (hd : fo.data = .func (fnX name qual params body scope [] dV kV doc pm an cdv ct)) (hcd : s.heap.CodeRec cdv qual) (hroom : A.depth < recursionLimit)
    (hbind : BindsTo s (fnX name qual params body scope [] dV kV doc pm an cdv ct) args binds)
    (hkind : ∀ n, ∀ x ∈ binds, scope.names.lookup x.1 = some .local ∨ (scope.names.lookup x.1 = some .cell ∧ ((cellsFrom n scope.names []).lookup x.1).isSome = true))
    (hnd : ((cellsFrom 0 scope.names []).map (·.1)).Nodup)
    (h : ∀ g L' h₁ tk cells, Fr g L' h₁ (bindL (envOfC qual scope L' f cdv).kindOf binds fun _ => none) → News g L' h₁ (cells ++ pre) →
      CellsAre (bindC (envOfC qual scope L' f cdv).kindOf binds fun _ => none) (cellsFrom (L' + 1) scope.names []) cells → K.In g → Top p loose mean mg mb g → L' = s.heap.objs.size → (∀ p ∈ pre, p.1 < L') →
      wpAny (model prog w) (A.deeper (envOfC qual scope L' f cdv)) (execs body (envOfC qual scope L' f cdv))
        (MyEnd pre s g L' R) (fun _ _ => False)
        { s with heap := h₁, toks := tk })
    (hco : scope.isCoroutine = false := by rfl) (hgen : scope.isGenerator = false := by rfl) (hk : scope.kind = .function := by rfl) : codeAny (model prog w) A (.call (.ref f) args) R s := by
  have st := stays_hide O H
  refine codeAny_call_function hroom ho hd hco hgen rfl hcd (hbind _ _ _ _ ?_)
  refine wpAny_newFunctionEnv_cells hk (hkind _) fun env' he s' x => ?_
  subst he
  refine ⟨(O.T.nolimit.keeps O.keep).keeps x.toInCall.keep, codeAny_func ?_⟩
  obtain ⟨h₁, tk, rfl, _⟩ := x.done
  have hk₁ := x.toInCall.keep
  have lt : ∀ p ∈ pre, p.1 < s.heap.objs.size := fun p hp => Heap.lt_size (H p hp).1
  obtain ⟨cells, NC, Y⟩ := Cl.news (h₀ := s.heap) (Nat.le_refl _) fun n c hm => ⟨x.cell n c (lookup_of_mem_nodup (cellsFrom_names scope.names 0 (s.heap.objs.size + 1) [] [] rfl ▸ hnd) hm), x.above n c hm⟩
  refine wpAny_mono (h _ s.heap.objs.size h₁ tk cells ⟨x.toInCall.ns, fun b o e => hk₁ b o (of_hideAll _ e), Nat.le_of_eq (hideAll_size _ _)⟩ (fun p hp => ?_) Y (O.X.keeps st) (O.T.keeps st) rfl lt) (fun fl s' hl => MyEnd.out rfl hl) fun _ _ y => y.elim
  rcases List.mem_append.mp hp with hp | hp
  · refine ⟨(NC p hp).1, (NC p hp).2.1, ?_⟩
    cases q : (hideAll s.heap (pre.map (·.1))).get? p.1 with
    | none => rfl
    | some o => have := of_hideAll _ q; rw [(NC p hp).2.2] at this; cases this
  · exact ⟨hk₁ _ _ (H p hp).1, Nat.ne_of_lt (lt p hp), hideAll_none _ (List.mem_map_of_mem hp)⟩
end
end
section
set_option maxHeartbeats 4000000
open PySem.Calls PySem.Builtin
abbrev ciObj (f sent : Value) (b : Bool) : Obj := { cls := .type "callable_iterator", data := .fields #[f, sent, .bool b] }
theorem slot_ci_next : Slot "callable_iterator" "__next__" "callable_iterator.__next__" :=
  .of (owner := "callable_iterator") (n := "__next__") (by rw [typeLookup_type, builtinLookup_eq_fast]; kernel_rfl) (by decide +kernel) (by decide +kernel) (by decide +kernel)
    (by first | exact .inl (by decide +kernel) | exact .inr (by decide +kernel)) (by rw [isSubtype_type]; kernel_rfl)
theorem entry_ci_next : entryFor table "callable_iterator.__next__" = some Builtin.«callable_iterator.__next__» := entryFor_of_tree (by kernel_rfl)
theorem args_ci_next (a : Value) : argsOk "callable_iterator.__next__" ⟨[a], []⟩ := by unfold argsOk; kernel_rfl
section
variable {prog : Program} {w : World} {A : Around} {E : Value → Shared → Prop} {s : Shared}
theorem callBorrowed_any {f : Value} {Q : Value → Shared → Prop}
    (h : codeAny (model prog w) A (.call f ⟨[], []⟩) (fun r s' => match r with | .ok (.ret v) => Q v s' | .ok _ => False | .error e => E e s') s) :
    wpAny (model prog w) A (callBorrowed f []) Q E s := by
  unfold callBorrowed
  refine X.x_call (hd := none) (codeAny_mono h ?_) (by simp)
  intro r s' hr
  match r, hr with
  | .ok (.ret v), hr => exact wpAny_pure hr
  | .ok .next, hr => exact hr.elim
  | .ok .brk, hr => exact hr.elim
  | .ok .cont, hr => exact hr.elim
  | .error e, hr => exact wpAny_throw hr
theorem slotLets_any {who : String} {f : Value} {busy : Code → Bool} {Q : Unit → Shared → Prop} (hb : Looks (model prog w) s.heap (borrowsExactly f) true) (h : Q () s) :
    wpAny (model prog w) A (slotLetsGo who f busy) Q E s := by
  unfold slotLetsGo
  cases f with
  | ref a =>
    refine wpAny_bind (hb _ _ _ _ (fun _ _ e => e) ?_)
    rw [if_pos rfl]
    exact wpAny_pure h
  | _ => exact wpAny_pure h
theorem ci_typeIs {it : Addr} {f sent : Value} {b : Bool} (hit : s.heap.get? it = some (ciObj f sent b)) : s.TypeIs (.ref it) "callable_iterator" := ⟨_, hit, rfl⟩
theorem ci_special {it : Addr} {f sent : Value} {Q : Option Value → Shared → Prop} (hh : A.handled = none) (hit : s.heap.get? it = some (ciObj f sent false))
    (hb : Looks (model prog w) s.heap (borrowsExactly f) true)
    (hcall : codeAny (model prog w) A.in1 (.call f ⟨[], []⟩) (fun r s₁ => ∃ v b, r = .ok (.ret v) ∧ s₁.heap.get? it = some (ciObj f sent false) ∧ MeetsSeq.EqGives sent v b ∧
       (b = false → Q (some v) s₁) ∧ (b = true → Looks (model prog w) s₁.heap (borrowsExactly f) true ∧ ∀ h' e, Heap.ExtBut it s₁.heap h' → h'.get? it = some (ciObj .none .none true) →
          (∃ o, h'.get? e = some o ∧ o.cls = .type "StopIteration") → E (.ref e) {s₁ with heap := h'})) s) :
   wpAny (model prog w) A (callSpecial? (.ref it) "__next__") Q E s := by
  refine wpAny_callSpecial?_slot (name := Str.ofString "__next__") (ci_typeIs hit) slot_ci_next (wpAny_call_entry slot_ci_next (ci_typeIs hit) entry_ci_next ?_ (args_ci_next _))
  show wpAny _ _ (field (.ref it) 2 >>= _) _ _ s
  refine wpAny_bind (wpAny_field hit rfl (x := .bool false) rfl ?_)
  show wpAny _ _ (field (.ref it) 0 >>= _) _ _ s
  refine wpAny_bind (wpAny_field hit rfl (x := f) rfl ?_)
  refine wpAny_bind (wpAny_attempt ?_)
  unfold callOutOfASlot
  refine wpAny_bind (hb _ _ _ _ (fun _ _ e => e) ?_)
  rw [if_pos rfl]
  refine callBorrowed_any (codeAny_mono hcall (fun r s₁ hr => ?_))
  obtain ⟨v, b, rfl, hit₁, heq, h0, h1⟩ := hr
  show wpAny _ _ (field (.ref it) 2 >>= _) _ _ s₁
  refine wpAny_bind (wpAny_field hit₁ rfl (x := .bool false) rfl ?_)
  show wpAny _ _ (field (.ref it) 1 >>= _) _ _ s₁
  refine wpAny_bind (wpAny_field hit₁ rfl (x := sent) rfl ?_)
  refine wpAny_bind (wpAny_holding (heq _ _ _ _ _ _ ?_))
  cases b with
  | false =>
    simp only [Bool.not_false, if_true]
    exact wpAny_pure ⟨_, rfl, h0 rfl⟩
  | true =>
    simp only [Bool.not_true, Bool.false_eq_true, if_false]
    obtain ⟨hb₁, hE⟩ := h1 rfl
    refine wpAny_bind (wpAny_rule ?_)
    refine wpAny_bind ?_
    show wpAny _ _ (field (.ref it) 0 >>= _) _ _ _
    refine wpAny_bind (wpAny_field hit₁ rfl (x := f) rfl ?_)
    refine wpAny_bind ?_
    refine slotLets_any hb₁ ?_
    refine wpAny_bind (wpAny_setField hit₁ rfl (by simp) ?_)
    refine wpAny_bind (wpAny_setField (Heap.get?_update_self _ hit₁ rfl) rfl (by simp) ?_)
    refine wpAny_setField (Heap.get?_update_self _ (Heap.get?_update_self _ hit₁ rfl) rfl) rfl (by simp) ?_
    show wpAny _ _ (newExc (.type "StopIteration") [] >>= _) _ _ _
    refine wpAny_bind ?_
    simp only [newExc, newTuple]
    refine wpAny_bind (wpAny_newObj_type ?_ (by size_fits))
    refine wpAny_bind (m := firstArgMember _ _) (wpAny_of_eq (a := Value.none) (by first | rfl | (simp only [firstArgMember]; rfl)) ?_)
    refine wpAny_newObj_type ?_ (by size_fits)
    simp only [raiseNew]
    refine wpAny_bind (wpAny_handled ?_)
    rw [show A.in1.handled = none from hh]
    refine wpAny_bind (wpAny_pure (wpAny_throw ?_))
    refine hE _ _ ?_ ?_ ⟨_, Heap.get?_push_size _ rfl, rfl⟩
    · refine Heap.ExtBut.push (Heap.ExtBut.push ?_ _) _
      intro b o hb' e
      exact (Heap.SameBut.update ..).extBut b o hb' ((Heap.SameBut.update ..).extBut b o hb' ((Heap.SameBut.update ..).extBut b o hb' e))
    · refine Heap.get?_push_of_some _ (Heap.get?_push_of_some _ ?_)
      exact Heap.get?_update_self _ (Heap.get?_update_self _ (Heap.get?_update_self _ hit₁ rfl) rfl) rfl
end
section
variable {prog : Program} {w : World} {A : Around} {E : Value → Shared → Prop} {s : Shared}
theorem pyNext_ci {it : Addr} {f sent : Value} {Q : Option Value → Shared → Prop} (hh : A.handled = none) (hit : s.heap.get? it = some (ciObj f sent false))
    (hb : Looks (model prog w) s.heap (borrowsExactly f) true)
    (hcall : codeAny (model prog w) A.in1 (.call f ⟨[], []⟩) (fun r s₁ => ∃ v b, r = .ok (.ret v) ∧ s₁.heap.get? it = some (ciObj f sent false) ∧ MeetsSeq.EqGives sent v b ∧
       (b = false → Q (some v) s₁) ∧ (b = true → Looks (model prog w) s₁.heap (borrowsExactly f) true ∧ ∀ h', Heap.ExtBut it s₁.heap h' → h'.get? it = some (ciObj .none .none true) →
          Q none {s₁ with heap := h'})) s) :
   wpAny (model prog w) A (pyNext (.ref it)) Q E s := by
  unfold pyNext
  refine wpAny_bind (wpAny_attempt (ci_special hh hit hb (codeAny_mono hcall fun r s₁ hr => ?_)))
  obtain ⟨v, b, rfl, hit₁, heq, h0, h1⟩ := hr
  refine ⟨v, b, rfl, hit₁, heq, fun hb0 => wpAny_pure (h0 hb0), fun hb1 => ⟨(h1 hb1).1, fun h' e hx hi he => ?_⟩⟩
  obtain ⟨o, ho, hc⟩ := he
  refine wpAny_bind (wpAny_isInstance (T := "StopIteration") (b := true) ⟨o, ho, hc⟩ isSubtype_stop ?_)
  exact wpAny_pure ((h1 hb1).2 h' hx hi)
theorem next_ci {it : Addr} {f sent : Value} {Q : Value → Shared → Prop} (hh : A.handled = none) (hit : s.heap.get? it = some (ciObj f sent false))
    (hb : Looks (model prog w) s.heap (borrowsExactly f) true)
    (hcall : codeAny (model prog w) A.in1.in1 (.call f ⟨[], []⟩) (fun r s₁ => ∃ v, r = .ok (.ret v) ∧ s₁.heap.get? it = some (ciObj f sent false) ∧ MeetsSeq.EqGives sent v false ∧ Q v s₁) s) :
   wpAny (model prog w) A (call (.builtin "next") [.ref it]) Q E s := by
  refine call_function_entry (by decide +kernel) (by decide +kernel) kdk_entry_next (kdk_args_next _) ?_
  unfold Builtin.«next»
  refine wpAny_bind (m := someArgs "next" 1 2 _) (wpAny_of_eq (a := [Value.ref it]) (by first | rfl | kernel_rfl!) ?_)
  dsimp only
  refine wpAny_bind (wpAny_specialOf (name := Str.ofString "__next__") (ci_typeIs hit) slot_ci_next.lookup ?_)
  refine wpAny_ite_split (fun hab => absurd hab (by decide)) (fun _ => ?_)
  refine wpAny_bind (ci_special (A := A.in1) hh hit hb (codeAny_mono hcall fun r s₁ hr => ?_))
  obtain ⟨v, rfl, hit₁, heq, hq⟩ := hr
  exact ⟨v, false, rfl, hit₁, heq, fun _ => wpAny_pure ⟨_, rfl, hq⟩, fun h => by cases h⟩
theorem args_iter2 (a b : Value) : argsOk "iter" ⟨[a, b], []⟩ := by unfold argsOk; kernel_rfl
theorem call_of_function : typeLookup (.type "function") "__call__" = pure (some (.builtin "function.__call__")) := by rw [typeLookup_type, builtinLookup_eq_fast]; kernel_rfl
theorem call_of_method : typeLookup (.type "method") "__call__" = pure (some (.builtin "method.__call__")) := by rw [typeLookup_type, builtinLookup_eq_fast]; kernel_rfl
theorem iter2 {f : Value} {sent : Value} {T : String} {r : Value} {Q : Value → Shared → Prop} (hT : s.TypeIs f T) (hl : typeLookup (.type T) "__call__" = pure (some r))
    (h : Q (.ref s.heap.objs.size) { s with heap := s.heap.push (ciObj f sent false) }) :
    wpAny (model prog w) A (call (.builtin "iter") [f, sent]) Q E s := by
  refine call_function_entry (by decide +kernel) (by decide +kernel) kdk_entry_iter (args_iter2 _ _) ?_
  unfold Builtin.«iter»
  refine wpAny_bind (m := someArgs "iter" 1 2 _) (wpAny_of_eq (a := [f, sent]) (by first | rfl | kernel_rfl!) ?_)
  dsimp only
  refine wpAny_bind (wpAny_specialOf (name := Str.ofString "__call__") hT hl ?_)
  refine wpAny_ite_split (fun hab => absurd hab (by simp)) (fun _ => ?_)
  refine wpAny_bind (wpAny_rule ?_)
  show wpAny _ _ (newFields "callable_iterator" [f, sent, .bool false] >>= _) _ _ _
  exact wpAny_bind (wpAny_newObj_type (wpAny_pure ⟨_, rfl, h⟩))
theorem borrows_fn {a : Addr} {o : Obj} {fd : FuncData} {h : Heap} (ho : h.get? a = some o) (hd : o.data = .func fd) : Looks (model prog w) h (borrowsExactly (.ref a)) true := by
  intro A Q E s k q
  unfold borrowsExactly
  refine wpAny_bind (wpAny_load (k _ _ ho) ?_)
  rw [hd]
  exact wpAny_pure q
theorem borrows_meth {a g : Addr} {o : Obj} {fd : FuncData} {self : Value} {h : Heap} (ha : h.get? a = some (methodObj (.ref g) self)) (ho : h.get? g = some o) (hd : o.data = .func fd) :
    Looks (model prog w) h (borrowsExactly (.ref a)) true := by
  intro A Q E s k q
  unfold borrowsExactly
  refine wpAny_bind (wpAny_load (k _ _ ha) ?_)
  dsimp only
  rw [if_pos (show (Value.type "method" == Value.type "method") = true from beq_self_eq_true _)]
  refine wpAny_bind (wpAny_load (k _ _ ho) ?_)
  rw [hd]
  exact wpAny_pure q
end
section
variable {prog : Program} {w : World} {A : Around} {E : Value → Shared → Prop} {s : Shared}
open PySem.Builtin PySem.Builtin.Str
abbrev siObj (ty : String) (x : Str) (t : Tok) (i : Nat) : Obj := { cls := .type ty, data := .fields #[.str x t, .int i 0] }
abbrev siEnd (ty : String) (i : Nat) : Obj := { cls := .type ty, data := .fields #[.none, .int i 0] }
def strTy (x : Str) : String := if x.cps.all (· < 128) then "str_ascii_iterator" else "str_iterator"
theorem iter1_str {x : Str} {t : Tok} {Q : Value → Shared → Prop}
    (h : Q (.ref s.heap.objs.size) { s with heap := s.heap.push (siObj (strTy x) x t 0) }) :
    wpAny (model prog w) A (call (.builtin "iter") [.str x t]) Q E s := by
  refine call_function_entry (by decide +kernel) (by decide +kernel) kdk_entry_iter (kdk_args_iter _) ?_
  unfold Builtin.«iter»
  refine wpAny_bind (m := someArgs "iter" 1 2 _) (wpAny_of_eq (a := [Value.str x t]) (by first | rfl | kernel_rfl!) ?_)
  show wpAny _ _ (pyIter (.str x t) >>= _) _ _ _
  refine wpAny_bind ?_
  unfold strTy siObj at h
  cases ha : x.cps.all (· < 128) with
  | true => rw [ha] at h; exact wpAny_pyIter_ascii ha (wpAny_pure ⟨_, rfl, h⟩)
  | false => rw [ha] at h; exact wpAny_pyIter_wide ha (wpAny_pure ⟨_, rfl, h⟩)
theorem iter1_list {l : Addr} {items : Array Value} {Q : Value → Shared → Prop} (hl : s.heap.IsList l items)
    (h : Q (.ref s.heap.objs.size) { s with heap := s.heap.push { cls := .type "list_iterator", data := .fields #[.ref l, .int 0 0] } }) :
    wpAny (model prog w) A (call (.builtin "iter") [.ref l]) Q E s := by
  refine call_function_entry (by decide +kernel) (by decide +kernel) kdk_entry_iter (kdk_args_iter _) ?_
  unfold Builtin.«iter»
  refine wpAny_bind (m := someArgs "iter" 1 2 _) (wpAny_of_eq (a := [Value.ref l]) (by first | rfl | kernel_rfl!) ?_)
  show wpAny _ _ (pyIter (.ref l) >>= _) _ _ _
  exact wpAny_bind (wpAny_pyIter_list hl (wpAny_pure ⟨_, rfl, h⟩))
theorem next1_list {it l : Addr} {i : Nat} {items : Array Value} {x : Value} {Q : Value → Shared → Prop} (hit : s.heap.IsListIter it l i) (hl : s.heap.IsList l items) (hx : items[i]? = some x)
    (hQ : ∀ h', h'.IsListIter it l (i + 1) → Heap.SameBut it s.heap h' → Q x { s with heap := h' }) :
    wpAny (model prog w) A (call (.builtin "next") [.ref it]) Q E s := by
  refine call_function_entry (by decide +kernel) (by decide +kernel) kdk_entry_next (kdk_args_next _) ?_
  unfold Builtin.«next»
  refine wpAny_bind (m := someArgs "next" 1 2 _) (wpAny_of_eq (a := [Value.ref it]) (by first | rfl | kernel_rfl!) ?_)
  dsimp only
  refine wpAny_bind (wpAny_specialOf (name := Str.ofString "__next__") hit.typeIs slot_listiter_next.lookup ?_)
  refine wpAny_ite_split (fun hab => absurd hab (by decide)) (fun _ => ?_)
  refine wpAny_bind ?_
  obtain ⟨o, ho, hc, hd⟩ := id hit
  obtain ⟨ol, hol, _, nl, hdl⟩ := hl
  refine wpAny_callSpecial?_slot (name := Str.ofString "__next__") hit.typeIs slot_listiter_next
    (wpAny_call_entry slot_listiter_next hit.typeIs entry_listiter_next ?_ (args_listiter_next _))
  show wpAny _ _ (field (.ref it) 0 >>= _) _ _ s
  refine wpAny_bind (wpAny_field ho hd (x := .ref l) rfl ?_)
  show wpAny _ _ (if (Value.ref l == Value.none) = true then _ else _) _ _ s
  rw [if_neg (show ¬ ((Value.ref l == Value.none) = true) from Bool.false_ne_true)]
  show wpAny _ _ (field (.ref it) 1 >>= _) _ _ s
  refine wpAny_bind (wpAny_field ho hd (x := .int i 0) rfl ?_)
  show wpAny _ _ (seqItems? (.ref l) >>= _) _ _ s
  refine wpAny_bind (wpAny_seqItems hol hdl ?_)
  simp only [Int.toNat_natCast, hx]
  refine wpAny_bind (wpAny_setField ho hd (by simp) (wpAny_pure ⟨x, rfl, wpAny_pure ⟨_, rfl, hQ _ ?_ (Heap.SameBut.update ..)⟩⟩))
  exact ⟨_, Heap.get?_update_self _ ho (Obj.isFreed_of_fields (Obj.data_mapFields hd _)), (Obj.cls_mapFields ..).trans hc, by
    rw [Obj.data_mapFields hd]; simp [rawInt]⟩
theorem strTy_slot (x : Str) : Slot (strTy x) "__next__" (strTy x ++ ".__next__") := by
  unfold strTy
  split
  · exact F.slot_str_ascii_iterator_next
  · exact F.slot_str_iterator_next
theorem next2_head {it : Addr} {o : Obj} {dflt : Value} {x : Str} {Q : Value → Shared → Prop} (hit : s.heap.get? it = some o) (hc : o.cls = .type (strTy x))
    (h : wpAny (model prog w) A.in1 (pyNext (.ref it)) (fun r s' => Q (r.getD dflt) s') E s) :
    wpAny (model prog w) A (call (.builtin "next") [.ref it, dflt]) Q E s := by
  refine call_function_entry (by decide +kernel) (by decide +kernel) kdk_entry_next (kdk_args_next2 _ _) ?_
  unfold Builtin.«next»
  refine wpAny_bind (m := someArgs "next" 1 2 _) (wpAny_of_eq (a := [Value.ref it, dflt]) (by first | rfl | kernel_rfl!) ?_)
  dsimp only
  refine wpAny_bind (wpAny_specialOf (name := Str.ofString "__next__") (T := strTy x) ⟨o, hit, hc⟩ (strTy_slot x).lookup ?_)
  refine wpAny_ite_split (fun hab => absurd hab (by simp)) (fun _ => ?_)
  exact wpAny_bind (wpAny_mono h (fun r s' q => wpAny_pure ⟨_, rfl, q⟩) fun _ _ e => e)
theorem next2_item {it : Addr} {x : Str} {t : Tok} {i c : Nat} {dflt : Value} {Q : Value → Shared → Prop} (hit : s.heap.get? it = some (siObj (strTy x) x t i)) (hx : x.cps[i]? = some c)
    (hQ : ∀ h', h'.get? it = some (siObj (strTy x) x t (i + 1)) → Heap.SameBut it s.heap h' → Q (.str ⟨#[c]⟩ s.toks) { s with heap := h', toks := s.toks + 1 }) :
    wpAny (model prog w) A (call (.builtin "next") [.ref it, dflt]) Q E s := by
  refine next2_head (x := x) hit rfl ?_
  have hs : Slot (strTy x) "__next__" (strTy x ++ ".__next__") := strTy_slot x
  have hT : s.TypeIs (.ref it) (strTy x) := ⟨_, hit, rfl⟩
  have fin : ∀ h' : Heap, h' = s.heap.update it (Obj.mapFields (·.setIfInBounds 1 (rawInt ((i : Int) + 1)))) → h'.get? it = some (siObj (strTy x) x t (i + 1)) ∧ Heap.SameBut it s.heap h' := by
    rintro h' rfl
    refine ⟨?_, Heap.SameBut.update ..⟩
    rw [Heap.get?_update_self _ hit rfl]
    simp [Obj.mapFields, rawInt, siObj]
  unfold strTy at hit hs hT
  unfold pyNext
  refine wpAny_bind (wpAny_attempt ?_)
  cases ha : x.cps.all (· < 128) with
  | true =>
    rw [ha] at hit hT
    refine wpAny_callSpecial?_slot (name := Str.ofString "__next__") hT F.slot_str_ascii_iterator_next
      (wpAny_call_entry F.slot_str_ascii_iterator_next hT F.entry_str_ascii_iterator_next ?_ (F.args_str_ascii_iterator_next_1 _))
    show wpAny _ _ (field (.ref it) 0 >>= _) _ _ s
    refine wpAny_bind (wpAny_field hit rfl (x := .str x t) rfl ?_)
    show wpAny _ _ (field (.ref it) 1 >>= _) _ _ s
    refine wpAny_bind (wpAny_field hit rfl (x := .int i 0) rfl ?_)
    simp only [Int.toNat_natCast, hx]
    refine wpAny_bind (wpAny_setField hit rfl (by simp) (wpAny_bind (wpAny_mkStr (wpAny_pure ⟨_, rfl, wpAny_pure ?_⟩) (by show 1 ≤ sizeLine; decide))))
    exact hQ _ (fin _ rfl).1 (fin _ rfl).2
  | false =>
    rw [ha] at hit hT
    refine wpAny_callSpecial?_slot (name := Str.ofString "__next__") hT F.slot_str_iterator_next
      (wpAny_call_entry F.slot_str_iterator_next hT F.entry_str_iterator_next ?_ (F.args_str_iterator_next_1 _))
    show wpAny _ _ (field (.ref it) 0 >>= _) _ _ s
    refine wpAny_bind (wpAny_field hit rfl (x := .str x t) rfl ?_)
    show wpAny _ _ (field (.ref it) 1 >>= _) _ _ s
    refine wpAny_bind (wpAny_field hit rfl (x := .int i 0) rfl ?_)
    simp only [Int.toNat_natCast, hx]
    refine wpAny_bind (wpAny_setField hit rfl (by simp) (wpAny_bind (wpAny_mkStr (wpAny_pure ⟨_, rfl, wpAny_pure ?_⟩) (by show 1 ≤ sizeLine; decide))))
    exact hQ _ (fin _ rfl).1 (fin _ rfl).2
theorem stop_none {Q : Option Value → Shared → Prop} {Q1 : PySem.Fin → Shared → Prop} (hh : A.handled = none) (h : ∀ h', (∀ b o, s.heap.get? b = some o → h'.get? b = some o) → Q none { s with heap := h' }) :
    wpAny (model prog w) A.in1 (newExc (.type "StopIteration") [] >>= raiseNew) Q1
      (fun e s' => wpAny (model prog w) A (do if ← isInstance e (.type "StopIteration") then pure none else throw e) Q E s') s := by
  show wpAny _ _ (newExc (.type "StopIteration") [] >>= _) _ _ _
  refine wpAny_bind ?_
  simp only [newExc, newTuple]
  refine wpAny_bind (wpAny_newObj_type ?_ (by size_fits))
  refine wpAny_bind (m := firstArgMember _ _) (wpAny_of_eq (a := Value.none) (by first | rfl | (simp only [firstArgMember]; rfl)) ?_)
  refine wpAny_newObj_type ?_ (by size_fits)
  simp only [raiseNew]
  refine wpAny_bind (wpAny_handled ?_)
  rw [show A.in1.handled = none from hh]
  refine wpAny_bind (wpAny_pure (wpAny_throw ?_))
  refine wpAny_bind (wpAny_isInstance (T := "StopIteration") (b := true) ⟨_, Heap.get?_push_size _ rfl, rfl⟩ isSubtype_stop ?_)
  exact wpAny_pure (h _ fun b o e => Heap.get?_push_of_some _ (Heap.get?_push_of_some _ e))
theorem next2_end {it : Addr} {x : Str} {t : Tok} {i : Nat} {dflt : Value} {Q : Value → Shared → Prop} (hh : A.handled = none) (hit : s.heap.get? it = some (siObj (strTy x) x t i)) (hx : x.cps[i]? = none)
    (hQ : ∀ h', h'.get? it = some (siEnd (strTy x) i) → Heap.ExtBut it s.heap h' → Q dflt { s with heap := h' }) :
    wpAny (model prog w) A (call (.builtin "next") [.ref it, dflt]) Q E s := by
  refine next2_head (x := x) hit rfl ?_
  have hT : s.TypeIs (.ref it) (strTy x) := ⟨_, hit, rfl⟩
  have fin : ∀ h₁ h' : Heap, h₁ = s.heap.update it (Obj.mapFields (·.setIfInBounds 0 .none)) → (∀ b o, h₁.get? b = some o → h'.get? b = some o) → h'.get? it = some (siEnd (strTy x) i) ∧ Heap.ExtBut it s.heap h' := by
    rintro h₁ h' rfl hk
    refine ⟨hk _ _ ?_, fun b o hb e => hk _ _ ((Heap.SameBut.update ..).extBut b o hb e)⟩
    rw [Heap.get?_update_self _ hit rfl]
    simp [Obj.mapFields, siEnd]
  unfold strTy at hit hT
  unfold pyNext
  refine wpAny_bind (wpAny_attempt ?_)
  cases ha : x.cps.all (· < 128) with
  | true =>
    rw [ha] at hit hT
    refine wpAny_callSpecial?_slot (name := Str.ofString "__next__") hT F.slot_str_ascii_iterator_next
      (wpAny_call_entry F.slot_str_ascii_iterator_next hT F.entry_str_ascii_iterator_next ?_ (F.args_str_ascii_iterator_next_1 _))
    show wpAny _ _ (field (.ref it) 0 >>= _) _ _ s
    refine wpAny_bind (wpAny_field hit rfl (x := .str x t) rfl ?_)
    show wpAny _ _ (field (.ref it) 1 >>= _) _ _ s
    refine wpAny_bind (wpAny_field hit rfl (x := .int i 0) rfl ?_)
    simp only [Int.toNat_natCast, hx]
    refine wpAny_bind (wpAny_rule (wpAny_bind (wpAny_setField hit rfl (by simp) (wpAny_bind (wpAny_letGo ?_)))))
    refine stop_none (A := A.in1) (Q := fun r s' => Q (r.getD dflt) s') hh ?_
    exact fun h' hk => hQ _ (fin _ h' rfl hk).1 (fin _ h' rfl hk).2
  | false =>
    rw [ha] at hit hT
    refine wpAny_callSpecial?_slot (name := Str.ofString "__next__") hT F.slot_str_iterator_next
      (wpAny_call_entry F.slot_str_iterator_next hT F.entry_str_iterator_next ?_ (F.args_str_iterator_next_1 _))
    show wpAny _ _ (field (.ref it) 0 >>= _) _ _ s
    refine wpAny_bind (wpAny_field hit rfl (x := .str x t) rfl ?_)
    show wpAny _ _ (field (.ref it) 1 >>= _) _ _ s
    refine wpAny_bind (wpAny_field hit rfl (x := .int i 0) rfl ?_)
    simp only [Int.toNat_natCast, hx]
    refine wpAny_bind (wpAny_rule (wpAny_bind (wpAny_setField hit rfl (by simp) (wpAny_bind (wpAny_letGo ?_)))))
    refine stop_none (A := A.in1) (Q := fun r s' => Q (r.getD dflt) s') hh ?_
    exact fun h' hk => hQ _ (fin _ h' rfl hk).1 (fin _ h' rfl hk).2
theorem next2_gone {it : Addr} {x : Str} {i : Nat} {dflt : Value} {Q : Value → Shared → Prop} (hh : A.handled = none) (hit : s.heap.get? it = some (siEnd (strTy x) i))
    (hQ : ∀ h', (∀ b o, s.heap.get? b = some o → h'.get? b = some o) → Q dflt { s with heap := h' }) :
    wpAny (model prog w) A (call (.builtin "next") [.ref it, dflt]) Q E s := by
  refine next2_head (x := x) hit rfl ?_
  have hT : s.TypeIs (.ref it) (strTy x) := ⟨_, hit, rfl⟩
  unfold strTy at hit hT
  unfold pyNext
  refine wpAny_bind (wpAny_attempt ?_)
  cases ha : x.cps.all (· < 128) with
  | true =>
    rw [ha] at hit hT
    refine wpAny_callSpecial?_slot (name := Str.ofString "__next__") hT F.slot_str_ascii_iterator_next
      (wpAny_call_entry F.slot_str_ascii_iterator_next hT F.entry_str_ascii_iterator_next ?_ (F.args_str_ascii_iterator_next_1 _))
    show wpAny _ _ (field (.ref it) 0 >>= _) _ _ s
    refine wpAny_bind (wpAny_field hit rfl (x := .none) rfl ?_)
    refine wpAny_bind (wpAny_rule ?_)
    refine stop_none (A := A.in1) (Q := fun r s' => Q (r.getD dflt) s') hh ?_
    exact fun h' hk => hQ _ hk
  | false =>
    rw [ha] at hit hT
    refine wpAny_callSpecial?_slot (name := Str.ofString "__next__") hT F.slot_str_iterator_next
      (wpAny_call_entry F.slot_str_iterator_next hT F.entry_str_iterator_next ?_ (F.args_str_iterator_next_1 _))
    show wpAny _ _ (field (.ref it) 0 >>= _) _ _ s
    refine wpAny_bind (wpAny_field hit rfl (x := .none) rfl ?_)
    refine wpAny_bind (wpAny_rule ?_)
    refine stop_none (A := A.in1) (Q := fun r s' => Q (r.getD dflt) s') hh ?_
    exact fun h' hk => hQ _ hk
end
end
section
set_option maxHeartbeats 4000000
open PySem.Calls PySem.Builtin PySem.Builtin.ObjectAttr
theorem fn_getattribute : Slot "function" "__getattribute__" "object.__getattribute__" :=
  .of (owner := "object") (n := "__getattribute__") (by rw [typeLookup_type, builtinLookup_eq_fast]; kernel_rfl) (by decide +kernel) (by decide +kernel) (by decide +kernel)
    (by first | exact .inl (by decide +kernel) | exact .inr (by decide +kernel)) (by rw [isSubtype_type]; kernel_rfl)
theorem fn_setattr : Slot "function" "__setattr__" "object.__setattr__" :=
  .of (owner := "object") (n := "__setattr__") (by rw [typeLookup_type, builtinLookup_eq_fast]; kernel_rfl) (by decide +kernel) (by decide +kernel) (by decide +kernel)
    (by first | exact .inl (by decide +kernel) | exact .inr (by decide +kernel)) (by rw [isSubtype_type]; kernel_rfl)
theorem fn_getattr : typeLookup (.type "function") "__getattr__" = pure none := by rw [typeLookup_type, builtinLookup_eq_fast]; kernel_rfl
theorem fn_read : typeLookup (.type "function") "read" = pure none := by rw [typeLookup_type, builtinLookup_eq_fast]; kernel_rfl
theorem entry_getattribute : entryFor table "object.__getattribute__" = some Builtin.«object.__getattribute__» := entryFor_of_tree (by kernel_rfl)
theorem entry_setattr : entryFor table "object.__setattr__" = some Builtin.«object.__setattr__» := entryFor_of_tree (by kernel_rfl)
theorem args_getattribute (a : Value) (x : Str) (t : Tok) : argsOk "object.__getattribute__" ⟨[a, .str x t], []⟩ := by unfold argsOk; kernel_rfl
theorem args_setattr (a v : Value) (x : Str) (t : Tok) : argsOk "object.__setattr__" ⟨[a, .str x t, v], []⟩ := by unfold argsOk; kernel_rfl
section
variable {prog : Program} {w : World} {A : Around} {E : Value → Shared → Prop} {s : Shared}
theorem fn_find {stm sd : Addr} {o : Obj} {fd : FuncData} {es : List DictEntry} {n : Nat} {v : Value} {h : Heap} (ho : h.get? stm = some o) (hc : o.cls = .type "function") (hd : o.data = .func fd) (hdi : o.dict = some sd)
    (hs : h.get? sd = some (dictOf es n)) (hl : getL (Str.ofString "read") es = some (some v)) :
    Looks (model prog w) h (find (.ref stm) (.type "function") (Str.ofString "read")) (.value v) := by
  have L1 : Looks (model prog w) h (typeLookup (.type "function") (Str.ofString "read")) none := Looks.of_pure fn_read
  have L2 : Looks (model prog w) h (inOwnDict (Str.ofString "read") (.ref stm)) (some v) := by
    intro A Q E s k q
    unfold inOwnDict ObjectAttr.ownDict
    refine wpAny_bind ?_
    unfold loadHead
    refine wpAny_bind (wpAny_loadPart (k _ _ ho) ?_)
    rw [hd]
    unfold instanceDict
    refine wpAny_bind (wpAny_loadPart (k _ _ ho) ?_)
    rw [hc]
    dsimp only
    rw [hdi]
    refine wpAny_pure ?_
    show wpAny _ _ (nsGet sd _) _ _ _
    refine wpAny_bind (wpAny_loadPart (k _ _ hs) ?_)
    rw [nsLook_of (r := some v) (by rw [lookIn_dict]; exact hl)]
    exact wpAny_pure q
  refine L1.andThen ((Looks.now (a := none)).andThen ((Looks.now (a := none)).andThen ?_))
  exact L2.andThen (Looks.tag .now)
theorem fn_getattr_read {stm sd : Addr} {o : Obj} {fd : FuncData} {es : List DictEntry} {n : Nat} {lam : Addr} {ex : Bool} {Q : Value → Shared → Prop} (ho : s.heap.get? stm = some o) (hc : o.cls = .type "function") (hd : o.data = .func fd) (hdi : o.dict = some sd)
    (hs : s.heap.get? sd = some (dictOf es n)) (hl : getL (Str.ofString "read") es = some (some (.ref lam)))
    (hq : Q (.ref lam) { s with toks := s.toks + 1 }) :
    wpAny (model prog w) A (getAttr (.ref stm) (Str.ofString "read") ex) Q E s := by
  have hT : s.TypeIs (.ref stm) "function" := ⟨o, ho, hc⟩
  have LT : Looks (model prog w) s.heap (typeOf (.ref stm)) (.type "function") := hc ▸ (Looks.ld ho).andThen .now
  have LF := fn_find (prog := prog) (w := w) ho hc hd hdi hs hl
  obtain ⟨hh, g, dr, t, os⟩ := s
  unfold getAttr getAttrBy
  refine wpAny_bind (wpAny_mkText (wpAny_holding (wpAny_bind (LT.at (wpAny_bind (wpAny_of_eq fn_getattribute.lookup ?_))))))
  show wpAny _ _ (getAttrByItsOwn _ _ _ _ _ _) _ _ _
  unfold getAttrByItsOwn
  refine wpAny_bind (wpAny_pure ?_)
  refine wpAny_bind (wpAny_attempt (wpAny_holding ?_))
  show wpAny _ _ (callGetattribute (.ref stm) (.str (Str.ofString "read") t) (.builtin "object.__getattribute__") ex) _ _ _
  unfold callGetattribute
  rw [if_neg (by simp [onTheHeap])]
  unfold boundAndCalled
  rw [fn_getattribute.bind]
  refine wpAny_bind (wpAny_pure ?_)
  refine wpAny_call_entry (rest := [_]) fn_getattribute (s := ⟨hh, g, dr, t + 1, os⟩) hT entry_getattribute ?_ (args_getattribute _ _ _)
  unfold Builtin.«object.__getattribute__»
  refine wpAny_bind (wpAny_pure ?_)
  refine wpAny_bind (wpAny_pure ?_)
  refine wpAny_bind (LT.at ?_)
  refine wpAny_bind (LF.at ?_)
  exact wpAny_pure ⟨_, rfl, wpAny_pure hq⟩
theorem fn_method_read {stm sd : Addr} {o : Obj} {fd : FuncData} {es : List DictEntry} {n : Nat} {lam : Addr} {pl : Sem Bool} {Q : Value × List Value → Shared → Prop} (ho : s.heap.get? stm = some o) (hc : o.cls = .type "function") (hd : o.data = .func fd) (hdi : o.dict = some sd)
    (hs : s.heap.get? sd = some (dictOf es n)) (hl : getL (Str.ofString "read") es = some (some (.ref lam)))
    (hq : Q (.ref lam, []) { s with toks := s.toks + 1 }) :
    wpAny (model prog w) A (getMethod (.ref stm) (Str.ofString "read") pl) Q E s := by
  have hT : s.TypeIs (.ref stm) "function" := ⟨o, ho, hc⟩
  unfold getMethod
  refine wpAny_bind (wpAny_specialOf (name := Str.ofString "__getattribute__") hT fn_getattribute.lookup ?_)
  dsimp only
  rw [if_neg (by decide +kernel)]
  refine wpAny_bind (wpAny_specialOf (name := Str.ofString "__getattr__") hT fn_getattr ?_)
  rw [if_neg (by decide)]
  refine wpAny_bind (wpAny_specialOf (name := Str.ofString "read") hT fn_read ?_)
  exact wpAny_bind (fn_getattr_read ho hc hd hdi hs hl (wpAny_pure hq))
theorem refuse_fn {stm : Addr} {h : Heap} (hT : ∃ o, h.get? stm = some o ∧ o.cls = .type "function") : Looks (model prog w) h (refuseIfOverridden (.ref stm) (Str.ofString "__setattr__")) () := by
  obtain ⟨o, ho, hc⟩ := hT
  have LT : Looks (model prog w) h (typeOf (.ref stm)) (.type "function") := hc ▸ (Looks.ld ho).andThen .now
  unfold refuseIfOverridden
  refine LT.andThen (Looks.of_pure ?_)
  kernel_rfl!
theorem fn_setattr_read {stm : Addr} {o : Obj} {fd : FuncData} {v : Value} {Q : Unit → Shared → Prop} (ho : s.heap.get? stm = some o) (hc : o.cls = .type "function") (hd : o.data = .func fd) (hdi : o.dict = none)
    (hq : ∀ h' sd tk, h'.get? stm = some { o with dict := some sd } → h'.get? sd = some (dictOf [⟨PyData.keyHash w.params (Str.ofString "read"), .str (Str.ofString "read") tk, v⟩] 1) → sd = s.heap.objs.size → Heap.ExtBut stm s.heap h' →
      Q () { s with heap := h', toks := s.toks + 2 }) :
    wpAny (model prog w) A (setAttr (.ref stm) (Str.ofString "read") v) Q E s := by
  have hT : s.TypeIs (.ref stm) "function" := ⟨o, ho, hc⟩
  have LT : Looks (model prog w) s.heap (typeOf (.ref stm)) (.type "function") := hc ▸ (Looks.ld ho).andThen .now
  have LR := refuse_fn (prog := prog) (w := w) (stm := stm) (h := s.heap) ⟨o, ho, hc⟩
  obtain ⟨hh, g, dr, t, os⟩ := s
  dsimp only at *
  unfold setAttr
  refine wpAny_bind (wpAny_mkText ?_)
  refine wpAny_bind (wpAny_callSpecial?_slot (name := Str.ofString "__setattr__") (s := ⟨hh, g, dr, t + 1, os⟩) hT fn_setattr (wpAny_call_entry (rest := [_, _]) fn_setattr hT entry_setattr ?_ (args_setattr _ _ _ _)))
  unfold Builtin.«object.__setattr__»
  refine wpAny_bind (LR.at ?_)
  refine wpAny_bind (wpAny_pure ?_)
  refine wpAny_bind (LT.at ?_)
  refine wpAny_bind (wpAny_of_eq fn_read ?_)
  refine wpAny_bind (wpAny_pure ?_)
  show wpAny _ _ (storeInOwnDict _ _ _ _ _ _) _ _ _
  unfold storeInOwnDict
  refine wpAny_bind (wpAny_of_eq (a := ()) (by first | rfl | kernel_rfl!) ?_)
  rw [if_neg (by decide)]
  refine wpAny_bind ?_
  show wpAny _ _ (instanceDict stm true) _ _ _
  unfold instanceDict
  refine wpAny_bind (wpAny_loadPart ho ?_)
  rw [hc]
  dsimp only
  rw [hdi]
  dsimp only
  rw [if_neg (show ¬ ((!true || !typeHasDict (Value.type "function")) = true) by decide +kernel)]
  rw [hd]
  dsimp only
  refine wpAny_bind (wpAny_alloc ?_)
  have ho1 : (hh.push { cls := Value.type "dict", data := Data.dict #[] }).get? stm = some o := Heap.get?_push_of_some _ ho
  have hne : hh.objs.size ≠ stm := Ne.symm (Nat.ne_of_lt (Heap.lt_size ho))
  refine wpAny_bind (wpAny_update ho1 ?_)
  refine wpAny_of_eq (a := some hh.objs.size) (by rw [show dictMade (Value.type "function") stm hh.objs.size = pure (some hh.objs.size) from rfl]) ?_
  show wpAny _ _ (storeInDict _ _ _ _) _ _ _
  unfold storeInDict
  refine wpAny_bind (wpAny_pure ?_)
  have hof : ({ o with dict := some hh.objs.size } : Obj).isFreed = false := by
    unfold Obj.isFreed; rw [hd]
  have hs1 : ((hh.push { cls := Value.type "dict", data := Data.dict #[] }).update stm (fun o => { o with dict := some hh.objs.size })).get? hh.objs.size = some (dictOf [] 0) :=
    (Heap.get?_update_ne _ _ _ _ hne).trans (Heap.get?_push_size _ rfl)
  have hstm : ((hh.push { cls := Value.type "dict", data := Data.dict #[] }).update stm (fun o => { o with dict := some hh.objs.size })).get? stm = some { o with dict := some hh.objs.size } :=
    Heap.get?_update_self _ ho1 hof
  unfold nsSet
  refine wpAny_bind (wpAny_bind (wpAny_bind (wpAny_askSetting (wpAny_pure (wpAny_bind (wpAny_mkText (wpAny_bind (wpAny_loadPart hs1 ?_))))))))
  dsimp only
  rw [aRefKeyMayBeTheName_at]
  rw [if_neg (by simp)]
  refine wpAny_updatePart hs1 ?_
  have hs2 := Heap.get?_update_self (Obj.putName (Str.ofString "read") (PyData.keyHash w.params (Str.ofString "read")) (.str (Str.ofString "read") (t + 1)) v) hs1 (by rw [putName_dict]; rfl)
  rw [putName_dict] at hs2
  refine wpAny_bind (wpAny_lookBehind hs2 (pastItsLine_dict (by simp [putL, sizeLine_eq])) ?_)
  refine wpAny_pure ⟨_, rfl, wpAny_pure ?_⟩
  refine hq _ hh.objs.size (t + 1) ?_ hs2 ?_ ?_
  · exact (Heap.get?_update_ne _ _ _ _ (Ne.symm hne)).trans hstm
  · rfl
  · intro b ob hb e
    refine (Heap.get?_update_ne _ _ _ _ (Nat.ne_of_lt (Heap.lt_size e))).trans ?_
    exact (Heap.get?_update_ne _ _ _ _ hb).trans (Heap.get?_push_of_some _ e)
end
end
section
set_option maxHeartbeats 4000000
theorem fill : (PySem.Challenge.rw_wk0010_01 = PySem.Challenge.rw_wk0010_01) ∧ hd.heap_39 = hd.heap_39 := by
  k_fill
  exact ⟨rfl, rfl⟩
abbrev lstO (ws : List Value) (n : Nat) : Obj := { cls := .type "list", data := .seq ws.toArray n }
abbrev lexD (P : Params) (t1 t2 t3 t4 t5 t6 : Tok) (k : Int) (stm pb : Addr) : Obj :=
  dictOf [⟨PyData.keyHash P (Str.ofString "lineno"), .str (Str.ofString "lineno") t1, .int k t5⟩, ⟨PyData.keyHash P (Str.ofString "instream"), .str (Str.ofString "instream") t2, .ref stm⟩,
    ⟨PyData.keyHash P (Str.ofString "whitespace"), .str (Str.ofString "whitespace") t3, .str (Str.ofString "\n\t\x0d ") t6⟩, ⟨PyData.keyHash P (Str.ofString "pushback"), .str (Str.ofString "pushback") t4, .ref pb⟩] 4
section
variable {prog : Program} {w : World} {A : Around} {E : Value → Shared → Prop} {s : Shared} {h₀ : Heap} {L : Addr} {m : Str → Option Value} {news news' : List (Addr × Obj)}
theorem upd_same {d : Addr} {o o' : Obj} {h h' : Heap} (F : Fr h₀ L h m) (N : News h₀ L h news) (U : Upd d o o' news news') (hs : Heap.SameBut d h h') (ho : h'.get? d = some o') : Fr h₀ L h' m ∧ News h₀ L h' news' := by
  obtain ⟨pre, post, rfl, rfl, a, b⟩ := U.split
  have hm := N (d, o) (List.mem_append_right _ (.head _))
  exact ⟨F.change hs hm.2.1 hm.2.2, news_set N a b hs ho⟩
theorem upd_ext {d : Addr} {o o' : Obj} {h h' : Heap} (F : Fr h₀ L h m) (N : News h₀ L h news) (U : Upd d o o' news news') (hs : Heap.ExtBut d h h') (ho : h'.get? d = some o') : Fr h₀ L h' m ∧ News h₀ L h' news' := by
  obtain ⟨pre, post, rfl, rfl, a, b⟩ := U.split
  have hm := N (d, o) (List.mem_append_right _ (.head _))
  refine ⟨⟨F.ns.extBut hs hm.2.1.symm, fun b ob e => hs b ob (fun q => by rw [q, hm.2.2] at e; cases e) (F.keep b ob e), F.above⟩, fun q hq => ?_⟩
  rcases List.mem_append.mp hq with hq | hq
  · exact ⟨hs _ _ (a q hq) (N q (List.mem_append_left _ hq)).1, (N q (List.mem_append_left _ hq)).2⟩
  · rcases List.mem_cons.mp hq with rfl | hq
    · exact ⟨ho, hm.2⟩
    · exact ⟨hs _ _ (b q hq) (N q (List.mem_append_right _ (.tail _ hq))).1, (N q (List.mem_append_right _ (.tail _ hq))).2⟩
theorem same_keep {h h' : Heap} (F : Fr h₀ L h m) (N : News h₀ L h news) (k : ∀ b o, h.get? b = some o → h'.get? b = some o) : Fr h₀ L h' m ∧ News h₀ L h' news := ⟨F.keeps k, N.grown k⟩
theorem next2_item_N {it : Addr} {x : Str} {t : Tok} {i c : Nat} {dflt : Value} {Q : Value → Shared → Prop} (F : Fr h₀ L s.heap m) (N : News h₀ L s.heap news) (hx : x.cps[i]? = some c)
    (U : Upd it (siObj (strTy x) x t i) (siObj (strTy x) x t (i + 1)) news news')
    (hQ : ∀ h', Fr h₀ L h' m → News h₀ L h' news' → Q (.str ⟨#[c]⟩ s.toks) { s with heap := h', toks := s.toks + 1 }) :
    wpAny (model prog w) A (call (.builtin "next") [.ref it, dflt]) Q E s := by
  obtain ⟨pre, post, e1, e2, a, b⟩ := U.split
  refine next2_item (N _ (by rw [e1]; exact List.mem_append_right _ (.head _))).1 hx fun h' ho hs => ?_
  exact hQ h' (upd_same F N U hs ho).1 (upd_same F N U hs ho).2
theorem next2_end_N {it : Addr} {x : Str} {t : Tok} {i : Nat} {dflt : Value} {Q : Value → Shared → Prop} (hh : A.handled = none) (F : Fr h₀ L s.heap m) (N : News h₀ L s.heap news) (hx : x.cps[i]? = none)
    (U : Upd it (siObj (strTy x) x t i) (siEnd (strTy x) i) news news')
    (hQ : ∀ h', Fr h₀ L h' m → News h₀ L h' news' → Q dflt { s with heap := h' }) :
    wpAny (model prog w) A (call (.builtin "next") [.ref it, dflt]) Q E s := by
  obtain ⟨pre, post, e1, e2, a, b⟩ := U.split
  refine next2_end hh (N _ (by rw [e1]; exact List.mem_append_right _ (.head _))).1 hx fun h' ho hs => ?_
  exact hQ h' (upd_ext F N U hs ho).1 (upd_ext F N U hs ho).2
theorem next2_gone_N {it : Addr} {x : Str} {i : Nat} {dflt : Value} {Q : Value → Shared → Prop} (hh : A.handled = none) (F : Fr h₀ L s.heap m) (N : News h₀ L s.heap news) (hm : (it, siEnd (strTy x) i) ∈ news)
    (hQ : ∀ h', Fr h₀ L h' m → News h₀ L h' news → Q dflt { s with heap := h' }) :
    wpAny (model prog w) A (call (.builtin "next") [.ref it, dflt]) Q E s :=
  next2_gone hh (N _ hm).1 fun h' k => hQ h' (same_keep F N k).1 (same_keep F N k).2
end
local macro_rules | `(tactic| walk_at "obne") => `(tactic| first | (intro e; cases e; done) | (intro e; have e' := congrArg Obj.cls e; simp at e'; done))
section
variable {prog : Program} {w : World} {A : Around} {s : Shared} {B : Heap} {p : Program} {loose : List Str} {mean : ExcName → Option Value} {mg mb : Str → Option Value}
  {R : Result → Shared → Prop}
variable {x dx pb stm : Addr} {t1 t2 t3 t4 t5 t6 : Tok} {kl : Int} {ws : List Value} {n : Nat}
theorem push_spec {tok : Value} (O : Ok (hd.heap_39 w.params) p loose mean mg mb B s.heap) (H : Own B s.heap [(x, instObj 52 dx), (dx, lexD w.params t1 t2 t3 t4 t5 t6 kl stm pb), (pb, lstO ws n)])
   (hd : A.depth < recursionLimit) (hsz : ws.length ≤ 1000)
   (k : ∀ h' tk', h'.get? pb = some (lstO (ws ++ [tok]) (n + 1)) → Keeps [pb] s.heap h' → R (.ok (.ret .none)) {s with heap := h', toks := tk'}) :
   codeAny (model prog w) A (.call (.ref 49) ⟨[.ref x, tok], []⟩) R s := by
  refine enter (binds := [(Str.ofString "self", .ref x), (Str.ofString "token", tok)]) O H (O.keep _ _ (O.X _ _ (by k_is))) rfl ((codeRec_of O.X (by k_is)).keeps O.keep) hd (BindsTo.of_eq rfl) (locs rfl) (fun g L' h₁ F N X T hL hlt => ?_) (by decide)
  have d1 : (@Ne Nat x dx) := H.ne (a := x) (b := dx) (by k_mem) (by k_mem) (by walk_at "obne")
  have d2 : (@Ne Nat x pb) := H.ne (a := x) (b := pb) (by k_mem) (by k_mem) (by walk_at "obne")
  have d3 : (@Ne Nat dx pb) := H.ne (a := dx) (b := pb) (by k_mem) (by k_mem) (by walk_at "obne")
  k_steps
  refine MyEnd.intro (by assumption) (by assumption) fun hk hn => ?_
  refine k _ _ ?_ (hk.sub H ?_)
  · simpa using (hn _ (.tail _ (.tail _ (.head _)))).1
  · intro q hq hne
    simp only [List.mem_cons, List.not_mem_nil, or_false] at hq hne
    rcases hq with rfl | rfl | rfl
    · exact (hn _ (by k_mem)).1
    · exact (hn _ (by k_mem)).1
    · exact absurd rfl hne
end
end
section
set_option maxHeartbeats 400000
def readLam : Arguments × PySem.Expr × Scope := match (PySem.Challenge.pw_wk0010_01.main.body[16]? : Option PySem.Stmt) with
  | some (.FunctionDef _ _ b _ _ _ _ _ _ _) => (match (b[3]? : Option PySem.Stmt) with | some (.Assign _ (.Lambda a e s _) _) => (a, e, s) | _ => default)
  | _ => default
abbrev readObj (l : Arguments × PySem.Expr × Scope) (pm : Value) (c c' : Addr) (ctv : Value) : Obj := kla_obj (Str.ofString "<lambda>") (Str.ofString "_law_told.<locals>.<lambda>") l.1 l.2.1 l.2.2 [(Str.ofString "signs", c)] pm c' ctv
theorem ty_ne {T : String} {x : Str} (h : T ≠ "str_ascii_iterator") (h' : T ≠ "str_iterator") : Value.type T ≠ Value.type (strTy x) := by
  intro e
  injection e with e
  unfold strTy at e
  split at e
  · exact h e
  · exact h' e
end
local macro_rules | `(tactic| walk_at "mq1") => `(tactic| first | (intro e; cases e; done) | exact cls_ne (by show Value.type _ ≠ Value.type _; decide) | exact cls_ne (by show Value.type _ ≠ Value.type (strTy _); exact ty_ne (by decide) (by decide)))
section
set_option maxHeartbeats 400000
local macro_rules | `(tactic| walk_at "obne") => `(tactic| walk_at "mq1")
abbrev cellO (v : Value) : Obj := { cls := .type "cell", data := .cell (some v) }
section
variable {prog : Program} {w : World} {A : Around} {E : Value → Shared → Prop} {s : Shared}
theorem join_one {sep y : Str} {t ty : Tok} {D : Addr} {n : Nat} {Q : Value → Shared → Prop} (hD : s.heap.get? D = some (lstO [.str y ty] n)) (hl : y.length + sep.length ≤ sizeLine) (h : Q (.str y ty) s) :
    wpAny (model prog w) A (call (.builtin "str.join") [.str sep t, .ref D]) Q E s := by
  refine call_meets F.slot_str_join (typeIs_str _ _ _) F.entry_str_join (F.args_str_join_2 _ _) (meets_str_join_list sep t D [(y, ty)] ?_) ⟨⟨_, hD, rfl, _, rfl⟩, h⟩
  simp only [List.map_cons, List.map_nil, List.foldl_toArray, List.foldl_cons, List.foldl_nil, Nat.zero_add, PySem.Builtin.Str.tooLong, gt_iff_lt, decide_eq_false_iff_not, Nat.not_lt]
  exact hl
end
section
variable {prog : Program} {w : World} {dp un : Nat} {fr : Option (List Env)} {gd : Option (List Code)} {s : Shared} {B : Heap} {p : Program} {loose : List Str} {mean : ExcName → Option Value} {mg mb : Str → Option Value}
  {R : Result → Shared → Prop}
variable {lam c it c' : Addr} {pm ctv : Value}
local macro_rules | `(tactic| walk_at "call builtin:next") => `(tactic| (k_here; (with_reducible show wpAny _ _ (call (Value.builtin "next") [Value.ref _, _]) _ _ _); k_dflt (first
  | (refine' next2_item_N ?F ?N ?hx ?U ?_; (case F => k_asm); (case N => k_asm); (case hx => assumption); (case U => k_upd))
  | (refine' next2_end_N ?hh ?F ?N ?hx ?U ?_; (case hh => exact rfl); (case F => k_asm); (case N => k_asm); (case hx => assumption); (case U => k_upd))
  | (refine' next2_gone_N ?hh ?F ?N ?hm ?_; (case hh => exact rfl); (case F => k_asm); (case N => k_asm); (case hm => k_mem))); intro h' F' N'))
local macro_rules | `(tactic| walk_at "CompSrc") => `(tactic| (k_here; k_dflt (refine LCg.CompSrc.range (n := 1) (by rfl) (by k_asm) (by k_asm) (by assumption) (by decide) (by rfl) (by decide) ?_); intro g'))
local macro_rules | `(tactic| walk_at "CompEnd") => `(tactic| lcg_end)
local macro_rules | `(tactic| walk_at "call builtin:str.join") => `(tactic| (k_here; (rename News _ _ _ _ => kN); k_dflt (refine join_one (kN _ (List.Mem.head _)).1 (by first | (show 1 ≤ sizeLine; decide) | (show 0 ≤ sizeLine; decide)) ?_)))
def LamSpec (o o' : Str → Tok → Nat → Obj) (r : Nat → Str) (pre : Str → Nat → Nat → Prop) (l : Arguments × PySem.Expr × Scope) : Prop := ∀ {prog : Program} {w : World} {dp un : Nat} {fr : Option (List Env)} {gd : Option (List Code)} {s : Shared} {B : Heap} {p : Program} {loose : List Str} {mean : ExcName → Option Value} {mg mb : Str → Option Value}
  {R : Result → Shared → Prop} {lam c it c' : Addr} {pm ctv : Value} {oc : Obj} {x : Str} {t tn : Tok} {i ch : Nat} (_ : Ok (hd.heap_39 w.params) p loose mean mg mb B s.heap)
   (_ : s.heap.get? lam = some (readObj l pm c c' ctv)) (_ : oc.data = .cell (some (.ref it)))
   (_ : Own B s.heap [(c, oc), (it, o x t i)]) (_ : s.heap.CodeRec (.ref c') (Str.ofString "_law_told.<locals>.<lambda>"))
   (_ : pre x i ch)
   (_ : dp < recursionLimit)
   (_ : ∀ t' h' tk', h'.get? it = some (o' x t i) → Keeps [it] s.heap h' → R (.ok (.ret (.str (r ch) t'))) {s with heap := h', toks := tk'}),
   codeAny (model prog w) (Ar dp un fr gd) (.call (.ref lam) ⟨[.int 1 tn], []⟩) R s
theorem lam_item : LamSpec (fun x t i => siObj (strTy x) x t i) (fun x t i => siObj (strTy x) x t (i + 1)) (fun ch => ⟨#[ch]⟩) (fun x i ch => x.cps[i]? = some ch) readLam := by
  show LamSpec _ _ _ _ (_, _, _)
  unfold LamSpec
  intro prog w dp un fr gd s B p loose mean mg mb R lam c it c' pm ctv oc x t tn i ch O hlam hoc H hcd hx hd k
  refine enterLam (binds := [(Str.ofString "number", .int 1 tn)]) O H hlam hcd hd rfl (locs rfl) (fun g L' h₁ F N X T hL hlt => ?_) (by decide)
  have d3 : (@Ne Nat c it) := H.ne (a := c) (b := it) (by k_mem) (by k_mem) (by intro e; rw [e] at hoc; cases hoc)
  clear hlam hcd hlt hL O
  k_steps
  refine MyEnd.intro (by assumption) (by assumption) fun hk hn => ?_
  refine k _ _ _ (hn (it, _) (by k_mem)).1 (hk.sub H ?_)
  intro q hq hne
  simp only [List.mem_cons, List.not_mem_nil, or_false] at hq hne
  rcases hq with rfl | rfl
  · exact (hn _ (by k_mem)).1
  · exact absurd rfl hne
theorem lam_end : LamSpec (fun x t i => siObj (strTy x) x t i) (fun x _ i => siEnd (strTy x) i) (fun _ => Str.ofString "") (fun x i _ => x.cps[i]? = none) readLam := by
  show LamSpec _ _ _ _ (_, _, _)
  unfold LamSpec
  intro prog w dp un fr gd s B p loose mean mg mb R lam c it c' pm ctv oc x t tn i ch O hlam hoc H hcd hx hd k
  refine enterLam (binds := [(Str.ofString "number", .int 1 tn)]) O H hlam hcd hd rfl (locs rfl) (fun g L' h₁ F N X T hL hlt => ?_) (by decide)
  have d3 : (@Ne Nat c it) := H.ne (a := c) (b := it) (by k_mem) (by k_mem) (by intro e; rw [e] at hoc; cases hoc)
  clear hlam hcd hlt hL O
  k_steps
  refine MyEnd.intro (by assumption) (by assumption) fun hk hn => ?_
  refine k _ _ _ (hn (it, _) (by k_mem)).1 (hk.sub H ?_)
  intro q hq hne
  simp only [List.mem_cons, List.not_mem_nil, or_false] at hq hne
  rcases hq with rfl | rfl
  · exact (hn _ (by k_mem)).1
  · exact absurd rfl hne
theorem lam_gone : LamSpec (fun x _ i => siEnd (strTy x) i) (fun x _ i => siEnd (strTy x) i) (fun _ => Str.ofString "") (fun _ _ _ => True) readLam := by
  show LamSpec _ _ _ _ (_, _, _)
  unfold LamSpec
  intro prog w dp un fr gd s B p loose mean mg mb R lam c it c' pm ctv oc x t tn i ch O hlam hoc H hcd hx hd k
  refine enterLam (binds := [(Str.ofString "number", .int 1 tn)]) O H hlam hcd hd rfl (locs rfl) (fun g L' h₁ F N X T hL hlt => ?_) (by decide)
  have d3 : (@Ne Nat c it) := H.ne (a := c) (b := it) (by k_mem) (by k_mem) (by intro e; rw [e] at hoc; cases hoc)
  clear hlam hcd hlt hL O
  k_steps
  refine MyEnd.intro (by assumption) (by assumption) fun hk hn => ?_
  refine k _ _ _ (hn (it, _) (by k_mem)).1 (hk.sub H ?_)
  intro q hq hne
  simp only [List.mem_cons, List.not_mem_nil, or_false] at hq hne
  rcases hq with rfl | rfl
  · exact (hn _ (by k_mem)).1
  · exact absurd rfl hne
end
end
section
set_option maxHeartbeats 1000000
end
local macro_rules | `(tactic| walk_at "mq2") => `(tactic| ((repeat' (first | exact List.forall_mem_nil _ | refine List.forall_mem_cons.mpr ⟨?_, ?_⟩)); all_goals (intro hne; first | exact New.get (by assumption) (by k_mem) | exact absurd (by simp) hne)))
section
set_option maxHeartbeats 1000000
local macro_rules | `(tactic| walk_at "obne") => `(tactic| walk_at "mq1")
local macro_rules | `(tactic| walk_at "keepsub") => `(tactic| walk_at "mq2")
def rdObj (x : Str) (t : Tok) (i : Nat) : Obj := if i ≤ x.cps.size then siObj (strTy x) x t i else siEnd (strTy x) x.cps.size
def rd (x : Str) (i : Nat) : Str := match x.cps[i]? with | some c => ⟨#[c]⟩ | none => Str.ofString ""
theorem rdObj_cls (x : Str) (t : Tok) (i : Nat) : (rdObj x t i).cls = .type (strTy x) := by unfold rdObj; split <;> rfl
section
variable {prog : Program} {w : World} {dp un : Nat} {fr : Option (List Env)} {gd : Option (List Code)} {s : Shared} {B : Heap} {p : Program} {loose : List Str} {mean : ExcName → Option Value} {mg mb : Str → Option Value}
  {R : Result → Shared → Prop}
theorem lam_spec {lam c it c' : Addr} {pm ctv : Value} {oc : Obj} {x : Str} {t tn : Tok} {i : Nat} (O : Ok (hd.heap_39 w.params) p loose mean mg mb B s.heap)
   (hl : s.heap.get? lam = some (readObj readLam pm c c' ctv)) (hoc : oc.data = .cell (some (.ref it)))
   (H : Own B s.heap [(c, oc), (it, rdObj x t i)]) (hcd : s.heap.CodeRec (.ref c') (Str.ofString "_law_told.<locals>.<lambda>"))
   (hd : dp < recursionLimit)
   (k : ∀ t' h' tk', h'.get? it = some (rdObj x t (i + 1)) → Keeps [it] s.heap h' → R (.ok (.ret (.str (rd x i) t'))) {s with heap := h', toks := tk'}) :
   codeAny (model prog w) (Ar dp un fr gd) (.call (.ref lam) ⟨[.int 1 tn], []⟩) R s := by
  by_cases h1 : i < x.cps.size
  · obtain ⟨ch, hch⟩ : ∃ ch, x.cps[i]? = some ch := ⟨_, Array.getElem?_eq_getElem h1⟩
    have e1 : rdObj x t i = siObj (strTy x) x t i := if_pos (Nat.le_of_lt h1)
    have e2 : rdObj x t (i + 1) = siObj (strTy x) x t (i + 1) := if_pos h1
    rw [e1] at H; rw [e2] at k
    refine lam_item O hl hoc H hcd hch hd fun t' h' tk' a b => ?_
    have := k t' h' tk' a b
    rw [show rd x i = ⟨#[ch]⟩ by unfold rd; rw [hch]] at this
    exact this
  · have hn : x.cps[i]? = none := Array.getElem?_eq_none (Nat.le_of_not_lt h1)
    have er : rd x i = Str.ofString "" := by unfold rd; rw [hn]
    rw [er] at k
    have e2 : rdObj x t (i + 1) = siEnd (strTy x) x.cps.size := if_neg (by omega)
    rw [e2] at k
    by_cases h2 : i = x.cps.size
    · subst h2
      rw [show rdObj x t x.cps.size = siObj (strTy x) x t x.cps.size from if_pos (Nat.le_refl _)] at H
      exact lam_end O hl hoc H hcd (ch := 0) hn hd k
    · rw [show rdObj x t i = siEnd (strTy x) x.cps.size from if_neg (by omega)] at H
      exact lam_gone (t := t) (ch := 0) O hl hoc H hcd trivial hd k
end
structure Sys where
  (x dx pb stm sd lam c it c' : Addr)
  (t1 t2 t3 t4 t6 tr tt tq : Tok)
  (pm ctv : Value)
  (os oc ocd : Obj)
  (fd : FuncData)
  (vs : Array Value)
  (txt : Str)
structure Sys.Good (S : Sys) : Prop where
  o1 : S.os.cls = .type "function"
  o2 : S.os.data = .func S.fd
  o3 : S.os.dict = some S.sd
  o4 : S.oc.data = .cell (some (.ref S.it))
  o5 : S.ocd.data = .fields S.vs
  o6 : S.vs[1]? = some (.str (Str.ofString "_law_told.<locals>.<lambda>") S.tq)
abbrev Sys.lexO (S : Sys) (P : Params) (kl : Int) (t5 : Tok) : Obj := lexD P S.t1 S.t2 S.t3 S.t4 t5 S.t6 kl S.stm S.pb
abbrev Sys.sdO (S : Sys) (P : Params) : Obj := dictOf [⟨PyData.keyHash P (Str.ofString "read"), .str (Str.ofString "read") S.tr, .ref S.lam⟩] 1
abbrev Sys.pre (S : Sys) (P : Params) (kl : Int) (t5 : Tok) (ws : List Value) (n i : Nat) : List (Addr × Obj) :=
  [(S.x, instObj 52 S.dx), (S.dx, S.lexO P kl t5), (S.pb, lstO ws n), (S.stm, S.os), (S.sd, S.sdO P),
    (S.lam, readObj readLam S.pm S.c S.c' S.ctv), (S.c, S.oc), (S.c', S.ocd), (S.it, rdObj S.txt S.tt i)]
theorem rdObj_data (x : Str) (t : Tok) (i : Nat) : ∃ a b, (rdObj x t i).data = .fields #[a, .int b 0] := by
  unfold rdObj; split <;> exact ⟨_, _, rfl⟩
theorem data_ne {o o' : Obj} (h : o.data ≠ o'.data) : o ≠ o' := fun e => h (congrArg _ e)
theorem Sys.apart {S : Sys} {B h : Heap} {P : Params} {kl : Int} {t5 : Tok} {ws : List Value} {n i : Nat} (G : S.Good) (H : Own B h (S.pre P kl t5 ws n i)) :
    ((@Ne Nat S.x S.dx) ∧ (@Ne Nat S.pb S.dx) ∧ (@Ne Nat S.stm S.dx) ∧ (@Ne Nat S.sd S.dx) ∧ (@Ne Nat S.lam S.dx) ∧ (@Ne Nat S.c S.dx) ∧ (@Ne Nat S.c' S.dx) ∧ (@Ne Nat S.it S.dx)) ∧
    ((@Ne Nat S.x S.it) ∧ (@Ne Nat S.pb S.it) ∧ (@Ne Nat S.stm S.it) ∧ (@Ne Nat S.sd S.it) ∧ (@Ne Nat S.lam S.it) ∧ (@Ne Nat S.c S.it) ∧ (@Ne Nat S.c' S.it)) ∧
    ((@Ne Nat S.x S.pb) ∧ (@Ne Nat S.stm S.pb) ∧ (@Ne Nat S.sd S.pb) ∧ (@Ne Nat S.lam S.pb) ∧ (@Ne Nat S.c S.pb) ∧ (@Ne Nat S.c' S.pb)) := by
  obtain ⟨o1, o2, o3, o4, o5, o6⟩ := G
  have hit := rdObj_data S.txt S.tt i
  have hic := rdObj_cls S.txt S.tt i
  obtain ⟨ra, rb, hr⟩ := hit
  have hs : ∀ T : String, T ≠ "str_ascii_iterator" → T ≠ "str_iterator" → Value.type T ≠ Value.type (strTy S.txt) := fun T a b => ty_ne a b
  have e1 := @Own.ne B h _ S.x S.dx _ _ H (by k_mem) (by k_mem) (by intro e; cases e)
  have e2 := @Own.ne B h _ S.pb S.dx _ _ H (by k_mem) (by k_mem) (data_ne (by intro e; cases e))
  have e3 := @Own.ne B h _ S.stm S.dx _ _ H (by k_mem) (by k_mem) (data_ne (by rw [o2]; intro e; cases e))
  have e4 := @Own.ne B h _ S.sd S.dx _ _ H (by k_mem) (by k_mem) (data_ne (by intro e; injection e with e1 e2; cases e2))
  have e5 := @Own.ne B h _ S.lam S.dx _ _ H (by k_mem) (by k_mem) (data_ne (by intro e; cases e))
  have e6 := @Own.ne B h _ S.c S.dx _ _ H (by k_mem) (by k_mem) (data_ne (by rw [o4]; intro e; cases e))
  have e7 := @Own.ne B h _ S.c' S.dx _ _ H (by k_mem) (by k_mem) (data_ne (by rw [o5]; intro e; cases e))
  have e8 := @Own.ne B h _ S.it S.dx _ _ H (by k_mem) (by k_mem) (data_ne (by rw [hr]; intro e; cases e))
  have f1 := @Own.ne B h _ S.x S.it _ _ H (by k_mem) (by k_mem) (data_ne (by rw [hr]; intro e; cases e))
  have f2 := @Own.ne B h _ S.pb S.it _ _ H (by k_mem) (by k_mem) (data_ne (by rw [hr]; intro e; cases e))
  have f3 := @Own.ne B h _ S.stm S.it _ _ H (by k_mem) (by k_mem) (data_ne (by rw [hr, o2]; intro e; cases e))
  have f4 := @Own.ne B h _ S.sd S.it _ _ H (by k_mem) (by k_mem) (data_ne (by rw [hr]; intro e; cases e))
  have f5 := @Own.ne B h _ S.lam S.it _ _ H (by k_mem) (by k_mem) (data_ne (by rw [hr]; intro e; cases e))
  have f6 := @Own.ne B h _ S.c S.it _ _ H (by k_mem) (by k_mem) (data_ne (by rw [hr, o4]; intro e; cases e))
  have f7 := @Own.ne B h _ S.c' S.it _ _ H (by k_mem) (by k_mem) (data_ne (by
    rw [hr, o5]; intro e; injection e with e; rw [e] at o6; cases o6))
  have g1 := @Own.ne B h _ S.x S.pb _ _ H (by k_mem) (by k_mem) (by intro e; cases e)
  have g2 := @Own.ne B h _ S.stm S.pb _ _ H (by k_mem) (by k_mem) (data_ne (by rw [o2]; intro e; cases e))
  have g3 := @Own.ne B h _ S.sd S.pb _ _ H (by k_mem) (by k_mem) (data_ne (by intro e; cases e))
  have g4 := @Own.ne B h _ S.lam S.pb _ _ H (by k_mem) (by k_mem) (data_ne (by intro e; cases e))
  have g5 := @Own.ne B h _ S.c S.pb _ _ H (by k_mem) (by k_mem) (data_ne (by rw [o4]; intro e; cases e))
  have g6 := @Own.ne B h _ S.c' S.pb _ _ H (by k_mem) (by k_mem) (data_ne (by rw [o5]; intro e; cases e))
  exact ⟨⟨e1, e2, e3, e4, e5, e6, e7, e8⟩, ⟨f1, f2, f3, f4, f5, f6, f7⟩, g1, g2, g3, g4, g5, g6⟩
def nl (y : Str) : Int := if y == Str.ofString "\n" then 1 else 0
section
variable {prog : Program} {w : World} {A : Around} {E : Value → Shared → Prop} {s : Shared} {h₀ : Heap} {L : Addr} {m : Str → Option Value} {news news' : List (Addr × Obj)}
theorem own2 {a b : Addr} {o o' : Obj} {h : Heap} (N : News h₀ L h news) (h1 : (a, o) ∈ news) (h2 : (b, o') ∈ news) : Own h₀ h [(a, o), (b, o')] := fun q hq => by
  rcases List.mem_cons.mp hq with rfl | hq
  · exact ⟨(N _ h1).1, (N _ h1).2.2⟩
  · rw [List.mem_singleton.mp hq]; exact ⟨(N _ h2).1, (N _ h2).2.2⟩
theorem keep_upd {d : Addr} {o o' : Obj} {h h' : Heap} (F : Fr h₀ L h m) (N : News h₀ L h news) (U : Upd d o o' news news') (hk : Keeps [d] h h') (ho : h'.get? d = some o') : Fr h₀ L h' m ∧ News h₀ L h' news' :=
  upd_ext F N U (fun b ob hb e => hk.2 b ob e (by simpa using hb)) ho
end
section
variable {prog : Program} {w : World} {dp un : Nat} {fr : Option (List Env)} {gd : Option (List Code)} {s : Shared} {B : Heap} {p : Program} {loose : List Str} {mean : ExcName → Option Value} {mg mb : Str → Option Value}
  {R : Result → Shared → Prop}
end
end
local macro_rules | `(tactic| walk_at "mq3") => `(tactic| (k_here; k_dflt (first | (refine' callWith_F ?k1 ?_; (case k1 => exact FnAt.of (by k_asm) (by k_mem)); k_whole) | (refine' callWith_F0 ?k1 ?_; (case k1 => exact FnAt.of (by k_asm) (by k_mem)); k_whole; try dsimp only [List.nil_append, List.cons_append]))))
section
set_option maxHeartbeats 1000000
local macro_rules | `(tactic| walk_at "obne") => `(tactic| walk_at "mq1")
local macro_rules | `(tactic| walk_at "keepsub") => `(tactic| walk_at "mq2")
section
variable {prog : Program} {w : World} {dp un : Nat} {fr : Option (List Env)} {gd : Option (List Code)} {s : Shared} {B : Heap} {p : Program} {loose : List Str} {mean : ExcName → Option Value} {mg mb : Str → Option Value}
  {R : Result → Shared → Prop}
local macro_rules | `(tactic| walk_at "getMethod ref") => `(tactic| (k_here; (with_reducible show wpAny _ _ (getMethod (Value.ref _) (Str.ofString "read") _) _ _ _); (rename News _ _ _ _ => kN); k_dflt (refine' fn_method_read ?o ?o1 ?o2 ?o3 ?sd ?l ?_; (case o1 => assumption); (case o2 => assumption); (case o3 => assumption); (case o => exact News.get kN (by k_mem)); (case sd => exact News.get kN (by k_mem)); (case l => rfl))))
local macro_rules | `(tactic| walk_at "callWith ref") => `(tactic| walk_at "mq3")
local macro_rules | `(tactic| walk_at "call ref") => `(tactic| (k_here; (with_reducible show wpAny _ _ (call (Value.ref _) [Value.int 1 _]) _ _ _); (rename News _ _ _ _ => kN); (rename Fr _ _ _ _ => kF); (rename Top _ _ _ _ _ _ => kT); (rename Frag.In _ _ => kX); k_dflt (refine' wpAny_call (lam_spec ⟨kX, kT, kF.keep⟩ ?l ?oc ?own ?cd ?room ?_); (case oc => assumption); (case l => exact News.get kN (by k_mem)); (case own => exact own2 kN (by k_mem) (by k_mem)); (case room => (dsimp only [Around.deeper, Ar]; omega)); (case cd => exact codeRec_news kN (by k_mem) (by assumption) (by assumption))); intro t' h' tk' kO kK; (have kFN := keep_upd kF kN (by k_upd) kK kO); clear kK kO; obtain ⟨F', N'⟩ := kFN; clear kN kF; dsimp only))
theorem rc_spec {S : Sys} {kl : Int} {t5 : Tok} {ws : List Value} {n i : Nat} (O : Ok (hd.heap_39 w.params) p loose mean mg mb B s.heap) (G : S.Good)
   (H : Own B s.heap (S.pre w.params kl t5 ws n i)) 
   (hd : dp + 1 < recursionLimit)
   (k : ∀ t' t5' h' tk', h'.get? S.dx = some (S.lexO w.params (kl + nl (rd S.txt i)) t5') → h'.get? S.it = some (rdObj S.txt S.tt (i + 1)) → Keeps [S.dx, S.it] s.heap h' → R (.ok (.ret (.str (rd S.txt i) t'))) {s with heap := h', toks := tk'}) :
   codeAny (model prog w) (Ar dp un fr gd) (.call (.ref 35) ⟨[.ref S.x], []⟩) R s := by
  have D := S.apart G H
  obtain ⟨⟨e1, e2, e3, e4, e5, e6, e7, e8⟩, ⟨f1, f2, f3, f4, f5, f6, f7⟩, g1, g2, g3, g4, g5, g6⟩ := D
  obtain ⟨o1, o2, o3, o4, o5, o6⟩ := G
  refine enter (binds := [(Str.ofString "self", .ref S.x)]) O H (O.keep _ _ (O.X _ _ (by k_is))) rfl ((codeRec_of O.X (by k_is)).keeps O.keep) (Nat.lt_of_succ_lt hd) (BindsTo.of_eq rfl) (locs rfl) (fun g L' h₁ F N X T hL hlt => ?_) (by decide)
  dsimp only [Sys.pre, Sys.lexO, Sys.sdO] at *
  clear hlt hL
  k_steps
  all_goals (show MyEnd _ _ _ _ _ _ _)
  all_goals (refine MyEnd.intro (by assumption) (by assumption) fun hk hn => ?_)
  · rename (_ == _) = true => hc
    have hnl : nl (rd S.txt i) = 1 := by unfold nl; rw [hc]; rfl
    rw [hnl] at k
    refine k _ _ _ _ (hn.get (by k_mem)) (hn.get (by k_mem)) (hk.sub H (by walk_at "keepsub"))
  · rename (_ == _) = false => hc
    have hnl : nl (rd S.txt i) = 0 := by unfold nl; rw [hc]; rfl
    rw [hnl, Int.add_zero] at k
    refine k _ _ _ _ (hn.get (by k_mem)) (hn.get (by k_mem)) (hk.sub H (by walk_at "keepsub"))
end
end
section
set_option maxHeartbeats 1000000
local macro_rules | `(tactic| walk_at "obne") => `(tactic| walk_at "mq1")
local macro_rules | `(tactic| walk_at "keepsub") => `(tactic| walk_at "mq2")
section
variable {prog : Program} {w : World} {A : Around} {E : Value → Shared → Prop} {s : Shared} {h₀ : Heap} {L : Addr} {m : Str → Option Value} {news news' : List (Addr × Obj)}
theorem truthy_N {a : Addr} {vs : List Value} {n : Nat} {Q : Bool → Shared → Prop} (N : News h₀ L s.heap news) (hm : (a, lstO vs n) ∈ news) (hfit : vs.length ≤ 1000)
    (h : Q (!vs.isEmpty) { s with toks := s.toks + 1 + 1 }) : wpAny (model prog w) A (truthy (.ref a)) Q E s := kgr_truthy N hm rfl rfl (by omega) h
theorem pop0_N {a : Addr} {v : Value} {vs : List Value} {n : Nat} {u : Tok} {Q : Value → Shared → Prop} (F : Fr h₀ L s.heap m) (N : News h₀ L s.heap news) (U : Upd a (lstO (v :: vs) n) (lstO vs (n + 1)) news news') (hfit : (v :: vs).length ≤ 1000)
    (h : ∀ h', Fr h₀ L h' m → News h₀ L h' news' → Q v { s with heap := h' }) : wpAny (model prog w) A (call (.builtin "list.pop") [.ref a, .int 0 u]) Q E s :=
  kl_popAt (p := []) (q := vs) (k := 0) (y := v) (its := (v :: vs).toArray) F N rfl (by simp [seqIndex?]) rfl U (Nat.le_trans hfit (by decide)) h
end
section
variable {prog : Program} {w : World} {dp un : Nat} {fr : Option (List Env)} {gd : Option (List Code)} {s : Shared} {B : Heap} {p : Program} {loose : List Str} {mean : ExcName → Option Value} {mg mb : Str → Option Value}
  {R : Result → Shared → Prop}
variable {x dx pb stm : Addr} {t1 t2 t3 t4 t5 t6 : Tok} {kl : Int} {v0 : Value} {ws : List Value} {n : Nat}
local macro_rules | `(tactic| walk_at "truthy ref") => `(tactic| (k_here; (with_reducible show wpAny _ _ (truthy (Value.ref _)) _ _ _); k_dflt (refine' truthy_N ?N ?m ?z ?_; (case N => k_asm); (case m => k_mem); (case z => assumption)); (try simp only [List.isEmpty_cons, List.isEmpty_nil, Bool.not_false, Bool.not_true])))
local macro_rules | `(tactic| walk_at "call builtin:list.pop") => `(tactic| (k_here; (with_reducible show wpAny _ _ (call (Value.builtin _) [Value.ref _, Value.int 0 _]) _ _ _); k_dflt (refine' pop0_N ?F ?N ?U ?z ?_; (case F => k_asm); (case N => k_asm); (case U => k_upd); (case z => assumption)); intro h' F' N'))
theorem gt_pop (O : Ok (hd.heap_39 w.params) p loose mean mg mb B s.heap) (H : Own B s.heap [(x, instObj 52 dx), (dx, lexD w.params t1 t2 t3 t4 t5 t6 kl stm pb), (pb, lstO (v0 :: ws) n)])
   (hd : dp < recursionLimit) (hsz : (v0 :: ws).length ≤ 1000)
   (k : ∀ h' tk', h'.get? pb = some (lstO ws (n + 1)) → Keeps [pb] s.heap h' → R (.ok (.ret v0)) {s with heap := h', toks := tk'}) :
   codeAny (model prog w) (Ar dp un fr gd) (.call (.ref 42) ⟨[.ref x], []⟩) R s := by
  refine enter (binds := [(Str.ofString "self", .ref x)]) O H (O.keep _ _ (O.X _ _ (by k_is))) rfl ((codeRec_of O.X (by k_is)).keeps O.keep) hd (BindsTo.of_eq rfl) (locs rfl) (fun g L' h₁ F N X T hL hlt => ?_) (by decide)
  have d1 : (@Ne Nat x dx) := H.ne (a := x) (b := dx) (by k_mem) (by k_mem) (by walk_at "obne")
  have d2 : (@Ne Nat x pb) := H.ne (a := x) (b := pb) (by k_mem) (by k_mem) (by walk_at "obne")
  have d3 : (@Ne Nat dx pb) := H.ne (a := dx) (b := pb) (by k_mem) (by k_mem) (by walk_at "obne")
  clear hlt hL
  k_steps
  refine MyEnd.intro (by assumption) (by assumption) fun hk hn => ?_
  refine k _ _ (hn.get (by k_mem)) (hk.sub H (by walk_at "keepsub"))
end
end
section
set_option maxHeartbeats 1000000
open PySem.Calls PySem.Builtin
theorem slot_ci_iter : Slot "callable_iterator" "__iter__" "callable_iterator.__iter__" :=
  .of (owner := "callable_iterator") (n := "__iter__") (by rw [typeLookup_type, builtinLookup_eq_fast]; kernel_rfl) (by decide +kernel) (by decide +kernel) (by decide +kernel)
    (by first | exact .inl (by decide +kernel) | exact .inr (by decide +kernel)) (by rw [isSubtype_type]; kernel_rfl)
theorem entry_ci_iter : entryFor table "callable_iterator.__iter__" = some Builtin.«dict_keyiterator.__iter__» :=
  entryFor_alias (id' := "dict_keyiterator.__iter__") (by kernel_rfl) (by first | rfl | decide +kernel | (unfold String.splitOn; simp +decide [String.splitOnAux])) (by decide +kernel) (by kernel_rfl)
theorem args_ci_iter (a : Value) : argsOk "callable_iterator.__iter__" ⟨[a], []⟩ := by unfold argsOk; kernel_rfl
section
variable {prog : Program} {w : World} {A : Around} {E : Value → Shared → Prop} {s : Shared}
theorem pyIter_ci {it : Addr} {f sent : Value} {b : Bool} {Q : Value → Shared → Prop} (hit : s.heap.get? it = some (ciObj f sent b)) (h : Q (.ref it) s) : wpAny (model prog w) A (pyIter (.ref it)) Q E s := by
  refine wpAny_pyIter_slot (ci_typeIs hit) slot_ci_iter (wpAny_call_entry slot_ci_iter (ci_typeIs hit) entry_ci_iter ?_ (args_ci_iter _))
  show wpAny _ _ (ret (.ref it)) _ _ s
  exact wpAny_pure ⟨_, rfl, "callable_iterator", _, ci_typeIs hit, slot_ci_next.lookup, h⟩
theorem pyNext_ci_done {it : Addr} {Q : Option Value → Shared → Prop} (hh : A.handled = none) (hit : s.heap.get? it = some (ciObj .none .none true))
    (h : ∀ h', (∀ b o, s.heap.get? b = some o → h'.get? b = some o) → Q none { s with heap := h' }) : wpAny (model prog w) A (pyNext (.ref it)) Q E s := by
  unfold pyNext
  refine wpAny_bind (wpAny_attempt ?_)
  refine wpAny_callSpecial?_slot (name := Str.ofString "__next__") (ci_typeIs hit) slot_ci_next (wpAny_call_entry slot_ci_next (ci_typeIs hit) entry_ci_next ?_ (args_ci_next _))
  show wpAny _ _ (field (.ref it) 2 >>= _) _ _ s
  refine wpAny_bind (wpAny_field hit rfl (x := .bool true) rfl ?_)
  refine wpAny_bind (wpAny_rule ?_)
  refine wpAny_bind ?_
  show wpAny _ _ (newExc (.type "StopIteration") [] >>= _) _ _ _
  refine wpAny_bind ?_
  simp only [newExc, newTuple]
  refine wpAny_bind (wpAny_newObj_type ?_ (by size_fits))
  refine wpAny_bind (m := firstArgMember _ _) (wpAny_of_eq (a := Value.none) (by first | rfl | (simp only [firstArgMember]; rfl)) ?_)
  refine wpAny_newObj_type ?_ (by size_fits)
  simp only [raiseNew]
  refine wpAny_bind (wpAny_handled ?_)
  rw [show A.in1.handled = none from hh]
  refine wpAny_bind (wpAny_pure (wpAny_throw ?_))
  refine wpAny_bind (wpAny_isInstance (T := "StopIteration") (b := true) ⟨_, Heap.get?_push_size _ rfl, rfl⟩ isSubtype_stop ?_)
  exact wpAny_pure (h _ fun b o e => Heap.get?_push_of_some _ (Heap.get?_push_of_some _ e))
end
section
variable {prog : Program} {w : World} {A : Around} {E : Value → Shared → Prop} {s : Shared} {h₀ : Heap} {L : Addr} {m : Str → Option Value} {news news' : List (Addr × Obj)}
theorem iter2_N {q : Addr} {f self sent : Value} {Q : Value → Shared → Prop} (F : Fr h₀ L s.heap m) (N : News h₀ L s.heap news) (hm : (q, methodObj f self) ∈ news)
    (h : ∀ q2 h', Fr h₀ L h' m → News h₀ L h' ((q2, ciObj (.ref q) sent false) :: news) → (∀ p ∈ news, p.1 < q2) → Q (.ref q2) { s with heap := h' }) :
    wpAny (model prog w) A (call (.builtin "iter") [.ref q, sent]) Q E s :=
  iter2 (T := "method") ⟨_, (N _ hm).1, rfl⟩ call_of_method (h _ _ (F.push _) (N.push F _) fun p hp => Heap.lt_size (N p hp).1)
theorem pyIter_ci_N {it : Addr} {f sent : Value} {b : Bool} {Q : Value → Shared → Prop} (N : News h₀ L s.heap news) (hm : (it, ciObj f sent b) ∈ news) (h : Q (.ref it) s) : wpAny (model prog w) A (pyIter (.ref it)) Q E s :=
  pyIter_ci (N _ hm).1 h
end
end
section
set_option maxHeartbeats 1000000
open PySem.Calls PySem.Builtin
def wsc (c : Nat) : Bool := c == 10 || c == 9 || c == 13 || c == 32
def inner (stop : Nat → Bool) : List Nat → List Nat × List Nat
  | [] => ([], [])
  | c :: r => if stop c then ([], r) else if c = 92 then (match r with | [] => ([], []) | d :: r' => (d :: (inner stop r').1, (inner stop r').2)) else (c :: (inner stop r).1, (inner stop r).2)
def getTok : List Nat → List Nat × List Nat
  | [] => ([], [])
  | c :: r => if wsc c then getTok r else if c = 34 then inner (fun c => c == 34) r else if c = 92 then (match r with | [] => ([], []) | d :: r' => (d :: (inner wsc r').1, (inner wsc r').2)) else (c :: (inner wsc r).1, (inner wsc r).2)
def nlc (l : List Nat) : Int := (l.count 10 : Int)
def at_ (x : Str) (i : Nat) (r : List Nat) : Prop := x.cps.toList.drop i = r
theorem at_cons {x : Str} {i c : Nat} {r : List Nat} (h : at_ x i (c :: r)) : rd x i = ⟨#[c]⟩ ∧ at_ x (i + 1) r := by
  unfold at_ at h
  have h1 : x.cps.toList[i]? = some c := by
    have := congrArg (fun l => l[0]?) h
    simpa using this
  refine ⟨?_, ?_⟩
  · unfold rd
    rw [← Array.getElem?_toList, h1]
  · unfold at_
    rw [← List.drop_drop, h]; rfl
theorem at_nil {x : Str} {i : Nat} (h : at_ x i []) : rd x i = Str.ofString "" ∧ at_ x (i + 1) [] := by
  unfold at_ at h
  have h0 : x.cps.toList.length ≤ i := List.drop_eq_nil_iff.mp h
  have h1 : x.cps.toList[i]? = none := List.getElem?_eq_none h0
  refine ⟨?_, ?_⟩
  · unfold rd
    rw [← Array.getElem?_toList, h1]
  · unfold at_
    exact List.drop_eq_nil_iff.mpr (by omega)
section
variable {prog : Program} {w : World} {A : Around} {E : Value → Shared → Prop} {s : Shared} {h₀ : Heap} {L : Addr} {m : Str → Option Value} {news news' n1 n2 : List (Addr × Obj)}
theorem keep_upd2 {a b : Addr} {o o' p p' : Obj} {h h' : Heap} (F : Fr h₀ L h m) (N : News h₀ L h news) (U1 : Upd a o o' news n1) (U2 : Upd b p p' n1 n2) (hab : a ≠ b) (hk : Keeps [a, b] h h') (ha : h'.get? a = some o') (hb : h'.get? b = some p') : Fr h₀ L h' m ∧ News h₀ L h' n2 := by
  obtain ⟨pre, post, rfl, e1, x1, y1⟩ := U1.split
  obtain ⟨pre2, post2, e2, rfl, x2, y2⟩ := U2.split
  have N1 : ∀ q ∈ n1, q.1 ≠ b → h'.get? q.1 = some q.2 ∧ q.1 ≠ L ∧ h₀.get? q.1 = none := fun q hq hqb => by
    rw [e1] at hq
    rcases List.mem_append.mp hq with hq | hq
    · have := N q (List.mem_append_left _ hq)
      exact ⟨hk.2 _ _ this.1 (by simp [x1 q hq, hqb]), this.2⟩
    · rcases List.mem_cons.mp hq with rfl | hq
      · exact ⟨ha, (N (a, o) (List.mem_append_right _ (.head _))).2⟩
      · have := N q (List.mem_append_right _ (.tail _ hq))
        exact ⟨hk.2 _ _ this.1 (by simp [y1 q hq, hqb]), this.2⟩
  have Lb : b ≠ L ∧ h₀.get? b = none := by
    have hm : (b, p) ∈ n1 := e2 ▸ List.mem_append_right _ (.head _)
    rw [e1] at hm
    rcases List.mem_append.mp hm with hm | hm
    · exact (N _ (List.mem_append_left _ hm)).2
    · rcases List.mem_cons.mp hm with hm | hm
      · injection hm with e _; exact (hab e.symm).elim
      · exact (N _ (List.mem_append_right _ (.tail _ hm))).2
  have La := (N (a, o) (List.mem_append_right _ (.head _))).2
  obtain ⟨oL, es, ep, hL, r⟩ := F.ns
  have hL' : h'.get? L = some oL := hk.2 L oL hL (by simp [Ne.symm La.1, Ne.symm Lb.1])
  refine ⟨⟨⟨oL, es, ep, hL', r⟩, fun c ob e => hk.2 c ob (F.keep c ob e) (fun q => by
    simp only [List.mem_cons, List.not_mem_nil, or_false] at q
    rcases q with rfl | rfl
    · rw [La.2] at e; cases e
    · rw [Lb.2] at e; cases e), F.above⟩, fun q hq => ?_⟩
  rcases List.mem_append.mp hq with hq | hq
  · exact N1 q (e2 ▸ List.mem_append_left _ hq) (x2 q hq)
  · rcases List.mem_cons.mp hq with rfl | hq
    · exact ⟨hb, Lb⟩
    · exact N1 q (e2 ▸ List.mem_append_right _ (.tail _ hq)) (y2 q hq)
theorem own_of {l : List (Addr × Obj)} {h : Heap} (N : News h₀ L h news) (hl : ∀ q ∈ l, q ∈ news) : Own h₀ h l := fun q hq => ⟨(N q (hl q hq)).1, (N q (hl q hq)).2.2⟩
end
def MyFor (prog : Program) (w : World) (A : Around) (x : Str) (px : Pos) (env : Env) (body : List Stmt) (Q : Flow → Shared → Prop) (it : Value) (s : Shared) : Prop :=
  codeAny (model prog w) A (.forLoop (.Name x px) it body [] env) (fun r s' => match r with | .ok f => Q f s' | .error _ => False) s
def Turned (n : Nat) (J : Nat → Shared → Prop) (s : Shared) : Prop := ∃ m, m < n ∧ J m s
theorem MyFor.intro {prog : Program} {w : World} {A : Around} {x : Str} {px : Pos} {env : Env} {body : List Stmt} {Q : Flow → Shared → Prop} {it : Value} {s : Shared}
   (J : Nat → Shared → Prop) (n : Nat) (h : J n s) (turn : ∀ n s, J n s → wpAny (model prog w) A (pyNext it) (fun r s₁ => match r with
      | none => Q .next s₁
      | some v => wpAny (model prog w) A (storeName env x v) (fun _ s₂ => wpAny (model prog w) A (execs body env) (fun f s₃ => match f with
          | .next | .cont => Turned n J s₃
          | .brk => Q .next s₃
          | .ret v => Q (.ret v) s₃) (fun _ _ => False) s₂) (fun _ _ => False) s₁) (fun _ _ => False) s) : MyFor prog w A x px env body Q it s := by
  unfold MyFor
  refine codeAny_forLoop J (fun k s' hI => ?_) n h
  refine wpAny_noRaise (wpAny_mono (turn k s' hI) (fun r s₁ hr => ?_) fun _ _ y => y.elim)
  cases r with
  | none => exact wpAny_execs_nil hr
  | some v =>
    refine wpAny_assign_Name (wpAny_noRaise (wpAny_mono hr (fun _ s₂ h₂ => wpAny_noRaise (wpAny_mono h₂ (fun f s₃ h₃ => ?_) fun _ _ y => y.elim)) fun _ _ y => y.elim))
    cases f with
    | next => exact h₃
    | cont => exact h₃
    | brk => exact h₃
    | ret v => exact h₃
theorem For_my {prog : Program} {w : World} {A : Around} {x : Str} {px pos : Pos} {env : Env} {body : List Stmt} {iter : Expr} {Q : Flow → Shared → Prop} {s : Shared}
   (h : wpAny (model prog w) A (eval iter env) (fun xv s₁ => wpAny (model prog w) A (pyIter xv) (fun it s₂ => MyFor prog w A x px env body Q it s₂) (fun _ _ => False) s₁) (fun _ _ => False) s)
   (hs : ∀ x, foldedSetIterable iter env x = pure x := by intro _; rfl) :
   wpAny (model prog w) A (exec (.For (.Name x px) iter body [] pos) env) Q (fun _ _ => False) s := by
  refine wpAny_For (wpAny_mono h (fun xv s₁ h₁ => wpAny_mono h₁ (fun it s₂ h₂ => ?_) fun _ _ e => e) fun _ _ e => e) hs
  refine codeAny_mono h₂ fun r s' hr => ?_
  cases r with
  | ok f => exact hr
  | error e => exact hr.elim
theorem eqGives_str (a b : Str) (t u : Tok) : MeetsSeq.EqGives (.str a t) (.str b u) (a == b) := fun _ _ _ _ _ _ h => by
  first | exact wpAny_eqBool_str h | exact eqBool_str h
end
section
set_option maxHeartbeats 1000000
open PySem.Calls PySem.Builtin
section
variable {prog : Program} {w : World} {dp un : Nat} {fr : Option (List Env)} {gd : Option (List Code)} {s : Shared} {B : Heap} {p : Program} {loose : List Str} {mean : ExcName → Option Value} {mg mb : Str → Option Value}
variable {L : Addr} {m : Str → Option Value}
theorem rc_fn {h : Heap} (X : (hd.heap_39 w.params).In h) : ∃ o fd, h.get? 35 = some o ∧ o.data = .func fd := ⟨_, _, X _ _ (by k_is), rfl⟩
def Sys.addrs (S : Sys) : List Addr := [S.x, S.dx, S.pb, S.stm, S.sd, S.lam, S.c, S.c', S.it]
abbrev ciO (q : Addr) (ts : Tok) : Obj := ciObj (.ref q) (.str (Str.ofString "") ts) false
abbrev led (S : Sys) (P : Params) (q2 q : Addr) (ci : Obj) (kl : Int) (t5 : Tok) (n i : Nat) : List (Addr × Obj) := (q2, ci) :: (q, methodObj (.ref 35) (.ref S.x)) :: S.pre P kl t5 [] n i
theorem nl_cons (c : Nat) (r : List Nat) (kl : Int) : kl + nl ⟨#[c]⟩ = kl + (nlc (c :: r) - nlc r) := by
  unfold nl nlc
  rw [List.count_cons]
  by_cases h : c = 10
  · subst h
    rw [if_pos (by decide)]
    simp only [beq_self_eq_true, if_true]
    omega
  · rw [if_neg (by
      intro e
      have e := eq_of_beq e
      have : (⟨#[c]⟩ : Str).cps = #[10] := congrArg Str.cps e
      simp at this; exact h this)]
    simp [h]
theorem next_read {S : Sys} {q2 q : Addr} {ts t5 : Tok} {K0 : Int} {n i : Nat} {r : List Nat} {Q : Option Value → Shared → Prop} {E : Value → Shared → Prop} (X : (hd.heap_39 w.params).In B) (T : Top p loose mean mg mb B) (G : S.Good) (room : dp + 1 < recursionLimit)
   (F : Fr B L s.heap m) (N : News B L s.heap (led S w.params q2 q (ciO q ts) (K0 - nlc r) t5 n i)) (hq : ∀ a ∈ q :: S.addrs, a < q2) (hq' : ∀ a ∈ S.addrs, a < q) (ha : at_ S.txt i r)
   (hi : ∀ c r', r = c :: r' → ∀ h' tk' t t5', at_ S.txt (i + 1) r' → Fr B L h' m → News B L h' (led S w.params q2 q (ciO q ts) (K0 - nlc r') t5' n (i + 1)) → Q (some (.str ⟨#[c]⟩ t)) { s with heap := h', toks := tk' })
   (he : r = [] → ∀ h' tk' t5', at_ S.txt (i + 1) [] → Fr B L h' m → News B L h' (led S w.params q2 q (ciObj .none .none true) (K0 - nlc []) t5' n (i + 1)) → Q none { s with heap := h', toks := tk' }) :
   wpAny (model prog w) (Ar dp un fr gd) (pyNext (.ref q2)) Q E s := by
  obtain ⟨o, fd, ho, hfd⟩ := rc_fn X
  have n1 := (N (q2, ciO q ts) (by k_mem)).1
  have n2 := (N (q, methodObj (.ref 35) (.ref S.x)) (by k_mem)).1
  have H := own_of (l := S.pre w.params (K0 - nlc r) t5 [] n i) N (fun q hq => .tail _ (.tail _ hq))
  obtain ⟨⟨e1, e2, e3, e4, e5, e6, e7, e8⟩, ⟨f1, f2, f3, f4, f5, f6, f7⟩, g1, g2, g3, g4, g5, g6⟩ := S.apart G H
  simp only [Sys.addrs, List.forall_mem_cons] at hq hq'
  obtain ⟨l0, l1, l2, l3, l4, l5, l6, l7, l8, l9, _⟩ := hq
  obtain ⟨k1, k2, k3, k4, k5, k6, k7, k8, k9, _⟩ := hq'
  have lt2 : @LT.lt Nat _ q q2 := l0
  replace l1 : @LT.lt Nat _ S.x q2 := l1
  replace l2 : @LT.lt Nat _ S.dx q2 := l2
  replace l9 : @LT.lt Nat _ S.it q2 := l9
  replace l3 : @LT.lt Nat _ S.pb q2 := l3
  replace l4 : @LT.lt Nat _ S.stm q2 := l4
  replace l5 : @LT.lt Nat _ S.sd q2 := l5
  replace l6 : @LT.lt Nat _ S.lam q2 := l6
  replace l7 : @LT.lt Nat _ S.c q2 := l7
  replace l8 : @LT.lt Nat _ S.c' q2 := l8
  replace k2 : @LT.lt Nat _ S.dx q := k2
  replace k9 : @LT.lt Nat _ S.it q := k9
  have dn : @Ne Nat q2 S.dx := by omega
  have dn' : @Ne Nat q2 S.it := by omega
  have dm : @Ne Nat q S.dx := by omega
  have dm' : @Ne Nat q S.it := by omega
  refine pyNext_ci rfl n1 (borrows_meth n2 (F.keep _ _ ho) hfd) (method_call n2 ?_)
  refine rc_spec ⟨X, T, F.keep⟩ G H room fun t' t5' h' tk' a b k => ?_
  have FN := keep_upd2 F N (by show Upd S.dx (S.lexO w.params (K0 - nlc r) t5) (S.lexO w.params (K0 - nlc r + nl (rd S.txt i)) t5') _ _; k_upd) (by show Upd S.it (rdObj S.txt S.tt i) (rdObj S.txt S.tt (i + 1)) _ _; k_upd) e8.symm k a b
  obtain ⟨F', N'⟩ := FN
  refine ⟨_, _, rfl, (N' (q2, ciO q ts) (by k_mem)).1, eqGives_str _ _ _ _, fun hb => ?_, fun hb => ⟨borrows_meth (N' (q, methodObj (.ref 35) (.ref S.x)) (by k_mem)).1 (F'.keep _ _ ho) hfd, fun h'' hx hc => ?_⟩⟩
  · cases r with
    | nil => rw [(at_nil ha).1] at hb; exact absurd hb (by decide)
    | cons c r' =>
      have ac := at_cons ha
      rw [ac.1] at N' ⊢
      rw [nl_cons c r', show K0 - nlc (c :: r') + (nlc (c :: r') - nlc r') = K0 - nlc r' by omega] at N'
      exact hi c r' rfl h' tk' t' t5' ac.2 F' N'
  · cases r with
    | cons c r' =>
      rw [(at_cons ha).1] at hb
      have := congrArg Str.cps (eq_of_beq hb).symm
      have : #[c] = #[] := this
      simp at this
    | nil =>
      have ac := at_nil ha
      rw [ac.1] at N'
      have hz : nl (Str.ofString "") = 0 := by decide
      rw [hz, Int.add_zero] at N'
      obtain ⟨F'', N''⟩ := upd_ext F' N' (by show Upd q2 (ciO q ts) (ciObj .none .none true) _ _; k_upd) hx hc
      exact he rfl h'' tk' t5' ac.2 F'' N''
theorem read_call {S : Sys} {q2 q : Addr} {t5 : Tok} {K0 : Int} {ci : Obj} {n i : Nat} {r : List Nat} {Q : Value → Shared → Prop} {E : Value → Shared → Prop} (X : (hd.heap_39 w.params).In B) (T : Top p loose mean mg mb B) (G : S.Good) (room : dp + 1 < recursionLimit)
   (F : Fr B L s.heap m) (N : News B L s.heap (led S w.params q2 q ci (K0 - nlc r) t5 n i)) (hq : ∀ a ∈ q :: S.addrs, a < q2) (hq' : ∀ a ∈ S.addrs, a < q) (ha : at_ S.txt i r)
   (hi : ∀ c r', r = c :: r' → ∀ h' tk' t t5', at_ S.txt (i + 1) r' → Fr B L h' m → News B L h' (led S w.params q2 q ci (K0 - nlc r') t5' n (i + 1)) → Q (.str ⟨#[c]⟩ t) { s with heap := h', toks := tk' })
   (he : r = [] → ∀ h' tk' t t5', at_ S.txt (i + 1) [] → Fr B L h' m → News B L h' (led S w.params q2 q ci (K0 - nlc []) t5' n (i + 1)) → Q (.str (Str.ofString "") t) { s with heap := h', toks := tk' }) :
   wpAny (model prog w) (Ar dp un fr gd) (call (.ref 35) [.ref S.x]) Q E s := by
  have H := own_of (l := S.pre w.params (K0 - nlc r) t5 [] n i) N (fun q hq => .tail _ (.tail _ hq))
  obtain ⟨⟨e1, e2, e3, e4, e5, e6, e7, e8⟩, ⟨f1, f2, f3, f4, f5, f6, f7⟩, g1, g2, g3, g4, g5, g6⟩ := S.apart G H
  simp only [Sys.addrs, List.forall_mem_cons] at hq hq'
  obtain ⟨l0, l1, l2, l3, l4, l5, l6, l7, l8, l9, _⟩ := hq
  obtain ⟨k1, k2, k3, k4, k5, k6, k7, k8, k9, _⟩ := hq'
  have lt2 : @LT.lt Nat _ q q2 := l0
  replace l2 : @LT.lt Nat _ S.dx q2 := l2
  replace l9 : @LT.lt Nat _ S.it q2 := l9
  replace k2 : @LT.lt Nat _ S.dx q := k2
  replace k9 : @LT.lt Nat _ S.it q := k9
  have dn : @Ne Nat q2 S.dx := by omega
  have dn' : @Ne Nat q2 S.it := by omega
  have dm : @Ne Nat q S.dx := by omega
  have dm' : @Ne Nat q S.it := by omega
  refine wpAny_call (rc_spec ⟨X, T, F.keep⟩ G H room fun t' t5' h' tk' a b k => ?_)
  have FN := keep_upd2 F N (by show Upd S.dx (S.lexO w.params (K0 - nlc r) t5) (S.lexO w.params (K0 - nlc r + nl (rd S.txt i)) t5') _ _; k_upd) (by show Upd S.it (rdObj S.txt S.tt i) (rdObj S.txt S.tt (i + 1)) _ _; k_upd) e8.symm k a b
  obtain ⟨F', N'⟩ := FN
  cases r with
  | nil =>
    have ac := at_nil ha
    rw [ac.1] at N' ⊢
    have hz : nl (Str.ofString "") = 0 := by decide
    rw [hz, Int.add_zero] at N'
    exact he rfl h' tk' t' t5' ac.2 F' N'
  | cons c r' =>
    have ac := at_cons ha
    rw [ac.1] at N' ⊢
    rw [nl_cons c r', show K0 - nlc (c :: r') + (nlc (c :: r') - nlc r') = K0 - nlc r' by omega] at N'
    exact hi c r' rfl h' tk' t' t5' ac.2 F' N'
end
end
section
set_option maxHeartbeats 2000000
open PySem.Calls PySem.Builtin
def mm (c : Option Value) (tok fi x : Value) (y : Str) : Option Value :=
  if y = Str.ofString "ch" then c else if y = Str.ofString "token" then some tok else if y = Str.ofString "fiter" then some fi else List.lookup y [(Str.ofString "self", x)].reverse
abbrev act (q : Addr) (ts : Tok) : Obj := ciObj (.ref q) (.str (Str.ofString "") ts) false
structure St (S : Sys) (P : Params) (s : Shared) (g : Heap) (L : Addr) (q2 q : Addr) (n : Nat) (K0 : Int) (ci : Obj) (acc r : List Nat) (s' : Shared) : Prop where
  h : ∃ h' tk t5 i t c, s' = { s with heap := h', toks := tk } ∧ Fr g L h' (mm c (.str ⟨acc.toArray⟩ t) (.ref q2) (.ref S.x)) ∧ News g L h' (led S P q2 q ci (K0 - nlc r) t5 n i) ∧ at_ S.txt i r
theorem mm_new (tok fi x : Value) : (fun y => if y = Str.ofString "fiter" then some fi else if y = Str.ofString "token" then some tok else List.lookup y [(Str.ofString "self", x)].reverse) = mm none tok fi x := by
  funext y
  unfold mm
  by_cases h1 : y = Str.ofString "fiter"
  · subst h1; rfl
  · by_cases h2 : y = Str.ofString "token"
    · subst h2; rfl
    · by_cases h3 : y = Str.ofString "ch"
      · subst h3; rfl
      · simp only [h1, h2, h3, if_false]
theorem mm_ch (c : Option Value) (v tok fi x : Value) : (fun y => if y = Str.ofString "ch" then some v else mm c tok fi x y) = mm (some v) tok fi x := by
  funext y
  unfold mm
  by_cases h3 : y = Str.ofString "ch"
  · simp only [h3, if_true]
  · simp only [h3, if_false]
theorem mm_tok (c : Option Value) (v tok fi x : Value) : (fun y => if y = Str.ofString "token" then some v else mm c tok fi x y) = mm c v fi x := by
  funext y
  unfold mm
  by_cases h3 : y = Str.ofString "token"
  · subst h3; rfl
  · simp only [h3, if_false]
theorem occ_ws (c : Nat) : (Str.occurrences (Str.ofString "\n\t\x0d ") ⟨#[c]⟩ 0 (Str.ofString "\n\t\x0d ").length 1).isEmpty = !wsc c := by
  have h := StrLaws.found_one (Str.ofString "\n\t\x0d ") c
  rw [← Bool.not_not (Str.occurrences _ _ _ _ _).isEmpty, h]
  congr 1
  have e : (Str.ofString "\n\t\x0d ").cps.toList = [10, 9, 13, 32] := by decide
  rw [e]
  unfold wsc
  simp [Bool.or_assoc]
  rfl
theorem one_eq (c d : Nat) : ((⟨#[c]⟩ : Str) == ⟨#[d]⟩) = (c == d) := by
  rw [Bool.eq_iff_iff, beq_iff_eq, beq_iff_eq]
  constructor
  · intro h
    have := congrArg Str.cps h
    simpa using this
  · rintro rfl; rfl
theorem one_q (c : Nat) : ((⟨#[c]⟩ : Str) == Str.ofString "\"") = (c == 34) := one_eq c 34
theorem one_b (c : Nat) : ((⟨#[c]⟩ : Str) == Str.ofString "\\") = (c == 92) := one_eq c 92
def gtDef : List Stmt × Scope := match (PySem.Challenge.pw_wk0010_01.main.body[1]? : Option Stmt) with
  | some (.ClassDef _ _ _ b _ _ _ _ _ _ _) => (match (b[2]? : Option Stmt) with | some (.FunctionDef _ _ b _ _ _ sc _ _ _) => (b, sc) | _ => default)
  | _ => default
def forBody (s : Option Stmt) : List Stmt := match s with | some (.For _ _ b _ _) => b | _ => []
def gtO : List Stmt := forBody gtDef.1[3]?
def gtQ : List Stmt := match (gtO[1]? : Option Stmt) with | some (.If _ b _ _) => forBody b[0]? | _ => []
def gtB : List Stmt := match (gtO[1]? : Option Stmt) with | some (.If _ _ b _) => forBody b[2]? | _ => []
abbrev gtEnv (sc : Scope) (L : Addr) : Env := envX (Str.ofString "_netrclex.get_token") sc L 42 (.ref 41) []
def InnerSpec (stop : Nat → Bool) (bs : List Stmt × Scope) : Prop := ∀ {prog : Program} {w : World} {dp un : Nat} {fr : Option (List Env)} {gd : Option (List Code)} {s s' : Shared} {g : Heap} {p : Program} {loose : List Str} {mean : ExcName → Option Value} {mg mb : Str → Option Value}
  {S : Sys} {L q2 q : Addr} {n : Nat} {K0 : Int} {ts : Tok} {acc r : List Nat} {px : Pos} {Q : Flow → Shared → Prop} (_ : (hd.heap_39 w.params).In g) (_ : Top p loose mean mg mb g) (_ : S.Good) (_ : dp + 3 < recursionLimit)
  (_ : ∀ a ∈ q :: S.addrs, a < q2) (_ : ∀ a ∈ S.addrs, a < q) (_ : St S w.params s g L q2 q n K0 (act q ts) acc r s') (_ : acc.length + r.length ≤ 1000)
  (_ : ∀ t s'', St S w.params s g L q2 q n K0 (act q ts) (acc ++ (inner stop r).1) (inner stop r).2 s'' → Q (.ret (.str ⟨(acc ++ (inner stop r).1).toArray⟩ t)) s'')
  (_ : (inner stop r).2 = [] → ∀ s'', St S w.params s g L q2 q n K0 (ciObj .none .none true) (acc ++ (inner stop r).1) [] s'' → Q .next s''),
  MyFor prog w ((Ar dp un fr gd).deeper (gtEnv bs.2 L)) (Str.ofString "ch") px (gtEnv bs.2 L) bs.1 Q (.ref q2) s'
theorem mm_ch' (y : Str) (c : Option Value) (v tok fi x : Value) : (if y = Str.ofString "ch" then some v else mm c tok fi x y) = mm (some v) tok fi x y := congrFun (mm_ch c v tok fi x) y
theorem mm_tok' (y : Str) (c : Option Value) (v tok fi x : Value) : (if y = Str.ofString "token" then some v else mm c tok fi x y) = mm c v fi x y := congrFun (mm_tok c v tok fi x) y
theorem str_snoc (l : List Nat) (c : Nat) : (⟨l.toArray⟩ : Str) ++ (⟨#[c]⟩ : Str) = ⟨(l ++ [c]).toArray⟩ := by
  show Str.mk (l.toArray ++ #[c]) = _
  simp
theorem str_nil (l : List Nat) : (⟨l.toArray⟩ : Str) ++ Str.ofString "" = ⟨l.toArray⟩ := by
  show Str.mk (l.toArray ++ #[]) = _
  simp
theorem inner_stop {stop : Nat → Bool} {c : Nat} {r : List Nat} (h : stop c = true) : inner stop (c :: r) = ([], r) := by unfold inner; rw [if_pos h]
theorem inner_esc {stop : Nat → Bool} {c d : Nat} {r : List Nat} (h : stop c = false) (h2 : (c == 92) = true) : inner stop (c :: d :: r) = (d :: (inner stop r).1, (inner stop r).2) := by
  rw [inner, if_neg (by rw [h]; decide), if_pos (beq_iff_eq.mp h2)]
theorem inner_esc0 {stop : Nat → Bool} {c : Nat} (h : stop c = false) (h2 : (c == 92) = true) : inner stop [c] = ([], []) := by
  rw [inner, if_neg (by rw [h]; decide), if_pos (beq_iff_eq.mp h2)]
theorem inner_plain {stop : Nat → Bool} {c : Nat} {r : List Nat} (h : stop c = false) (h2 : (c == 92) = false) : inner stop (c :: r) = (c :: (inner stop r).1, (inner stop r).2) := by
  rw [inner.eq_def]
  show (if _ then _ else if _ then _ else _) = _
  rw [if_neg (by rw [h]; decide), if_neg (by intro e; rw [e] at h2; cases h2)]
section
end
end
local macro_rules | `(tactic| walk_at "mq4") => `(tactic| (k_here; (with_reducible show wpAny _ _ (truthy (Value.ref _)) _ _ _); k_dflt (refine' truthy_N (vs := []) ?N ?m ?z ?_; (case N => k_asm); (case m => k_mem); (case z => exact Nat.zero_le _)); (try simp only [List.isEmpty_cons, List.isEmpty_nil, Bool.not_false, Bool.not_true])))
local macro_rules | `(tactic| walk_at "mq5") => `(tactic| (k_here; (with_reducible show wpAny _ _ (call (Value.builtin _) [Value.ref _, Value.str _ _]) _ _ _); k_dflt (refine' iter2_N ?F ?N ?m ?_; (case F => k_asm); (case N => k_asm); (case m => k_mem)); intro q2 h' F' N' lt2; k_lt lt2))
local macro_rules | `(tactic| walk_at "mq6") => `(tactic| (k_here; k_dflt (refine' pyIter_ci_N ?N ?m ?_; (case N => k_asm); (case m => k_mem))))
local macro_rules | `(tactic| walk_at "mq7") => `(tactic| (k_here; (rename News _ _ _ _ => kN); (rename Fr _ _ _ _ => kF); (rename Top _ _ _ _ _ _ => kT); (rename Frag.In _ _ => kX); (rename Sys.Good _ => kG); (rename at_ _ _ _ => kA); (rename (∀ a ∈ _ :: Sys.addrs _, a < _) => kQ); (rename (∀ a ∈ Sys.addrs _, a < _) => kQ'); (with_unfolding_all refine' read_call kX kT kG ?room kF kN kQ kQ' kA ?hi ?he; (case room => (dsimp only [Around.deeper, Ar]; omega))); (all_goals first | (intro c2 r2 hr2 h' tk' t t5' ha' F' N') | (intro hr2 h' tk' t t5' ha' F' N')); all_goals clear kN kF kA))
section
set_option maxHeartbeats 2000000
open PySem.Calls PySem.Builtin
section
local macro_rules | `(tactic| walk_at "truthy ref") => `(tactic| walk_at "mq4")
local macro_rules | `(tactic| walk_at "call builtin:iter") => `(tactic| walk_at "mq5")
local macro_rules | `(tactic| walk_at "pyIter ref") => `(tactic| walk_at "mq6")
local macro_rules | `(tactic| walk_at "exec For Name Name cons nil") => `(tactic| (k_here; (with_unfolding_all refine' For_my ?k2 ?k1; (case k1 => exact fun _ => rfl))))
local macro_rules | `(tactic| walk_at "call ref") => `(tactic| walk_at "mq7")
theorem inB : InnerSpec wsc (gtB, gtDef.2) := by
  show InnerSpec wsc (_ :: _, Scope.mk _ _ _ _ _)
  unfold InnerSpec
  intro prog w dp un fr gd s s' g p loose mean mg mb S L q2 q n K0 ts acc r px Q X T G hd hq hq' hs hsz kr kn
  refine MyFor.intro (fun k s' => ∃ acc' r', St S w.params s g L q2 q n K0 (act q ts) acc' r' s' ∧ acc' ++ (inner wsc r').1 = acc ++ (inner wsc r).1 ∧ (inner wsc r').2 = (inner wsc r).2 ∧ acc'.length + r'.length ≤ 1000 ∧ r'.length = k) r.length ⟨acc, r, hs, rfl, rfl, hsz, rfl⟩ ?_
  clear hs hsz
  rintro k s' ⟨acc', r', ⟨⟨h', tk', t5', i', t, c, rfl, F, N, ha⟩⟩, hg1, hg2, hsz, rfl⟩
  refine next_read X T G (by show dp + 1 + 1 < _; omega) F N hq hq' ha (fun c1 r1 hr1 h2 tk2 tc t52 ha2 F2 N2 => ?_) (fun hr1 h2 tk2 t52 ha2 F2 N2 => ?_)
  · clear F N ha
    refine wpAny_storeName_local rfl F2.ns (fun h3 hn3 hs3 => ?_)
    have F3 := F2.set hn3 hs3
    have N3 := N2.set hs3
    clear F2 N2 hn3 hs3
    k_steps
    all_goals simp only [occ_ws, one_q, one_b, mm_ch', mm_tok', str_snoc, str_nil, Bool.not_eq_eq_eq_not, Bool.not_true, Bool.not_false] at *
    · rename (wsc c1 = false) => hst
      rename ((c1 == 92) = true) => hb
      rename Fr _ _ _ _ => F5
      rename News _ _ _ _ => N5
      rename at_ _ _ _ => a5
      rename (r1 = _ :: _) => hr2
      subst hr2; subst hr1
      rw [inner_esc (stop := wsc) hst hb] at hg1 hg2
      refine ⟨_, ?_, acc' ++ [_], _, ⟨⟨_, _, _, _, _, _, rfl, F5, N5, a5⟩⟩, ?_, hg2, ?_, rfl⟩
      · simp only [List.length_cons]; omega
      · rw [← hg1]; simp
      · simp only [List.length_append, List.length_cons, List.length_nil] at *; omega
    · rename (wsc c1 = false) => hst
      rename ((c1 == 92) = true) => hb
      rename Fr _ _ _ _ => F5
      rename News _ _ _ _ => N5
      rename at_ _ _ _ => a5
      rename (r1 = []) => hr2
      subst hr2; subst hr1
      rw [inner_esc0 (stop := wsc) hst hb] at hg1 hg2
      refine ⟨_, ?_, acc', [], ⟨⟨_, _, _, _, _, _, rfl, F5, N5, a5⟩⟩, hg1, hg2, ?_, rfl⟩
      · simp only [List.length_cons, List.length_nil]; omega
      · simp only [List.length_cons, List.length_nil] at *; omega
    · rename (wsc c1 = false) => hst
      rename ((c1 == 92) = false) => hb
      rename Fr _ _ _ _ => F5
      rename News _ _ _ _ => N5
      rename at_ _ _ _ => a5
      subst hr1
      rw [inner_plain (stop := wsc) hst hb] at hg1 hg2
      refine ⟨_, ?_, acc' ++ [c1], _, ⟨⟨_, _, _, _, _, _, rfl, F5, N5, a5⟩⟩, ?_, hg2, ?_, rfl⟩
      · simp only [List.length_cons]; omega
      · rw [← hg1]; simp
      · simp only [List.length_append, List.length_cons, List.length_nil] at *; omega
    · rename (wsc c1 = true) => hst
      rename Fr _ _ _ _ => F5
      rename News _ _ _ _ => N5
      rename at_ _ _ _ => a5
      subst hr1
      rw [inner_stop (stop := wsc) hst, List.append_nil] at hg1
      rw [inner_stop (stop := wsc) hst] at hg2
      rw [← hg1, ← hg2] at kr
      exact kr _ _ ⟨⟨_, _, _, _, _, _, rfl, F5, N5, a5⟩⟩
  · subst hr1
    rw [show inner wsc [] = ([], []) from rfl, List.append_nil] at hg1
    refine kn hg2.symm _ ?_
    rw [← hg1]
    exact ⟨⟨_, _, _, _, _, _, rfl, F2, N2, ha2⟩⟩
theorem inQ : InnerSpec (fun c => c == 34) (gtQ, gtDef.2) := by
  show InnerSpec (fun c => c == 34) (_ :: _, Scope.mk _ _ _ _ _)
  unfold InnerSpec
  intro prog w dp un fr gd s s' g p loose mean mg mb S L q2 q n K0 ts acc r px Q X T G hd hq hq' hs hsz kr kn
  refine MyFor.intro (fun k s' => ∃ acc' r', St S w.params s g L q2 q n K0 (act q ts) acc' r' s' ∧ acc' ++ (inner (fun c => c == 34) r').1 = acc ++ (inner (fun c => c == 34) r).1 ∧ (inner (fun c => c == 34) r').2 = (inner (fun c => c == 34) r).2 ∧ acc'.length + r'.length ≤ 1000 ∧ r'.length = k) r.length ⟨acc, r, hs, rfl, rfl, hsz, rfl⟩ ?_
  clear hs hsz
  rintro k s' ⟨acc', r', ⟨⟨h', tk', t5', i', t, c, rfl, F, N, ha⟩⟩, hg1, hg2, hsz, rfl⟩
  refine next_read X T G (by show dp + 1 + 1 < _; omega) F N hq hq' ha (fun c1 r1 hr1 h2 tk2 tc t52 ha2 F2 N2 => ?_) (fun hr1 h2 tk2 t52 ha2 F2 N2 => ?_)
  · clear F N ha
    refine wpAny_storeName_local rfl F2.ns (fun h3 hn3 hs3 => ?_)
    have F3 := F2.set hn3 hs3
    have N3 := N2.set hs3
    clear F2 N2 hn3 hs3
    k_steps
    all_goals simp only [occ_ws, one_q, one_b, mm_ch', mm_tok', str_snoc, str_nil, Bool.not_eq_eq_eq_not, Bool.not_true, Bool.not_false] at *
    · rename ((c1 == 34) = true) => hst
      rename Fr _ _ _ _ => F5
      rename News _ _ _ _ => N5
      rename at_ _ _ _ => a5
      subst hr1
      rw [inner_stop (stop := (fun c => c == 34)) hst, List.append_nil] at hg1
      rw [inner_stop (stop := (fun c => c == 34)) hst] at hg2
      rw [← hg1, ← hg2] at kr
      exact kr _ _ ⟨⟨_, _, _, _, _, _, rfl, F5, N5, a5⟩⟩
    · rename ((c1 == 34) = false) => hst
      rename ((c1 == 92) = true) => hb
      rename Fr _ _ _ _ => F5
      rename News _ _ _ _ => N5
      rename at_ _ _ _ => a5
      rename (r1 = _ :: _) => hr2
      subst hr2; subst hr1
      rw [inner_esc (stop := (fun c => c == 34)) hst hb] at hg1 hg2
      refine ⟨_, ?_, acc' ++ [_], _, ⟨⟨_, _, _, _, _, _, rfl, F5, N5, a5⟩⟩, ?_, hg2, ?_, rfl⟩
      · simp only [List.length_cons]; omega
      · rw [← hg1]; simp
      · simp only [List.length_append, List.length_cons, List.length_nil] at *; omega
    · rename ((c1 == 34) = false) => hst
      rename ((c1 == 92) = true) => hb
      rename Fr _ _ _ _ => F5
      rename News _ _ _ _ => N5
      rename at_ _ _ _ => a5
      rename (r1 = []) => hr2
      subst hr2; subst hr1
      rw [inner_esc0 (stop := (fun c => c == 34)) hst hb] at hg1 hg2
      refine ⟨_, ?_, acc', [], ⟨⟨_, _, _, _, _, _, rfl, F5, N5, a5⟩⟩, hg1, hg2, ?_, rfl⟩
      · simp only [List.length_cons, List.length_nil]; omega
      · simp only [List.length_cons, List.length_nil] at *; omega
    · rename ((c1 == 34) = false) => hst
      rename ((c1 == 92) = false) => hb
      rename Fr _ _ _ _ => F5
      rename News _ _ _ _ => N5
      rename at_ _ _ _ => a5
      subst hr1
      rw [inner_plain (stop := (fun c => c == 34)) hst hb] at hg1 hg2
      refine ⟨_, ?_, acc' ++ [c1], _, ⟨⟨_, _, _, _, _, _, rfl, F5, N5, a5⟩⟩, ?_, hg2, ?_, rfl⟩
      · simp only [List.length_cons]; omega
      · rw [← hg1]; simp
      · simp only [List.length_append, List.length_cons, List.length_nil] at *; omega
  · subst hr1
    rw [show inner (fun c => c == 34) [] = ([], []) from rfl, List.append_nil] at hg1
    refine kn hg2.symm _ ?_
    rw [← hg1]
    exact ⟨⟨_, _, _, _, _, _, rfl, F2, N2, ha2⟩⟩
end
end
section
set_option maxHeartbeats 2000000
open PySem.Calls PySem.Builtin
local macro_rules | `(tactic| walk_at "keepsub") => `(tactic| walk_at "mq2")
theorem getTok_ws {c : Nat} {r : List Nat} (h : wsc c = true) : getTok (c :: r) = getTok r := by
  rw [getTok.eq_def]; show (if _ then _ else if _ then _ else if _ then _ else _) = _; rw [if_pos h]
theorem getTok_q {c : Nat} {r : List Nat} (h : wsc c = false) (h2 : (c == 34) = true) : getTok (c :: r) = inner (fun c => c == 34) r := by
  rw [getTok.eq_def]; show (if _ then _ else if _ then _ else if _ then _ else _) = _; rw [if_neg (by rw [h]; decide), if_pos (beq_iff_eq.mp h2)]
theorem getTok_esc {c d : Nat} {r : List Nat} (h : wsc c = false) (h2 : (c == 34) = false) (h3 : (c == 92) = true) : getTok (c :: d :: r) = (d :: (inner wsc r).1, (inner wsc r).2) := by
  rw [getTok.eq_def]; show (if _ then _ else if _ then _ else if _ then _ else _) = _; rw [if_neg (by rw [h]; decide), if_neg (by intro e; rw [e] at h2; cases h2), if_pos (beq_iff_eq.mp h3)]
theorem getTok_esc0 {c : Nat} (h : wsc c = false) (h2 : (c == 34) = false) (h3 : (c == 92) = true) : getTok [c] = ([], []) := by
  rw [getTok.eq_def]; show (if _ then _ else if _ then _ else if _ then _ else _) = _; rw [if_neg (by rw [h]; decide), if_neg (by intro e; rw [e] at h2; cases h2), if_pos (beq_iff_eq.mp h3)]
theorem getTok_plain {c : Nat} {r : List Nat} (h : wsc c = false) (h2 : (c == 34) = false) (h3 : (c == 92) = false) : getTok (c :: r) = (c :: (inner wsc r).1, (inner wsc r).2) := by
  rw [getTok.eq_def]; show (if _ then _ else if _ then _ else if _ then _ else _) = _; rw [if_neg (by rw [h]; decide), if_neg (by intro e; rw [e] at h2; cases h2), if_neg (by intro e; rw [e] at h3; cases h3)]
section
variable {prog : Program} {w : World} {dp un : Nat} {fr : Option (List Env)} {gd : Option (List Code)} {s : Shared} {B : Heap} {p : Program} {loose : List Str} {mean : ExcName → Option Value} {mg mb : Str → Option Value}
  {R : Result → Shared → Prop}
local macro_rules | `(tactic| walk_at "truthy ref") => `(tactic| walk_at "mq4")
local macro_rules | `(tactic| walk_at "call builtin:iter") => `(tactic| walk_at "mq5")
local macro_rules | `(tactic| walk_at "pyIter ref") => `(tactic| walk_at "mq6")
local macro_rules | `(tactic| walk_at "exec For Name Name cons nil") => `(tactic| (k_here; (with_unfolding_all refine' For_my ?k2 ?k1; (case k1 => exact fun _ => rfl))))
local macro_rules | `(tactic| walk_at "call ref") => `(tactic| walk_at "mq7")
theorem gt_spec {S : Sys} {kl : Int} {t5 : Tok} {n i : Nat} {r : List Nat} (O : Ok (hd.heap_39 w.params) p loose mean mg mb B s.heap) (G : S.Good)
   (H : Own B s.heap (S.pre w.params kl t5 [] n i)) (hr : at_ S.txt i r)
   (hd : dp + 3 < recursionLimit) (hsz : r.length ≤ 1000)
   (k : ∀ t' t5' i' h' tk', at_ S.txt i' (getTok r).2 → h'.get? S.dx = some (S.lexO w.params (kl + nlc r - nlc (getTok r).2) t5') → h'.get? S.it = some (rdObj S.txt S.tt i') → Keeps [S.dx, S.it] s.heap h' → R (.ok (.ret (.str ⟨(getTok r).1.toArray⟩ t'))) {s with heap := h', toks := tk'}) :
   codeAny (model prog w) (Ar dp un fr gd) (.call (.ref 42) ⟨[.ref S.x], []⟩) R s := by
  have D := S.apart G H
  obtain ⟨⟨e1, e2, e3, e4, e5, e6, e7, e8⟩, ⟨f1, f2, f3, f4, f5, f6, f7⟩, g1, g2, g3, g4, g5, g6⟩ := D
  refine enter (binds := [(Str.ofString "self", .ref S.x)]) O H (O.keep _ _ (O.X _ _ (by k_is))) rfl ((codeRec_of O.X (by k_is)).keeps O.keep) (by show dp < _; omega) (BindsTo.of_eq rfl) (locs rfl) (fun g L' h₁ F N X T hL hlt => ?_) (by decide)
  have fin : ∀ q2 q ci acc r' s'' t, St S w.params s g L' q2 q n (kl + nlc r) ci acc r' s'' → acc = (getTok r).1 → r' = (getTok r).2 → MyEnd (S.pre w.params kl t5 [] n i) s g L' R (.ret (.str ⟨acc.toArray⟩ t)) s'' := by
    rintro q2 q ci acc r' s'' t ⟨h', tk', t5', i', t', c, rfl, F, N, ha⟩ rfl rfl
    refine MyEnd.intro F N fun hk hn => ?_
    exact k _ _ _ _ _ ha (hn.get (by k_mem)) (hn.get (by k_mem)) (hk.sub H (by walk_at "keepsub"))
  clear k
  have hsz' := hsz
  dsimp only [Sys.pre, Sys.lexO, Sys.sdO] at *
  clear hlt hL
  k_steps
  all_goals rename News _ _ _ _ => N1
  all_goals rename Fr _ _ _ _ => F1
  rename_i q h4 lt1 q2 h5 lt2 h6
  revert F1 N1
  generalize e0 : ciObj (Value.ref q) _ false = ci0
  intro F1 N1
  refine MyFor.intro (fun k s' => (∃ r', St S w.params s g L' q2 q n (kl + nlc r) ci0 [] r' s' ∧ getTok r' = getTok r ∧ r'.length ≤ 1000 ∧ r'.length + 1 = k) ∨ (St S w.params s g L' q2 q n (kl + nlc r) (ciObj .none .none true) (getTok r).1 [] s' ∧ (getTok r).2 = [] ∧ k = 0)) (r.length + 1) ?_ ?_
  · left
    refine ⟨r, ⟨⟨_, _, t5, i, _, none, rfl, (mm_new _ _ _) ▸ F1, ?_, hr⟩⟩, rfl, hsz', rfl⟩
    rw [show kl + nlc r - nlc r = kl by omega]
    exact N1
  · subst e0
    clear F1 N1
    have hq : ∀ a ∈ q :: S.addrs, a < q2 := by
      obtain ⟨l0, l1, l2, l3, l4, l5, l6, l7, l8, l9⟩ := lt2
      intro a ha
      simp only [Sys.addrs, List.mem_cons, List.not_mem_nil, or_false] at ha
      rcases ha with rfl | rfl | rfl | rfl | rfl | rfl | rfl | rfl | rfl | rfl <;> assumption
    have hq' : ∀ a ∈ S.addrs, a < q := by
      obtain ⟨l1, l2, l3, l4, l5, l6, l7, l8, l9⟩ := lt1
      intro a ha
      simp only [Sys.addrs, List.mem_cons, List.not_mem_nil, or_false] at ha
      rcases ha with rfl | rfl | rfl | rfl | rfl | rfl | rfl | rfl | rfl <;> assumption
    intro k s' hJ
    rcases hJ with ⟨r', ⟨⟨h', tk', t5', i', t, c, rfl, F, N, ha⟩⟩, hg, hsz2, rfl⟩ | ⟨⟨⟨h', tk', t5', i', t, c, rfl, F, N, ha⟩⟩, hg, rfl⟩
    · refine next_read X T G (by show dp + 1 + 1 < _; omega) F N hq hq' ha (fun c1 r1 hr1 h2 tk2 tc t52 ha2 F2 N2 => ?_) (fun hr1 h2 tk2 t52 ha2 F2 N2 => ?_)
      · clear F N ha
        refine wpAny_storeName_local rfl F2.ns (fun h3 hn3 hs3 => ?_)
        have F3 := F2.set hn3 hs3
        have N3 := N2.set hs3
        clear F2 N2 hn3 hs3
        k_steps
        all_goals simp only [occ_ws, one_q, one_b, mm_ch', mm_tok', str_snoc, str_nil, Bool.not_eq_eq_eq_not, Bool.not_true, Bool.not_false] at *
        · rename (wsc c1 = false) => hst
          rename ((c1 == 34) = true) => hb
          subst hr1
          rw [getTok_q hst hb] at hg
          walk_at "exec For Name Name cons nil"
          walk_at "eval Name"
          walk_at "pyIter ref"
          refine inQ (acc := []) (r := r1) X T G hd hq hq' ⟨⟨_, _, _, _, _, _, rfl, F3, N3, ha2⟩⟩ (by simp only [List.length_cons, List.length_nil] at *; omega) (fun t s'' hs => ?_) (fun hn s'' hs => ?_)
          · exact fin _ _ _ _ _ _ _ hs (by rw [← hg]; rfl) (by rw [← hg])
          · refine wpAny_execs_nil (wpAny_execs_nil ?_)
            exact ⟨0, by omega, .inr ⟨by rw [← hg]; exact hs, by rw [← hg]; exact hn, rfl⟩⟩
        · rename (wsc c1 = false) => hst
          rename ((c1 == 34) = false) => hb
          rename ((c1 == 92) = true) => hb2
          rename Fr _ _ _ _ => F5
          rename News _ _ _ _ => N5
          rename at_ _ _ _ => a5
          rename (r1 = _ :: _) => hr2
          rename Frag.In _ _ => X
          rename Top _ _ _ _ _ _ => T
          rename Sys.Good _ => G
          rename (∀ a ∈ _ :: Sys.addrs _, a < _) => hq
          rename (∀ a ∈ Sys.addrs _, a < _) => hq'
          subst hr2; subst hr1
          rw [getTok_esc hst hb hb2] at hg
          walk_at "exec For Name Name cons nil"
          walk_at "eval Name"
          walk_at "pyIter ref"
          refine inB (acc := [_]) X T G hd hq hq' ⟨⟨_, _, _, _, _, _, rfl, F5, N5, a5⟩⟩ (by simp only [List.length_cons, List.length_nil] at *; omega) (fun t s'' hs => ?_) (fun hn s'' hs => ?_)
          · exact fin _ _ _ _ _ _ _ hs (by rw [← hg]; rfl) (by rw [← hg])
          · refine wpAny_execs_nil (wpAny_execs_nil ?_)
            exact ⟨0, by omega, .inr ⟨by rw [← hg]; exact hs, by rw [← hg]; exact hn, rfl⟩⟩
        · rename (wsc c1 = false) => hst
          rename ((c1 == 34) = false) => hb
          rename ((c1 == 92) = true) => hb2
          rename Fr _ _ _ _ => F5
          rename News _ _ _ _ => N5
          rename at_ _ _ _ => a5
          rename (r1 = []) => hr2
          rename Frag.In _ _ => X
          rename Top _ _ _ _ _ _ => T
          rename Sys.Good _ => G
          rename (∀ a ∈ _ :: Sys.addrs _, a < _) => hq
          rename (∀ a ∈ Sys.addrs _, a < _) => hq'
          subst hr2; subst hr1
          rw [getTok_esc0 hst hb hb2] at hg
          walk_at "exec For Name Name cons nil"
          walk_at "eval Name"
          walk_at "pyIter ref"
          refine inB (acc := []) X T G hd hq hq' ⟨⟨_, _, _, _, _, _, rfl, F5, N5, a5⟩⟩ (by simp only [List.length_cons, List.length_nil] at *; omega) (fun t s'' hs => ?_) (fun hn s'' hs => ?_)
          · exact fin _ _ _ _ _ _ _ hs (by rw [← hg]; rfl) (by rw [← hg]; rfl)
          · refine wpAny_execs_nil (wpAny_execs_nil ?_)
            exact ⟨0, by omega, .inr ⟨by rw [← hg]; exact hs, by rw [← hg], rfl⟩⟩
        · rename (wsc c1 = false) => hst
          rename ((c1 == 34) = false) => hb
          rename ((c1 == 92) = false) => hb2
          rename Fr _ _ _ _ => F5
          rename News _ _ _ _ => N5
          rename at_ _ _ _ => a5
          subst hr1
          rw [getTok_plain hst hb hb2] at hg
          walk_at "exec For Name Name cons nil"
          walk_at "eval Name"
          walk_at "pyIter ref"
          refine inB (acc := [c1]) X T G hd hq hq' ⟨⟨_, _, _, _, _, _, rfl, F5, N5, a5⟩⟩ (by simp only [List.length_cons, List.length_nil] at *; omega) (fun t s'' hs => ?_) (fun hn s'' hs => ?_)
          · exact fin _ _ _ _ _ _ _ hs (by rw [← hg]; rfl) (by rw [← hg])
          · refine wpAny_execs_nil (wpAny_execs_nil ?_)
            exact ⟨0, by omega, .inr ⟨by rw [← hg]; exact hs, by rw [← hg]; exact hn, rfl⟩⟩
        · rename (wsc c1 = true) => hst
          subst hr1
          rw [getTok_ws hst] at hg
          exact ⟨_, by simp only [List.length_cons]; omega, .inl ⟨_, ⟨⟨_, _, _, _, _, _, rfl, F3, N3, ha2⟩⟩, hg, by simp only [List.length_cons] at hsz2; omega, rfl⟩⟩
      · subst hr1
        rw [show getTok [] = ([], []) from rfl] at hg
        show wpAny _ _ (execs [_] _) _ _ _
        clear F N ha
        k_steps
        exact fin _ _ _ _ _ _ _ ⟨⟨_, _, _, _, _, _, rfl, F2, N2, ha2⟩⟩ (by rw [← hg]) (by rw [← hg])
    · refine pyNext_ci_done rfl (N (q2, _) (List.Mem.head _)).1 fun h2 hk => ?_
      obtain ⟨F2, N2⟩ := same_keep F N hk
      clear F N
      show wpAny _ _ (execs [_] _) _ _ _
      k_steps
      exact fin _ _ _ _ _ _ _ ⟨⟨_, _, _, _, _, _, rfl, F2, N2, ha⟩⟩ rfl hg.symm
end
end
section
set_option maxHeartbeats 400000
local macro_rules | `(tactic| walk_at "keepsub") => `(tactic| walk_at "mq2")
section
variable {prog : Program} {w : World} {A : Around} {E : Value → Shared → Prop} {s : Shared} {h₀ : Heap} {L : Addr} {m : Str → Option Value} {news news' : List (Addr × Obj)}
theorem iter2f_N {q : Addr} {o : Obj} {sent : Value} {Q : Value → Shared → Prop} (F : Fr h₀ L s.heap m) (N : News h₀ L s.heap news) (hm : (q, o) ∈ news) (hc : o.cls = .type "function")
    (h : ∀ q2 h', Fr h₀ L h' m → News h₀ L h' ((q2, ciObj (.ref q) sent false) :: news) → (∀ p ∈ news, p.1 < q2) → Q (.ref q2) { s with heap := h' }) :
    wpAny (model prog w) A (call (.builtin "iter") [.ref q, sent]) Q E s :=
  iter2 (T := "function") ⟨_, (N _ hm).1, hc⟩ call_of_function (h _ _ (F.push _) (N.push F _) fun p hp => Heap.lt_size (N p hp).1)
end
def turnDef : Arguments × List Stmt × Scope := match (PySem.Challenge.pw_wk0010_01.main.body[15]? : Option Stmt) with
  | some (.FunctionDef _ _ b _ _ _ _ _ _ _) => (match (b[0]? : Option Stmt) with | some (.FunctionDef _ a b _ _ _ sc _ _ _) => (a, b, sc) | _ => default)
  | _ => default
abbrev turnObj (l : Arguments × List Stmt × Scope) (doc pm : Value) (c c' : Addr) (ctv : Value) : Obj := fnMade (Str.ofString "_law_turned") (Str.ofString "_law_ring.<locals>._law_turned") l.1 l.2.1 l.2.2 [(Str.ofString "lexer", c)] doc pm c' ctv
structure Rg where
  (ci f cl c' : Addr)
  (ti tq : Tok)
  (doc pm ctv : Value)
  (oc ocd : Obj)
  (vs : Array Value)
structure Rg.Good (G : Rg) (x : Addr) : Prop where
  o1 : G.oc.data = .cell (some (.ref x))
  o2 : G.ocd.data = .fields G.vs
  o3 : G.vs[1]? = some (.str (Str.ofString "_law_ring.<locals>._law_turned") G.tq)
abbrev Rg.pre (G : Rg) : List (Addr × Obj) := [(G.ci, ciObj (.ref G.f) (.int (-1) G.ti) false), (G.f, turnObj turnDef G.doc G.pm G.cl G.c' G.ctv), (G.cl, G.oc), (G.c', G.ocd)]
abbrev ringTab (c' : Addr) : Obj := tabObj (#[] ++ #[rawInt (102 : Nat), rawInt (4 : Nat), .ref c'])
section
variable {prog : Program} {w : World} {dp un : Nat} {fr : Option (List Env)} {gd : Option (List Code)} {s : Shared} {B : Heap} {p : Program} {loose : List Str} {mean : ExcName → Option Value} {mg mb : Str → Option Value}
  {R : Result → Shared → Prop}
local macro_rules | `(tactic| walk_at "call builtin:iter") => `(tactic| (k_here; (with_reducible show wpAny _ _ (call (Value.builtin _) [Value.ref _, Value.int _ _]) _ _ _); k_dflt (refine' iter2f_N ?F ?N ?m ?c ?_; (case F => k_asm); (case N => k_asm); (case m => k_mem); (case c => rfl)); intro q2 h' F' N' lt2; k_lt lt2))
theorem ring_new {x : Addr} (O : Ok (hd.heap_39 w.params) p loose mean mg mb B s.heap)
   (H : Own B s.heap [(126, tabObj #[])]) 
   (hd : dp < recursionLimit)
   (k : ∀ G h' tk', Rg.Good G x → (∀ q ∈ G.pre, h'.get? q.1 = some q.2 ∧ s.heap.objs.size ≤ q.1) → G.cl < G.c' → G.c' < G.f → G.f < G.ci → h'.get? 126 = some (ringTab G.c') → Keeps [126] s.heap h' → R (.ok (.ret (.ref G.ci))) { s with heap := h', toks := tk' }) :
   codeAny (model prog w) (Ar dp un fr gd) (.call (.ref 131) ⟨[.ref x], []⟩) R s := by
  refine enterC (binds := [(Str.ofString "lexer", .ref x)]) O H (O.keep _ _ (O.X _ _ (by k_is))) rfl ((codeRec_of O.X (by k_is)).keeps O.keep) hd (BindsTo.of_eq rfl) ?_ ?_ (fun g L' h₁ tk cells F N Y X T hL hlt => ?_)
  · intro n x hx
    simp only [List.mem_singleton] at hx
    subst hx
    right
    exact ⟨rfl, rfl⟩
  · decide
  have C : CodeHd g 130 126 := codeHd_of_K X (by rfl)
  obtain ⟨oc, he, hoc⟩ := CellsAre.one Y
  subst he
  clear Y
  dsimp only [List.cons_append, List.nil_append] at N
  k_lt hlt
  k_steps
  rename News _ _ _ _ => N1
  rename Fr _ _ _ _ => F1
  rename (_ = Data.fields _) => d1
  rename (_ = some (Value.str _ _)) => d2
  rename (@LT.lt Nat _ _ _) => b3
  rename (_ < _ ∧ _ < _ ∧ _) => lt2
  obtain ⟨a1, a2, a3, a4⟩ := lt2
  rename (_ < _ ∧ _) => lt1
  obtain ⟨b1, b2⟩ := lt1
  refine MyEnd.intro F1 N1 fun hk hn => ?_
  have hz : s.heap.objs.size = L' := hL.symm
  replace a1 : @LT.lt Nat _ _ _ := a1
  replace b1 : @LT.lt Nat _ _ _ := b1
  replace b3 : @LT.lt Nat _ _ _ := b3
  rw [hz] at k
  refine k ⟨_, _, _, _, _, _, _, _, _, oc, _, _⟩ _ _ ⟨hoc, d1, d2⟩ (List.forall_mem_cons.mpr ⟨⟨hn.get (.head _), ?_⟩, List.forall_mem_cons.mpr ⟨⟨hn.get (.tail _ (.head _)), ?_⟩, List.forall_mem_cons.mpr ⟨⟨hn.get (.tail _ (.tail _ (.tail _ (.head _)))), ?_⟩, List.forall_mem_cons.mpr ⟨⟨hn.get (.tail _ (.tail _ (.head _))), ?_⟩, List.forall_mem_nil _⟩⟩⟩⟩) b1 b3 a1 (hn.get (.tail _ (.tail _ (.tail _ (.tail _ (.head _)))))) (hk.sub H (by walk_at "keepsub"))
  all_goals (show @LE.le Nat _ _ _)
  all_goals dsimp only
  all_goals omega
theorem ring_hit {x c' : Addr} {ocd : Obj} {vs : Array Value} {tq : Tok} (O : Ok (hd.heap_39 w.params) p loose mean mg mb B s.heap)
   (H : Own B s.heap [(126, ringTab c'), (c', ocd)]) (_hod : ocd.data = .fields vs) (_hov : vs[1]? = some (.str (Str.ofString "_law_ring.<locals>._law_turned") tq))
   (hd : dp < recursionLimit)
   (k : ∀ ci f cl ti doc pm ctv oc h' tk', oc.data = .cell (some (.ref x)) → (∀ q ∈ [(ci, ciObj (.ref f) (.int (-1) ti) false), (f, turnObj turnDef doc pm cl c' ctv), (cl, oc)], h'.get? q.1 = some q.2 ∧ s.heap.objs.size ≤ q.1) → cl < f → f < ci → Keeps [] s.heap h' → R (.ok (.ret (.ref ci))) { s with heap := h', toks := tk' }) :
   codeAny (model prog w) (Ar dp un fr gd) (.call (.ref 131) ⟨[.ref x], []⟩) R s := by
  refine enterC (binds := [(Str.ofString "lexer", .ref x)]) O H (O.keep _ _ (O.X _ _ (by k_is))) rfl ((codeRec_of O.X (by k_is)).keeps O.keep) hd (BindsTo.of_eq rfl) ?_ ?_ (fun g L' h₁ tk cells F N Y X T hL hlt => ?_)
  · intro n x hx
    simp only [List.mem_singleton] at hx
    subst hx
    right
    exact ⟨rfl, rfl⟩
  · decide
  have C : CodeHd g 130 126 := codeHd_of_K X (by rfl)
  obtain ⟨oc, he, hoc⟩ := CellsAre.one Y
  subst he
  clear Y
  dsimp only [List.cons_append, List.nil_append] at N
  k_lt hlt
  k_steps
  rename News _ _ _ _ => N1
  rename Fr _ _ _ _ => F1
  rename (_ < _ ∧ _ < _ ∧ _) => lt2
  obtain ⟨a1, a2, a3, a4⟩ := lt2
  have hz : s.heap.objs.size = L' := hL.symm
  replace a1 : @LT.lt Nat _ _ _ := a1
  replace a2 : @LT.lt Nat _ _ _ := a2
  rename (_ < _ ∧ _) => lt1
  obtain ⟨b1, b2⟩ := lt1
  replace b1 : @LT.lt Nat _ _ _ := b1
  refine MyEnd.intro F1 N1 fun hk hn => ?_
  rw [hz] at k
  refine k _ _ _ _ _ _ _ oc _ _ hoc (List.forall_mem_cons.mpr ⟨⟨hn.get (.head _), ?_⟩, List.forall_mem_cons.mpr ⟨⟨hn.get (.tail _ (.head _)), ?_⟩, List.forall_mem_cons.mpr ⟨⟨hn.get (.tail _ (.tail _ (.head _))), ?_⟩, List.forall_mem_nil _⟩⟩⟩) b1 a1 (hk.sub H (by walk_at "keepsub"))
  all_goals (show @LE.le Nat _ _ _)
  all_goals dsimp only
  all_goals omega
end
section
variable {prog : Program} {w : World} {dp un : Nat} {fr : Option (List Env)} {gd : Option (List Code)} {s : Shared} {B : Heap} {p : Program} {loose : List Str} {mean : ExcName → Option Value} {mg mb : Str → Option Value}
  {R : Result → Shared → Prop}
variable {t1 t2 t3 t4 t5 t6 : Tok} {kl : Int} {dx pb stm : Addr}
theorem push_N {L : Addr} {m : Str → Option Value} {news news' : List (Addr × Obj)} {x : Addr} {v : Value} {ws : List Value} {n : Nat} {Q : Value → Shared → Prop} {E : Value → Shared → Prop} (X : (hd.heap_39 w.params).In B) (T : Top p loose mean mg mb B) (room : dp < recursionLimit)
   (F : Fr B L s.heap m) (N : News B L s.heap news) (h1 : (x, instObj 52 dx) ∈ news) (h2 : (dx, lexD w.params t1 t2 t3 t4 t5 t6 kl stm pb) ∈ news) (U : Upd pb (lstO ws n) (lstO (ws ++ [v]) (n + 1)) news news') (hz : ws.length ≤ 1000)
   (h : ∀ h' tk', Fr B L h' m → News B L h' news' → Q .none { s with heap := h', toks := tk' }) :
   wpAny (model prog w) (Ar dp un fr gd) (call (.ref 49) [.ref x, v]) Q E s := by
  have h3 : (pb, lstO ws n) ∈ news := by
    obtain ⟨pre, post, e1, e2, a, b⟩ := U.split
    rw [e1]; exact List.mem_append_right _ (.head _)
  refine wpAny_call (push_spec ⟨X, T, F.keep⟩ (own_of N (l := [(x, instObj 52 dx), (dx, lexD w.params t1 t2 t3 t4 t5 t6 kl stm pb), (pb, lstO ws n)]) ?_) room hz fun h' tk' a b => ?_)
  · intro q hq
    simp only [List.mem_cons, List.not_mem_nil, or_false] at hq
    rcases hq with rfl | rfl | rfl <;> assumption
  · obtain ⟨F', N'⟩ := keep_upd F N U b a
    exact h h' tk' F' N'
theorem pop_N {L : Addr} {m : Str → Option Value} {news news' : List (Addr × Obj)} {x : Addr} {v : Value} {ws : List Value} {n : Nat} {Q : Value → Shared → Prop} {E : Value → Shared → Prop} (X : (hd.heap_39 w.params).In B) (T : Top p loose mean mg mb B) (room : dp < recursionLimit)
   (F : Fr B L s.heap m) (N : News B L s.heap news) (h1 : (x, instObj 52 dx) ∈ news) (h2 : (dx, lexD w.params t1 t2 t3 t4 t5 t6 kl stm pb) ∈ news) (U : Upd pb (lstO (v :: ws) n) (lstO ws (n + 1)) news news') (hz : (v :: ws).length ≤ 1000)
   (h : ∀ h' tk', Fr B L h' m → News B L h' news' → Q v { s with heap := h', toks := tk' }) :
   wpAny (model prog w) (Ar dp un fr gd) (call (.ref 42) [.ref x]) Q E s := by
  have h3 : (pb, lstO (v :: ws) n) ∈ news := by
    obtain ⟨pre, post, e1, e2, a, b⟩ := U.split
    rw [e1]; exact List.mem_append_right _ (.head _)
  refine wpAny_call (gt_pop ⟨X, T, F.keep⟩ (own_of N (l := [(x, instObj 52 dx), (dx, lexD w.params t1 t2 t3 t4 t5 t6 kl stm pb), (pb, lstO (v :: ws) n)]) ?_) room hz fun h' tk' a b => ?_)
  · intro q hq
    simp only [List.mem_cons, List.not_mem_nil, or_false] at hq
    rcases hq with rfl | rfl | rfl <;> assumption
  · obtain ⟨F', N'⟩ := keep_upd F N U b a
    exact h h' tk' F' N'
end
end
section
set_option maxHeartbeats 400000
local macro_rules | `(tactic| walk_at "keepsub") => `(tactic| walk_at "mq2")
section
local macro_rules | `(tactic| walk_at "callWith ref") => `(tactic| walk_at "mq3")
local macro_rules | `(tactic| walk_at "call ref") => `(tactic| (k_here; (rename Top _ _ _ _ _ _ => kT); (rename Frag.In _ _ => kX); k_dflt (first | (refine' pop_N kX kT ?room ?F ?N ?h1 ?h2 ?U ?hz ?_; (case F => k_asm); (case N => k_asm); (case h1 => k_mem); (case h2 => k_mem); (case U => k_upd); (case hz => assumption); (case room => (dsimp only [Around.deeper, Ar]; omega))) | (refine' push_N kX kT ?room ?F ?N ?h1 ?h2 ?U ?hz ?_; (case F => k_asm); (case N => k_asm); (case h1 => k_mem); (case h2 => k_mem); (case U => k_upd); (case hz => assumption); (case room => (dsimp only [Around.deeper, Ar]; omega)))); intro h' tk' F' N'))
local macro_rules | `(tactic| walk_at "eval Name") => `(tactic| (k_here; k_dflt (refine' nameX_F ?N ?c ?m ?d ?_ ?a ?b; (case a => rfl); (case b => rfl); (case N => k_asm); (case c => rfl); (case m => k_mem); (case d => k_asm); k_whole)))
def TurnSpec (l : Arguments × List Stmt × Scope) : Prop := ∀ {prog : Program} {w : World} {dp un : Nat} {fr : Option (List Env)} {gd : Option (List Code)} {s : Shared} {B : Heap} {p : Program} {loose : List Str} {mean : ExcName → Option Value} {mg mb : Str → Option Value}
  {R : Result → Shared → Prop} {t1 t2 t3 t4 t5 t6 : Tok} {kl : Int} {x dx pb stm f cl c' : Addr} {doc pm ctv : Value} {oc : Obj} {tv : Tok} {c : Nat} {cs : List Nat} {ws : List Value} {n : Nat} (_ : Ok (hd.heap_39 w.params) p loose mean mg mb B s.heap)
  (_ : s.heap.get? f = some (turnObj l doc pm cl c' ctv)) (_ : oc.data = .cell (some (.ref x))) (_ : s.heap.CodeRec (.ref c') (Str.ofString "_law_ring.<locals>._law_turned"))
  (_ : Own B s.heap [(cl, oc), (x, instObj 52 dx), (dx, lexD w.params t1 t2 t3 t4 t5 t6 kl stm pb), (pb, lstO (.str ⟨(c :: cs).toArray⟩ tv :: ws) n)]) (_ : dp + 1 < recursionLimit) (_ : ws.length < 1000)
  (_ : ∀ t h' tk', h'.get? pb = some (lstO (ws ++ [.str ⟨(c :: cs).toArray⟩ tv]) (n + 1 + 1)) → Keeps [pb] s.heap h' → R (.ok (.ret (.int c t))) { s with heap := h', toks := tk' }),
  codeAny (model prog w) (Ar dp un fr gd) (.call (.ref f) ⟨[], []⟩) R s
theorem turn_spec : TurnSpec turnDef := by
  show TurnSpec (_, _ :: _, Scope.mk _ _ _ _ _)
  unfold TurnSpec
  intro prog w dp un fr gd s B p loose mean mg mb R t1 t2 t3 t4 t5 t6 kl x dx pb stm f cl c' doc pm ctv oc tv c cs ws n O hf hoc hcd H hd hsz k
  have d1 : (@Ne Nat x pb) := H.ne (a := x) (b := pb) (by k_mem) (by k_mem) (by intro e; cases e)
  have d2 : (@Ne Nat dx pb) := H.ne (a := dx) (b := pb) (by k_mem) (by k_mem) (data_ne (by intro e; cases e))
  have d3 : (@Ne Nat cl pb) := H.ne (a := cl) (b := pb) (by k_mem) (by k_mem) (data_ne (by rw [hoc]; intro e; cases e))
  refine enter (binds := []) O H hf rfl (by exact hcd) (Nat.lt_of_succ_lt hd) (BindsTo.of_eq rfl) (locs rfl) (fun g L' h₁ F N X T hL hlt => ?_) (by decide)
  clear hlt hL hf
  have z1 : (Value.str ⟨(c :: cs).toArray⟩ tv :: ws).length ≤ 1000 := by simp only [List.length_cons]; omega
  have z2 : ws.length ≤ 1000 := by omega
  k_steps
  refine MyEnd.intro (by assumption) (by assumption) fun hk hn => ?_
  have hc : (Txt.item { cps := (c :: cs).toArray } 0).cps.getD 0 0 = c := by
    simp [Txt.item, Txt.charAt, Str.length, seqIndex?]
  rw [hc]
  exact k _ _ _ (hn.get (by k_mem)) (hk.sub H (by walk_at "keepsub"))
end
end
section
set_option maxHeartbeats 1000000
def MyWhile (prog : Program) (w : World) (A : Around) (test : PySem.Expr) (env : Env) (body : List Stmt) (Q : Flow → Shared → Prop) (s : Shared) : Prop :=
  codeAny (model prog w) A (.whileLoop test body [] env) (fun r s' => match r with | .ok f => Q f s' | .error _ => False) s
theorem MyWhile.intro {prog : Program} {w : World} {A : Around} {test : PySem.Expr} {env : Env} {body : List Stmt} {Q : Flow → Shared → Prop} {s : Shared}
   (J : Nat → Shared → Prop) (n : Nat) (h : J n s) (turn : ∀ n s, J n s → wpAny (model prog w) A (isTrue test env (eval test env)) (fun b s₂ =>
        if b then wpAny (model prog w) A (execs body env) (fun f s₃ => match f with
            | .next | .cont => Turned n J s₃
            | .brk => Q .next s₃
            | .ret v => Q (.ret v) s₃) (fun _ _ => False) s₂
        else Q .next s₂) (fun _ _ => False) s) : MyWhile prog w A test env body Q s := by
  unfold MyWhile
  refine codeAny_whileLoop J (fun k s' hI => ?_) n h
  refine wpAny_noRaise (wpAny_mono (turn k s' hI) (fun b s₂ hr => ?_) fun _ _ y => y.elim)
  cases b with
  | false => exact wpAny_execs_nil hr
  | true =>
    rw [if_pos rfl] at hr ⊢
    refine wpAny_noRaise (wpAny_mono hr (fun f s₃ h₃ => ?_) fun _ _ y => y.elim)
    cases f with
    | next => exact h₃
    | cont => exact h₃
    | brk => exact h₃
    | ret v => exact h₃
theorem While_my {prog : Program} {w : World} {A : Around} {pos : Pos} {env : Env} {body : List Stmt} {test : PySem.Expr} {Q : Flow → Shared → Prop} {s : Shared}
   (h : MyWhile prog w A test env body Q s) : wpAny (model prog w) A (exec (.While test body [] pos) env) Q (fun _ _ => False) s := by
  refine wpAny_While (codeAny_mono h fun r s' hr => ?_)
  cases r with
  | ok f => exact hr
  | error e => exact hr.elim
def vv (b val it : Value) (y : Str) : Option Value := if y = Str.ofString "val" then some val else if y = Str.ofString "b" then some b else List.lookup y [(Str.ofString "iterator", it)].reverse
theorem vv_val (y : Str) (a b v it : Value) : (if y = Str.ofString "val" then some a else vv b v it y) = vv b a it y := by
  unfold vv
  by_cases h : y = Str.ofString "val"
  · simp only [h, if_true]
  · simp only [h, if_false]
theorem vv_b (y : Str) (a b v it : Value) : (if y = Str.ofString "b" then some a else vv b v it y) = vv a v it y := by
  unfold vv
  by_cases h : y = Str.ofString "b"
  · subst h; rfl
  · simp only [h, if_false]
structure Nexts (prog : Program) (w : World) (it : Addr) (a b : List (Addr × Obj)) (v : Int) : Prop where
  go : ∀ {dp un : Nat} {fr : Option (List Env)} {gd : Option (List Code)} {s : Shared} {g : Heap} {L : Addr} {m : Str → Option Value} {p : Program} {loose : List Str} {mean : ExcName → Option Value} {mg mb : Str → Option Value}
  {Q : Value → Shared → Prop} {E : Value → Shared → Prop}, (hd.heap_39 w.params).In g → Top p loose mean mg mb g → dp + 4 < recursionLimit → Fr g L s.heap m → News g L s.heap a →
  (∀ h' tk' t, Fr g L h' m → News g L h' b → Q (.int v t) { s with heap := h', toks := tk' }) → wpAny (model prog w) (Ar dp un fr gd) (call (.builtin "next") [.ref it]) Q E s
def vint (vals : Nat → Int) : Nat → Int
  | 0 => vals 0 % 64
  | k + 1 => vint vals k * 64 + vals (k + 1) % 64
theorem vint_range (vals : Nat → Int) : ∀ k, 0 ≤ vint vals k ∧ vint vals k < 64 ^ (k + 1)
  | 0 => by unfold vint; omega
  | k + 1 => by
    have ih := vint_range vals k
    unfold vint
    rw [Int.pow_succ]
    omega
theorem vint_small (vals : Nat → Int) {k : Nat} (h : k ≤ 13) : (Builtin.Int.intBits (vint vals k) : Int) + 6 ≤ 2 ^ 27 := by
  have h1 := vint_range vals k
  have h2 : (64 : Int) ^ (k + 1) ≤ 64 ^ 14 := by exact_mod_cast Nat.pow_le_pow_right (n := 64) (by decide) (by omega : k + 1 ≤ 14)
  have h3 : (64 : Int) ^ 14 = 2 ^ 84 := by decide
  have h4 : (vint vals k).natAbs < 2 ^ 84 := by omega
  have hb : Builtin.Int.intBits (vint vals k) ≤ 84 := intBits_le h4
  omega
theorem nat_and_low (a d : Nat) (hd : d < 64) : (a * 64) &&& d = 0 := by
  apply Nat.eq_of_testBit_eq
  intro i
  rw [Nat.testBit_and, Nat.zero_testBit, show a * 64 = a * 2 ^ 6 from rfl, Nat.testBit_mul_two_pow]
  by_cases h : 6 ≤ i
  · have : d.testBit i = false := Nat.testBit_lt_two_pow (Nat.lt_of_lt_of_le hd (Nat.pow_le_pow_right (by decide) h : 2 ^ 6 ≤ 2 ^ i))
    rw [this]; simp
  · simp [h]
theorem or_eq (x y : Int) : Builtin.bitOr x y = x + y - Builtin.bitAnd x y := by
  have h := bitXor_and x y
  unfold Builtin.bitXor at h
  omega
theorem or_low (a d : Int) (ha : 0 ≤ a) (h0 : 0 ≤ d) (hd : d < 64) : Builtin.bitOr (a * 64) d = a * 64 + d := by
  rw [or_eq]
  have : Builtin.bitAnd (a * 64) d = 0 := by
    unfold Builtin.bitAnd
    rw [decide_eq_true (by omega : 0 ≤ a * 64), decide_eq_true h0]
    have e : (a * 64).toNat = a.toNat * 64 := by omega
    show (((a * 64).toNat &&& d.toNat : Nat) : Int) = 0
    rw [e, nat_and_low _ _ (by omega)]
    rfl
  omega
theorem and_64 (x : Int) : Builtin.bitAnd x 64 = (x / 64 % 2) * 64 := kbt_bit x 6
section
variable {prog : Program} {w : World} {dp un : Nat} {fr : Option (List Env)} {gd : Option (List Code)} {s : Shared} {B : Heap} {p : Program} {loose : List Str} {mean : ExcName → Option Value} {mg mb : Str → Option Value}
  {R : Result → Shared → Prop}
local macro_rules | `(tactic| walk_at "call builtin:next") => `(tactic| (k_here; (with_reducible show wpAny _ _ (call (Value.builtin "next") [Value.ref _]) _ _ _); (rename Nexts _ _ _ _ _ _ => kR); (rename News _ _ _ _ => kN); (rename Fr _ _ _ _ => kF); (rename Top _ _ _ _ _ _ => kT); (rename Frag.In _ _ => kX); k_dflt (refine' kR.go kX kT ?room kF kN ?_; (case room => (dsimp only [Around.deeper, Ar]; omega))); intro h' tk' t F' N'; clear kR))
local macro_rules | `(tactic| walk_at "exec While") => `(tactic| (k_here; (with_unfolding_all refine' While_my ?k2)))
local macro_rules | `(tactic| walk_at "inplaceOp LShift int int") => `(tactic| (refine' ilshift_int ?h1 ?h3 ?_; (case h1 => decide); (case h3 => assumption)))
theorem varint_spec {it : Addr} {src : Nat → List (Addr × Obj)} {vals : Nat → Int} {K : Nat} (O : Ok (hd.heap_39 w.params) p loose mean mg mb B s.heap)
   (H : Own B s.heap (src 0)) (hst : ∀ k, k ≤ K → Nexts prog w it (src k) (src (k + 1)) (vals k)) (hK : K ≤ 13)
   (hmid : ∀ k, k < K → vals k / 64 % 2 = 1) (hend : vals K / 64 % 2 = 0)
   (hd : dp + 5 < recursionLimit)
   (k : ∀ t h' tk', New s.heap h' (src 0) (src (K + 1)) → Keeps ((src 0).map (·.1)) s.heap h' → R (.ok (.ret (.int (vint vals K) t))) { s with heap := h', toks := tk' }) :
   codeAny (model prog w) (Ar dp un fr gd) (.call (.ref 63) ⟨[.ref it], []⟩) R s := by
  refine enter (binds := [(Str.ofString "iterator", .ref it)]) O H (O.keep _ _ (O.X _ _ (by k_is))) rfl ((codeRec_of O.X (by k_is)).keeps O.keep) (by show dp < _; omega) (BindsTo.of_eq rfl) (locs rfl) (fun g L' h₁ F N X T hL hlt => ?_) (by decide)
  clear hlt hL
  have h0 := hst 0 (Nat.zero_le _)
  k_steps
  rename News _ _ _ _ => N1
  rename Fr _ _ _ _ => F1
  rw [bitAnd_m6] at F1
  refine MyWhile.intro (fun j s' => ∃ k h' tk tb tv, k ≤ K ∧ j = K - k ∧ s' = { s with heap := h', toks := tk } ∧ Fr g L' h' (vv (.int (vals k) tb) (.int (vint vals k) tv) (.ref it)) ∧ News g L' h' (src (k + 1))) K ⟨0, _, _, _, _, Nat.zero_le _, rfl, rfl, F1, N1⟩ ?_
  clear F1 N1
  rintro j s' ⟨i, h', tk, tb, tv, hi, rfl, rfl, F, N⟩
  have hsm := vint_small vals (Nat.le_trans hi hK)
  by_cases hlt : i < K
  · have h1 := hst (i + 1) hlt
    k_steps
    · rename News _ _ _ _ => N1
      rename Fr _ _ _ _ => F1
      have e : Builtin.bitOr (vint vals i * 2 ^ Int.toNat 6) (Builtin.bitAnd (vals (i + 1)) 63) = vint vals (i + 1) := by
        rw [bitAnd_m6]
        show Builtin.bitOr (vint vals i * 64) _ = _
        rw [or_low _ _ (vint_range vals i).1 (by omega) (by omega)]
        rfl
      rw [e] at F1
      simp only [vv_val, vv_b] at F1
      exact ⟨K - (i + 1), by omega, i + 1, _, _, _, _, hlt, rfl, rfl, F1, N1⟩
    · exfalso
      rename (Builtin.bitAnd _ 64 = 0) => hz
      rw [and_64, hmid i hlt] at hz
      exact absurd hz (by decide)
  · have hiK : i = K := by omega
    subst hiK
    k_steps
    · exfalso
      rename (Builtin.bitAnd _ 64 ≠ 0) => hz
      rw [and_64, hend] at hz
      exact hz (by decide)
    · refine MyEnd.intro (by assumption) (by assumption) fun hk hn => ?_
      exact k _ _ _ hn hk
end
end
section
set_option maxHeartbeats 1000000
abbrev strV (v : List Nat) (t : Tok) : Value := .str ⟨v.toArray⟩ t
abbrev ringL (G : Rg) (P : Params) (x dx pb stm : Addr) (t1 t2 t3 t4 t5 t6 : Tok) (kl : Int) (ws : List Value) (n : Nat) : List (Addr × Obj) :=
  G.pre ++ [(x, instObj 52 dx), (dx, lexD P t1 t2 t3 t4 t5 t6 kl stm pb), (pb, lstO ws n)]
section
variable {prog : Program} {w : World} {G : Rg} {x dx pb stm : Addr} {t1 t2 t3 t4 t5 t6 : Tok} {kl : Int} {n : Nat} {c : Nat} {cs : List Nat} {tv : Tok} {ws : List Value}
theorem ring_next (hG : G.Good x) (hz : ws.length < 1000) :
    Nexts prog w G.ci (ringL G w.params x dx pb stm t1 t2 t3 t4 t5 t6 kl (strV (c :: cs) tv :: ws) n) (ringL G w.params x dx pb stm t1 t2 t3 t4 t5 t6 kl (ws ++ [strV (c :: cs) tv]) (n + 1 + 1)) c := by
  refine ⟨fun {dp un fr gd s g L m p loose mean mg mb Q E} X T hd F N k => ?_⟩
  have i1 := (N (G.ci, _) (List.Mem.head _)).1
  have i2 := (N (G.f, _) (.tail _ (List.Mem.head _))).1
  have i4 := (N (G.c', _) (.tail _ (.tail _ (.tail _ (List.Mem.head _))))).1
  have H := own_of (l := [(G.cl, G.oc), (x, instObj 52 dx), (dx, lexD w.params t1 t2 t3 t4 t5 t6 kl stm pb), (pb, lstO (strV (c :: cs) tv :: ws) n)]) N (by
    intro q hq
    simp only [List.mem_cons, List.not_mem_nil, or_false] at hq
    simp only [ringL, Rg.pre, List.cons_append, List.nil_append, List.mem_cons, List.not_mem_nil, or_false]
    rcases hq with rfl | rfl | rfl | rfl <;> simp)
  have HA := own_of (l := ringL G w.params x dx pb stm t1 t2 t3 t4 t5 t6 kl (strV (c :: cs) tv :: ws) n) N (fun q hq => hq)
  obtain ⟨o1, o2, o3⟩ := hG
  have d1 : (@Ne Nat G.ci pb) := HA.ne (a := G.ci) (b := pb) (by k_mem) (by k_mem) (cls_ne (by show Value.type _ ≠ Value.type _; decide))
  have d2 : (@Ne Nat G.f pb) := HA.ne (a := G.f) (b := pb) (by k_mem) (by k_mem) (cls_ne (by show Value.type _ ≠ Value.type _; decide))
  have d3 : (@Ne Nat G.cl pb) := HA.ne (a := G.cl) (b := pb) (by k_mem) (by k_mem) (data_ne (by rw [o1]; intro e; cases e))
  have d4 : (@Ne Nat G.c' pb) := HA.ne (a := G.c') (b := pb) (by k_mem) (by k_mem) (data_ne (by rw [o2]; intro e; cases e))
  have d5 : (@Ne Nat x pb) := HA.ne (a := x) (b := pb) (by k_mem) (by k_mem) (by intro e; cases e)
  have d6 : (@Ne Nat dx pb) := HA.ne (a := dx) (b := pb) (by k_mem) (by k_mem) (data_ne (by intro e; cases e))
  refine next_ci rfl i1 (borrows_fn i2 rfl) (turn_spec (dp := dp) ⟨X, T, F.keep⟩ i2 o1 ⟨G.c', G.ocd, G.vs, G.tq, rfl, i4, o2, o3⟩ H (by omega) hz fun t h' tk' a b => ?_)
  obtain ⟨F', N'⟩ := keep_upd F N (by show Upd pb (lstO (strV (c :: cs) tv :: ws) n) (lstO (ws ++ [strV (c :: cs) tv]) (n + 1 + 1)) _ _; simp only [ringL, Rg.pre, List.cons_append, List.nil_append]; k_upd) b a
  refine ⟨_, rfl, (N' (G.ci, _) (List.Mem.head _)).1, ?_, k _ _ _ F' N'⟩
  have := MeetsSeq.EqGives.int (-1) (c : Int) G.ti t
  rw [show ((-1 : Int) == (c : Int)) = false from by rw [beq_eq_false_iff_ne]; omega] at this
  exact this
end
section
variable {prog : Program} {w : World} {it l : Addr} {items : List Value} {n i : Nat} {v : Int} {tv : Tok}
abbrev liO (l : Addr) (i : Nat) : Obj := { cls := .type "list_iterator", data := .fields #[.ref l, .int i 0] }
open PySem.Calls PySem.Builtin in
theorem next1_listO {A : Around} {E : Value → Shared → Prop} {s : Shared} {x : Value} {Q : Value → Shared → Prop} (hit : s.heap.get? it = some (liO l i)) (hl : s.heap.get? l = some (lstO items n)) (hx : items[i]? = some x)
    (hQ : ∀ h', h'.get? it = some (liO l (i + 1)) → Heap.SameBut it s.heap h' → Q x { s with heap := h' }) :
    wpAny (model prog w) A (call (.builtin "next") [.ref it]) Q E s := by
  have hI : s.heap.IsListIter it l i := ⟨_, hit, rfl, rfl⟩
  refine call_function_entry (by decide +kernel) (by decide +kernel) kdk_entry_next (kdk_args_next _) ?_
  unfold Builtin.«next»
  refine wpAny_bind (m := someArgs "next" 1 2 _) (wpAny_of_eq (a := [Value.ref it]) (by first | rfl | kernel_rfl!) ?_)
  dsimp only
  refine wpAny_bind (wpAny_specialOf (name := Str.ofString "__next__") hI.typeIs slot_listiter_next.lookup ?_)
  refine wpAny_ite_split (fun hab => absurd hab (by decide)) (fun _ => ?_)
  refine wpAny_bind ?_
  refine wpAny_callSpecial?_slot (name := Str.ofString "__next__") hI.typeIs slot_listiter_next
    (wpAny_call_entry slot_listiter_next hI.typeIs entry_listiter_next ?_ (args_listiter_next _))
  show wpAny _ _ (field (.ref it) 0 >>= _) _ _ s
  refine wpAny_bind (wpAny_field hit rfl (x := .ref l) rfl ?_)
  show wpAny _ _ (if (Value.ref l == Value.none) = true then _ else _) _ _ s
  rw [if_neg (show ¬ ((Value.ref l == Value.none) = true) from Bool.false_ne_true)]
  show wpAny _ _ (field (.ref it) 1 >>= _) _ _ s
  refine wpAny_bind (wpAny_field hit rfl (x := .int i 0) rfl ?_)
  show wpAny _ _ (seqItems? (.ref l) >>= _) _ _ s
  refine wpAny_bind (wpAny_seqItems hl rfl ?_)
  have hx' : items.toArray[i]? = some x := by simpa using hx
  simp only [Int.toNat_natCast, hx']
  refine wpAny_bind (wpAny_setField hit rfl (by simp) (wpAny_pure ⟨x, rfl, wpAny_pure ⟨_, rfl, hQ _ ?_ (Heap.SameBut.update ..)⟩⟩))
  rw [Heap.get?_update_self _ hit rfl]
  simp [Obj.mapFields, rawInt]
theorem list_next (hv : items[i]? = some (.int v tv)) :
    Nexts prog w it [(it, liO l i), (l, lstO items n)] [(it, liO l (i + 1)), (l, lstO items n)] v := by
  refine ⟨fun {dp un fr gd s g L m p loose mean mg mb Q E} X T hd F N k => ?_⟩
  have i1 := (N (it, _) (List.Mem.head _)).1
  have i2 := (N (l, _) (.tail _ (List.Mem.head _))).1
  have d : @Ne Nat l it := ne_of_get i2 i1 (cls_ne (by show Value.type _ ≠ Value.type _; decide))
  refine next1_listO i1 i2 hv fun h' a b => ?_
  obtain ⟨F', N'⟩ := upd_same F N (by show Upd it (liO l i) (liO l (i + 1)) _ _; k_upd) b a
  exact k _ _ _ F' N'
end
end
section
set_option maxHeartbeats 1000000
section
variable {prog : Program} {w : World} {dp un : Nat} {fr : Option (List Env)} {gd : Option (List Code)} {s : Shared} {B : Heap} {p : Program} {loose : List Str} {mean : ExcName → Option Value} {mg mb : Str → Option Value}
  {R : Result → Shared → Prop} {a b : Int} {ta tb : Tok}
theorem own_nil {B h : Heap} : Own B h [] := fun _ h => by cases h
theorem or_spec (O : Ok (hd.heap_39 w.params) p loose mean mg mb B s.heap) (hd : dp < recursionLimit)
   (k : ∀ t h' tk', Keeps [] s.heap h' → R (.ok (.ret (.int (Builtin.bitOr a b) t))) {s with heap := h', toks := tk'}) :
   codeAny (model prog w) (Ar dp un fr gd) (.call (.ref 98) ⟨[.int a ta, .int b tb], []⟩) R s := by
  refine enter (binds := [(Str.ofString "a", .int a ta), (Str.ofString "b", .int b tb)]) O own_nil (O.keep _ _ (O.X _ _ (by k_is))) rfl ((codeRec_of O.X (by k_is)).keeps O.keep) hd (BindsTo.of_eq rfl) (locs rfl) (fun g L' h₁ F N X T hL hlt => ?_) (by decide)
  clear hlt hL
  k_steps
  exact MyEnd.intro (by assumption) (by assumption) fun hk hn => k _ _ _ hk
theorem and_spec (O : Ok (hd.heap_39 w.params) p loose mean mg mb B s.heap) (hd : dp < recursionLimit)
   (k : ∀ t h' tk', Keeps [] s.heap h' → R (.ok (.ret (.int (Builtin.bitAnd a b) t))) {s with heap := h', toks := tk'}) :
   codeAny (model prog w) (Ar dp un fr gd) (.call (.ref 77) ⟨[.int a ta, .int b tb], []⟩) R s := by
  refine enter (binds := [(Str.ofString "a", .int a ta), (Str.ofString "b", .int b tb)]) O own_nil (O.keep _ _ (O.X _ _ (by k_is))) rfl ((codeRec_of O.X (by k_is)).keeps O.keep) hd (BindsTo.of_eq rfl) (locs rfl) (fun g L' h₁ F N X T hL hlt => ?_) (by decide)
  clear hlt hL
  k_steps
  exact MyEnd.intro (by assumption) (by assumption) fun hk hn => k _ _ _ hk
theorem sub_spec (O : Ok (hd.heap_39 w.params) p loose mean mg mb B s.heap) (hd : dp < recursionLimit) (ha : a.natAbs < 2 ^ 64) (hb : b.natAbs < 2 ^ 64)
   (k : ∀ t h' tk', Keeps [] s.heap h' → R (.ok (.ret (.int (a - b) t))) {s with heap := h', toks := tk'}) :
   codeAny (model prog w) (Ar dp un fr gd) (.call (.ref 105) ⟨[.int a ta, .int b tb], []⟩) R s := by
  refine enter (binds := [(Str.ofString "a", .int a ta), (Str.ofString "b", .int b tb)]) O own_nil (O.keep _ _ (O.X _ _ (by k_is))) rfl ((codeRec_of O.X (by k_is)).keeps O.keep) hd (BindsTo.of_eq rfl) (locs rfl) (fun g L' h₁ F N X T hL hlt => ?_) (by decide)
  clear hlt hL
  k_steps
  exact MyEnd.intro (by assumption) (by assumption) fun hk hn => k _ _ _ hk
theorem mul_spec (O : Ok (hd.heap_39 w.params) p loose mean mg mb B s.heap) (hd : dp < recursionLimit) (ha : a.natAbs < 2 ^ 64) (hb : b.natAbs < 2 ^ 64)
   (k : ∀ t h' tk', Keeps [] s.heap h' → R (.ok (.ret (.int (a * b) t))) {s with heap := h', toks := tk'}) :
   codeAny (model prog w) (Ar dp un fr gd) (.call (.ref 91) ⟨[.int a ta, .int b tb], []⟩) R s := by
  refine enter (binds := [(Str.ofString "a", .int a ta), (Str.ofString "b", .int b tb)]) O own_nil (O.keep _ _ (O.X _ _ (by k_is))) rfl ((codeRec_of O.X (by k_is)).keeps O.keep) hd (BindsTo.of_eq rfl) (locs rfl) (fun g L' h₁ F N X T hL hlt => ?_) (by decide)
  clear hlt hL
  k_steps
  exact MyEnd.intro (by assumption) (by assumption) fun hk hn => k _ _ _ hk
local macro_rules | `(tactic| walk_at "binaryOp LShift int int") => `(tactic| (refine' lshift_int_small ?h1 ?h2 ?h3 ?_; (case h1 => assumption); (case h2 => assumption); (case h3 => assumption)))
theorem lshift_spec (O : Ok (hd.heap_39 w.params) p loose mean mg mb B s.heap) (hd : dp < recursionLimit) (ha : a.natAbs < 2 ^ 64) (hb0 : 0 ≤ b) (hb : b ≤ 1000000)
   (k : ∀ t h' tk', Keeps [] s.heap h' → R (.ok (.ret (.int (a * 2 ^ b.toNat) t))) {s with heap := h', toks := tk'}) :
   codeAny (model prog w) (Ar dp un fr gd) (.call (.ref 84) ⟨[.int a ta, .int b tb], []⟩) R s := by
  refine enter (binds := [(Str.ofString "a", .int a ta), (Str.ofString "b", .int b tb)]) O own_nil (O.keep _ _ (O.X _ _ (by k_is))) rfl ((codeRec_of O.X (by k_is)).keeps O.keep) hd (BindsTo.of_eq rfl) (locs rfl) (fun g L' h₁ F N X T hL hlt => ?_) (by decide)
  clear hlt hL
  k_steps
  exact MyEnd.intro (by assumption) (by assumption) fun hk hn => k _ _ _ hk
theorem eq_spec (O : Ok (hd.heap_39 w.params) p loose mean mg mb B s.heap) (hd : dp < recursionLimit)
   (k : ∀ h' tk', Keeps [] s.heap h' → R (.ok (.ret (.bool (a == b)))) {s with heap := h', toks := tk'}) :
   codeAny (model prog w) (Ar dp un fr gd) (.call (.ref 70) ⟨[.int a ta, .int b tb], []⟩) R s := by
  refine enter (binds := [(Str.ofString "a", .int a ta), (Str.ofString "b", .int b tb)]) O own_nil (O.keep _ _ (O.X _ _ (by k_is))) rfl ((codeRec_of O.X (by k_is)).keeps O.keep) hd (BindsTo.of_eq rfl) (locs rfl) (fun g L' h₁ F N X T hL hlt => ?_) (by decide)
  clear hlt hL
  k_steps
  exact MyEnd.intro (by assumption) (by assumption) fun hk hn => k _ _ hk
end
end
section
set_option maxHeartbeats 1000000
local macro_rules | `(tactic| walk_at "keepsub") => `(tactic| walk_at "mq2")
section
variable {prog : Program} {w : World} {dp un : Nat} {fr : Option (List Env)} {gd : Option (List Code)} {s : Shared} {B : Heap} {p : Program} {loose : List Str} {mean : ExcName → Option Value} {mg mb : Str → Option Value}
  {R : Result → Shared → Prop} {x dx stm : Addr}
local macro_rules | `(tactic| walk_at "pad") => `(tactic| walk_at "pad_")
theorem init_spec (O : Ok (hd.heap_39 w.params) p loose mean mg mb B s.heap) (H : Own B s.heap [(x, instObj 52 dx), (dx, dictOf [] 0)]) (hd : dp < recursionLimit) 
   (k : ∀ t1 t2 t3 t4 t5 t6 pb h' tk', h'.get? dx = some (lexD w.params t1 t2 t3 t4 t5 t6 1 stm pb) → h'.get? pb = some (lstO [] 0) → x < pb → s.heap.get? pb = none → Keeps [dx] s.heap h' → R (.ok (.ret .none)) {s with heap := h', toks := tk'}) :
   codeAny (model prog w) (Ar dp un fr gd) (.call (.ref 28) ⟨[.ref x, .ref stm], []⟩) R s := by
  have d1 : (@Ne Nat x dx) := H.ne (a := x) (b := dx) (by k_mem) (by k_mem) (by intro e; cases e)
  refine enter (binds := [(Str.ofString "self", .ref x), (Str.ofString "fp", .ref stm)]) O H (O.keep _ _ (O.X _ _ (by k_is))) rfl ((codeRec_of O.X (by k_is)).keeps O.keep) hd (BindsTo.of_eq rfl) (locs rfl) (fun g L' h₁ F N X T hL hlt => ?_) (by decide)
  k_lt hlt
  k_steps
  rename News _ _ _ _ => N1
  rename Fr _ _ _ _ => F1
  rename (_ < _ ∧ _ < _) => lt1
  obtain ⟨b1, b2⟩ := lt1
  refine MyEnd.intro F1 N1 fun hk hn => ?_
  have hpb : s.heap.get? _ = none := (hn _ (List.Mem.head _)).2.resolve_left (by
    have b1' : @LT.lt Nat _ _ _ := b1
    have b2' : @LT.lt Nat _ _ _ := b2
    intro hm
    simp only [List.map_cons, List.map_nil, List.mem_cons, List.not_mem_nil, or_false] at hm
    rcases hm with e | e
    · rw [e] at b1'; exact Nat.lt_irrefl _ b1'
    · rw [e] at b2'; exact Nat.lt_irrefl _ b2')
  exact k _ _ _ _ _ _ _ _ _ (hn.get (.tail _ (.tail _ (.head _)))) (hn.get (.head _)) b1 hpb (hk.sub H (by walk_at "keepsub"))
end
section
variable {prog : Program} {w : World} {dp un : Nat} {fr : Option (List Env)} {gd : Option (List Code)} {s : Shared} {B : Heap} {p : Program} {loose : List Str} {mean : ExcName → Option Value} {mg mb : Str → Option Value}
theorem make_N {L : Addr} {m : Str → Option Value} {news : List (Addr × Obj)} {stm : Addr} {Q : Value → Shared → Prop} {E : Value → Shared → Prop} (X : (hd.heap_39 w.params).In B) (T : Top p loose mean mg mb B) (room : dp + 1 < recursionLimit)
   (F : Fr B L s.heap m) (N : News B L s.heap news)
   (h : ∀ x dx pb t1 t2 t3 t4 t5 t6 h' tk', Fr B L h' m → News B L h' ((pb, lstO [] 0) :: (x, instObj 52 dx) :: (dx, lexD w.params t1 t2 t3 t4 t5 t6 1 stm pb) :: news) → (∀ p ∈ news, p.1 < dx) → dx < x → x < pb → Q (.ref x) { s with heap := h', toks := tk' }) :
   wpAny (model prog w) (Ar dp un fr gd) (call (.ref 52) [.ref stm]) Q E s := by
  refine call_cls (K := hd.heap_39 w.params) (fI := 28) F X N (by k_is) (by k_is) (by k_is) fun x dx h' F' N' l1 l2 => ?_
  refine init_spec ⟨X, T, F'.keep⟩ (own_of (l := [(x, instObj 52 dx), (dx, dictOf [] 0)]) N' ?_) (by first | exact room | (show dp + 1 < _; omega)) fun t1 t2 t3 t4 t5 t6 pb h'' tk' a b c e k => ?_
  · intro q hq
    simp only [List.mem_cons, List.not_mem_nil, or_false] at hq
    rcases hq with rfl | rfl
    · exact .head _
    · exact .tail _ (.head _)
  · have l2' : @LT.lt Nat _ dx x := l2
    have hxd : ¬ x = dx := fun q => by rw [q] at l2'; exact Nat.lt_irrefl _ l2'
    have hnw : ∀ q ∈ news, q.1 ∉ [x, dx] := fun q hq hm => by
      have := l1 q hq
      have this' : @LT.lt Nat _ q.1 dx := this
      simp only [List.mem_cons, List.not_mem_nil, or_false] at hm
      rcases hm with e | e
      · rw [e] at this'; omega
      · rw [e] at this'; omega
    obtain ⟨F2, N2⟩ := after (pre := [(x, instObj 52 dx), (dx, dictOf [] 0)]) (new := [(pb, lstO [] 0), (x, instObj 52 dx), (dx, lexD w.params t1 t2 t3 t4 t5 t6 1 stm pb)]) (rest := news) F' N' (by
        intro q hq
        simp only [List.mem_cons, List.not_mem_nil, or_false] at hq
        rcases hq with rfl | rfl
        · exact .head _
        · exact .tail _ (.head _)) (k.mono (by simp)) (by
        intro q hq
        simp only [List.mem_cons, List.not_mem_nil, or_false] at hq
        rcases hq with rfl | rfl | rfl
        · exact ⟨b, .inr e⟩
        · exact ⟨k.2 _ _ (N' _ (.head _)).1 (by simp [hxd]), .inl (by simp)⟩
        · exact ⟨a, .inl (by simp)⟩) (fun q hq => ⟨.tail _ (.tail _ hq), hnw q hq⟩)
    have hh := h _ _ _ _ _ _ _ _ _ _ tk' F2 N2 l1 l2 c
    first | exact hh | exact ⟨rfl, hh⟩ | (unfold InitBack; exact hh)
end
end
section
set_option maxHeartbeats 1000000
open PySem.Calls PySem.Builtin
local macro_rules | `(tactic| walk_at "keepsub") => `(tactic| walk_at "mq2")
abbrev riO (x left step : Int) : Obj := { cls := .type "range_iterator", data := .fields #[rawInt x, rawInt left, rawInt step] }
section
variable {prog : Program} {w : World} {A : Around} {E : Value → Shared → Prop} {s : Shared} {h₀ : Heap} {L : Addr} {m : Str → Option Value} {news news' : List (Addr × Obj)}
theorem pyIter_range_N {r : Addr} {k : Nat} {t u v : Tok} {Q : Value → Shared → Prop} (F : Fr h₀ L s.heap m) (N : News h₀ L s.heap news) (hr : IsRange s.heap r 0 k 1 t u v) (hk : k ≤ 1000)
    (h : ∀ it h', Fr h₀ L h' m → News h₀ L h' ((it, riO 0 k 1) :: news) → (∀ p ∈ news, p.1 < it) → Q (.ref it) { s with heap := h' }) : wpAny (model prog w) A (pyIter (.ref r)) Q E s := by
  have hsz : Builtin.Range.rangeSize 0 k 1 = k := by
    unfold Builtin.Range.rangeSize
    rw [if_pos (by decide)]
    split <;> omega
  have hsm : Builtin.Range.small 0 k 1 = true := by
    have hf : ∀ i : Int, -1000 ≤ i → i ≤ 2000 → Builtin.Range.rangeFitsLong i = true := fun i a b => by
      unfold Builtin.Range.rangeFitsLong
      simp only [Bool.and_eq_true, decide_eq_true_eq]
      omega
    unfold Builtin.Range.small
    rw [hsz, hf 0 (by omega) (by omega), hf k (by omega) (by omega), hf 1 (by omega) (by omega)]
    rw [if_pos (by decide), hf _ (by omega) (by omega)]
    simp
  refine wpAny_pyIter_range hr hsm ?_
  rw [hsz]
  exact h _ _ (F.push _) (N.push F _) fun p hp => Heap.lt_size (N p hp).1
theorem len_N {a : Addr} {vs : List Value} {n : Nat} {Q : Value → Shared → Prop} (N : News h₀ L s.heap news) (hm : (a, lstO vs n) ∈ news) (hz : vs.length ≤ 1000)
    (h : ∀ tk t, Q (.int vs.length t) { s with toks := tk }) : wpAny (model prog w) A (call (.builtin "len") [.ref a]) Q E s := by
  refine call_len_list (items := vs.toArray) ⟨_, (N _ hm).1, rfl, n, rfl⟩ (by simp only [List.size_toArray]; omega) ?_
  have := h (s.toks + 1 + 1) (s.toks + 1)
  simpa using this
theorem item_N {value slice : PySem.Expr} {a : Addr} {vs : List Value} {n : Nat} {k : Int} {u : Tok} {v : Value} {Q : Value → Shared → Prop} (N : News h₀ L s.heap news) (hm : (a, lstO vs n) ∈ news) (h0 : 0 ≤ k ∧ k < 2 ^ 63) (hx : vs[k.toNat]? = some v) (h : Q v s)
    (hs : subscripted slice false (.ref a) (.int k u) = operate [.ref a, .int k u] (getItem (.ref a) (.int k u)) := by with_unfolding_all rfl) : wpAny (model prog w) A (subscriptTail value slice (.ref a) (.int k u)) Q E s :=
  item_litK ⟨_, (N _ hm).1, rfl, n, rfl⟩ h0.1 h0.2 hx h hs
theorem pyNext_range_N {it : Addr} {x left : Int} {Q : Option Value → Shared → Prop} (hl : 0 < left) (F : Fr h₀ L s.heap m) (N : News h₀ L s.heap news) (U : Upd it (riO x left 1) (riO (x + 1) (left - 1) 1) news news')
    (h : ∀ h', Fr h₀ L h' m → News h₀ L h' news' → Q (some (.int x s.toks)) { s with heap := h', toks := s.toks + 1 }) : wpAny (model prog w) A (pyNext (.ref it)) Q E s := by
  have hm : (it, riO x left 1) ∈ news := by
    obtain ⟨pre, post, e1, e2, a, b⟩ := U.split
    rw [e1]; exact List.mem_append_right _ (.head _)
  refine wpAny_pyNext_range_item (N _ hm).1 hl fun h' a b => ?_
  obtain ⟨F', N'⟩ := upd_same F N U b a
  exact h h' F' N'
theorem pyNext_rangeEnd_N {it : Addr} {x left : Int} {Q : Option Value → Shared → Prop} (hh : A.handled = none) (hl : left ≤ 0) (F : Fr h₀ L s.heap m) (N : News h₀ L s.heap ((it, riO x left 1) :: news)) (hn : ∀ p ∈ news, p.1 ≠ it)
    (h : ∀ h', Fr h₀ L h' m → News h₀ L h' news → Q none { s with heap := h' }) : wpAny (model prog w) A (pyNext (.ref it)) Q E s := by
  refine wpAny_pyNext_range_end hh (N _ (.head _)).1 hl fun h' a => ?_
  have hL := (N _ (.head _)).2
  exact h h' ⟨F.ns.extBut a hL.1.symm, fun b ob e => a b ob (fun q => by rw [q, hL.2] at e; cases e) (F.keep b ob e), F.above⟩ fun q hq => ⟨a _ _ (hn q hq) (N q (.tail _ hq)).1, (N q (.tail _ hq)).2⟩
end
def wm (words : Value) (pl oc : Option Value) (fa : Value) (y : Str) : Option Value :=
  if y = Str.ofString "octet" then oc else if y = Str.ofString "place" then pl else if y = Str.ofString "words" then some words else List.lookup y [(Str.ofString "figures", fa)].reverse
theorem wm_oc (y : Str) (v words : Value) (pl oc : Option Value) (fa : Value) : (if y = Str.ofString "octet" then some v else wm words pl oc fa y) = wm words pl (some v) fa y := by
  unfold wm
  by_cases h : y = Str.ofString "octet"
  · simp only [h, if_true]
  · simp only [h, if_false]
theorem wm_pl (y : Str) (v words : Value) (pl oc : Option Value) (fa : Value) : (if y = Str.ofString "place" then some v else wm words pl oc fa y) = wm words (some v) oc fa y := by
  unfold wm
  by_cases h : y = Str.ofString "place"
  · subst h; rfl
  · simp only [h, if_false]
theorem wm_new (y : Str) (words fa : Value) : (if y = Str.ofString "words" then some words else List.lookup y [(Str.ofString "figures", fa)].reverse) = wm words none none fa y := by
  unfold wm
  by_cases h : y = Str.ofString "words"
  · subst h; rfl
  · by_cases h1 : y = Str.ofString "octet"
    · subst h1; rfl
    · by_cases h2 : y = Str.ofString "place"
      · subst h2; rfl
      · simp only [h, h1, h2, if_false]
theorem fm4 (i : Nat) : (i : Int).fmod 4 = ((i % 4 : Nat) : Int) := by rw [Int.fmod_eq_emod_of_nonneg _ (by decide)]; rfl
theorem fm2 (i : Nat) : (i : Int).fmod 2 = ((i % 2 : Nat) : Int) := by rw [Int.fmod_eq_emod_of_nonneg _ (by decide)]; rfl
theorem str1 {X : Int} {Y : Nat} (h : X = Y) : (⟨#[X.toNat]⟩ : Str) = ⟨[Y].toArray⟩ := by subst h; rfl
theorem str2 {X : Int} {Y : Nat} (h : X = Y) : (⟨#[X.toNat]⟩ : Str) ++ Str.ofString "+" = ⟨[Y, 43].toArray⟩ := by subst h; rfl
def octetAt (len i f : Nat) : Nat := f + (if i + 1 < len then 64 else 0) + (if i % 4 = 3 then 128 else 0)
def wordAt (len i f : Nat) : List Nat := if i % 2 = 1 then [octetAt len i f] else [octetAt len i f, 43]
def wordsOf (fs : List Nat) : List (List Nat) := (List.range fs.length).map (fun i => wordAt fs.length i (fs.getD i 0))
abbrev intV (p : Nat × Tok) : Value := .int p.1 p.2
abbrev strW (p : List Nat × Tok) : Value := strV p.1 p.2
section
variable {prog : Program} {w : World} {dp un : Nat} {fr : Option (List Env)} {gd : Option (List Code)} {s : Shared} {B : Heap} {p : Program} {loose : List Str} {mean : ExcName → Option Value} {mg mb : Str → Option Value}
  {R : Result → Shared → Prop} {fa : Addr} {fl : List (Nat × Tok)} {n : Nat}
end
end
local macro_rules | `(tactic| walk_at "mq8") => `(tactic| (k_here; (rename IsRange _ _ _ _ _ _ _ _ => kI); (rename News _ _ _ _ => kN); (rename Fr _ _ _ _ => kF); k_dflt (refine' pyIter_range_N kF kN kI ?hk ?_; (case hk => assumption)); clear kN kF kI; intro it h' F' N' lt2; k_lt lt2))
local macro_rules | `(tactic| walk_at "mq9") => `(tactic| (k_here; (with_reducible show wpAny _ _ (call (Value.builtin "len") [Value.ref _]) _ _ _); k_dflt (refine' len_N ?N ?m ?z ?_; (case N => k_asm); (case m => k_mem); (case z => assumption)); intro tk t; (try simp only [List.length_map])))
local macro_rules | `(tactic| walk_at "mq10") => `(tactic| (k_here; (with_reducible show wpAny _ _ (subscriptTail _ _ (Value.ref _) (Value.int _ _)) _ _ _); k_dflt (refine' item_N ?N ?m ?z ?x ?_; (case N => k_asm); (case m => k_mem); (case z => assumption); (case x => assumption))))
section
set_option maxHeartbeats 1000000
open PySem.Calls PySem.Builtin
local macro_rules | `(tactic| walk_at "keepsub") => `(tactic| walk_at "mq2")
section
variable {prog : Program} {w : World} {dp un : Nat} {fr : Option (List Env)} {gd : Option (List Code)} {s : Shared} {B : Heap} {p : Program} {loose : List Str} {mean : ExcName → Option Value} {mg mb : Str → Option Value}
  {R : Result → Shared → Prop} {fa : Addr} {fl : List (Nat × Tok)} {n : Nat}
local macro_rules | `(tactic| walk_at "exec For Name Call cons nil") => `(tactic| (k_here; (with_unfolding_all refine' For_my ?k2 ?k1; (case k1 => exact fun _ => rfl))))
local macro_rules | `(tactic| walk_at "pyIter ref") => `(tactic| walk_at "mq8")
local macro_rules | `(tactic| walk_at "call builtin:len") => `(tactic| walk_at "mq9")
local macro_rules | `(tactic| walk_at "subscriptTail") => `(tactic| walk_at "mq10")
theorem words_spec (O : Ok (hd.heap_39 w.params) p loose mean mg mb B s.heap) (H : Own B s.heap [(fa, lstO (fl.map intV) n)]) (hd : dp < recursionLimit) (h7 : fl.length ≤ 7) (hf : ∀ p ∈ fl, p.1 < 63)
   (k : ∀ (wl : List (List Nat × Tok)) wa nn h' tk', wl.map (·.1) = wordsOf (fl.map (·.1)) → h'.get? wa = some (lstO (wl.map strW) nn) → s.heap.get? wa = none → Keeps [] s.heap h' → R (.ok (.ret (.ref wa))) {s with heap := h', toks := tk'}) :
   codeAny (model prog w) (Ar dp un fr gd) (.call (.ref 117) ⟨[.ref fa], []⟩) R s := by
  refine enter (binds := [(Str.ofString "figures", .ref fa)]) O H (O.keep _ _ (O.X _ _ (by k_is))) rfl ((codeRec_of O.X (by k_is)).keeps O.keep) hd (BindsTo.of_eq rfl) (locs rfl) (fun g L' h₁ F N X T hL hlt => ?_) (by decide)
  k_lt hlt
  have z1 : (fl.map intV).length ≤ 1000 := by rw [List.length_map]; omega
  have z2 : fl.length ≤ 1000 := by omega
  k_steps
  rename News _ _ _ _ => N1
  rename Fr _ _ _ _ => F1
  rename (_ < _ ∧ _ < _) => lt2
  rename_i wa _ l3 _ _ _ _ _ _ _ _ _ _ _ it _
  obtain ⟨l1, l2⟩ := lt2
  refine MyFor.intro (fun j s' => ∃ (i : Nat) (h' : Heap) (tk : Nat) (wl : List (List Nat × Tok)) (nn : Nat) (pl oc : Option Value), i ≤ fl.length ∧ j = fl.length - i ∧ s' = { s with heap := h', toks := tk } ∧ wl.map (·.1) = (List.range i).map (fun i => wordAt fl.length i ((fl.map (·.1)).getD i 0)) ∧
     Fr g L' h' (wm (.ref wa) pl oc (.ref fa)) ∧ News g L' h' [(it, riO i (fl.length - i) 1), (wa, lstO (wl.map strW) nn), (fa, lstO (fl.map intV) n)]) fl.length ⟨0, _, _, [], 0, none, none, Nat.zero_le _, rfl, rfl, rfl, ?_, ?_⟩ ?_
  · simp only [wm_new] at F1
    exact F1
  · rw [show ((0 : Nat) : Int) = 0 from rfl, Int.sub_zero]
    exact N1
  clear F1 N1
  rintro j s' ⟨i, h', tk, wl, nn, pl, oc, hi, rfl, rfl, hw, F, N⟩
  have n1 : @LT.lt Nat _ wa it := l1
  have n2 : @LT.lt Nat _ fa it := l2
  have n3 : @LT.lt Nat _ fa wa := l3
  clear l1 l2 l3
  have hlw : wl.length = i := by
    have := congrArg List.length hw
    simpa using this
  by_cases hlt : i < fl.length
  · obtain ⟨⟨f, tf⟩, hx⟩ : ∃ q, fl[i]? = some q := ⟨_, List.getElem?_eq_getElem hlt⟩
    have hx2 : (fl.map intV)[((i : Nat) : Int).toNat]? = some (.int f tf) := by
      rw [Int.toNat_natCast, List.getElem?_map, hx]; rfl
    have hfr : f < 63 := hf _ (List.mem_of_getElem? hx)
    have z0 : (0 : Int) ≤ (i : Int) ∧ (i : Int) < 2 ^ 63 := by omega
    have z3 : (wl.map strW).length ≤ 1000 := by rw [List.length_map]; omega
    have hD : (fl.map (·.1)).getD i 0 = f := by
      rw [List.getD_eq_getElem?_getD, List.getElem?_map, hx]; rfl
    have fin : ∀ h' tk pl oc v t, Fr g L' h' (wm (.ref wa) pl oc (.ref fa)) → News g L' h' [(it, riO (↑i + 1) (↑fl.length - ↑i - 1) 1), (wa, W.listOf ((List.map strW wl).toArray.push (Value.str v t)) (nn + 1)), (fa, lstO (List.map intV fl) n)] → v = ⟨(wordAt fl.length i f).toArray⟩ →
       Turned (fl.length - i) (fun j s' => ∃ (i : Nat) (h' : Heap) (tk : Nat) (wl : List (List Nat × Tok)) (nn : Nat) (pl oc : Option Value), i ≤ fl.length ∧ j = fl.length - i ∧ s' = { s with heap := h', toks := tk } ∧ wl.map (·.1) = (List.range i).map (fun i => wordAt fl.length i ((fl.map (·.1)).getD i 0)) ∧
     Fr g L' h' (wm (.ref wa) pl oc (.ref fa)) ∧ News g L' h' [(it, riO i (fl.length - i) 1), (wa, lstO (wl.map strW) nn), (fa, lstO (fl.map intV) n)]) { s with heap := h', toks := tk } := by
      intro h' tk pl oc v t F N hv
      refine ⟨fl.length - (i + 1), by omega, i + 1, h', tk, wl ++ [(wordAt fl.length i f, t)], nn + 1, pl, oc, hlt, rfl, rfl, ?_, F, ?_⟩
      · rw [List.map_append, hw, List.range_succ, List.map_append]
        simp only [List.map_cons, List.map_nil, hD]
      · rw [show (((i + 1 : Nat) : Int)) = (i : Int) + 1 by omega, show (fl.length : Int) - ((i : Int) + 1) = (fl.length : Int) - i - 1 by omega]
        rw [hv] at N
        have e : (wl ++ [(wordAt fl.length i f, t)]).map strW = wl.map strW ++ [Value.str ⟨(wordAt fl.length i f).toArray⟩ t] := by simp
        rw [e]
        have e2 : lstO (wl.map strW ++ [Value.str ⟨(wordAt fl.length i f).toArray⟩ t]) (nn + 1) = W.listOf ((List.map strW wl).toArray.push (Value.str ⟨(wordAt fl.length i f).toArray⟩ t)) (nn + 1) := by
          unfold lstO W.listOf
          congr 2
          simp
        rw [e2]
        exact N
    refine pyNext_range_N (it := it) (x := (i : Int)) (left := (fl.length : Int) - i) (by omega) F N (by k_upd) fun h2 F2 N2 => ?_
    clear F N
    refine wpAny_storeName_local rfl F2.ns (fun h3 hn3 hs3 => ?_)
    have F3 := F2.set hn3 hs3
    have N3 := N2.set hs3
    clear F2 N2 hn3 hs3
    k_steps
    all_goals rename News _ _ _ _ => N5
    all_goals rename Fr _ _ _ _ => F5
    all_goals simp only [wm_oc, wm_pl] at F5
    all_goals simp only [fm4, fm2] at *
    all_goals refine fin _ _ _ _ _ _ F5 N5 ?_
    all_goals first
      | (have h2 : i % 2 = 1 := by omega
         unfold wordAt
         rw [if_pos h2]
         exact str1 (by unfold octetAt; split <;> split <;> omega))
      | (have h2 : ¬ (i % 2 = 1) := by omega
         unfold wordAt
         rw [if_neg h2]
         exact str2 (by unfold octetAt; split <;> split <;> omega))
  · have hiK : i = fl.length := by omega
    refine pyNext_rangeEnd_N rfl (by omega) F N (by
      intro q hq
      simp only [List.mem_cons, List.not_mem_nil, or_false] at hq
      rcases hq with rfl | rfl
      · exact fun e => by dsimp only at e; rw [e] at n1; exact Nat.lt_irrefl _ n1
      · exact fun e => by dsimp only at e; rw [e] at n2; exact Nat.lt_irrefl _ n2) fun h2 F2 N2 => ?_
    clear F N
    show wpAny _ _ (execs [_] _) _ _ _
    k_steps
    refine MyEnd.intro F2 N2 fun hk hn => ?_
    have hwa : s.heap.get? wa = none := (hn _ (List.Mem.head _)).2.resolve_left (by
      intro hm
      simp only [List.map_cons, List.map_nil, List.mem_cons, List.not_mem_nil, or_false] at hm
      rw [hm] at n3; exact Nat.lt_irrefl _ n3)
    refine k wl wa nn _ _ ?_ (hn.get (.head _)) hwa (hk.sub H (by walk_at "keepsub"))
    rw [hw, hiK]
    unfold wordsOf
    rw [List.length_map]
end
end
section
set_option maxHeartbeats 8000000
open PySem.Calls PySem.Builtin
local macro_rules | `(tactic| walk_at "keepsub") => `(tactic| walk_at "mq2")
def tm (text : Value) (pl wd : Option Value) (wa : Value) (y : Str) : Option Value :=
  if y = Str.ofString "word" then wd else if y = Str.ofString "place" then pl else if y = Str.ofString "text" then some text else List.lookup y [(Str.ofString "words", wa)].reverse
theorem tm_wd (y : Str) (v text : Value) (pl wd : Option Value) (wa : Value) : (if y = Str.ofString "word" then some v else tm text pl wd wa y) = tm text pl (some v) wa y := by
  unfold tm
  by_cases h : y = Str.ofString "word"
  · simp only [h, if_true]
  · simp only [h, if_false]
theorem tm_pl (y : Str) (v text : Value) (pl wd : Option Value) (wa : Value) : (if y = Str.ofString "place" then some v else tm text pl wd wa y) = tm text (some v) wd wa y := by
  unfold tm
  by_cases h : y = Str.ofString "place"
  · subst h; rfl
  · simp only [h, if_false]
theorem tm_tx (y : Str) (v text : Value) (pl wd : Option Value) (wa : Value) : (if y = Str.ofString "text" then some v else tm text pl wd wa y) = tm v pl wd wa y := by
  unfold tm
  by_cases h : y = Str.ofString "text"
  · subst h; rfl
  · simp only [h, if_false]
theorem tm_new (y : Str) (text wa : Value) : (if y = Str.ofString "text" then some text else List.lookup y [(Str.ofString "words", wa)].reverse) = tm text none none wa y := by
  unfold tm
  by_cases h : y = Str.ofString "text"
  · subst h; rfl
  · by_cases h1 : y = Str.ofString "word"
    · subst h1; rfl
    · by_cases h2 : y = Str.ofString "place"
      · subst h2; rfl
      · simp only [h, h1, h2, if_false]
section
variable {prog : Program} {w : World} {A : Around} {E : Value → Shared → Prop} {s : Shared}
theorem addS {x y : Str} {t u : Tok} {Q : Value → Shared → Prop} (hz : x.length + y.length ≤ 1000) (h : ∀ t' k, Q (.str (x ++ y) t') { s with toks := k }) : wpAny (model prog w) A (binaryOp .Add (.str x t) (.str y u)) Q E s :=
  SBL.add (fun t' k _ => h t' k) (Nat.le_trans hz (by decide))
theorem len_app (x y : Str) : (x ++ y).length = x.length + y.length := by
  show (x.cps ++ y.cps).size = _
  simp [Str.length]
theorem len_q : (Str.ofString "\"").length = 1 := by decide
theorem len_b : (Str.ofString "\\").length = 1 := by decide
theorem len_e : (Str.ofString "end").length = 3 := by decide
theorem len_m (l : List Nat) : (⟨l.toArray⟩ : Str).length = l.length := by simp [Str.length]
theorem len_1 (c : Nat) : (⟨#[c]⟩ : Str).length = 1 := rfl
theorem len_2 (c d : Nat) : (⟨#[c, d]⟩ : Str).length = 2 := rfl
theorem len_i (x : Str) (i : Int) : (Txt.item x i).length = 1 := rfl
theorem mod_known {a b r : Int} {t u : Tok} {Q : Value → Shared → Prop} (hb : b ≠ 0) (hm : a.fmod b = r) (h : Q (.int r s.toks) { s with toks := s.toks + 1 }) : wpAny (model prog w) A (binaryOp .Mod (.int a t) (.int b u)) Q E s := mod_int' hb (hm ▸ h)
end
def sepAt (i : Nat) : Nat := [32, 9, 10, 13].getD (i % 4) 0
def escd (i : Nat) (w : List Nat) : List Nat := if w.headD 0 = 34 ∨ w.headD 0 = 92 ∨ (i % 2 = 1 ∧ wsc (w.headD 0) = true) then 92 :: w else w
def writ (i : Nat) (w : List Nat) : List Nat := (if i % 2 = 0 then 34 :: (escd i w ++ [34]) else escd i w) ++ [sepAt i]
def writs (ws : List (List Nat)) : Nat → List Nat
  | 0 => []
  | i + 1 => writs ws i ++ writ i (ws.getD i [])
def Words (ws : List (List Nat)) : Prop := ∀ i, i < ws.length → ∃ c, c < 256 ∧ ws.getD i [] = if i % 2 = 1 then [c] else [c, 43]
theorem writ_len (i : Nat) (w : List Nat) : (writ i w).length ≤ w.length + 4 := by
  unfold writ escd
  split <;> split <;> simp <;> omega
theorem writs_len (ws : List (List Nat)) (hw : Words ws) : ∀ i, i ≤ ws.length → (writs ws i).length ≤ 6 * i
  | 0, _ => by simp [writs]
  | i + 1, h => by
    have ih := writs_len ws hw i (by omega)
    obtain ⟨c, _, e⟩ := hw i h
    have h1 := writ_len i (ws.getD i [])
    have h2 : (ws.getD i []).length ≤ 2 := by rw [e]; split <;> simp
    unfold writs
    rw [List.length_append]
    omega
theorem occ_qb (c : Nat) : (Str.occurrences (Str.ofString "\"\\") ⟨#[c]⟩ 0 (Str.ofString "\"\\").length 1).isEmpty = !(c == 34 || c == 92) := by
  have h := StrLaws.found_one (Str.ofString "\"\\") c
  rw [← Bool.not_not (Str.occurrences _ _ _ _ _).isEmpty, h]
  congr 1
  have e : (Str.ofString "\"\\").cps.toList = [34, 92] := by decide
  rw [e]
  simp
  rfl
theorem occ_ws2 (c : Nat) : (Str.occurrences (Str.ofString " \t\n\x0d") ⟨#[c]⟩ 0 (Str.ofString " \t\n\x0d").length 1).isEmpty = !wsc c := by
  have h := StrLaws.found_one (Str.ofString " \t\n\x0d") c
  rw [← Bool.not_not (Str.occurrences _ _ _ _ _).isEmpty, h]
  congr 1
  have e : (Str.ofString " \t\n\x0d").cps.toList = [32, 9, 10, 13] := by decide
  rw [e]
  unfold wsc
  rw [Bool.eq_iff_iff]
  simp
  omega
theorem item1 (c : Nat) : Txt.item ⟨#[c]⟩ 0 = ⟨#[c]⟩ := rfl
theorem item2 (c d : Nat) : Txt.item ⟨#[c, d]⟩ 0 = ⟨#[c]⟩ := rfl
theorem lit_q : Str.ofString "\"" = ⟨[34].toArray⟩ := rfl
theorem lit_b : Str.ofString "\\" = ⟨[92].toArray⟩ := rfl
theorem lit_s : Str.ofString " " = ⟨[32].toArray⟩ := rfl
theorem lit_t : Str.ofString "\t" = ⟨[9].toArray⟩ := rfl
theorem lit_n : Str.ofString "\n" = ⟨[10].toArray⟩ := rfl
theorem lit_r : Str.ofString "\x0d" = ⟨[13].toArray⟩ := rfl
theorem lit_e : Str.ofString "end" = ⟨[101, 110, 100].toArray⟩ := rfl
theorem arr1 (c : Nat) : (⟨#[c]⟩ : Str) = ⟨[c].toArray⟩ := rfl
theorem arr2 (c d : Nat) : (⟨#[c, d]⟩ : Str) = ⟨[c, d].toArray⟩ := rfl
theorem str_app (a b : List Nat) : (⟨a.toArray⟩ : Str) ++ (⟨b.toArray⟩ : Str) = ⟨(a ++ b).toArray⟩ := by
  show Str.mk (a.toArray ++ b.toArray) = _
  simp
section
variable {prog : Program} {w : World} {dp un : Nat} {fr : Option (List Env)} {gd : Option (List Code)} {s : Shared} {B : Heap} {p : Program} {loose : List Str} {mean : ExcName → Option Value} {mg mb : Str → Option Value}
  {R : Result → Shared → Prop} {wa : Addr} {wl : List (List Nat × Tok)} {n : Nat}
local macro_rules | `(tactic| walk_at "exec For Name Call cons nil") => `(tactic| (k_here; (with_unfolding_all refine' For_my ?k2 ?k1; (case k1 => exact fun _ => rfl))))
local macro_rules | `(tactic| walk_at "pyIter ref") => `(tactic| walk_at "mq8")
local macro_rules | `(tactic| walk_at "call builtin:len") => `(tactic| walk_at "mq9")
local macro_rules | `(tactic| walk_at "subscriptTail") => `(tactic| walk_at "mq10")
local macro_rules | `(tactic| walk_at "binaryOp Mod int int") => `(tactic| (k_here; k_dflt (refine' mod_known ?hb ?hm ?_; (case hb => decide); (case hm => assumption))))
local macro_rules | `(tactic| walk_at "binaryOp Add str str") => `(tactic| (k_here; k_dflt (refine' addS ?hz ?_; (case hz => (simp only [len_app, len_q, len_b, len_m, len_1, len_2, len_i, len_e]; omega))); intro t' k'))
theorem writ_spec (O : Ok (hd.heap_39 w.params) p loose mean mg mb B s.heap) (H : Own B s.heap [(wa, lstO (wl.map strW) n)]) (hd : dp < recursionLimit) (h7 : wl.length ≤ 7) (hw : Words (wl.map (·.1)))
   (k : ∀ t h' tk', Keeps [] s.heap h' → R (.ok (.ret (strV (writs (wl.map (·.1)) wl.length ++ [101, 110, 100]) t))) {s with heap := h', toks := tk'}) :
   codeAny (model prog w) (Ar dp un fr gd) (.call (.ref 124) ⟨[.ref wa], []⟩) R s := by
  refine enter (binds := [(Str.ofString "words", .ref wa)]) O H (O.keep _ _ (O.X _ _ (by k_is))) rfl ((codeRec_of O.X (by k_is)).keeps O.keep) hd (BindsTo.of_eq rfl) (locs rfl) (fun g L' h₁ F N X T hL hlt => ?_) (by decide)
  k_lt hlt
  have z1 : (wl.map strW).length ≤ 1000 := by rw [List.length_map]; omega
  have z2 : wl.length ≤ 1000 := by omega
  k_steps
  rename News _ _ _ _ => N1
  rename Fr _ _ _ _ => F1
  rename (wa < _) => l1
  rename_i it _
  simp only [tm_new] at F1
  refine MyFor.intro (fun j s' => ∃ (i : Nat) (h' : Heap) (tk : Nat) (t : Tok) (pl wd : Option Value), i ≤ wl.length ∧ j = wl.length - i ∧ s' = { s with heap := h', toks := tk } ∧
     Fr g L' h' (tm (strV (writs (wl.map (·.1)) i) t) pl wd (.ref wa)) ∧ News g L' h' [(it, riO i (wl.length - i) 1), (wa, lstO (wl.map strW) n)]) wl.length ⟨0, _, _, _, none, none, Nat.zero_le _, rfl, rfl, F1, ?_⟩ ?_
  · rw [show ((0 : Nat) : Int) = 0 from rfl, Int.sub_zero]
    exact N1
  clear F1 N1
  rintro j s' ⟨i, h', tk, t, pl, wd, hi, rfl, rfl, F, N⟩
  have n1 : @LT.lt Nat _ wa it := l1
  clear l1
  by_cases hlt : i < wl.length
  · obtain ⟨⟨wd0, tf⟩, hx⟩ : ∃ q, wl[i]? = some q := ⟨_, List.getElem?_eq_getElem hlt⟩
    have hD : (wl.map (·.1)).getD i [] = wd0 := by
      rw [List.getD_eq_getElem?_getD, List.getElem?_map, hx]; rfl
    have hx2 : (wl.map strW)[((i : Nat) : Int).toNat]? = some (strV wd0 tf) := by
      rw [Int.toNat_natCast, List.getElem?_map, hx]; rfl
    have z0 : (0 : Int) ≤ (i : Int) ∧ (i : Int) < 2 ^ 63 := by omega
    obtain ⟨c, hc, hcw⟩ := hw i (by rw [List.length_map]; exact hlt)
    rw [hD] at hcw
    have fin : ∀ h' tk pl wd v t, Fr g L' h' (tm (.str v t) pl wd (.ref wa)) → News g L' h' [(it, riO (↑i + 1) (↑wl.length - ↑i - 1) 1), (wa, lstO (List.map strW wl) n)] → v = ⟨(writs (wl.map (·.1)) i ++ writ i wd0).toArray⟩ →
       Turned (wl.length - i) (fun j s' => ∃ (i : Nat) (h' : Heap) (tk : Nat) (t : Tok) (pl wd : Option Value), i ≤ wl.length ∧ j = wl.length - i ∧ s' = { s with heap := h', toks := tk } ∧
     Fr g L' h' (tm (strV (writs (wl.map (·.1)) i) t) pl wd (.ref wa)) ∧ News g L' h' [(it, riO i (wl.length - i) 1), (wa, lstO (wl.map strW) n)]) { s with heap := h', toks := tk } := by
      intro h' tk pl wd v t F N hv
      refine ⟨wl.length - (i + 1), by omega, i + 1, h', tk, t, pl, wd, hlt, rfl, rfl, ?_, ?_⟩
      · rw [writs, hD, strV, ← hv]
        exact F
      · rw [show (((i + 1 : Nat) : Int)) = (i : Int) + 1 by omega, show (wl.length : Int) - ((i : Int) + 1) = (wl.length : Int) - i - 1 by omega]
        exact N
    refine pyNext_range_N (it := it) (x := (i : Int)) (left := (wl.length : Int) - i) (by omega) F N (by k_upd) fun h2 F2 N2 => ?_
    clear F N
    refine wpAny_storeName_local rfl F2.ns (fun h3 hn3 hs3 => ?_)
    have F3 := F2.set hn3 hs3
    have N3 := N2.set hs3
    clear F2 N2 hn3 hs3
    have hwl := writs_len (wl.map (·.1)) hw i (by rw [List.length_map]; exact hi)
    have h4 : i % 4 = 0 ∨ i % 4 = 1 ∨ i % 4 = 2 ∨ i % 4 = 3 := by omega
    rcases h4 with h4 | h4 | h4 | h4
    · have m4 : (i : Int).fmod 4 = 0 := by rw [fm4, h4]; rfl
      have m2 : (i : Int).fmod 2 = 0 := by rw [fm2]; omega
      have p2 : i % 2 = 0 := by omega
      rw [if_neg (by omega)] at hcw
      subst hcw
      k_steps
      all_goals rename News _ _ _ _ => N5
      all_goals rename Fr _ _ _ _ => F5
      all_goals simp only [tm_wd, tm_pl, tm_tx] at F5
      all_goals refine fin _ _ _ _ _ _ F5 N5 ?_
      all_goals simp only [item1, item2, occ_qb, occ_ws2, Bool.not_eq_true', Bool.not_eq_false', Bool.or_eq_false_iff, Bool.or_eq_true, beq_eq_false_iff_ne, beq_iff_eq] at *
      all_goals simp only [lit_q, lit_b, lit_s, lit_t, lit_n, lit_r, arr1, arr2, str_app]
      all_goals (congr 2; unfold writ escd sepAt; simp [*])
      all_goals (split <;> simp_all)
    · have m4 : (i : Int).fmod 4 = 1 := by rw [fm4, h4]; rfl
      have m2 : (i : Int).fmod 2 = 1 := by rw [fm2]; omega
      have p2 : i % 2 = 1 := by omega
      rw [if_pos (by omega)] at hcw
      subst hcw
      k_steps
      all_goals rename News _ _ _ _ => N5
      all_goals rename Fr _ _ _ _ => F5
      all_goals simp only [tm_wd, tm_pl, tm_tx] at F5
      all_goals refine fin _ _ _ _ _ _ F5 N5 ?_
      all_goals simp only [item1, item2, occ_qb, occ_ws2, Bool.not_eq_true', Bool.not_eq_false', Bool.or_eq_false_iff, Bool.or_eq_true, beq_eq_false_iff_ne, beq_iff_eq] at *
      all_goals simp only [lit_q, lit_b, lit_s, lit_t, lit_n, lit_r, arr1, arr2, str_app]
      all_goals (congr 2; unfold writ escd sepAt; simp [*])
      all_goals (split <;> simp_all)
    · have m4 : (i : Int).fmod 4 = 2 := by rw [fm4, h4]; rfl
      have m2 : (i : Int).fmod 2 = 0 := by rw [fm2]; omega
      have p2 : i % 2 = 0 := by omega
      rw [if_neg (by omega)] at hcw
      subst hcw
      k_steps
      all_goals rename News _ _ _ _ => N5
      all_goals rename Fr _ _ _ _ => F5
      all_goals simp only [tm_wd, tm_pl, tm_tx] at F5
      all_goals refine fin _ _ _ _ _ _ F5 N5 ?_
      all_goals simp only [item1, item2, occ_qb, occ_ws2, Bool.not_eq_true', Bool.not_eq_false', Bool.or_eq_false_iff, Bool.or_eq_true, beq_eq_false_iff_ne, beq_iff_eq] at *
      all_goals simp only [lit_q, lit_b, lit_s, lit_t, lit_n, lit_r, arr1, arr2, str_app]
      all_goals (congr 2; unfold writ escd sepAt; simp [*])
      all_goals (split <;> simp_all)
    · have m4 : (i : Int).fmod 4 = 3 := by rw [fm4, h4]; rfl
      have m2 : (i : Int).fmod 2 = 1 := by rw [fm2]; omega
      have p2 : i % 2 = 1 := by omega
      rw [if_pos (by omega)] at hcw
      subst hcw
      k_steps
      all_goals rename News _ _ _ _ => N5
      all_goals rename Fr _ _ _ _ => F5
      all_goals simp only [tm_wd, tm_pl, tm_tx] at F5
      all_goals refine fin _ _ _ _ _ _ F5 N5 ?_
      all_goals simp only [item1, item2, occ_qb, occ_ws2, Bool.not_eq_true', Bool.not_eq_false', Bool.or_eq_false_iff, Bool.or_eq_true, beq_eq_false_iff_ne, beq_iff_eq] at *
      all_goals simp only [lit_q, lit_b, lit_s, lit_t, lit_n, lit_r, arr1, arr2, str_app]
      all_goals (congr 2; unfold writ escd sepAt; simp [*])
      all_goals (split <;> simp_all)
  · have hiK : i = wl.length := by omega
    refine pyNext_rangeEnd_N rfl (by omega) F N (by
      intro q hq
      simp only [List.mem_cons, List.not_mem_nil, or_false] at hq
      rcases hq with rfl
      exact fun e => by dsimp only at e; rw [e] at n1; exact Nat.lt_irrefl _ n1) fun h2 F2 N2 => ?_
    clear F N
    show wpAny _ _ (execs [_] _) _ _ _
    have hwl := writs_len (wl.map (·.1)) hw i (by rw [List.length_map]; exact hi)
    k_steps
    refine MyEnd.intro (by assumption) (by assumption) fun hk hn => ?_
    have e : ∀ l : List Nat, (⟨l.toArray⟩ : Str) ++ Str.ofString "end" = ⟨(l ++ [101, 110, 100]).toArray⟩ := fun l => by rw [lit_e, str_app]
    rw [e, hiK]
    exact k _ _ _ (hk.sub H (by walk_at "keepsub"))
end
end
section
set_option maxHeartbeats 1000000
theorem CompEnd.mono {h₀ : Heap} {L I C D : Addr} {m : Str → Option Value} {s₁ s₂ : Shared} {oI oC oD : Obj} {S : List (Addr × Obj) → Prop} {rest rest' : Value → List (Addr × Obj) → Prop} {y : Value}
    (h : LCg.CompEnd h₀ L m s₁ I oI C oC D oD S rest y s₂) (hm : ∀ n', rest y n' → rest' y n') : LCg.CompEnd h₀ L m s₁ I oI C oC D oD S rest' y s₂ := by
  obtain ⟨h', tk, news', e, F, N, o, hS, r⟩ := h
  exact ⟨h', tk, news', e, F, N, o, hS, hm _ r⟩
section
variable {prog : Program} {w : World} {A : Around} {s : Shared} {h₀ : Heap} {L : Addr} {m : Str → Option Value} {env : Env} {elt : PySem.Expr} {x : Str} {scope : Scope} {cl : List (Str × Addr)} {S : List (Addr × Obj) → Prop} {P : Nat → Value → Prop} {Fin : List Value → List (Addr × Obj) → Prop}
theorem CompRest.ind {n : Nat} (J : Nat → List Value → List (Addr × Obj) → Prop)
    (step : ∀ i ys news, i < n → J i ys news → ∀ v I oI C oC D m₂ h tk, P i v → LCg.NsObj oC m₂ → m₂ x = some v → Fr h₀ L h m → News h₀ L h ((I, oI) :: (C, oC) :: (D, LCg.lst ys) :: news) → LCg.Off3 I C D news → ((@Ne Nat I C) ∧ (@Ne Nat I D) ∧ (@Ne Nat C D)) →
      wpAny (model prog w) A (eval elt (compEnvC scope cl C env)) (LCg.CompEnd h₀ L m { s with heap := h, toks := tk } I oI C oC D (LCg.lst ys) S (fun y news' => J (i + 1) (ys ++ [y]) news')) (fun _ _ => False) { s with heap := h, toks := tk })
    (fin : ∀ ys news, J n ys news → Fin ys news) : ∀ k i ys news, i + k = n → J i ys news → LCg.CompRest prog w A h₀ L m env elt x scope cl s S P Fin k i ys news
  | 0, i, ys, news, e, hJ => by
    have : i = n := by omega
    subst this
    exact LCg.CompRest.zero (fin _ _ hJ)
  | k + 1, i, ys, news, e, hJ => by
    refine LCg.CompRest.succ fun v I oI C oC D m₂ h tk E' hP hN hx F N o hn => ?_
    refine wpAny_noRaise (wpAny_mono (step i ys news (by omega) hJ v I oI C oC D m₂ h tk hP hN hx F N o hn) (fun y s₂ hy => ?_) fun _ _ z => z.elim)
    exact CompEnd.mono hy fun n' hj => CompRest.ind J step fin k (i + 1) _ n' (by omega) hj
end
end
section
set_option maxHeartbeats 1000000
def tailW : Nat → List (List Nat) → List Nat
  | _, [] => [101, 110, 100]
  | i, w :: r => writ i w ++ tailW (i + 1) r
def preW (i : Nat) : List Nat := if i % 2 = 1 then [sepAt (i - 1)] else []
def WordOk (i : Nat) (w : List Nat) : Prop := ∃ c, c < 256 ∧ w = if i % 2 = 1 then [c] else [c, 43]
theorem wsc_sep (i : Nat) : wsc (sepAt i) = true := by
  unfold sepAt
  have h4 : i % 4 = 0 ∨ i % 4 = 1 ∨ i % 4 = 2 ∨ i % 4 = 3 := by omega
  rcases h4 with h | h | h | h <;> rw [h] <;> decide
theorem getTok_skip (i : Nat) (r : List Nat) : getTok (preW i ++ r) = getTok r := by
  unfold preW
  split
  · exact getTok_ws (wsc_sep _)
  · rfl
theorem tok_even {i : Nat} {c : Nat} {rest : List Nat} (h : i % 2 = 0) : getTok (writ i [c, 43] ++ rest) = ([c, 43], sepAt i :: rest) := by
  unfold writ
  rw [if_pos h]
  unfold escd
  by_cases hq : c = 34
  · subst hq
    rw [if_pos (by simp)]
    show getTok (34 :: 92 :: 34 :: 43 :: 34 :: sepAt i :: rest) = _
    rw [getTok_q (by decide) (by decide), inner_esc (by decide) (by decide), inner_plain (by decide) (by decide), inner_stop (by decide)]
  · by_cases hb : c = 92
    · subst hb
      rw [if_pos (by simp)]
      show getTok (34 :: 92 :: 92 :: 43 :: 34 :: sepAt i :: rest) = _
      rw [getTok_q (by decide) (by decide), inner_esc (by decide) (by decide), inner_plain (by decide) (by decide), inner_stop (by decide)]
    · rw [if_neg (by simp [hq, hb, h])]
      show getTok (34 :: c :: 43 :: 34 :: sepAt i :: rest) = _
      rw [getTok_q (by decide) (by decide), inner_plain (by simp [hq]) (by simp [hb]), inner_plain (by decide) (by decide), inner_stop (by decide)]
theorem tok_odd {i : Nat} {c : Nat} {rest : List Nat} (h : i % 2 = 1) : getTok (writ i [c] ++ rest) = ([c], rest) := by
  unfold writ
  rw [if_neg (by omega)]
  unfold escd
  by_cases hq : c = 34 ∨ c = 92 ∨ wsc c = true
  · rw [if_pos (by simpa [h] using hq)]
    show getTok (92 :: c :: sepAt i :: rest) = _
    rw [getTok_esc (by decide) (by decide) (by decide), inner_stop (wsc_sep i)]
  · have h1 : c ≠ 34 := fun e => hq (.inl e)
    have h2 : c ≠ 92 := fun e => hq (.inr (.inl e))
    have h3 : wsc c = false := by cases q : wsc c with | true => exact absurd (.inr (.inr q)) hq | false => rfl
    rw [if_neg (by simp [h1, h2, h3])]
    show getTok (c :: sepAt i :: rest) = _
    rw [getTok_plain h3 (by simp [h1]) (by simp [h2]), inner_stop (wsc_sep i)]
theorem tok_at {i : Nat} {w : List Nat} {r : List (List Nat)} (h : WordOk i w) : getTok (preW i ++ tailW i (w :: r)) = (w, preW (i + 1) ++ tailW (i + 1) r) := by
  rw [getTok_skip]
  obtain ⟨c, hc, rfl⟩ := h
  show getTok (writ i _ ++ _) = _
  by_cases ho : i % 2 = 1
  · rw [if_pos ho, tok_odd ho]
    unfold preW
    rw [if_neg (by omega)]
    rfl
  · rw [if_neg ho, tok_even (by omega)]
    unfold preW
    rw [if_pos (by omega)]
    rfl
theorem tok_end (i : Nat) : getTok (preW i ++ tailW i []) = ([101, 110, 100], []) := by
  rw [getTok_skip]
  rfl
theorem tok_nil : getTok [] = ([], []) := rfl
theorem writs_tail (ws : List (List Nat)) : ∀ k i, i + k = ws.length → writs ws i ++ tailW i (ws.drop i) = writs ws ws.length ++ [101, 110, 100]
  | 0, i, e => by
    have : i = ws.length := by omega
    subst this
    rw [List.drop_length]; rfl
  | k + 1, i, e => by
    rw [← writs_tail ws k (i + 1) (by omega)]
    have hlt : i < ws.length := by omega
    rw [List.drop_eq_getElem_cons hlt]
    have hg : ws.getD i [] = ws[i] := by rw [List.getD_eq_getElem?_getD, List.getElem?_eq_getElem hlt]; rfl
    show writs ws i ++ (writ i ws[i] ++ tailW (i + 1) (ws.drop (i + 1))) = (writs ws i ++ writ i (ws.getD i [])) ++ _
    rw [hg, List.append_assoc]
theorem text_eq (ws : List (List Nat)) : writs ws ws.length ++ [101, 110, 100] = preW 0 ++ tailW 0 ws := by
  rw [← writs_tail ws ws.length 0 (by omega)]
  rfl
theorem Words.ok {ws : List (List Nat)} (h : Words ws) {i : Nat} {w : List Nat} {r : List (List Nat)} (hd : ws.drop i = w :: r) : WordOk i w := by
  have hlt : i < ws.length := by
    have := congrArg List.length hd
    simp at this; omega
  obtain ⟨c, hc, e⟩ := h i hlt
  have hg : ws.getD i [] = w := by
    rw [List.drop_eq_getElem_cons hlt] at hd
    injection hd with h1 h2
    rw [List.getD_eq_getElem?_getD, List.getElem?_eq_getElem hlt]; exact h1
  exact ⟨c, hc, hg ▸ e⟩
end
section
def numS (d : Nat → Nat) (a : Nat) : Nat → Nat
  | 0 => 0
  | l + 1 => 64 * numS d a l + d (a + l)
theorem numS_cat (d : Nat → Nat) (a k : Nat) : ∀ l, numS d a (k + l) = 64 ^ l * numS d a k + numS d (a + k) l
  | 0 => by simp [numS]
  | l + 1 => by
    show 64 * numS d a (k + l) + d (a + (k + l)) = 64 ^ (l + 1) * numS d a k + (64 * numS d (a + k) l + d (a + k + l))
    rw [numS_cat d a k l, Nat.pow_succ, Nat.mul_add, ← Nat.add_assoc a k l]
    have : 64 * (64 ^ l * numS d a k) = 64 ^ l * 64 * numS d a k := by rw [← Nat.mul_assoc, Nat.mul_comm 64]
    omega
theorem numS_congr {d e : Nat → Nat} {a b : Nat} : ∀ {l : Nat}, (∀ k, k < l → d (a + k) = e (b + k)) → numS d a l = numS e b l
  | 0, _ => rfl
  | l + 1, h => by
    show 64 * numS d a l + d (a + l) = 64 * numS e b l + e (b + l)
    rw [numS_congr (fun k hk => h k (Nat.lt_succ_of_lt hk)), h l (Nat.lt_succ_self _)]
theorem numS_bound {d : Nat → Nat} (hd : ∀ k, d k < 63) (a : Nat) : ∀ l, 63 * numS d a l + 62 ≤ 62 * 64 ^ l
  | 0 => by simp [numS]
  | l + 1 => by
    have ih := numS_bound hd a l
    have := hd (a + l)
    show 63 * (64 * numS d a l + d (a + l)) + 62 ≤ 62 * 64 ^ (l + 1)
    rw [Nat.pow_succ]
    omega
theorem numS_lt {d : Nat → Nat} (hd : ∀ k, d k < 64) (a : Nat) : ∀ l, numS d a l < 64 ^ l
  | 0 => by simp [numS]
  | l + 1 => by
    have ih := numS_lt hd a l
    have := hd (a + l)
    show 64 * numS d a l + d (a + l) < 64 ^ (l + 1)
    rw [Nat.pow_succ]
    omega
theorem numS_inj {d e : Nat → Nat} (hd : ∀ k, d k < 64) (he : ∀ k, e k < 64) : ∀ l, numS d 0 l = numS e 0 l → ∀ k, k < l → d k = e k
  | 0, _, k, hk => absurd hk (Nat.not_lt_zero _)
  | l + 1, h, k, hk => by
    have h1 : 64 * numS d 0 l + d (0 + l) = 64 * numS e 0 l + e (0 + l) := h
    rw [Nat.zero_add] at h1
    have := hd l; have := he l
    have h2 : numS d 0 l = numS e 0 l := by omega
    rcases Nat.lt_succ_iff_lt_or_eq.mp hk with q | rfl
    · exact numS_inj hd he l h2 k q
    · omega
theorem per_mul {d : Nat → Nat} {m : Nat} (hp : ∀ k, d (k + m) = d k) (k : Nat) : ∀ j, d (k + m * j) = d k
  | 0 => rfl
  | j + 1 => by rw [Nat.mul_succ, ← Nat.add_assoc, hp, per_mul hp k j]
theorem per_mod {d : Nat → Nat} {m : Nat} (hp : ∀ k, d (k + m) = d k) (k : Nat) : d (k % m) = d k := by
  have := per_mul hp (k % m) (k / m)
  rw [Nat.mod_add_div] at this
  exact this.symm
/-- the key identity -/
theorem key {d : Nat → Nat} {m : Nat} (hp : ∀ k, d (k + m) = d k) (k : Nat) : 64 ^ k * numS d 0 m + numS d 0 k = 64 ^ m * numS d 0 k + numS d k m := by
  have h1 := numS_cat d 0 k m
  have h2 := numS_cat d 0 m k
  rw [Nat.zero_add] at h1 h2
  have h3 : numS d m k = numS d 0 k := numS_congr fun j _ => by rw [Nat.add_comm, hp, Nat.zero_add]
  rw [h3] at h2
  rw [← h1, ← h2, Nat.add_comm]
theorem front_eq {d : Nat → Nat} {m : Nat} (hm : 0 < m) (hp : ∀ k, d (k + m) = d k) (hd : ∀ k, d k < 63) (k : Nat) : 64 ^ k * numS d 0 m / (64 ^ m - 1) = numS d 0 k := by
  have hk := key hp k
  have hb := numS_bound hd k m
  have hP : 64 ≤ 64 ^ m := by
    have := Nat.pow_le_pow_right (n := 64) (by decide) hm
    simpa using this
  obtain ⟨P, hPe⟩ : ∃ P, 64 ^ m = P + 1 := ⟨64 ^ m - 1, by omega⟩
  rw [hPe] at hk hb ⊢
  rw [Nat.add_mul, Nat.one_mul] at hk
  have e : 64 ^ k * numS d 0 m = P * numS d 0 k + numS d k m := by omega
  rw [e, Nat.add_sub_cancel, Nat.mul_add_div (by omega), Nat.div_eq_of_lt (by omega), Nat.add_zero]
def FW (m n : Nat) : Prop := ∀ u : Nat → Nat, (∀ k, k + m < m + n - Nat.gcd m n → u (k + m) = u k) → (∀ k, k + n < m + n - Nat.gcd m n → u (k + n) = u k) → ∀ k, k + Nat.gcd m n < m + n - Nat.gcd m n → u (k + Nat.gcd m n) = u k
theorem FW.swap {m n : Nat} (h : FW m n) : FW n m := fun u h1 h2 k hk => by
  rw [Nat.gcd_comm n m, Nat.add_comm n m] at *
  exact h u h2 h1 k hk
theorem fw_step {m n : Nat} (hn : 0 < n) (hlt : n < m) (ih : FW (m - n) n) : FW m n := fun u h1 h2 => by
  have hg : Nat.gcd (m - n) n = Nat.gcd m n := Nat.gcd_sub_self_left (Nat.le_of_lt hlt)
  have hdm : Nat.gcd m n ∣ m := Nat.gcd_dvd_left m n
  have hdn : Nat.gcd m n ∣ n := Nat.gcd_dvd_right m n
  have hgp : 0 < Nat.gcd m n := Nat.gcd_pos_of_pos_right m hn
  unfold FW at ih
  rw [hg] at ih
  generalize Nat.gcd m n = g at *
  have hgn : g ≤ n := Nat.le_of_dvd hn hdn
  have hgmn : g ≤ m - n := Nat.le_of_dvd (by omega) (Nat.dvd_sub hdm hdn)
  have e : m - n + n - g = m - g := by omega
  rw [e] at ih
  have IH := ih u (fun k hk => by
      have a := h2 (k + (m - n)) (by omega)
      have b := h1 k (by omega)
      rw [show k + (m - n) + n = k + m by omega] at a
      rw [← a, b]) (fun k hk => h2 k (by omega))
  have chain : ∀ t j, j + t * g < m - g → u (j + t * g) = u j := by
    intro t
    induction t with
    | zero => intro j _; simp
    | succ t iht =>
      intro j hj
      rw [Nat.succ_mul] at hj ⊢
      rw [← Nat.add_assoc, IH (j + t * g) (by omega), iht j (by omega)]
  intro k
  induction k using Nat.strongRecOn with
  | ind k ihk =>
    intro hk
    by_cases hkn : n ≤ k
    · have a := ihk (k - n) (by omega) (by omega)
      have b := h2 (k - n) (by omega)
      have c := h2 (k - n + g) (by omega)
      rw [show k - n + n = k by omega] at b
      rw [show k - n + g + n = k + g by omega] at c
      rw [c, b, a]
    · by_cases hkg : k + g < n
      · exact IH k (by omega)
      · obtain ⟨t, ht⟩ := hdn
        have a := h2 (k + g - n) (by omega)
        rw [show k + g - n + n = k + g by omega] at a
        cases t with
        | zero => omega
        | succ t =>
          have hb := chain t (k + g - n) (by rw [Nat.mul_succ] at ht; rw [Nat.mul_comm t g]; omega)
          rw [show k + g - n + t * g = k by rw [Nat.mul_succ] at ht; rw [Nat.mul_comm t g]; omega] at hb
          rw [a, hb]
theorem fw : ∀ N m n : Nat, m + n ≤ N → 0 < m → 0 < n → FW m n
  | 0, m, n, h, hm, hn => by omega
  | N + 1, m, n, h, hm, hn => by
    rcases Nat.lt_trichotomy m n with q | rfl | q
    · exact (fw_step hm q (fw N (n - m) m (by omega) (by omega) hm)).swap
    · intro u h1 _ k hk
      rw [Nat.gcd_self] at *
      exact h1 k hk
    · exact fw_step hn q (fw N (m - n) n (by omega) (by omega) hn)
theorem per_ext {d : Nat → Nat} {m g s : Nat} (hm : 0 < m) (hg : 0 < g) (hgm : g ∣ m) (hp : ∀ k, d (k + m) = d k) (hs : m ≤ s) (hl : ∀ k, k + g < s → d (k + g) = d k) (k : Nat) : d k = d (k % g) := by
  have chain : ∀ t j, j + t * g < s → d (j + t * g) = d j := by
    intro t
    induction t with
    | zero => intro j _; simp
    | succ t iht =>
      intro j hj
      rw [Nat.succ_mul] at hj ⊢
      rw [← Nat.add_assoc, hl (j + t * g) (by omega), iht j (by omega)]
  rw [← per_mod hp k]
  have h1 : k % m < m := Nat.mod_lt _ hm
  have h2 := chain (k % m / g) (k % m % g) (by rw [Nat.mul_comm, Nat.mod_add_div]; omega)
  rw [Nat.mul_comm, Nat.mod_add_div, Nat.mod_mod_of_dvd k hgm] at h2
  exact h2
theorem same {d e : Nat → Nat} {m n : Nat} (hm : 0 < m) (hn : 0 < n) (hp : ∀ k, d (k + m) = d k) (hq : ∀ k, e (k + n) = e k) (h : ∀ k, k < m + n - Nat.gcd m n → d k = e k) : ∀ k, d k = e k := by
  have hgp : 0 < Nat.gcd m n := Nat.gcd_pos_of_pos_right m hn
  have hgn : Nat.gcd m n ≤ n := Nat.le_of_dvd hn (Nat.gcd_dvd_right m n)
  have hgm : Nat.gcd m n ≤ m := Nat.le_of_dvd hm (Nat.gcd_dvd_left m n)
  have F := fw (m + n) m n (Nat.le_refl _) hm hn d (fun k _ => hp k) (fun k hk => by rw [h _ hk, hq, ← h k (by omega)])
  have G : ∀ k, k + Nat.gcd m n < m + n - Nat.gcd m n → e (k + Nat.gcd m n) = e k := fun k hk => by rw [← h _ hk, F k hk, h k (by omega)]
  intro k
  rw [per_ext hm hgp (Nat.gcd_dvd_left m n) hp (by omega) F k, per_ext hn hgp (Nat.gcd_dvd_right m n) hq (by omega) G k]
  exact h _ (Nat.lt_of_lt_of_le (Nat.mod_lt _ hgp) (by omega))
theorem cross {d e : Nat → Nat} {m n : Nat} (hp : ∀ k, d (k + m) = d k) (hq : ∀ k, e (k + n) = e k) (h : ∀ k, d k = e k) : numS d 0 m * (64 ^ n - 1) = numS e 0 n * (64 ^ m - 1) := by
  have hde : d = e := funext h
  subst hde
  have h1 := key hp n
  have h2 : numS d n m = numS d 0 m := numS_congr fun j _ => by rw [Nat.add_comm, hq, Nat.zero_add]
  rw [h2] at h1
  have p1 : 1 ≤ 64 ^ n := Nat.pow_pos (by decide)
  have p2 : 1 ≤ 64 ^ m := Nat.pow_pos (by decide)
  rw [Nat.mul_sub, Nat.mul_sub, Nat.mul_one, Nat.mul_one, Nat.mul_comm _ (64 ^ n), Nat.mul_comm _ (64 ^ m)]
  have a1 : numS d 0 m ≤ 64 ^ n * numS d 0 m := Nat.le_mul_of_pos_left _ p1
  have a2 : numS d 0 n ≤ 64 ^ m * numS d 0 n := Nat.le_mul_of_pos_left _ p2
  omega
theorem cross_front {N1 N2 P1 P2 s : Nat} (h1 : 0 < P1) (h2 : 0 < P2) (h : N1 * P2 = N2 * P1) : 64 ^ s * N1 / P1 = 64 ^ s * N2 / P2 := by
  rw [← Nat.mul_div_mul_right _ P1 h2, ← Nat.mul_div_mul_right (64 ^ s * N2) P2 h1, Nat.mul_assoc, h, Nat.mul_comm P1 P2, Nat.mul_assoc]
theorem law_math {d e : Nat → Nat} {m n : Nat} (hm : 0 < m) (hn : 0 < n) (hp : ∀ k, d (k + m) = d k) (hq : ∀ k, e (k + n) = e k) (hd : ∀ k, d k < 63) (he : ∀ k, e k < 63) :
    (numS d 0 (m + n - Nat.gcd m n) = numS e 0 (m + n - Nat.gcd m n)) ↔ numS d 0 m * (64 ^ n - 1) = numS e 0 n * (64 ^ m - 1) := by
  constructor
  · intro h
    exact cross hp hq (same hm hn hp hq (numS_inj (fun k => Nat.lt_trans (hd k) (by decide)) (fun k => Nat.lt_trans (he k) (by decide)) _ h))
  · intro h
    have a := front_eq hm hp hd (m + n - Nat.gcd m n)
    have b := front_eq hn hq he (m + n - Nat.gcd m n)
    have p1 : 64 ≤ 64 ^ m := by have := Nat.pow_le_pow_right (n := 64) (by decide) hm; simpa using this
    have p2 : 64 ≤ 64 ^ n := by have := Nat.pow_le_pow_right (n := 64) (by decide) hn; simpa using this
    rw [← a, ← b]
    exact cross_front (by omega) (by omega) h
end
section
set_option maxHeartbeats 4000000
open PySem.Calls PySem.Builtin
local macro_rules | `(tactic| walk_at "keepsub") => `(tactic| walk_at "mq2")
section
variable {prog : Program} {w : World} {A : Around} {E : Value → Shared → Prop} {s : Shared} {h₀ : Heap} {L : Addr} {m : Str → Option Value} {news news' : List (Addr × Obj)}
theorem pyIter_list_N {l : Addr} {vs : List Value} {n : Nat} {Q : Value → Shared → Prop} (F : Fr h₀ L s.heap m) (N : News h₀ L s.heap news) (hm : (l, lstO vs n) ∈ news)
    (h : ∀ it h', Fr h₀ L h' m → News h₀ L h' ((it, liO l 0) :: news) → (∀ p ∈ news, p.1 < it) → Q (.ref it) { s with heap := h' }) : wpAny (model prog w) A (pyIter (.ref l)) Q E s :=
  wpAny_pyIter_list (items := vs.toArray) ⟨_, (N _ hm).1, rfl, n, rfl⟩ (h _ _ (F.push _) (N.push F _) fun p hp => Heap.lt_size (N p hp).1)
theorem cat_N {l b : Addr} {vs ws : List Value} {n n2 : Nat} {Q : Value → Shared → Prop} (F : Fr h₀ L s.heap m) (N : News h₀ L s.heap news) (hl : (l, lstO vs n) ∈ news) (hb : (b, lstO ws n2) ∈ news) (hz : vs.length + ws.length ≤ 1000)
    (h : ∀ D h', Fr h₀ L h' m → News h₀ L h' ((D, lstO (vs ++ ws) 0) :: news) → (∀ p ∈ news, p.1 < D) → Q (.ref D) { s with heap := h' }) : wpAny (model prog w) A (binaryOp .Add (.ref l) (.ref b)) Q E s :=
  add_lists F N ⟨_, (N _ hl).1, rfl, n, rfl⟩ ⟨_, (N _ hb).1, rfl, n2, rfl⟩ (fun h' F' N' => h _ h' F' N' fun p hp => Heap.lt_size (N p hp).1) (Nat.le_trans hz (by decide))
theorem pyNext_listO {l it : Addr} {vs : List Value} {n i : Nat} {x : Value} {Q : Option Value → Shared → Prop} (hit : s.heap.get? it = some (liO l i)) (hl : s.heap.get? l = some (lstO vs n)) (hx : vs[i]? = some x)
    (hQ : ∀ h', h'.get? it = some (liO l (i + 1)) → Heap.SameBut it s.heap h' → Q (some x) { s with heap := h' }) : wpAny (model prog w) A (pyNext (.ref it)) Q E s := by
  have hI : s.heap.IsListIter it l i := ⟨_, hit, rfl, rfl⟩
  unfold pyNext
  refine wpAny_bind (wpAny_attempt (wpAny_callSpecial?_slot (name := Str.ofString "__next__") hI.typeIs slot_listiter_next
    (wpAny_call_entry slot_listiter_next hI.typeIs entry_listiter_next ?_ (args_listiter_next _))))
  show wpAny _ _ (field (.ref it) 0 >>= _) _ _ s
  refine wpAny_bind (wpAny_field hit rfl (x := .ref l) rfl ?_)
  show wpAny _ _ (if (Value.ref l == Value.none) = true then _ else _) _ _ s
  rw [if_neg (show ¬ ((Value.ref l == Value.none) = true) from Bool.false_ne_true)]
  show wpAny _ _ (field (.ref it) 1 >>= _) _ _ s
  refine wpAny_bind (wpAny_field hit rfl (x := .int i 0) rfl ?_)
  show wpAny _ _ (seqItems? (.ref l) >>= _) _ _ s
  refine wpAny_bind (wpAny_seqItems hl rfl ?_)
  have hx' : vs.toArray[i]? = some x := by simpa using hx
  simp only [Int.toNat_natCast, hx']
  refine wpAny_bind (wpAny_setField hit rfl (by simp) (wpAny_pure ⟨x, rfl, wpAny_pure (hQ _ ?_ (Heap.SameBut.update ..))⟩))
  rw [Heap.get?_update_self _ hit rfl]
  simp [Obj.mapFields, rawInt]
theorem pyNext_list_N {l it : Addr} {vs : List Value} {n i : Nat} {x : Value} {Q : Option Value → Shared → Prop} (F : Fr h₀ L s.heap m) (N : News h₀ L s.heap news) (hm : (l, lstO vs n) ∈ news) (hx : vs[i]? = some x) (U : Upd it (liO l i) (liO l (i + 1)) news news')
    (h : ∀ h', Fr h₀ L h' m → News h₀ L h' news' → Q (some x) { s with heap := h' }) : wpAny (model prog w) A (pyNext (.ref it)) Q E s := by
  have hi : (it, liO l i) ∈ news := by
    obtain ⟨pre, post, e1, e2, a, b⟩ := U.split
    rw [e1]; exact List.mem_append_right _ (.head _)
  refine pyNext_listO (N _ hi).1 (N _ hm).1 hx fun h' a b => ?_
  obtain ⟨F', N'⟩ := upd_same F N U b a
  exact h h' F' N'
theorem pyNext_listEnd_N {l it : Addr} {vs : List Value} {n i : Nat} {Q : Option Value → Shared → Prop} (hh : A.handled = none) (F : Fr h₀ L s.heap m) (N : News h₀ L s.heap ((it, liO l i) :: news)) (hm : (l, lstO vs n) ∈ news) (hx : vs.length ≤ i) (hn : ∀ p ∈ news, p.1 ≠ it)
    (h : ∀ h', Fr h₀ L h' m → News h₀ L h' news → Q none { s with heap := h' }) : wpAny (model prog w) A (pyNext (.ref it)) Q E s := by
  refine wpAny_pyNext_list_end hh ⟨_, (N _ (.head _)).1, rfl, rfl⟩ ⟨_, (N _ (.tail _ hm)).1, rfl, n, rfl⟩ (by simpa using hx) fun h' a => ?_
  have hL := (N _ (.head _)).2
  exact h h' ⟨F.ns.extBut a hL.1.symm, fun b ob e => a b ob (fun q => by rw [q, hL.2] at e; cases e) (F.keep b ob e), F.above⟩ fun q hq => ⟨a _ _ (hn q hq) (N q (.tail _ hq)).1, (N q (.tail _ hq)).2⟩
end
def dm (num : Value) (fg : Option Value) (fa sz : Value) (y : Str) : Option Value :=
  if y = Str.ofString "figure" then fg else if y = Str.ofString "number" then some num else List.lookup y [(Str.ofString "figures", fa), (Str.ofString "size", sz)].reverse
theorem dm_fg (y : Str) (v num : Value) (fg : Option Value) (fa sz : Value) : (if y = Str.ofString "figure" then some v else dm num fg fa sz y) = dm num (some v) fa sz y := by
  unfold dm
  by_cases h : y = Str.ofString "figure"
  · simp only [h, if_true]
  · simp only [h, if_false]
theorem dm_nm (y : Str) (v num : Value) (fg : Option Value) (fa sz : Value) : (if y = Str.ofString "number" then some v else dm num fg fa sz y) = dm v fg fa sz y := by
  unfold dm
  by_cases h : y = Str.ofString "number"
  · subst h; rfl
  · simp only [h, if_false]
theorem dm_new (y : Str) (num fa sz : Value) : (if y = Str.ofString "number" then some num else List.lookup y [(Str.ofString "figures", fa), (Str.ofString "size", sz)].reverse) = dm num none fa sz y := by
  unfold dm
  by_cases h : y = Str.ofString "number"
  · subst h; rfl
  · by_cases h1 : y = Str.ofString "figure"
    · subst h1; rfl
    · simp only [h, h1, if_false]
theorem log_small {l : Nat} (h : l ≤ 7) : ((64 : Int) ^ l - 1).natAbs.log2 < 9000 := by
  have : l = 0 ∨ l = 1 ∨ l = 2 ∨ l = 3 ∨ l = 4 ∨ l = 5 ∨ l = 6 ∨ l = 7 := by omega
  rcases this with rfl | rfl | rfl | rfl | rfl | rfl | rfl | rfl <;> decide +kernel
abbrev dig (fs : List Nat) (k : Nat) : Nat := fs.getD (k % fs.length) 0
section
variable {prog : Program} {w : World} {dp un : Nat} {fr : Option (List Env)} {gd : Option (List Code)} {s : Shared} {B : Heap} {p : Program} {loose : List Str} {mean : ExcName → Option Value} {mg mb : Str → Option Value}
  {R : Result → Shared → Prop} {fa : Addr} {fl : List (Nat × Tok)} {n sz : Nat} {tz : Tok}
theorem words_N {L : Addr} {m : Str → Option Value} {news : List (Addr × Obj)} {Q : Value → Shared → Prop} {E : Value → Shared → Prop} (X : (hd.heap_39 w.params).In B) (T : Top p loose mean mg mb B) (room : dp < recursionLimit)
   (F : Fr B L s.heap m) (N : News B L s.heap news) (hm : (fa, lstO (fl.map intV) n) ∈ news) (h7 : fl.length ≤ 7) (hf : ∀ p ∈ fl, p.1 < 63)
   (h : ∀ (wl : List (List Nat × Tok)) wa nn h' tk', wl.map (·.1) = wordsOf (fl.map (·.1)) → Fr B L h' m → News B L h' ((wa, lstO (wl.map strW) nn) :: news) → (∀ q ∈ news, q.1 ≠ wa) → Q (.ref wa) { s with heap := h', toks := tk' }) :
   wpAny (model prog w) (Ar dp un fr gd) (call (.ref 117) [.ref fa]) Q E s := by
  refine wpAny_call (words_spec ⟨X, T, F.keep⟩ (own_of N (l := [(fa, lstO (fl.map intV) n)]) (by intro q hq; rw [List.mem_singleton.mp hq]; exact hm)) room h7 hf fun wl wa nn h' tk' e a b k => ?_)
  have hk : ∀ b o, s.heap.get? b = some o → h'.get? b = some o := fun b o e => k.2 b o e (by simp)
  obtain ⟨oL, es, ep, hL, r⟩ := F.ns
  refine h wl wa nn h' tk' e (F.keeps hk) (fun q hq => ?_) fun q hq e => by rw [← e, (N q hq).1] at b; cases b
  rcases List.mem_cons.mp hq with rfl | hq
  · refine ⟨a, (fun e => by dsimp only at e; rw [e, hL] at b; cases b), ?_⟩
    cases z : B.get? wa with
    | none => rfl
    | some o => have := F.keep _ _ z; rw [b] at this; cases this
  · exact N.grown hk q hq
end
end
local macro_rules | `(tactic| walk_at "mq11") => `(tactic| (k_here; k_dflt (refine' mod_int' ?hb ?_; (case hb => assumption))))
section
set_option maxHeartbeats 4000000
open PySem.Calls PySem.Builtin
local macro_rules | `(tactic| walk_at "keepsub") => `(tactic| walk_at "mq2")
section
variable {prog : Program} {w : World} {dp un : Nat} {fr : Option (List Env)} {gd : Option (List Code)} {s : Shared} {B : Heap} {p : Program} {loose : List Str} {mean : ExcName → Option Value} {mg mb : Str → Option Value}
  {R : Result → Shared → Prop} {fa : Addr} {fl : List (Nat × Tok)} {n sz : Nat} {tz : Tok}
local macro_rules | `(tactic| walk_at "call ref") => `(tactic| (k_here; (rename Top _ _ _ _ _ _ => kT); (rename Frag.In _ _ => kX); k_dflt (refine' words_N kX kT ?room ?F ?N ?h1 ?h7 ?hw ?_; (case F => k_asm); (case N => k_asm); (case h1 => k_mem); (case h7 => assumption); (case hw => assumption); (case room => (dsimp only [Around.deeper, Ar]; omega)); intro wl wa nn h' tk' he F' N' ne'; (have hl5 := congrArg List.length he); simp only [wordsOf, List.length_map, List.length_range] at hl5)))
local macro_rules | `(tactic| walk_at "exec For Name Name cons nil") => `(tactic| (k_here; (with_unfolding_all refine' For_my ?k2 ?k1; (case k1 => exact fun _ => rfl))))
local macro_rules | `(tactic| walk_at "pyIter ref") => `(tactic| (k_here; (rename News _ _ _ _ => kN); (rename Fr _ _ _ _ => kF); k_dflt (refine' pyIter_list_N kF kN ?hm ?_; (case hm => k_mem)); clear kN kF; intro it h' F' N' lt2; k_lt lt2))
local macro_rules | `(tactic| walk_at "call builtin:len") => `(tactic| walk_at "mq9")
local macro_rules | `(tactic| walk_at "binaryOp FloorDiv int int") => `(tactic| (k_here; k_dflt (refine' floordiv_int ?hb ?_ (Or.inl (PyProof.noPylong_of_log2 ?hl)); (case hb => assumption); (case hl => assumption))))
local macro_rules | `(tactic| walk_at "binaryOp Mod int int") => `(tactic| walk_at "mq11")
local macro_rules | `(tactic| walk_at "binaryOp Pow int int") => `(tactic| (k_here; k_dflt (refine' pow_int_small ?h1 ?h2 ?h3 ?_; (case h1 => assumption); (case h2 => assumption); (case h3 => decide))))
local macro_rules | `(tactic| walk_at "binaryOp Add ref ref") => `(tactic| (k_here; (with_reducible show wpAny _ _ (binaryOp _ (Value.ref _) (Value.ref _)) _ _ _); k_dflt (refine' cat_N ?F ?N ?a ?b ?z ?_; (case F => k_asm); (case N => k_asm); (case a => k_mem); (case b => k_mem); (case z => (simp only [List.length_map, List.length_cons, List.length_nil]; omega))); intro D h' F' N' lt3; k_lt lt3))
theorem due_spec (O : Ok (hd.heap_39 w.params) p loose mean mg mb B s.heap) (H : Own B s.heap [(fa, lstO (fl.map intV) n)]) (hd : dp + 1 < recursionLimit) (h7 : fl.length ≤ 7) (hf : ∀ p ∈ fl, p.1 < 63) (h1 : 1 ≤ fl.length) (hz : sz ≤ 14)
   (k : ∀ (wl : List (List Nat × Tok)) wb ra nb nr t1 t2 t3 t4 t5 ta tb tc h' tk', wl.map (·.1) = wordsOf (fl.map (·.1)) → h'.get? wb = some (lstO (wl.map strW ++ [.str (Str.ofString "") ta, .str (Str.ofString "end") tb, .str (Str.ofString "") tc]) nb) →
      h'.get? ra = some (lstO [.int (numS (fun k => (fl.map (·.1)).getD k 0) 0 fl.length : Nat) t1, .int (Int.fdiv ((64 : Int) ^ (sz : Int).toNat * ((numS (fun k => (fl.map (·.1)).getD k 0) 0 fl.length : Nat) : Int)) ((64 : Int) ^ (fl.length : Int).toNat - 1)) t2,
        .int (((numS (fun k => (fl.map (·.1)).getD k 0) 0 fl.length : Nat) : Int).fmod (64 ^ ((fl.length : Int) - (sz : Int).fmod (fl.length : Int)).toNat)) t3, .int (numS (fun k => (fl.map (·.1)).getD k 0) 0 fl.length : Nat) t4, .none, .ref wb, .int 1 t5] nr) →
      s.heap.get? wb = none → s.heap.get? ra = none → Keeps [] s.heap h' → R (.ok (.ret (.ref ra))) {s with heap := h', toks := tk'}) :
   codeAny (model prog w) (Ar dp un fr gd) (.call (.ref 143) ⟨[.ref fa, .int sz tz], []⟩) R s := by
  refine enter (binds := [(Str.ofString "figures", .ref fa), (Str.ofString "size", .int sz tz)]) O H (O.keep _ _ (O.X _ _ (by k_is))) rfl ((codeRec_of O.X (by k_is)).keeps O.keep) (by show dp < _; omega) (BindsTo.of_eq rfl) (locs rfl) (fun g L' h₁ F N X T hL hlt => ?_) (by decide)
  k_lt hlt
  have z1 : (fl.map intV).length ≤ 1000 := by rw [List.length_map]; omega
  have z2 : fl.length ≤ 1000 := by omega
  k_steps
  rename News _ _ _ _ => N1
  rename Fr _ _ _ _ => F1
  rename (@LT.lt Nat _ _ _) => l1
  rename_i it _
  simp only [dm_new] at F1
  have hdg : ∀ i, i < fl.length → ∃ f t, fl[i]? = some (f, t) ∧ f < 63 ∧ (fl.map (·.1)).getD i 0 = f := fun i hi => by
    obtain ⟨⟨f, t⟩, hx⟩ : ∃ q, fl[i]? = some q := ⟨_, List.getElem?_eq_getElem hi⟩
    exact ⟨f, t, hx, hf _ (List.mem_of_getElem? hx), by rw [List.getD_eq_getElem?_getD, List.getElem?_map, hx]; rfl⟩
  have hd64 : ∀ k, (fl.map (·.1)).getD k 0 < 64 := fun k => by
    by_cases hk : k < fl.length
    · obtain ⟨f, t, _, a, b⟩ := hdg k hk
      rw [b]; omega
    · rw [List.getD_eq_getElem?_getD, List.getElem?_eq_none (by rw [List.length_map]; omega)]; decide
  have hsm : ∀ i, i ≤ fl.length → numS (fun k => (fl.map (·.1)).getD k 0) 0 i < 64 ^ 7 := fun i hi =>
    Nat.lt_of_lt_of_le (numS_lt hd64 0 i) (Nat.pow_le_pow_right (by decide) (by omega))
  refine MyFor.intro (fun j s' => ∃ (i : Nat) (h' : Heap) (tk : Nat) (t : Tok) (fg : Option Value), i ≤ fl.length ∧ j = fl.length - i ∧ s' = { s with heap := h', toks := tk } ∧
     Fr g L' h' (dm (.int (numS (fun k => (fl.map (·.1)).getD k 0) 0 i : Nat) t) fg (.ref fa) (.int sz tz)) ∧ News g L' h' [(it, liO fa i), (fa, lstO (fl.map intV) n)]) fl.length ⟨0, _, _, _, none, Nat.zero_le _, rfl, rfl, F1, N1⟩ ?_
  clear F1 N1
  rintro j s' ⟨i, h', tk, t, fg, hi, rfl, rfl, F, N⟩
  have n1 : @LT.lt Nat _ fa it := l1
  clear l1
  have hnum := hsm i hi
  by_cases hlt : i < fl.length
  · obtain ⟨f, tf, hx, hfr, hgd⟩ := hdg i hlt
    refine pyNext_list_N (it := it) (l := fa) (i := i) (x := .int f tf) F N (by k_mem) (by rw [List.getElem?_map, hx]; rfl) (by k_upd) fun h2 F2 N2 => ?_
    clear F N
    refine wpAny_storeName_local rfl F2.ns (fun h3 hn3 hs3 => ?_)
    have F3 := F2.set hn3 hs3
    have N3 := N2.set hs3
    clear F2 N2 hn3 hs3
    have hb : ((numS (fun k => (fl.map (·.1)).getD k 0) 0 i : Nat) : Int).natAbs < 2 ^ 64 := by
      rw [Int.natAbs_natCast]
      exact Nat.lt_trans hnum (by decide)
    k_steps
    rename News _ _ _ _ => N5
    rename Fr _ _ _ _ => F5
    have e : (64 : Int) * (numS (fun k => (fl.map (·.1)).getD k 0) 0 i : Nat) + (f : Int) = ((numS (fun k => (fl.map (·.1)).getD k 0) 0 (i + 1) : Nat) : Int) := by
      show _ = ((64 * numS (fun k => (fl.map (·.1)).getD k 0) 0 i + (fl.map (·.1)).getD (0 + i) 0 : Nat) : Int)
      rw [Nat.zero_add, hgd]
      omega
    rw [e] at F5
    simp only [dm_nm, dm_fg] at F5
    exact ⟨fl.length - (i + 1), by omega, i + 1, _, _, _, _, hlt, rfl, rfl, F5, N5⟩
  · have hiK : i = fl.length := by omega
    subst hiK
    refine pyNext_listEnd_N rfl F N (.head _) (by rw [List.length_map]; exact Nat.le_refl _) (by
      intro q hq
      rw [List.mem_singleton.mp hq]
      exact fun e => by dsimp only at e; rw [e] at n1; exact Nat.lt_irrefl _ n1) fun h2 F2 N2 => ?_
    clear F N
    have q1 : (0 : Int) ≤ (sz : Int) := by omega
    have q2 : (sz : Int) ≤ 1000000 := by omega
    have q3 : (0 : Int) ≤ (fl.length : Int) := by omega
    have q4 : (fl.length : Int) ≤ 1000000 := by omega
    have hl0 : (fl.length : Int) ≠ 0 := by omega
    have fm : (sz : Int).fmod (fl.length : Int) = ((sz % fl.length : Nat) : Int) := by rw [Int.fmod_eq_emod_of_nonneg _ (by omega)]; rfl
    have hml : sz % fl.length < fl.length := Nat.mod_lt _ h1
    have q5 : (0 : Int) ≤ (fl.length : Int) - (sz : Int).fmod (fl.length : Int) := by rw [fm]; omega
    have q6 : (fl.length : Int) - (sz : Int).fmod (fl.length : Int) ≤ 1000000 := by rw [fm]; omega
    have hP : (64 : Int) ^ (fl.length : Int).toNat - 1 ≠ 0 := by
      rw [Int.toNat_natCast]
      have : 64 ≤ 64 ^ fl.length := by have := Nat.pow_le_pow_right (n := 64) (by decide) h1; simpa using this
      have e : (64 : Int) ^ fl.length = ((64 ^ fl.length : Nat) : Int) := by simp
      rw [e]; omega
    have hL9 : ((64 : Int) ^ (fl.length : Int).toNat - 1).natAbs.log2 < 9000 := by
      rw [Int.toNat_natCast]; exact log_small h7
    have hQ : (64 : Int) ^ ((fl.length : Int) - (sz : Int).fmod (fl.length : Int)).toNat ≠ 0 := by
      intro e
      have := Int.pow_pos (n := (64 : Int)) (m := ((fl.length : Int) - (sz : Int).fmod (fl.length : Int)).toNat) (by decide)
      omega
    show wpAny _ _ (execs (_ :: _) _) _ _ _
    k_steps
    rename News _ _ _ _ => N5
    rename Fr _ _ _ _ => F5
    refine MyEnd.intro F5 N5 fun hk hn => ?_
    refine k _ _ _ _ _ _ _ _ _ _ _ _ _ _ _ (by assumption) (hn.get (.tail _ (.head _))) (hn.get (.head _)) ?_ ?_ (hk.sub H (by walk_at "keepsub"))
    · refine (hn _ (.tail _ (.head _))).2.resolve_left fun hm => ?_
      simp only [List.map_cons, List.map_nil, List.mem_cons, List.not_mem_nil, or_false] at hm
      have hm' : @Eq Nat _ _ := hm
      omega
    · refine (hn _ (.head _)).2.resolve_left fun hm => ?_
      simp only [List.map_cons, List.map_nil, List.mem_cons, List.not_mem_nil, or_false] at hm
      have hm' : @Eq Nat _ _ := hm
      omega
end
end
section
theorem num_dig (fs : List Nat) : numS (fun k => fs.getD k 0) 0 fs.length = numS (dig fs) 0 fs.length :=
  numS_congr fun k hk => by unfold dig; rw [Nat.zero_add, Nat.mod_eq_of_lt hk]
theorem dig_per (fs : List Nat) (k : Nat) : dig fs (k + fs.length) = dig fs k := by unfold dig; rw [Nat.add_mod_right]
theorem dig_lt {fs : List Nat} (h1 : 1 ≤ fs.length) (hf : ∀ f ∈ fs, f < 63) (k : Nat) : dig fs k < 63 := by
  unfold dig
  have hk : k % fs.length < fs.length := Nat.mod_lt _ h1
  rw [List.getD_eq_getElem?_getD, List.getElem?_eq_getElem hk]
  exact hf _ (List.getElem_mem hk)
theorem front_int {N len sz : Nat} : Int.fdiv ((64 : Int) ^ (sz : Int).toNat * (N : Int)) ((64 : Int) ^ (len : Int).toNat - 1) = ((64 ^ sz * N / (64 ^ len - 1) : Nat) : Int) := by
  rw [Int.toNat_natCast, Int.toNat_natCast]
  have hp : 1 ≤ 64 ^ len := Nat.pow_pos (by decide)
  have e1 : (64 : Int) ^ len - 1 = ((64 ^ len - 1 : Nat) : Int) := by rw [Int.natCast_sub hp]; simp
  have e2 : (64 : Int) ^ sz * (N : Int) = ((64 ^ sz * N : Nat) : Int) := by simp
  rw [e1, e2, Int.fdiv_eq_ediv_of_nonneg _ (Int.natCast_nonneg _)]
  rfl
theorem rest_int {N len sz : Nat} (h : sz % len ≤ len) : ((N : Nat) : Int).fmod ((64 : Int) ^ ((len : Int) - (sz : Int).fmod (len : Int)).toNat) = ((N % 64 ^ (len - sz % len) : Nat) : Int) := by
  have fm : (sz : Int).fmod (len : Int) = ((sz % len : Nat) : Int) := by rw [Int.fmod_eq_emod_of_nonneg _ (by omega)]; rfl
  rw [fm, ← Int.natCast_sub h, Int.toNat_natCast]
  have e1 : (64 : Int) ^ (len - sz % len) = ((64 ^ (len - sz % len) : Nat) : Int) := by simp
  rw [e1, Int.fmod_eq_emod_of_nonneg _ (Int.natCast_nonneg _)]
  rfl
theorem vint_num (d : Nat → Nat) (vals : Nat → Int) (a : Nat) : ∀ K, (∀ k, k ≤ K → vals k % 64 = (d (a + k) : Int)) → vint vals K = ((numS d a (K + 1) : Nat) : Int)
  | 0, h => by
    show vals 0 % 64 = _
    rw [h 0 (Nat.le_refl _)]
    show _ = ((64 * 0 + d (a + 0) : Nat) : Int)
    simp
  | K + 1, h => by
    show vint vals K * 64 + vals (K + 1) % 64 = ((64 * numS d a (K + 1) + d (a + (K + 1)) : Nat) : Int)
    rw [vint_num d vals a K (fun k hk => h k (Nat.le_succ_of_le hk)), h (K + 1) (Nat.le_refl _)]
    omega
/-- the tail of the row is the number modulo a power -/
theorem rest_num {d : Nat → Nat} (hd : ∀ k, d k < 64) {k len : Nat} (h : k ≤ len) : numS d 0 len % 64 ^ (len - k) = numS d k (len - k) := by
  have := numS_cat d 0 k (len - k)
  rw [Nat.zero_add, Nat.add_sub_cancel' h] at this
  rw [this, Nat.mul_add_mod, Nat.mod_eq_of_lt (numS_lt hd k _)]
end
section
set_option maxHeartbeats 1000000
section
variable {h₀ h h' : Heap} {L : Addr} {m : Str → Option Value} {S : Sys} {P : Params} {kl kl' : Int} {t5 t5' : Tok} {ws ws' : List Value} {n n' i i' : Nat} {rest : List (Addr × Obj)}
theorem fr_keeps {news : List (Addr × Obj)} {ms : List Addr} (F : Fr h₀ L h m) (hm : ∀ b ∈ ms, b ≠ L ∧ h₀.get? b = none) (hk : Keeps ms h h') : Fr h₀ L h' m := by
  obtain ⟨oL, es, ep, hL, r⟩ := F.ns
  exact ⟨⟨oL, es, ep, hk.2 L oL hL (fun q => (hm L q).1 rfl), r⟩, fun b o e => hk.2 b o (F.keep b o e) (fun q => by rw [(hm b q).2] at e; cases e), F.above⟩
theorem Sys.scan (G : S.Good) (F : Fr h₀ L h m) (N : News h₀ L h (S.pre P kl t5 ws n i ++ rest)) (hr : ∀ q ∈ rest, q.1 ≠ S.dx ∧ q.1 ≠ S.it) (hk : Keeps [S.dx, S.it] h h') (a : h'.get? S.dx = some (S.lexO P kl' t5')) (b : h'.get? S.it = some (rdObj S.txt S.tt i')) :
    Fr h₀ L h' m ∧ News h₀ L h' (S.pre P kl' t5' ws n i' ++ rest) := by
  have H := own_of (l := S.pre P kl t5 ws n i) N (fun q hq => List.mem_append_left _ hq)
  obtain ⟨⟨e1, e2, e3, e4, e5, e6, e7, e8⟩, ⟨f1, f2, f3, f4, f5, f6, f7⟩, g1, g2, g3, g4, g5, g6⟩ := S.apart G H
  have nd := (N (S.dx, S.lexO P kl t5) (List.mem_append_left _ (.tail _ (.head _)))).2
  have ni := (N (S.it, rdObj S.txt S.tt i) (List.mem_append_left _ (.tail _ (.tail _ (.tail _ (.tail _ (.tail _ (.tail _ (.tail _ (.tail _ (.head _))))))))))).2
  refine ⟨fr_keeps (news := []) F (fun q hq => ?_) hk, fun q hq => ?_⟩
  · simp only [List.mem_cons, List.not_mem_nil, or_false] at hq
    rcases hq with rfl | rfl
    · exact nd
    · exact ni
  · rcases List.mem_append.mp hq with hq | hq
    · have old : ∀ (c : Addr) (o : Obj), (c, o) ∈ S.pre P kl t5 ws n i → c ≠ S.dx → c ≠ S.it → h'.get? c = some o ∧ c ≠ L ∧ h₀.get? c = none := fun c o hm hd hi =>
        ⟨hk.2 _ _ (N (c, o) (List.mem_append_left _ hm)).1 (by simp [hd, hi]), (N (c, o) (List.mem_append_left _ hm)).2⟩
      simp only [Sys.pre, List.mem_cons, List.not_mem_nil, or_false] at hq
      rcases hq with rfl | rfl | rfl | rfl | rfl | rfl | rfl | rfl | rfl
      · exact old _ _ (by k_mem) e1 f1
      · exact ⟨a, nd⟩
      · exact old _ _ (by k_mem) e2 f2
      · exact old _ _ (by k_mem) e3 f3
      · exact old _ _ (by k_mem) e4 f4
      · exact old _ _ (by k_mem) e5 f5
      · exact old _ _ (by k_mem) e6 f6
      · exact old _ _ (by k_mem) e7 f7
      · exact ⟨b, ni⟩
    · have := N q (List.mem_append_right _ hq)
      exact ⟨hk.2 _ _ this.1 (by simp [(hr q hq).1, (hr q hq).2]), this.2⟩
theorem Sys.queue (G : S.Good) (F : Fr h₀ L h m) (N : News h₀ L h (S.pre P kl t5 ws n i ++ rest)) (hr : ∀ q ∈ rest, q.1 ≠ S.pb) (hk : Keeps [S.pb] h h') (a : h'.get? S.pb = some (lstO ws' n')) :
    Fr h₀ L h' m ∧ News h₀ L h' (S.pre P kl t5 ws' n' i ++ rest) := by
  have H := own_of (l := S.pre P kl t5 ws n i) N (fun q hq => List.mem_append_left _ hq)
  obtain ⟨⟨e1, e2, e3, e4, e5, e6, e7, e8⟩, ⟨f1, f2, f3, f4, f5, f6, f7⟩, g1, g2, g3, g4, g5, g6⟩ := S.apart G H
  have np := (N (S.pb, lstO ws n) (List.mem_append_left _ (.tail _ (.tail _ (.head _))))).2
  refine ⟨fr_keeps (news := []) F (fun q hq => ?_) hk, fun q hq => ?_⟩
  · rw [List.mem_singleton.mp hq]; exact np
  · rcases List.mem_append.mp hq with hq | hq
    · have old : ∀ (c : Addr) (o : Obj), (c, o) ∈ S.pre P kl t5 ws n i → c ≠ S.pb → h'.get? c = some o ∧ c ≠ L ∧ h₀.get? c = none := fun c o hm hd =>
        ⟨hk.2 _ _ (N (c, o) (List.mem_append_left _ hm)).1 (by simp [hd]), (N (c, o) (List.mem_append_left _ hm)).2⟩
      simp only [Sys.pre, List.mem_cons, List.not_mem_nil, or_false] at hq
      rcases hq with rfl | rfl | rfl | rfl | rfl | rfl | rfl | rfl | rfl
      · exact old _ _ (by k_mem) g1
      · exact old _ _ (by k_mem) e2.symm
      · exact ⟨a, np⟩
      · exact old _ _ (by k_mem) g2
      · exact old _ _ (by k_mem) g3
      · exact old _ _ (by k_mem) g4
      · exact old _ _ (by k_mem) g5
      · exact old _ _ (by k_mem) g6
      · exact old _ _ (by k_mem) f2.symm
    · have := N q (List.mem_append_right _ hq)
      exact ⟨hk.2 _ _ this.1 (by simp [hr q hq]), this.2⟩
end
section
variable {prog : Program} {w : World} {dp un : Nat} {fr : Option (List Env)} {gd : Option (List Code)} {s : Shared} {B : Heap} {p : Program} {loose : List Str} {mean : ExcName → Option Value} {mg mb : Str → Option Value}
  {L : Addr} {m : Str → Option Value} {S : Sys} {kl : Int} {t5 : Tok} {n i : Nat} {rest : List (Addr × Obj)} {Q : Value → Shared → Prop} {E : Value → Shared → Prop}
theorem scan_N {r : List Nat} (X : (hd.heap_39 w.params).In B) (T : Top p loose mean mg mb B) (G : S.Good) (room : dp + 3 < recursionLimit) (F : Fr B L s.heap m) (N : News B L s.heap (S.pre w.params kl t5 [] n i ++ rest)) (hr : ∀ q ∈ rest, q.1 ≠ S.dx ∧ q.1 ≠ S.it) (ha : at_ S.txt i r) (hsz : r.length ≤ 1000)
   (h : ∀ h' tk' t t5' i', at_ S.txt i' (getTok r).2 → Fr B L h' m → News B L h' (S.pre w.params (kl + nlc r - nlc (getTok r).2) t5' [] n i' ++ rest) → Q (strV (getTok r).1 t) { s with heap := h', toks := tk' }) :
   wpAny (model prog w) (Ar dp un fr gd) (call (.ref 42) [.ref S.x]) Q E s := by
  refine wpAny_call (gt_spec ⟨X, T, F.keep⟩ G (own_of (l := S.pre w.params kl t5 [] n i) N (fun q hq => List.mem_append_left _ hq)) ha room hsz fun t' t5' i' h' tk' a b c k => ?_)
  obtain ⟨F', N'⟩ := Sys.scan G F N hr k b c
  exact h h' tk' t' t5' i' a F' N'
theorem pushS_N {v : Value} {ws : List Value} (X : (hd.heap_39 w.params).In B) (T : Top p loose mean mg mb B) (G : S.Good) (room : dp < recursionLimit) (F : Fr B L s.heap m) (N : News B L s.heap (S.pre w.params kl t5 ws n i ++ rest)) (hr : ∀ q ∈ rest, q.1 ≠ S.pb) (hz : ws.length ≤ 1000)
   (h : ∀ h' tk', Fr B L h' m → News B L h' (S.pre w.params kl t5 (ws ++ [v]) (n + 1) i ++ rest) → Q .none { s with heap := h', toks := tk' }) :
   wpAny (model prog w) (Ar dp un fr gd) (call (.ref 49) [.ref S.x, v]) Q E s := by
  refine wpAny_call (push_spec ⟨X, T, F.keep⟩ (own_of (l := [(S.x, instObj 52 S.dx), (S.dx, S.lexO w.params kl t5), (S.pb, lstO ws n)]) N (fun q hq => ?_)) room hz fun h' tk' a k => ?_)
  · refine List.mem_append_left _ ?_
    simp only [List.mem_cons, List.not_mem_nil, or_false] at hq
    rcases hq with rfl | rfl | rfl
    · exact .head _
    · exact .tail _ (.head _)
    · exact .tail _ (.tail _ (.head _))
  · obtain ⟨F', N'⟩ := Sys.queue G F N hr k a
    exact h h' tk' F' N'
theorem popS_N {v : Value} {ws : List Value} (X : (hd.heap_39 w.params).In B) (T : Top p loose mean mg mb B) (G : S.Good) (room : dp < recursionLimit) (F : Fr B L s.heap m) (N : News B L s.heap (S.pre w.params kl t5 (v :: ws) n i ++ rest)) (hr : ∀ q ∈ rest, q.1 ≠ S.pb) (hz : (v :: ws).length ≤ 1000)
   (h : ∀ h' tk', Fr B L h' m → News B L h' (S.pre w.params kl t5 ws (n + 1) i ++ rest) → Q v { s with heap := h', toks := tk' }) :
   wpAny (model prog w) (Ar dp un fr gd) (call (.ref 42) [.ref S.x]) Q E s := by
  refine wpAny_call (gt_pop ⟨X, T, F.keep⟩ (own_of (l := [(S.x, instObj 52 S.dx), (S.dx, S.lexO w.params kl t5), (S.pb, lstO (v :: ws) n)]) N (fun q hq => ?_)) room hz fun h' tk' a k => ?_)
  · refine List.mem_append_left _ ?_
    simp only [List.mem_cons, List.not_mem_nil, or_false] at hq
    rcases hq with rfl | rfl | rfl
    · exact .head _
    · exact .tail _ (.head _)
    · exact .tail _ (.tail _ (.head _))
  · obtain ⟨F', N'⟩ := Sys.queue G F N hr k a
    exact h h' tk' F' N'
end
end
section
def Then (prog : Program) (w : World) (A : Around) (b : List Stmt) (env : Env) (Q : Flow → Shared → Prop) (f : Flow) (s : Shared) : Prop :=
  match f with | .next => wpAny (model prog w) A (execs b env) Q (fun _ _ => False) s | f => Q f s
theorem execs_app {prog : Program} {w : World} {A : Around} {b : List Stmt} {env : Env} {Q : Flow → Shared → Prop} (a : List Stmt) (s : Shared)
    (h : wpAny (model prog w) A (execs a env) (Then prog w A b env Q) (fun _ _ => False) s) : wpAny (model prog w) A (execs (a ++ b) env) Q (fun _ _ => False) s := fun Γ p hΓ => by
  have h' := h Γ p hΓ
  clear h
  induction a generalizing p s with
  | nil =>
    rw [execs_nil] at h'
    exact h' Γ p hΓ
  | cons st a ih =>
    rw [execs_cons, Sem.wp_bind'] at h'
    show Sem.wp _ _ (execs (st :: (a ++ b)) env) _ _ _ _
    rw [execs_cons, Sem.wp_bind']
    refine Sem.wp_mono _ Γ _ (fun f p' s' hf => ?_) (fun _ _ _ h' => h') _ _ h'
    cases f with
    | next => exact ih s' p' hf
    | brk => exact hf
    | cont => exact hf
    | ret v => exact hf
end
section
set_option maxHeartbeats 1000000
/-- the call of `_law_ring`, in either state of its table: `pre` is what the ledger holds for it -/
structure RingOk (prog : Program) (w : World) (x : Addr) (pre : List (Addr × Obj)) : Prop where
  go : ∀ {dp un : Nat} {fr : Option (List Env)} {gd : Option (List Code)} {s : Shared} {B : Heap} {p : Program} {loose : List Str} {mean : ExcName → Option Value} {mg mb : Str → Option Value}
    {L : Addr} {m : Str → Option Value} {news : List (Addr × Obj)} {Q : Value → Shared → Prop} {E : Value → Shared → Prop}, (hd.heap_39 w.params).In B → Top p loose mean mg mb B → dp < recursionLimit → Fr B L s.heap m → News B L s.heap (pre ++ news) →
    (∀ q ∈ news, ∀ r ∈ pre, q.1 ≠ r.1) →
    (∀ G h' tk', Rg.Good G x → Fr B L h' m → News B L h' (G.pre ++ (126, ringTab G.c') :: news) → (∀ q ∈ news, ∀ r ∈ G.pre, q.1 ≠ r.1) → Q (.ref G.ci) { s with heap := h', toks := tk' }) →
    wpAny (model prog w) (Ar dp un fr gd) (call (.ref 131) [.ref x]) Q E s
theorem ringOk_new {prog : Program} {w : World} {x : Addr} : RingOk prog w x [(126, tabObj #[])] := by
  refine ⟨fun {dp un fr gd s B p loose mean mg mb L m news Q E} X T room F N hne h => ?_⟩
  refine wpAny_call (ring_new ⟨X, T, F.keep⟩ (own_of N (fun q hq => List.mem_append_left _ hq)) room fun G h' tk' hG a b c d e k => ?_)
  have n126 := (N (126, tabObj #[]) (.head _)).2
  have hF := fr_keeps (news := []) F (ms := [126]) (fun q hq => by rw [List.mem_singleton.mp hq]; exact n126) k
  have fresh : ∀ q ∈ G.pre, s.heap.get? q.1 = none := fun q hq => Heap.get?_none_of_le (a q hq).2
  refine h G h' tk' hG hF (fun q hq => ?_) (fun q hq r hr e => ?_)
  · rcases List.mem_append.mp hq with hq | hq
    · refine ⟨(a q hq).1, ?_, ?_⟩
      · intro e
        have := F.ns.lt
        have h2 := (a q hq).2
        rw [e] at h2
        exact absurd this (Nat.not_lt.mpr h2)
      · cases z : B.get? q.1 with
        | none => rfl
        | some o => have := F.keep _ _ z; rw [fresh q hq] at this; cases this
    · rcases List.mem_cons.mp hq with rfl | hq
      · exact ⟨e, n126⟩
      · have := N q (List.mem_append_right _ hq)
        exact ⟨k.2 _ _ this.1 (fun hm => hne q hq _ (.head _) (List.mem_singleton.mp hm)), this.2⟩
  · have := (N q (List.mem_append_right _ hq)).1
    rw [e, fresh r hr] at this
    cases this
theorem ringOk_hit {prog : Program} {w : World} {x c' : Addr} {ocd : Obj} {vs : Array Value} {tq : Tok} (h1 : ocd.data = .fields vs) (h2 : vs[1]? = some (.str (Str.ofString "_law_ring.<locals>._law_turned") tq)) : RingOk prog w x [(126, ringTab c'), (c', ocd)] := by
  refine ⟨fun {dp un fr gd s B p loose mean mg mb L m news Q E} X T room F N hne h => ?_⟩
  refine wpAny_call (ring_hit ⟨X, T, F.keep⟩ (own_of N (fun q hq => List.mem_append_left _ hq)) h1 h2 room fun ci f cl ti doc pm ctv oc h' tk' hoc a b c k => ?_)
  have hk : ∀ b o, s.heap.get? b = some o → h'.get? b = some o := fun b o e => k.2 b o e (by simp)
  have n126 := N (126, ringTab c') (.head _)
  have nc := N (c', ocd) (.tail _ (.head _))
  have fresh : ∀ q ∈ [(ci, ciObj (.ref f) (.int (-1) ti) false), (f, turnObj turnDef doc pm cl c' ctv), (cl, oc)], s.heap.get? q.1 = none := fun q hq => Heap.get?_none_of_le (a q hq).2
  have new : ∀ q ∈ [(ci, ciObj (.ref f) (.int (-1) ti) false), (f, turnObj turnDef doc pm cl c' ctv), (cl, oc)], h'.get? q.1 = some q.2 ∧ q.1 ≠ L ∧ B.get? q.1 = none := fun q hq => by
    refine ⟨(a q hq).1, ?_, ?_⟩
    · intro e
      have := F.ns.lt
      have h2 := (a q hq).2
      rw [e] at h2
      exact absurd this (Nat.not_lt.mpr h2)
    · cases z : B.get? q.1 with
      | none => rfl
      | some o => have := F.keep _ _ z; rw [fresh q hq] at this; cases this
  refine h ⟨ci, f, cl, c', ti, tq, doc, pm, ctv, oc, ocd, vs⟩ h' tk' ⟨hoc, h1, h2⟩ (F.keeps hk) (fun q hq => ?_) (fun q hq r hr e => ?_)
  · rcases List.mem_append.mp hq with hq | hq
    · simp only [Rg.pre, List.mem_cons, List.not_mem_nil, or_false] at hq
      rcases hq with rfl | rfl | rfl | rfl
      · exact new _ (.head _)
      · exact new _ (.tail _ (.head _))
      · exact new _ (.tail _ (.tail _ (.head _)))
      · exact ⟨hk _ _ nc.1, nc.2⟩
    · rcases List.mem_cons.mp hq with rfl | hq
      · exact ⟨hk _ _ n126.1, n126.2⟩
      · have := N q (List.mem_append_right _ hq)
        exact ⟨hk _ _ this.1, this.2⟩
  · have := (N q (List.mem_append_right _ hq)).1
    simp only [Rg.pre, List.mem_cons, List.not_mem_nil, or_false] at hr
    rcases hr with rfl | rfl | rfl | rfl
    · rw [e, fresh _ (.head _)] at this; cases this
    · rw [e, fresh _ (.tail _ (.head _))] at this; cases this
    · rw [e, fresh _ (.tail _ (.tail _ (.head _)))] at this; cases this
    · exact hne q hq _ (.tail _ (.head _)) e
end
section
set_option maxHeartbeats 1000000
open PySem.Calls PySem.Builtin
def tellDef : List Stmt × Scope := match (PySem.Challenge.pw_wk0010_01.main.body[16]? : Option Stmt) with
  | some (.FunctionDef _ _ b _ _ _ sc _ _ _) => (b, sc)
  | _ => default
def stT (j : Nat) : List Stmt := (tellDef.1.drop j).take 1
abbrev tellEnv (sc : Scope) (L : Addr) : Env := envOfC (Str.ofString "_law_told") sc L 136 (.ref 135)
theorem Sys.pre_addr {S : Sys} {P : Params} {kl : Int} {t5 : Tok} {ws : List Value} {n i : Nat} {q : Addr × Obj} (h : q ∈ S.pre P kl t5 ws n i) : q.1 ∈ S.addrs := by
  have : q.1 ∈ (S.pre P kl t5 ws n i).map (·.1) := List.mem_map_of_mem h
  exact this
theorem Sys.addr_pre {S : Sys} (P : Params) (kl : Int) (t5 : Tok) (ws : List Value) (n i : Nat) {a : Addr} (h : a ∈ S.addrs) : ∃ o, (a, o) ∈ S.pre P kl t5 ws n i := by
  have h' : a ∈ (S.pre P kl t5 ws n i).map (·.1) := h
  obtain ⟨q, hq, rfl⟩ := List.mem_map.mp h'
  exact ⟨q.2, hq⟩
def Off (S : Sys) (rest : List (Addr × Obj)) : Prop := ∀ q ∈ rest, q.1 ≠ S.dx ∧ q.1 ≠ S.it ∧ q.1 ≠ S.pb
theorem Off.cons {S : Sys} {q : Addr × Obj} {rest : List (Addr × Obj)} (h : q.1 ≠ S.dx ∧ q.1 ≠ S.it ∧ q.1 ≠ S.pb) (hr : Off S rest) : Off S (q :: rest) := fun x hx => by
  rcases List.mem_cons.mp hx with rfl | hx
  · exact h
  · exact hr x hx
theorem Off.app {S : Sys} {a b : List (Addr × Obj)} (ha : Off S a) (hb : Off S b) : Off S (a ++ b) := fun x hx => (List.mem_append.mp hx).elim (ha x) (hb x)
theorem Off.sub {S : Sys} {a b : List (Addr × Obj)} (hb : Off S b) (h : ∀ q ∈ a, q ∈ b) : Off S a := fun x hx => hb x (h x hx)
/-- an address new to the ledger is none of the lexer's -/
theorem Off.new {S : Sys} {P : Params} {kl : Int} {t5 : Tok} {ws : List Value} {n i : Nat} {rest : List (Addr × Obj)} {q : Addr × Obj} (h : ∀ p ∈ S.pre P kl t5 ws n i ++ rest, p.1 ≠ q.1) : q.1 ≠ S.dx ∧ q.1 ≠ S.it ∧ q.1 ≠ S.pb := by
  refine ⟨fun e => ?_, fun e => ?_, fun e => ?_⟩
  · exact h (S.dx, S.lexO P kl t5) (List.mem_append_left _ (.tail _ (.head _))) e.symm
  · exact h (S.it, rdObj S.txt S.tt i) (List.mem_append_left _ (.tail _ (.tail _ (.tail _ (.tail _ (.tail _ (.tail _ (.tail _ (.tail _ (.head _)))))))))) e.symm
  · exact h (S.pb, lstO ws n) (List.mem_append_left _ (.tail _ (.tail _ (.head _)))) e.symm
theorem News.sub {g h : Heap} {L : Addr} {a b : List (Addr × Obj)} (N : News g L h b) (hs : ∀ q ∈ a, q ∈ b) : News g L h a := fun q hq => N q (hs q hq)
theorem mem_mid {α : Type} {x : α} {a b : List α} : ∀ q ∈ a ++ x :: b, q ∈ x :: (a ++ b) := fun q hq => by
  rcases List.mem_append.mp hq with hq | hq
  · exact .tail _ (List.mem_append_left _ hq)
  · rcases List.mem_cons.mp hq with rfl | hq
    · exact .head _
    · exact .tail _ (List.mem_append_right _ hq)
theorem mem_unmid {α : Type} {x : α} {a b : List α} : ∀ q ∈ x :: (a ++ b), q ∈ a ++ x :: b := fun q hq => by
  rcases List.mem_cons.mp hq with rfl | hq
  · exact List.mem_append_right _ (.head _)
  · rcases List.mem_append.mp hq with hq | hq
    · exact List.mem_append_left _ hq
    · exact List.mem_append_right _ (.tail _ hq)
theorem if_self (m : Str → Option Value) (y : Str) {o : Option Value} (h : m y = o) : (fun z => if z = y then o else m z) = m := by
  funext z
  by_cases e : z = y
  · subst e; simp [h]
  · simp [e]
theorem if_if (m : Str → Option Value) (y : Str) (a b : Option Value) : (fun z => if z = y then a else (if z = y then b else m z)) = (fun z => if z = y then a else m z) := by
  funext z
  by_cases e : z = y
  · simp [e]
  · simp [e]
section
variable {prog : Program} {w : World} {A : Around} {E : Value → Shared → Prop} {s : Shared} {h₀ : Heap} {L a : Addr} {m : Str → Option Value} {cn : Str} {cs : Scope} {ccd : Value} {cl : List (Str × Addr)}
  {x : Str} {v : Value} {Q : Unit → Shared → Prop} {rest : List (Addr × Obj)} {c : Addr} {o : Obj} {v₀ : Option Value}
theorem storeC_N (F : Fr h₀ L s.heap m) (N : News h₀ L s.heap ((c, o) :: rest)) (hn : ∀ q ∈ rest, q.1 ≠ c) (hc : cl.lookup x = some c) (hd : o.data = .cell v₀)
    (h : ∀ h' o', Fr h₀ L h' m → News h₀ L h' ((c, o') :: rest) → o'.data = .cell (some v) → Q () { s with heap := h' })
    (hk : cs.kind = .function := by rfl) (hx : (envX cn cs L a ccd cl).kindOf x = some .cell := by rfl) : wpAny (model prog w) A (storeName (envX cn cs L a ccd cl) x v) Q E s :=
  storeX_C F N hc (.head hn) hd h hk hx
end
def rot1 {α : Type} : List α → List α
  | [] => []
  | a :: r => r ++ [a]
def rot {α : Type} : Nat → List α → List α
  | 0, l => l
  | k + 1, l => rot1 (rot k l)
theorem rot_eq {α : Type} (l : List α) (h : 0 < l.length) : ∀ k, rot k l = l.drop (k % l.length) ++ l.take (k % l.length)
  | 0 => by simp [rot]
  | k + 1 => by
    have hm := Nat.mod_lt k h
    show rot1 (rot k l) = _
    rw [rot_eq l h k, List.drop_eq_getElem_cons hm]
    show (l.drop (k % l.length + 1) ++ l.take (k % l.length)) ++ [l[k % l.length]] = _
    by_cases e : k % l.length + 1 = l.length
    · have e2 : (k + 1) % l.length = 0 := by rw [← Nat.mod_add_mod, e, Nat.mod_self]
      rw [e2, e, List.drop_length, List.nil_append, List.take_zero, List.append_nil, List.drop_zero]
      rw [← List.take_succ_eq_append_getElem hm, e, List.take_length]
    · have e2 : (k + 1) % l.length = k % l.length + 1 := by rw [← Nat.mod_add_mod]; exact Nat.mod_eq_of_lt (by omega)
      rw [e2, List.append_assoc, ← List.take_succ_eq_append_getElem hm]
theorem rot_len {α : Type} (l : List α) : ∀ k, (rot k l).length = l.length
  | 0 => rfl
  | k + 1 => by
    show (rot1 (rot k l)).length = _
    have := rot_len l k
    cases e : rot k l with
    | nil => rw [e] at this; simpa [rot1] using this
    | cons a r => rw [e] at this; simpa [rot1] using this
theorem rot_zero {α : Type} (l : List α) (h : 0 < l.length) {k : Nat} (hk : k % l.length = 0) : rot k l = l := by
  rw [rot_eq l h, hk]; simp
theorem rot_cons {α : Type} (l : List α) (h : 0 < l.length) (k : Nat) : ∃ p r, rot k l = p :: r ∧ rot (k + 1) l = r ++ [p] ∧ l[k % l.length]? = some p := by
  have hm := Nat.mod_lt k h
  refine ⟨l[k % l.length], l.drop (k % l.length + 1) ++ l.take (k % l.length), ?_, ?_, List.getElem?_eq_getElem hm⟩
  · rw [rot_eq l h k, List.drop_eq_getElem_cons hm]; rfl
  · show rot1 (rot k l) = _
    rw [rot_eq l h k, List.drop_eq_getElem_cons hm]; rfl
def oct (fs : List Nat) (j : Nat) : Nat := octetAt fs.length (j % fs.length) (dig fs j)
theorem words_at (fs : List Nat) (h1 : 0 < fs.length) (j : Nat) : ∃ cs, (wordsOf fs)[j % fs.length]? = some (oct fs j :: cs) := by
  have hm := Nat.mod_lt j h1
  unfold wordsOf
  rw [List.getElem?_map, List.getElem?_range hm]
  show ∃ cs, some (wordAt fs.length (j % fs.length) (fs.getD (j % fs.length) 0)) = _
  unfold wordAt oct dig
  split
  · exact ⟨_, rfl⟩
  · exact ⟨_, rfl⟩
theorem wordsOf_len (fs : List Nat) : (wordsOf fs).length = fs.length := by simp [wordsOf]
theorem oct_mod {fs : List Nat} {j : Nat} (hd : dig fs j < 63) : oct fs j % 64 = dig fs j := by
  unfold oct octetAt
  split <;> split <;> omega
theorem oct_mid {fs : List Nat} {j : Nat} (hd : dig fs j < 63) (h : j % fs.length + 1 < fs.length) : oct fs j / 64 % 2 = 1 := by
  unfold oct octetAt
  rw [if_pos h]
  split <;> omega
theorem oct_end {fs : List Nat} {j : Nat} (hd : dig fs j < 63) (h : ¬ (j % fs.length + 1 < fs.length)) : oct fs j / 64 % 2 = 0 := by
  unfold oct octetAt
  rw [if_neg h]
  split <;> omega
theorem oct_lt {fs : List Nat} {j : Nat} (hd : dig fs j < 63) : oct fs j < 256 := by
  unfold oct octetAt
  split <;> split <;> omega
section
variable {prog : Program} {w : World} {dp un : Nat} {fr : Option (List Env)} {gd : Option (List Code)} {s : Shared} {B : Heap} {p : Program} {loose : List Str} {mean : ExcName → Option Value} {mg mb : Str → Option Value}
  {L : Addr} {m : Str → Option Value} {S : Sys} {G : Rg} {kl : Int} {t5 : Tok} {n i : Nat} {rest : List (Addr × Obj)} {Q : Value → Shared → Prop} {E : Value → Shared → Prop}
theorem ringS_N {c : Nat} {cs : List Nat} {tv : Tok} {ws : List Value} (X : (hd.heap_39 w.params).In B) (T : Top p loose mean mg mb B) (hS : S.Good) (hG : G.Good S.x) (room : dp + 3 < recursionLimit) (F : Fr B L s.heap m)
   (N : News B L s.heap (S.pre w.params kl t5 (strV (c :: cs) tv :: ws) n i ++ rest)) (hg : ∀ q ∈ G.pre, q ∈ rest) (hr : ∀ q ∈ rest, q.1 ≠ S.pb) (hz : ws.length < 1000)
   (h : ∀ h' tk' t, Fr B L h' m → News B L h' (S.pre w.params kl t5 (ws ++ [strV (c :: cs) tv]) (n + 1 + 1) i ++ rest) → Q (.int c t) { s with heap := h', toks := tk' }) :
   wpAny (model prog w) (Ar dp un fr gd) (call (.builtin "next") [.ref G.ci]) Q E s := by
  have i1 := (N (G.ci, _) (List.mem_append_right _ (hg _ (List.Mem.head _)))).1
  have i2 := (N (G.f, _) (List.mem_append_right _ (hg _ (.tail _ (List.Mem.head _))))).1
  have i4 := (N (G.c', _) (List.mem_append_right _ (hg _ (.tail _ (.tail _ (.tail _ (List.Mem.head _))))))).1
  have H := own_of (l := [(G.cl, G.oc), (S.x, instObj 52 S.dx), (S.dx, S.lexO w.params kl t5), (S.pb, lstO (strV (c :: cs) tv :: ws) n)]) N (by
    intro q hq
    simp only [List.mem_cons, List.not_mem_nil, or_false] at hq
    rcases hq with rfl | rfl | rfl | rfl
    · exact List.mem_append_right _ (hg _ (.tail _ (.tail _ (.head _))))
    · exact List.mem_append_left _ (.head _)
    · exact List.mem_append_left _ (.tail _ (.head _))
    · exact List.mem_append_left _ (.tail _ (.tail _ (.head _))))
  obtain ⟨o1, o2, o3⟩ := hG
  refine next_ci rfl i1 (borrows_fn i2 rfl) (turn_spec (dp := dp) ⟨X, T, F.keep⟩ i2 o1 ⟨G.c', G.ocd, G.vs, G.tq, rfl, i4, o2, o3⟩ H (by omega) hz fun t h' tk' a b => ?_)
  obtain ⟨F', N'⟩ := Sys.queue hS F N hr b a
  refine ⟨_, rfl, (N' (G.ci, _) (List.mem_append_right _ (hg _ (List.Mem.head _)))).1, ?_, h _ _ _ F' N'⟩
  have := MeetsSeq.EqGives.int (-1) (c : Int) G.ti t
  rw [show ((-1 : Int) == (c : Int)) = false from by rw [beq_eq_false_iff_ne]; omega] at this
  exact this
theorem ringV_N {fs : List Nat} {vl : List (List Nat × Tok)} {a K : Nat} (X : (hd.heap_39 w.params).In B) (T : Top p loose mean mg mb B) (hS : S.Good) (hG : G.Good S.x) (room : dp + 5 < recursionLimit) (hv : vl.map (·.1) = wordsOf fs) (h1 : 0 < fs.length) (h7 : fs.length ≤ 7) (hf : ∀ f ∈ fs, f < 63)
   (hK : a % fs.length + K + 1 = fs.length)
   (F : Fr B L s.heap m)
   (N : News B L s.heap (S.pre w.params kl t5 ((rot a vl).map strW) n i ++ rest)) (hg : ∀ q ∈ G.pre, q ∈ rest) (hr : ∀ q ∈ rest, q.1 ≠ S.pb)
   (h : ∀ h' tk' t n', Fr B L h' m → News B L h' (S.pre w.params kl t5 ((rot (a + K + 1) vl).map strW) n' i ++ rest) → Q (.int (numS (dig fs) a (K + 1) : Nat) t) { s with heap := h', toks := tk' }) :
   wpAny (model prog w) (Ar dp un fr gd) (call (.ref 63) [.ref G.ci]) Q E s := by
  have hvl : vl.length = fs.length := by
    have := congrArg List.length hv
    rw [List.length_map, wordsOf_len] at this
    exact this
  have hdl : ∀ k, dig fs k < 63 := fun k => dig_lt h1 hf k
  have hmod : ∀ k, k ≤ K → (a + k) % fs.length = a % fs.length + k := fun k hk => by
    rw [← Nat.mod_add_mod]; exact Nat.mod_eq_of_lt (by omega)
  have hH : ∀ q ∈ ringL G w.params S.x S.dx S.pb S.stm S.t1 S.t2 S.t3 S.t4 t5 S.t6 kl ((rot a vl).map strW) n, q ∈ S.pre w.params kl t5 ((rot a vl).map strW) n i ++ rest := fun q hq => by
    rcases List.mem_append.mp hq with hq | hq
    · exact List.mem_append_right _ (hg q hq)
    · simp only [List.mem_cons, List.not_mem_nil, or_false] at hq
      rcases hq with rfl | rfl | rfl
      · exact List.mem_append_left _ (.head _)
      · exact List.mem_append_left _ (.tail _ (.head _))
      · exact List.mem_append_left _ (.tail _ (.tail _ (.head _)))
  refine wpAny_call (varint_spec (src := fun j => ringL G w.params S.x S.dx S.pb S.stm S.t1 S.t2 S.t3 S.t4 t5 S.t6 kl ((rot (a + j) vl).map strW) (n + 2 * j)) (vals := fun j => (oct fs (a + j) : Int)) (K := K) ⟨X, T, F.keep⟩ (own_of N hH) (fun k hk => ?_) (by omega) (fun k hk => ?_) ?_ room fun t h' tk' hn hk => ?_)
  · obtain ⟨pr, r, e1, e2, e3⟩ := rot_cons vl (by omega) (a + k)
    obtain ⟨cs, hcs⟩ := words_at fs h1 (a + k)
    rw [hvl] at e3
    have e4 : (vl.map (·.1))[(a + k) % fs.length]? = some pr.1 := by rw [List.getElem?_map, e3]; rfl
    rw [hv, hcs] at e4
    obtain ⟨pw, pt⟩ := pr
    have e5 : oct fs (a + k) :: cs = pw := Option.some.inj e4
    subst e5
    have hl := rot_len vl (a + k)
    rw [e1, hvl, List.length_cons] at hl
    show Nexts prog w G.ci (ringL G w.params S.x S.dx S.pb S.stm S.t1 S.t2 S.t3 S.t4 t5 S.t6 kl ((rot (a + k) vl).map strW) (n + 2 * k)) (ringL G w.params S.x S.dx S.pb S.stm S.t1 S.t2 S.t3 S.t4 t5 S.t6 kl ((rot (a + k + 1) vl).map strW) (n + 2 * k + 1 + 1)) _
    rw [e1, e2, List.map_append]
    exact ring_next hG (by rw [List.length_map]; omega)
  · have e := oct_mid (hdl (a + k)) (by rw [hmod k (by omega)]; omega)
    show ((oct fs (a + k) : Nat) : Int) / 64 % 2 = 1
    omega
  · have e := oct_end (hdl (a + K)) (by rw [hmod K (Nat.le_refl _)]; omega)
    show ((oct fs (a + K) : Nat) : Int) / 64 % 2 = 0
    omega
  · have hkp : Keeps [S.pb] s.heap h' := by
      refine Keeps.sub hk (own_of N hH) fun q hq hqm => ?_
      refine (hn q ?_).1
      rcases List.mem_append.mp hq with hq | hq
      · exact List.mem_append_left _ hq
      · simp only [List.mem_cons, List.not_mem_nil, or_false] at hq hqm
        rcases hq with rfl | rfl | rfl
        · exact List.mem_append_right _ (.head _)
        · exact List.mem_append_right _ (.tail _ (.head _))
        · exact absurd rfl hqm
    have hpb := (hn (S.pb, lstO ((rot (a + (K + 1)) vl).map strW) (n + 2 * (K + 1))) (List.mem_append_right _ (.tail _ (.tail _ (.head _))))).1
    obtain ⟨F', N'⟩ := Sys.queue hS F N hr hkp hpb
    have e := vint_num (dig fs) (fun j => (oct fs (a + j) : Int)) a K fun k hk => by
      have := oct_mod (hdl (a + k))
      show ((oct fs (a + k) : Nat) : Int) % 64 = _
      omega
    rw [e]
    exact h h' tk' t _ F' N'
end
end
section
set_option maxHeartbeats 4000000
open PySem.Calls PySem.Builtin
theorem off3_pre {S : Sys} {P : Params} {kl kl' : Int} {t5 t5' : Tok} {ws ws' : List Value} {n n' i i' : Nat} {rest : List (Addr × Obj)} {I C D : Addr} (o : LCg.Off3 I C D (S.pre P kl t5 ws n i ++ rest)) : LCg.Off3 I C D (S.pre P kl' t5' ws' n' i' ++ rest) :=
  LCg.Off3.of fun q hq => by
    rcases List.mem_append.mp hq with hq | hq
    · obtain ⟨ob, hm⟩ := Sys.addr_pre P kl t5 ws n i (Sys.pre_addr hq)
      exact LCg.Off3.mem o (q.1, ob) (List.mem_append_left _ hm)
    · exact LCg.Off3.mem o _ (List.mem_append_right _ hq)
theorem off1_ne {D : Addr} : ∀ {l : List (Addr × Obj)}, LCg.Off1 D l → ∀ p ∈ l, p.1 ≠ D
  | [], _, _, h => nomatch h
  | _ :: _, x, p, h => by
    rcases List.mem_cons.mp h with rfl | h
    · exact x.1
    · exact off1_ne x.2 p h
def Hide (p : Prop) : Prop := p
abbrev txtOf (wl : List (List Nat × Tok)) : List Nat := writs (wl.map (·.1)) wl.length ++ [101, 110, 100]
theorem rest_len {wl : List (List Nat × Tok)} (h7 : wl.length ≤ 7) (hw : Words (wl.map (·.1))) {i : Nat} (hi : i ≤ wl.length) : (preW i ++ tailW i ((wl.map (·.1)).drop i)).length ≤ 1000 := by
  have e := congrArg List.length (writs_tail (wl.map (·.1)) (wl.length - i) i (by rw [List.length_map]; omega))
  have hl := writs_len (wl.map (·.1)) hw (wl.map (·.1)).length (Nat.le_refl _)
  rw [List.length_append, List.length_append] at e
  rw [List.length_map] at e hl
  have hp : (preW i).length ≤ 1 := by unfold preW; split <;> simp
  rw [List.length_append]
  simp only [List.length_cons, List.length_nil] at e
  omega
/-- the ledger of one turn of a comprehension, brought to the lexer's form -/
theorem comp_in {S : Sys} {P : Params} {kl : Int} {t5 : Tok} {ws : List Value} {n i : Nat} {REST : List (Addr × Obj)} {a b c : Addr × Obj} : ∀ q ∈ S.pre P kl t5 ws n i ++ (a :: b :: c :: REST), q ∈ a :: b :: c :: (S.pre P kl t5 ws n i ++ REST) := fun q hq => by
  rcases List.mem_append.mp hq with hq | hq
  · exact .tail _ (.tail _ (.tail _ (List.mem_append_left _ hq)))
  · rcases List.mem_cons.mp hq with rfl | hq
    · exact .head _
    · rcases List.mem_cons.mp hq with rfl | hq
      · exact .tail _ (.head _)
      · rcases List.mem_cons.mp hq with rfl | hq
        · exact .tail _ (.tail _ (.head _))
        · exact .tail _ (.tail _ (.tail _ (List.mem_append_right _ hq)))
theorem comp_out {S : Sys} {P : Params} {kl : Int} {t5 : Tok} {ws : List Value} {n i : Nat} {REST : List (Addr × Obj)} {a b c : Addr × Obj} : ∀ q ∈ a :: b :: c :: (S.pre P kl t5 ws n i ++ REST), q ∈ S.pre P kl t5 ws n i ++ (a :: b :: c :: REST) := fun q hq => by
  rcases List.mem_cons.mp hq with rfl | hq
  · exact List.mem_append_right _ (.head _)
  · rcases List.mem_cons.mp hq with rfl | hq
    · exact List.mem_append_right _ (.tail _ (.head _))
    · rcases List.mem_cons.mp hq with rfl | hq
      · exact List.mem_append_right _ (.tail _ (.tail _ (.head _)))
      · rcases List.mem_append.mp hq with hq | hq
        · exact List.mem_append_left _ hq
        · exact List.mem_append_right _ (.tail _ (.tail _ (.tail _ hq)))
theorem comp_off {S : Sys} {P : Params} {kl : Int} {t5 : Tok} {ws : List Value} {n i : Nat} {REST : List (Addr × Obj)} {I C D : Addr} {a b c : Obj} (o : LCg.Off3 I C D (S.pre P kl t5 ws n i ++ REST)) (hR : Off S REST) : Off S ((I, a) :: (C, b) :: (D, c) :: REST) := by
  have hdm : ∀ a ∈ S.addrs, a ≠ I ∧ a ≠ C ∧ a ≠ D := fun a ha => by
    obtain ⟨ob, hm⟩ := Sys.addr_pre P kl t5 ws n i ha
    exact LCg.Off3.mem o _ (List.mem_append_left _ hm)
  have a1 := hdm S.dx (.tail _ (.head _))
  have a2 := hdm S.it (.tail _ (.tail _ (.tail _ (.tail _ (.tail _ (.tail _ (.tail _ (.tail _ (.head _)))))))))
  have a3 := hdm S.pb (.tail _ (.tail _ (.head _)))
  exact .cons ⟨a1.1.symm, a2.1.symm, a3.1.symm⟩ (.cons ⟨a1.2.1.symm, a2.2.1.symm, a3.2.1.symm⟩ (.cons ⟨a1.2.2.symm, a2.2.2.symm, a3.2.2.symm⟩ hR))
end
local macro_rules | `(tactic| walk_at "mq12") => `(tactic| first | assumption | exact if_pos rfl | (refine Eq.trans (if_neg (by decide)) ?_; walk_at "nm"))
local macro_rules | `(tactic| walk_at "mq13") => `(tactic| (k_here; k_dflt (refine' nameX_L ?F ?m ?_ ?a ?b; (case a => rfl); (case b => rfl); (case F => k_asm); (case m => ((try dsimp only); walk_at "nm")); k_whole)))
section
set_option maxHeartbeats 4000000
open PySem.Calls PySem.Builtin
local macro_rules | `(tactic| walk_at "nm") => `(tactic| walk_at "mq12")
local macro_rules | `(tactic| walk_at "eval Name") => `(tactic| walk_at "mq13")
/-- found = [lexer.get_token() for step in words] -/
def FoundSpec (bs : List Stmt × Scope) : Prop := ∀ {prog : Program} {w : World} {dp un : Nat} {fr : Option (List Env)} {gd : Option (List Code)} {s : Shared} {g h : Heap} {tk : Nat} {p : Program} {loose : List Str} {mean : ExcName → Option Value} {mg mb : Str → Option Value}
  {S : Sys} {L wa : Addr} {m : Str → Option Value} {ocl : Obj} {wl : List (List Nat × Tok)} {nw : Nat} {t5 : Tok} {REST : List (Addr × Obj)} {Q : Flow → Shared → Prop}
  (_ : (hd.heap_39 w.params).In g) (_ : Top p loose mean mg mb g) (_ : S.Good) (_ : dp + 20 < recursionLimit) (_ : wl.length ≤ 7) (_ : Words (wl.map (·.1)))
  (_ : S.txt = ⟨(txtOf wl).toArray⟩) (_ : ocl.data = .cell (some (.ref S.x)))
  (_ : Fr g L h m) (_ : m (Str.ofString "words") = some (.ref wa))
  (_ : News g L h (S.pre w.params 1 t5 [] 0 0 ++ REST)) (_ : Off S REST) (_ : (L + 1, ocl) ∈ REST) (_ : (wa, lstO (wl.map strW) nw) ∈ REST)
  (_ : ∀ h' tk' t5' i' D nd (vl : List (List Nat × Tok)), vl.map (·.1) = wl.map (·.1) → at_ S.txt i' (preW wl.length ++ tailW wl.length []) → Fr g L h' (fun z => if z = Str.ofString "found" then some (.ref D) else m z) →
     News g L h' (S.pre w.params (1 + nlc (txtOf wl) - nlc (preW wl.length ++ tailW wl.length [])) t5' [] 0 i' ++ ((D, lstO (vl.map strW) nd) :: REST)) → (∀ q ∈ S.pre w.params (1 + nlc (txtOf wl) - nlc (preW wl.length ++ tailW wl.length [])) t5' [] 0 i' ++ REST, q.1 ≠ D) → Q .next { s with heap := h', toks := tk' }),
  wpAny (model prog w) ((Ar dp un fr gd).deeper (tellEnv bs.2 L)) (execs bs.1 (tellEnv bs.2 L)) Q (fun _ _ => False) { s with heap := h, toks := tk }
theorem found_st : FoundSpec (stT 5, tellDef.2) := by
  show FoundSpec ([_], Scope.mk _ _ _ _ _)
  unfold FoundSpec
  intro prog w dp un fr gd s g h tk p loose mean mg mb S L wa m ocl wl nw t5 REST Q X T G room h7 hw htx hocl F hmw N hR hcell hin K
  have hin' : (wa, lstO (wl.map strW) nw) ∈ S.pre w.params 1 t5 [] 0 0 ++ REST := List.mem_append_right _ hin
  k_steps
  k_dflt (refine LCg.CompSrc.ledger (its := (wl.map strW).toArray) (k := nw) rfl F N hin' ?_ fun g' => ?_)
  · simp only [List.size_toArray, List.length_map]; exact Nat.le_trans h7 (by decide)
  have hsize : (wl.map strW).toArray.size = wl.length := by simp
  rw [hsize]
  have htxt : nlc (preW 0 ++ tailW 0 ((wl.map (·.1)).drop 0)) = nlc (txtOf wl) := by
    rw [List.drop_zero, ← text_eq, List.length_map]
  refine CompRest.ind (n := wl.length) (fun i ys news => ∃ (t5 : Tok) (i' : Nat) (vl : List (List Nat × Tok)), news = S.pre w.params (1 + nlc (txtOf wl) - nlc (preW i ++ tailW i ((wl.map (·.1)).drop i))) t5 [] 0 i' ++ REST ∧
     at_ S.txt i' (preW i ++ tailW i ((wl.map (·.1)).drop i)) ∧ ys = vl.map strW ∧ vl.map (·.1) = (wl.map (·.1)).take i) ?_ ?_ wl.length 0 [] _ (by omega) ⟨t5, 0, [], ?_, ?_, rfl, rfl⟩
  · rintro i ys news hi ⟨t5', i', vl, rfl, hat, rfl, hvl⟩ v I oI C oC D m₂ h2 tk2 hP hN hx F2 N2 o hn
    have N3 : News g L h2 ((L + 1, ocl) :: (S.x, instObj 52 S.dx) :: (S.dx, S.lexO w.params (1 + nlc (txtOf wl) - nlc (preW i ++ tailW i ((wl.map (·.1)).drop i))) t5') :: []) := fun q hq => N2 q (by
      simp only [List.mem_cons, List.not_mem_nil, or_false] at hq
      rcases hq with rfl | rfl | rfl
      · exact .tail _ (.tail _ (.tail _ (List.mem_append_right _ hcell)))
      · exact .tail _ (.tail _ (.tail _ (List.mem_append_left _ (.head _))))
      · exact .tail _ (.tail _ (.tail _ (List.mem_append_left _ (.tail _ (.head _))))))
    dsimp only [Sys.lexO] at N3
    have NH : Hide (News g L h2 _) := News.sub N2 comp_in
    clear N2
    clear N F
    have hrest := comp_off (a := oI) (b := oC) (c := LCg.lst (vl.map strW)) o hR
    k_steps
    have hlt : i < (wl.map (·.1)).length := by rw [List.length_map]; exact hi
    have hdrop : (wl.map (·.1)).drop i = (wl.map (·.1))[i] :: (wl.map (·.1)).drop (i + 1) := List.drop_eq_getElem_cons hlt
    have htok := tok_at (r := (wl.map (·.1)).drop (i + 1)) (hw.ok hdrop)
    rw [← hdrop] at htok
    have hrl := rest_len h7 hw (Nat.le_of_lt hi)
    refine scan_N X T G (by show dp + 1 + 3 < _; omega) F2 NH (fun q hq => ⟨(hrest q hq).1, (hrest q hq).2.1⟩) hat hrl fun h' tk' t t5'' i'' hat' F' N' => ?_
    rw [htok] at hat' N'
    rw [htok]
    show LCg.CompEnd _ _ _ _ _ _ _ _ _ _ _ _ _ _
    rw [show 1 + nlc (txtOf wl) - nlc (preW i ++ tailW i ((wl.map (·.1)).drop i)) + nlc (preW i ++ tailW i ((wl.map (·.1)).drop i)) - nlc (preW (i + 1) ++ tailW (i + 1) ((wl.map (·.1)).drop (i + 1))) = 1 + nlc (txtOf wl) - nlc (preW (i + 1) ++ tailW (i + 1) ((wl.map (·.1)).drop (i + 1))) by omega] at N'
    refine LCg.CompEnd.intro F' N' (S.pre w.params _ t5'' [] 0 i'' ++ REST) comp_out (off3_pre o) (.inr ⟨_, List.mem_append_right _ hin, rfl, _, rfl⟩) ⟨t5'', i'', vl ++ [((wl.map (·.1))[i], t)], rfl, hat', by simp, ?_⟩
    rw [List.map_append, hvl, List.take_succ_eq_append_getElem hlt]
    rfl
  · rintro ys news ⟨t5', i', vl, rfl, hat, rfl, hvl⟩ D h2 tk2 F2 N2 o1
    rw [show wl.length = (wl.map (·.1)).length from (List.length_map ..).symm, List.take_length] at hvl
    rw [show (wl.map (·.1)).drop wl.length = [] from List.drop_eq_nil_iff.mpr (by rw [List.length_map]; exact Nat.le_refl _)] at hat N2 o1
    exact wpAny_execs_nil (K h2 tk2 t5' i' D _ vl hvl hat F2 (News.sub N2 mem_mid) (off1_ne o1))
  · rw [htxt, show 1 + nlc (txtOf wl) - nlc (txtOf wl) = 1 by omega]
  · rw [List.drop_zero, ← text_eq, List.length_map]
    unfold at_
    rw [htx]
    simp
end
section
set_option maxHeartbeats 4000000
open PySem.Calls PySem.Builtin
local macro_rules | `(tactic| walk_at "nm") => `(tactic| walk_at "mq12")
local macro_rules | `(tactic| walk_at "eval Name") => `(tactic| walk_at "mq13")
/-- for word in found: lexer.push_token(word) -/
def PushSpec (bs : List Stmt × Scope) : Prop := ∀ {prog : Program} {w : World} {dp un : Nat} {fr : Option (List Env)} {gd : Option (List Code)} {s : Shared} {g h : Heap} {tk : Nat} {p : Program} {loose : List Str} {mean : ExcName → Option Value} {mg mb : Str → Option Value}
  {S : Sys} {L D : Addr} {m : Str → Option Value} {ocl : Obj} {vl : List (List Nat × Tok)} {nd n i : Nat} {t5 : Tok} {kl : Int} {REST : List (Addr × Obj)} {Q : Flow → Shared → Prop}
  (_ : (hd.heap_39 w.params).In g) (_ : Top p loose mean mg mb g) (_ : S.Good) (_ : dp + 20 < recursionLimit) (_ : vl.length ≤ 7)
  (_ : ocl.data = .cell (some (.ref S.x)))
  (_ : Fr g L h m) (_ : m (Str.ofString "found") = some (.ref D)) (_ : m (Str.ofString "word") = none)
  (_ : News g L h (S.pre w.params kl t5 [] n i ++ REST)) (_ : Off S REST) (_ : (L + 1, ocl) ∈ REST) (_ : (D, lstO (vl.map strW) nd) ∈ REST)
  (_ : ∀ h' tk' wd n', Fr g L h' (fun z => if z = Str.ofString "word" then wd else m z) →
     News g L h' (S.pre w.params kl t5 (vl.map strW) n' i ++ REST) → Q .next { s with heap := h', toks := tk' }),
  wpAny (model prog w) ((Ar dp un fr gd).deeper (tellEnv bs.2 L)) (execs bs.1 (tellEnv bs.2 L)) Q (fun _ _ => False) { s with heap := h, toks := tk }
local macro_rules | `(tactic| walk_at "exec For Name Name cons nil") => `(tactic| (k_here; (with_unfolding_all refine' For_my ?k2 ?k1; (case k1 => exact fun _ => rfl))))
theorem push_st : PushSpec (stT 6, tellDef.2) := by
  show PushSpec ([_], Scope.mk _ _ _ _ _)
  unfold PushSpec
  intro prog w dp un fr gd s g h tk p loose mean mg mb S L D m ocl vl nd n i t5 kl REST Q X T G room h7 hocl F hmf hmw N hR hcell hin K
  have hin' : (D, lstO (vl.map strW) nd) ∈ S.pre w.params kl t5 [] n i ++ REST := List.mem_append_right _ hin
  have NH : Hide (News g L h _) := N
  clear N
  have N : News g L h [] := fun _ hq => nomatch hq
  k_steps
  refine pyIter_list_N F NH hin' fun it h2 F2 N2 l2 => ?_
  clear F NH N
  refine MyFor.intro (fun j s' => ∃ (k : Nat) (h' : Heap) (tk : Nat) (wd : Option Value) (n' : Nat), k ≤ vl.length ∧ j = vl.length - k ∧ s' = { s with heap := h', toks := tk } ∧
     Fr g L h' (fun z => if z = Str.ofString "word" then wd else m z) ∧ News g L h' ((it, liO D k) :: (S.pre w.params kl t5 ((vl.take k).map strW) n' i ++ REST))) vl.length ⟨0, _, _, none, n, Nat.zero_le _, rfl, rfl, ?_, N2⟩ ?_
  · rw [if_self m _ hmw]; exact F2
  clear F2 N2
  rintro j s' ⟨k, h', tk, wd, n', hk, rfl, rfl, F, N⟩
  have hni : ∀ (ws : List Value) (n : Nat), ∀ q ∈ S.pre w.params kl t5 ws n i ++ REST, q.1 ≠ it := fun ws n' q hq => by
    have hl : ∀ q ∈ S.pre w.params kl t5 [] n i ++ REST, q.1 ≠ it := fun q hq => Nat.ne_of_lt (l2 q hq)
    rcases List.mem_append.mp hq with hq | hq
    · obtain ⟨ob, hm⟩ := Sys.addr_pre w.params kl t5 [] n i (Sys.pre_addr hq)
      exact hl (q.1, ob) (List.mem_append_left _ hm)
    · exact hl q (List.mem_append_right _ hq)
  have hoff : Off S ((it, liO D (k + 1)) :: REST) := .cons (Off.new (q := (it, liO D (k + 1))) (hni [] 0)) hR
  by_cases hlt : k < vl.length
  · have hx : (vl.map strW)[k]? = some (strW vl[k]) := by rw [List.getElem?_map, List.getElem?_eq_getElem hlt]; rfl
    refine pyNext_list_N F N (.tail _ (List.mem_append_right _ hin)) hx (.head (hni _ _)) fun h2 F2 N2 => ?_
    clear F N
    refine wpAny_storeName_local rfl F2.ns (fun h3 hn3 hs3 => ?_)
    have F3 := F2.set hn3 hs3
    have N3 := N2.set hs3
    clear F2 N2 hn3 hs3
    rw [if_if] at F3
    have NV : News g L h3 [(L + 1, ocl), (S.x, instObj 52 S.dx), (S.dx, lexD w.params S.t1 S.t2 S.t3 S.t4 t5 S.t6 kl S.stm S.pb)] := fun q hq => N3 q (.tail _ (by
      simp only [List.mem_cons, List.not_mem_nil, or_false] at hq
      rcases hq with rfl | rfl | rfl
      · exact List.mem_append_right _ hcell
      · exact List.mem_append_left _ (.head _)
      · exact List.mem_append_left _ (.tail _ (.head _))))
    have NH : Hide (News g L h3 _) := News.sub N3 mem_mid
    clear N3
    k_steps
    refine pushS_N X T G (by show dp + 1 < _; omega) F3 NH (fun q hq => (hoff q hq).2.2) (by rw [List.length_map, List.length_take]; omega) fun h' tk' F' N' => ?_
    have e : (vl.take k).map strW ++ [strW vl[k]] = (vl.take (k + 1)).map strW := by
      rw [List.take_succ_eq_append_getElem hlt, List.map_append]; rfl
    rw [e] at N'
    have NH2 : Hide (News g L h' _) := News.sub N' mem_unmid
    clear N' NV
    have NV : News g L h' [] := fun _ hq => nomatch hq
    k_steps
    exact ⟨vl.length - (k + 1), by omega, k + 1, _, _, _, _, hlt, rfl, rfl, F', NH2⟩
  · have hkl : k = vl.length := by omega
    subst hkl
    refine pyNext_listEnd_N rfl F N (List.mem_append_right _ hin) (by rw [List.length_map]; exact Nat.le_refl _) (hni _ _) fun h2 F2 N2 => ?_
    rw [List.take_length] at N2
    exact wpAny_execs_nil (K h2 _ wd n' F2 N2)
end
section
set_option maxHeartbeats 4000000
open PySem.Calls PySem.Builtin
local macro_rules | `(tactic| walk_at "nm") => `(tactic| walk_at "mq12")
local macro_rules | `(tactic| walk_at "eval Name") => `(tactic| walk_at "mq13")
/-- ring = _law_ring(lexer) -/
def RingSpec (bs : List Stmt × Scope) : Prop := ∀ {prog : Program} {w : World} {dp un : Nat} {fr : Option (List Env)} {gd : Option (List Code)} {s : Shared} {g h : Heap} {tk : Nat} {p : Program} {loose : List Str} {mean : ExcName → Option Value} {mg mb : Str → Option Value}
  {S : Sys} {L : Addr} {m : Str → Option Value} {ocl ocr : Obj} {ws : List Value} {n i : Nat} {t5 : Tok} {kl : Int} {pre126 R0 : List (Addr × Obj)} {Q : Flow → Shared → Prop}
  (_ : (hd.heap_39 w.params).In g) (_ : Top p loose mean mg mb g) (_ : S.Good) (_ : dp + 20 < recursionLimit)
  (_ : ocl.data = .cell (some (.ref S.x))) (_ : ocr.data = .cell none) (_ : RingOk prog w S.x pre126)
  (_ : Fr g L h m)
  (_ : News g L h (S.pre w.params kl t5 ws n i ++ ((L + 1 + 1, ocr) :: (pre126 ++ R0)))) (_ : Off S ((L + 1 + 1, ocr) :: R0)) (_ : (L + 1, ocl) ∈ R0)
  (_ : ∀ a ∈ S.addrs, ∀ r ∈ pre126, a ≠ r.1) (_ : ∀ q ∈ (L + 1 + 1, ocr) :: R0, ∀ r ∈ pre126, q.1 ≠ r.1) (_ : ∀ a ∈ S.addrs, a ≠ L + 1 + 1 ∧ @Ne Nat a 126) (_ : ∀ q ∈ R0, q.1 ≠ L + 1 + 1) (_ : @Ne Nat 126 (L + 1 + 1))
  (_ : ∀ (G : Rg) h' tk' ocr', G.Good S.x → ocr'.data = .cell (some (.ref G.ci)) → Fr g L h' m →
     News g L h' (S.pre w.params kl t5 ws n i ++ ((L + 1 + 1, ocr') :: (G.pre ++ (126, ringTab G.c') :: R0))) → Off S ((L + 1 + 1, ocr') :: (G.pre ++ (126, ringTab G.c') :: R0)) → Q .next { s with heap := h', toks := tk' }),
  wpAny (model prog w) ((Ar dp un fr gd).deeper (tellEnv bs.2 L)) (execs bs.1 (tellEnv bs.2 L)) Q (fun _ _ => False) { s with heap := h, toks := tk }
theorem ring_st : RingSpec (stT 7, tellDef.2) := by
  show RingSpec ([_], Scope.mk _ _ _ _ _)
  unfold RingSpec
  intro prog w dp un fr gd s g h tk p loose mean mg mb S L m ocl ocr ws n i t5 kl pre126 R0 Q X T G room hocl hocr ringOk F N hR hcell ap1 ap2 ap3 ap4 ap5 K
  have NV : News g L h [(L + 1, ocl)] := fun q hq => by
    rw [List.mem_singleton.mp hq]
    exact N _ (List.mem_append_right _ (.tail _ (List.mem_append_right _ hcell)))
  have NH : Hide (News g L h (pre126 ++ (S.pre w.params kl t5 ws n i ++ ((L + 1 + 1, ocr) :: R0)))) := News.sub N (fun q hq => by
    simp only [List.mem_append, List.mem_cons] at hq ⊢
    grind)
  clear N
  k_steps
  have hdis : ∀ q ∈ S.pre w.params kl t5 ws n i ++ ((L + 1 + 1, ocr) :: R0), ∀ r ∈ pre126, q.1 ≠ r.1 := fun q hq r hr => by
    rcases List.mem_append.mp hq with hq | hq
    · exact ap1 _ (Sys.pre_addr hq) r hr
    · exact ap2 _ hq r hr
  refine ringOk.go X T (by show dp + 1 < _; omega) F NH hdis fun G2 h' tk' hG F' N' hd2 => ?_
  clear NH NV F
  have hgc : ∀ r ∈ G2.pre, r.1 ≠ L + 1 + 1 := fun r hr => (hd2 _ (List.mem_append_right _ (.head _)) r hr).symm
  have hS2 : ∀ q ∈ S.pre w.params kl t5 ws n i, q.1 ≠ L + 1 + 1 := fun q hq => (ap3 _ (Sys.pre_addr hq)).1
  have N2 : News g L h' ((L + 1 + 1, ocr) :: (S.pre w.params kl t5 ws n i ++ (G2.pre ++ (126, ringTab G2.c') :: R0))) := News.sub N' (fun q hq => by
    simp only [List.mem_append, List.mem_cons] at hq ⊢
    grind)
  clear N'
  refine storeC_N F' N2 (fun q hq => ?_) rfl hocr fun h2 o' F3 N3 ho' => ?_
  · rcases List.mem_append.mp hq with hq | hq
    · exact hS2 q hq
    · rcases List.mem_append.mp hq with hq | hq
      · exact hgc q hq
      · rcases List.mem_cons.mp hq with rfl | hq
        · exact ap5
        · exact ap4 q hq
  have hOffG : Off S G2.pre := fun r hr => by
    have a : ∀ a ∈ S.addrs, r.1 ≠ a := fun a ha => by
      obtain ⟨ob, hm⟩ := Sys.addr_pre w.params kl t5 ws n i ha
      exact (hd2 (a, ob) (List.mem_append_left _ hm) r hr).symm
    exact ⟨a _ (.tail _ (.head _)), a _ (.tail _ (.tail _ (.tail _ (.tail _ (.tail _ (.tail _ (.tail _ (.tail _ (.head _))))))))), a _ (.tail _ (.tail _ (.head _)))⟩
  have hOff : Off S ((L + 1 + 1, o') :: (G2.pre ++ (126, ringTab G2.c') :: R0)) :=
    .cons (hR (L + 1 + 1, ocr) (.head _)) (.app hOffG (.cons ⟨(ap3 _ (.tail _ (.head _))).2.symm, (ap3 _ (.tail _ (.tail _ (.tail _ (.tail _ (.tail _ (.tail _ (.tail _ (.tail _ (.head _)))))))))).2.symm, (ap3 _ (.tail _ (.tail _ (.head _)))).2.symm⟩ fun q hq => hR q (.tail _ hq)))
  exact wpAny_execs_nil (K G2 h2 _ o' hG ho' F3 (News.sub N3 mem_mid) hOff)
end
section
set_option maxHeartbeats 4000000
open PySem.Calls PySem.Builtin
local macro_rules | `(tactic| walk_at "nm") => `(tactic| walk_at "mq12")
local macro_rules | `(tactic| walk_at "eval Name") => `(tactic| walk_at "mq13")
/-- whole = _parse_varint(ring) -/
def WholeSpec (bs : List Stmt × Scope) : Prop := ∀ {prog : Program} {w : World} {dp un : Nat} {fr : Option (List Env)} {gd : Option (List Code)} {s : Shared} {g h : Heap} {tk : Nat} {p : Program} {loose : List Str} {mean : ExcName → Option Value} {mg mb : Str → Option Value}
  {S : Sys} {G : Rg} {L : Addr} {m : Str → Option Value} {ocr : Obj} {fs : List Nat} {vl : List (List Nat × Tok)} {a K n i : Nat} {t5 : Tok} {kl : Int} {REST : List (Addr × Obj)} {Q : Flow → Shared → Prop}
  (_ : (hd.heap_39 w.params).In g) (_ : Top p loose mean mg mb g) (_ : S.Good) (_ : G.Good S.x) (_ : dp + 20 < recursionLimit)
  (_ : vl.map (·.1) = wordsOf fs) (_ : 0 < fs.length) (_ : fs.length ≤ 7) (_ : ∀ f ∈ fs, f < 63) (_ : a % fs.length + K + 1 = fs.length)
  (_ : ocr.data = .cell (some (.ref G.ci)))
  (_ : Fr g L h m)
  (_ : News g L h (S.pre w.params kl t5 ((rot a vl).map strW) n i ++ REST)) (_ : Off S REST) (_ : (L + 1 + 1, ocr) ∈ REST) (_ : ∀ q ∈ G.pre, q ∈ REST)
  (_ : ∀ h' tk' t n', Fr g L h' (fun z => if z = Str.ofString "whole" then some (.int (numS (dig fs) a (K + 1) : Nat) t) else m z) →
     News g L h' (S.pre w.params kl t5 ((rot (a + K + 1) vl).map strW) n' i ++ REST) → Q .next { s with heap := h', toks := tk' }),
  wpAny (model prog w) ((Ar dp un fr gd).deeper (tellEnv bs.2 L)) (execs bs.1 (tellEnv bs.2 L)) Q (fun _ _ => False) { s with heap := h, toks := tk }
theorem whole_st : WholeSpec (stT 8, tellDef.2) := by
  show WholeSpec ([_], Scope.mk _ _ _ _ _)
  unfold WholeSpec
  intro prog w dp un fr gd s g h tk p loose mean mg mb S G L m ocr fs vl a K n i t5 kl REST Q X T hS hG room hv h1 h7 hf hK hocr F N hR hcell hg C
  have NV : News g L h [(L + 1 + 1, ocr)] := fun q hq => by
    rw [List.mem_singleton.mp hq]
    exact N _ (List.mem_append_right _ hcell)
  have NH : Hide (News g L h _) := N
  clear N
  k_steps
  refine ringV_N X T hS hG (by show dp + 1 + 5 < _; omega) hv h1 h7 hf hK F NH hg (fun q hq => (hR q hq).2.2) fun h' tk' t n' F' N' => ?_
  have NH2 : Hide (News g L h' _) := N'
  clear NH N' NV F
  have NV : News g L h' [] := fun _ hq => nomatch hq
  refine wpAny_storeName_local rfl F'.ns (fun h3 hn3 hs3 => ?_)
  exact wpAny_execs_nil (C h3 _ t n' (F'.set hn3 hs3) (News.set NH2 hs3))
theorem hide_intro {p : Prop} (h : Hide p) : p := h
theorem range_small {k : Nat} (hk : k ≤ 1000) : Builtin.Range.small 0 k 1 = true ∧ Builtin.Range.rangeSize 0 k 1 = ((k : Nat) : Int) := by
  have hsz : Builtin.Range.rangeSize 0 k 1 = k := by
    unfold Builtin.Range.rangeSize
    rw [if_pos (by decide)]
    split <;> omega
  refine ⟨?_, hsz⟩
  have hf : ∀ i : Int, -1000 ≤ i → i ≤ 2000 → Builtin.Range.rangeFitsLong i = true := fun i a b => by
    unfold Builtin.Range.rangeFitsLong
    simp only [Bool.and_eq_true, decide_eq_true_eq]
    omega
  unfold Builtin.Range.small
  rw [hsz, hf 0 (by omega) (by omega), hf k (by omega) (by omega), hf 1 (by omega) (by omega)]
  rw [if_pos (by decide), hf _ (by omega) (by omega)]
  simp
local macro_rules | `(tactic| walk_at "CompSrc") => `(tactic| (k_here; refine hide_intro ?_))
local macro_rules | `(tactic| walk_at "call builtin:next") => `(tactic| (k_here; refine hide_intro ?_))
theorem rot_word {fs : List Nat} {vl : List (List Nat × Tok)} (hv : vl.map (·.1) = wordsOf fs) (h1 : 0 < fs.length) (k : Nat) : ∃ cs tv r, rot k vl = (oct fs k :: cs, tv) :: r ∧ rot (k + 1) vl = r ++ [(oct fs k :: cs, tv)] ∧ r.length + 1 = fs.length := by
  have hvl : vl.length = fs.length := by
    have := congrArg List.length hv
    rw [List.length_map, wordsOf_len] at this
    exact this
  obtain ⟨pr, r, e1, e2, e3⟩ := rot_cons vl (by omega) k
  obtain ⟨cs, hcs⟩ := words_at fs h1 k
  rw [hvl] at e3
  have e4 : (vl.map (·.1))[k % fs.length]? = some pr.1 := by rw [List.getElem?_map, e3]; rfl
  rw [hv, hcs] at e4
  obtain ⟨pw, pt⟩ := pr
  have e5 : oct fs k :: cs = pw := Option.some.inj e4
  subst e5
  refine ⟨cs, pt, r, e1, e2, ?_⟩
  have := rot_len vl k
  rw [e1, hvl, List.length_cons] at this
  exact this
/-- octets = [or_(next(ring), 64) for step in range(size)] -/
def OctSpec (bs : List Stmt × Scope) : Prop := ∀ {prog : Program} {w : World} {dp un : Nat} {fr : Option (List Env)} {gd : Option (List Code)} {s : Shared} {g h : Heap} {tk : Nat} {p : Program} {loose : List Str} {mean : ExcName → Option Value} {mg mb : Str → Option Value}
  {S : Sys} {G : Rg} {L : Addr} {m : Str → Option Value} {ocr : Obj} {fs : List Nat} {vl : List (List Nat × Tok)} {a n i sz : Nat} {tz t5 : Tok} {kl : Int} {REST : List (Addr × Obj)} {Q : Flow → Shared → Prop}
  (_ : (hd.heap_39 w.params).In g) (_ : Top p loose mean mg mb g) (_ : S.Good) (_ : G.Good S.x) (_ : dp + 20 < recursionLimit)
  (_ : vl.map (·.1) = wordsOf fs) (_ : 0 < fs.length) (_ : fs.length ≤ 7) (_ : ∀ f ∈ fs, f < 63) (_ : sz ≤ 14)
  (_ : ocr.data = .cell (some (.ref G.ci)))
  (_ : Fr g L h m) (_ : m (Str.ofString "size") = some (.int sz tz))
  (_ : News g L h (S.pre w.params kl t5 ((rot a vl).map strW) n i ++ REST)) (_ : Off S REST) (_ : (L + 1 + 1, ocr) ∈ REST) (_ : ∀ q ∈ G.pre, q ∈ REST)
  (_ : ∀ h' tk' n' D nd (ol : List (Int × Tok)), ol.map (·.1) = (List.range sz).map (fun k => Builtin.bitOr (oct fs (a + k) : Int) 64) → Fr g L h' (fun z => if z = Str.ofString "octets" then some (.ref D) else m z) →
     News g L h' (S.pre w.params kl t5 ((rot (a + sz) vl).map strW) n' i ++ ((D, lstO (ol.map fun p => .int p.1 p.2) nd) :: REST)) → (∀ q ∈ S.pre w.params kl t5 ((rot (a + sz) vl).map strW) n' i ++ REST, q.1 ≠ D) → Q .next { s with heap := h', toks := tk' }),
  wpAny (model prog w) ((Ar dp un fr gd).deeper (tellEnv bs.2 L)) (execs bs.1 (tellEnv bs.2 L)) Q (fun _ _ => False) { s with heap := h, toks := tk }
theorem oct_st : OctSpec (stT 9, tellDef.2) := by
  show OctSpec ([_], Scope.mk _ _ _ _ _)
  unfold OctSpec
  intro prog w dp un fr gd s g h tk p loose mean mg mb S G L m ocr fs vl a n i sz tz t5 kl REST Q X T hS hG room hv h1 h7 hf hsz hocr F hms N hR hcell hg C
  have NH : Hide (News g L h _) := N
  clear N
  have NV : News g L h [] := fun _ hq => nomatch hq
  k_steps
  rename IsRange _ _ _ _ _ _ _ _ => hrg
  rename (∀ b o, _ → _) => hkp
  rename Fr _ _ _ _ => F2
  have N2 : News g L _ _ := News.grown NH hkp
  clear NH
  unfold Hide
  have hrs := range_small (k := sz) (by omega)
  k_dflt (refine LCg.CompSrc.range (n := sz) rfl F2 N2 hrg hrs.1 hrs.2 (Nat.le_trans hsz (by decide)) fun g' => ?_)
  refine CompRest.ind (n := sz) (fun j ys news => ∃ (n' : Nat) (ol : List (Int × Tok)), news = S.pre w.params kl t5 ((rot (a + j) vl).map strW) n' i ++ REST ∧
     ys = ol.map (fun p => Value.int p.1 p.2) ∧ ol.map (·.1) = (List.range j).map (fun k => Builtin.bitOr (oct fs (a + k) : Int) 64)) ?_ ?_ sz 0 [] _ (by omega) ⟨n, [], rfl, rfl, rfl⟩
  · rintro j ys news hj ⟨n', ol, rfl, rfl, hol⟩ v I oI C oC D m₂ h2 tk2 hP hN hx F2 N2 o hn
    have NV : News g L h2 [(L + 1 + 1, ocr)] := fun q hq => by
      rw [List.mem_singleton.mp hq]
      exact N2 _ (.tail _ (.tail _ (.tail _ (List.mem_append_right _ hcell))))
    have NH : Hide (News g L h2 _) := News.sub N2 comp_in
    clear N2
    have hrest := comp_off (a := oI) (b := oC) (c := LCg.lst (ol.map fun p => Value.int p.1 p.2)) o hR
    k_steps
    unfold Hide
    obtain ⟨cs, tv, r, e1, e2, e3⟩ := rot_word hv h1 (a + j)
    have N3 : News g L h2 (S.pre w.params kl t5 (strV (oct fs (a + j) :: cs) tv :: r.map strW) n' i ++ ((I, oI) :: (C, oC) :: (D, LCg.lst (ol.map fun p => Value.int p.1 p.2)) :: REST)) := by
      have N4 : News g L h2 _ := NH
      rw [e1] at N4
      exact N4
    clear NH
    refine ringS_N X T hS hG (by show dp + 1 + 3 < _; omega) F2 N3 (fun q hq => .tail _ (.tail _ (.tail _ (hg q hq)))) (fun q hq => (hrest q hq).2.2) (by rw [List.length_map]; omega) fun h3 tk3 t F3 N3 => ?_
    have NH3 : Hide (News g L h3 _) := N3
    clear N3 NV F2
    have NV : News g L h3 [] := fun _ hq => nomatch hq
    k_steps
    refine wpAny_call (or_spec ⟨X, T, F3.keep⟩ (by show dp + 1 < _; omega) fun t2 h4 tk4 k4 => ?_)
    have hk4 : ∀ b o, h3.get? b = some o → h4.get? b = some o := fun b o e => k4.2 b o e (by simp)
    have N4 := News.grown NH3 hk4
    have e : r.map strW ++ [strV (oct fs (a + j) :: cs) tv] = (rot (a + (j + 1)) vl).map strW := by
      rw [← Nat.add_assoc, e2, List.map_append]; rfl
    rw [e] at N4
    refine LCg.CompEnd.intro (F3.keeps hk4) N4 (S.pre w.params kl t5 ((rot (a + (j + 1)) vl).map strW) (n' + 1 + 1) i ++ REST) comp_out (off3_pre o) trivial ⟨_, ol ++ [(Builtin.bitOr (oct fs (a + j) : Int) 64, t2)], rfl, by simp, ?_⟩
    rw [List.map_append, hol, List.range_succ, List.map_append]
    rfl
  · rintro ys news ⟨n', ol, rfl, rfl, hol⟩ D h2 tk2 F2 N2 o1
    exact wpAny_execs_nil (C h2 tk2 n' D _ ol hol F2 (News.sub N2 mem_mid) (off1_ne o1))
end
section
set_option maxHeartbeats 4000000
open PySem.Calls PySem.Builtin
local macro_rules | `(tactic| walk_at "nm") => `(tactic| walk_at "mq12")
local macro_rules | `(tactic| walk_at "eval Name") => `(tactic| walk_at "mq13")
section
variable {prog : Program} {w : World} {A : Around} {E : Value → Shared → Prop} {s : Shared} {h₀ : Heap} {L : Addr} {m : Str → Option Value} {news news' : List (Addr × Obj)}
theorem last_N {value slice : PySem.Expr} {a : Addr} {vs : List Value} {x : Value} {n : Nat} {u : Tok} {Q : Value → Shared → Prop} (N : News h₀ L s.heap news) (hm : (a, lstO (vs ++ [x]) n) ∈ news) (hz : vs.length ≤ 1000) (h : Q x s)
    (hs : subscripted slice false (.ref a) (.int (-1) u) = operate [.ref a, .int (-1) u] (getItem (.ref a) (.int (-1) u)) := by with_unfolding_all rfl) : wpAny (model prog w) A (subscriptTail value slice (.ref a) (.int (-1) u)) Q E s := by
  have hl : s.heap.IsList a (vs ++ [x]).toArray := ⟨_, (N _ hm).1, rfl, n, rfl⟩
  refine tail_any hl.typeIs slot_list_getitem.lookup (wpAny_getItem_list_neg hl (by decide) ?_ (by decide) ?_ h) hs
  · simp only [List.size_toArray, List.length_append, List.length_cons, List.length_nil]; omega
  · simp only [List.size_toArray, List.length_append, List.length_cons, List.length_nil]
    rw [show (-1 + ((vs.length + (0 + 1) : Nat) : Int)).toNat = vs.length by omega]
    simp
theorem slice_last (vs : List Value) (x : Value) : slicePick (vs ++ [x]).toArray none (some (-1)) none = vs.toArray := by
  rw [slicePick_plain]
  have e : clipAt (vs ++ [x]).toArray.size (-1) = vs.length := by
    have := clipAt_neg (vs ++ [x]).toArray.size 1 (Nat.le_refl _)
    simpa using this
  simp only [Option.elim]
  rw [e]
  simp
theorem iterL_N {l : Addr} {vs : List Value} {n : Nat} {Q : Value → Shared → Prop} (F : Fr h₀ L s.heap m) (N : News h₀ L s.heap news) (hm : (l, lstO vs n) ∈ news)
    (h : ∀ it h', Fr h₀ L h' m → News h₀ L h' ((it, liO l 0) :: news) → (∀ p ∈ news, p.1 < it) → Q (.ref it) { s with heap := h' }) : wpAny (model prog w) A (call (.builtin "iter") [.ref l]) Q E s :=
  iter1_list (items := vs.toArray) ⟨_, (N _ hm).1, rfl, n, rfl⟩ (h _ _ (F.push _) (N.push F _) fun p hp => Heap.lt_size (N p hp).1)
end
section
variable {prog : Program} {w : World} {dp un : Nat} {fr : Option (List Env)} {gd : Option (List Code)} {s : Shared} {B : Heap} {p : Program} {loose : List Str} {mean : ExcName → Option Value} {mg mb : Str → Option Value}
  {L : Addr} {m : Str → Option Value} {news : List (Addr × Obj)} {Q : Value → Shared → Prop} {E : Value → Shared → Prop} {a b : Int} {ta tb : Tok}
theorem and_N (X : (hd.heap_39 w.params).In B) (T : Top p loose mean mg mb B) (room : dp < recursionLimit) (F : Fr B L s.heap m) (N : News B L s.heap news)
   (h : ∀ h' tk' t, Fr B L h' m → News B L h' news → Q (.int (Builtin.bitAnd a b) t) { s with heap := h', toks := tk' }) :
   wpAny (model prog w) (Ar dp un fr gd) (call (.ref 77) [.int a ta, .int b tb]) Q E s := by
  refine wpAny_call (and_spec ⟨X, T, F.keep⟩ room fun t h' tk' k => ?_)
  have hk : ∀ b o, s.heap.get? b = some o → h'.get? b = some o := fun b o e => k.2 b o e (by simp)
  exact h h' tk' t (F.keeps hk) (N.grown hk)
/-- `_parse_varint(iter(list))` -/
theorem listV_N {d : Nat → Nat} {it l : Addr} {items : List Value} {n K : Nat} {vals : Nat → Int} (X : (hd.heap_39 w.params).In B) (T : Top p loose mean mg mb B) (room : dp + 5 < recursionLimit) (F : Fr B L s.heap m)
   (N : News B L s.heap ((it, liO l 0) :: (l, lstO items n) :: news)) (hn : ∀ q ∈ news, q.1 ≠ it ∧ q.1 ≠ l)
   (hv : ∀ k, k ≤ K → ∃ t, items[k]? = some (.int (vals k) t)) (hK : K ≤ 13) (hmid : ∀ k, k < K → vals k / 64 % 2 = 1) (hend : vals K / 64 % 2 = 0)
   (hd : ∀ k, k ≤ K → vals k % 64 = (d k : Int))
   (h : ∀ h' tk' t, Fr B L h' m → News B L h' news → Q (.int (numS d 0 (K + 1) : Nat) t) { s with heap := h', toks := tk' }) :
   wpAny (model prog w) (Ar dp un fr gd) (call (.ref 63) [.ref it]) Q E s := by
  refine wpAny_call (varint_spec (src := fun j => [(it, liO l j), (l, lstO items n)]) (vals := vals) (K := K) ⟨X, T, F.keep⟩ (own_of N fun q hq => ?_) (fun k hk => ?_) hK hmid hend room fun t h' tk' hnw hk => ?_)
  · simp only [List.mem_cons, List.not_mem_nil, or_false] at hq
    rcases hq with rfl | rfl
    · exact .head _
    · exact .tail _ (.head _)
  · obtain ⟨t, ht⟩ := hv k hk
    exact list_next ht
  · obtain ⟨F', N'⟩ := after F N (fun q hq => by
      simp only [List.mem_cons, List.not_mem_nil, or_false] at hq
      rcases hq with rfl | rfl
      · exact .head _
      · exact .tail _ (.head _)) hk hnw (rest := news) (fun q hq => ⟨.tail _ (.tail _ hq), by simp [(hn q hq).1, (hn q hq).2]⟩)
    rw [vint_num d vals 0 K fun k hk => by rw [Nat.zero_add]; exact hd k hk]
    exact h h' tk' t F' fun q hq => N' q (List.mem_append_right _ hq)
end
local macro_rules | `(tactic| walk_at "call ref") => `(tactic| (k_here; (rename Top _ _ _ _ _ _ => kT); (rename Frag.In _ _ => kX); k_dflt (refine' and_N kX kT ?room ?F ?N ?_; (case F => k_asm); (case N => k_asm); (case room => (dsimp only [Around.deeper, Ar]; omega))); intro h' tk' t F' N'))
local macro_rules | `(tactic| walk_at "subscriptTail") => `(tactic| (k_here; (with_reducible show wpAny _ _ (subscriptTail _ _ (Value.ref _) (Value.int _ _)) _ _ _); k_dflt (refine' last_N ?N ?m ?z ?_; (case N => k_asm); (case m => k_mem); (case z => assumption))))
local macro_rules | `(tactic| walk_at "call builtin:iter") => `(tactic| (k_here; (with_reducible show wpAny _ _ (call (Value.builtin _) [Value.ref _]) _ _ _); k_dflt (refine' iterL_N ?F ?N ?m ?_; (case F => k_asm); (case N => k_asm); (case m => k_mem)); intro q2 h' F' N' lt2))
local macro_rules | `(tactic| walk_at "binaryOp Add ref ref") => `(tactic| (k_here; (with_reducible show wpAny _ _ (binaryOp _ (Value.ref _) (Value.ref _)) _ _ _); (try simp only [slice_last] at *); k_dflt (refine' cat_N ?F ?N ?a ?b ?z ?_; (case F => k_asm); (case N => k_asm); (case a => k_mem); (case b => k_mem); (case z => (simp only [List.length_map, List.length_cons, List.length_nil]; omega))); intro D h' F' N' lt3))
/-- front = _parse_varint(iter(octets[:-1] + [and_(octets[-1], 63)])) -/
def FrontSpec (bs : List Stmt × Scope) : Prop := ∀ {prog : Program} {w : World} {dp un : Nat} {fr : Option (List Env)} {gd : Option (List Code)} {s : Shared} {g h : Heap} {tk : Nat} {p : Program} {loose : List Str} {mean : ExcName → Option Value} {mg mb : Str → Option Value}
  {L D : Addr} {m : Str → Option Value} {d : Nat → Nat} {ol : List (Int × Tok)} {x : Int} {tx : Tok} {nd : Nat} {ALL : List (Addr × Obj)} {Q : Flow → Shared → Prop}
  (_ : (hd.heap_39 w.params).In g) (_ : Top p loose mean mg mb g) (_ : dp + 20 < recursionLimit)
  (_ : ol.length ≤ 13) (_ : ∀ k q, ol[k]? = some q → q.1 / 64 % 2 = 1 ∧ q.1 % 64 = (d k : Int)) (_ : x % 64 = (d ol.length : Int))
  (_ : Fr g L h m) (_ : m (Str.ofString "octets") = some (.ref D))
  (_ : News g L h ALL) (_ : (D, lstO (ol.map (fun p => .int p.1 p.2) ++ [.int x tx]) nd) ∈ ALL)
  (_ : ∀ h' tk' t, Fr g L h' (fun z => if z = Str.ofString "front" then some (.int (numS d 0 (ol.length + 1) : Nat) t) else m z) → News g L h' ALL → Q .next { s with heap := h', toks := tk' }),
  wpAny (model prog w) ((Ar dp un fr gd).deeper (tellEnv bs.2 L)) (execs bs.1 (tellEnv bs.2 L)) Q (fun _ _ => False) { s with heap := h, toks := tk }
theorem front_st : FrontSpec (stT 10, tellDef.2) := by
  show FrontSpec ([_], Scope.mk _ _ _ _ _)
  unfold FrontSpec
  intro prog w dp un fr gd s g h tk p loose mean mg mb L D m d ol x tx nd ALL Q X T room ho hol hxd F hmo N0 hin C
  have z0 : (ol.map fun p => Value.int p.1 p.2).length = ol.length := List.length_map ..
  generalize hOL : (ol.map fun p => Value.int p.1 p.2) = OL at *
  have N : News g L h ((D, lstO (OL ++ [.int x tx]) nd) :: ALL) := List.forall_mem_cons.mpr ⟨N0 _ hin, N0⟩
  clear N0
  have z1 : OL.length ≤ 1000 := by omega
  have z2 : (OL ++ [Value.int x tx]).length ≤ 1000 := by rw [List.length_append]; show OL.length + 1 ≤ 1000; omega
  k_steps
  rename_i tA lA hhA FA llA NA D2 hh1 FF1 NN1 lt1 q2 hh2 F1 N1 lt2
  have hne : ∀ q ∈ ALL, q.1 ≠ _ ∧ q.1 ≠ _ := fun q hq => ⟨Nat.ne_of_lt (lt2 q (.tail _ (.tail _ (.tail _ (.tail _ hq))))), Nat.ne_of_lt (lt1 q (.tail _ (.tail _ (.tail _ hq))))⟩
  have N2 : News g L _ (_ :: _ :: ALL) := News.sub N1 (fun q hq => by
    rcases List.mem_cons.mp hq with rfl | hq
    · exact .head _
    · rcases List.mem_cons.mp hq with rfl | hq
      · exact .tail _ (.head _)
      · exact .tail _ (.tail _ (.tail _ (.tail _ (.tail _ hq)))))
  clear N1 lt1 lt2
  have hget : ∀ k q, ol[k]? = some q → (ol.map (·.1) ++ [x % 64]).getD k 0 = q.1 := fun k q hq => by
    obtain ⟨hk, e⟩ := List.getElem?_eq_some_iff.mp hq
    rw [List.getD_eq_getElem?_getD, List.getElem?_append_left (by rw [List.length_map]; exact hk), List.getElem?_map, hq]; rfl
  have hgl : (ol.map (·.1) ++ [x % 64]).getD ol.length 0 = x % 64 := by
    rw [List.getD_eq_getElem?_getD, List.getElem?_append_right (by rw [List.length_map]; exact Nat.le_refl _), List.length_map, Nat.sub_self]; rfl
  refine listV_N (d := d) (K := ol.length) (vals := fun k => (ol.map (·.1) ++ [x % 64]).getD k 0) (by assumption) (by assumption) (by show dp + 1 + 5 < _; omega) F1 N2 hne (fun k hk => ?_) ho (fun k hk => ?_) ?_ (fun k hk => ?_) fun h' tk' t F' N' => ?_
  · by_cases hlt : k < ol.length
    · obtain ⟨q, hq⟩ : ∃ q, ol[k]? = some q := ⟨_, List.getElem?_eq_getElem hlt⟩
      refine ⟨q.2, ?_⟩
      show _ = some (Value.int ((ol.map (·.1) ++ [x % 64]).getD k 0) q.2)
      rw [hget k q hq, List.getElem?_append_left (by omega), ← hOL, List.getElem?_map, hq]; rfl
    · have e : k = ol.length := by omega
      subst e
      refine ⟨tA, ?_⟩
      show _ = some (Value.int ((ol.map (·.1) ++ [x % 64]).getD ol.length 0) _)
      rw [hgl, List.getElem?_append_right (by omega), z0, Nat.sub_self, bitAnd_m6]; rfl
  · obtain ⟨q, hq⟩ : ∃ q, ol[k]? = some q := ⟨_, List.getElem?_eq_getElem hk⟩
    show (ol.map (·.1) ++ [x % 64]).getD k 0 / 64 % 2 = 1
    rw [hget k q hq]
    exact (hol k q hq).1
  · show (ol.map (·.1) ++ [x % 64]).getD ol.length 0 / 64 % 2 = 0
    rw [hgl]; omega
  · show (ol.map (·.1) ++ [x % 64]).getD k 0 % 64 = _
    by_cases hlt : k < ol.length
    · obtain ⟨q, hq⟩ : ∃ q, ol[k]? = some q := ⟨_, List.getElem?_eq_getElem hlt⟩
      rw [hget k q hq]
      exact (hol k q hq).2
    · have e : k = ol.length := by omega
      subst e
      rw [hgl]; omega
  · clear F1 N2
    refine wpAny_storeName_local rfl F'.ns (fun h3 hn3 hs3 => ?_)
    exact wpAny_execs_nil (C h3 _ t (F'.set hn3 hs3) (N'.set hs3))
end
section
set_option maxHeartbeats 4000000
open PySem.Calls PySem.Builtin
local macro_rules | `(tactic| walk_at "nm") => `(tactic| walk_at "mq12")
local macro_rules | `(tactic| walk_at "eval Name") => `(tactic| walk_at "mq13")
/-- told = [whole, front, _parse_varint(ring), _parse_varint(ring), lexer.push_token('')] -/
def ListSpec (bs : List Stmt × Scope) : Prop := ∀ {prog : Program} {w : World} {dp un : Nat} {fr : Option (List Env)} {gd : Option (List Code)} {s : Shared} {g h : Heap} {tk : Nat} {p : Program} {loose : List Str} {mean : ExcName → Option Value} {mg mb : Str → Option Value}
  {S : Sys} {G : Rg} {L : Addr} {m : Str → Option Value} {ocl ocr : Obj} {v1 v2 : Int} {u1 u2 : Tok} {fs : List Nat} {vl : List (List Nat × Tok)} {a K n i : Nat} {t5 : Tok} {kl : Int} {REST : List (Addr × Obj)} {Q : Flow → Shared → Prop}
  (_ : (hd.heap_39 w.params).In g) (_ : Top p loose mean mg mb g) (_ : S.Good) (_ : G.Good S.x) (_ : dp + 20 < recursionLimit)
  (_ : vl.map (·.1) = wordsOf fs) (_ : 0 < fs.length) (_ : fs.length ≤ 7) (_ : ∀ f ∈ fs, f < 63) (_ : a % fs.length + K + 1 = fs.length)
  (_ : ocl.data = .cell (some (.ref S.x))) (_ : ocr.data = .cell (some (.ref G.ci)))
  (_ : Fr g L h m) (_ : m (Str.ofString "whole") = some (.int v1 u1)) (_ : m (Str.ofString "front") = some (.int v2 u2))
  (_ : News g L h (S.pre w.params kl t5 ((rot a vl).map strW) n i ++ REST)) (_ : Off S REST) (_ : (L + 1, ocl) ∈ REST) (_ : (L + 1 + 1, ocr) ∈ REST) (_ : ∀ q ∈ G.pre, q ∈ REST)
  (_ : ∀ h' tk' t3 t4 te n' D, Fr g L h' (fun z => if z = Str.ofString "told" then some (.ref D) else m z) →
     News g L h' (S.pre w.params kl t5 (vl.map strW ++ [.str (Str.ofString "") te]) n' i ++ ((D, lstO [.int v1 u1, .int v2 u2, .int (numS (dig fs) a (K + 1) : Nat) t3, .int (numS (dig fs) 0 fs.length : Nat) t4, .none] 0) :: REST)) → (∀ q ∈ S.pre w.params kl t5 (vl.map strW ++ [.str (Str.ofString "") te]) n' i ++ REST, q.1 ≠ D) → Q .next { s with heap := h', toks := tk' }),
  wpAny (model prog w) ((Ar dp un fr gd).deeper (tellEnv bs.2 L)) (execs bs.1 (tellEnv bs.2 L)) Q (fun _ _ => False) { s with heap := h, toks := tk }
theorem dig_mod (fs : List Nat) {a : Nat} (ha : a % fs.length = 0) (k : Nat) : dig fs (a + k) = dig fs (0 + k) := by
  unfold dig
  rw [Nat.zero_add, ← Nat.mod_add_mod, ha, Nat.zero_add]
theorem list_st : ListSpec (stT 11, tellDef.2) := by
  show ListSpec ([_], Scope.mk _ _ _ _ _)
  unfold ListSpec
  intro prog w dp un fr gd s g h tk p loose mean mg mb S G L m ocl ocr v1 v2 u1 u2 fs vl a K n i t5 kl REST Q X T hS hG room hv h1 h7 hf hK hocl hocr F hm1 hm2 N0 hR hc1 hc2 hg C
  have hvl : vl.length = fs.length := by
    have := congrArg List.length hv
    rw [List.length_map, wordsOf_len] at this
    exact this
  have NV : News g L h [(L + 1 + 1, ocr)] := fun q hq => by
    rw [List.mem_singleton.mp hq]
    exact N0 _ (List.mem_append_right _ hc2)
  have NH : Hide (News g L h _) := N0
  clear N0
  k_steps
  refine ringV_N X T hS hG (by show dp + 1 + 5 < _; omega) hv h1 h7 hf hK F NH hg (fun q hq => (hR q hq).2.2) fun h2 tk2 t3 n2 F2 N2 => ?_
  clear F NH NV
  have NV : News g L h2 [(L + 1 + 1, ocr)] := fun q hq => by
    rw [List.mem_singleton.mp hq]
    exact N2 _ (List.mem_append_right _ hc2)
  have NH : Hide (News g L h2 _) := N2
  clear N2
  k_steps
  have ha2 : (a + K + 1) % fs.length = 0 := by
    rw [show a + K + 1 = a + (K + 1) by omega, ← Nat.mod_add_mod, ← Nat.add_assoc, hK, Nat.mod_self]
  refine ringV_N (a := a + K + 1) (K := fs.length - 1) X T hS hG (by show dp + 1 + 5 < _; omega) hv h1 h7 hf (by omega) F2 NH hg (fun q hq => (hR q hq).2.2) fun h3 tk3 t4 n3 F3 N3 => ?_
  clear F2 NH NV
  have e0 : fs.length - 1 + 1 = fs.length := by omega
  have er : rot (a + K + 1 + (fs.length - 1) + 1) vl = vl := rot_zero vl (by omega) (by rw [hvl, Nat.add_assoc, e0, Nat.add_mod_right]; exact ha2)
  rw [er] at N3
  have NV : News g L h3 [(L + 1, ocl), (S.x, instObj 52 S.dx), (S.dx, lexD w.params S.t1 S.t2 S.t3 S.t4 t5 S.t6 kl S.stm S.pb)] := fun q hq => N3 q (by
    simp only [List.mem_cons, List.not_mem_nil, or_false] at hq
    rcases hq with rfl | rfl | rfl
    · exact List.mem_append_right _ hc1
    · exact List.mem_append_left _ (.head _)
    · exact List.mem_append_left _ (.tail _ (.head _)))
  have NH : Hide (News g L h3 _) := N3
  clear N3
  k_steps
  refine pushS_N X T hS (by show dp + 1 < _; omega) F3 NH (fun q hq => (hR q hq).2.2) (by rw [List.length_map]; omega) fun h4 tk4 F4 N4 => ?_
  clear F3 NH NV
  generalize hA : S.pre w.params kl t5 _ _ i ++ REST = ALL at N4
  k_steps
  rename_i D hA1 l1 hB F5 N5
  subst hA
  have en : numS (dig fs) (a + K + 1) (fs.length - 1 + 1) = numS (dig fs) 0 fs.length := by
    rw [e0]; exact numS_congr fun k _ => dig_mod fs ha2 k
  rw [en] at N5
  exact C hB _ t3 t4 _ _ D F5 (News.sub N5 mem_mid) fun q hq => Nat.ne_of_lt (l1 q hq)
end
section
set_option maxHeartbeats 4000000
open PySem.Calls PySem.Builtin
local macro_rules | `(tactic| walk_at "nm") => `(tactic| walk_at "mq12")
local macro_rules | `(tactic| walk_at "eval Name") => `(tactic| walk_at "mq13")
local macro_rules | `(tactic| walk_at "CompSrc") => `(tactic| (k_here; refine hide_intro ?_))
local macro_rules | `(tactic| walk_at "call builtin:len") => `(tactic| walk_at "mq9")
local macro_rules | `(tactic| walk_at "call builtin:list.append") => `(tactic| (k_here; refine hide_intro ?_))
/-- told.append([lexer.get_token() for step in range(len(words) + 3)]) -/
def AppSpec (bs : List Stmt × Scope) : Prop := ∀ {prog : Program} {w : World} {dp un : Nat} {fr : Option (List Env)} {gd : Option (List Code)} {s : Shared} {g h : Heap} {tk : Nat} {p : Program} {loose : List Str} {mean : ExcName → Option Value} {mg mb : Str → Option Value}
  {S : Sys} {L D wa : Addr} {m : Str → Option Value} {ocl : Obj} {wl vl : List (List Nat × Tok)} {items : List Value} {nw nd n i : Nat} {te t5 : Tok} {kl : Int} {rem : List Nat} {REST : List (Addr × Obj)} {Q : Flow → Shared → Prop}
  (_ : (hd.heap_39 w.params).In g) (_ : Top p loose mean mg mb g) (_ : S.Good) (_ : dp + 20 < recursionLimit)
  (_ : wl.length = vl.length) (_ : vl.length ≤ 7) (_ : items.length ≤ 10)
  (_ : ocl.data = .cell (some (.ref S.x))) (_ : at_ S.txt i rem) (_ : rem.length ≤ 1000) (_ : getTok rem = ([101, 110, 100], []))
  (_ : Fr g L h m) (_ : m (Str.ofString "told") = some (.ref D)) (_ : m (Str.ofString "words") = some (.ref wa))
  (_ : News g L h (S.pre w.params kl t5 (vl.map strW ++ [.str (Str.ofString "") te]) n i ++ ((D, lstO items nd) :: REST))) (_ : Off S REST) (_ : (L + 1, ocl) ∈ REST) (_ : (wa, lstO (wl.map strW) nw) ∈ REST)
  (_ : ∀ q ∈ S.pre w.params kl t5 (vl.map strW ++ [.str (Str.ofString "") te]) n i ++ REST, q.1 ≠ D)
  (_ : ∀ h' tk' t5' tb tc n' i' E ne, Fr g L h' m →
     News g L h' (S.pre w.params (kl + nlc rem) t5' [] n' i' ++ ((D, lstO (items ++ [.ref E]) (nd + 1)) :: (E, lstO (vl.map strW ++ [.str (Str.ofString "") te, .str (Str.ofString "end") tb, .str (Str.ofString "") tc]) ne) :: REST)) → (∀ q ∈ S.pre w.params (kl + nlc rem) t5' [] n' i' ++ ((D, lstO items nd) :: REST), q.1 ≠ E) → Q .next { s with heap := h', toks := tk' }),
  wpAny (model prog w) ((Ar dp un fr gd).deeper (tellEnv bs.2 L)) (execs bs.1 (tellEnv bs.2 L)) Q (fun _ _ => False) { s with heap := h, toks := tk }
theorem app_st : AppSpec (stT 12, tellDef.2) := by
  show AppSpec ([_], Scope.mk _ _ _ _ _)
  unfold AppSpec
  intro prog w dp un fr gd s g h tk p loose mean mg mb S L D wa m ocl wl vl items nw nd n i te t5 kl rem REST Q X T G room hwl h7 hit hocl hat hrl hgt F hm1 hm2 N0 hR hcell hwa hne C
  have hD : Off S ((D, lstO items nd) :: REST) := .cons (Off.new (q := (D, lstO items nd)) hne) hR
  have N : News g L h ((D, lstO items nd) :: (wa, lstO (wl.map strW) nw) :: (S.pre w.params kl t5 (vl.map strW ++ [.str (Str.ofString "") te]) n i ++ ((D, lstO items nd) :: REST))) :=
    List.forall_mem_cons.mpr ⟨N0 _ (List.mem_append_right _ (.head _)), List.forall_mem_cons.mpr ⟨N0 _ (List.mem_append_right _ (.tail _ hwa)), N0⟩⟩
  clear N0
  have z1 : (wl.map strW).length ≤ 1000 := by rw [List.length_map]; omega
  have z2 : wl.length ≤ 1000 := by omega
  have z3 : items.length ≤ 1000 := by omega
  generalize hA : S.pre w.params kl t5 (vl.map strW ++ [.str (Str.ofString "") te]) n i ++ ((D, lstO items nd) :: REST) = ALL at *
  k_steps
  rename IsRange _ _ _ _ _ _ _ _ => hrg
  rename Fr _ _ _ _ => F2
  rename_i N2 hkp
  clear hkp
  subst hA
  replace N2 := News.sub (a := S.pre w.params kl t5 (vl.map strW ++ [.str (Str.ofString "") te]) n i ++ ((D, lstO items nd) :: REST)) N2 (fun q hq => .tail _ (.tail _ hq))
  unfold Hide
  rw [show ((wl.length : Nat) : Int) + 3 = ((vl.length + 3 : Nat) : Int) by omega] at hrg
  have hrs := range_small (k := vl.length + 3) (by omega)
  k_dflt (refine LCg.CompSrc.range (n := vl.length + 3) rfl F2 N2 hrg hrs.1 hrs.2 (Nat.le_trans (by omega : vl.length + 3 ≤ 10) (by decide)) fun g' => ?_)
  have hZ : (vl.map strW ++ [Value.str (Str.ofString "") te]).length = vl.length + 1 := by simp
  generalize hZe : (vl.map strW ++ [Value.str (Str.ofString "") te]) = Z at *
  refine CompRest.ind (n := vl.length + 3) (fun j ys news => ∃ (kl' : Int) (t5' : Tok) (ws : List Value) (n' i' : Nat), news = S.pre w.params kl' t5' ws n' i' ++ ((D, lstO items nd) :: REST) ∧
     ((j ≤ vl.length + 1 ∧ kl' = kl ∧ i' = i ∧ ws = Z.drop j ∧ ys = Z.take j) ∨ (j = vl.length + 2 ∧ kl' = kl + nlc rem ∧ at_ S.txt i' [] ∧ ws = [] ∧ ∃ tb, ys = Z ++ [.str (Str.ofString "end") tb]) ∨
      (j = vl.length + 3 ∧ kl' = kl + nlc rem ∧ ws = [] ∧ ∃ tb tc, ys = Z ++ [.str (Str.ofString "end") tb, .str (Str.ofString "") tc]))) ?_ ?_ (vl.length + 3) 0 [] _ (by omega) ⟨kl, t5, Z, n, i, rfl, .inl ⟨by omega, rfl, rfl, rfl, rfl⟩⟩
  · rintro j ys news hj ⟨kl', t5', ws, n', i', rfl, hJ⟩ v I oI C2 oC E m₂ h2 tk2 hP hN hx F2 N2 o hn
    have N3 : News g L h2 ((L + 1, ocl) :: (S.x, instObj 52 S.dx) :: (S.dx, lexD w.params S.t1 S.t2 S.t3 S.t4 t5' S.t6 kl' S.stm S.pb) :: []) := fun q hq => N2 q (by
      simp only [List.mem_cons, List.not_mem_nil, or_false] at hq
      rcases hq with rfl | rfl | rfl
      · exact .tail _ (.tail _ (.tail _ (List.mem_append_right _ (.tail _ hcell))))
      · exact .tail _ (.tail _ (.tail _ (List.mem_append_left _ (.head _))))
      · exact .tail _ (.tail _ (.tail _ (List.mem_append_left _ (.tail _ (.head _))))))
    have NH : Hide (News g L h2 _) := News.sub N2 comp_in
    clear N2
    have hrest := comp_off (a := oI) (b := oC) (c := LCg.lst ys) o hD
    k_steps
    rcases hJ with ⟨hj1, rfl, rfl, rfl, rfl⟩ | ⟨rfl, rfl, hat2, rfl, tb, rfl⟩ | ⟨rfl, _⟩
    · by_cases hlt : j < vl.length + 1
      · have hjl : j < Z.length := by omega
        have hdr : Z.drop j = Z[j] :: Z.drop (j + 1) := List.drop_eq_getElem_cons hjl
        have N4 : News g L h2 (S.pre w.params kl' t5' (Z[j] :: Z.drop (j + 1)) n' i' ++ _) := hdr ▸ NH
        refine popS_N X T G (by show dp + 1 < _; omega) F2 N4 (fun q hq => (hrest q hq).2.2) (by rw [← hdr, List.length_drop]; omega) fun h3 tk3 F3 N5 => ?_
        refine LCg.CompEnd.intro F3 N5 (S.pre w.params kl' t5' (Z.drop (j + 1)) (n' + 1) i' ++ ((D, lstO items nd) :: REST)) comp_out (off3_pre o) trivial ⟨_, _, _, _, _, rfl, .inl ⟨by omega, rfl, rfl, rfl, ?_⟩⟩
        rw [List.take_succ_eq_append_getElem hjl]
      · have hjl : j = vl.length + 1 := by omega
        subst hjl
        have hdr : Z.drop (vl.length + 1) = [] := List.drop_eq_nil_iff.mpr (by omega)
        have htk : Z.take (vl.length + 1) = Z := List.take_of_length_le (by omega)
        have N4 : News g L h2 (S.pre w.params kl' t5' [] n' i' ++ _) := hdr ▸ NH
        refine scan_N X T G (by show dp + 1 + 3 < _; omega) F2 N4 (fun q hq => ⟨(hrest q hq).1, (hrest q hq).2.1⟩) hat hrl fun h3 tk3 t t5'' i'' hat' F3 N5 => ?_
        rw [hgt] at hat' N5
        rw [hgt]
        rw [show kl' + nlc rem - nlc [] = kl' + nlc rem by rw [show nlc [] = 0 from rfl]; omega] at N5
        refine LCg.CompEnd.intro F3 N5 (S.pre w.params (kl' + nlc rem) t5'' [] n' i'' ++ ((D, lstO items nd) :: REST)) comp_out (off3_pre o) trivial ⟨_, _, _, _, _, rfl, .inr (.inl ⟨rfl, rfl, hat', rfl, t, ?_⟩)⟩
        rw [htk]; rfl
    · refine scan_N X T G (by show dp + 1 + 3 < _; omega) F2 NH (fun q hq => ⟨(hrest q hq).1, (hrest q hq).2.1⟩) hat2 (by decide) fun h3 tk3 t t5'' i'' hat' F3 N5 => ?_
      rw [tok_nil] at hat' N5
      rw [tok_nil]
      rw [show kl + nlc rem + nlc [] - nlc [] = kl + nlc rem by omega] at N5
      refine LCg.CompEnd.intro F3 N5 (S.pre w.params (kl + nlc rem) t5'' [] n' i'' ++ ((D, lstO items nd) :: REST)) comp_out (off3_pre o) trivial ⟨_, _, _, _, _, rfl, .inr (.inr ⟨rfl, rfl, rfl, tb, t, ?_⟩)⟩
      rw [List.append_assoc]; rfl
    · omega
  · rintro ys news ⟨kl', t5', ws, n', i', rfl, hJ⟩ E h2 tk2 F3 N3 o1
    rcases hJ with ⟨hj1, _⟩ | ⟨hj1, _⟩ | ⟨_, rfl, rfl, tb, tc, rfl⟩
    · omega
    · omega
    clear F2 N2
    have hED : ∀ q ∈ S.pre w.params (kl + nlc rem) t5' [] n' i' ++ ((D, lstO items nd) :: REST), q.1 ≠ E := off1_ne o1
    have hne2 : ∀ q ∈ S.pre w.params (kl + nlc rem) t5' [] n' i' ++ REST, q.1 ≠ D := fun q hq => by
      rcases List.mem_append.mp hq with hq | hq
      · obtain ⟨ob, hm⟩ := Sys.addr_pre w.params kl t5 Z n i (Sys.pre_addr hq)
        exact hne (q.1, ob) (List.mem_append_left _ hm)
      · exact hne q (List.mem_append_right _ hq)
    have NH : Hide (News g L h2 ((D, lstO items nd) :: (E, LCg.lst (Z ++ [Value.str (Str.ofString "end") tb, Value.str (Str.ofString "") tc])) :: (S.pre w.params (kl + nlc rem) t5' [] n' i' ++ REST))) := News.sub N3 (fun q hq => by
      simp only [List.mem_append, List.mem_cons] at hq ⊢
      grind)
    clear N3
    have NV : News g L h2 [] := fun _ hq => nomatch hq
    k_steps
    unfold Hide
    have hneE : E ≠ D := fun e => hED (D, lstO items nd) (List.mem_append_right _ (.head _)) e.symm
    have U : Upd D (listOf items.toArray nd) (listOf (items.toArray.push (.ref E)) (nd + 1)) ((D, lstO items nd) :: (E, LCg.lst (Z ++ [Value.str (Str.ofString "end") tb, Value.str (Str.ofString "") tc])) :: (S.pre w.params (kl + nlc rem) t5' [] n' i' ++ REST)) _ := .head (fun q hq => by
      rcases List.mem_cons.mp hq with rfl | hq
      · exact hneE
      · exact hne2 q hq)
    refine append_K F3 NH U (fun h4 F4 N4 => ?_) (by simp only [List.size_toArray]; exact Nat.le_trans z3 (by decide))
    clear NH NV
    have NH : Hide (News g L h4 _) := N4
    clear N4
    have NV : News g L h4 [] := fun _ hq => nomatch hq
    k_steps
    have e1 : listOf (items.toArray.push (.ref E)) (nd + 1) = lstO (items ++ [.ref E]) (nd + 1) := by
      unfold lstO W.listOf
      congr 2
      simp
    have e2 : Z ++ [Value.str (Str.ofString "end") tb, Value.str (Str.ofString "") tc] = vl.map strW ++ [.str (Str.ofString "") te, .str (Str.ofString "end") tb, .str (Str.ofString "") tc] := by
      rw [← hZe, List.append_assoc]; rfl
    have N5 : News g L h4 (S.pre w.params (kl + nlc rem) t5' [] n' i' ++ ((D, lstO (items ++ [.ref E]) (nd + 1)) :: (E, LCg.lst (Z ++ [Value.str (Str.ofString "end") tb, Value.str (Str.ofString "") tc])) :: REST)) := e1 ▸ News.sub NH (fun q hq => by
      simp only [List.mem_append, List.mem_cons] at hq ⊢
      grind)
    rw [e2] at N5
    exact C h4 _ t5' tb tc n' i' E _ F4 N5 hED
end
section
set_option maxHeartbeats 4000000
open PySem.Calls PySem.Builtin
local macro_rules | `(tactic| walk_at "nm") => `(tactic| walk_at "mq12")
local macro_rules | `(tactic| walk_at "eval Name") => `(tactic| walk_at "mq13")
local macro_rules | `(tactic| walk_at "call builtin:list.append") => `(tactic| (k_here; refine hide_intro ?_))
theorem cnt_nlc : ∀ l : List Nat, PyProof.Rows.cnt 10 l = nlc l
  | [] => rfl
  | c :: r => by
    rw [cnt_cons, cnt_nlc r]
    unfold nlc
    rw [List.count_cons]
    by_cases e : c = 10
    · subst e; simp; omega
    · simp [e]
theorem count_nlc (l : List Nat) : Txt.count ⟨l.toArray⟩ (Str.ofString "\n") = nlc l := by
  have := count_cnt ⟨l.toArray⟩ 10
  rw [cnt_nlc] at this
  show Txt.count ⟨l.toArray⟩ ⟨#[10]⟩ = nlc l
  simpa using this
/-- told.append(lexer.lineno - text.count('\n')) -/
def LineSpec (bs : List Stmt × Scope) : Prop := ∀ {prog : Program} {w : World} {dp un : Nat} {fr : Option (List Env)} {gd : Option (List Code)} {s : Shared} {g h : Heap} {tk : Nat} {p : Program} {loose : List Str} {mean : ExcName → Option Value} {mg mb : Str → Option Value}
  {S : Sys} {L D : Addr} {m : Str → Option Value} {ocl : Obj} {ws items : List Value} {nd n i : Nat} {tt t5 : Tok} {kl : Int} {T0 : List Nat} {REST : List (Addr × Obj)} {Q : Flow → Shared → Prop}
  (_ : (hd.heap_39 w.params).In g) (_ : Top p loose mean mg mb g) (_ : S.Good) (_ : dp + 20 < recursionLimit)
  (_ : items.length ≤ 10) (_ : ocl.data = .cell (some (.ref S.x))) (_ : T0.length ≤ 1000) (_ : kl = 1 + nlc T0)
  (_ : Fr g L h m) (_ : m (Str.ofString "told") = some (.ref D)) (_ : m (Str.ofString "text") = some (strV T0 tt))
  (_ : News g L h (S.pre w.params kl t5 ws n i ++ ((D, lstO items nd) :: REST))) (_ : (L + 1, ocl) ∈ REST)
  (_ : ∀ q ∈ S.pre w.params kl t5 ws n i ++ REST, q.1 ≠ D)
  (_ : ∀ h' tk' tl, Fr g L h' m →
     News g L h' (S.pre w.params kl t5 ws n i ++ ((D, lstO (items ++ [.int 1 tl]) (nd + 1)) :: REST)) → Q .next { s with heap := h', toks := tk' }),
  wpAny (model prog w) ((Ar dp un fr gd).deeper (tellEnv bs.2 L)) (execs bs.1 (tellEnv bs.2 L)) Q (fun _ _ => False) { s with heap := h, toks := tk }
theorem line_st : LineSpec (stT 13, tellDef.2) := by
  show LineSpec ([_], Scope.mk _ _ _ _ _)
  unfold LineSpec
  intro prog w dp un fr gd s g h tk p loose mean mg mb S L D m ocl ws items nd n i tt t5 kl T0 REST Q X T G room hit hocl hT0 hkl F hm1 hm2 N0 hcell hne C
  have N : News g L h [(D, lstO items nd), (L + 1, ocl), (S.x, instObj 52 S.dx), (S.dx, lexD w.params S.t1 S.t2 S.t3 S.t4 t5 S.t6 kl S.stm S.pb)] := fun q hq => N0 q (by
    simp only [List.mem_cons, List.not_mem_nil, or_false] at hq
    rcases hq with rfl | rfl | rfl | rfl
    · exact List.mem_append_right _ (.head _)
    · exact List.mem_append_right _ (.tail _ hcell)
    · exact List.mem_append_left _ (.head _)
    · exact List.mem_append_left _ (.tail _ (.head _)))
  have NH : Hide (News g L h _) := N0
  clear N0
  k_steps
  unfold Hide
  rw [count_nlc, show kl - nlc T0 = 1 by omega]
  have N2 : News g L h ((D, lstO items nd) :: (S.pre w.params kl t5 ws n i ++ REST)) := News.sub NH mem_unmid
  have U : Upd D (listOf items.toArray nd) (listOf (items.toArray.push (.int 1 (tk + 1 + 1 + 1))) (nd + 1)) ((D, lstO items nd) :: (S.pre w.params kl t5 ws n i ++ REST)) _ := .head hne
  refine append_K F N2 U (fun h4 F4 N4 => ?_) (by simp only [List.size_toArray]; exact Nat.le_trans hit (by decide))
  clear NH N N2
  have NH : Hide (News g L h4 _) := N4
  clear N4
  have NV : News g L h4 [] := fun _ hq => nomatch hq
  k_steps
  have e1 : ∀ v : Value, listOf (items.toArray.push v) (nd + 1) = lstO (items ++ [v]) (nd + 1) := fun v => by
    unfold lstO W.listOf
    congr 2
    simp
  have N5 : News g L h4 (S.pre w.params kl t5 ws n i ++ ((D, lstO (items ++ [.int 1 (tk + 1 + 1 + 1)]) (nd + 1)) :: REST)) := e1 _ ▸ News.sub NH mem_mid
  exact C h4 _ _ F4 N5
/-- lexer.push_token('+') -/
def PlusSpec (bs : List Stmt × Scope) : Prop := ∀ {prog : Program} {w : World} {dp un : Nat} {fr : Option (List Env)} {gd : Option (List Code)} {s : Shared} {g h : Heap} {tk : Nat} {p : Program} {loose : List Str} {mean : ExcName → Option Value} {mg mb : Str → Option Value}
  {S : Sys} {L : Addr} {m : Str → Option Value} {ocl : Obj} {ws : List Value} {n i : Nat} {t5 : Tok} {kl : Int} {REST : List (Addr × Obj)} {Q : Flow → Shared → Prop}
  (_ : (hd.heap_39 w.params).In g) (_ : Top p loose mean mg mb g) (_ : S.Good) (_ : dp + 20 < recursionLimit)
  (_ : ocl.data = .cell (some (.ref S.x))) (_ : ws.length ≤ 1000)
  (_ : Fr g L h m)
  (_ : News g L h (S.pre w.params kl t5 ws n i ++ REST)) (_ : Off S REST) (_ : (L + 1, ocl) ∈ REST)
  (_ : ∀ h' tk', Fr g L h' m → News g L h' REST → Q .next { s with heap := h', toks := tk' }),
  wpAny (model prog w) ((Ar dp un fr gd).deeper (tellEnv bs.2 L)) (execs bs.1 (tellEnv bs.2 L)) Q (fun _ _ => False) { s with heap := h, toks := tk }
theorem plus_st : PlusSpec (stT 14, tellDef.2) := by
  show PlusSpec ([_], Scope.mk _ _ _ _ _)
  unfold PlusSpec
  intro prog w dp un fr gd s g h tk p loose mean mg mb S L m ocl ws n i t5 kl REST Q X T G room hocl hws F N0 hR hcell C
  have NV : News g L h [(L + 1, ocl), (S.x, instObj 52 S.dx), (S.dx, lexD w.params S.t1 S.t2 S.t3 S.t4 t5 S.t6 kl S.stm S.pb)] := fun q hq => N0 q (by
    simp only [List.mem_cons, List.not_mem_nil, or_false] at hq
    rcases hq with rfl | rfl | rfl
    · exact List.mem_append_right _ hcell
    · exact List.mem_append_left _ (.head _)
    · exact List.mem_append_left _ (.tail _ (.head _)))
  have NH : Hide (News g L h _) := N0
  clear N0
  k_steps
  refine pushS_N X T G (by show dp + 1 < _; omega) F NH (fun q hq => (hR q hq).2.2) hws fun h4 tk4 F4 N4 => ?_
  clear NH NV
  have NH : Hide (News g L h4 _) := N4
  clear N4
  have NV : News g L h4 [] := fun _ hq => nomatch hq
  k_steps
  exact C h4 _ F4 (News.sub NH fun q hq => List.mem_append_right _ hq)
/-- return told -/
def RetSpec (bs : List Stmt × Scope) : Prop := ∀ {prog : Program} {w : World} {A : Around} {s : Shared} {g : Heap}
  {L D : Addr} {m : Str → Option Value} {Q : Flow → Shared → Prop}
  (_ : (hd.heap_39 w.params).In g) (_ : Fr g L s.heap m) (_ : m (Str.ofString "told") = some (.ref D)) (_ : ∀ tk, Q (.ret (.ref D)) { s with toks := tk }),
  wpAny (model prog w) A (execs bs.1 (tellEnv bs.2 L)) Q (fun _ _ => False) s
theorem ret_st : RetSpec (stT 15, tellDef.2) := by
  show RetSpec ([_], Scope.mk _ _ _ _ _)
  unfold RetSpec
  intro prog w A s g L D m Q X F hm C
  have NV : News g L s.heap [] := fun _ hq => nomatch hq
  k_steps
  exact C _
end
section
set_option maxHeartbeats 4000000
open PySem.Calls PySem.Builtin
local macro_rules | `(tactic| walk_at "nm") => `(tactic| walk_at "mq12")
theorem body_at (j : Nat) : tellDef.1.drop j = stT j ++ tellDef.1.drop (j + 1) := by
  unfold stT
  rw [← List.drop_drop, List.take_append_drop]
theorem body_end : tellDef.1.drop 16 = [] := rfl
theorem txt_len {wl : List (List Nat × Tok)} (h7 : wl.length ≤ 7) (hw : Words (wl.map (·.1))) : (txtOf wl).length ≤ 1000 := by
  have := rest_len h7 hw (Nat.zero_le _)
  rw [List.drop_zero, ← text_eq, List.length_map] at this
  exact this
theorem words_ok {fs : List Nat} (hf : ∀ f ∈ fs, f < 63) : Words (wordsOf fs) := fun i hi => by
  rw [wordsOf_len] at hi
  have hd : dig fs i < 63 := dig_lt (by omega) hf i
  have hm : i % fs.length = i := Nat.mod_eq_of_lt hi
  refine ⟨oct fs i, oct_lt hd, ?_⟩
  unfold wordsOf
  rw [List.getD_eq_getElem?_getD, List.getElem?_map, List.getElem?_range hi]
  show wordAt fs.length i (fs.getD i 0) = _
  unfold wordAt oct dig
  rw [hm]
theorem snoc_of {α : Type} {l : List α} (h : 1 ≤ l.length) : ∃ a x, l = a ++ [x] := by
  rcases List.eq_nil_or_concat l with rfl | ⟨a, x, e⟩
  · exact absurd h (Nat.not_succ_le_zero 0)
  · exact ⟨a, x, by rw [e, List.concat_eq_append]⟩
theorem or64 (o : Nat) : Builtin.bitOr (o : Int) 64 / 64 % 2 = 1 ∧ Builtin.bitOr (o : Int) 64 % 64 = ((o % 64 : Nat) : Int) := by
  rw [or_eq, and_64]
  omega
/-- what `_law_told` hands back -/
abbrev toldL (fs : List Nat) (sz : Nat) (t1 t2 t3 t4 t5 : Tok) (E : Addr) : List Value :=
  [.int (numS (dig fs) 0 fs.length : Nat) t1, .int (numS (dig fs) 0 sz : Nat) t2, .int (numS (dig fs) sz (fs.length - sz % fs.length) : Nat) t3, .int (numS (dig fs) 0 fs.length : Nat) t4, .none, .ref E, .int 1 t5]
abbrev toldW (vl : List (List Nat × Tok)) (ta tb tc : Tok) : List Value := vl.map strW ++ [.str (Str.ofString "") ta, .str (Str.ofString "end") tb, .str (Str.ofString "") tc]
theorem tell {prog : Program} {w : World} {dp un : Nat} {fr : Option (List Env)} {gd : Option (List Code)} {s : Shared} {g h : Heap} {tk : Nat} {p : Program} {loose : List Str} {mean : ExcName → Option Value} {mg mb : Str → Option Value}
  {S : Sys} {L wa : Addr} {m : Str → Option Value} {ocl ocr : Obj} {fs : List Nat} {wl : List (List Nat × Tok)} {nw sz : Nat} {tx tz : Tok} {t5 : Tok} {pre126 R0 : List (Addr × Obj)} {Q : Flow → Shared → Prop}
  (X : (hd.heap_39 w.params).In g) (T : Top p loose mean mg mb g) (hS : S.Good) (room : dp + 20 < recursionLimit)
  (hwl : wl.map (·.1) = wordsOf fs) (h1 : 0 < fs.length) (h7 : fs.length ≤ 7) (hf : ∀ f ∈ fs, f < 63) (hs1 : 1 ≤ sz) (hs2 : sz ≤ 14)
  (htx : S.txt = ⟨(txtOf wl).toArray⟩) (hocl : ocl.data = .cell (some (.ref S.x))) (hocr : ocr.data = .cell none) (ringOk : RingOk prog w S.x pre126)
  (F : Fr g L h m) (hm1 : m (Str.ofString "words") = some (.ref wa)) (hm2 : m (Str.ofString "size") = some (.int sz tz)) (hm3 : m (Str.ofString "text") = some (strV (txtOf wl) tx)) (hm4 : m (Str.ofString "word") = none)
  (N : News g L h (S.pre w.params 1 t5 [] 0 0 ++ ((L + 1 + 1, ocr) :: (pre126 ++ R0)))) (hR : Off S ((L + 1 + 1, ocr) :: (pre126 ++ R0))) (hc1 : (L + 1, ocl) ∈ R0) (hwa : (wa, lstO (wl.map strW) nw) ∈ R0)
  (ap1 : ∀ a ∈ S.addrs, ∀ r ∈ pre126, a ≠ r.1) (ap2 : ∀ q ∈ (L + 1 + 1, ocr) :: R0, ∀ r ∈ pre126, q.1 ≠ r.1) (ap3 : ∀ a ∈ S.addrs, a ≠ L + 1 + 1 ∧ @Ne Nat a 126) (ap4 : ∀ q ∈ R0, q.1 ≠ L + 1 + 1) (ap5 : @Ne Nat 126 (L + 1 + 1))
  (C : ∀ h' tk' m' D E nd ne t1 t2 t3 t4 t5 ta tb tc (vl : List (List Nat × Tok)) (G : Rg), vl.map (·.1) = wordsOf fs → G.Good S.x → Fr g L h' m' →
    News g L h' ((D, lstO (toldL fs sz t1 t2 t3 t4 t5 E) nd) :: (E, lstO (toldW vl ta tb tc) ne) :: (126, ringTab G.c') :: (G.c', G.ocd) :: R0) → Q (.ret (.ref D)) { s with heap := h', toks := tk' }) :
  wpAny (model prog w) ((Ar dp un fr gd).deeper (tellEnv tellDef.2 L)) (execs (tellDef.1.drop 5) (tellEnv tellDef.2 L)) Q (fun _ _ => False) { s with heap := h, toks := tk } := by
  have hll : wl.length = fs.length := by
    have := congrArg List.length hwl
    rw [List.length_map, wordsOf_len] at this
    exact this
  have hww : Words (wl.map (·.1)) := hwl ▸ words_ok hf
  rw [body_at 5]
  refine execs_app _ _ (found_st X T hS room (by omega) hww htx hocl F hm1 N hR (.tail _ (List.mem_append_right _ hc1)) (.tail _ (List.mem_append_right _ hwa)) fun h' tk' t5' i' Df ndf vl hvl0 hat F N hneF => ?_)
  show wpAny _ _ (execs (tellDef.1.drop 6) _) _ _ _
  have hvl : vl.map (·.1) = wordsOf fs := hvl0.trans hwl
  have hvll : vl.length = fs.length := by
    have := congrArg List.length hvl
    rw [List.length_map, wordsOf_len] at this
    exact this
  rw [body_at 6]
  refine execs_app _ _ (push_st X T hS room (by omega) hocl F (by walk_at "nm") (by walk_at "nm") N (.cons (Off.new (q := (Df, lstO (vl.map strW) ndf)) hneF) hR) (.tail _ (.tail _ (List.mem_append_right _ hc1))) (.head _) fun h' tk' wd n' F N => ?_)
  show wpAny _ _ (execs (tellDef.1.drop 7) _) _ _ _
  rw [body_at 7]
  have hDfR : ∀ q ∈ (L + 1 + 1, ocr) :: (pre126 ++ R0), q.1 ≠ Df := fun q hq => hneF q (List.mem_append_right _ hq)
  have offF : Df ≠ S.dx ∧ Df ≠ S.it ∧ Df ≠ S.pb := Off.new (q := (Df, lstO (vl.map strW) ndf)) hneF
  have N2 : News g L h' (S.pre w.params (1 + nlc (txtOf wl) - nlc (preW wl.length ++ tailW wl.length [])) t5' (vl.map strW) n' i' ++ ((L + 1 + 1, ocr) :: (pre126 ++ ((Df, lstO (vl.map strW) ndf) :: R0)))) := News.sub N (fun q hq => by
    simp only [List.mem_append, List.mem_cons] at hq ⊢
    grind)
  clear N
  refine execs_app _ _ (ring_st X T hS room hocl hocr ringOk F N2 (.cons (hR (L + 1 + 1, ocr) (.head _)) (.cons offF fun q hq => hR q (.tail _ (List.mem_append_right _ hq)))) (.tail _ hc1) ap1 (fun q hq r hr => ?_) ap3 (fun q hq => ?_) ap5 fun G h' tk' ocr' hG hocr' F N hOff => ?_)
  · rcases List.mem_cons.mp hq with rfl | hq
    · exact ap2 _ (.head _) r hr
    · rcases List.mem_cons.mp hq with rfl | hq
      · exact fun e => hDfR r (.tail _ (List.mem_append_left _ hr)) e.symm
      · exact ap2 q (.tail _ hq) r hr
  · rcases List.mem_cons.mp hq with rfl | hq
    · exact fun e => hDfR (L + 1 + 1, ocr) (.head _) e.symm
    · exact ap4 q hq
  clear N2
  show wpAny _ _ (execs (tellDef.1.drop 8) _) _ _ _
  rw [body_at 8]
  have hgr : ∀ q ∈ G.pre, q ∈ (L + 1 + 1, ocr') :: (G.pre ++ (126, ringTab G.c') :: (Df, lstO (vl.map strW) ndf) :: R0) := fun q hq => .tail _ (List.mem_append_left _ hq)
  have hc1' : (L + 1, ocl) ∈ (L + 1 + 1, ocr') :: (G.pre ++ (126, ringTab G.c') :: (Df, lstO (vl.map strW) ndf) :: R0) := .tail _ (List.mem_append_right _ (.tail _ (.tail _ hc1)))
  have hwa' : (wa, lstO (wl.map strW) nw) ∈ (L + 1 + 1, ocr') :: (G.pre ++ (126, ringTab G.c') :: (Df, lstO (vl.map strW) ndf) :: R0) := .tail _ (List.mem_append_right _ (.tail _ (.tail _ hwa)))
  have h126 : (126, ringTab G.c') ∈ (L + 1 + 1, ocr') :: (G.pre ++ (126, ringTab G.c') :: (Df, lstO (vl.map strW) ndf) :: R0) := .tail _ (List.mem_append_right _ (.head _))
  have hR0 : ∀ q ∈ R0, q ∈ (L + 1 + 1, ocr') :: (G.pre ++ (126, ringTab G.c') :: (Df, lstO (vl.map strW) ndf) :: R0) := fun q hq => .tail _ (List.mem_append_right _ (.tail _ (.tail _ hq)))
  have hcr' : (L + 1 + 1, ocr') ∈ (L + 1 + 1, ocr') :: (G.pre ++ (126, ringTab G.c') :: (Df, lstO (vl.map strW) ndf) :: R0) := .head _
  generalize hRE : (L + 1 + 1, ocr') :: (G.pre ++ (126, ringTab G.c') :: (Df, lstO (vl.map strW) ndf) :: R0) = RE at *
  refine execs_app _ _ (whole_st (a := 0) (K := fs.length - 1) X T hS hG room hvl h1 h7 hf (by rw [Nat.zero_mod]; omega) hocr' F N hOff hcr' hgr fun h' tk' u1 n' F N => ?_)
  show wpAny _ _ (execs (tellDef.1.drop 9) _) _ _ _
  rw [body_at 9]
  have e0 : 0 + (fs.length - 1) + 1 = fs.length := by omega
  have e1 : fs.length - 1 + 1 = fs.length := by omega
  rw [e0] at N
  rw [e1] at F
  refine execs_app _ _ (oct_st (a := fs.length) X T hS hG room hvl h1 h7 hf hs2 hocr' F (by walk_at "nm") N hOff hcr' hgr fun h' tk' n' Do ndo ol hol F N hneO => ?_)
  show wpAny _ _ (execs (tellDef.1.drop 10) _) _ _ _
  rw [body_at 10]
  have hoff2 : Off S ((Do, lstO (ol.map fun p => .int p.1 p.2) ndo) :: RE) := .cons (Off.new (q := (Do, lstO (ol.map fun p => .int p.1 p.2) ndo)) hneO) hOff
  have holl : ol.length = sz := by
    have := congrArg List.length hol
    simpa using this
  obtain ⟨ol', q, rfl⟩ := snoc_of (l := ol) (by omega)
  have hl' : ol'.length + 1 = sz := by simpa using holl
  have hd63 : ∀ k, dig fs k < 63 := fun k => dig_lt h1 hf k
  have hgetk : ∀ (k : Nat) (p : Int × Tok), (ol' ++ [q])[k]? = some p → p.1 = Builtin.bitOr (oct fs (fs.length + k) : Int) 64 := fun k p hp => by
    have hk : k < sz := by
      obtain ⟨hk, _⟩ := List.getElem?_eq_some_iff.mp hp
      rw [holl] at hk; exact hk
    have := congrArg (fun l => l[k]?) hol
    simp only [List.getElem?_map, hp, List.getElem?_range hk, Option.map_some, Option.some.injEq] at this
    exact this
  have hdk : ∀ k, dig fs (fs.length + k) = dig fs k := fun k => by
    have := dig_mod fs (a := fs.length) (Nat.mod_self _) k
    rw [Nat.zero_add] at this
    exact this
  have hox : ∀ (k : Nat) (p : Int × Tok), (ol' ++ [q])[k]? = some p → p.1 / 64 % 2 = 1 ∧ p.1 % 64 = (dig fs k : Int) := fun k p hp => by
    rw [hgetk k p hp]
    have a := or64 (oct fs (fs.length + k))
    rw [oct_mod (hd63 _), hdk] at a
    exact a
  refine execs_app _ _ (front_st (d := dig fs) X T room (by omega) (ol := ol') (x := q.1) (tx := q.2) (nd := ndo) (D := Do) (fun k p hp => hox k p ?_) (hox ol'.length q ?_).2 F (by walk_at "nm") N ?_ fun h' tk' u2 F N => ?_)
  · obtain ⟨hk, _⟩ := List.getElem?_eq_some_iff.mp hp
    rw [List.getElem?_append_left hk]; exact hp
  · simp
  · refine List.mem_append_right _ ?_
    rw [List.map_append]
    exact .head _
  show wpAny _ _ (execs (tellDef.1.drop 11) _) _ _ _
  rw [body_at 11]
  rw [hl'] at F
  have hsm : sz % fs.length < fs.length := Nat.mod_lt _ h1
  refine execs_app _ _ (list_st (a := fs.length + sz) (K := fs.length - sz % fs.length - 1) X T hS hG room hvl h1 h7 hf (by rw [Nat.add_mod_left]; omega) hocl hocr' F (by walk_at "nm") (by walk_at "nm") N hoff2 (.tail _ hc1') (.tail _ hcr') (fun q hq => .tail _ (hgr q hq)) fun h' tk' u3 u4 te n' D F N hneD => ?_)
  show wpAny _ _ (execs (tellDef.1.drop 12) _) _ _ _
  rw [body_at 12]
  have en : numS (dig fs) (fs.length + sz) (fs.length - sz % fs.length - 1 + 1) = numS (dig fs) sz (fs.length - sz % fs.length) := by
    rw [show fs.length - sz % fs.length - 1 + 1 = fs.length - sz % fs.length by omega]
    exact numS_congr fun k _ => by rw [Nat.add_assoc]; exact hdk _
  rw [en] at N
  have hrem : (preW wl.length ++ tailW wl.length []).length ≤ 1000 := by
    have hp : (preW wl.length).length ≤ 1 := by unfold preW; split <;> simp
    rw [List.length_append, show tailW wl.length [] = [101, 110, 100] from rfl]
    simp only [List.length_cons, List.length_nil]
    omega
  have offD : D ≠ S.dx ∧ D ≠ S.it ∧ D ≠ S.pb := Off.new (q := (D, lstO [] 0)) hneD
  refine execs_app _ _ (app_st X T hS room (by omega) (by omega) (by simp) hocl hat hrem (tok_end _) F (by walk_at "nm") (by walk_at "nm") N hoff2 (.tail _ hc1') (.tail _ hwa') hneD fun h' tk' t6 tb tc n' i' E ne F N hneE => ?_)
  show wpAny _ _ (execs (tellDef.1.drop 13) _) _ _ _
  rw [body_at 13]
  rw [show 1 + nlc (txtOf wl) - nlc (preW wl.length ++ tailW wl.length []) + nlc (preW wl.length ++ tailW wl.length []) = 1 + nlc (txtOf wl) by omega] at N hneE
  have hED : E ≠ D := fun e => hneE _ (List.mem_append_right _ (.head _)) e.symm
  have offE : E ≠ S.dx ∧ E ≠ S.it ∧ E ≠ S.pb := Off.new (q := (E, lstO [] 0)) hneE
  have hSD : ∀ (ws : List Value) (n i : Nat) (kl : Int) (t5 : Tok) q, q ∈ S.pre w.params kl t5 ws n i → q.1 ≠ D := fun ws n i kl t5 q hq => by
    obtain ⟨ob, hm⟩ := Sys.addr_pre _ _ _ _ _ _ (Sys.pre_addr hq)
    exact hneD (q.1, ob) (List.mem_append_left _ hm)
  refine execs_app _ _ (line_st X T hS room (by simp) hocl (txt_len (by omega) hww) rfl F (by walk_at "nm") (by walk_at "nm") N (.tail _ (.tail _ hc1')) (fun q hq => ?_) fun h' tk' u5 F N => ?_)
  · rcases List.mem_append.mp hq with hq | hq
    · exact hSD _ _ _ _ _ q hq
    · rcases List.mem_cons.mp hq with rfl | hq
      · exact hED
      · exact hneD q (List.mem_append_right _ hq)
  show wpAny _ _ (execs (tellDef.1.drop 14) _) _ _ _
  rw [body_at 14]
  refine execs_app _ _ (plus_st X T hS room hocl (by simp) F N (.cons offD (.cons offE hoff2)) (.tail _ (.tail _ (.tail _ hc1'))) fun h' tk' F N => ?_)
  show wpAny _ _ (execs (tellDef.1.drop 15) _) _ _ _
  rw [body_at 15]
  refine execs_app _ _ (ret_st X F (by walk_at "nm") fun tk => ?_)
  show Q _ _
  have hGc : (G.c', G.ocd) ∈ RE := hgr _ (.tail _ (.tail _ (.tail _ (.head _))))
  refine C h' _ _ D E (0 + 1 + 1) ne u1 u2 u3 u4 u5 te tb tc vl G hvl hG F fun q hq => N q ?_
  rcases List.mem_cons.mp hq with rfl | hq
  · exact .head _
  · refine .tail _ ?_
    rcases List.mem_cons.mp hq with rfl | hq
    · exact .head _
    · refine .tail _ (.tail _ ?_)
      rcases List.mem_cons.mp hq with rfl | hq
      · exact h126
      · rcases List.mem_cons.mp hq with rfl | hq
        · exact hGc
        · exact hR0 q hq
end
section
set_option maxHeartbeats 4000000
open PySem.Calls PySem.Builtin
section
variable {prog : Program} {w : World} {A : Around} {E : Value → Shared → Prop} {s : Shared} {h₀ : Heap} {L : Addr} {m : Str → Option Value} {news news' : List (Addr × Obj)}
theorem setread_N {stm : Addr} {o : Obj} {fd : FuncData} {v : Value} {n1 : Addr → List (Addr × Obj)} {Q : Unit → Shared → Prop} (F : Fr h₀ L s.heap m) (N : News h₀ L s.heap news) (hm : (stm, o) ∈ news) (hc : o.cls = .type "function") (hd : o.data = .func fd) (hdi : o.dict = none)
    (U : ∀ sd, Upd stm o { o with dict := some sd } news (n1 sd))
    (h : ∀ sd tk h', Fr h₀ L h' m → News h₀ L h' ((sd, dictOf [⟨PyData.keyHash w.params (Str.ofString "read"), .str (Str.ofString "read") tk, v⟩] 1) :: n1 sd) → (∀ p ∈ news, p.1 < sd) → Q () { s with heap := h', toks := s.toks + 2 }) :
    wpAny (model prog w) A (setAttr (.ref stm) (Str.ofString "read") v) Q E s := by
  refine fn_setattr_read (N _ hm).1 hc hd hdi fun h' sd tk a b c d => ?_
  subst c
  obtain ⟨F', N'⟩ := upd_ext F N (U _) d a
  have hL := F.ns.lt
  refine h _ tk h' F' (fun q hq => ?_) fun q hq => Heap.lt_size (N q hq).1
  rcases List.mem_cons.mp hq with rfl | hq
  · refine ⟨b, (Nat.ne_of_lt hL).symm, ?_⟩
    cases e : h₀.get? s.heap.objs.size with
    | none => rfl
    | some ob => exact absurd (Heap.lt_size (F.keep _ _ e)) (Nat.lt_irrefl _)
  · exact N' q hq
theorem iterS_N {x : Str} {t : Tok} {Q : Value → Shared → Prop} (F : Fr h₀ L s.heap m) (N : News h₀ L s.heap news)
    (h : ∀ it h', Fr h₀ L h' m → News h₀ L h' ((it, rdObj x t 0) :: news) → (∀ p ∈ news, p.1 < it) → Q (.ref it) { s with heap := h' }) : wpAny (model prog w) A (call (.builtin "iter") [.str x t]) Q E s := by
  refine iter1_str ?_
  have e : rdObj x t 0 = siObj (strTy x) x t 0 := if_pos (Nat.zero_le _)
  rw [← e]
  exact h _ _ (F.push _) (N.push F _) fun p hp => Heap.lt_size (N p hp).1
end
section
variable {prog : Program} {w : World} {dp un : Nat} {fr : Option (List Env)} {gd : Option (List Code)} {s : Shared} {B : Heap} {p : Program} {loose : List Str} {mean : ExcName → Option Value} {mg mb : Str → Option Value}
  {R : Result → Shared → Prop} {wa : Addr} {wl : List (List Nat × Tok)} {nw sz : Nat} {tsz : Tok}
theorem writ_N {L : Addr} {m : Str → Option Value} {news : List (Addr × Obj)} {n : Nat} {Q : Value → Shared → Prop} {E : Value → Shared → Prop} (X : (hd.heap_39 w.params).In B) (T : Top p loose mean mg mb B) (room : dp < recursionLimit)
   (F : Fr B L s.heap m) (N : News B L s.heap news) (h1 : (wa, lstO (wl.map strW) n) ∈ news) (h7 : wl.length ≤ 7) (hw : Words (wl.map (·.1)))
   (h : ∀ h' tk' t, Fr B L h' m → News B L h' news → Q (strV (writs (wl.map (·.1)) wl.length ++ [101, 110, 100]) t) { s with heap := h', toks := tk' }) :
   wpAny (model prog w) (Ar dp un fr gd) (call (.ref 124) [.ref wa]) Q E s := by
  refine wpAny_call (writ_spec ⟨X, T, F.keep⟩ (own_of N (l := [(wa, lstO (wl.map strW) n)]) (by intro q hq; rw [List.mem_singleton.mp hq]; exact h1)) room h7 hw fun t h' tk' k => ?_)
  exact h _ _ _ (F.keeps fun b o e => k.2 b o e (by simp)) (N.grown fun b o e => k.2 b o e (by simp))
end
end
local macro_rules | `(tactic| walk_at "mq14") => `(tactic| (k_here; (with_reducible show wpAny _ _ (call (Value.builtin _) [Value.str _ _]) _ _ _); k_dflt (refine' iterS_N ?F ?N ?_; (case F => k_asm); (case N => k_asm)); intro q2 h' F' N' lt2; k_lt lt2))
local macro_rules | `(tactic| walk_at "mq15") => `(tactic| (k_here; (with_reducible show wpAny _ _ (setAttr _ (Str.ofString "read") _) _ _ _); k_dflt (refine' setread_N ?F ?N ?m ?c ?d ?e ?U ?_; (case F => k_asm); (case N => k_asm); (case m => k_mem); (case c => rfl); (case d => rfl); (case e => rfl); (case U => (intro sd; k_upd))); intro sd tk h' F' N' lt2; k_lt lt2))
local macro_rules | `(tactic| walk_at "mq16") => `(tactic| (k_here; (rename Top _ _ _ _ _ _ => kT); (rename Frag.In _ _ => kX); k_dflt (first
  | (refine' writ_N kX kT ?room ?F ?N ?h1 ?h7 ?hw ?_; (case F => k_asm); (case N => k_asm); (case h1 => k_mem); (case h7 => assumption); (case hw => assumption); (case room => (dsimp only [Around.deeper, Ar]; omega)); intro h' tk' t F' N')
  | (refine' make_N kX kT ?room ?F ?N ?_; (case F => k_asm); (case N => k_asm); (case room => (dsimp only [Around.deeper, Ar]; omega)); intro x dx pb t1 t2 t3 t4 t5 t6 h' tk' F' N' l1 l2 l3; k_lt l1; k_lt2 l2; k_lt2 l3))))
local macro_rules | `(tactic| walk_at "mq17") => `(tactic| ((try dsimp +zetaDelta only [Sys.addrs]); (repeat' (first | exact List.forall_mem_nil _ | refine List.forall_mem_cons.mpr (And.intro ?_ ?_) | refine And.intro ?_ ?_)); all_goals (show @Ne Nat _ _; (try dsimp +zetaDelta only); omega)))
local macro_rules | `(tactic| walk_at "mq18") => `(tactic| first | assumption | exact if_pos rfl | (refine Eq.trans (if_neg (by decide)) ?_; walk_at "nm") | exact rfl)
section
set_option maxHeartbeats 4000000
open PySem.Calls PySem.Builtin
section
variable {prog : Program} {w : World} {dp un : Nat} {fr : Option (List Env)} {gd : Option (List Code)} {s : Shared} {B : Heap} {p : Program} {loose : List Str} {mean : ExcName → Option Value} {mg mb : Str → Option Value}
  {R : Result → Shared → Prop} {wa : Addr} {wl : List (List Nat × Tok)} {nw sz : Nat} {tsz : Tok}
local macro_rules | `(tactic| walk_at "call builtin:iter") => `(tactic| walk_at "mq14")
local macro_rules | `(tactic| walk_at "setAttr ref") => `(tactic| walk_at "mq15")
local macro_rules | `(tactic| walk_at "call ref") => `(tactic| walk_at "mq16")
local macro_rules | `(tactic| walk_at "far") => `(tactic| walk_at "mq17")
local macro_rules | `(tactic| walk_at "nm") => `(tactic| walk_at "mq18")
abbrev tab2 (c1 c2 : Addr) : Obj := tabObj (#[] ++ #[rawInt (110 : Nat), rawInt (13 : Nat), Value.ref c1] ++ #[rawInt (111 : Nat), rawInt (18 : Nat), Value.ref c2])
def IsCd (o : Obj) : Prop := ∃ vs t, o.data = .fields vs ∧ vs[1]? = some (.str (Str.ofString "_law_told.<locals>.<lambda>") t)
def IsCr (o : Obj) : Prop := ∃ vs t, o.data = .fields vs ∧ vs[1]? = some (.str (Str.ofString "_law_ring.<locals>._law_turned") t)
theorem told_new {fs : List Nat} (O : Ok (hd.heap_39 w.params) p loose mean mg mb B s.heap) (H : Own B s.heap [(wa, lstO (wl.map strW) nw), (133, tabObj #[]), (126, tabObj #[])]) (hd : dp + 21 < recursionLimit)
   (hwl : wl.map (·.1) = wordsOf fs) (h1 : 0 < fs.length) (h7' : fs.length ≤ 7) (hf : ∀ f ∈ fs, f < 63) (hs1 : 1 ≤ sz) (hs2 : sz ≤ 14)
   (k : ∀ h' tk' D E nd ne t1 t2 t3 t4 t5 ta tb tc (vl : List (List Nat × Tok)) c1 oc1 c2 oc2 c3 oc3, vl.map (·.1) = wordsOf fs → IsCd oc1 → IsCd oc2 → IsCr oc3 →
     New s.heap h' [(wa, lstO (wl.map strW) nw), (133, tabObj #[]), (126, tabObj #[])] [(D, lstO (toldL fs sz t1 t2 t3 t4 t5 E) nd), (E, lstO (toldW vl ta tb tc) ne), (wa, lstO (wl.map strW) nw), (133, tab2 c1 c2), (c1, oc1), (c2, oc2), (126, ringTab c3), (c3, oc3)] →
     Keeps [wa, 133, 126] s.heap h' → R (.ok (.ret (.ref D))) { s with heap := h', toks := tk' }) :
   codeAny (model prog w) (Ar dp un fr gd) (.call (.ref 136) ⟨[.ref wa, .int sz tsz], []⟩) R s := by
  refine enterC (binds := [(Str.ofString "words", .ref wa), (Str.ofString "size", .int sz tsz)]) O H (O.keep _ _ (O.X _ _ (by k_is))) rfl ((codeRec_of O.X (by k_is)).keeps O.keep) (by show dp < _; omega) (BindsTo.of_eq rfl) ?_ ?_ (fun g L' h₁ tk cells F N Y X T hL hlt => ?_)
  · intro n x hx
    simp only [List.mem_cons, List.not_mem_nil, or_false] at hx
    rcases hx with rfl | rfl
    · exact .inl rfl
    · exact .inl rfl
  · decide
  have hll : wl.length = fs.length := by
    have := congrArg List.length hwl
    rw [List.length_map, wordsOf_len] at this
    exact this
  have h7 : wl.length ≤ 7 := by omega
  have hw : Words (wl.map (·.1)) := hwl ▸ words_ok hf
  have C : CodeHd g 135 133 := codeHd_of_K X (by rfl)
  obtain ⟨oc1, oc2, oc3, he, hoc1, hoc2, hoc3⟩ := CellsAre.three Y
  subst he
  clear Y
  dsimp only [List.cons_append, List.nil_append] at N
  have n1 : (@Ne Nat wa 133) := H.ne (a := wa) (b := 133) (by k_mem) (by k_mem) (by intro e; cases e)
  have n2 : (@Ne Nat wa 126) := H.ne (a := wa) (b := 126) (by k_mem) (by k_mem) (by intro e; cases e)
  k_lt hlt
  refine execs_app (tellDef.1.take 5) (b := tellDef.1.drop 5) _ ?_
  show wpAny _ _ (execs [_, _, _, _, _] _) _ _ _
  k_steps
  rename_i hA tkA tt hB tkB q2 hC lq hD ocs dcs tkC stm c1 od1 vs1 tn1 ct1 hE tkD dd1 dn1 lc1 ls hF lam c2 od2 vs2 tn2 ct2 hG tkE dd2 dn2 lc2 ll sd tkr hH lsd x dx pb t1 t2 t3 t4 t5 t6 hI tkF ldx lx lpb hJ ocl F1 N1 dcl
  show wpAny _ _ (execs (tellDef.1.drop 5) _) _ _ _
  have hN : ∀ a o, (a, o) ∈ _ → hJ.get? a = some o ∧ a ≠ L' ∧ g.get? a = none := fun a o hm => N1 (a, o) hm
  obtain ⟨os, fd, ho1, ho2, ho3, hos⟩ : ∃ o fd, o.cls = .type "function" ∧ o.data = .func fd ∧ o.dict = some sd ∧ hJ.get? stm = some o ∧ stm ≠ L' ∧ g.get? stm = none := by
    refine' ⟨_, _, ?a, ?b, ?c, hN _ _ ?m⟩
    case m => k_mem
    case a => rfl
    case b => rfl
    case c => rfl
  let S : Sys := ⟨x, dx, pb, stm, sd, lam, L' + 1 + 1 + 1, q2, c2, t1, t2, t3, t4, t6, tkr, tt, tn2, (mg (Str.ofString "__name__")).getD Value.none, ct2, os, ocs, od2, fd, vs2, ⟨(txtOf wl).toArray⟩⟩
  have hcd : News g L' hJ (S.pre w.params 1 t5 [] 0 0 ++ ((L' + 1 + 1, oc2) :: ([(126, tabObj #[])] ++ [(L' + 1, ocl), (wa, lstO (wl.map strW) nw), (133, tab2 c1 c2), (c1, od1), (c2, od2)]))) := by
    dsimp only [Sys.pre, Sys.lexO, Sys.sdO, List.cons_append, List.nil_append]
    refine List.forall_mem_cons.mpr ⟨hN _ _ (by k_mem), List.forall_mem_cons.mpr ⟨hN _ _ (by k_mem), List.forall_mem_cons.mpr ⟨hN _ _ (by k_mem), List.forall_mem_cons.mpr ⟨hos, List.forall_mem_cons.mpr ⟨hN _ _ (by k_mem), List.forall_mem_cons.mpr ⟨hN _ _ (by k_mem), List.forall_mem_cons.mpr ⟨hN _ _ (by k_mem), List.forall_mem_cons.mpr ⟨hN _ _ (by k_mem), List.forall_mem_cons.mpr ⟨hN _ _ (by k_mem), ?_⟩⟩⟩⟩⟩⟩⟩⟩⟩
    refine List.forall_mem_cons.mpr ⟨hN _ _ (by k_mem), List.forall_mem_cons.mpr ⟨hN _ _ (by k_mem), List.forall_mem_cons.mpr ⟨hN _ _ (by k_mem), List.forall_mem_cons.mpr ⟨hN _ _ (by k_mem), List.forall_mem_cons.mpr ⟨hN _ _ (by k_mem), List.forall_mem_cons.mpr ⟨hN _ _ (by k_mem), List.forall_mem_cons.mpr ⟨hN _ _ (by k_mem), List.forall_mem_nil _⟩⟩⟩⟩⟩⟩⟩
  have hS : S.Good := ⟨ho1, ho2, ho3, dcs, dd2, dn2⟩
  refine tell (S := S) (fs := fs) (wl := wl) (nw := nw) (sz := sz) (by assumption) (by assumption) hS (by omega) hwl h1 h7' hf hs1 hs2 rfl dcl (by rw [hoc2]; rfl) ringOk_new F1 (by walk_at "nm") (by walk_at "nm") (by walk_at "nm") (by walk_at "nm") hcd ?_ (.head _) (.tail _ (.head _)) ?_ ?_ ?_ ?_ ?_ fun h' tk' m' D E nd ne u1 u2 u3 u4 u5 ta tb tc vl G hvl hG F' N' => ?_
  · show ∀ q ∈ _, _
    dsimp only [List.cons_append, List.nil_append]
    walk_at "far"
  · walk_at "far"
  · walk_at "far"
  · walk_at "far"
  · walk_at "far"
  · walk_at "far"
  · refine MyEnd.intro (new := [(D, lstO (toldL fs sz u1 u2 u3 u4 u5 E) nd), (E, lstO (toldW vl ta tb tc) ne), (wa, lstO (wl.map strW) nw), (133, tab2 c1 c2), (c1, od1), (c2, od2), (126, ringTab G.c'), (G.c', G.ocd)]) F' (fun q hq => N' q ?_) fun hk hn => k h' tk' D E nd ne u1 u2 u3 u4 u5 ta tb tc vl c1 od1 c2 od2 G.c' G.ocd hvl ⟨vs1, tn1, dd1, dn1⟩ ⟨vs2, tn2, dd2, dn2⟩ ⟨G.vs, G.tq, hG.o2, hG.o3⟩ hn hk
    simp only [List.mem_cons, List.not_mem_nil, or_false] at hq ⊢
    grind
end
end
section
set_option maxHeartbeats 4000000
open PySem.Calls PySem.Builtin
section
variable {prog : Program} {w : World} {dp un : Nat} {fr : Option (List Env)} {gd : Option (List Code)} {s : Shared} {B : Heap} {p : Program} {loose : List Str} {mean : ExcName → Option Value} {mg mb : Str → Option Value}
  {R : Result → Shared → Prop} {wa : Addr} {wl : List (List Nat × Tok)} {nw sz : Nat} {tsz : Tok}
local macro_rules | `(tactic| walk_at "call builtin:iter") => `(tactic| walk_at "mq14")
local macro_rules | `(tactic| walk_at "setAttr ref") => `(tactic| walk_at "mq15")
local macro_rules | `(tactic| walk_at "call ref") => `(tactic| walk_at "mq16")
local macro_rules | `(tactic| walk_at "far") => `(tactic| walk_at "mq17")
local macro_rules | `(tactic| walk_at "nm") => `(tactic| walk_at "mq18")
local macro_rules | `(tactic| walk_at "far") => `(tactic| walk_at "mq17")
local macro_rules | `(tactic| walk_at "nm") => `(tactic| walk_at "mq18")
theorem ne_cd {o o' : Obj} (h : IsCd o) (h' : IsCr o') : o ≠ o' := fun e => by
  obtain ⟨vs, t, a, b⟩ := h
  obtain ⟨vs', t', a', b'⟩ := h'
  rw [e, a'] at a
  injection a with a
  rw [a, b] at b'
  injection b' with b'
  injection b' with b' _
  exact absurd b' (by decide)
theorem ne_fields {o o' : Obj} {vs vs' : Array Value} {x y : Option Value} (h : o.data = .fields vs) (h1 : vs[1]? = x) (h' : o'.data = .fields vs') (h2 : vs'[1]? = y) (hxy : x ≠ y) : o ≠ o' := fun e => by
  rw [e, h'] at h
  injection h with h
  rw [h, h1] at h2
  exact hxy h2
theorem told_hit {fs : List Nat} {c1 c2 c3 : Addr} {od1 od2 od3 : Obj} (O : Ok (hd.heap_39 w.params) p loose mean mg mb B s.heap) (H : Own B s.heap [(wa, lstO (wl.map strW) nw), (133, tab2 c1 c2), (c1, od1), (c2, od2), (126, ringTab c3), (c3, od3)]) (hd : dp + 21 < recursionLimit)
   (hcd1 : IsCd od1) (hcd2 : IsCd od2) (hcd3 : IsCr od3)
   (hwl : wl.map (·.1) = wordsOf fs) (h1 : 0 < fs.length) (h7' : fs.length ≤ 7) (hf : ∀ f ∈ fs, f < 63) (hs1 : 1 ≤ sz) (hs2 : sz ≤ 14)
   (k : ∀ h' tk' D E nd ne t1 t2 t3 t4 t5 ta tb tc (vl : List (List Nat × Tok)) c4, vl.map (·.1) = wordsOf fs →
     New s.heap h' [(wa, lstO (wl.map strW) nw), (133, tab2 c1 c2), (c1, od1), (c2, od2), (126, ringTab c3), (c3, od3)] [(D, lstO (toldL fs sz t1 t2 t3 t4 t5 E) nd), (E, lstO (toldW vl ta tb tc) ne), (wa, lstO (wl.map strW) nw), (133, tab2 c1 c2), (126, ringTab c4)] →
     Keeps [wa, 133, c1, c2, 126, c3] s.heap h' → R (.ok (.ret (.ref D))) { s with heap := h', toks := tk' }) :
   codeAny (model prog w) (Ar dp un fr gd) (.call (.ref 136) ⟨[.ref wa, .int sz tsz], []⟩) R s := by
  refine enterC (binds := [(Str.ofString "words", .ref wa), (Str.ofString "size", .int sz tsz)]) O H (O.keep _ _ (O.X _ _ (by k_is))) rfl ((codeRec_of O.X (by k_is)).keeps O.keep) (by show dp < _; omega) (BindsTo.of_eq rfl) ?_ ?_ (fun g L' h₁ tk cells F N Y X T hL hlt => ?_)
  · intro n x hx
    simp only [List.mem_cons, List.not_mem_nil, or_false] at hx
    rcases hx with rfl | rfl
    · exact .inl rfl
    · exact .inl rfl
  · decide
  have hll : wl.length = fs.length := by
    have := congrArg List.length hwl
    rw [List.length_map, wordsOf_len] at this
    exact this
  have h7 : wl.length ≤ 7 := by omega
  have hw : Words (wl.map (·.1)) := hwl ▸ words_ok hf
  have C : CodeHd g 135 133 := codeHd_of_K X (by rfl)
  obtain ⟨oc1, oc2, oc3, he, hoc1, hoc2, hoc3⟩ := CellsAre.three Y
  subst he
  clear Y
  dsimp only [List.cons_append, List.nil_append] at N
  have n1 : (@Ne Nat wa 133) := H.ne (a := wa) (b := 133) (by k_mem) (by k_mem) (by intro e; cases e)
  have n2 : (@Ne Nat wa 126) := H.ne (a := wa) (b := 126) (by k_mem) (by k_mem) (by intro e; cases e)
  obtain ⟨vs1, tn1, dd1, dn1⟩ := id hcd1
  obtain ⟨vs2, tn2, dd2, dn2⟩ := id hcd2
  obtain ⟨vs3, tn3, dd3, dn3⟩ := id hcd3
  have n3 : (@Ne Nat wa c3) := H.ne (a := wa) (b := c3) (by k_mem) (by k_mem) (data_ne (by rw [dd3]; intro e; cases e))
  have n4 : (@Ne Nat c1 c3) := H.ne (a := c1) (b := c3) (by k_mem) (by k_mem) (ne_cd hcd1 hcd3)
  have n5 : (@Ne Nat c2 c3) := H.ne (a := c2) (b := c3) (by k_mem) (by k_mem) (ne_cd hcd2 hcd3)
  have n6 : (@Ne Nat 133 c3) := H.ne (a := 133) (b := c3) (by k_mem) (by k_mem) (ne_fields rfl rfl dd3 dn3 (by intro e; cases e))
  have n7 : (@Ne Nat c1 126) := H.ne (a := c1) (b := 126) (by k_mem) (by k_mem) (ne_fields dd1 dn1 rfl rfl (by intro e; cases e))
  have n8 : (@Ne Nat c2 126) := H.ne (a := c2) (b := 126) (by k_mem) (by k_mem) (ne_fields dd2 dn2 rfl rfl (by intro e; cases e))
  k_lt hlt
  refine execs_app (tellDef.1.take 5) (b := tellDef.1.drop 5) _ ?_
  show wpAny _ _ (execs [_, _, _, _, _] _) _ _ _
  k_steps
  rename_i hA tkA tt hB tkB q2 hC lq hD ocs dcs tkC stm ct1 hE tkD ls hF lam ct2 hG tkE ll sd tkr hH lsd x dx pb t1 t2 t3 t4 t5 t6 hI tkF ldx lx lpb hJ ocl F1 N1 dcl
  show wpAny _ _ (execs (tellDef.1.drop 5) _) _ _ _
  have hN : ∀ a o, (a, o) ∈ _ → hJ.get? a = some o ∧ a ≠ L' ∧ g.get? a = none := fun a o hm => N1 (a, o) hm
  obtain ⟨os, fd, ho1, ho2, ho3, hos⟩ : ∃ o fd, o.cls = .type "function" ∧ o.data = .func fd ∧ o.dict = some sd ∧ hJ.get? stm = some o ∧ stm ≠ L' ∧ g.get? stm = none := by
    refine' ⟨_, _, ?a, ?b, ?c, hN _ _ ?m⟩
    case m => k_mem
    case a => rfl
    case b => rfl
    case c => rfl
  let S : Sys := ⟨x, dx, pb, stm, sd, lam, L' + 1 + 1 + 1, q2, c2, t1, t2, t3, t4, t6, tkr, tt, tn2, (mg (Str.ofString "__name__")).getD Value.none, ct2, os, ocs, od2, fd, vs2, ⟨(txtOf wl).toArray⟩⟩
  have hcd : News g L' hJ (S.pre w.params 1 t5 [] 0 0 ++ ((L' + 1 + 1, oc2) :: ([(126, ringTab c3), (c3, od3)] ++ [(L' + 1, ocl), (wa, lstO (wl.map strW) nw), (133, tab2 c1 c2)]))) := by
    dsimp only [Sys.pre, Sys.lexO, Sys.sdO, List.cons_append, List.nil_append]
    refine List.forall_mem_cons.mpr ⟨hN _ _ (by k_mem), List.forall_mem_cons.mpr ⟨hN _ _ (by k_mem), List.forall_mem_cons.mpr ⟨hN _ _ (by k_mem), List.forall_mem_cons.mpr ⟨hos, List.forall_mem_cons.mpr ⟨hN _ _ (by k_mem), List.forall_mem_cons.mpr ⟨hN _ _ (by k_mem), List.forall_mem_cons.mpr ⟨hN _ _ (by k_mem), List.forall_mem_cons.mpr ⟨hN _ _ (by k_mem), List.forall_mem_cons.mpr ⟨hN _ _ (by k_mem), ?_⟩⟩⟩⟩⟩⟩⟩⟩⟩
    refine List.forall_mem_cons.mpr ⟨hN _ _ (by k_mem), List.forall_mem_cons.mpr ⟨hN _ _ (by k_mem), List.forall_mem_cons.mpr ⟨hN _ _ (by k_mem), List.forall_mem_cons.mpr ⟨hN _ _ (by k_mem), List.forall_mem_cons.mpr ⟨hN _ _ (by k_mem), List.forall_mem_cons.mpr ⟨hN _ _ (by k_mem), List.forall_mem_nil _⟩⟩⟩⟩⟩⟩
  have hS : S.Good := ⟨ho1, ho2, ho3, dcs, dd2, dn2⟩
  refine tell (S := S) (fs := fs) (wl := wl) (nw := nw) (sz := sz) (by assumption) (by assumption) hS (by omega) hwl h1 h7' hf hs1 hs2 rfl dcl (by rw [hoc2]; rfl) (ringOk_hit dd3 dn3) F1 (by walk_at "nm") (by walk_at "nm") (by walk_at "nm") (by walk_at "nm") hcd ?_ (.head _) (.tail _ (.head _)) ?_ ?_ ?_ ?_ ?_ fun h' tk' m' D E nd ne u1 u2 u3 u4 u5 ta tb tc vl G hvl hG F' N' => ?_
  · show ∀ q ∈ _, _
    dsimp only [List.cons_append, List.nil_append]
    walk_at "far"
  · walk_at "far"
  · walk_at "far"
  · walk_at "far"
  · walk_at "far"
  · walk_at "far"
  · refine MyEnd.intro (new := [(D, lstO (toldL fs sz u1 u2 u3 u4 u5 E) nd), (E, lstO (toldW vl ta tb tc) ne), (wa, lstO (wl.map strW) nw), (133, tab2 c1 c2), (126, ringTab G.c')]) F' (fun q hq => N' q ?_) fun hk hn => k h' tk' D E nd ne u1 u2 u3 u4 u5 ta tb tc vl G.c' hvl hn hk
    simp only [List.mem_cons, List.not_mem_nil, or_false] at hq ⊢
    grind
end
end
section
set_option maxHeartbeats 4000000
open PySem.Calls PySem.Builtin
def rowsDef : List Stmt × Scope := match (PySem.Challenge.pw_wk0010_01.main.body[12]? : Option Stmt) with
  | some (.FunctionDef _ _ b _ _ _ sc _ _ _) => (b, sc)
  | _ => default
def stR (j : Nat) : List Stmt := (rowsDef.1.drop j).take 1
abbrev rowsEnv (sc : Scope) (L : Addr) : Env := envOfC (Str.ofString "_law_rows") sc L 110 (.ref 109)
local macro_rules | `(tactic| walk_at "CompSrc") => `(tactic| (k_here; refine hide_intro ?_))
local macro_rules | `(tactic| walk_at "subscriptTail") => `(tactic| walk_at "mq10")
theorem ints_get {vs : List Value} {ns : List Int} (h : IntsAre vs ns) {i : Nat} {v : Value} (hv : vs[i]? = some v) : ∃ z t, v = .int z t := by
  induction h generalizing i with
  | nil => simp at hv
  | cons n t _ ih =>
    cases i with
    | zero => simp at hv; exact ⟨_, _, hv.symm⟩
    | succ i => exact ih (by simpa using hv)
theorem ints_of : ∀ xl : List (Int × Tok), IntsAre (xl.map fun p => Value.int p.1 p.2) (xl.map (·.1))
  | [] => .nil
  | p :: r => .cons p.1 p.2 (ints_of r)
theorem sum_bound : ∀ {xl : List (Int × Tok)} {c : Int}, (∀ q ∈ xl, 0 ≤ q.1 ∧ q.1 < c) → 0 ≤ (xl.map (·.1)).sum ∧ (xl.map (·.1)).sum ≤ xl.length * c
  | [], c, _ => by simp
  | p :: r, c, h => by
    have ih := sum_bound (xl := r) fun q hq => h q (.tail _ hq)
    have hp := h p (.head _)
    rw [List.map_cons, List.sum_cons, List.length_cons]
    rw [show ((r.length + 1 : Nat) : Int) * c = (r.length : Int) * c + c by rw [Int.natCast_add, Int.add_mul]; simp]
    omega
local macro_rules | `(tactic| walk_at "call builtin:sum") => `(tactic| (k_here; refine hide_intro ?_))
/-- drawn = [own[k] + sum([x % 10 ** 6 for x in script[k:60:17]]) for k in range(17)] -/
def DrawnSpec (bs : List Stmt × Scope) : Prop := ∀ {prog : Program} {w : World} {dp un : Nat} {fr : Option (List Env)} {gd : Option (List Code)} {s : Shared} {g h : Heap} {tk : Nat} {p : Program} {loose : List Str} {mean : ExcName → Option Value} {mg mb : Str → Option Value}
  {L sa ow : Addr} {m : Str → Option Value} {oscr oown odrawn : Obj} {os : List (Int × Tok)} {vs : List Value} {ns : List Int} {no : Nat} {ALL : List (Addr × Obj)} {Q : Flow → Shared → Prop}
  (_ : (hd.heap_39 w.params).In g) (_ : Top p loose mean mg mb g) (_ : dp + 20 < recursionLimit)
  (_ : g.IsList sa vs.toArray) (_ : IntsAre vs ns) (_ : ns.length ≤ 63) (_ : os.length = 17) (_ : ∀ q ∈ os, 0 ≤ q.1 ∧ q.1 ≤ 62)
  (_ : oscr.data = .cell (some (.ref sa))) (_ : oown.data = .cell (some (.ref ow))) (_ : odrawn.data = .cell none)
  (_ : Fr g L h m)
  (_ : News g L h ((L + 1 + 1 + 1, odrawn) :: (ow, lstO (os.map fun p => .int p.1 p.2) no) :: (L + 1 + 1, oown) :: (L + 1, oscr) :: ALL)) (_ : ∀ q ∈ (ow, lstO (os.map fun p => .int p.1 p.2) no) :: (L + 1 + 1, oown) :: (L + 1, oscr) :: ALL, q.1 ≠ L + 1 + 1 + 1)
  (_ : ∀ h' tk' D nd o' (dl : List (Int × Tok)), o'.data = .cell (some (.ref D)) → dl.length = 17 → (∀ q ∈ dl, 0 ≤ q.1 ∧ q.1 ≤ 2 ^ 40) → Fr g L h' m → News g L h' ((L + 1 + 1 + 1, o') :: (D, lstO (dl.map fun p => .int p.1 p.2) nd) :: ALL) →
     (∀ q ∈ (L + 1 + 1 + 1, o') :: ALL, q.1 ≠ D) → Q .next { s with heap := h', toks := tk' }),
  wpAny (model prog w) ((Ar dp un fr gd).deeper (rowsEnv bs.2 L)) (execs bs.1 (rowsEnv bs.2 L)) Q (fun _ _ => False) { s with heap := h, toks := tk }
theorem drawn_st : DrawnSpec (stR 1, rowsDef.2) := by
  show DrawnSpec ([_], Scope.mk _ _ _ _ _)
  unfold DrawnSpec
  intro prog w dp un fr gd s g h tk p loose mean mg mb L sa ow m oscr oown odrawn os vs ns no ALL Q X T room hsa hI hn ho1 ho2 hc1 hc2 hc3 F N hne C
  k_steps
  rename IsRange _ _ _ _ _ _ _ _ => hrg
  rename Fr _ _ _ _ => F2
  rename_i N2 hkp
  clear hkp
  unfold Hide
  have hrs := range_small (k := 17) (by decide)
  dsimp only
  k_dflt (refine LCg.CompSrc.range (n := 17) rfl F2 N2 hrg hrs.1 hrs.2 (by decide) fun g' => ?_)
  clear F2 N2 hrg
  refine CompRest.ind (n := 17) (fun j ys news => news = ((L + 1 + 1 + 1, odrawn) :: (ow, lstO (os.map fun p => .int p.1 p.2) no) :: (L + 1 + 1, oown) :: (L + 1, oscr) :: ALL) ∧ ∃ ol : List (Int × Tok), ys = ol.map (fun p => .int p.1 p.2) ∧ ol.length = j ∧ ∀ q ∈ ol, 0 ≤ q.1 ∧ q.1 ≤ 2 ^ 40) ?_ ?_ 17 0 [] _ (by omega) ⟨rfl, [], rfl, rfl, fun _ hq => nomatch hq⟩
  · rintro j ys news hj ⟨rfl, ol, rfl, hol, hob⟩ v I oI C2 oC E m₂ h2 tk2 hP hN hx F2 N2 o hn
    obtain ⟨tv, rfl⟩ := hP
    obtain ⟨q, hq⟩ : ∃ q, os[j]? = some q := ⟨_, List.getElem?_eq_getElem (by omega)⟩
    have hx1 : (os.map fun p => Value.int p.1 p.2)[((0 : Int) + (j : Int)).toNat]? = some (.int q.1 q.2) := by
      rw [show ((0 : Int) + (j : Int)).toNat = j by omega, List.getElem?_map, hq]; rfl
    have hz1 : (0 : Int) ≤ 0 + (j : Int) ∧ (0 : Int) + (j : Int) < 2 ^ 63 := by omega
    dsimp only
    k_steps
    rename_i hA FA NA
    unfold Hide
    dsimp only at NA
    dsimp only
    have hIP := IntsAre.pick hI (some (0 + (j : Int))) (some 60) (some 17)
    have hIZ := slicePick_size_le vs.toArray (some (0 + (j : Int))) (some 60) (some 17)
    have hvl := hI.length
    rw [show vs.toArray.size = vs.length by simp] at hIZ
    generalize slicePick vs.toArray (some (0 + (j : Int))) (some 60) (some 17) = IT at *
    generalize hLED : ((L + 1 + 1 + 1, odrawn) :: (ow, lstO (os.map fun p => .int p.1 p.2) no) :: (L + 1 + 1, oown) :: (L + 1, oscr) :: ALL) = LED at *
    k_dflt (refine LCg.CompSrc.ledger (its := IT) (k := 0) rfl FA NA (.head _) (Nat.le_trans (by omega : IT.size ≤ 63) (by decide)) fun g2 => ?_)
    refine CompRest.ind (n := IT.size) (fun i ys news => news = (h2.objs.size + 1, ({ cls := Value.type "list", data := Data.seq IT 0 } : Obj)) :: (I, oI) :: (C2, oC) :: (E, LCg.lst (ol.map fun p => Value.int p.1 p.2)) :: LED ∧ ∃ xl : List (Int × Tok), ys = xl.map (fun p => .int p.1 p.2) ∧ xl.length = i ∧ ∀ q ∈ xl, 0 ≤ q.1 ∧ q.1 < 1000000) ?_ ?_ IT.size 0 [] _ (by omega) ⟨rfl, [], rfl, rfl, fun _ hq => nomatch hq⟩
    · clear FA NA F2 N2
      rintro i ys news hi ⟨rfl, xl, rfl, hxl, hxb⟩ v2 I2 oI2 C3 oC3 E3 m₃ h3 tk3 hP2 hN2 hx2 F3 N3 o3 hn3
      obtain ⟨z, tz, rfl⟩ := ints_get hIP (by rw [← Array.getElem?_toList] at hP2; exact hP2)
      dsimp only
      k_steps
      rename Fr g L _ _ => F4
      rename News g L _ _ => N4
      have hm6 : z.fmod (10 ^ Int.toNat 6) = z % 1000000 := by
        rw [Int.fmod_eq_emod_of_nonneg _ (by decide)]; rfl
      rw [hm6]
      refine LCg.CompEnd.intro F4 N4 _ (fun q hq => hq) o3 (.inr ⟨_, .head _, rfl, _, rfl⟩) ⟨rfl, xl ++ [(z % 1000000, _)], by simp; rfl, by simp [hxl], fun q hq => ?_⟩
      rcases List.mem_append.mp hq with hq | hq
      · exact hxb q hq
      · rw [List.mem_singleton.mp hq]
        dsimp only
        omega
    · rintro ys news ⟨rfl, xl, rfl, hxl, hxb⟩ D3 h3 tk3 F3 N3 o3
      dsimp only
      k_steps
      unfold Hide
      refine sumK rfl F3 N3 ⟨_, (N3 _ (.head _)).1, rfl, _, rfl⟩ (ints_of xl) fun h4 tk4 t4 F4 N4 => ?_
      have hsb := sum_bound hxb
      clear F3 N3 FA NA F2 N2
      k_steps
      refine LCg.CompEnd.intro F4 N4 LED (fun q hq => .tail _ (.tail _ hq)) o trivial ⟨rfl, ol ++ [(q.1 + (xl.map (·.1)).sum, _)], by simp; rfl, by simp [hol], fun p hp => ?_⟩
      rcases List.mem_append.mp hp with hp | hp
      · exact hob p hp
      · rw [List.mem_singleton.mp hp]
        have hq2 := ho2 q (List.mem_of_getElem? hq)
        dsimp only
        have : ((xl.length : Nat) : Int) ≤ 63 := by omega
        omega
  · rintro ys news ⟨rfl, ol, rfl, hol, hob⟩ D h2 tk2 F2 N2 o1
    dsimp only
    have N3 : News g L h2 ((L + 1 + 1 + 1, odrawn) :: (D, LCg.lst (ol.map fun p => Value.int p.1 p.2)) :: ALL) := News.sub N2 (fun q hq => by
      simp only [List.mem_cons] at hq ⊢
      grind)
    have hD := off1_ne o1
    refine storeC_N F2 N3 (fun q hq => ?_) rfl hc3 fun h3 o' F3 N4 ho' => ?_
    · rcases List.mem_cons.mp hq with rfl | hq
      · exact (hD _ (.head _)).symm
      · exact hne q (.tail _ (.tail _ (.tail _ hq)))
    refine wpAny_execs_nil (C h3 _ D _ o' ol ho' hol hob F3 N4 fun q hq => ?_)
    rcases List.mem_cons.mp hq with rfl | hq
    · exact hD (L + 1 + 1 + 1, odrawn) (.head _)
    · exact hD q (.tail _ (.tail _ (.tail _ (.tail _ hq))))
end
section
set_option maxHeartbeats 4000000
open PySem.Calls PySem.Builtin
local macro_rules | `(tactic| walk_at "subscriptTail") => `(tactic| (k_here; (with_reducible show wpAny _ _ (subscriptTail _ _ (Value.ref _) (Value.int _ _)) _ _ _); k_dflt (refine' item_N ?N ?m ?z ?x ?_; (case N => k_asm); (case m => k_mem); (case z => decide); (case x => assumption))))
local macro_rules | `(tactic| walk_at "storeName") => `(tactic| (k_here; refine hide_intro ?_))
theorem all_of {d : Addr} : ∀ {l : List (Addr × Obj)}, AllLt d l → ∀ q ∈ l, q.1 < d
  | [], _, _, h => nomatch h
  | p :: r, x, q, h => by
    rcases List.mem_cons.mp h with rfl | h
    · exact x.1
    · exact all_of x.2 q h
/-- own = [..] -/
def OwnSpec (bs : List Stmt × Scope) : Prop := ∀ {prog : Program} {w : World} {dp un : Nat} {fr : Option (List Env)} {gd : Option (List Code)} {s : Shared} {g h : Heap} {tk : Nat} {p : Program} {loose : List Str} {mean : ExcName → Option Value} {mg mb : Str → Option Value}
  {L : Addr} {m : Str → Option Value} {oown : Obj} {ALL : List (Addr × Obj)} {Q : Flow → Shared → Prop}
  (_ : (hd.heap_39 w.params).In g) (_ : Top p loose mean mg mb g) (_ : dp + 20 < recursionLimit)
  (_ : oown.data = .cell none) (_ : Fr g L h m)
  (_ : News g L h ((L + 1 + 1, oown) :: ALL)) (_ : ∀ q ∈ ALL, q.1 ≠ L + 1 + 1)
  (_ : ∀ h' tk' ow o' no (os : List (Int × Tok)), o'.data = .cell (some (.ref ow)) → os.length = 17 → (∀ q ∈ os, 0 ≤ q.1 ∧ q.1 ≤ 62) → Fr g L h' m → News g L h' ((L + 1 + 1, o') :: (ow, lstO (os.map fun p => .int p.1 p.2) no) :: ALL) →
     (∀ q ∈ (L + 1 + 1, o') :: ALL, q.1 < ow) → Q .next { s with heap := h', toks := tk' }),
  wpAny (model prog w) ((Ar dp un fr gd).deeper (rowsEnv bs.2 L)) (execs bs.1 (rowsEnv bs.2 L)) Q (fun _ _ => False) { s with heap := h, toks := tk }
theorem own_st : OwnSpec (stR 0, rowsDef.2) := by
  show OwnSpec ([_], Scope.mk _ _ _ _ _)
  unfold OwnSpec
  intro prog w dp un fr gd s g h tk p loose mean mg mb L m oown ALL Q X T room hc F N hne C
  k_steps
  rename_i ow hA FA NA lA
  unfold Hide
  obtain ⟨la, lb⟩ := lA
  have hlt := all_of lb
  have N2 : News g L hA ((L + 1 + 1, oown) :: (ow, lstO (([(2, tk), (4, tk + 1), (1, tk + 1 + 1), (5, tk + 1 + 1 + 1), (28, tk + 1 + 1 + 1 + 1), (34, tk + 1 + 1 + 1 + 1 + 1), (10, tk + 1 + 1 + 1 + 1 + 1 + 1), (32, tk + 1 + 1 + 1 + 1 + 1 + 1 + 1), (13, tk + 1 + 1 + 1 + 1 + 1 + 1 + 1 + 1), (9, tk + 1 + 1 + 1 + 1 + 1 + 1 + 1 + 1 + 1), (1, tk + 1 + 1 + 1 + 1 + 1 + 1 + 1 + 1 + 1 + 1), (62, tk + 1 + 1 + 1 + 1 + 1 + 1 + 1 + 1 + 1 + 1 + 1), (0, tk + 1 + 1 + 1 + 1 + 1 + 1 + 1 + 1 + 1 + 1 + 1 + 1), (33, tk + 1 + 1 + 1 + 1 + 1 + 1 + 1 + 1 + 1 + 1 + 1 + 1 + 1), (50, tk + 1 + 1 + 1 + 1 + 1 + 1 + 1 + 1 + 1 + 1 + 1 + 1 + 1 + 1), (27, tk + 1 + 1 + 1 + 1 + 1 + 1 + 1 + 1 + 1 + 1 + 1 + 1 + 1 + 1 + 1), (41, tk + 1 + 1 + 1 + 1 + 1 + 1 + 1 + 1 + 1 + 1 + 1 + 1 + 1 + 1 + 1 + 1)] : List (Int × Tok)).map fun p => Value.int p.1 p.2) 0) :: ALL) := fun q hq => NA q (by
    rcases List.mem_cons.mp hq with rfl | hq
    · exact .tail _ (.head _)
    · rcases List.mem_cons.mp hq with rfl | hq
      · exact .head _
      · exact .tail _ (.tail _ hq))
  refine storeC_N FA N2 (fun q hq => ?_) rfl hc fun h3 o' F3 N3 ho' => ?_
  · rcases List.mem_cons.mp hq with rfl | hq
    · exact Nat.ne_of_gt la
    · exact hne q hq
  refine wpAny_execs_nil (C h3 _ ow o' 0 _ ho' rfl (by repeat' (first | exact List.forall_mem_nil _ | refine List.forall_mem_cons.mpr ⟨by dsimp only; decide, ?_⟩)) F3 N3 fun q hq => ?_)
  rcases List.mem_cons.mp hq with rfl | hq
  · exact la
  · exact hlt q hq
/-- m = 1 + drawn[0] % 7;  n = 1 + drawn[1] % 7 -/
def PickSpec (bs : List Stmt × Scope) (k : Nat) (c : Addr → Addr) : Prop := ∀ {prog : Program} {w : World} {dp un : Nat} {fr : Option (List Env)} {gd : Option (List Code)} {s : Shared} {g h : Heap} {tk : Nat} {p : Program} {loose : List Str} {mean : ExcName → Option Value} {mg mb : Str → Option Value}
  {L D : Addr} {m : Str → Option Value} {o odr : Obj} {dl : List (Int × Tok)} {nd : Nat} {ALL : List (Addr × Obj)} {Q : Flow → Shared → Prop}
  (_ : (hd.heap_39 w.params).In g) (_ : Top p loose mean mg mb g) (_ : dp + 20 < recursionLimit)
  (_ : dl.length = 17) (_ : odr.data = .cell (some (.ref D)))
  (_ : o.data = .cell none) (_ : Fr g L h m)
  (_ : News g L h ((c L, o) :: ALL)) (_ : ∀ q ∈ ALL, q.1 ≠ c L) (_ : (L + 1 + 1 + 1, odr) ∈ ALL) (_ : (D, lstO (dl.map fun p => .int p.1 p.2) nd) ∈ ALL)
  (_ : ∀ h' tk' o' t (v : Nat), o'.data = .cell (some (.int v t)) → 1 ≤ v → v ≤ 7 → Fr g L h' m → News g L h' ((c L, o') :: ALL) → Q .next { s with heap := h', toks := tk' }),
  wpAny (model prog w) ((Ar dp un fr gd).deeper (rowsEnv bs.2 L)) (execs bs.1 (rowsEnv bs.2 L)) Q (fun _ _ => False) { s with heap := h, toks := tk }
theorem m_st : PickSpec (stR 2, rowsDef.2) 0 (fun L => L + 1 + 1 + 1 + 1) := by
  show PickSpec ([_], Scope.mk _ _ _ _ _) _ _
  unfold PickSpec
  intro prog w dp un fr gd s g h tk p loose mean mg mb L D m o odr dl nd ALL Q X T room hl hdr hc F N hne hc1 hc2 C
  have NV : News g L h [(L + 1 + 1 + 1, odr), (D, lstO (dl.map fun p => .int p.1 p.2) nd)] := fun q hq => N q (by
    simp only [List.mem_cons, List.not_mem_nil, or_false] at hq
    rcases hq with rfl | rfl
    · exact .tail _ hc1
    · exact .tail _ hc2)
  have NH : Hide (News g L h _) := N
  clear N
  obtain ⟨q, hq⟩ : ∃ q, dl[0]? = some q := ⟨_, List.getElem?_eq_getElem (by omega)⟩
  have hx1 : (dl.map fun p => Value.int p.1 p.2)[(0 : Int).toNat]? = some (.int q.1 q.2) := by
    rw [show ((0 : Int)).toNat = 0 from rfl, List.getElem?_map, hq]; rfl
  k_steps
  unfold Hide
  have hm7 : 1 + q.1.fmod 7 = ((1 + (q.1 % 7).toNat : Nat) : Int) := by
    rw [Int.fmod_eq_emod_of_nonneg _ (by decide)]; omega
  rw [hm7]
  refine storeC_N F NH hne rfl hc fun h3 o' F3 N3 ho' => ?_
  refine wpAny_execs_nil (C h3 _ o' _ _ ho' (by omega) (by omega) F3 N3)
theorem n_st : PickSpec (stR 3, rowsDef.2) 1 (fun L => L + 1 + 1 + 1 + 1 + 1) := by
  show PickSpec ([_], Scope.mk _ _ _ _ _) _ _
  unfold PickSpec
  intro prog w dp un fr gd s g h tk p loose mean mg mb L D m o odr dl nd ALL Q X T room hl hdr hc F N hne hc1 hc2 C
  have NV : News g L h [(L + 1 + 1 + 1, odr), (D, lstO (dl.map fun p => .int p.1 p.2) nd)] := fun q hq => N q (by
    simp only [List.mem_cons, List.not_mem_nil, or_false] at hq
    rcases hq with rfl | rfl
    · exact .tail _ hc1
    · exact .tail _ hc2)
  have NH : Hide (News g L h _) := N
  clear N
  obtain ⟨q, hq⟩ : ∃ q, dl[1]? = some q := ⟨_, List.getElem?_eq_getElem (by omega)⟩
  have hx1 : (dl.map fun p => Value.int p.1 p.2)[(1 : Int).toNat]? = some (.int q.1 q.2) := by
    rw [show ((1 : Int)).toNat = 1 from rfl, List.getElem?_map, hq]; rfl
  k_steps
  unfold Hide
  have hm7 : 1 + q.1.fmod 7 = ((1 + (q.1 % 7).toNat : Nat) : Int) := by
    rw [Int.fmod_eq_emod_of_nonneg _ (by decide)]; omega
  rw [hm7]
  refine storeC_N F NH hne rfl hc fun h3 o' F3 N3 ho' => ?_
  refine wpAny_execs_nil (C h3 _ o' _ _ ho' (by omega) (by omega) F3 N3)
end
section
set_option maxHeartbeats 4000000
open PySem.Calls PySem.Builtin
local macro_rules | `(tactic| walk_at "storeName") => `(tactic| (k_here; refine hide_intro ?_))
local macro_rules | `(tactic| walk_at "CompSrc") => `(tactic| (k_here; refine hide_intro ?_))
local macro_rules | `(tactic| walk_at "CompSrcT") => `(tactic| (k_here; refine hide_intro ?_))
local macro_rules | `(tactic| walk_at "call builtin:max") => `(tactic| (k_here; refine hide_intro ?_))
section
variable {prog : Program} {w : World} {A : Around} {s : Shared} {h₀ : Heap} {L : Addr} {m : Str → Option Value} {env : Env} {ct elt : PySem.Expr} {x : Str} {scope : Scope} {cl : List (Str × Addr)} {S : List (Addr × Obj) → Prop} {P : Nat → Value → Prop} {Fin : List Value → List (Addr × Obj) → Prop}
theorem CompRestT.ind {n : Nat} (J : Nat → List Value → List (Addr × Obj) → Prop)
    (step : ∀ i ys news, i < n → J i ys news → ∀ v I oI C oC D m₂ h tk, P i v → LCg.NsObj oC m₂ → m₂ x = some v → Fr h₀ L h m → News h₀ L h ((I, oI) :: (C, oC) :: (D, LCg.lst ys) :: news) → LCg.Off3 I C D news → ((@Ne Nat I C) ∧ (@Ne Nat I D) ∧ (@Ne Nat C D)) →
      wpAny (model prog w) A (isTrue ct (compEnvC scope cl C env) (eval ct (compEnvC scope cl C env))) (fun ok s' => if ok = true then
        wpAny (model prog w) A (eval elt (compEnvC scope cl C env)) (LCg.CompEnd h₀ L m { s with heap := h, toks := tk } I oI C oC D (LCg.lst ys) S (fun y news' => J (i + 1) (ys ++ [y]) news')) (fun _ _ => False) s'
        else LCg.CompEnd h₀ L m { s with heap := h, toks := tk } I oI C oC D (LCg.lst ys) S (fun _ news' => J (i + 1) ys news') Value.none s') (fun _ _ => False) { s with heap := h, toks := tk })
    (fin : ∀ ys news, J n ys news → Fin ys news) : ∀ k i ys news, i + k = n → J i ys news → LCt.CompRestT prog w A h₀ L m env ct elt x scope cl s S P Fin k i ys news
  | 0, i, ys, news, e, hJ => by
    have : i = n := by omega
    subst this
    exact LCt.CompRestT.zero (fin _ _ hJ)
  | k + 1, i, ys, news, e, hJ => by
    refine LCt.CompRestT.succ fun v I oI C oC D m₂ h tk E' hP hN hx F N o hn => ?_
    refine wpAny_noRaise (wpAny_mono (step i ys news (by omega) hJ v I oI C oC D m₂ h tk hP hN hx F N o hn) (fun ok s₂ hy => ?_) fun _ _ z => z.elim)
    cases ok with
    | true =>
      rw [if_pos rfl] at hy ⊢
      refine wpAny_noRaise (wpAny_mono hy (fun y s₃ hy => ?_) fun _ _ z => z.elim)
      exact CompEnd.mono hy fun n' hj => CompRestT.ind J step fin k (i + 1) _ n' (by omega) hj
    | false =>
      rw [if_neg (by decide)] at hy ⊢
      exact CompEnd.mono hy fun n' hj => CompRestT.ind J step fin k (i + 1) _ n' (by omega) hj
end
theorem range1_small {k : Nat} (hk : k ≤ 1000) : Builtin.Range.small 1 ((k : Int) + 1) 1 = true ∧ Builtin.Range.rangeSize 1 ((k : Int) + 1) 1 = ((k : Nat) : Int) := by
  have hsz : Builtin.Range.rangeSize 1 ((k : Int) + 1) 1 = k := by
    unfold Builtin.Range.rangeSize
    rw [if_pos (by decide)]
    split <;> omega
  refine ⟨?_, hsz⟩
  have hf : ∀ i : Int, -1000 ≤ i → i ≤ 2000 → Builtin.Range.rangeFitsLong i = true := fun i a b => by
    unfold Builtin.Range.rangeFitsLong
    simp only [Bool.and_eq_true, decide_eq_true_eq]
    omega
  unfold Builtin.Range.small
  rw [hsz, hf 1 (by omega) (by omega), hf ((k : Int) + 1) (by omega) (by omega)]
  rw [if_pos (by decide), hf _ (by omega) (by omega)]
  simp
  exact .inr (hf _ (by omega) (by omega))
local macro_rules | `(tactic| walk_at "binaryOp Mod int int") => `(tactic| walk_at "mq11")
theorem div_yes {xs : List Int} {j M N : Nat} (h : ∀ a, a ∈ xs ↔ ∃ k : Nat, k < j ∧ a = ((k + 1 : Nat) : Int) ∧ M % (k + 1) = 0 ∧ N % (k + 1) = 0) (hM : M % (j + 1) = 0) (hN : N % (j + 1) = 0) :
    ∀ a, a ∈ xs ++ [(1 + (j : Int))] ↔ ∃ k : Nat, k < j + 1 ∧ a = ((k + 1 : Nat) : Int) ∧ M % (k + 1) = 0 ∧ N % (k + 1) = 0 := fun a => by
  rw [List.mem_append, List.mem_singleton, h a]
  constructor
  · rintro (⟨k, hk, r⟩ | rfl)
    · exact ⟨k, by omega, r⟩
    · exact ⟨j, by omega, by omega, hM, hN⟩
  · rintro ⟨k, hk, r1, r2, r3⟩
    by_cases e : k = j
    · subst e; right; omega
    · exact .inl ⟨k, by omega, r1, r2, r3⟩
theorem div_no {xs : List Int} {j M N : Nat} (h : ∀ a, a ∈ xs ↔ ∃ k : Nat, k < j ∧ a = ((k + 1 : Nat) : Int) ∧ M % (k + 1) = 0 ∧ N % (k + 1) = 0) (hn : ¬ (M % (j + 1) = 0 ∧ N % (j + 1) = 0)) :
    ∀ a, a ∈ xs ↔ ∃ k : Nat, k < j + 1 ∧ a = ((k + 1 : Nat) : Int) ∧ M % (k + 1) = 0 ∧ N % (k + 1) = 0 := fun a => by
  rw [h a]
  constructor
  · rintro ⟨k, hk, r⟩
    exact ⟨k, by omega, r⟩
  · rintro ⟨k, hk, r1, r2, r3⟩
    by_cases e : k = j
    · subst e; exact absurd ⟨r2, r3⟩ hn
    · exact ⟨k, by omega, r1, r2, r3⟩
theorem div_max {xs : List Int} {M N : Nat} (hM : 1 ≤ M) (h : ∀ a, a ∈ xs ↔ ∃ k : Nat, k < M ∧ a = ((k + 1 : Nat) : Int) ∧ M % (k + 1) = 0 ∧ N % (k + 1) = 0) {b : Int} (hb : b ∈ xs) (hmax : ∀ a, a ∈ xs → a ≤ b) : b = ((Nat.gcd M N : Nat) : Int) := by
  have hg : 0 < Nat.gcd M N := Nat.gcd_pos_of_pos_left N hM
  have hgl : Nat.gcd M N ≤ M := Nat.gcd_le_left _ hM
  obtain ⟨k, hk, rfl, r2, r3⟩ := (h b).mp hb
  have h1 : k + 1 ∣ Nat.gcd M N := Nat.dvd_gcd (Nat.dvd_of_mod_eq_zero r2) (Nat.dvd_of_mod_eq_zero r3)
  have h2 := Nat.le_of_dvd hg h1
  have h3 := hmax ((Nat.gcd M N : Nat) : Int) ((h _).mpr ⟨Nat.gcd M N - 1, by omega, by omega, by
    rw [Nat.sub_add_cancel hg]; exact Nat.mod_eq_zero_of_dvd (Nat.gcd_dvd_left M N), by
    rw [Nat.sub_add_cancel hg]; exact Nat.mod_eq_zero_of_dvd (Nat.gcd_dvd_right M N)⟩)
  omega
/-- size = m + n - max([k for k in range(1, m + 1) if m % k == 0 and n % k == 0]) -/
def SizeSpec (bs : List Stmt × Scope) : Prop := ∀ {prog : Program} {w : World} {dp un : Nat} {fr : Option (List Env)} {gd : Option (List Code)} {s : Shared} {g h : Heap} {tk : Nat} {p : Program} {loose : List Str} {mean : ExcName → Option Value} {mg mb : Str → Option Value}
  {L : Addr} {m : Str → Option Value} {om on : Obj} {M N : Nat} {tm tn : Tok} {ALL : List (Addr × Obj)} {Q : Flow → Shared → Prop}
  (_ : (hd.heap_39 w.params).In g) (_ : Top p loose mean mg mb g) (_ : dp + 20 < recursionLimit)
  (_ : 1 ≤ M) (_ : M ≤ 7) (_ : 1 ≤ N) (_ : N ≤ 7) (_ : om.data = .cell (some (.int M tm))) (_ : on.data = .cell (some (.int N tn)))
  (_ : Fr g L h m)
  (_ : News g L h ALL) (_ : (L + 1 + 1 + 1 + 1, om) ∈ ALL) (_ : (L + 1 + 1 + 1 + 1 + 1, on) ∈ ALL)
  (_ : ∀ h' tk' t, Fr g L h' (fun y => if y = Str.ofString "size" then some (.int ((M + N - Nat.gcd M N : Nat) : Int) t) else m y) → News g L h' ALL → Q .next { s with heap := h', toks := tk' }),
  wpAny (model prog w) ((Ar dp un fr gd).deeper (rowsEnv bs.2 L)) (execs bs.1 (rowsEnv bs.2 L)) Q (fun _ _ => False) { s with heap := h, toks := tk }
theorem size_st : SizeSpec (stR 4, rowsDef.2) := by
  show SizeSpec ([_], Scope.mk _ _ _ _ _)
  unfold SizeSpec
  intro prog w dp un fr gd s g h tk p loose mean mg mb L m om on M N tm tn ALL Q X T room hM1 hM7 hN1 hN7 hc1 hc2 F N0 hm1 hm2 C
  have NV : News g L h ((L + 1 + 1 + 1 + 1, om) :: (L + 1 + 1 + 1 + 1 + 1, on) :: ALL) := List.forall_mem_cons.mpr ⟨N0 _ hm1, List.forall_mem_cons.mpr ⟨N0 _ hm2, N0⟩⟩
  clear N0
  k_steps
  rename IsRange _ _ _ _ _ _ _ _ => hrg
  rename Fr _ _ _ _ => F2
  rename_i N2 hkp
  clear hkp
  unfold Hide
  have hrs := range1_small (k := M) (by omega)
  dsimp only
  k_dflt (refine LCt.CompSrcT.range (n := M) rfl F2 N2 hrg hrs.1 hrs.2 (Nat.le_trans hM7 (by decide)) fun g' => ?_)
  clear F2 N2 hrg
  refine CompRestT.ind (n := M) (fun j ys news => news = (L + 1 + 1 + 1 + 1, om) :: (L + 1 + 1 + 1 + 1 + 1, on) :: ALL ∧ ∃ xl : List (Int × Tok), ys = xl.map (fun p => .int p.1 p.2) ∧ xl.length ≤ j ∧ ∀ a, a ∈ xl.map (·.1) ↔ ∃ k : Nat, k < j ∧ a = ((k + 1 : Nat) : Int) ∧ M % (k + 1) = 0 ∧ N % (k + 1) = 0) ?_ ?_ M 0 [] _ (by omega) ⟨rfl, [], rfl, Nat.zero_le _, fun a => ⟨fun h => (nomatch h), fun ⟨k, h, _⟩ => absurd h (Nat.not_lt_zero _)⟩⟩
  · rintro j ys news hj ⟨rfl, xl, rfl, hxl, hxb⟩ v I oI C2 oC E m₂ h2 tk2 hP hN hx F2 N2 o hn
    obtain ⟨tv, rfl⟩ := hP
    have hb0 : (1 : Int) + (j : Int) ≠ 0 := by omega
    dsimp only
    have fmK : ∀ K : Nat, (K : Int).fmod (1 + (j : Int)) = ((K % (j + 1) : Nat) : Int) := fun K => by
      rw [Int.fmod_eq_emod_of_nonneg _ (by omega), show (1 : Int) + j = ((j + 1 : Nat) : Int) by omega]; rfl
    k_steps
    · rename_i hA hB
      rw [fmK] at hA hB
      refine LCg.CompEnd.intro F2 N2 _ (fun q hq => hq) o trivial ⟨rfl, xl ++ [(1 + (j : Int), tv)], by simp, by simp; omega, ?_⟩
      rw [List.map_append]
      exact div_yes hxb (by omega) (by omega)
    · rename_i hA hB
      rw [fmK] at hA hB
      exact LCg.CompEnd.intro F2 N2 _ (fun q hq => hq) o trivial ⟨rfl, xl, rfl, by omega, div_no hxb (by omega)⟩
    · rename_i hA
      rw [fmK] at hA
      exact LCg.CompEnd.intro F2 N2 _ (fun q hq => hq) o trivial ⟨rfl, xl, rfl, by omega, div_no hxb (by omega)⟩
  · rintro ys news ⟨rfl, xl, rfl, hxl, hxb⟩ D h2 tk2 F2 N2 o1
    dsimp only
    k_steps
    unfold Hide
    have h1m : (1 : Int) ∈ xl.map (·.1) := (hxb 1).mpr ⟨0, by omega, rfl, Nat.mod_one _, Nat.mod_one _⟩
    refine max_list_N rfl F2 N2 ⟨_, (N2 _ (.head _)).1, rfl, _, rfl⟩ (ints_of xl) (List.length_pos_of_mem h1m) fun h3 M' t3 tk3 F3 N3 hmem hmax => ?_
    have hg : M' = ((Nat.gcd M N : Nat) : Int) := div_max hM1 hxb hmem hmax
    subst hg
    clear F2 N2
    have hgl : Nat.gcd M N ≤ M := Nat.gcd_le_left _ hM1
    k_steps
    unfold Hide
    dsimp only
    rw [show (M : Int) + (N : Int) - ((Nat.gcd M N : Nat) : Int) = ((M + N - Nat.gcd M N : Nat) : Int) by omega]
    refine wpAny_storeName_local rfl F3.ns (fun h4 hn4 hs4 => ?_)
    exact wpAny_execs_nil (C h4 _ _ (F3.set hn4 hs4) (News.sub (N3.set hs4) fun q hq => .tail _ (.tail _ (.tail _ hq))))
end
section
set_option maxHeartbeats 4000000
open PySem.Calls PySem.Builtin
local macro_rules | `(tactic| walk_at "storeName") => `(tactic| (k_here; refine hide_intro ?_))
local macro_rules | `(tactic| walk_at "call type:list") => `(tactic| (k_here; refine hide_intro ?_))
theorem ints_split {vs : List Value} {ns : List Int} (h : IntsAre vs ns) : ∃ kl : List (Int × Tok), vs = kl.map (fun p => Value.int p.1 p.2) ∧ kl.map (·.1) = ns := by
  induction h with
  | nil => exact ⟨[], rfl, rfl⟩
  | cons n t _ ih =>
    obtain ⟨kl, e1, e2⟩ := ih
    exact ⟨(n, t) :: kl, by rw [e1]; rfl, by rw [← e2]; rfl⟩
/-- marks = list(range(m + n)) -/
def MarksSpec (bs : List Stmt × Scope) : Prop := ∀ {prog : Program} {w : World} {dp un : Nat} {fr : Option (List Env)} {gd : Option (List Code)} {s : Shared} {g h : Heap} {tk : Nat} {p : Program} {loose : List Str} {mean : ExcName → Option Value} {mg mb : Str → Option Value}
  {L : Addr} {m : Str → Option Value} {om on : Obj} {M N : Nat} {tm tn : Tok} {ALL : List (Addr × Obj)} {Q : Flow → Shared → Prop}
  (_ : (hd.heap_39 w.params).In g) (_ : Top p loose mean mg mb g) (_ : dp + 20 < recursionLimit)
  (_ : 1 ≤ M) (_ : M ≤ 7) (_ : 1 ≤ N) (_ : N ≤ 7) (_ : om.data = .cell (some (.int M tm))) (_ : on.data = .cell (some (.int N tn)))
  (_ : Fr g L h m)
  (_ : News g L h ALL) (_ : (L + 1 + 1 + 1 + 1, om) ∈ ALL) (_ : (L + 1 + 1 + 1 + 1 + 1, on) ∈ ALL)
  (_ : ∀ h' tk' D nd (kl : List (Int × Tok)), kl.length = M + N → (∀ q ∈ kl, 0 ≤ q.1 ∧ q.1 < ((M + N : Nat) : Int)) → Fr g L h' (fun y => if y = Str.ofString "marks" then some (.ref D) else m y) → News g L h' ((D, lstO (kl.map fun p => .int p.1 p.2) nd) :: ALL) →
     (∀ q ∈ ALL, q.1 ≠ D) → Q .next { s with heap := h', toks := tk' }),
  wpAny (model prog w) ((Ar dp un fr gd).deeper (rowsEnv bs.2 L)) (execs bs.1 (rowsEnv bs.2 L)) Q (fun _ _ => False) { s with heap := h, toks := tk }
theorem marks_st : MarksSpec (stR 5, rowsDef.2) := by
  show MarksSpec ([_], Scope.mk _ _ _ _ _)
  unfold MarksSpec
  intro prog w dp un fr gd s g h tk p loose mean mg mb L m om on M N tm tn ALL Q X T room hM1 hM7 hN1 hN7 hc1 hc2 F N0 hm1 hm2 C
  have NV : News g L h ((L + 1 + 1 + 1 + 1, om) :: (L + 1 + 1 + 1 + 1 + 1, on) :: ALL) := List.forall_mem_cons.mpr ⟨N0 _ hm1, List.forall_mem_cons.mpr ⟨N0 _ hm2, N0⟩⟩
  clear N0
  k_steps
  rename IsRange _ _ _ _ _ _ _ _ => hrg
  rename Fr _ _ _ _ => F2
  rename_i N2 hkp
  clear hkp
  unfold Hide
  rw [show (M : Int) + (N : Int) = ((M + N : Nat) : Int) by omega] at hrg
  have hrs := range_small (k := M + N) (by omega)
  refine kll_range rfl F2 N2 hrg hrs.1 hrs.2 (by omega) fun D us c h3 tk3 F3 N3 l3 hI => ?_
  clear F2 N2
  obtain ⟨kl, rfl, hkl⟩ := ints_split hI
  k_steps
  unfold Hide
  refine wpAny_storeName_local rfl F3.ns (fun h4 hn4 hs4 => ?_)
  have hlen : kl.length = M + N := by
    have := congrArg List.length hkl
    rw [List.length_map, rangeKs_length] at this
    exact this
  refine wpAny_execs_nil (C h4 _ D c kl hlen (fun q hq => ?_) (F3.set hn4 hs4) (News.sub (N3.set hs4) fun q hq => ?_) fun q hq => Nat.ne_of_lt (l3 q (.tail _ (.tail _ hq))))
  · have := mem_rangeKs (hkl ▸ List.mem_map_of_mem hq : q.1 ∈ rangeKs 0 (M + N))
    omega
  · rcases List.mem_cons.mp hq with rfl | hq
    · exact .head _
    · exact .tail _ (.tail _ (.tail _ hq))
end
section
set_option maxHeartbeats 4000000
open PySem.Calls PySem.Builtin
section
variable {prog : Program} {w : World} {A : Around} {E : Value → Shared → Prop} {s : Shared} {h₀ : Heap} {L : Addr} {m : Str → Option Value} {news : List (Addr × Obj)}
theorem rangeI_small {a : Int} (h0 : -1000 ≤ a) (h1 : a ≤ 1000) : Builtin.Range.small 0 a 1 = true ∧ Builtin.Range.rangeSize 0 a 1 = ((a.toNat : Nat) : Int) := by
  have hsz : Builtin.Range.rangeSize 0 a 1 = ((a.toNat : Nat) : Int) := by
    unfold Builtin.Range.rangeSize
    rw [if_pos (by decide)]
    split <;> omega
  refine ⟨?_, hsz⟩
  have hf : ∀ i : Int, -1000 ≤ i → i ≤ 2000 → Builtin.Range.rangeFitsLong i = true := fun i a b => by
    unfold Builtin.Range.rangeFitsLong
    simp only [Bool.and_eq_true, decide_eq_true_eq]
    omega
  unfold Builtin.Range.small
  rw [hsz, hf 0 (by omega) (by omega), hf a (by omega) (by omega), hf 1 (by omega) (by omega)]
  rw [if_pos (by decide), hf _ (by omega) (by omega)]
  simp
  exact .inr (hf _ (by omega) (by omega))
theorem pyIter_rangeI_N {r : Addr} {a : Int} {t u v : Tok} {Q : Value → Shared → Prop} (F : Fr h₀ L s.heap m) (N : News h₀ L s.heap news) (hr : IsRange s.heap r 0 a 1 t u v) (h0 : -1000 ≤ a) (h1 : a ≤ 1000)
    (h : ∀ it h', Fr h₀ L h' m → News h₀ L h' ((it, riO 0 (a.toNat : Nat) 1) :: news) → (∀ p ∈ news, p.1 < it) → Q (.ref it) { s with heap := h' }) : wpAny (model prog w) A (pyIter (.ref r)) Q E s := by
  have hs := rangeI_small h0 h1
  refine wpAny_pyIter_range hr hs.1 ?_
  rw [hs.2]
  exact h _ _ (F.push _) (N.push F _) fun p hp => Heap.lt_size (N p hp).1
end
theorem fm_k (m : Str → Option Value) (a v : Option Value) (x : Option Value) : (fun z => if z = Str.ofString "k" then x else if z = Str.ofString "marks" then a else if z = Str.ofString "k" then v else m z) = (fun z => if z = Str.ofString "marks" then a else if z = Str.ofString "k" then x else m z) := by
  funext z
  by_cases e : z = Str.ofString "k"
  · subst e; rfl
  · simp [e]
end
local macro_rules | `(tactic| walk_at "mq19") => `(tactic| (k_here; (with_reducible show wpAny _ _ (subscriptTail _ _ (Value.ref _) (Value.int _ _)) _ _ _); k_dflt (refine' item_N ?N ?m ?z ?x ?_; (case N => k_asm); (case m => k_mem); (case z => first | assumption | decide); (case x => assumption))))
local macro_rules | `(tactic| walk_at "mq20") => `(tactic| (k_here; k_dflt (refine' mod_int' ?hb ?_; (case hb => first | assumption | decide))))
section
set_option maxHeartbeats 4000000
open PySem.Calls PySem.Builtin
local macro_rules | `(tactic| walk_at "storeName") => `(tactic| (k_here; refine hide_intro ?_))
local macro_rules | `(tactic| walk_at "CompSrc") => `(tactic| (k_here; refine hide_intro ?_))
local macro_rules | `(tactic| walk_at "pyIter ref") => `(tactic| (k_here; refine hide_intro ?_))
local macro_rules | `(tactic| walk_at "exec For Name Call cons nil") => `(tactic| (k_here; (with_unfolding_all refine' For_my ?k2 ?k1; (case k1 => exact fun _ => rfl))))
local macro_rules | `(tactic| walk_at "subscriptTail") => `(tactic| walk_at "mq19")
local macro_rules | `(tactic| walk_at "binaryOp Mod int int") => `(tactic| walk_at "mq20")
local macro_rules | `(tactic| walk_at "nm") => `(tactic| walk_at "mq12")
local macro_rules | `(tactic| walk_at "eval Name") => `(tactic| walk_at "mq13")
/-- for k in range(size - drawn[2] % 3): .. -/
def TurnsSpec (bs : List Stmt × Scope) : Prop := ∀ {prog : Program} {w : World} {dp un : Nat} {fr : Option (List Env)} {gd : Option (List Code)} {s : Shared} {g h : Heap} {tk : Nat} {p : Program} {loose : List Str} {mean : ExcName → Option Value} {mg mb : Str → Option Value}
  {L D Dd : Addr} {m : Str → Option Value} {odr om on okp ogn : Obj} {dl kl : List (Int × Tok)} {M N nd nk sz : Nat} {tm tn tz : Tok} {vk vg : Option Value} {ALL : List (Addr × Obj)} {Q : Flow → Shared → Prop}
  (_ : (hd.heap_39 w.params).In g) (_ : Top p loose mean mg mb g) (_ : dp + 20 < recursionLimit)
  (_ : 1 ≤ M) (_ : M ≤ 7) (_ : 1 ≤ N) (_ : N ≤ 7) (_ : om.data = .cell (some (.int M tm))) (_ : on.data = .cell (some (.int N tn))) (_ : sz ≤ 14)
  (_ : dl.length = 17) (_ : odr.data = .cell (some (.ref Dd))) (_ : okp.data = .cell vk) (_ : ogn.data = .cell vg)
  (_ : kl.length = M + N) (_ : ∀ q ∈ kl, 0 ≤ q.1 ∧ q.1 < ((M + N : Nat) : Int))
  (_ : Fr g L h m) (_ : m (Str.ofString "size") = some (.int sz tz)) (_ : m (Str.ofString "marks") = some (.ref D)) (_ : m (Str.ofString "k") = none)
  (_ : News g L h ((L + 1 + 1 + 1 + 1 + 1 + 1, okp) :: (L + 1 + 1 + 1 + 1 + 1 + 1 + 1, ogn) :: (D, lstO (kl.map fun p => .int p.1 p.2) nk) :: ALL)) (_ : ∀ q ∈ (D, lstO (kl.map fun p => .int p.1 p.2) nk) :: ALL, q.1 ≠ L + 1 + 1 + 1 + 1 + 1 + 1 ∧ q.1 ≠ L + 1 + 1 + 1 + 1 + 1 + 1 + 1)
  (_ : (L + 1 + 1 + 1, odr) ∈ ALL) (_ : (Dd, lstO (dl.map fun p => .int p.1 p.2) nd) ∈ ALL) (_ : (L + 1 + 1 + 1 + 1, om) ∈ ALL) (_ : (L + 1 + 1 + 1 + 1 + 1, on) ∈ ALL)
  (_ : ∀ h' tk' D' nk' kv (kl' : List (Int × Tok)), kl'.length = M + N → (∀ q ∈ kl', 0 ≤ q.1 ∧ q.1 < ((M + N : Nat) : Int)) → Fr g L h' (fun y => if y = Str.ofString "marks" then some (.ref D') else if y = Str.ofString "k" then kv else m y) →
     News g L h' ((D', lstO (kl'.map fun p => .int p.1 p.2) nk') :: ALL) → Q .next { s with heap := h', toks := tk' }),
  wpAny (model prog w) ((Ar dp un fr gd).deeper (rowsEnv bs.2 L)) (execs bs.1 (rowsEnv bs.2 L)) Q (fun _ _ => False) { s with heap := h, toks := tk }
theorem turns_st : TurnsSpec (stR 6, rowsDef.2) := by
  show TurnsSpec ([_], Scope.mk _ _ _ _ _)
  unfold TurnsSpec
  intro prog w dp un fr gd s g h tk p loose mean mg mb L D Dd m odr om on okp ogn dl kl M N nd nk sz tm tn tz vk vg ALL Q X T room hM1 hM7 hN1 hN7 hc1 hc2 hsz hdl hdr hkp hgn hkl hkb F hms hmm hmk N0 hne ha1 ha2 ha3 ha4 C
  have N1 : News g L h ((L + 1 + 1 + 1, odr) :: (Dd, lstO (dl.map fun p => .int p.1 p.2) nd) :: ((L + 1 + 1 + 1 + 1 + 1 + 1, okp) :: (L + 1 + 1 + 1 + 1 + 1 + 1 + 1, ogn) :: (D, lstO (kl.map fun p => .int p.1 p.2) nk) :: ALL)) :=
    List.forall_mem_cons.mpr ⟨N0 _ (.tail _ (.tail _ (.tail _ ha1))), List.forall_mem_cons.mpr ⟨N0 _ (.tail _ (.tail _ (.tail _ ha2))), N0⟩⟩
  clear N0
  obtain ⟨q2, hq2⟩ : ∃ q, dl[2]? = some q := ⟨_, List.getElem?_eq_getElem (by omega)⟩
  have hx1 : (dl.map fun p => Value.int p.1 p.2)[(2 : Int).toNat]? = some (.int q2.1 q2.2) := by
    rw [show ((2 : Int)).toNat = 2 from rfl, List.getElem?_map, hq2]; rfl
  generalize hLED : (L + 1 + 1 + 1 + 1 + 1 + 1, okp) :: (L + 1 + 1 + 1 + 1 + 1 + 1 + 1, ogn) :: (D, lstO (kl.map fun p => .int p.1 p.2) nk) :: ALL = LED at *
  k_steps
  rename IsRange _ _ _ _ _ _ _ _ => hrg
  rename Fr _ _ _ _ => F2
  rename_i N2 hkp'
  clear hkp'
  unfold Hide
  subst hLED
  replace N2 := News.sub (a := (L + 1 + 1 + 1 + 1 + 1 + 1, okp) :: (L + 1 + 1 + 1 + 1 + 1 + 1 + 1, ogn) :: (D, lstO (kl.map fun p => .int p.1 p.2) nk) :: ALL) N2 (fun q hq => .tail _ (.tail _ hq))
  have hf3 : 0 ≤ q2.1.fmod 3 ∧ q2.1.fmod 3 < 3 := by
    rw [Int.fmod_eq_emod_of_nonneg _ (by decide)]; omega
  refine pyIter_rangeI_N F2 N2 hrg (by omega) (by omega) fun it h2 F3 N4 l4 => ?_
  clear F2 N2 hrg
  generalize ((sz : Int) - q2.1.fmod 3).toNat = SZ at *
  have hL6 : L + 1 + 1 + 1 + 1 + 1 + 1 ≠ it := Nat.ne_of_lt (l4 _ (.head _))
  have hL7 : L + 1 + 1 + 1 + 1 + 1 + 1 + 1 ≠ it := Nat.ne_of_lt (l4 _ (.tail _ (.head _)))
  have hDi : D ≠ it := Nat.ne_of_lt (l4 _ (.tail _ (.tail _ (.head _))))
  have hAi : ∀ q ∈ ALL, q.1 ≠ it := fun q hq => Nat.ne_of_lt (l4 _ (.tail _ (.tail _ (.tail _ hq))))
  have hA67 : ∀ q ∈ ALL, q.1 ≠ L + 1 + 1 + 1 + 1 + 1 + 1 ∧ q.1 ≠ L + 1 + 1 + 1 + 1 + 1 + 1 + 1 := fun q hq => hne q (.tail _ hq)
  have hD67 := hne _ (.head _)
  refine MyFor.intro (fun j s' => ∃ (i : Nat) (h' : Heap) (tk : Nat) (D' : Addr) (nk' : Nat) (kv : Option Value) (kl' : List (Int × Tok)) (okp' ogn' : Obj) (vk' vg' : Option Value), i ≤ SZ ∧ j = SZ - i ∧ s' = { s with heap := h', toks := tk } ∧
     okp'.data = .cell vk' ∧ ogn'.data = .cell vg' ∧ kl'.length = M + N ∧ (∀ q ∈ kl', 0 ≤ q.1 ∧ q.1 < ((M + N : Nat) : Int)) ∧ (D' ≠ L + 1 + 1 + 1 + 1 + 1 + 1 ∧ D' ≠ L + 1 + 1 + 1 + 1 + 1 + 1 + 1) ∧ D' ≠ it ∧
     Fr g L h' (fun y => if y = Str.ofString "marks" then some (.ref D') else if y = Str.ofString "k" then kv else m y) ∧
     News g L h' ((it, riO i (SZ - i) 1) :: (L + 1 + 1 + 1 + 1 + 1 + 1, okp') :: (L + 1 + 1 + 1 + 1 + 1 + 1 + 1, ogn') :: (D', lstO (kl'.map fun p => .int p.1 p.2) nk') :: ALL)) SZ
     ⟨0, h2, _, D, nk, none, kl, okp, ogn, vk, vg, Nat.zero_le _, rfl, rfl, hkp, hgn, hkl, hkb, hD67, hDi, ?_, ?_⟩ ?_
  · have e1 : (fun y => if y = Str.ofString "marks" then some (Value.ref D) else if y = Str.ofString "k" then none else m y) = m := by
      funext y
      by_cases e : y = Str.ofString "marks"
      · subst e; simp [hmm]
      · by_cases e2 : y = Str.ofString "k"
        · subst e2; rw [if_neg e, if_pos rfl, hmk]
        · simp [e, e2]
    rw [e1]; exact F3
  · rw [show ((0 : Nat) : Int) = 0 from rfl, Int.sub_zero]; exact N4
  clear F3 N4
  rintro j s' ⟨i, h', tk, D', nk', kv, kl', okp', ogn', vk', vg', hi, rfl, rfl, hk1, hk2, hkl', hkb', hD67', hDi', F, N⟩
  have hrest : ∀ q ∈ (L + 1 + 1 + 1 + 1 + 1 + 1, okp') :: (L + 1 + 1 + 1 + 1 + 1 + 1 + 1, ogn') :: (D', lstO (kl'.map fun p => .int p.1 p.2) nk') :: ALL, q.1 ≠ it :=
    List.forall_mem_cons.mpr ⟨hL6, List.forall_mem_cons.mpr ⟨hL7, List.forall_mem_cons.mpr ⟨hDi', hAi⟩⟩⟩
  by_cases hlt : i < SZ
  · refine pyNext_range_N (it := it) (x := (i : Int)) (left := (SZ : Int) - i) (by omega) F N (.head hrest) fun h2 F2 N2 => ?_
    clear F N
    refine wpAny_storeName_local rfl F2.ns (fun h3 hn3 hs3 => ?_)
    have F3 := F2.set hn3 hs3
    have N3 := N2.set hs3
    clear F2 N2 hn3 hs3
    rw [fm_k] at F3
    have N4 : News g L h3 ((L + 1 + 1 + 1 + 1, om) :: (L + 1 + 1 + 1 + 1 + 1, on) :: (it, riO (i + 1) (SZ - i - 1) 1) :: (L + 1 + 1 + 1 + 1 + 1 + 1, okp') :: (L + 1 + 1 + 1 + 1 + 1 + 1 + 1, ogn') :: (D', lstO (kl'.map fun p => .int p.1 p.2) nk') :: ALL) :=
      List.forall_mem_cons.mpr ⟨N3 _ (.tail _ (.tail _ (.tail _ (.tail _ ha3)))), List.forall_mem_cons.mpr ⟨N3 _ (.tail _ (.tail _ (.tail _ (.tail _ ha4)))), N3⟩⟩
    clear N3
    have hMne : (M : Int) ≠ 0 := by omega
    have hNne : (N : Int) ≠ 0 := by omega
    have fM : (i : Int).fmod (M : Int) = ((i % M : Nat) : Int) := by rw [Int.fmod_eq_emod_of_nonneg _ (by omega)]; rfl
    have fN : (i : Int).fmod (N : Int) = ((i % N : Nat) : Int) := by rw [Int.fmod_eq_emod_of_nonneg _ (by omega)]; rfl
    have lM : i % M < M := Nat.mod_lt _ hM1
    have lN : i % N < N := Nat.mod_lt _ hN1
    obtain ⟨qa, hqa⟩ : ∃ q, kl'[i % M]? = some q := ⟨_, List.getElem?_eq_getElem (by omega)⟩
    obtain ⟨qb, hqb⟩ : ∃ q, kl'[M + i % N]? = some q := ⟨_, List.getElem?_eq_getElem (by omega)⟩
    have hz1 : (0 : Int) ≤ (i : Int).fmod (M : Int) ∧ (i : Int).fmod (M : Int) < 2 ^ 63 := by rw [fM]; omega
    have hz2 : (0 : Int) ≤ (M : Int) + (i : Int).fmod (N : Int) ∧ (M : Int) + (i : Int).fmod (N : Int) < 2 ^ 63 := by rw [fN]; omega
    have hx2 : (kl'.map fun p => Value.int p.1 p.2)[((i : Int).fmod (M : Int)).toNat]? = some (.int qa.1 qa.2) := by
      rw [fM, Int.toNat_natCast, List.getElem?_map, hqa]; rfl
    have hx3 : (kl'.map fun p => Value.int p.1 p.2)[((M : Int) + (i : Int).fmod (N : Int)).toNat]? = some (.int qb.1 qb.2) := by
      rw [fN, show ((M : Int) + ((i % N : Nat) : Int)).toNat = M + i % N by omega, List.getElem?_map, hqb]; rfl
    k_steps
    rename Fr g L _ _ => F5
    rename News g L _ _ => N5
    unfold Hide
    dsimp only
    have N6 : News g L _ ((L + 1 + 1 + 1 + 1 + 1 + 1, okp') :: (it, riO (i + 1) (SZ - i - 1) 1) :: (L + 1 + 1 + 1 + 1 + 1 + 1 + 1, ogn') :: (D', lstO (kl'.map fun p => .int p.1 p.2) nk') :: ALL) := News.sub N5 (fun q hq => by
      simp only [List.mem_cons] at hq ⊢
      grind)
    clear N5
    refine storeC_N F5 N6 (List.forall_mem_cons.mpr ⟨hL6.symm, List.forall_mem_cons.mpr ⟨by show @Ne Nat _ _; dsimp only; omega, List.forall_mem_cons.mpr ⟨hD67'.1, fun q hq => (hA67 q hq).1⟩⟩⟩) rfl hk1 fun h4 o1 F6 N7 ho1 => ?_
    clear F5 N6
    k_steps
    unfold Hide
    dsimp only
    have N8 : News g L _ ((L + 1 + 1 + 1 + 1 + 1 + 1 + 1, ogn') :: (L + 1 + 1 + 1 + 1 + 1 + 1, o1) :: (it, riO (i + 1) (SZ - i - 1) 1) :: (D', lstO (kl'.map fun p => .int p.1 p.2) nk') :: ALL) := News.sub N7 (fun q hq => by
      simp only [List.mem_cons] at hq ⊢
      grind)
    clear N7
    refine storeC_N F6 N8 (List.forall_mem_cons.mpr ⟨by show @Ne Nat _ _; dsimp only; omega, List.forall_mem_cons.mpr ⟨hL7.symm, List.forall_mem_cons.mpr ⟨hD67'.2, fun q hq => (hA67 q hq).2⟩⟩⟩) rfl hk2 fun h5 o2 F7 N9 ho2 => ?_
    clear F6 N8
    k_steps
    unfold Hide
    dsimp only
    have hbound : ∀ (k : Nat) (q : Int × Tok), kl'[k]? = some q → 0 ≤ q.1 ∧ q.1 < ((M + N : Nat) : Int) := fun k q hq => hkb' q (List.mem_of_getElem? hq)
    have hDm : (D', lstO (kl'.map fun p => Value.int p.1 p.2) nk') ∈ (L + 1 + 1 + 1 + 1 + 1 + 1 + 1, o2) :: (L + 1 + 1 + 1 + 1 + 1 + 1, o1) :: (it, riO (i + 1) (SZ - i - 1) 1) :: (D', lstO (kl'.map fun p => .int p.1 p.2) nk') :: ALL := .tail _ (.tail _ (.tail _ (.head _)))
    k_dflt (refine LCg.CompSrc.ledger (its := (kl'.map fun p => Value.int p.1 p.2).toArray) (k := nk') rfl F7 N9 hDm ?_ fun g' => ?_)
    · simp only [List.size_toArray, List.length_map, hkl']; exact Nat.le_trans (by omega : M + N ≤ 14) (by decide)
    clear F7 N9
    have hsize : (kl'.map fun p => Value.int p.1 p.2).toArray.size = kl'.length := by simp
    rw [hsize]
    generalize hLE : (it, riO (i + 1) (SZ - i - 1) 1) :: (D', lstO (kl'.map fun p => .int p.1 p.2) nk') :: ALL = LE at *
    refine CompRest.ind (n := kl'.length) (fun j ys news => news = (L + 1 + 1 + 1 + 1 + 1 + 1 + 1, o2) :: (L + 1 + 1 + 1 + 1 + 1 + 1, o1) :: LE ∧ ∃ xl : List (Int × Tok), ys = xl.map (fun p => .int p.1 p.2) ∧ xl.length = j ∧ ∀ q ∈ xl, 0 ≤ q.1 ∧ q.1 < ((M + N : Nat) : Int)) ?_ ?_ kl'.length 0 [] _ (by omega) ⟨rfl, [], rfl, rfl, fun _ hq => nomatch hq⟩
    · rintro j ys news hj ⟨rfl, xl, rfl, hxl, hxb⟩ v I oI C2 oC E m₂ h6 tk6 hP hN hx F8 N8 o hn
      obtain ⟨q, hq⟩ : ∃ q, kl'[j]? = some q := ⟨_, List.getElem?_eq_getElem hj⟩
      have hv : v = .int q.1 q.2 := by
        have hP' : (kl'.map fun p => Value.int p.1 p.2)[j]? = some v := by simpa using hP
        rw [List.getElem?_map, hq] at hP'
        exact (Option.some.inj hP').symm
      subst hv
      dsimp only
      k_steps
      · refine LCg.CompEnd.intro F8 N8 _ (fun q hq => hq) o (.inr ⟨_, hDm, rfl, _, rfl⟩) ⟨rfl, xl ++ [(qa.1, qa.2)], by simp, by simp [hxl], fun p hp => ?_⟩
        rcases List.mem_append.mp hp with hp | hp
        · exact hxb p hp
        · rw [List.mem_singleton.mp hp]; exact hbound _ _ hqa
      · refine LCg.CompEnd.intro F8 N8 _ (fun q hq => hq) o (.inr ⟨_, hDm, rfl, _, rfl⟩) ⟨rfl, xl ++ [(q.1, q.2)], by simp, by simp [hxl], fun p hp => ?_⟩
        rcases List.mem_append.mp hp with hp | hp
        · exact hxb p hp
        · rw [List.mem_singleton.mp hp]; exact hbound _ _ hq
    · rintro ys news ⟨rfl, xl, rfl, hxl, hxb⟩ D2 h6 tk6 F8 N8 of
      have hoff := off1_ne of
      subst hLE
      rw [if_if] at F8
      refine wpAny_execs_nil ⟨SZ - (i + 1), by omega, i + 1, h6, tk6, D2, (xl.map fun p => Value.int p.1 p.2).length, _, xl, o1, o2, _, _, hlt, rfl, rfl, ho1, ho2, by omega, hxb, ⟨(hoff _ (.tail _ (.head _))).symm, (hoff _ (.head _)).symm⟩, (hoff _ (.tail _ (.tail _ (.head _)))).symm, F8, ?_⟩
      rw [show (((i + 1 : Nat) : Int)) = (i : Int) + 1 by omega, show (SZ : Int) - ((i : Int) + 1) = (SZ : Int) - i - 1 by omega]
      exact News.sub N8 (fun q hq => by
        simp only [List.mem_cons] at hq ⊢
        grind)
  · have hiK : i = SZ := by omega
    subst hiK
    refine pyNext_rangeEnd_N rfl (by omega) F N hrest fun h2 F2 N2 => ?_
    exact wpAny_execs_nil (C h2 _ D' nk' kv kl' hkl' hkb' F2 (News.sub N2 fun q hq => .tail _ (.tail _ hq)))
end
section
set_option maxHeartbeats 4000000
open PySem.Calls PySem.Builtin
local macro_rules | `(tactic| walk_at "CompSrc") => `(tactic| (k_here; refine hide_intro ?_))
local macro_rules | `(tactic| walk_at "subscriptTail") => `(tactic| walk_at "mq19")
local macro_rules | `(tactic| walk_at "binaryOp Mod int int") => `(tactic| walk_at "mq20")
local macro_rules | `(tactic| walk_at "nm") => `(tactic| walk_at "mq12")
local macro_rules | `(tactic| walk_at "eval Name") => `(tactic| walk_at "mq13")
abbrev tupO (vs : List Value) : Obj := { cls := .type "tuple", data := .seq vs.toArray }
/-- figures = [drawn[3 + mark] % 63 for mark in marks] -/
def FigSpec (bs : List Stmt × Scope) : Prop := ∀ {prog : Program} {w : World} {dp un : Nat} {fr : Option (List Env)} {gd : Option (List Code)} {s : Shared} {g h : Heap} {tk : Nat} {p : Program} {loose : List Str} {mean : ExcName → Option Value} {mg mb : Str → Option Value}
  {L D Dd : Addr} {m : Str → Option Value} {odr : Obj} {dl kl : List (Int × Tok)} {nd nk : Nat} {ALL : List (Addr × Obj)} {Q : Flow → Shared → Prop}
  (_ : (hd.heap_39 w.params).In g) (_ : Top p loose mean mg mb g) (_ : dp + 20 < recursionLimit)
  (_ : dl.length = 17) (_ : odr.data = .cell (some (.ref Dd))) (_ : kl.length ≤ 14) (_ : ∀ q ∈ kl, 0 ≤ q.1 ∧ q.1 < 14)
  (_ : Fr g L h m) (_ : m (Str.ofString "marks") = some (.ref D))
  (_ : News g L h ALL) (_ : (D, lstO (kl.map fun p => .int p.1 p.2) nk) ∈ ALL) (_ : (L + 1 + 1 + 1, odr) ∈ ALL) (_ : (Dd, lstO (dl.map fun p => .int p.1 p.2) nd) ∈ ALL)
  (_ : ∀ h' tk' D' nf (fl : List (Nat × Tok)), fl.length = kl.length → (∀ q ∈ fl, q.1 < 63) → Fr g L h' (fun y => if y = Str.ofString "figures" then some (.ref D') else m y) →
     News g L h' ((D', lstO (fl.map intV) nf) :: ALL) → Q .next { s with heap := h', toks := tk' }),
  wpAny (model prog w) ((Ar dp un fr gd).deeper (rowsEnv bs.2 L)) (execs bs.1 (rowsEnv bs.2 L)) Q (fun _ _ => False) { s with heap := h, toks := tk }
theorem fig_st : FigSpec (stR 7, rowsDef.2) := by
  show FigSpec ([_], Scope.mk _ _ _ _ _)
  unfold FigSpec
  intro prog w dp un fr gd s g h tk p loose mean mg mb L D Dd m odr dl kl nd nk ALL Q X T room hdl hdr hkl hkb F hmm N0 hin ha1 ha2 C
  have NV : News g L h [] := fun _ hq => nomatch hq
  k_steps
  unfold Hide
  k_dflt (refine LCg.CompSrc.ledger (its := (kl.map fun p => Value.int p.1 p.2).toArray) (k := nk) rfl F N0 hin ?_ fun g' => ?_)
  · simp only [List.size_toArray, List.length_map]; exact Nat.le_trans hkl (by decide)
  clear F N0 NV
  have hsize : (kl.map fun p => Value.int p.1 p.2).toArray.size = kl.length := by simp
  rw [hsize]
  refine CompRest.ind (n := kl.length) (fun j ys news => ALL = news ∧ ∃ xl : List (Nat × Tok), ys = xl.map intV ∧ xl.length = j ∧ ∀ q ∈ xl, q.1 < 63) ?_ ?_ kl.length 0 [] _ (by omega) ⟨rfl, [], rfl, rfl, fun _ hq => nomatch hq⟩
  · rintro j ys news hj ⟨rfl, xl, rfl, hxl, hxb⟩ v I oI C2 oC E m₂ h6 tk6 hP hN hx F8 N8 o hn
    obtain ⟨q, hq⟩ : ∃ q, kl[j]? = some q := ⟨_, List.getElem?_eq_getElem hj⟩
    have hv : v = .int q.1 q.2 := by
      have hP' : (kl.map fun p => Value.int p.1 p.2)[j]? = some v := by simpa using hP
      rw [List.getElem?_map, hq] at hP'
      exact (Option.some.inj hP').symm
    subst hv
    have hqb := hkb q (List.mem_of_getElem? hq)
    obtain ⟨qd, hqd⟩ : ∃ q', dl[3 + q.1.toNat]? = some q' := ⟨_, List.getElem?_eq_getElem (by omega)⟩
    have hz1 : (0 : Int) ≤ 3 + q.1 ∧ 3 + q.1 < 2 ^ 63 := by omega
    have hx1 : (dl.map fun p => Value.int p.1 p.2)[((3 : Int) + q.1).toNat]? = some (.int qd.1 qd.2) := by
      rw [show ((3 : Int) + q.1).toNat = 3 + q.1.toNat by omega, List.getElem?_map, hqd]; rfl
    have N9 : News g L h6 ((L + 1 + 1 + 1, odr) :: (Dd, lstO (dl.map fun p => .int p.1 p.2) nd) :: (I, oI) :: (C2, oC) :: (E, LCg.lst (xl.map intV)) :: ALL) :=
      List.forall_mem_cons.mpr ⟨N8 _ (.tail _ (.tail _ (.tail _ ha1))), List.forall_mem_cons.mpr ⟨N8 _ (.tail _ (.tail _ (.tail _ ha2))), N8⟩⟩
    clear N8
    dsimp only
    k_steps
    have hm63 : qd.1.fmod 63 = (((qd.1 % 63).toNat : Nat) : Int) := by
      rw [Int.fmod_eq_emod_of_nonneg _ (by decide)]; omega
    rw [hm63]
    refine LCg.CompEnd.intro F8 N9 ALL (fun q hq => .tail _ (.tail _ hq)) o (.inr ⟨_, hin, rfl, _, rfl⟩) ⟨rfl, xl ++ [((qd.1 % 63).toNat, _)], by rw [List.map_append]; rfl, by simp [hxl], fun p hp => ?_⟩
    rcases List.mem_append.mp hp with hp | hp
    · exact hxb p hp
    · rw [List.mem_singleton.mp hp]; show (qd.1 % 63).toNat < 63; omega
  · rintro ys news ⟨rfl, xl, rfl, hxl, hxb⟩ D2 h6 tk6 F8 N8 of
    exact wpAny_execs_nil (C h6 _ D2 _ xl hxl hxb F8 N8)
/-- return (figures[:m], figures[m:], size) -/
def BackSpec (bs : List Stmt × Scope) : Prop := ∀ {prog : Program} {w : World} {dp un : Nat} {fr : Option (List Env)} {gd : Option (List Code)} {s : Shared} {g h : Heap} {tk : Nat} {p : Program} {loose : List Str} {mean : ExcName → Option Value} {mg mb : Str → Option Value}
  {L D : Addr} {m : Str → Option Value} {om : Obj} {fl : List (Nat × Tok)} {M N nf sz : Nat} {tm tz : Tok} {Q : Flow → Shared → Prop}
  (_ : (hd.heap_39 w.params).In g) (_ : Top p loose mean mg mb g) (_ : dp + 20 < recursionLimit)
  (_ : M ≤ 7) (_ : N ≤ 7) (_ : om.data = .cell (some (.int M tm))) (_ : fl.length = M + N)
  (_ : Fr g L h m) (_ : m (Str.ofString "figures") = some (.ref D)) (_ : m (Str.ofString "size") = some (.int sz tz))
  (_ : News g L h [(D, lstO (fl.map intV) nf), (L + 1 + 1 + 1 + 1, om)])
  (_ : ∀ h' tk' T A B, Fr g L h' m → News g L h' [(T, tupO [.ref A, .ref B, .int sz tz]), (A, lstO ((fl.take M).map intV) 0), (B, lstO ((fl.drop M).map intV) 0)] → Q (.ret (.ref T)) { s with heap := h', toks := tk' }),
  wpAny (model prog w) ((Ar dp un fr gd).deeper (rowsEnv bs.2 L)) (execs bs.1 (rowsEnv bs.2 L)) Q (fun _ _ => False) { s with heap := h, toks := tk }
theorem back_st : BackSpec (stR 8, rowsDef.2) := by
  show BackSpec ([_], Scope.mk _ _ _ _ _)
  unfold BackSpec
  intro prog w dp un fr gd s g h tk p loose mean mg mb L D m om fl M N nf sz tm tz Q X T room hM hN hc hfl F hm1 hm2 NV C
  k_steps
  rename_i hA hB TT hC F2 N2 l2
  dsimp only at N2
  have e1 : slicePick (fl.map intV).toArray none (some (M : Int)) none = ((fl.take M).map intV).toArray := by
    rw [slicePick_upto', List.map_take]
  have e2 : slicePick (fl.map intV).toArray (some (M : Int)) none none = ((fl.drop M).map intV).toArray := by
    rw [slicePick_from', List.map_drop]
  rw [e1, e2] at N2
  refine C hC _ TT (h.objs.size + 1) (hA.objs.size + 1) F2 (News.sub N2 fun q hq => ?_)
  simp only [List.mem_cons, List.not_mem_nil, or_false] at hq ⊢
  grind
end
section
set_option maxHeartbeats 4000000
open PySem.Calls PySem.Builtin
section
variable {prog : Program} {w : World} {A : Around} {s : Shared} {B : Heap} {K : Frag} {p : Program} {loose : List Str} {mean : ExcName → Option Value} {mg mb : Str → Option Value}
  {R : Result → Shared → Prop} {name qual : Str} {params : Arguments} {body : List Stmt} {scope : Scope} {cl : List (Str × Addr)} {dV kV doc pm cdv ct : Value} {an : Option Addr} {fo : Obj} {f : Addr} {args : Args} {binds : List (Str × Value)}
  {pre : List (Addr × Obj)}
theorem enterB (O : Ok K p loose mean mg mb B s.heap) (H : Own B s.heap pre)
    (ho : s.heap.get? f = some fo) (hd : fo.data = .func (fnX name qual params body scope [] dV kV doc pm an cdv ct)) (hcd : s.heap.CodeRec cdv qual) (hroom : A.depth < recursionLimit)
    (hbind : BindsTo s (fnX name qual params body scope [] dV kV doc pm an cdv ct) args binds)
    (hkind : ∀ n, ∀ x ∈ binds, scope.names.lookup x.1 = some .local ∨ (scope.names.lookup x.1 = some .cell ∧ ((cellsFrom n scope.names []).lookup x.1).isSome = true))
    (hnd : ((cellsFrom 0 scope.names []).map (·.1)).Nodup)
    (h : ∀ g L' h₁ tk cells, (∀ b o, B.get? b = some o → g.get? b = some o) → Fr g L' h₁ (bindL (envOfC qual scope L' f cdv).kindOf binds fun _ => none) → News g L' h₁ (cells ++ pre) →
      CellsAre (bindC (envOfC qual scope L' f cdv).kindOf binds fun _ => none) (cellsFrom (L' + 1) scope.names []) cells → K.In g → Top p loose mean mg mb g → L' = s.heap.objs.size → (∀ p ∈ pre, p.1 < L') →
      wpAny (model prog w) (A.deeper (envOfC qual scope L' f cdv)) (execs body (envOfC qual scope L' f cdv))
        (MyEnd pre s g L' R) (fun _ _ => False)
        { s with heap := h₁, toks := tk })
    (hco : scope.isCoroutine = false := by rfl) (hgen : scope.isGenerator = false := by rfl) (hk : scope.kind = .function := by rfl) : codeAny (model prog w) A (.call (.ref f) args) R s := by
  have st := stays_hide O H
  refine codeAny_call_function hroom ho hd hco hgen rfl hcd (hbind _ _ _ _ ?_)
  refine wpAny_newFunctionEnv_cells hk (hkind _) fun env' he s' x => ?_
  subst he
  refine ⟨(O.T.nolimit.keeps O.keep).keeps x.toInCall.keep, codeAny_func ?_⟩
  obtain ⟨h₁, tk, rfl, _⟩ := x.done
  have hk₁ := x.toInCall.keep
  have lt : ∀ p ∈ pre, p.1 < s.heap.objs.size := fun p hp => Heap.lt_size (H p hp).1
  obtain ⟨cells, NC, Y⟩ := Cl.news (h₀ := s.heap) (Nat.le_refl _) fun n c hm => ⟨x.cell n c (lookup_of_mem_nodup (cellsFrom_names scope.names 0 (s.heap.objs.size + 1) [] [] rfl ▸ hnd) hm), x.above n c hm⟩
  refine wpAny_mono (h _ s.heap.objs.size h₁ tk cells st ⟨x.toInCall.ns, fun b o e => hk₁ b o (of_hideAll _ e), Nat.le_of_eq (hideAll_size _ _)⟩ (fun p hp => ?_) Y (O.X.keeps st) (O.T.keeps st) rfl lt) (fun fl s' hl => MyEnd.out rfl hl) fun _ _ y => y.elim
  rcases List.mem_append.mp hp with hp | hp
  · refine ⟨(NC p hp).1, (NC p hp).2.1, ?_⟩
    cases q : (hideAll s.heap (pre.map (·.1))).get? p.1 with
    | none => rfl
    | some o => have := of_hideAll _ q; rw [(NC p hp).2.2] at this; cases this
  · exact ⟨hk₁ _ _ (H p hp).1, Nat.ne_of_lt (lt p hp), hideAll_none _ (List.mem_map_of_mem hp)⟩
end
theorem rbody_at (j : Nat) : rowsDef.1.drop j = stR j ++ rowsDef.1.drop (j + 1) := by
  unfold stR
  rw [← List.drop_drop, List.take_append_drop]
local macro_rules | `(tactic| walk_at "nm") => `(tactic| walk_at "mq18")
local macro_rules | `(tactic| walk_at "far") => `(tactic| ((repeat' (first | exact List.forall_mem_nil _ | refine List.forall_mem_cons.mpr (And.intro ?_ ?_) | refine And.intro ?_ ?_)); all_goals (show @Ne Nat _ _; (try dsimp only); omega)))
section
variable {prog : Program} {w : World} {dp un : Nat} {fr : Option (List Env)} {gd : Option (List Code)} {s : Shared} {B : Heap} {p : Program} {loose : List Str} {mean : ExcName → Option Value} {mg mb : Str → Option Value}
  {R : Result → Shared → Prop} {sa : Addr} {vs : List Value} {ns : List Int}
theorem rows_body {b : List Stmt} (hbd : b = rowsDef.1) {L : Addr} {g h : Heap} {tk : Nat} {og ok on om od oo osc : Obj} {m : Str → Option Value} {Q : Flow → Shared → Prop} (X : (hd.heap_39 w.params).In g) (T : Top p loose mean mg mb g) (room : dp + 21 < recursionLimit)
   (hsg : g.IsList sa vs.toArray) (hI : IntsAre vs ns) (hn : ns.length ≤ 63)
   (F : Fr g L h m) (hm1 : m (Str.ofString "k") = none)
   (N : News g L h [(L + 1 + 1 + 1 + 1 + 1 + 1 + 1, og), (L + 1 + 1 + 1 + 1 + 1 + 1, ok), (L + 1 + 1 + 1 + 1 + 1, on), (L + 1 + 1 + 1 + 1, om), (L + 1 + 1 + 1, od), (L + 1 + 1, oo), (L + 1, osc)])
   (c1 : og.data = .cell none) (c2 : ok.data = .cell none) (c3 : on.data = .cell none) (c4 : om.data = .cell none) (c5 : od.data = .cell none) (c6 : oo.data = .cell none) (c7 : osc.data = .cell (some (.ref sa)))
   (k : ∀ h' tk' m' T A C tz (fa fb : List (Nat × Tok)), 1 ≤ fa.length → fa.length ≤ 7 → 1 ≤ fb.length → fb.length ≤ 7 → (∀ q ∈ fa, q.1 < 63) → (∀ q ∈ fb, q.1 < 63) → Fr g L h' m' →
     News g L h' [(T, tupO [.ref A, .ref C, .int ((fa.length + fb.length - Nat.gcd fa.length fb.length : Nat) : Int) tz]), (A, lstO (fa.map intV) 0), (C, lstO (fb.map intV) 0)] → Q (.ret (.ref T)) { s with heap := h', toks := tk' }) :
   wpAny (model prog w) ((Ar dp un fr gd).deeper (rowsEnv rowsDef.2 L)) (execs b (rowsEnv rowsDef.2 L)) Q (fun _ _ => False) { s with heap := h, toks := tk } := by
  have hown : OwnSpec (stR 0, rowsDef.2) := @own_st
  have e0 : b = stR 0 ++ rowsDef.1.drop 1 := hbd.trans (rbody_at 0)
  rw [e0]
  clear e0
  revert hown
  generalize stR 0 = b0
  intro hown
  have N1 : News g L h ((L + 1 + 1, oo) :: [(L + 1, osc), (L + 1 + 1 + 1 + 1 + 1 + 1 + 1, og), (L + 1 + 1 + 1 + 1 + 1 + 1, ok), (L + 1 + 1 + 1 + 1 + 1, on), (L + 1 + 1 + 1 + 1, om), (L + 1 + 1 + 1, od)]) := News.sub N (fun q hq => by
    simp only [List.mem_cons, List.not_mem_nil, or_false] at hq ⊢
    grind)
  clear N
  refine execs_app _ _ (hown X T (by omega) c6 F N1 (by walk_at "far") fun h' tk' ow o' no os hco hol hob F N hlt2 => ?_)
  clear N1
  show wpAny _ _ (execs (rowsDef.1.drop 1) _) _ _ _
  rw [rbody_at 1]
  have how : L + 1 + 1 < ow := hlt2 (L + 1 + 1, o') (.head _)
  have how3 : L + 1 + 1 + 1 < ow := hlt2 (L + 1 + 1 + 1, od) (by k_mem)
  have N1 : News g L h' ((L + 1 + 1 + 1, od) :: (ow, lstO (os.map fun p => .int p.1 p.2) no) :: (L + 1 + 1, o') :: (L + 1, osc) :: [(L + 1 + 1 + 1 + 1 + 1 + 1 + 1, og), (L + 1 + 1 + 1 + 1 + 1 + 1, ok), (L + 1 + 1 + 1 + 1 + 1, on), (L + 1 + 1 + 1 + 1, om)]) := News.sub N (fun q hq => by
    simp only [List.mem_cons, List.not_mem_nil, or_false] at hq ⊢
    grind)
  clear N
  refine execs_app _ _ (drawn_st X T (by omega) hsg hI hn hol hob c7 hco c5 F N1 ?_ fun h' tk' D nd od' dl hdc hdl hdb F N hDne => ?_)
  · refine List.forall_mem_cons.mpr ⟨Nat.ne_of_gt how3, ?_⟩
    walk_at "far"
  clear N1
  show wpAny _ _ (execs (rowsDef.1.drop 2) _) _ _ _
  rw [rbody_at 2]
  have hD4 : (L + 1 + 1 + 1 + 1 : Addr) ≠ D := hDne (L + 1 + 1 + 1 + 1, om) (by k_mem)
  have hD5 : (L + 1 + 1 + 1 + 1 + 1 : Addr) ≠ D := hDne (L + 1 + 1 + 1 + 1 + 1, on) (by k_mem)
  have hD6 : (L + 1 + 1 + 1 + 1 + 1 + 1 : Addr) ≠ D := hDne (L + 1 + 1 + 1 + 1 + 1 + 1, ok) (by k_mem)
  have hD7 : (L + 1 + 1 + 1 + 1 + 1 + 1 + 1 : Addr) ≠ D := hDne (L + 1 + 1 + 1 + 1 + 1 + 1 + 1, og) (by k_mem)
  have N1 : News g L h' ((L + 1 + 1 + 1 + 1, om) :: [(L + 1 + 1 + 1, od'), (D, lstO (dl.map fun p => .int p.1 p.2) nd), (L + 1 + 1 + 1 + 1 + 1 + 1 + 1, og), (L + 1 + 1 + 1 + 1 + 1 + 1, ok), (L + 1 + 1 + 1 + 1 + 1, on)]) := News.sub N (fun q hq => by
    simp only [List.mem_cons, List.not_mem_nil, or_false] at hq ⊢
    grind)
  clear N
  refine execs_app _ _ (m_st X T (by omega) hdl hdc c4 F N1 ?_ (by k_mem) (by k_mem) fun h' tk' om' tm M hom hM1 hM7 F N => ?_)
  · refine List.forall_mem_cons.mpr ⟨by show @Ne Nat _ _; dsimp only; omega, List.forall_mem_cons.mpr ⟨hD4.symm, ?_⟩⟩
    walk_at "far"
  clear N1
  show wpAny _ _ (execs (rowsDef.1.drop 3) _) _ _ _
  rw [rbody_at 3]
  have N1 : News g L h' ((L + 1 + 1 + 1 + 1 + 1, on) :: [(L + 1 + 1 + 1 + 1, om'), (L + 1 + 1 + 1, od'), (D, lstO (dl.map fun p => .int p.1 p.2) nd), (L + 1 + 1 + 1 + 1 + 1 + 1 + 1, og), (L + 1 + 1 + 1 + 1 + 1 + 1, ok)]) := News.sub N (fun q hq => by
    simp only [List.mem_cons, List.not_mem_nil, or_false] at hq ⊢
    grind)
  clear N
  refine execs_app _ _ (n_st X T (by omega) hdl hdc c3 F N1 ?_ (by k_mem) (by k_mem) fun h' tk' on' tn Nn hon hN1 hN7 F N => ?_)
  · refine List.forall_mem_cons.mpr ⟨by show @Ne Nat _ _; dsimp only; omega, List.forall_mem_cons.mpr ⟨by show @Ne Nat _ _; dsimp only; omega, List.forall_mem_cons.mpr ⟨hD5.symm, ?_⟩⟩⟩
    walk_at "far"
  clear N1
  show wpAny _ _ (execs (rowsDef.1.drop 4) _) _ _ _
  rw [rbody_at 4]
  refine execs_app _ _ (size_st X T (by omega) hM1 hM7 hN1 hN7 hom hon F N (by k_mem) (by k_mem) fun h' tk' tz F N => ?_)
  show wpAny _ _ (execs (rowsDef.1.drop 5) _) _ _ _
  rw [rbody_at 5]
  refine execs_app _ _ (marks_st X T (by omega) hM1 hM7 hN1 hN7 hom hon F N (by k_mem) (by k_mem) fun h' tk' Dm nk kl hkl hkb F N hDm => ?_)
  show wpAny _ _ (execs (rowsDef.1.drop 6) _) _ _ _
  rw [rbody_at 6]
  have N1 : News g L h' ((L + 1 + 1 + 1 + 1 + 1 + 1, ok) :: (L + 1 + 1 + 1 + 1 + 1 + 1 + 1, og) :: (Dm, lstO (kl.map fun p => .int p.1 p.2) nk) :: [(L + 1 + 1 + 1 + 1 + 1, on'), (L + 1 + 1 + 1 + 1, om'), (L + 1 + 1 + 1, od'), (D, lstO (dl.map fun p => .int p.1 p.2) nd)]) := News.sub N (fun q hq => by
    simp only [List.mem_cons, List.not_mem_nil, or_false] at hq ⊢
    grind)
  clear N
  have hDm6 : (L + 1 + 1 + 1 + 1 + 1 + 1 : Addr) ≠ Dm := hDm (L + 1 + 1 + 1 + 1 + 1 + 1, ok) (by k_mem)
  have hDm7 : (L + 1 + 1 + 1 + 1 + 1 + 1 + 1 : Addr) ≠ Dm := hDm (L + 1 + 1 + 1 + 1 + 1 + 1 + 1, og) (by k_mem)
  have hgl : Nat.gcd M Nn ≤ M := Nat.gcd_le_left _ hM1
  have hsz14 : M + Nn - Nat.gcd M Nn ≤ 14 := by omega
  refine execs_app _ _ (turns_st (sz := M + Nn - Nat.gcd M Nn) X T (by omega) hM1 hM7 hN1 hN7 hom hon hsz14 hdl hdc c2 c1 hkl hkb F (by walk_at "nm") (by walk_at "nm") (by walk_at "nm") N1 ?_ (by k_mem) (by k_mem) (by k_mem) (by k_mem) fun h' tk' D2 nk2 kv kl2 hkl2 hkb2 F N => ?_)
  · refine List.forall_mem_cons.mpr ⟨⟨hDm6.symm, hDm7.symm⟩, List.forall_mem_cons.mpr ⟨⟨by show @Ne Nat _ _; dsimp only; omega, by show @Ne Nat _ _; dsimp only; omega⟩, List.forall_mem_cons.mpr ⟨⟨by show @Ne Nat _ _; dsimp only; omega, by show @Ne Nat _ _; dsimp only; omega⟩, List.forall_mem_cons.mpr ⟨⟨by show @Ne Nat _ _; dsimp only; omega, by show @Ne Nat _ _; dsimp only; omega⟩, List.forall_mem_cons.mpr ⟨⟨hD6.symm, hD7.symm⟩, List.forall_mem_nil _⟩⟩⟩⟩⟩
  clear N1
  show wpAny _ _ (execs (rowsDef.1.drop 7) _) _ _ _
  rw [rbody_at 7]
  refine execs_app _ _ (fig_st X T (by omega) hdl hdc (by omega) (fun q hq => ⟨(hkb2 q hq).1, by have := (hkb2 q hq).2; omega⟩) F (by walk_at "nm") N (.head _) (by k_mem) (by k_mem) fun h' tk' Df nf fl hfl hfb F N => ?_)
  show wpAny _ _ (execs (rowsDef.1.drop 8) _) _ _ _
  rw [rbody_at 8]
  have hfl2 : fl.length = M + Nn := hfl.trans hkl2
  have N9 : News g L h' [(Df, lstO (fl.map intV) nf), (L + 1 + 1 + 1 + 1, om')] := List.forall_mem_cons.mpr ⟨N _ (by k_mem), List.forall_mem_cons.mpr ⟨N _ (by k_mem), List.forall_mem_nil _⟩⟩
  clear N
  refine execs_app _ _ (back_st (sz := M + Nn - Nat.gcd M Nn) X T (by omega) hM7 hN7 hom hfl2 F (by walk_at "nm") (by walk_at "nm") N9 fun h' tk' T2 A C F N => ?_)
  have ea : (fl.take M).length = M := by rw [List.length_take]; omega
  have eb : (fl.drop M).length = Nn := by rw [List.length_drop]; omega
  show Q _ _
  exact k h' tk' _ T2 A C tz (fl.take M) (fl.drop M) (by omega) (by omega) (by omega) (by omega) (fun q hq => hfb q (List.mem_of_mem_take hq)) (fun q hq => hfb q (List.mem_of_mem_drop hq)) F (by rw [ea, eb]; exact N)
theorem rows_spec (O : Ok (hd.heap_39 w.params) p loose mean mg mb B s.heap) (hsl : B.IsList sa vs.toArray) (hI : IntsAre vs ns) (hn : ns.length ≤ 63) (hd : dp + 21 < recursionLimit)
   (k : ∀ h' tk' T A C tz (fa fb : List (Nat × Tok)), 1 ≤ fa.length → fa.length ≤ 7 → 1 ≤ fb.length → fb.length ≤ 7 → (∀ q ∈ fa, q.1 < 63) → (∀ q ∈ fb, q.1 < 63) →
     New s.heap h' [] [(T, tupO [.ref A, .ref C, .int ((fa.length + fb.length - Nat.gcd fa.length fb.length : Nat) : Int) tz]), (A, lstO (fa.map intV) 0), (C, lstO (fb.map intV) 0)] → Keeps [] s.heap h' → R (.ok (.ret (.ref T))) { s with heap := h', toks := tk' }) :
   codeAny (model prog w) (Ar dp un fr gd) (.call (.ref 110) ⟨[.ref sa], []⟩) R s := by
  obtain ⟨b, hbd⟩ : ∃ b, b = rowsDef.1 := ⟨_, rfl⟩
  refine enterB (pre := []) (body := b) (binds := [(Str.ofString "script", .ref sa)]) O (fun _ h => by cases h) (O.keep _ _ (O.X _ _ (by k_is))) (by rw [hbd]; rfl) ((codeRec_of O.X (by k_is)).keeps O.keep) (by show dp < _; omega) (BindsTo.of_eq rfl) ?_ ?_ (fun g L h₁ tk cells hBg F N Y X T hL hlt => ?_)
  · intro n x hx
    rw [List.mem_singleton.mp hx]
    exact .inr ⟨rfl, rfl⟩
  · decide
  obtain ⟨og, ok, on, om, od, oo, osc, he, c1, c2, c3, c4, c5, c6, c7⟩ := kc_seven Y
  subst he
  clear Y
  dsimp only [List.cons_append, List.nil_append] at N
  have hsg : g.IsList sa vs.toArray := by
    obtain ⟨o, ho, r⟩ := hsl
    exact ⟨o, hBg _ _ ho, r⟩
  have N2 : News g L h₁ [(L + 1 + 1 + 1 + 1 + 1 + 1 + 1, og), (L + 1 + 1 + 1 + 1 + 1 + 1, ok), (L + 1 + 1 + 1 + 1 + 1, on), (L + 1 + 1 + 1 + 1, om), (L + 1 + 1 + 1, od), (L + 1 + 1, oo), (L + 1, osc)] := N
  have hm : bindL (envOfC (Str.ofString "_law_rows") rowsDef.2 L 110 (.ref 109)).kindOf [(Str.ofString "script", Value.ref sa)] (fun _ => none) (Str.ofString "k") = none := rfl
  have hc1 : og.data = .cell none := c1
  have hc2 : ok.data = .cell none := c2
  have hc3 : on.data = .cell none := c3
  have hc4 : om.data = .cell none := c4
  have hc5 : od.data = .cell none := c5
  have hc6 : oo.data = .cell none := c6
  have hc7 : osc.data = .cell (some (.ref sa)) := c7
  clear c1 c2 c3 c4 c5 c6 c7 N
  have hb := @rows_body prog w dp un fr gd s p loose mean mg mb sa vs ns b hbd L g h₁ tk og ok on om od oo osc _ (MyEnd [] s g L R) X T hd hsg hI hn F hm N2 hc1 hc2 hc3 hc4 hc5 hc6 hc7
  refine hb fun h' tk' m' T A C tz fa fb a1 a2 a3 a4 a5 a6 F' N' => MyEnd.intro F' N' fun hk hn => k h' tk' T A C tz fa fb a1 a2 a3 a4 a5 a6 hn hk
end
end
section
set_option maxHeartbeats 4000000
open PySem.Calls PySem.Builtin
def AllLists (l : List (Addr × Obj)) : Prop := ∀ q ∈ l, ∃ vs n, q.2 = lstO vs n
theorem keeps0 {h h' : Heap} (k : Keeps [] h h') : ∀ b o, h.get? b = some o → h'.get? b = some o := fun b o e => k.2 b o e (by simp)
theorem afterK {g h h' : Heap} {L : Addr} {m : Str → Option Value} {news pre new ALL : List (Addr × Obj)} (F : Fr g L h m) (N : News g L h news) (hpre : ∀ p ∈ pre, p ∈ news) (hk : Keeps (pre.map (·.1)) h h') (hn : New h h' pre new)
    (hsame : ∀ q ∈ ALL, q ∈ news ∧ (q.1 ∉ pre.map (·.1) ∨ q ∈ new)) : Fr g L h' m ∧ News g L h' (new ++ ALL) := by
  have a0 := after (rest := []) F N hpre hk hn (fun _ h => nomatch h)
  refine ⟨a0.1, fun q hq => ?_⟩
  rcases List.mem_append.mp hq with hq | hq
  · exact a0.2 q (List.mem_append_left _ hq)
  · obtain ⟨h1, h2 | h2⟩ := hsame q hq
    · exact (after (rest := [q]) F N hpre hk hn (fun p hp => by rw [List.mem_singleton.mp hp]; exact ⟨h1, h2⟩)).2 q (List.mem_append_right _ (.head _))
    · exact a0.2 q (List.mem_append_left _ h2)
section
variable {prog : Program} {w : World} {dp un : Nat} {fr : Option (List Env)} {gd : Option (List Code)} {s : Shared} {B : Heap} {p : Program} {loose : List Str} {mean : ExcName → Option Value} {mg mb : Str → Option Value}
  {L : Addr} {m : Str → Option Value} {ALL : List (Addr × Obj)} {Q : Value → Shared → Prop} {E : Value → Shared → Prop}
theorem rows_N {sa : Addr} {vs : List Value} {ns : List Int} (X : (hd.heap_39 w.params).In B) (T : Top p loose mean mg mb B) (room : dp + 21 < recursionLimit) (hsl : B.IsList sa vs.toArray) (hI : IntsAre vs ns) (hn : ns.length ≤ 63)
   (F : Fr B L s.heap m) (N : News B L s.heap ALL)
   (h : ∀ h' tk' T A C tz (fa fb : List (Nat × Tok)), 1 ≤ fa.length → fa.length ≤ 7 → 1 ≤ fb.length → fb.length ≤ 7 → (∀ q ∈ fa, q.1 < 63) → (∀ q ∈ fb, q.1 < 63) → Fr B L h' m →
     News B L h' ((T, tupO [.ref A, .ref C, .int ((fa.length + fb.length - Nat.gcd fa.length fb.length : Nat) : Int) tz]) :: (A, lstO (fa.map intV) 0) :: (C, lstO (fb.map intV) 0) :: ALL) → Q (.ref T) { s with heap := h', toks := tk' }) :
   wpAny (model prog w) (Ar dp un fr gd) (call (.ref 110) [.ref sa]) Q E s := by
  refine wpAny_call (rows_spec ⟨X, T, F.keep⟩ hsl hI hn room fun h' tk' T A C tz fa fb a1 a2 a3 a4 a5 a6 hn hk => ?_)
  obtain ⟨F', N'⟩ := afterK (pre := []) (ALL := ALL) F N (fun _ h => nomatch h) hk hn (fun q hq => ⟨hq, .inl (by simp)⟩)
  exact h h' tk' T A C tz fa fb a1 a2 a3 a4 a5 a6 F' N'
theorem told1_N {wa : Addr} {fs : List Nat} {wl : List (List Nat × Tok)} {nw sz : Nat} {tsz : Tok} (X : (hd.heap_39 w.params).In B) (T : Top p loose mean mg mb B) (room : dp + 21 < recursionLimit)
   (hwl : wl.map (·.1) = wordsOf fs) (h1 : 0 < fs.length) (h7 : fs.length ≤ 7) (hf : ∀ f ∈ fs, f < 63) (hs1 : 1 ≤ sz) (hs2 : sz ≤ 14)
   (F : Fr B L s.heap m) (N : News B L s.heap ((133, tabObj #[]) :: (126, tabObj #[]) :: ALL)) (hA : AllLists ALL) (hwa : (wa, lstO (wl.map strW) nw) ∈ ALL)
   (h : ∀ h' tk' D E nd ne t1 t2 t3 t4 t5 ta tb tc (vl : List (List Nat × Tok)) c1 od1 c2 od2 c3 od3, vl.map (·.1) = wordsOf fs → IsCd od1 → IsCd od2 → IsCr od3 → Fr B L h' m →
     News B L h' ((133, tab2 c1 c2) :: (c1, od1) :: (c2, od2) :: (126, ringTab c3) :: (c3, od3) :: (D, lstO (toldL fs sz t1 t2 t3 t4 t5 E) nd) :: (E, lstO (toldW vl ta tb tc) ne) :: ALL) → Q (.ref D) { s with heap := h', toks := tk' }) :
   wpAny (model prog w) (Ar dp un fr gd) (call (.ref 136) [.ref wa, .int sz tsz]) Q E s := by
  have hpre : ∀ q ∈ [(wa, lstO (wl.map strW) nw), (133, tabObj #[]), (126, tabObj #[])], q ∈ (133, tabObj #[]) :: (126, tabObj #[]) :: ALL := fun q hq => by
    simp only [List.mem_cons, List.not_mem_nil, or_false] at hq
    rcases hq with rfl | rfl | rfl
    · exact .tail _ (.tail _ hwa)
    · exact .head _
    · exact .tail _ (.head _)
  refine wpAny_call (told_new ⟨X, T, F.keep⟩ (own_of N hpre) room hwl h1 h7 hf hs1 hs2 fun h' tk' D E nd ne t1 t2 t3 t4 t5 ta tb tc vl c1 od1 c2 od2 c3 od3 hvl hc1 hc2 hc3 hn hk => ?_)
  obtain ⟨F', N'⟩ := afterK (ALL := ALL) F N hpre hk hn (fun q hq => ⟨.tail _ (.tail _ hq), by
    obtain ⟨vs, n, e⟩ := hA q hq
    have g1 := (N q (.tail _ (.tail _ hq))).1
    have n133 : q.1 ≠ 133 := ne_of_get g1 (N (133, tabObj #[]) (.head _)).1 (by rw [e]; exact cls_ne (by intro e; cases e))
    have n126 : q.1 ≠ 126 := ne_of_get g1 (N (126, tabObj #[]) (.tail _ (.head _))).1 (by rw [e]; exact cls_ne (by intro e; cases e))
    by_cases ew : q.1 = wa
    · right
      have g2 := (N _ (.tail _ (.tail _ hwa))).1
      rw [ew] at g1
      have : q = (wa, lstO (wl.map strW) nw) := by
        obtain ⟨qa, qo⟩ := q
        dsimp only at ew g1
        rw [ew]
        rw [g2] at g1
        exact congrArg _ (Option.some.inj g1).symm
      rw [this]
      exact .tail _ (.tail _ (.head _))
    · left
      simp [ew, n133, n126]⟩)
  exact h h' tk' D E nd ne t1 t2 t3 t4 t5 ta tb tc vl c1 od1 c2 od2 c3 od3 hvl hc1 hc2 hc3 F' (News.sub N' fun q hq => by
    simp only [List.mem_append, List.mem_cons, List.not_mem_nil, or_false] at hq ⊢
    grind)
theorem told2_N {wa : Addr} {fs : List Nat} {wl : List (List Nat × Tok)} {nw sz : Nat} {tsz : Tok} {c1 c2 c3 : Addr} {od1 od2 od3 : Obj} (X : (hd.heap_39 w.params).In B) (T : Top p loose mean mg mb B) (room : dp + 21 < recursionLimit)
   (hc1 : IsCd od1) (hc2 : IsCd od2) (hc3 : IsCr od3)
   (hwl : wl.map (·.1) = wordsOf fs) (h1 : 0 < fs.length) (h7 : fs.length ≤ 7) (hf : ∀ f ∈ fs, f < 63) (hs1 : 1 ≤ sz) (hs2 : sz ≤ 14)
   (F : Fr B L s.heap m) (N : News B L s.heap ((133, tab2 c1 c2) :: (c1, od1) :: (c2, od2) :: (126, ringTab c3) :: (c3, od3) :: ALL)) (hA : AllLists ALL) (hwa : (wa, lstO (wl.map strW) nw) ∈ ALL)
   (h : ∀ h' tk' D E nd ne t1 t2 t3 t4 t5 ta tb tc (vl : List (List Nat × Tok)) c4, vl.map (·.1) = wordsOf fs → Fr B L h' m →
     News B L h' ((133, tab2 c1 c2) :: (126, ringTab c4) :: (D, lstO (toldL fs sz t1 t2 t3 t4 t5 E) nd) :: (E, lstO (toldW vl ta tb tc) ne) :: ALL) → Q (.ref D) { s with heap := h', toks := tk' }) :
   wpAny (model prog w) (Ar dp un fr gd) (call (.ref 136) [.ref wa, .int sz tsz]) Q E s := by
  have hall : ∀ q ∈ ALL, q ∈ (133, tab2 c1 c2) :: (c1, od1) :: (c2, od2) :: (126, ringTab c3) :: (c3, od3) :: ALL := fun q hq => .tail _ (.tail _ (.tail _ (.tail _ (.tail _ hq))))
  have hpre : ∀ q ∈ [(wa, lstO (wl.map strW) nw), (133, tab2 c1 c2), (c1, od1), (c2, od2), (126, ringTab c3), (c3, od3)], q ∈ (133, tab2 c1 c2) :: (c1, od1) :: (c2, od2) :: (126, ringTab c3) :: (c3, od3) :: ALL := fun q hq => by
    rcases List.mem_cons.mp hq with rfl | hq
    · exact hall _ hwa
    · simp only [List.mem_cons, List.not_mem_nil, or_false] at hq ⊢
      grind
  refine wpAny_call (told_hit ⟨X, T, F.keep⟩ (own_of N hpre) room hc1 hc2 hc3 hwl h1 h7 hf hs1 hs2 fun h' tk' D E nd ne t1 t2 t3 t4 t5 ta tb tc vl c4 hvl hn hk => ?_)
  obtain ⟨v1, u1, d1, _⟩ := hc1
  obtain ⟨v2, u2, d2, _⟩ := hc2
  obtain ⟨v3, u3, d3, _⟩ := hc3
  obtain ⟨F', N'⟩ := afterK (ALL := ALL) F N hpre hk hn (fun q hq => ⟨hall q hq, by
    obtain ⟨vs, n, e⟩ := hA q hq
    have g1 := (N q (hall q hq)).1
    have n133 : q.1 ≠ 133 := ne_of_get g1 (N (133, tab2 c1 c2) (.head _)).1 (by rw [e]; exact cls_ne (by intro e; cases e))
    have n126 : q.1 ≠ 126 := ne_of_get g1 (N (126, ringTab c3) (.tail _ (.tail _ (.tail _ (.head _))))).1 (by rw [e]; exact cls_ne (by intro e; cases e))
    have nc1 : q.1 ≠ c1 := ne_of_get g1 (N (c1, od1) (.tail _ (.head _))).1 (by rw [e]; exact data_ne (by rw [d1]; intro e; cases e))
    have nc2 : q.1 ≠ c2 := ne_of_get g1 (N (c2, od2) (.tail _ (.tail _ (.head _)))).1 (by rw [e]; exact data_ne (by rw [d2]; intro e; cases e))
    have nc3 : q.1 ≠ c3 := ne_of_get g1 (N (c3, od3) (.tail _ (.tail _ (.tail _ (.tail _ (.head _)))))).1 (by rw [e]; exact data_ne (by rw [d3]; intro e; cases e))
    by_cases ew : q.1 = wa
    · right
      have g2 := (N _ (hall _ hwa)).1
      rw [ew] at g1
      have : q = (wa, lstO (wl.map strW) nw) := by
        obtain ⟨qa, qo⟩ := q
        dsimp only at ew g1
        rw [ew]
        rw [g2] at g1
        exact congrArg _ (Option.some.inj g1).symm
      rw [this]
      exact .tail _ (.tail _ (.head _))
    · left
      simp [ew, n133, n126, nc1, nc2, nc3]⟩)
  exact h h' tk' D E nd ne t1 t2 t3 t4 t5 ta tb tc vl c4 hvl F' (News.sub N' fun q hq => by
    simp only [List.mem_append, List.mem_cons, List.not_mem_nil, or_false] at hq ⊢
    grind)
abbrev dueL (N F R sz : Nat) (t1 t2 t3 t4 t5 : Tok) (E : Addr) : List Value := [.int (N : Nat) t1, .int (F : Nat) t2, .int (R : Nat) t3, .int (N : Nat) t4, .none, .ref E, .int 1 t5]
theorem due_N {fa : Addr} {fl : List (Nat × Tok)} {n sz : Nat} {tz : Tok} (X : (hd.heap_39 w.params).In B) (T : Top p loose mean mg mb B) (room : dp + 1 < recursionLimit)
   (h7 : fl.length ≤ 7) (hf : ∀ p ∈ fl, p.1 < 63) (h1 : 1 ≤ fl.length) (hz : sz ≤ 14)
   (F : Fr B L s.heap m) (N : News B L s.heap ALL) (hfa : (fa, lstO (fl.map intV) n) ∈ ALL)
   (h : ∀ h' tk' (wl : List (List Nat × Tok)) wb ra nb nr t1 t2 t3 t4 t5 ta tb tc, wl.map (·.1) = wordsOf (fl.map (·.1)) → Fr B L h' m →
     News B L h' ((ra, lstO (toldL (fl.map (·.1)) sz t1 t2 t3 t4 t5 wb) nr) :: (wb, lstO (toldW wl ta tb tc) nb) :: ALL) → Q (.ref ra) { s with heap := h', toks := tk' }) :
   wpAny (model prog w) (Ar dp un fr gd) (call (.ref 143) [.ref fa, .int sz tz]) Q E s := by
  refine wpAny_call (due_spec ⟨X, T, F.keep⟩ (own_of N (l := [(fa, lstO (fl.map intV) n)]) (by intro q hq; rw [List.mem_singleton.mp hq]; exact hfa)) room h7 hf h1 hz fun wl wb ra nb nr t1 t2 t3 t4 t5 ta tb tc h' tk' hwl ga gb fa' fb' hk => ?_)
  have hlen : (fl.map (·.1)).length = fl.length := List.length_map ..
  have hff : ∀ f ∈ fl.map (·.1), f < 63 := fun f hm => by obtain ⟨q, hq, rfl⟩ := List.mem_map.mp hm; exact hf q hq
  have e1 : numS (fun k => (fl.map (·.1)).getD k 0) 0 fl.length = numS (dig (fl.map (·.1))) 0 (fl.map (·.1)).length := by
    have := num_dig (fl.map (·.1))
    rw [hlen] at this ⊢
    exact this
  have hd63 : ∀ k, dig (fl.map (·.1)) k < 63 := fun k => dig_lt (by omega) hff k
  have hper : ∀ k, dig (fl.map (·.1)) (k + (fl.map (·.1)).length) = dig (fl.map (·.1)) k := dig_per _
  have efront := front_eq (d := dig (fl.map (·.1))) (m := (fl.map (·.1)).length) (by omega) hper hd63 sz
  have hml : sz % fl.length < fl.length := Nat.mod_lt _ h1
  have erest : numS (dig (fl.map (·.1))) 0 (fl.map (·.1)).length % 64 ^ ((fl.map (·.1)).length - sz % (fl.map (·.1)).length) = numS (dig (fl.map (·.1))) sz ((fl.map (·.1)).length - sz % (fl.map (·.1)).length) := by
    rw [rest_num (k := sz % (fl.map (·.1)).length) (fun k => Nat.lt_trans (hd63 k) (by decide)) (by rw [hlen]; omega)]
    exact numS_congr fun k _ => by unfold dig; rw [Nat.mod_add_mod]
  rw [front_int, rest_int (by omega), e1] at gb
  rw [show (64 ^ sz * numS (dig (fl.map (·.1))) 0 (fl.map (·.1)).length / (64 ^ fl.length - 1)) = numS (dig (fl.map (·.1))) 0 sz by rw [← hlen]; exact efront] at gb
  rw [show numS (dig (fl.map (·.1))) 0 (fl.map (·.1)).length % 64 ^ (fl.length - sz % fl.length) = numS (dig (fl.map (·.1))) sz ((fl.map (·.1)).length - sz % (fl.map (·.1)).length) by rw [← erest, hlen]] at gb
  have hN : New s.heap h' [] [(ra, lstO (toldL (fl.map (·.1)) sz t1 t2 t3 t4 t5 wb) nr), (wb, lstO (toldW wl ta tb tc) nb)] := fun q hq => by
    simp only [List.mem_cons, List.not_mem_nil, or_false] at hq
    rcases hq with rfl | rfl
    · exact ⟨gb, .inr fb'⟩
    · exact ⟨ga, .inr fa'⟩
  obtain ⟨F', N'⟩ := afterK (pre := []) (ALL := ALL) F N (fun _ h => nomatch h) hk hN (fun q hq => ⟨hq, .inl (by simp)⟩)
  exact h h' tk' wl wb ra nb nr t1 t2 t3 t4 t5 ta tb tc hwl F' N'
end
end
section
set_option maxHeartbeats 4000000
open PySem.Calls PySem.Builtin
def lawDef : List Stmt × Scope := match (PySem.Challenge.pw_wk0010_01.main.body[18]? : Option Stmt) with
  | some (.FunctionDef _ _ b _ _ _ sc _ _ _) => (b, sc)
  | _ => default
def stW (j : Nat) : List Stmt := (lawDef.1.drop j).take 1
abbrev lawEnv (sc : Scope) (L fa : Addr) (cd : Value) : Env := envOf (Str.ofString "law") sc L fa cd
end
local macro_rules | `(tactic| walk_at "mq21") => `(tactic| (k_here; k_dflt (refine' ld ?F ?m ?_ ?a ?b ?c; (case a => rfl); (case b => rfl); (case F => k_asm); (case m => ((try dsimp only); walk_at "nm")); (case c => decide); k_whole)))
section
set_option maxHeartbeats 4000000
open PySem.Calls PySem.Builtin
local macro_rules | `(tactic| walk_at "nm") => `(tactic| walk_at "mq12")
local macro_rules | `(tactic| walk_at "eval Name") => `(tactic| walk_at "mq21")
local macro_rules | `(tactic| walk_at "call ref") => `(tactic| (k_here; refine hide_intro ?_))
/-- row, beside, size = _law_rows(script) -/
def RSpec (bs : List Stmt × Scope) : Prop := ∀ {prog : Program} {w : World} {dp un : Nat} {fr : Option (List Env)} {gd : Option (List Code)} {s : Shared} {g h : Heap} {tk : Nat} {p : Program} {loose : List Str} {mean : ExcName → Option Value} {mg mb : Str → Option Value}
  {L fa sa : Addr} {cd : Value} {m : Str → Option Value} {vs : List Value} {ns : List Int} {ALL : List (Addr × Obj)} {Q : Flow → Shared → Prop}
  (_ : (hd.heap_39 w.params).In g) (_ : Top p loose mean mg mb g) (_ : dp + 30 < recursionLimit)
  (_ : g.IsList sa vs.toArray) (_ : IntsAre vs ns) (_ : ns.length ≤ 63)
  (_ : Fr g L h m) (_ : m (Str.ofString "script") = some (.ref sa)) (_ : News g L h ALL)
  (_ : ∀ h' tk' A C tz (fa fb : List (Nat × Tok)), 1 ≤ fa.length → fa.length ≤ 7 → 1 ≤ fb.length → fb.length ≤ 7 → (∀ q ∈ fa, q.1 < 63) → (∀ q ∈ fb, q.1 < 63) →
     Fr g L h' (fun y => if y = Str.ofString "size" then some (.int ((fa.length + fb.length - Nat.gcd fa.length fb.length : Nat) : Int) tz) else if y = Str.ofString "beside" then some (.ref C) else if y = Str.ofString "row" then some (.ref A) else m y) →
     News g L h' ((A, lstO (fa.map intV) 0) :: (C, lstO (fb.map intV) 0) :: ALL) → Q .next { s with heap := h', toks := tk' }),
  wpAny (model prog w) ((Ar dp un fr gd).deeper (lawEnv bs.2 L fa cd)) (execs bs.1 (lawEnv bs.2 L fa cd)) Q (fun _ _ => False) { s with heap := h, toks := tk }
theorem r_st : RSpec (stW 0, lawDef.2) := by
  show RSpec ([_], Scope.mk _ _ _ _ _)
  unfold RSpec
  intro prog w dp un fr gd s g h tk p loose mean mg mb L fa sa cd m vs ns ALL Q X T room hsl hI hn F hms N C
  k_steps
  unfold Hide
  refine rows_N X T (by show dp + 1 + 21 < _; omega) hsl hI hn F N fun h2 tk2 T2 A C2 tz fa2 fb a1 a2 a3 a4 a5 a6 F2 N2 => ?_
  clear F N
  k_steps
  exact C _ _ A C2 tz fa2 fb a1 a2 a3 a4 a5 a6 (by assumption) (News.sub (by assumption) fun q hq => .tail _ hq)
/-- first = _law_told(_law_words(row), size) -/
def FirstSpec (bs : List Stmt × Scope) : Prop := ∀ {prog : Program} {w : World} {dp un : Nat} {fr : Option (List Env)} {gd : Option (List Code)} {s : Shared} {g h : Heap} {tk : Nat} {p : Program} {loose : List Str} {mean : ExcName → Option Value} {mg mb : Str → Option Value}
  {L fa A : Addr} {cd : Value} {m : Str → Option Value} {fl : List (Nat × Tok)} {n sz : Nat} {tz : Tok} {ALL : List (Addr × Obj)} {Q : Flow → Shared → Prop}
  (_ : (hd.heap_39 w.params).In g) (_ : Top p loose mean mg mb g) (_ : dp + 30 < recursionLimit)
  (_ : 1 ≤ fl.length) (_ : fl.length ≤ 7) (_ : ∀ q ∈ fl, q.1 < 63) (_ : 1 ≤ sz) (_ : sz ≤ 14)
  (_ : Fr g L h m) (_ : m (Str.ofString "row") = some (.ref A)) (_ : m (Str.ofString "size") = some (.int sz tz))
  (_ : News g L h ((133, tabObj #[]) :: (126, tabObj #[]) :: ALL)) (_ : AllLists ALL) (_ : (A, lstO (fl.map intV) n) ∈ ALL)
  (_ : ∀ h' tk' D E nd ne t1 t2 t3 t4 t5 ta tb tc (vl : List (List Nat × Tok)) c1 od1 c2 od2 c3 od3, vl.map (·.1) = wordsOf (fl.map (·.1)) → IsCd od1 → IsCd od2 → IsCr od3 →
     Fr g L h' (fun y => if y = Str.ofString "first" then some (.ref D) else m y) →
     News g L h' ((133, tab2 c1 c2) :: (c1, od1) :: (c2, od2) :: (126, ringTab c3) :: (c3, od3) :: (D, lstO (toldL (fl.map (·.1)) sz t1 t2 t3 t4 t5 E) nd) :: (E, lstO (toldW vl ta tb tc) ne) :: ALL) → Q .next { s with heap := h', toks := tk' }),
  wpAny (model prog w) ((Ar dp un fr gd).deeper (lawEnv bs.2 L fa cd)) (execs bs.1 (lawEnv bs.2 L fa cd)) Q (fun _ _ => False) { s with heap := h, toks := tk }
theorem figs_lt {fl : List (Nat × Tok)} (h : ∀ q ∈ fl, q.1 < 63) : ∀ f ∈ fl.map (·.1), f < 63 := fun f hm => by
  obtain ⟨q, hq, rfl⟩ := List.mem_map.mp hm
  exact h q hq
theorem AllLists.cons {a : Addr} {vs : List Value} {n : Nat} {l : List (Addr × Obj)} (h : AllLists l) : AllLists ((a, lstO vs n) :: l) := fun q hq => by
  rcases List.mem_cons.mp hq with rfl | hq
  · exact ⟨vs, n, rfl⟩
  · exact h q hq
theorem first_st : FirstSpec (stW 1, lawDef.2) := by
  show FirstSpec ([_], Scope.mk _ _ _ _ _)
  unfold FirstSpec
  intro prog w dp un fr gd s g h tk p loose mean mg mb L fa A cd m fl n sz tz ALL Q X T room h1 h7 hf hs1 hs2 F hm1 hm2 N0 hA hin C
  have hlen : (fl.map (·.1)).length = fl.length := List.length_map ..
  generalize hLED : (133, tabObj #[]) :: (126, tabObj #[]) :: ALL = LED at *
  have N := N0
  clear N0
  k_steps
  unfold Hide
  refine words_N X T (by show dp + 1 < _; omega) F N (by rw [← hLED]; exact .tail _ (.tail _ hin)) h7 hf fun wl wa nn h2 tk2 hwl F2 N2 hne => ?_
  clear F N
  k_steps
  unfold Hide
  subst hLED
  have N3 : News g L h2 ((133, tabObj #[]) :: (126, tabObj #[]) :: (wa, lstO (wl.map strW) nn) :: ALL) := News.sub N2 fun q hq => by
    simp only [List.mem_cons] at hq ⊢
    grind
  clear N2
  refine told1_N X T (by show dp + 1 + 21 < _; omega) hwl (by omega) (by omega) (figs_lt hf) hs1 hs2 F2 N3 hA.cons (.head _) fun h3 tk3 D E nd ne t1 t2 t3 t4 t5 ta tb tc vl c1 od1 c2 od2 c3 od3 hvl hc1 hc2 hc3 F4 N4 => ?_
  clear F2 N3
  k_steps
  exact C _ _ D E nd ne t1 t2 t3 t4 t5 ta tb tc vl c1 od1 c2 od2 c3 od3 hvl hc1 hc2 hc3 (by assumption) (News.sub (by assumption) fun q hq => by
    simp only [List.mem_cons] at hq ⊢
    grind)
/-- second = _law_told(_law_words(beside), size) -/
def SecondSpec (bs : List Stmt × Scope) : Prop := ∀ {prog : Program} {w : World} {dp un : Nat} {fr : Option (List Env)} {gd : Option (List Code)} {s : Shared} {g h : Heap} {tk : Nat} {p : Program} {loose : List Str} {mean : ExcName → Option Value} {mg mb : Str → Option Value}
  {L fa A : Addr} {cd : Value} {m : Str → Option Value} {fl : List (Nat × Tok)} {n sz : Nat} {tz : Tok} {c1 c2 c3 : Addr} {od1 od2 od3 : Obj} {ALL : List (Addr × Obj)} {Q : Flow → Shared → Prop}
  (_ : (hd.heap_39 w.params).In g) (_ : Top p loose mean mg mb g) (_ : dp + 30 < recursionLimit)
  (_ : IsCd od1) (_ : IsCd od2) (_ : IsCr od3)
  (_ : 1 ≤ fl.length) (_ : fl.length ≤ 7) (_ : ∀ q ∈ fl, q.1 < 63) (_ : 1 ≤ sz) (_ : sz ≤ 14)
  (_ : Fr g L h m) (_ : m (Str.ofString "beside") = some (.ref A)) (_ : m (Str.ofString "size") = some (.int sz tz))
  (_ : News g L h ((133, tab2 c1 c2) :: (c1, od1) :: (c2, od2) :: (126, ringTab c3) :: (c3, od3) :: ALL)) (_ : AllLists ALL) (_ : (A, lstO (fl.map intV) n) ∈ ALL)
  (_ : ∀ h' tk' D E nd ne t1 t2 t3 t4 t5 ta tb tc (vl : List (List Nat × Tok)) c4, vl.map (·.1) = wordsOf (fl.map (·.1)) →
     Fr g L h' (fun y => if y = Str.ofString "second" then some (.ref D) else m y) →
     News g L h' ((133, tab2 c1 c2) :: (126, ringTab c4) :: (D, lstO (toldL (fl.map (·.1)) sz t1 t2 t3 t4 t5 E) nd) :: (E, lstO (toldW vl ta tb tc) ne) :: ALL) → Q .next { s with heap := h', toks := tk' }),
  wpAny (model prog w) ((Ar dp un fr gd).deeper (lawEnv bs.2 L fa cd)) (execs bs.1 (lawEnv bs.2 L fa cd)) Q (fun _ _ => False) { s with heap := h, toks := tk }
theorem second_st : SecondSpec (stW 2, lawDef.2) := by
  show SecondSpec ([_], Scope.mk _ _ _ _ _)
  unfold SecondSpec
  intro prog w dp un fr gd s g h tk p loose mean mg mb L fa A cd m fl n sz tz c1 c2 c3 od1 od2 od3 ALL Q X T room hc1 hc2 hc3 h1 h7 hf hs1 hs2 F hm1 hm2 N0 hA hin C
  have hlen : (fl.map (·.1)).length = fl.length := List.length_map ..
  generalize hLED : (133, tab2 c1 c2) :: (c1, od1) :: (c2, od2) :: (126, ringTab c3) :: (c3, od3) :: ALL = LED at *
  have N := N0
  clear N0
  k_steps
  unfold Hide
  refine words_N X T (by show dp + 1 < _; omega) F N (by rw [← hLED]; exact .tail _ (.tail _ (.tail _ (.tail _ (.tail _ hin))))) h7 hf fun wl wa nn h2 tk2 hwl F2 N2 hne => ?_
  clear F N
  k_steps
  unfold Hide
  subst hLED
  have N3 : News g L h2 ((133, tab2 c1 c2) :: (c1, od1) :: (c2, od2) :: (126, ringTab c3) :: (c3, od3) :: (wa, lstO (wl.map strW) nn) :: ALL) := News.sub N2 fun q hq => by
    simp only [List.mem_cons] at hq ⊢
    grind
  clear N2
  refine told2_N X T (by show dp + 1 + 21 < _; omega) hc1 hc2 hc3 hwl (by omega) (by omega) (figs_lt hf) hs1 hs2 F2 N3 hA.cons (.head _) fun h3 tk3 D E nd ne t1 t2 t3 t4 t5 ta tb tc vl c4 hvl F4 N4 => ?_
  clear F2 N3
  k_steps
  exact C _ _ D E nd ne t1 t2 t3 t4 t5 ta tb tc vl c4 hvl (by assumption) (News.sub (by assumption) fun q hq => by
    simp only [List.mem_cons] at hq ⊢
    grind)
end
section
set_option maxHeartbeats 4000000
open PySem.Calls PySem.Builtin
end
local macro_rules | `(tactic| walk_at "mq22") => `(tactic| (k_here; (with_reducible show wpAny _ _ (subscriptTail _ _ (Value.ref _) (Value.int _ _)) _ _ _); k_dflt (refine' item_N ?N ?m ?z ?x ?_; (case N => k_asm); (case m => k_mem); (case z => decide); (case x => rfl))))
section
set_option maxHeartbeats 4000000
open PySem.Calls PySem.Builtin
local macro_rules | `(tactic| walk_at "nm") => `(tactic| walk_at "mq12")
local macro_rules | `(tactic| walk_at "eval Name") => `(tactic| walk_at "mq21")
local macro_rules | `(tactic| walk_at "call ref") => `(tactic| (k_here; refine hide_intro ?_))
local macro_rules | `(tactic| walk_at "call builtin:len") => `(tactic| walk_at "mq9")
local macro_rules | `(tactic| walk_at "subscriptTail") => `(tactic| walk_at "mq22")
section
variable {prog : Program} {w : World} {dp un : Nat} {fr : Option (List Env)} {gd : Option (List Code)} {s : Shared} {B : Heap} {p : Program} {loose : List Str} {mean : ExcName → Option Value} {mg mb : Str → Option Value}
  {L : Addr} {m : Str → Option Value} {ALL : List (Addr × Obj)} {Q : Value → Shared → Prop} {E : Value → Shared → Prop} {a b : Int} {ta tb : Tok}
theorem lsh_N (X : (hd.heap_39 w.params).In B) (T : Top p loose mean mg mb B) (room : dp < recursionLimit) (F : Fr B L s.heap m) (N : News B L s.heap ALL) (ha : a.natAbs < 2 ^ 64) (hb0 : 0 ≤ b) (hb : b ≤ 1000000)
   (h : ∀ h' tk' t, Fr B L h' m → News B L h' ALL → Q (.int (a * 2 ^ b.toNat) t) { s with heap := h', toks := tk' }) : wpAny (model prog w) (Ar dp un fr gd) (call (.ref 84) [.int a ta, .int b tb]) Q E s :=
  wpAny_call (lshift_spec ⟨X, T, F.keep⟩ room ha hb0 hb fun t h' tk' k => h h' tk' t (F.keeps (keeps0 k)) (N.grown (keeps0 k)))
theorem sub_N (X : (hd.heap_39 w.params).In B) (T : Top p loose mean mg mb B) (room : dp < recursionLimit) (F : Fr B L s.heap m) (N : News B L s.heap ALL) (ha : a.natAbs < 2 ^ 64) (hb : b.natAbs < 2 ^ 64)
   (h : ∀ h' tk' t, Fr B L h' m → News B L h' ALL → Q (.int (a - b) t) { s with heap := h', toks := tk' }) : wpAny (model prog w) (Ar dp un fr gd) (call (.ref 105) [.int a ta, .int b tb]) Q E s :=
  wpAny_call (sub_spec ⟨X, T, F.keep⟩ room ha hb fun t h' tk' k => h h' tk' t (F.keeps (keeps0 k)) (N.grown (keeps0 k)))
theorem mul_N (X : (hd.heap_39 w.params).In B) (T : Top p loose mean mg mb B) (room : dp < recursionLimit) (F : Fr B L s.heap m) (N : News B L s.heap ALL) (ha : a.natAbs < 2 ^ 64) (hb : b.natAbs < 2 ^ 64)
   (h : ∀ h' tk' t, Fr B L h' m → News B L h' ALL → Q (.int (a * b) t) { s with heap := h', toks := tk' }) : wpAny (model prog w) (Ar dp un fr gd) (call (.ref 91) [.int a ta, .int b tb]) Q E s :=
  wpAny_call (mul_spec ⟨X, T, F.keep⟩ room ha hb fun t h' tk' k => h h' tk' t (F.keeps (keeps0 k)) (N.grown (keeps0 k)))
theorem eq_N (X : (hd.heap_39 w.params).In B) (T : Top p loose mean mg mb B) (room : dp < recursionLimit) (F : Fr B L s.heap m) (N : News B L s.heap ALL)
   (h : ∀ h' tk', Fr B L h' m → News B L h' ALL → Q (.bool (a == b)) { s with heap := h', toks := tk' }) : wpAny (model prog w) (Ar dp un fr gd) (call (.ref 70) [.int a ta, .int b tb]) Q E s :=
  wpAny_call (eq_spec ⟨X, T, F.keep⟩ room fun h' tk' k => h h' tk' (F.keeps (keeps0 k)) (N.grown (keeps0 k)))
end
theorem pow64 {l : Nat} : (1 : Int) * 2 ^ ((6 : Int) * (l : Int)).toNat = ((64 ^ l : Nat) : Int) := by
  rw [show ((6 : Int) * (l : Int)).toNat = 6 * l by omega, Int.one_mul]
  have e : (2 : Int) ^ (6 * l) = ((2 ^ (6 * l) : Nat) : Int) := by simp
  rw [e, Nat.pow_mul]
theorem pow64_le {l : Nat} (h : l ≤ 7) : 1 ≤ 64 ^ l ∧ 64 ^ l ≤ 2 ^ 42 :=
  ⟨Nat.pow_pos (by decide), Nat.le_trans (Nat.pow_le_pow_right (by decide) h) (by decide)⟩
theorem natAbs_lt {n : Nat} (h : n ≤ 2 ^ 42) : ((n : Nat) : Int).natAbs < 2 ^ 64 := by
  rw [Int.natAbs_natCast]; exact Nat.lt_of_le_of_lt h (by decide)
/-- one = mul(first[0], sub(lshift(1, 6 * len(beside)), 1)), and the like -/
def CrossSpec (bs : List Stmt × Scope) (one first beside : String) : Prop := ∀ {prog : Program} {w : World} {dp un : Nat} {fr : Option (List Env)} {gd : Option (List Code)} {s : Shared} {g h : Heap} {tk : Nat} {p : Program} {loose : List Str} {mean : ExcName → Option Value} {mg mb : Str → Option Value}
  {L fa D C E : Addr} {cd : Value} {m : Str → Option Value} {fs : List Nat} {fb : List (Nat × Tok)} {nd n sz : Nat} {t1 t2 t3 t4 t5 : Tok} {ALL : List (Addr × Obj)} {Q : Flow → Shared → Prop}
  (_ : (hd.heap_39 w.params).In g) (_ : Top p loose mean mg mb g) (_ : dp + 30 < recursionLimit)
  (_ : 1 ≤ fs.length) (_ : fs.length ≤ 7) (_ : ∀ f ∈ fs, f < 63) (_ : fb.length ≤ 7)
  (_ : Fr g L h m) (_ : m (Str.ofString first) = some (.ref D)) (_ : m (Str.ofString beside) = some (.ref C))
  (_ : News g L h ALL) (_ : (D, lstO (toldL fs sz t1 t2 t3 t4 t5 E) nd) ∈ ALL) (_ : (C, lstO (fb.map intV) n) ∈ ALL)
  (_ : ∀ h' tk' t, Fr g L h' (fun y => if y = Str.ofString one then some (.int ((numS (dig fs) 0 fs.length * (64 ^ fb.length - 1) : Nat) : Int) t) else m y) → News g L h' ALL → Q .next { s with heap := h', toks := tk' }),
  wpAny (model prog w) ((Ar dp un fr gd).deeper (lawEnv bs.2 L fa cd)) (execs bs.1 (lawEnv bs.2 L fa cd)) Q (fun _ _ => False) { s with heap := h, toks := tk }
theorem one_st : CrossSpec (stW 3, lawDef.2) "one" "first" "beside" := by
  show CrossSpec ([_], Scope.mk _ _ _ _ _) _ _ _
  unfold CrossSpec
  intro prog w dp un fr gd s g h tk p loose mean mg mb L fa D C E cd m fs fb nd n sz t1 t2 t3 t4 t5 ALL Q X T room h1 h7 hf hb7 F hm1 hm2 N0 hD hC K
  have N : News g L h ((D, lstO (toldL fs sz t1 t2 t3 t4 t5 E) nd) :: (C, lstO (fb.map intV) n) :: ALL) := List.forall_mem_cons.mpr ⟨N0 _ hD, List.forall_mem_cons.mpr ⟨N0 _ hC, N0⟩⟩
  clear N0
  have z1 : (fb.map intV).length ≤ 1000 := by rw [List.length_map]; omega
  have z2 : fb.length ≤ 1000 := by omega
  have hb : ((fb.length : Nat) : Int).natAbs < 2 ^ 64 := by omega
  k_steps
  unfold Hide
  have hp := pow64_le hb7
  have hN1 : numS (dig fs) 0 fs.length ≤ 2 ^ 42 := Nat.le_trans (Nat.le_of_lt (numS_lt (fun k => Nat.lt_trans (dig_lt h1 hf k) (by decide)) 0 fs.length)) (pow64_le h7).2
  refine lsh_N X T (by show dp + 1 < _; omega) F N (by decide) (by omega) (by omega) fun h2 tk2 u2 F2 N2 => ?_
  clear F N
  rw [pow64]
  k_steps
  unfold Hide
  refine sub_N X T (by show dp + 1 < _; omega) F2 N2 (natAbs_lt hp.2) (by decide) fun h3 tk3 u3 F3 N3 => ?_
  clear F2 N2
  rw [show ((64 ^ fb.length : Nat) : Int) - 1 = ((64 ^ fb.length - 1 : Nat) : Int) by omega]
  k_steps
  unfold Hide
  refine mul_N X T (by show dp + 1 < _; omega) F3 N3 (natAbs_lt hN1) (natAbs_lt (by omega)) fun h4 tk4 u4 F4 N4 => ?_
  clear F3 N3
  rw [← Int.natCast_mul]
  k_steps
  exact K _ _ _ (by assumption) (News.sub (by assumption) fun q hq => .tail _ (.tail _ hq))
theorem other_st : CrossSpec (stW 4, lawDef.2) "other" "second" "row" := by
  show CrossSpec ([_], Scope.mk _ _ _ _ _) _ _ _
  unfold CrossSpec
  intro prog w dp un fr gd s g h tk p loose mean mg mb L fa D C E cd m fs fb nd n sz t1 t2 t3 t4 t5 ALL Q X T room h1 h7 hf hb7 F hm1 hm2 N0 hD hC K
  have N : News g L h ((D, lstO (toldL fs sz t1 t2 t3 t4 t5 E) nd) :: (C, lstO (fb.map intV) n) :: ALL) := List.forall_mem_cons.mpr ⟨N0 _ hD, List.forall_mem_cons.mpr ⟨N0 _ hC, N0⟩⟩
  clear N0
  have z1 : (fb.map intV).length ≤ 1000 := by rw [List.length_map]; omega
  have z2 : fb.length ≤ 1000 := by omega
  have hb : ((fb.length : Nat) : Int).natAbs < 2 ^ 64 := by omega
  k_steps
  unfold Hide
  have hp := pow64_le hb7
  have hN1 : numS (dig fs) 0 fs.length ≤ 2 ^ 42 := Nat.le_trans (Nat.le_of_lt (numS_lt (fun k => Nat.lt_trans (dig_lt h1 hf k) (by decide)) 0 fs.length)) (pow64_le h7).2
  refine lsh_N X T (by show dp + 1 < _; omega) F N (by decide) (by omega) (by omega) fun h2 tk2 u2 F2 N2 => ?_
  clear F N
  rw [pow64]
  k_steps
  unfold Hide
  refine sub_N X T (by show dp + 1 < _; omega) F2 N2 (natAbs_lt hp.2) (by decide) fun h3 tk3 u3 F3 N3 => ?_
  clear F2 N2
  rw [show ((64 ^ fb.length : Nat) : Int) - 1 = ((64 ^ fb.length - 1 : Nat) : Int) by omega]
  k_steps
  unfold Hide
  refine mul_N X T (by show dp + 1 < _; omega) F3 N3 (natAbs_lt hN1) (natAbs_lt (by omega)) fun h4 tk4 u4 F4 N4 => ?_
  clear F3 N3
  rw [← Int.natCast_mul]
  k_steps
  exact K _ _ _ (by assumption) (News.sub (by assumption) fun q hq => .tail _ (.tail _ hq))
end
section
set_option maxHeartbeats 4000000
open PySem.Calls PySem.Builtin
local macro_rules | `(tactic| walk_at "nm") => `(tactic| walk_at "mq12")
local macro_rules | `(tactic| walk_at "eval Name") => `(tactic| walk_at "mq21")
local macro_rules | `(tactic| walk_at "call ref") => `(tactic| (k_here; refine hide_intro ?_))
local macro_rules | `(tactic| walk_at "call builtin:len") => `(tactic| walk_at "mq9")
local macro_rules | `(tactic| walk_at "subscriptTail") => `(tactic| walk_at "mq22")
/-- alike = first[1] == second[1] -/
def AlikeSpec (bs : List Stmt × Scope) : Prop := ∀ {prog : Program} {w : World} {dp un : Nat} {fr : Option (List Env)} {gd : Option (List Code)} {s : Shared} {g h : Heap} {tk : Nat} {p : Program} {loose : List Str} {mean : ExcName → Option Value} {mg mb : Str → Option Value}
  {L fa D D2 E E2 : Addr} {cd : Value} {m : Str → Option Value} {fs fs2 : List Nat} {nd nd2 sz : Nat} {t1 t2 t3 t4 t5 u1 u2 u3 u4 u5 : Tok} {ALL : List (Addr × Obj)} {Q : Flow → Shared → Prop}
  (_ : (hd.heap_39 w.params).In g) (_ : Top p loose mean mg mb g) (_ : dp + 30 < recursionLimit)
  (_ : Fr g L h m) (_ : m (Str.ofString "first") = some (.ref D)) (_ : m (Str.ofString "second") = some (.ref D2))
  (_ : News g L h ALL) (_ : (D, lstO (toldL fs sz t1 t2 t3 t4 t5 E) nd) ∈ ALL) (_ : (D2, lstO (toldL fs2 sz u1 u2 u3 u4 u5 E2) nd2) ∈ ALL)
  (_ : ∀ h' tk', Fr g L h' (fun y => if y = Str.ofString "alike" then some (.bool (((numS (dig fs) 0 sz : Nat) : Int) == ((numS (dig fs2) 0 sz : Nat) : Int))) else m y) → News g L h' ALL → Q .next { s with heap := h', toks := tk' }),
  wpAny (model prog w) ((Ar dp un fr gd).deeper (lawEnv bs.2 L fa cd)) (execs bs.1 (lawEnv bs.2 L fa cd)) Q (fun _ _ => False) { s with heap := h, toks := tk }
theorem alike_st : AlikeSpec (stW 5, lawDef.2) := by
  show AlikeSpec ([_], Scope.mk _ _ _ _ _)
  unfold AlikeSpec
  intro prog w dp un fr gd s g h tk p loose mean mg mb L fa D D2 E E2 cd m fs fs2 nd nd2 sz t1 t2 t3 t4 t5 u1 u2 u3 u4 u5 ALL Q X T room F hm1 hm2 N0 hD hD2 K
  have N : News g L h ((D, lstO (toldL fs sz t1 t2 t3 t4 t5 E) nd) :: (D2, lstO (toldL fs2 sz u1 u2 u3 u4 u5 E2) nd2) :: ALL) := List.forall_mem_cons.mpr ⟨N0 _ hD, List.forall_mem_cons.mpr ⟨N0 _ hD2, N0⟩⟩
  clear N0
  k_steps
  exact K _ _ (by assumption) (News.sub (by assumption) fun q hq => .tail _ (.tail _ hq))
/-- for told in [eq(first[1], second[1]), eq(one, other)]: .. -/
def BothSpec (bs : List Stmt × Scope) (bl : Bool) : Prop := ∀ {prog : Program} {w : World} {dp un : Nat} {fr : Option (List Env)} {gd : Option (List Code)} {s : Shared} {g h : Heap} {tk : Nat} {p : Program} {loose : List Str} {mean : ExcName → Option Value} {mg mb : Str → Option Value}
  {L fa D D2 E E2 : Addr} {cd : Value} {m : Str → Option Value} {fs fs2 : List Nat} {nd nd2 sz : Nat} {t1 t2 t3 t4 t5 u1 u2 u3 u4 u5 tx ty : Tok} {x y : Int} {ALL : List (Addr × Obj)} {Q : Flow → Shared → Prop}
  (_ : (hd.heap_39 w.params).In g) (_ : Top p loose mean mg mb g) (_ : dp + 30 < recursionLimit)
  (_ : (((numS (dig fs) 0 sz : Nat) : Int) == ((numS (dig fs2) 0 sz : Nat) : Int)) = bl) (_ : (x == y) = bl)
  (_ : Fr g L h m) (_ : m (Str.ofString "first") = some (.ref D)) (_ : m (Str.ofString "second") = some (.ref D2)) (_ : m (Str.ofString "one") = some (.int x tx)) (_ : m (Str.ofString "other") = some (.int y ty)) (_ : m (Str.ofString "alike") = some (.bool bl)) (_ : m (Str.ofString "told") = none)
  (_ : News g L h ALL) (_ : (D, lstO (toldL fs sz t1 t2 t3 t4 t5 E) nd) ∈ ALL) (_ : (D2, lstO (toldL fs2 sz u1 u2 u3 u4 u5 E2) nd2) ∈ ALL)
  (_ : ∀ h' tk' v, Fr g L h' (fun y => if y = Str.ofString "told" then v else m y) → News g L h' ALL → Q .next { s with heap := h', toks := tk' }),
  wpAny (model prog w) ((Ar dp un fr gd).deeper (lawEnv bs.2 L fa cd)) (execs bs.1 (lawEnv bs.2 L fa cd)) Q (fun _ _ => False) { s with heap := h, toks := tk }
local macro_rules | `(tactic| walk_at "exec For Name List cons nil") => `(tactic| (k_here; (with_unfolding_all refine' For_my ?k2 ?k1; (case k1 => exact fun _ => rfl))))
local macro_rules | `(tactic| walk_at "pyIter ref") => `(tactic| (k_here; refine hide_intro ?_))
theorem both_t : BothSpec (stW 6, lawDef.2) true := by
  show BothSpec ([_], Scope.mk _ _ _ _ _) _
  unfold BothSpec
  intro prog w dp un fr gd s g h tk p loose mean mg mb L fa D D2 E E2 cd m fs fs2 nd nd2 sz t1 t2 t3 t4 t5 u1 u2 u3 u4 u5 tx ty x y ALL Q X T room hb1 hb2 F hm1 hm2 hm3 hm4 hm5 hm6 N0 hD hD2 K
  have N : News g L h ((D, lstO (toldL fs sz t1 t2 t3 t4 t5 E) nd) :: (D2, lstO (toldL fs2 sz u1 u2 u3 u4 u5 E2) nd2) :: ALL) := List.forall_mem_cons.mpr ⟨N0 _ hD, List.forall_mem_cons.mpr ⟨N0 _ hD2, N0⟩⟩
  clear N0
  k_steps
  unfold Hide
  refine eq_N X T (by show dp + 1 < _; omega) F N fun h2 tk2 F2 N2 => ?_
  clear F N
  rw [hb1]
  k_steps
  unfold Hide
  refine eq_N X T (by show dp + 1 < _; omega) F2 N2 fun h3 tk3 F3 N3 => ?_
  clear F2 N2
  rw [hb2]
  k_steps
  rename_i l hA F4 N4 l1
  unfold Hide
  refine pyIter_list_N F4 N4 (.head _) fun it h5 F5 N5 l5 => ?_
  clear F4 N4
  have hit : ∀ q ∈ (l, lstO [.bool true, .bool true] 0) :: (D, lstO (toldL fs sz t1 t2 t3 t4 t5 E) nd) :: (D2, lstO (toldL fs2 sz u1 u2 u3 u4 u5 E2) nd2) :: ALL, q.1 ≠ it := fun q hq => Nat.ne_of_lt (l5 q hq)
  clear l5
  generalize hLE : (D, lstO (toldL fs sz t1 t2 t3 t4 t5 E) nd) :: (D2, lstO (toldL fs2 sz u1 u2 u3 u4 u5 E2) nd2) :: ALL = LE at *
  refine MyFor.intro (fun j s' => ∃ (i : Nat) (h' : Heap) (tk : Nat) (v : Option Value), i ≤ 2 ∧ j = 2 - i ∧ s' = { s with heap := h', toks := tk } ∧ Fr g L h' (fun y => if y = Str.ofString "told" then v else m y) ∧
     News g L h' ((it, liO l i) :: (l, lstO [.bool true, .bool true] 0) :: LE)) 2 ⟨0, h5, _, none, by omega, rfl, rfl, by rw [if_self m _ hm6]; exact F5, N5⟩ ?_
  clear F5 N5
  rintro j s' ⟨i, h', tk, v, hi, rfl, rfl, F, N⟩
  by_cases hlt : i < 2
  · have hx : ([Value.bool true, Value.bool true] : List Value)[i]? = some (.bool true) := by
      have : i = 0 ∨ i = 1 := by omega
      rcases this with rfl | rfl <;> rfl
    refine pyNext_list_N F N (.tail _ (.head _)) hx (.head hit) fun h2 F2 N2 => ?_
    clear F N
    refine wpAny_storeName_local rfl F2.ns (fun h3 hn3 hs3 => ?_)
    have F3 := F2.set hn3 hs3
    have N3 := N2.set hs3
    clear F2 N2 hn3 hs3
    rw [if_if] at F3
    k_steps
    exact ⟨2 - (i + 1), by omega, i + 1, _, _, _, hlt, rfl, rfl, by assumption, by assumption⟩
  · have hiK : i = 2 := by omega
    subst hiK
    refine pyNext_listEnd_N rfl F N (.head _) (by simp) hit fun h2 F2 N2 => ?_
    subst hLE
    exact wpAny_execs_nil (K h2 _ v F2 (News.sub N2 fun q hq => .tail _ (.tail _ (.tail _ hq))))
theorem both_f : BothSpec (stW 6, lawDef.2) false := by
  show BothSpec ([_], Scope.mk _ _ _ _ _) _
  unfold BothSpec
  intro prog w dp un fr gd s g h tk p loose mean mg mb L fa D D2 E E2 cd m fs fs2 nd nd2 sz t1 t2 t3 t4 t5 u1 u2 u3 u4 u5 tx ty x y ALL Q X T room hb1 hb2 F hm1 hm2 hm3 hm4 hm5 hm6 N0 hD hD2 K
  have N : News g L h ((D, lstO (toldL fs sz t1 t2 t3 t4 t5 E) nd) :: (D2, lstO (toldL fs2 sz u1 u2 u3 u4 u5 E2) nd2) :: ALL) := List.forall_mem_cons.mpr ⟨N0 _ hD, List.forall_mem_cons.mpr ⟨N0 _ hD2, N0⟩⟩
  clear N0
  k_steps
  unfold Hide
  refine eq_N X T (by show dp + 1 < _; omega) F N fun h2 tk2 F2 N2 => ?_
  clear F N
  rw [hb1]
  k_steps
  unfold Hide
  refine eq_N X T (by show dp + 1 < _; omega) F2 N2 fun h3 tk3 F3 N3 => ?_
  clear F2 N2
  rw [hb2]
  k_steps
  rename_i l hA F4 N4 l1
  unfold Hide
  refine pyIter_list_N F4 N4 (.head _) fun it h5 F5 N5 l5 => ?_
  clear F4 N4
  have hit : ∀ q ∈ (l, lstO [.bool false, .bool false] 0) :: (D, lstO (toldL fs sz t1 t2 t3 t4 t5 E) nd) :: (D2, lstO (toldL fs2 sz u1 u2 u3 u4 u5 E2) nd2) :: ALL, q.1 ≠ it := fun q hq => Nat.ne_of_lt (l5 q hq)
  clear l5
  generalize hLE : (D, lstO (toldL fs sz t1 t2 t3 t4 t5 E) nd) :: (D2, lstO (toldL fs2 sz u1 u2 u3 u4 u5 E2) nd2) :: ALL = LE at *
  refine MyFor.intro (fun j s' => ∃ (i : Nat) (h' : Heap) (tk : Nat) (v : Option Value), i ≤ 2 ∧ j = 2 - i ∧ s' = { s with heap := h', toks := tk } ∧ Fr g L h' (fun y => if y = Str.ofString "told" then v else m y) ∧
     News g L h' ((it, liO l i) :: (l, lstO [.bool false, .bool false] 0) :: LE)) 2 ⟨0, h5, _, none, by omega, rfl, rfl, by rw [if_self m _ hm6]; exact F5, N5⟩ ?_
  clear F5 N5
  rintro j s' ⟨i, h', tk, v, hi, rfl, rfl, F, N⟩
  by_cases hlt : i < 2
  · have hx : ([Value.bool false, Value.bool false] : List Value)[i]? = some (.bool false) := by
      have : i = 0 ∨ i = 1 := by omega
      rcases this with rfl | rfl <;> rfl
    refine pyNext_list_N F N (.tail _ (.head _)) hx (.head hit) fun h2 F2 N2 => ?_
    clear F N
    refine wpAny_storeName_local rfl F2.ns (fun h3 hn3 hs3 => ?_)
    have F3 := F2.set hn3 hs3
    have N3 := N2.set hs3
    clear F2 N2 hn3 hs3
    rw [if_if] at F3
    k_steps
    exact ⟨2 - (i + 1), by omega, i + 1, _, _, _, hlt, rfl, rfl, by assumption, by assumption⟩
  · have hiK : i = 2 := by omega
    subst hiK
    refine pyNext_listEnd_N rfl F N (.head _) (by simp) hit fun h2 F2 N2 => ?_
    subst hLE
    exact wpAny_execs_nil (K h2 _ v F2 (News.sub N2 fun q hq => .tail _ (.tail _ (.tail _ hq))))
end
section
set_option maxHeartbeats 4000000
open PySem.Calls PySem.Builtin
local macro_rules | `(tactic| walk_at "nm") => `(tactic| walk_at "mq12")
local macro_rules | `(tactic| walk_at "eval Name") => `(tactic| walk_at "mq21")
local macro_rules | `(tactic| walk_at "call ref") => `(tactic| (k_here; refine hide_intro ?_))
local macro_rules | `(tactic| walk_at "call builtin:len") => `(tactic| walk_at "mq9")
local macro_rules | `(tactic| walk_at "subscriptTail") => `(tactic| walk_at "mq22")
local macro_rules | `(tactic| walk_at "compareOp Eq ref ref") => `(tactic| (k_here; refine hide_intro ?_))
section
variable {prog : Program} {w : World} {A : Around} {E : Value → Shared → Prop} {s : Shared} {h₀ : Heap} {L a b : Addr} {news n₁ n₂ : List (Addr × Obj)} {oa ob : Obj} {xs ys : List Value} {ka kb : Nat} {ds : List Dat} {Q : Value → Shared → Prop}
open Classical in
theorem kqd_same (N : News h₀ L s.heap news) (ma : (a, oa) ∈ news) (ca : oa.cls = .type "list") (da : oa.data = .seq xs.toArray ka) (Da : DatAll n₁ xs ds) (sa : ∀ p ∈ n₁, p ∈ news)
    (mb : (b, ob) ∈ news) (cb : ob.cls = .type "list") (db : ob.data = .seq ys.toArray kb) (Db : DatAll n₂ ys ds) (sb : ∀ p ∈ n₂, p ∈ news)
    (ha : ∀ d ∈ ds, kqdOk 8 d = true) (hb : ∀ d ∈ ds, kqdOk 8 d = true) (hu : A.units + 64 < cLine) (h : Q (.bool true) s) : wpAny (model prog w) A (compareOp .Eq (.ref a) (.ref b)) Q E s := by
  refine kqd_eq N ma ca da Da sa mb cb db Db sb ha hb hu ?_
  have e : decide (ds = ds) = true := decide_eq_true rfl
  rw [e]
  exact h
end
def datW (ws : List (List Nat)) : List Dat := ws.map (fun w => Dat.str ⟨w.toArray⟩) ++ [.str (Str.ofString ""), .str (Str.ofString "end"), .str (Str.ofString "")]
def datT (fs : List Nat) (sz : Nat) : List Dat := [.int (numS (dig fs) 0 fs.length : Nat), .int (numS (dig fs) 0 sz : Nat), .int (numS (dig fs) sz (fs.length - sz % fs.length) : Nat), .int (numS (dig fs) 0 fs.length : Nat), .none, .list (datW (wordsOf fs)), .int 1]
theorem dat_strs {news : List (Addr × Obj)} : ∀ vl : List (List Nat × Tok), DatAll news (vl.map strW) ((vl.map (·.1)).map fun w => Dat.str ⟨w.toArray⟩)
  | [] => .nil
  | p :: r => .cons (.str _ _) (dat_strs r)
theorem dat_words {news : List (Addr × Obj)} {fs : List Nat} {vl : List (List Nat × Tok)} (h : vl.map (·.1) = wordsOf fs) (ta tb tc : Tok) : DatAll news (toldW vl ta tb tc) (datW (wordsOf fs)) := by
  unfold datW
  rw [← h]
  exact (dat_strs vl).append (.cons (.str _ _) (.cons (.str _ _) (.cons (.str _ _) .nil)))
theorem dat_told {news : List (Addr × Obj)} {fs : List Nat} {sz : Nat} {vl : List (List Nat × Tok)} {t1 t2 t3 t4 t5 ta tb tc : Tok} {E : Addr} {n : Nat} (h : vl.map (·.1) = wordsOf fs) (hE : (E, lstO (toldW vl ta tb tc) n) ∈ news) : DatAll news (toldL fs sz t1 t2 t3 t4 t5 E) (datT fs sz) :=
  .cons (.int _ _) (.cons (.int _ _) (.cons (.int _ _) (.cons (.int _ _) (.cons .none (.cons (.list hE (dat_words h ta tb tc)) (.cons (.int _ _) .nil))))))
theorem dat_ok {fs : List Nat} {sz : Nat} (hf : ∀ f ∈ fs, f < 63) : ∀ d ∈ datT fs sz, kqdOk 8 d = true := by
  have hw : ∀ d ∈ datW (wordsOf fs), kqdOk 7 d = true := fun d hd => by
    unfold datW at hd
    rcases List.mem_append.mp hd with hd | hd
    · obtain ⟨w, hw, rfl⟩ := List.mem_map.mp hd
      obtain ⟨i, hi, rfl⟩ := List.getElem_of_mem hw
      obtain ⟨c, hc, e⟩ := words_ok hf i hi
      rw [List.getD_eq_getElem?_getD, List.getElem?_eq_getElem hi] at e
      rw [show (wordsOf fs)[i] = if i % 2 = 1 then [c] else [c, 43] from e]
      split <;> simp [kqdOk, PyData.strOk] <;> omega
    · simp only [List.mem_cons, List.not_mem_nil, or_false] at hd
      rcases hd with rfl | rfl | rfl <;> (simp only [kqdOk]; decide +kernel)
  intro d hd
  unfold datT at hd
  simp only [List.mem_cons, List.not_mem_nil, or_false] at hd
  rcases hd with rfl | rfl | rfl | rfl | rfl | rfl | rfl
  · rfl
  · rfl
  · rfl
  · rfl
  · rfl
  · simpa [kqdOk] using hw
  · rfl
/-- return first == _law_due(row, size) and second == _law_due(beside, size) -/
def EndSpec (bs : List Stmt × Scope) : Prop := ∀ {prog : Program} {w : World} {dp un : Nat} {fr : Option (List Env)} {gd : Option (List Code)} {s : Shared} {g h : Heap} {tk : Nat} {p : Program} {loose : List Str} {mean : ExcName → Option Value} {mg mb : Str → Option Value}
  {L fa A C D D2 E E2 : Addr} {cd : Value} {m : Str → Option Value} {fl fb : List (Nat × Tok)} {vl vl2 : List (List Nat × Tok)} {na nc nd nd2 ne ne2 sz : Nat} {tz t1 t2 t3 t4 t5 u1 u2 u3 u4 u5 a1 a2 a3 b1 b2 b3 : Tok} {ALL : List (Addr × Obj)} {Q : Flow → Shared → Prop}
  (_ : (hd.heap_39 w.params).In g) (_ : Top p loose mean mg mb g) (_ : dp + 30 < recursionLimit) (_ : un + 1000 < cLine)
  (_ : 1 ≤ fl.length) (_ : fl.length ≤ 7) (_ : ∀ q ∈ fl, q.1 < 63) (_ : 1 ≤ fb.length) (_ : fb.length ≤ 7) (_ : ∀ q ∈ fb, q.1 < 63) (_ : sz ≤ 14)
  (_ : vl.map (·.1) = wordsOf (fl.map (·.1))) (_ : vl2.map (·.1) = wordsOf (fb.map (·.1)))
  (_ : Fr g L h m) (_ : m (Str.ofString "row") = some (.ref A)) (_ : m (Str.ofString "beside") = some (.ref C)) (_ : m (Str.ofString "size") = some (.int sz tz)) (_ : m (Str.ofString "first") = some (.ref D)) (_ : m (Str.ofString "second") = some (.ref D2))
  (_ : News g L h ALL) (_ : (A, lstO (fl.map intV) na) ∈ ALL) (_ : (C, lstO (fb.map intV) nc) ∈ ALL)
  (_ : (D, lstO (toldL (fl.map (·.1)) sz t1 t2 t3 t4 t5 E) nd) ∈ ALL) (_ : (E, lstO (toldW vl a1 a2 a3) ne) ∈ ALL)
  (_ : (D2, lstO (toldL (fb.map (·.1)) sz u1 u2 u3 u4 u5 E2) nd2) ∈ ALL) (_ : (E2, lstO (toldW vl2 b1 b2 b3) ne2) ∈ ALL)
  (_ : ∀ h' tk' , Fr g L h' m → News g L h' ALL → Q (.ret (.bool true)) { s with heap := h', toks := tk' }),
  wpAny (model prog w) ((Ar dp un fr gd).deeper (lawEnv bs.2 L fa cd)) (execs bs.1 (lawEnv bs.2 L fa cd)) Q (fun _ _ => False) { s with heap := h, toks := tk }
theorem end_st : EndSpec (stW 7, lawDef.2) := by
  show EndSpec ([_], Scope.mk _ _ _ _ _)
  unfold EndSpec
  intro prog w dp un fr gd s g h tk p loose mean mg mb L fa A C D D2 E E2 cd m fl fb vl vl2 na nc nd nd2 ne ne2 sz tz t1 t2 t3 t4 t5 u1 u2 u3 u4 u5 a1 a2 a3 b1 b2 b3 ALL Q X T room hun h1 h7 hf g1 g7 gf hsz hvl hvl2 F hm1 hm2 hm3 hm4 hm5 N hA hC hD hE hD2 hE2 K
  k_steps
  unfold Hide
  rename Fr g L _ _ => F1
  refine due_N X T (by show dp + 1 + 1 < _; omega) h7 hf h1 hsz F1 N hA fun h2 tk2 wl wb ra nb nr v1 v2 v3 v4 v5 w1 w2 w3 hwl F2 N2 => ?_
  clear F1 N
  k_steps
  unfold Hide
  refine kqd_same (n₁ := _ :: _ :: ALL) (n₂ := _ :: _ :: ALL) N2 (.tail _ (.tail _ hD)) rfl rfl (dat_told hvl (.tail _ (.tail _ hE))) (fun _ h => h) (.head _) rfl rfl (dat_told hwl (.tail _ (.head _))) (fun _ h => h) (dat_ok (figs_lt hf)) (dat_ok (figs_lt hf)) (by dsimp only [Around.deeper, Ar]; omega) ?_
  k_steps
  unfold Hide
  refine due_N X T (by show dp + 1 + 1 < _; omega) g7 gf g1 hsz F2 N2 (.tail _ (.tail _ hC)) fun h3 tk3 wl2 wb2 ra2 nb2 nr2 v1 v2 v3 v4 v5 w1 w2 w3 hwl2 F3 N3 => ?_
  clear F2 N2
  k_steps
  unfold Hide
  refine kqd_same (n₁ := _ :: _ :: _ :: _ :: ALL) (n₂ := _ :: _ :: _ :: _ :: ALL) N3 (.tail _ (.tail _ (.tail _ (.tail _ hD2)))) rfl rfl (dat_told hvl2 (.tail _ (.tail _ (.tail _ (.tail _ hE2))))) (fun _ h => h) (.head _) rfl rfl (dat_told hwl2 (.tail _ (.head _))) (fun _ h => h) (dat_ok (figs_lt gf)) (dat_ok (figs_lt gf)) (by dsimp only [Around.deeper, Ar]; omega) ?_
  k_steps
  exact K _ _ F3 (News.sub N3 fun q hq => .tail _ (.tail _ (.tail _ (.tail _ hq))))
end
section
set_option maxHeartbeats 4000000
open PySem.Calls PySem.Builtin
local macro_rules | `(tactic| walk_at "nm") => `(tactic| walk_at "mq18")
theorem wbody_at (j : Nat) : lawDef.1.drop j = stW j ++ lawDef.1.drop (j + 1) := by
  unfold stW
  rw [← List.drop_drop, List.take_append_drop]
theorem eq_beq {a b c d : Nat} (h : a = b ↔ c = d) : (((c : Nat) : Int) == ((d : Nat) : Int)) = (((a : Nat) : Int) == ((b : Nat) : Int)) := by
  rw [Bool.eq_iff_iff, beq_iff_eq, beq_iff_eq]
  omega
theorem law_body {prog : Program} {w : World} {dp un : Nat} {fr : Option (List Env)} {gd : Option (List Code)} {s : Shared} {g h : Heap} {tk : Nat} {p : Program} {loose : List Str} {mean : ExcName → Option Value} {mg mb : Str → Option Value}
  {b : List Stmt} (hbd : b = lawDef.1) {L fa sa : Addr} {cd : Value} {m : Str → Option Value} {vs : List Value} {ns : List Int} {Q : Flow → Shared → Prop}
  (X : (hd.heap_39 w.params).In g) (T : Top p loose mean mg mb g) (room : dp + 30 < recursionLimit) (hun : un + 1000 < cLine)
  (hsl : g.IsList sa vs.toArray) (hI : IntsAre vs ns) (hn : ns.length ≤ 63)
  (F : Fr g L h m) (hm1 : m (Str.ofString "script") = some (.ref sa)) (hm2 : m (Str.ofString "told") = none)
  (N : News g L h [(126, tabObj #[]), (133, tabObj #[])])
  (K : ∀ h' tk' m' c1 c2 c4, Fr g L h' m' → News g L h' [(133, tab2 c1 c2), (126, ringTab c4)] → Q (.ret (.bool true)) { s with heap := h', toks := tk' }) :
  wpAny (model prog w) ((Ar dp un fr gd).deeper (lawEnv lawDef.2 L fa cd)) (execs b (lawEnv lawDef.2 L fa cd)) Q (fun _ _ => False) { s with heap := h, toks := tk } := by
  have hr : RSpec (stW 0, lawDef.2) := @r_st
  have e0 : b = stW 0 ++ lawDef.1.drop 1 := hbd.trans (wbody_at 0)
  rw [e0]
  clear e0
  revert hr
  generalize stW 0 = b0
  intro hr
  refine execs_app _ _ (hr X T room hsl hI hn F hm1 N fun h' tk' A C tz fl fb a1 a2 a3 a4 a5 a6 F N => ?_)
  show wpAny _ _ (execs (lawDef.1.drop 1) _) _ _ _
  rw [wbody_at 1]
  have hlf : (fl.map (·.1)).length = fl.length := List.length_map ..
  have hlb : (fb.map (·.1)).length = fb.length := List.length_map ..
  have hgl : Nat.gcd fl.length fb.length ≤ fl.length := Nat.gcd_le_left _ a1
  have hs1 : 1 ≤ fl.length + fb.length - Nat.gcd fl.length fb.length := by omega
  have hs2 : fl.length + fb.length - Nat.gcd fl.length fb.length ≤ 14 := by omega
  have hmath := law_math (d := dig (fl.map (·.1))) (e := dig (fb.map (·.1))) (m := (fl.map (·.1)).length) (n := (fb.map (·.1)).length) (by omega) (by omega) (dig_per _) (dig_per _) (fun k => dig_lt (by omega) (figs_lt a5) k) (fun k => dig_lt (by omega) (figs_lt a6) k)
  rw [hlf, hlb] at hmath
  generalize fl.length + fb.length - Nat.gcd fl.length fb.length = sz at *
  have hA0 : AllLists [(A, lstO (fl.map intV) 0), (C, lstO (fb.map intV) 0)] := AllLists.cons (AllLists.cons fun _ h => nomatch h)
  have N1 : News g L h' ((133, tabObj #[]) :: (126, tabObj #[]) :: [(A, lstO (fl.map intV) 0), (C, lstO (fb.map intV) 0)]) := News.sub N fun q hq => by
    simp only [List.mem_cons, List.not_mem_nil, or_false] at hq ⊢
    grind
  clear N
  refine execs_app _ _ (first_st X T room a1 a2 a5 hs1 hs2 F (by walk_at "nm") (by walk_at "nm") N1 hA0 (.head _) fun h' tk' D E nd ne t1 t2 t3 t4 t5 ta tb tc vl c1 od1 c2 od2 c3 od3 hvl hc1 hc2 hc3 F N => ?_)
  clear N1
  show wpAny _ _ (execs (lawDef.1.drop 2) _) _ _ _
  rw [wbody_at 2]
  refine execs_app _ _ (second_st X T room hc1 hc2 hc3 a3 a4 a6 hs1 hs2 F (by walk_at "nm") (by walk_at "nm") N hA0.cons.cons (.tail _ (.tail _ (.tail _ (.head _)))) fun h' tk' D2 E2 nd2 ne2 u1 u2 u3 u4 u5 ua ub uc vl2 c4 hvl2 F N => ?_)
  show wpAny _ _ (execs (lawDef.1.drop 3) _) _ _ _
  rw [wbody_at 3]
  have mD2 : (D2, lstO (toldL (fb.map (·.1)) sz u1 u2 u3 u4 u5 E2) nd2) ∈ (133, tab2 c1 c2) :: (126, ringTab c4) :: (D2, lstO (toldL (fb.map (·.1)) sz u1 u2 u3 u4 u5 E2) nd2) :: (E2, lstO (toldW vl2 ua ub uc) ne2) :: (D, lstO (toldL (fl.map (·.1)) sz t1 t2 t3 t4 t5 E) nd) :: (E, lstO (toldW vl ta tb tc) ne) :: [(A, lstO (fl.map intV) 0), (C, lstO (fb.map intV) 0)] := .tail _ (.tail _ (.head _))
  have mE2 : (E2, lstO (toldW vl2 ua ub uc) ne2) ∈ (133, tab2 c1 c2) :: (126, ringTab c4) :: (D2, lstO (toldL (fb.map (·.1)) sz u1 u2 u3 u4 u5 E2) nd2) :: (E2, lstO (toldW vl2 ua ub uc) ne2) :: (D, lstO (toldL (fl.map (·.1)) sz t1 t2 t3 t4 t5 E) nd) :: (E, lstO (toldW vl ta tb tc) ne) :: [(A, lstO (fl.map intV) 0), (C, lstO (fb.map intV) 0)] := .tail _ (.tail _ (.tail _ (.head _)))
  have mD : (D, lstO (toldL (fl.map (·.1)) sz t1 t2 t3 t4 t5 E) nd) ∈ (133, tab2 c1 c2) :: (126, ringTab c4) :: (D2, lstO (toldL (fb.map (·.1)) sz u1 u2 u3 u4 u5 E2) nd2) :: (E2, lstO (toldW vl2 ua ub uc) ne2) :: (D, lstO (toldL (fl.map (·.1)) sz t1 t2 t3 t4 t5 E) nd) :: (E, lstO (toldW vl ta tb tc) ne) :: [(A, lstO (fl.map intV) 0), (C, lstO (fb.map intV) 0)] := .tail _ (.tail _ (.tail _ (.tail _ (.head _))))
  have mE : (E, lstO (toldW vl ta tb tc) ne) ∈ (133, tab2 c1 c2) :: (126, ringTab c4) :: (D2, lstO (toldL (fb.map (·.1)) sz u1 u2 u3 u4 u5 E2) nd2) :: (E2, lstO (toldW vl2 ua ub uc) ne2) :: (D, lstO (toldL (fl.map (·.1)) sz t1 t2 t3 t4 t5 E) nd) :: (E, lstO (toldW vl ta tb tc) ne) :: [(A, lstO (fl.map intV) 0), (C, lstO (fb.map intV) 0)] := .tail _ (.tail _ (.tail _ (.tail _ (.tail _ (.head _)))))
  have mA : (A, lstO (fl.map intV) 0) ∈ (133, tab2 c1 c2) :: (126, ringTab c4) :: (D2, lstO (toldL (fb.map (·.1)) sz u1 u2 u3 u4 u5 E2) nd2) :: (E2, lstO (toldW vl2 ua ub uc) ne2) :: (D, lstO (toldL (fl.map (·.1)) sz t1 t2 t3 t4 t5 E) nd) :: (E, lstO (toldW vl ta tb tc) ne) :: [(A, lstO (fl.map intV) 0), (C, lstO (fb.map intV) 0)] := .tail _ (.tail _ (.tail _ (.tail _ (.tail _ (.tail _ (.head _))))))
  have mC : (C, lstO (fb.map intV) 0) ∈ (133, tab2 c1 c2) :: (126, ringTab c4) :: (D2, lstO (toldL (fb.map (·.1)) sz u1 u2 u3 u4 u5 E2) nd2) :: (E2, lstO (toldW vl2 ua ub uc) ne2) :: (D, lstO (toldL (fl.map (·.1)) sz t1 t2 t3 t4 t5 E) nd) :: (E, lstO (toldW vl ta tb tc) ne) :: [(A, lstO (fl.map intV) 0), (C, lstO (fb.map intV) 0)] := .tail _ (.tail _ (.tail _ (.tail _ (.tail _ (.tail _ (.tail _ (.head _)))))))
  have hend : ∀ q ∈ [(133, tab2 c1 c2), (126, ringTab c4)], q ∈ (133, tab2 c1 c2) :: (126, ringTab c4) :: (D2, lstO (toldL (fb.map (·.1)) sz u1 u2 u3 u4 u5 E2) nd2) :: (E2, lstO (toldW vl2 ua ub uc) ne2) :: (D, lstO (toldL (fl.map (·.1)) sz t1 t2 t3 t4 t5 E) nd) :: (E, lstO (toldW vl ta tb tc) ne) :: [(A, lstO (fl.map intV) 0), (C, lstO (fb.map intV) 0)] := fun q hq => by
    simp only [List.mem_cons, List.not_mem_nil, or_false] at hq
    rcases hq with rfl | rfl
    · exact .head _
    · exact .tail _ (.head _)
  generalize (133, tab2 c1 c2) :: (126, ringTab c4) :: (D2, lstO (toldL (fb.map (·.1)) sz u1 u2 u3 u4 u5 E2) nd2) :: (E2, lstO (toldW vl2 ua ub uc) ne2) :: (D, lstO (toldL (fl.map (·.1)) sz t1 t2 t3 t4 t5 E) nd) :: (E, lstO (toldW vl ta tb tc) ne) :: [(A, lstO (fl.map intV) 0), (C, lstO (fb.map intV) 0)] = ALL at *
  refine execs_app _ _ (one_st X T room (by omega) (by omega) (figs_lt a5) a4 F (by walk_at "nm") (by walk_at "nm") N mD mC fun h' tk' t F N => ?_)
  show wpAny _ _ (execs (lawDef.1.drop 4) _) _ _ _
  rw [wbody_at 4]
  refine execs_app _ _ (other_st X T room (by omega) (by omega) (figs_lt a6) a2 F (by walk_at "nm") (by walk_at "nm") N mD2 mA fun h' tk' t' F N => ?_)
  show wpAny _ _ (execs (lawDef.1.drop 5) _) _ _ _
  rw [wbody_at 5]
  refine execs_app _ _ (alike_st X T room F (by walk_at "nm") (by walk_at "nm") N mD mD2 fun h' tk' F N => ?_)
  show wpAny _ _ (execs (lawDef.1.drop 6) _) _ _ _
  rw [wbody_at 6]
  have hxy := eq_beq hmath
  rw [hlf, hlb] at F
  have fin : ∀ {s : Shared} {h' : Heap} {tk' : Nat} {v : Option Value} {mm : Str → Option Value}, Fr g L h' (fun y => if y = Str.ofString "told" then v else mm y) → News g L h' ALL → mm (Str.ofString "row") = some (.ref A) → mm (Str.ofString "beside") = some (.ref C) → mm (Str.ofString "size") = some (.int sz tz) → mm (Str.ofString "first") = some (.ref D) → mm (Str.ofString "second") = some (.ref D2) →
      (∀ h' tk' m' c1 c2 c4, Fr g L h' m' → News g L h' [(133, tab2 c1 c2), (126, ringTab c4)] → Q (.ret (.bool true)) { s with heap := h', toks := tk' }) →
      wpAny (model prog w) ((Ar dp un fr gd).deeper (lawEnv lawDef.2 L fa cd)) (execs (lawDef.1.drop 7) (lawEnv lawDef.2 L fa cd)) Q (fun _ _ => False) { s with heap := h', toks := tk' } := by
    intro s h' tk' v mm F N e1 e2 e3 e4 e5 K
    rw [wbody_at 7]
    refine execs_app _ _ (end_st X T room hun a1 a2 a5 a3 a4 a6 hs2 hvl hvl2 F (by walk_at "nm") (by walk_at "nm") (by walk_at "nm") (by walk_at "nm") (by walk_at "nm") N mA mC mD mE mD2 mE2 fun h' tk' F N => ?_)
    show Q _ _
    exact K h' tk' _ c1 c2 c4 F (News.sub N hend)
  cases hbl : (((numS (dig (fl.map (·.1))) 0 sz : Nat) : Int) == ((numS (dig (fb.map (·.1))) 0 sz : Nat) : Int)) with
  | true =>
    rw [hbl] at F hxy
    refine execs_app _ _ (both_t X T room hbl hxy F (by walk_at "nm") (by walk_at "nm") (by walk_at "nm") (by walk_at "nm") (by walk_at "nm") (by walk_at "nm") N mD mD2 fun h' tk' v F N => ?_)
    exact fin F N (by walk_at "nm") (by walk_at "nm") (by walk_at "nm") (by walk_at "nm") (by walk_at "nm") K
  | false =>
    rw [hbl] at F hxy
    refine execs_app _ _ (both_f X T room hbl hxy F (by walk_at "nm") (by walk_at "nm") (by walk_at "nm") (by walk_at "nm") (by walk_at "nm") (by walk_at "nm") N mD mD2 fun h' tk' v F N => ?_)
    exact fin F N (by walk_at "nm") (by walk_at "nm") (by walk_at "nm") (by walk_at "nm") (by walk_at "nm") K
end
end Mine
set_option maxHeartbeats 8000000 in
theorem PySem.Challenge.cw_wk0010_01_holds : PySem.Challenge.rw_wk0010_01.Holds :=
  Mine.hd (by
  k_go0
  rename Frag.In _ _ => X
  rename Top _ _ _ _ _ _ => T
  rename Fr _ _ _ _ => F
  rename News _ _ _ _ => N
  rename IntsAre _ _ => hI
  refine wpAny_mono (Mine.law_body (dp := 1 + claimMargin) (un := 4) (fr := some []) (gd := some []) (b := _) rfl X T (by decide) (by decide) (by assumption) hI ?_ F rfl rfl N fun h' tk' m' c1 c2 c4 F' N' => ?_) (fun f s' hq => hq) (fun _ _ y => y.elim)
  · omega
  · refine ⟨?_, ⟨_, (N' _ (List.Mem.tail _ (List.Mem.head _))).1⟩, ⟨_, (N' _ (List.Mem.head _)).1⟩, trivial⟩
    dsimp only
    wrow_close)
