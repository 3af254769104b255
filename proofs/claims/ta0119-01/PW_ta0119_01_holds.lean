import PyProof.Rows.All
import Wide.All
import OpenK.AllK
import Wide.FinOn
import Lean
import PySem.Challenge.RW_ta0119_01
open PySem PySem.W PyProof.Rows PySem.Calls PyProof.V PySem.Spec
set_option Elab.async false
set_option maxRecDepth 100000
namespace Mine
set_option maxRecDepth 100000 in
set_option maxHeartbeats 8000000 in
open_top hd for PySem.Challenge.rw_ta0119_01
set_option maxHeartbeats 8000000 in
theorem fill0 : PySem.Challenge.rw_ta0119_01 = PySem.Challenge.rw_ta0119_01 ∧ hd.heap_39 = hd.heap_39 := by
  k_fill
  exact ⟨rfl, rfl⟩
local macro_rules | `(tactic| walk_at "my sub") => `(tactic| first | exact List.forall_mem_nil _ | refine List.forall_mem_cons.mpr ⟨by k_mem, by walk_at "my sub"⟩)
local macro_rules | `(tactic| walk_at "my names") => `(tactic| first | exact List.forall_mem_nil _ | refine List.forall_mem_cons.mpr ⟨by rfl, by walk_at "my names"⟩)
local macro_rules | `(tactic| walk_at "my rest") => `(tactic| (intro z hz; (simp only [List.forall_mem_cons, List.forall_mem_nil, and_true] at hz); (simp [hz])))
local macro_rules | `(tactic| walk_at "eval Call Name") => `(tactic| (k_here; k_dflt (refine Call_ ?_)))
local macro_rules | `(tactic| walk_at "ite") => `(tactic| (k_closed; first | refine ite_pos (by decide +kernel) ?_ | refine ite_neg (by decide +kernel) ?_))
local macro_rules | `(tactic| walk_at "execs cons Assign cons") => `(tactic| (k_here; walk_at "execs cons"))
local macro_rules | `(tactic| walk_at "my ask") => `(tactic| ((case B => k_asm); (case F => k_asm); (case X => k_asm); (case T => k_asm); (case hk => first | exact rfl | assumption); (case hd => ktr_room); (case hu => ktr_units)))
local macro_rules | `(tactic| walk_at "my inline") => `(tactic| (refine' code_def ?k1 ?k2 ?k3 ?k4 ?k5 ?kA ?kF ?kK ?k6 ?k7 ?k8 ?k9 ?kB ?_ ?c2 ?c3 ?c4 ?c5; (case kA => exact rfl); (case kF => exact rfl); (case kK => first | exact rfl | assumption); (case k1 => k_asm); (case k2 => k_asm); (case k3 => k_asm); (case k4 => k_asm); (case k5 => k_asm); (case k6 => k_is); (case k7 => k_is); (case k8 => ktr_room); (case k9 => first | exact BindsTo.of_eq rfl | exact binds_K (by k_in) rfl (by k_is) rfl rfl rfl | fail "my inline: no rule for these arguments"); (case c5 => decide); (case kB => exact locs rfl); (case c2 => exact rfl); (case c3 => exact rfl); (case c4 => exact rfl); k_whole; intro g' L' h' FG' F' N' B' X' T'; (try dsimp only); (try k_lift B'); (try k_fold)))
local macro_rules | `(tactic| walk_at "call ref") => `(tactic| (k_here; k_dflt (refine wpAny_call ?_; walk_at "my inline")))
local macro_rules | `(tactic| ke_room) => `(tactic| ktr_units)
local macro_rules | `(tactic| k_units) => `(tactic| ktr_units)
local macro_rules | `(tactic| k_room) => `(tactic| ktr_room)

theorem offM0 : True := by
  w_top off
  trivial
/-- all but what is named stands -/
def Kept (ch : List Addr) (h h' : Heap) : Prop := ∀ b o, b ∉ ch → h.get? b = some o → h'.get? b = some o

theorem Kept.refl (h : Heap) : Kept [] h h := fun _ _ _ e => e
theorem Kept.trans {ch : List Addr} {h h' h'' : Heap} (a : Kept ch h h') (b : Kept ch h' h'') : Kept ch h h'' := fun x o n e => b x o n (a x o n e)
theorem Kept.mono {ch ch' : List Addr} {h h' : Heap} (a : Kept ch h h') (hs : ∀ x ∈ ch, x ∈ ch') : Kept ch' h h' := fun x o n e => a x o (fun q => n (hs x q)) e

theorem Kept.fr {h₀ h h' : Heap} {L : Addr} {m : Str → Option Value} {ch : List Addr} (k : Kept ch h h') (F : Fr h₀ L h m) (hc : ∀ b ∈ ch, b ≠ L ∧ h₀.get? b = none) : Fr h₀ L h' m := by
  obtain ⟨⟨oL, a1, a2, hL, a3⟩, kp, ab⟩ := F
  refine ⟨⟨oL, a1, a2, k _ _ (fun q => (hc _ q).1 rfl) hL, a3⟩, fun b o e => k _ _ (fun q => ?_) (kp b o e), ab⟩
  rw [(hc _ q).2] at e; cases e
theorem Kept.news {h₀ h h' : Heap} {L : Addr} {news : List (Addr × Obj)} (k : Kept [L] h h') (N : News h₀ L h news) : News h₀ L h' news :=
  fun p hp => ⟨k _ _ (fun q => (N p hp).2.1 (List.mem_singleton.mp q)) (N p hp).1, (N p hp).2⟩
theorem fresh_of {h₀ h : Heap} {L x : Addr} {m : Str → Option Value} (F : Fr h₀ L h m) (e : h.get? x = none) : x ≠ L ∧ h₀.get? x = none := by
  constructor
  · rintro rfl
    obtain ⟨oL, a1, a2, hL, a3⟩ := F.ns
    rw [e] at hL; cases hL
  · cases q : h₀.get? x with
    | none => rfl
    | some o => have := F.keep _ _ q; rw [e] at this; cases this
theorem news_add {h₀ h h' : Heap} {L x : Addr} {o : Obj} {m : Str → Option Value} {news : List (Addr × Obj)} (F : Fr h₀ L h m) (e : h.get? x = none) (e' : h'.get? x = some o) (N : News h₀ L h' news) : News h₀ L h' ((x, o) :: news) := by
  intro p hp
  rcases List.mem_cons.mp hp with rfl | hp
  · exact ⟨e', fresh_of F e⟩
  · exact N p hp

/-- what a call of f with vs does -/
def Con (prog : Program) (w : World) (p : Program) (loose : List Str) (mean : ExcName → Option Value) (mg mb : Str → Option Value) (f : Addr) (vs : List Value) (n : Nat) (H : Heap → Prop) (ch : List Addr) (P : Heap → Heap → Value → Prop) : Prop :=
  ∀ (dp un : Nat) (gd : Option (List Code)) (cn : Str) (cs : Scope) (a : Addr) (ccd : Value) (cl : List (Str × Addr)) (outer : List Env) (A₀ : Around) (base h₀ : Heap) (L : Addr) (m : Str → Option Value) (s : Shared) (Q E : Value → Shared → Prop),
    Below A₀ base outer h₀ → Fr h₀ L s.heap m → (hd.heap_39 w.params).In h₀ → Top p loose mean mg mb h₀ → cs.kind = .function → dp + n < recursionLimit → un + 8 * n < cLine →
    H s.heap → (∀ b ∈ ch, b ≠ L ∧ h₀.get? b = none) →
    (∀ r h' tk', Fr h₀ L h' m → Kept (L :: ch) s.heap h' → P s.heap h' r → Q r { s with heap := h', toks := tk' }) →
    wpAny (model prog w) (ktrTop dp un gd cn cs L a ccd cl outer) (call (.ref f) vs) Q E s

section
variable {prog : Program} {w : World} {A A₀ : Around} {s : Shared} {K : Frag} {L : Addr} {h₀ base : Heap} {m mg mb : Str → Option Value} {news : List (Addr × Obj)} {p : Program} {loose : List Str} {mean : ExcName → Option Value}

theorem enter_plain {env : Env} {outer : List Env} {R : Result → Shared → Prop} {name qual : Str} {params : Arguments} {body : List Stmt} {scope : Scope} {dV kV doc pm cdv ct oc : Value} {an od : Option Addr} {osl : Array (Option Value)} {f : Addr} {args : Args} {binds : List (Str × Value)}
    (B : Below A₀ base outer h₀) (F : Fr h₀ L s.heap m) (X₀ : K.In h₀) (N : News h₀ L s.heap news) (T : Top p loose mean mg mb h₀) (hA : A.frames = some (env :: outer)) (hf : env.frame = some L) (hke : env.scope.kind = .function)
    (ho : K.lookup f = some ⟨oc, od, .func (fnOf name qual params body scope dV kV doc pm an cdv ct), osl⟩) (hcd : codeIn K cdv qual = true) (hroom : A.depth < recursionLimit)
    (hbind : BindsTo s (fnOf name qual params body scope dV kV doc pm an cdv ct) args binds) (hloc : ∀ y ∈ binds, scope.names.lookup y.1 = some .local)
    (h : ∀ g L' h₁, Fr h₀ L g m → Fr g L' h₁ (fun y => binds.reverse.lookup y) → News g L' h₁ news → Below A base (env :: outer) g → K.In g → Top p loose mean mg mb g →
      (∀ b o, b ∉ news.map (·.1) → s.heap.get? b = some o → g.get? b = some o) → (∀ b o, g.get? b = some o → s.heap.get? b = some o) → (∀ p ∈ news, p.1 < L') →
      wpAny (model prog w) (A.deeper (envOf qual scope L' f cdv)) (execs body (envOf qual scope L' f cdv))
        (fun fl s' => LeaveK h₀ L m g R (match fl with | .ret v => v | _ => .none) s')
        (fun e s' => wpAny (model prog w) (A.deeper (envOf qual scope L' f cdv)) (leaving (envOf qual scope L' f cdv) e) (fun _ s'' => R (.error e) s'') (fun e' s'' => R (.error e') s'') s')
        { s with heap := h₁, toks := s.toks + binds.length })
    (hco : scope.isCoroutine = false) (hgen : scope.isGenerator = false) (hk : scope.kind = .function)
    (hcell : ∀ x ∈ scope.names, x.2 ≠ .cell) : codeAny (model prog w) A (.call (.ref f) args) R s := by
  obtain ⟨FG, BG, st, lv⟩ := groundX (R := R) B F N hA hf hke
  have X : K.In s.heap := X₀.keeps F.keep
  refine codeAny_call_def (fd := fnOf name qual params body scope dV kV doc pm an cdv ct) (body := body) (binds := binds) hroom (X _ _ ho) rfl (T.nolimit.keeps F.keep) (codeRec_of X hcd) rfl hbind hcell hloc (fun h₁ hns hk₁ => ?_) hco hgen hk
  exact wpAny_mono (h _ s.heap.objs.size h₁ FG ⟨hns, fun b o e => hk₁ b o (of_hideAll _ e), Nat.le_of_eq (hideAll_size _ _)⟩
    (fun p hp => ⟨hk₁ _ _ (N p hp).1, Nat.ne_of_lt (Heap.lt_size (N p hp).1), hideAll_none _ (List.mem_map_of_mem hp)⟩) BG (X₀.keeps st) (T.keeps st)
    (fun b o hn e => hideAll_get _ e hn) (fun b o e => of_hideAll _ e) (fun p hp => Heap.lt_size (N p hp).1)) (fun fl s' hl => lv _ _ hl) fun _ _ y => y

theorem enter_cells {env : Env} {outer : List Env} {R : Result → Shared → Prop} {name qual : Str} {params : Arguments} {body : List Stmt} {scope : Scope} {dV kV doc pm cdv ct oc : Value} {an od : Option Addr} {osl : Array (Option Value)} {f : Addr} {args : Args} {binds : List (Str × Value)}
    (B : Below A₀ base outer h₀) (F : Fr h₀ L s.heap m) (X₀ : K.In h₀) (N : News h₀ L s.heap news) (T : Top p loose mean mg mb h₀) (hA : A.frames = some (env :: outer)) (hf : env.frame = some L) (hke : env.scope.kind = .function)
    (ho : K.lookup f = some ⟨oc, od, .func (fnOf name qual params body scope dV kV doc pm an cdv ct), osl⟩) (hcd : codeIn K cdv qual = true) (hroom : A.depth < recursionLimit)
    (hbind : BindsTo s (fnOf name qual params body scope dV kV doc pm an cdv ct) args binds) (hkind : (binds.all fun y => scope.names.lookup y.1 == some .local || scope.names.lookup y.1 == some .cell) = true)
    (hnd : ((cellsFrom 0 scope.names []).map (·.1)).Nodup)
    (h : ∀ g L' h₁ tk cells, Fr h₀ L g m → Fr g L' h₁ (bindL (envOfC qual scope L' f cdv).kindOf binds fun _ => none) → News g L' h₁ (cells ++ news) →
      CellsAre (bindC (envOfC qual scope L' f cdv).kindOf binds fun _ => none) (cellsFrom (L' + 1) scope.names []) cells → Below A base (env :: outer) g → K.In g → Top p loose mean mg mb g →
      (∀ b o, b ∉ news.map (·.1) → s.heap.get? b = some o → g.get? b = some o) → (∀ b o, g.get? b = some o → s.heap.get? b = some o) → (∀ p ∈ news, p.1 < L') →
      wpAny (model prog w) (A.deeper (envOfC qual scope L' f cdv)) (execs body (envOfC qual scope L' f cdv))
        (fun fl s' => LeaveK h₀ L m g R (match fl with | .ret v => v | _ => .none) s')
        (fun e s' => wpAny (model prog w) (A.deeper (envOfC qual scope L' f cdv)) (leaving (envOfC qual scope L' f cdv) e) (fun _ s'' => R (.error e) s'') (fun e' s'' => R (.error e') s'') s')
        { s with heap := h₁, toks := tk })
    (hco : scope.isCoroutine = false) (hgen : scope.isGenerator = false) (hk : scope.kind = .function) : codeAny (model prog w) A (.call (.ref f) args) R s := by
  obtain ⟨FG, BG, st, lv⟩ := groundX (R := R) B F N hA hf hke
  have X : K.In s.heap := X₀.keeps F.keep
  refine codeAny_call_function hroom (X _ _ ho) rfl hco hgen rfl (codeRec_of X hcd) (hbind _ _ _ _ ?_)
  refine wpAny_newFunctionEnv_cells hk (kindsX hkind _) fun env' he s' x => ?_
  subst he
  refine ⟨(T.nolimit.keeps F.keep).keeps x.toInCall.keep, codeAny_func ?_⟩
  obtain ⟨h₁, tk, rfl, _⟩ := x.done
  have hk₁ := x.toInCall.keep
  obtain ⟨cells, NC, Y⟩ := Cl.news (h₀ := s.heap) (Nat.le_refl _) fun n c hm => ⟨x.cell n c (lookup_of_mem_nodup (cellsFrom_names scope.names 0 (s.heap.objs.size + 1) [] [] rfl ▸ hnd) hm), x.above n c hm⟩
  refine wpAny_mono (h _ s.heap.objs.size h₁ tk cells FG ⟨x.toInCall.ns, fun b o e => hk₁ b o (of_hideAll _ e), Nat.le_of_eq (hideAll_size _ _)⟩ (fun p hp => ?_) Y BG (X₀.keeps st) (T.keeps st)
    (fun b o hn e => hideAll_get _ e hn) (fun b o e => of_hideAll _ e) (fun p hp => Heap.lt_size (N p hp).1)) (fun fl s' hl => lv _ _ hl) fun _ _ y => y
  rcases List.mem_append.mp hp with hp | hp
  · refine ⟨(NC p hp).1, (NC p hp).2.1, ?_⟩
    cases q : (hideAll s.heap (news.map (·.1))).get? p.1 with
    | none => rfl
    | some o => have := of_hideAll _ q; rw [(NC p hp).2.2] at this; cases this
  · exact ⟨hk₁ _ _ (N p hp).1, Nat.ne_of_lt (Heap.lt_size (N p hp).1), hideAll_none _ (List.mem_map_of_mem hp)⟩
end

/-- the end of a call whose ledger was empty -/
theorem kept_end {s h' g : Heap} {L L' : Addr} {m' : Str → Option Value} (hG : ∀ b o, b ∉ ([] : List (Addr × Obj)).map (·.1) → s.get? b = some o → g.get? b = some o) (F : Fr g L' h' m') : Kept [L] s h' :=
  fun b o _ e => F.keep _ _ (hG b o (fun q => nomatch q) e)
/-- all that the call's own frame knows apart from the ground -/
theorem ext_kept {h₀ h h' : Heap} {L : Addr} {m m' : Str → Option Value} {news : List (Addr × Obj)} (F : Fr h₀ L h m) (F' : Fr h₀ L h' m') (N : News h₀ L h' (news ++ PyProof.Rows.ownOf h₀ ((List.range h.objs.size).filter (· ≠ L)) h)) : Kept [L] h h' := by
  intro b o hb e
  cases q : h₀.get? b with
  | some o' =>
    have q1 := F.keep _ _ q
    rw [e] at q1; cases q1
    exact F'.keep _ _ q
  | none => exact (N _ (List.mem_append_right _ (PyProof.Rows.mem_ownOf (by simp [Heap.lt_size e]; simpa using hb) q e))).1
theorem own_news {h₀ h : Heap} {L : Addr} : News h₀ L h (PyProof.Rows.ownOf h₀ ((List.range h.objs.size).filter (· ≠ L)) h) := PyProof.Rows.news_ownOf (by simp)
theorem own_fresh {h₀ h h' : Heap} {L x b : Addr} {o : Obj} {news : List (Addr × Obj)} (N : News h₀ L h' ((x, o) :: news)) (hlt : ∀ p ∈ PyProof.Rows.ownOf h₀ ((List.range h.objs.size).filter (· ≠ L)) h, p.1 < b) (hb : b ≤ x) : h.get? x = none := by
  have n1 := N _ List.mem_cons_self
  cases e : h.get? x with
  | none => rfl
  | some o' =>
    have h1 := hlt _ (PyProof.Rows.mem_ownOf (o := o') (by simp only [List.mem_filter, List.mem_range]; exact ⟨Heap.lt_size e, by simpa using n1.2.1⟩) n1.2.2 e)
    exact absurd h1 (Nat.not_lt.mpr hb)

theorem call_cls' {prog : Program} {w : World} {A : Around} {E : Value → Shared → Prop} {s : Shared} {K : Frag} {C L : Addr} {h₀ : Heap} {m : Str → Option Value} {Q : Value → Shared → Prop}
    {pos : List Value} {kw : List (Str × Value)} {fI : Addr} (F : Fr h₀ L s.heap m) (X₀ : K.In h₀) (hm : makesIn K C = true) (hi : findIn K (.ref C) "__init__" = some (some (.ref fI))) (hf : isFn K (.ref fI) = true)
    (h : ∀ x dx h', Fr h₀ L h' m → News h₀ L h' [(x, instObj C dx), (dx, dictOf [] 0)] → Kept [L] s.heap h' → s.heap.get? x = none → s.heap.get? dx = none → dx < x →
      codeAny (model prog w) (A.under (.builtin "type.__call__" ⟨.ref C :: pos, kw⟩)) (.call (.ref fI) ⟨.ref x :: pos, kw⟩) (InitBack x fun r s' => match r with | .ok (.ret v) => Q v s' | .ok _ => False | .error e => E e s') { s with heap := h' }) :
    wpAny (model prog w) A (call (.ref C) pos kw) Q E s := by
  refine call_cls F X₀ own_news hm hi hf fun x dx h' F' N' l1 l2 => ?_
  refine h x dx h' F' (fun p hp => N' p ?_) (ext_kept (news := [_, _]) F F' N') (own_fresh N' l1 (Nat.le_of_lt l2)) (own_fresh (fun p hp => N' p (.tail _ hp)) l1 (Nat.le_refl _)) l2
  rcases List.mem_cons.mp hp with rfl | hp
  · exact .head _
  · rw [List.mem_singleton.mp hp]; exact .tail _ (.head _)
/-- the end of a call of a class -/
theorem kept_init {s h1 h' g : Heap} {L L' x d : Addr} {o₁ o₂ : Obj} {m' : Str → Option Value} (hG : ∀ b o, b ∉ [(x, o₁), (d, o₂)].map (·.1) → h1.get? b = some o → g.get? b = some o) (k : Kept [L] s h1) (hx : s.get? x = none) (hd : s.get? d = none) (F : Fr g L' h' m') : Kept [L] s h' :=
  fun b o hb e => F.keep _ _ (hG b o (fun q => by
    simp only [List.map_cons, List.map_nil, List.mem_cons, List.not_mem_nil, or_false] at q
    rcases q with rfl | rfl
    · rw [hx] at e; cases e
    · rw [hd] at e; cases e) (k b o hb e))
theorem fresh_end {s h' g : Heap} {L' x : Addr} {o : Obj} {news : List (Addr × Obj)} (hG : ∀ b o, b ∉ ([] : List (Addr × Obj)).map (·.1) → s.get? b = some o → g.get? b = some o) (N : News g L' h' news) (hm : (x, o) ∈ news) : s.get? x = none := by
  cases q : s.get? x with
  | none => rfl
  | some o' => have := hG _ _ (fun q => nomatch q) q; rw [(N _ hm).2.2] at this; cases this
local macro_rules | `(tactic| walk_at "my enter") => `(tactic| (refine' enter_plain ?k1 ?k2 ?k3 ?k4 ?k5 ?kA ?kF ?kK ?k6 ?k7 ?k8 ?k9 ?kB ?_ ?c2 ?c3 ?c4 ?c5; (case kA => exact rfl); (case kF => exact rfl); (case kK => assumption); (case k1 => k_asm); (case k2 => k_asm); (case k3 => k_asm); (case k4 => k_asm); (case k5 => k_asm); (case k6 => k_is); (case k7 => k_is); (case k8 => ktr_room); (case k9 => first | exact BindsTo.of_eq rfl | exact binds_K (by k_in) rfl (by k_is) rfl rfl rfl); (case c5 => decide); (case kB => exact locs rfl); (case c2 => exact rfl); (case c3 => exact rfl); (case c4 => exact rfl); k_whole))
local macro_rules | `(tactic| walk_at "my enterC") => `(tactic| (refine' enter_cells ?k1 ?k2 ?k3 ?k4 ?k5 ?kA ?kF ?kK ?k6 ?k7 ?k8 ?k9 ?kB ?kD ?_ ?c2 ?c3 ?c4; (case kA => exact rfl); (case kF => exact rfl); (case kK => assumption); (case k1 => k_asm); (case k2 => k_asm); (case k3 => k_asm); (case k4 => k_asm); (case k5 => k_asm); (case k6 => k_is); (case k7 => k_is); (case k8 => ktr_room); (case k9 => first | exact BindsTo.of_eq rfl | exact binds_K (by k_in) rfl (by k_is) rfl rfl rfl); (case kB => exact rfl); (case kD => decide +kernel); (case c2 => exact rfl); (case c3 => exact rfl); (case c4 => exact rfl); k_whole))

theorem offM1 : True := by
  w_top off
  trivial
theorem letGo_striter {prog : Program} {w : World} {A : Around} {E : Value → Shared → Prop} {target : Expr} {I : Addr} {x : Str} {t : Tok} {i : Nat} {v : Value} {Q' : Unit → Shared → Prop} {s' : Shared} (hit : s'.heap.IsStrIter I "str_ascii_iterator" x t i) (h : Q' () s') :
    wpAny (model prog w) A (letOwnedTupleGo target (.ref I) v) Q' E s' := by
  obtain ⟨o, ho, hc, hd⟩ := hit
  unfold letOwnedTupleGo
  split
  all_goals first
    | exact wpAny_pure h
    | (split
       · rename_i r a e
         cases e
         refine wpAny_bind (wpAny_load ho ?_)
         obtain ⟨c, d, dt, sl⟩ := o
         simp only at hc hd
         subst hc hd
         dsimp only
         rw [if_neg (by simp)]
         exact wpAny_pure h
       · exact wpAny_pure h)

def chItems (l : List Nat) : List Itm := l.map fun c => .tok (fun u => .str ⟨#[c]⟩ u)

section
variable {prog : Program} {w : World} {A : Around} {E : Value → Shared → Prop} {s : Shared} {env : Env} {h₀ : Heap} {target : Expr} {body : List Stmt} {Q : Flow → Shared → Prop}
theorem iter_strTurns {x : Str} {t : Tok} {m₀ : Str → Option Value} {news : List (Addr × Obj)} (ha : x.cps.all (· < 128) = true)
    (hh : A.handled = none) (F : Fr h₀ env.locals s.heap m₀) (N : News h₀ env.locals s.heap news)
    (rest₀ : ∀ I : Addr, (∀ p ∈ news, p.1 < I) → ItemsRest prog w A E h₀ env target body Q s [(I, "str_ascii_iterator")] [] (chItems x.cps.toList) m₀ news) :
    wpAny (model prog w) A (pyIter (.str x t)) (fun it s₂ => TurnsAt prog w A h₀ env target body Q E it s₂) E s := by
  refine wpAny_pyIter_ascii ha ?_
  refine ktu_core (tk0 := s.toks) (keep := []) (ws := [(s.heap.objs.size, "str_ascii_iterator")]) (xs := chItems x.cps.toList) (KTurns.ofWalks (Walks.strAscii hh s.heap.objs.size x t) fun i v s Q E st q => letGo_striter st q) (by simp [chItems]) (fun i v h hp => ?_) (fun i h st => ?_) (fun b hb => ?_) (fun b hb => by simpa using hb) (fun b hb => ?_) ?_ (fun p hp hI => ?_) ?_ (F.push _) (fun p hp => ⟨Heap.get?_push_of_some _ (N p hp).1, (N p hp).2⟩) trivial (rest₀ _ fun p hp => Heap.lt_size (N p hp).1)
  · obtain ⟨c, u, hc, rfl⟩ := hp
    refine ⟨.tok (fun u => .str ⟨#[c]⟩ u), ?_, u, rfl⟩
    have hc' : x.cps.toList[i]? = some c := by simpa using hc
    simp [chItems, hc']
  · obtain ⟨it, hit, hic, _⟩ := st
    exact ⟨[(s.heap.objs.size, it)], ⟨⟨rfl, hic⟩, trivial⟩, fun p hp => by rw [List.mem_singleton.mp hp]; exact hit⟩
  · have hb' : b = s.heap.objs.size := by simpa using hb
    rw [hb']
    exact ⟨List.mem_cons_self .., next_is_new F⟩
  · exact .inl (by simpa using hb)
  · intro hI
    rcases List.mem_cons.mp hI with e | hI
    · exact absurd F.ns.lt (e ▸ Nat.lt_irrefl _)
    · cases hI
  · exact absurd (Heap.lt_size (N p hp).1) ((List.mem_singleton.mp hI) ▸ Nat.lt_irrefl _)
  · exact ⟨_, Heap.get?_push_size _ rfl, rfl, rfl⟩
end

theorem rest_ind {R : List Itm → (Str → Option Value) → List (Addr × Obj) → Prop} {σ : Type} (size : σ → Nat) (xs : σ → List Itm) (mm : σ → Str → Option Value) (nn : σ → List (Addr × Obj))
    (step : ∀ st, (∀ st', size st' < size st → R (xs st') (mm st') (nn st')) → R (xs st) (mm st) (nn st)) : ∀ st, R (xs st) (mm st) (nn st) := by
  have all : ∀ n, ∀ st, size st < n → R (xs st) (mm st) (nn st) := by
    intro n
    induction n with
    | zero => intro d h; exact absurd h (Nat.not_lt_zero _)
    | succ n ih => exact fun d h => step d fun d' h' => ih d' (Nat.lt_of_lt_of_le h' (Nat.le_of_lt_succ h))
  exact fun d => all _ d (Nat.lt_succ_self _)
theorem rest_at {R : List Itm → (Str → Option Value) → List (Addr × Obj) → Prop} {σ : Type} {xs₀ : List Itm} {m₀ : Str → Option Value} {n₀ : List (Addr × Obj)} (size : σ → Nat) (xs : σ → List Itm) (mm : (Str → Option Value) → σ → Str → Option Value) (nn : List (Addr × Obj) → σ → List (Addr × Obj)) (st₀ : σ)
    (ex : xs st₀ = xs₀) (em : ∀ z, mm m₀ st₀ z = m₀ z) (en : nn n₀ st₀ = n₀)
    (step : ∀ st, (∀ st', size st' < size st → R (xs st') (mm m₀ st') (nn n₀ st')) → R (xs st) (mm m₀ st) (nn n₀ st)) : R xs₀ m₀ n₀ := by
  have h := rest_ind (R := R) size xs (mm m₀) (nn n₀) step st₀
  rw [ex, en, show mm m₀ st₀ = m₀ from funext em] at h
  exact h
theorem fr_congr {h₀ h : Heap} {L : Addr} {m m' : Str → Option Value} (F : Fr h₀ L h m) (e : ∀ z, m z = m' z) : Fr h₀ L h m' := by rw [← funext e]; exact F
theorem news_sub {h₀ h : Heap} {L : Addr} {n n' : List (Addr × Obj)} (N : News h₀ L h n) (hs : ∀ p ∈ n', p ∈ n) : News h₀ L h n' := fun p hp => N p (hs p hp)
abbrev mapOf {h₀ h : Heap} {L : Addr} {m : Str → Option Value} (_ : Fr h₀ L h m) : Str → Option Value := m
def tokOf : Option Value → Tok
  | some (.int _ t) => t
  | some (.str _ t) => t
  | _ => 0
def refOf : Option Value → Addr
  | some (.ref a) => a
  | _ => 0
theorem names_ext (l : List Str) {f g : Str → Option Value} (h : ∀ n ∈ l, f n = g n) (h' : ∀ z, (∀ n ∈ l, z ≠ n) → f z = g z) : ∀ z, f z = g z := fun z => by
  by_cases q : ∀ n ∈ l, z ≠ n
  · exact h' z q
  · have ⟨n, hn⟩ := Classical.not_forall.mp q
    have ⟨hm, hz⟩ := Classical.not_imp.mp hn
    have hz' : z = n := Classical.not_not.mp hz
    rw [hz']; exact h n hm
theorem news_ne {h₀ h : Heap} {L a b : Addr} {o o' : Obj} {news : List (Addr × Obj)} (N : News h₀ L h news) (h1 : (a, o) ∈ news) (h2 : (b, o') ∈ news) (hc : o.cls ≠ o'.cls) : @Ne Nat a b := fun e => by
  have e1 := (N _ h1).1
  have e2 := (N _ h2).1
  have e' : a = b := e
  subst e'
  rw [e1] at e2
  exact hc (congrArg Obj.cls (Option.some.inj e2))
theorem allObj_mono : ∀ {ws : List (Addr × String)} {k k' : List (Addr × Obj) → Prop}, (∀ its, k its → k' its) → AllObj ws k → AllObj ws k'
  | [], _, _, h, x => h _ x
  | _ :: _, _, _, h, x => fun o hc => allObj_mono (fun its => h _) (x o hc)
theorem rest_weak {prog : Program} {w : World} {A : Around} {E : Value → Shared → Prop} {s : Shared} {env : Env} {h₀ : Heap} {target : Expr} {body : List Stmt} {Q : Flow → Shared → Prop} {ws : List (Addr × String)} {keep : List (Addr × Obj)} {xs : List Itm} {m m' : Str → Option Value} {n n' : List (Addr × Obj)}
    (h : ItemsRest prog w A E h₀ env target body Q s ws keep xs m' n') (em : ∀ z, m z = m' z) (en : ∀ p ∈ n', p ∈ n) : ItemsRest prog w A E h₀ env target body Q s ws keep xs m n := by
  rw [show m = m' from funext em]
  cases xs with
  | nil => exact fun h' tk F N => h h' tk F (news_sub N en)
  | cons a r => exact fun v h' tk ha F => allObj_mono (fun its k N => k (news_sub N fun p hp => (List.mem_append.mp hp).elim (fun q => List.mem_append_left _ q) fun q => List.mem_append_right _ (en p q))) (h v h' tk ha F)
theorem fresh_init {s h1 h' g h₀ : Heap} {L L' x d y : Addr} {o₁ o₂ o : Obj} {m : Str → Option Value} {news : List (Addr × Obj)} (hG : ∀ b o, b ∉ [(x, o₁), (d, o₂)].map (·.1) → h1.get? b = some o → g.get? b = some o) (k : Kept [L] s h1) (FG : Fr h₀ L g m) (N : News g L' h' news) (hm : (y, o) ∈ news) (hx : @Ne Nat y x) (hd : @Ne Nat y d) : s.get? y = none := by
  have hy := (N _ hm).2.2
  cases e : s.get? y with
  | none => rfl
  | some o' =>
    by_cases hL : y = L
    · subst hL
      obtain ⟨oL, a1, a2, hL, a3⟩ := FG.ns
      rw [hy] at hL; cases hL
    · have := hG y o' (by simp only [List.map_cons, List.map_nil, List.mem_cons, List.not_mem_nil, or_false, not_or]; exact ⟨hx, hd⟩) (k y o' (by simpa using hL) e)
      rw [hy] at this; cases this
/-- what is new of a heap -/
def NewIn (s h' : Heap) (led : List (Addr × Obj)) : Prop := ∀ p ∈ led, s.get? p.1 = none ∧ h'.get? p.1 = some p.2
theorem NewIn.news {h₀ h h' : Heap} {L : Addr} {m : Str → Option Value} {news led : List (Addr × Obj)} (n : NewIn h h' led) (F : Fr h₀ L h m) (k : Kept [L] h h') (N : News h₀ L h news) : News h₀ L h' (led ++ news) := fun p hp => by
  rcases List.mem_append.mp hp with hp | hp
  · exact ⟨(n p hp).2, fresh_of F (n p hp).1⟩
  · exact k.news N p hp
theorem unrW_end {h₀ : Heap} {L : Addr} {its : List (Addr × Obj)} {rest : (Str → Option Value) → List (Addr × Obj) → Prop} {s₁ : Shared} {h' : Heap} {tk : Nat} {m' mz : Str → Option Value} {all : List (Addr × Obj)} (F : Fr h₀ L h' m') (N : News h₀ L h' all) (news' : List (Addr × Obj))
    (hI : SubL its all) (sub : SubL news' all) (off : OffW its news') (r : rest mz news') (e : ∀ z, m' z = mz z) : UnrEndW h₀ L s₁ its rest { s₁ with heap := h', toks := tk } :=
  UnrEndW.intro (fr_congr F e) N news' hI sub off r

section
variable {prog : Program} {w : World} {A : Around} {E : Value → Shared → Prop} {s : Shared} {env : Env} {h₀ : Heap} {target : Expr} {body orelse : List Stmt} {Q : Flow → Shared → Prop}
def LoopE (prog : Program) (w : World) (A : Around) (env : Env) (target : Expr) (body orelse : List Stmt) (Q : Flow → Shared → Prop) (E : Value → Shared → Prop) (it : Value) (s : Shared) : Prop :=
  PassesOwn (model prog w) A env E → codeAny (model prog w) A (.forLoop target it body orelse env) (fun r s' => match r with | .ok f => Q f s' | .error e => cameBackBy (model prog w) A env E e s') s
theorem For_else {iter : Expr} {pos : Pos} {h₀ : Heap} {m : Str → Option Value} (_F : Fr h₀ env.locals s.heap m) (h : wpAny (model prog w) A (eval iter env) (fun xv s₁ => wpAny (model prog w) A (pyIter xv) (fun it s₂ => LoopE prog w A env target body orelse Q E it s₂) E s₁) E s)
    (hs : ∀ x, foldedSetIterable iter env x = pure x := by intro _; rfl) (hE : PassesOwn (model prog w) A env E := by passes_own) :
    wpAny (model prog w) A (exec (.For target iter body orelse pos) env) Q E s :=
  wpAny_For (wpAny_mono h (fun xv s₁ h₁ => wpAny_mono h₁ (fun it s₂ h₂ => h₂ hE) fun _ _ e => e) fun _ _ e => e) hs

theorem LoopE.turn {it : Value} (h : wpAny (model prog w) A (pyNext it) (fun r s₁ => match r with
      | none => wpAny (model prog w) A (execs orelse env) Q E s₁
      | some v => wpAny (model prog w) A (letOwnedTupleGo target it v) (fun _ s₁' =>
          wpAny (model prog w) A (assign target env v) (fun _ s₂ => wpAny (model prog w) A (execs body env) (fun f s₃ => match f with
            | .next | .cont => LoopE prog w A env target body orelse Q E it s₃
            | .brk => Q .next s₃
            | .ret v => Q (.ret v) s₃) E s₂) E s₁') E s₁) E s) : LoopE prog w A env target body orelse Q E it s := by
  intro hE
  refine codeAny_of_tree ?_
  show wpAny _ A ((forTurn target it body orelse env).onRaise (fun x => do noteFrame x env; theTreesLotGoes x)) _ _ s
  refine wpAny_noted ?_
  simp only [forTurn]
  refine wpAny_bind (wpAny_standAt (wpAny_bind (wpAny_onRaise (wpAny_mono h (fun r s₁ h₁ => ?_) fun e s' h' => wpAny_standAt (hE e s' h')))))
  cases r with
  | none => exact wpAny_pure ⟨rfl, codeAny_block (wpAny_passesOwn hE h₁)⟩
  | some v =>
    refine wpAny_bind (wpAny_mono h₁ (fun _ s₁' h₁' => ?_) hE)
    refine wpAny_bind (wpAny_mono h₁' (fun _ s₂ h₂ => wpAny_bind (wpAny_mono h₂ (fun f s₃ h₃ => ?_) hE)) hE)
    cases f with
    | next => exact wpAny_pure ⟨rfl, h₃ hE⟩
    | cont => exact wpAny_pure ⟨rfl, h₃ hE⟩
    | brk => exact wpAny_pure h₃
    | ret v => exact wpAny_pure h₃

theorem letGo_name {x : Str} {p : Pos} {it v : Value} {M : Model} {Q' : Unit → Shared → Prop} (h : Q' () s) : wpAny M A (letOwnedTupleGo (.Name x p) it v) Q' E s := by
  unfold letOwnedTupleGo; exact wpAny_pure h

theorem loopE_range {x : Str} {ps : Pos} {I : Addr} {a left : Int} {m : Str → Option Value} {news : List (Addr × Obj)} (F : Fr h₀ env.locals s.heap m) (N : News h₀ env.locals s.heap ((I, itR a left) :: news)) (hleft : 0 < left) (hoff : ∀ p ∈ news, p.1 ≠ I)
    (h : ∀ t h' tk, Fr h₀ env.locals h' m → News h₀ env.locals h' ((I, itR (a + 1) (left - 1)) :: news) →
      wpAny (model prog w) A (assign (.Name x ps) env (.int a t)) (fun _ s₂ => wpAny (model prog w) A (execs body env) (fun f s₃ => match f with
            | .next | .cont => LoopE prog w A env (.Name x ps) body orelse Q E (.ref I) s₃
            | .brk => Q .next s₃
            | .ret v => Q (.ret v) s₃) E s₂) E { s with heap := h', toks := tk }) : LoopE prog w A env (.Name x ps) body orelse Q E (.ref I) s := by
  refine LoopE.turn (wpAny_pyNext_range_item (step := 1) (N _ (.head _)).1 hleft fun h' hI hs => ?_)
  have n1 := N _ (.head _)
  refine letGo_name (h s.toks h' (s.toks + 1) ?_ ?_)
  · obtain ⟨⟨oL, a1, a2, hL, a3⟩, kp, ab⟩ := F
    refine ⟨⟨oL, a1, a2, hs.extBut _ _ (Ne.symm n1.2.1) hL, a3⟩, fun b o e => hs.extBut _ _ (fun q => ?_) (kp b o e), ab⟩
    rw [q, n1.2.2] at e; cases e
  · intro p hp
    rcases List.mem_cons.mp hp with rfl | hp
    · exact ⟨hI, n1.2⟩
    · exact ⟨hs.extBut _ _ (hoff p hp) (N p (.tail _ hp)).1, (N p (.tail _ hp)).2⟩

theorem iter_rangeE {r : Addr} {a₀ b₀ : Int} {t₀ u₀ v₀ : Tok} {n : Nat} {m₀ : Str → Option Value} {news : List (Addr × Obj)}
    (hr : IsRange s.heap r a₀ b₀ 1 t₀ u₀ v₀) (hsmall : Builtin.Range.small a₀ b₀ 1 = true) (hn : Builtin.Range.rangeSize a₀ b₀ 1 = (n : Int)) (F : Fr h₀ env.locals s.heap m₀) (N : News h₀ env.locals s.heap news)
    (rest₀ : ∀ (I : Addr) h', (∀ p ∈ news, p.1 < I) → Fr h₀ env.locals h' m₀ → News h₀ env.locals h' ((I, itR a₀ n) :: news) → LoopE prog w A env target body orelse Q E (.ref I) { s with heap := h' }) :
    wpAny (model prog w) A (pyIter (.ref r)) (fun it s₂ => LoopE prog w A env target body orelse Q E it s₂) E s := by
  refine wpAny_pyIter_range hr hsmall ?_
  refine rest₀ s.heap.objs.size _ (fun p hp => Heap.lt_size (N p hp).1) (F.push _) ?_
  have := N.push F (itR a₀ n)
  rw [hn]
  exact this
end

theorem Con.use0 {prog : Program} {w : World} {p : Program} {loose : List Str} {mean : ExcName → Option Value} {mg mb : Str → Option Value} {f : Addr} {vs : List Value} {n : Nat} {H : Heap → Prop} {P : Heap → Heap → Value → Prop}
    (C : Con prog w p loose mean mg mb f vs n H [] P)
    {dp un : Nat} {gd : Option (List Code)} {cn : Str} {cs : Scope} {a : Addr} {ccd : Value} {cl : List (Str × Addr)} {outer : List Env} {A₀ : Around} {base h₀ : Heap} {L : Addr} {m : Str → Option Value} {s : Shared} {Q E : Value → Shared → Prop} {news : List (Addr × Obj)}
    (B : Below A₀ base outer h₀) (F : Fr h₀ L s.heap m) (X : (hd.heap_39 w.params).In h₀) (T : Top p loose mean mg mb h₀) (hk : cs.kind = .function) (hd : dp + n < recursionLimit) (hu : un + 8 * n < cLine) (hH : H s.heap) (N : News h₀ L s.heap news)
    (h : ∀ r h' tk', Fr h₀ L h' m → News h₀ L h' news → Kept [L] s.heap h' → P s.heap h' r → Q r { s with heap := h', toks := tk' }) :
    wpAny (model prog w) (ktrTop dp un gd cn cs L a ccd cl outer) (call (.ref f) vs) Q E s :=
  C dp un gd cn cs a ccd cl outer A₀ base h₀ L m s Q E B F X T hk hd hu hH (fun _ q => nomatch q) fun r h' tk' F' k pp => h r h' tk' F' (k.news N) k pp

/-- what a call of f with vs does; led: what must stand in the caller's ledger; ch: what is changed -/
def ConL (prog : Program) (w : World) (p : Program) (loose : List Str) (mean : ExcName → Option Value) (mg mb : Str → Option Value) (f : Addr) (vs : List Value) (n : Nat) (H : Heap → Prop) (led : List (Addr × Obj)) (ch : List Addr) (P : Heap → Heap → Value → Prop) : Prop :=
  ∀ (dp un : Nat) (gd : Option (List Code)) (cn : Str) (cs : Scope) (a : Addr) (ccd : Value) (cl : List (Str × Addr)) (outer : List Env) (A₀ : Around) (base h₀ : Heap) (L : Addr) (m : Str → Option Value) (s : Shared) (Q E : Value → Shared → Prop),
    Below A₀ base outer h₀ → Fr h₀ L s.heap m → (hd.heap_39 w.params).In h₀ → Top p loose mean mg mb h₀ → cs.kind = .function → dp + n < recursionLimit → un + 8 * n < cLine →
    H s.heap → News h₀ L s.heap led →
    (∀ r h' tk', Fr h₀ L h' m → Kept (L :: ch) s.heap h' → P s.heap h' r → Q r { s with heap := h', toks := tk' }) →
    wpAny (model prog w) (ktrTop dp un gd cn cs L a ccd cl outer) (call (.ref f) vs) Q E s

section
variable {prog : Program} {w : World} {p : Program} {loose : List Str} {mean : ExcName → Option Value} {mg mb : Str → Option Value} {f : Addr} {vs : List Value} {n : Nat} {H : Heap → Prop} {P : Heap → Heap → Value → Prop} {led : List (Addr × Obj)} {ch : List Addr}
    {dp un : Nat} {gd : Option (List Code)} {cn : Str} {cs : Scope} {a : Addr} {ccd : Value} {cl : List (Str × Addr)} {outer : List Env} {A₀ : Around} {base h₀ : Heap} {L : Addr} {m : Str → Option Value} {s : Shared} {Q E : Value → Shared → Prop} {news rest : List (Addr × Obj)}
/-- a call that changes nothing -/
theorem ConL.use0 (C : ConL prog w p loose mean mg mb f vs n H led [] P)
    (B : Below A₀ base outer h₀) (F : Fr h₀ L s.heap m) (X : (hd.heap_39 w.params).In h₀) (T : Top p loose mean mg mb h₀) (hk : cs.kind = .function) (hd : dp + n < recursionLimit) (hu : un + 8 * n < cLine) (hH : H s.heap) (N : News h₀ L s.heap news) (hN : ∀ q ∈ led, q ∈ news)
    (h : ∀ r h' tk', Fr h₀ L h' m → News h₀ L h' news → Kept [L] s.heap h' → P s.heap h' r → Q r { s with heap := h', toks := tk' }) :
    wpAny (model prog w) (ktrTop dp un gd cn cs L a ccd cl outer) (call (.ref f) vs) Q E s :=
  C dp un gd cn cs a ccd cl outer A₀ base h₀ L m s Q E B F X T hk hd hu hH (news_sub N hN) fun r h' tk' F' k pp => h r h' tk' F' (k.news N) k pp
/-- a call that changes one object, the first of the ledger -/
theorem ConL.use1 {l : Addr} {o : Obj} (C : ConL prog w p loose mean mg mb f vs n H led [l] P)
    (B : Below A₀ base outer h₀) (F : Fr h₀ L s.heap m) (X : (hd.heap_39 w.params).In h₀) (T : Top p loose mean mg mb h₀) (hk : cs.kind = .function) (hd : dp + n < recursionLimit) (hu : un + 8 * n < cLine) (hH : H s.heap) (N : News h₀ L s.heap ((l, o) :: news)) (hN : ∀ q ∈ led, q ∈ (l, o) :: news) (hoff : ∀ q ∈ news, q.1 ≠ l)
    (h : ∀ r h' tk', Fr h₀ L h' m → News h₀ L h' news → (∀ o', h'.get? l = some o' → News h₀ L h' ((l, o') :: news)) → Kept [L, l] s.heap h' → P s.heap h' r → Q r { s with heap := h', toks := tk' }) :
    wpAny (model prog w) (ktrTop dp un gd cn cs L a ccd cl outer) (call (.ref f) vs) Q E s :=
  C dp un gd cn cs a ccd cl outer A₀ base h₀ L m s Q E B F X T hk hd hu hH (news_sub N hN) fun r h' tk' F' k pp => by
    have N' : News h₀ L h' news := fun q hq => ⟨k _ _ (fun z => by
      rcases List.mem_cons.mp z with z | z
      · exact (N q (.tail _ hq)).2.1 z
      · exact hoff q hq (List.mem_singleton.mp z)) (N q (.tail _ hq)).1, (N q (.tail _ hq)).2⟩
    refine h r h' tk' F' N' (fun o' e => ?_) k pp
    intro q hq
    rcases List.mem_cons.mp hq with rfl | hq
    · exact ⟨e, (N _ (.head _)).2⟩
    · exact N' q hq
end
/-- the end of a call with a ledger -/
theorem kept_led {s h' g h₀ : Heap} {L L' : Addr} {m' : Str → Option Value} {led n9 : List (Addr × Obj)} {ch : List Addr} (hG : ∀ b o, b ∉ led.map (·.1) → s.get? b = some o → g.get? b = some o) (F : Fr g L' h' m') (N9 : News g L' h' n9) (N : News h₀ L s led) (hs : ∀ q ∈ led, q.1 ∈ ch ∨ q ∈ n9) : Kept (L :: ch) s h' := fun b o hb e => by
  by_cases hm : b ∈ led.map (·.1)
  · obtain ⟨q, hq, rfl⟩ := List.mem_map.mp hm
    rcases hs q hq with h | h
    · exact absurd (List.mem_cons_of_mem _ h) hb
    · have e1 := (N q hq).1
      rw [e] at e1
      have e2 := (N9 q h).1
      rw [e2, ← e1]
  · exact F.keep _ _ (hG b o hm e)
theorem fresh_led {s h' g : Heap} {L' x : Addr} {o : Obj} {led n9 : List (Addr × Obj)} (hG : ∀ b o, b ∉ led.map (·.1) → s.get? b = some o → g.get? b = some o) (N9 : News g L' h' n9) (hm : (x, o) ∈ n9) (hx : x ∉ led.map (·.1)) : s.get? x = none := by
  cases q : s.get? x with
  | none => rfl
  | some o' => have := hG _ _ hx q; rw [(N9 _ hm).2.2] at this; cases this

theorem compP_ind {R : Nat → Nat → List Value → List (Addr × Obj) → Prop} {α : Type} (rows : List α) (val : α → Value) {led : List (Addr × Obj)} {n : Nat} (hn : n = rows.length) (zero : R 0 rows.length (rows.map val) led)
    (succ : ∀ done r rest, rows = done ++ r :: rest → R rest.length (done.length + 1) (done.map val ++ [val r]) led → R (rest.length + 1) done.length (done.map val) led) : R n 0 [] led := by
  have all : ∀ rest done, rows = done ++ rest → R rest.length done.length (done.map val) led := by
    intro rest
    induction rest with
    | nil => intro done e; rw [List.append_nil] at e; subst e; exact zero
    | cons r rest ih =>
      intro done e
      refine succ done r rest e ?_
      have := ih (done ++ [r]) (by rw [e]; simp)
      simpa using this
  have := all rows [] rfl
  rw [hn]; simpa using this
theorem item_mid {done rest : List Value} {r v : Value} {its : Array Value} (e : its = (done ++ r :: rest).toArray) (h : its[done.length]? = some v) : v = r := by
  subst e
  simpa using h.symm

section
variable {prog : Program} {w : World} {A A₀ : Around} {s : Shared} {K : Frag} {L : Addr} {h₀ base : Heap} {m mg mb : Str → Option Value} {news : List (Addr × Obj)} {p : Program} {loose : List Str} {mean : ExcName → Option Value}
theorem enter_more {env : Env} {outer : List Env} {R : Result → Shared → Prop} {name qual : Str} {params : Arguments} {body : List Stmt} {scope : Scope} {dV kV doc pm cdv ct oc : Value} {an od : Option Addr} {osl : Array (Option Value)} {f : Addr} {args : Args} {g₁ : Addr → Option (List (Str × Value))} {binds : Addr → List (Str × Value)}
    (B : Below A₀ base outer h₀) (F : Fr h₀ L s.heap m) (X₀ : K.In h₀) (N : News h₀ L s.heap news) (T : Top p loose mean mg mb h₀) (hA : A.frames = some (env :: outer)) (hf : env.frame = some L) (hke : env.scope.kind = .function)
    (ho : K.lookup f = some ⟨oc, od, .func (fnOf name qual params body scope dV kV doc pm an cdv ct), osl⟩) (hcd : codeIn K cdv qual = true) (hroom : A.depth < recursionLimit)
    (hp : peek1 K ⟨prog, w.params⟩ (bindArgs (fnOf name qual params body scope dV kV doc pm an cdv ct) args) = some (dictOf [] 0, g₁))
    (hg : ∀ D, g₁ D = some (binds D)) (hloc : ∀ D, ∀ y ∈ binds D, scope.names.lookup y.1 = some .local)
    (h : ∀ D g L' h₁, Fr h₀ L g m → Fr g L' h₁ (fun y => (binds D).reverse.lookup y) → News g L' h₁ ((D, dictOf [] 0) :: news) → Below A base (env :: outer) g → K.In g → Top p loose mean mg mb g →
      (∀ b o, b ≠ L → b ∉ news.map (·.1) → s.heap.get? b = some o → g.get? b = some o) → s.heap.get? D = none → (∀ p ∈ news, p.1 < D) → D < L' →
      wpAny (model prog w) (A.deeper (envOf qual scope L' f cdv)) (execs body (envOf qual scope L' f cdv))
        (fun fl s' => LeaveK h₀ L m g R (match fl with | .ret v => v | _ => .none) s')
        (fun e s' => wpAny (model prog w) (A.deeper (envOf qual scope L' f cdv)) (leaving (envOf qual scope L' f cdv) e) (fun _ s'' => R (.error e) s'') (fun e' s'' => R (.error e') s'') s')
        { s with heap := h₁, toks := s.toks + (binds D).length })
    (hco : scope.isCoroutine = false) (hgen : scope.isGenerator = false) (hk : scope.kind = .function)
    (hcell : ∀ x ∈ scope.names, x.2 ≠ .cell) : codeAny (model prog w) A (.call (.ref f) args) R s := by
  refine codeAny_call_function (fd := fnOf name qual params body scope dV kV doc pm an cdv ct) (body := body) hroom ((X₀.keeps F.keep) _ _ ho) rfl hco hgen rfl (codeRec_of (X₀.keeps F.keep) hcd) ?_
  refine wp_of_peek1 (o := dictOf [] 0) F own_news (X₀.keeps F.keep) rfl (r := binds) (fun D h' F' N' l => ?_) _ g₁ hp hg
  have k : Kept [L] s.heap h' := ext_kept (news := [_]) F F' N'
  have hD : s.heap.get? D = none := own_fresh N' l (Nat.le_refl _)
  have N2 : News h₀ L h' ((D, dictOf [] 0) :: news) := fun q hq => by
    rcases List.mem_cons.mp hq with rfl | hq
    · exact N' _ (.head _)
    · exact k.news N q hq
  obtain ⟨FG, BG, st, lv⟩ := groundX (s := { s with heap := h' }) (R := R) B F' N2 hA hf hke
  refine wpAny_newFunctionEnv hcell (hloc D) (fun h₁ hns hsb => ⟨(T.nolimit.keeps F'.keep).fresh _ hsb, codeAny_func ?_⟩) hk
  have hk₁ : ∀ b o, h'.get? b = some o → h₁.get? b = some o := fun b o e => hsb.extBut b o (Nat.ne_of_lt (Heap.lt_size e)) (Heap.get?_push_of_some _ e)
  show wpAny (model prog w) (A.deeper (envX qual scope h'.objs.size f cdv [])) (execs body (envX qual scope h'.objs.size f cdv [])) _ _ _
  refine wpAny_mono (h D _ h'.objs.size h₁ FG ⟨hns, fun b o e => hk₁ b o (of_hideAll _ e), Nat.le_of_eq (hideAll_size _ _)⟩
    (fun p hp => ⟨hk₁ _ _ (N2 p hp).1, Nat.ne_of_lt (Heap.lt_size (N2 p hp).1), hideAll_none _ (List.mem_map_of_mem hp)⟩) BG (X₀.keeps st) (T.keeps st) (fun b o hb hn e => hideAll_get _ (k b o (by simpa using hb) e) fun q => ?_) hD (fun q hq => l q ?_) (Heap.lt_size (N2 _ (.head _)).1)) (fun fl s' hl => lv _ _ hl) fun _ _ y => y
  · rcases List.mem_cons.mp q with q | q
    · rw [q, hD] at e; cases e
    · exact hn q
  · obtain ⟨q1, q2⟩ := q
    have n1 := N _ hq
    exact PyProof.Rows.mem_ownOf (by simp only [List.mem_filter, List.mem_range]; exact ⟨Heap.lt_size n1.1, by simpa using n1.2.1⟩) n1.2.2 n1.1
end
theorem kept_more {s h' g h₀ : Heap} {L L' : Addr} {m' : Str → Option Value} {led n9 : List (Addr × Obj)} {ch : List Addr} (hG : ∀ b o, b ≠ L → b ∉ led.map (·.1) → s.get? b = some o → g.get? b = some o) (F : Fr g L' h' m') (N9 : News g L' h' n9) (N : News h₀ L s led) (hs : ∀ q ∈ led, q.1 ∈ ch ∨ q ∈ n9) : Kept (L :: ch) s h' := fun b o hb e => by
  by_cases hm : b ∈ led.map (·.1)
  · obtain ⟨q, hq, rfl⟩ := List.mem_map.mp hm
    rcases hs q hq with h | h
    · exact absurd (List.mem_cons_of_mem _ h) hb
    · have e1 := (N q hq).1
      rw [e] at e1
      have e2 := (N9 q h).1
      rw [e2, ← e1]
  · exact F.keep _ _ (hG b o (fun q => hb (q ▸ .head _)) hm e)
local macro_rules | `(tactic| walk_at "my enterM") => `(tactic| (refine' enter_more ?k1 ?k2 ?k3 ?k4 ?k5 ?kA ?kF ?kK ?k6 ?k7 ?k8 ?kP ?kR ?kB ?_ ?c2 ?c3 ?c4 ?c5; (case kA => exact rfl); (case kF => exact rfl); (case kK => assumption); (case k1 => k_asm); (case k2 => k_asm); (case k3 => k_asm); (case k4 => k_asm); (case k5 => k_asm); (case k6 => k_is); (case k7 => k_is); (case k8 => ktr_room); (case kP => exact rfl); (case kR => exact fun _ => rfl); (case c5 => decide); (case kB => exact fun _ => locs rfl); (case c2 => exact rfl); (case c3 => exact rfl); (case c4 => exact rfl); k_whole))

theorem offW1 : True := by
  w_top off
  trivial
section
variable {prog : Program} {w : World} {p : Program} {loose : List Str} {mean : ExcName → Option Value} {mg mb : Str → Option Value}
local macro_rules | `(tactic| walk_at "exec For Name Attribute cons nil") => `(tactic| (k_here; (rename Fr _ _ _ _ => lF'); (with_unfolding_all refine' For_turns lF' ?_; k_whole)))
def txtL (t f : Nat) (r : List Nat) : List Nat := List.replicate t 9 ++ (List.replicate (4 * f) 32 ++ r)
theorem txtL_ascii {t f : Nat} {r : List Nat} (h : r.all (· < 128) = true) : (⟨(txtL t f r).toArray⟩ : Str).cps.all (· < 128) = true := by
  simp only [txtL, List.all_toArray, List.all_append, h, Bool.and_true, Bool.and_eq_true, List.all_eq_true, List.mem_replicate, decide_eq_true_eq]
  exact ⟨fun x hx => by omega, fun x hx => by omega⟩

structure S1 (t : Nat) where
  i : Nat
  k : Nat
  K : Addr
  e : Nat
  c : Tok
  ch : Option Value
  tk : Str → Tok
  h : i + k = t
structure S2 (t : Nat) where
  j : Nat
  k : Nat
  ch : Option Value
  tk : Str → Tok
  h : j + k = t
def cnt : Nat → Tok → List Value
  | 0, _ => []
  | i + 1, c => [.int ((i + 1 : Nat) : Int) c]

structure WsZ where
  d : Addr
  nr : Addr
  ct : Addr
  g1 : Int
  g2 : Int
  g3 : Int
  g4 : Int
  g5 : Int
  k1 : Tok
  k2 : Tok
  k3 : Tok
  k4 : Tok
  k5 : Tok
  k6 : Tok
  k7 : Tok
  k8 : Tok
  k9 : Tok
  v : Value
  e1 : Nat
  e2 : Nat
def wsLed (t f : Nat) (x : Addr) (z : WsZ) : List (Addr × Obj) :=
  [(x, instObj 100 z.d),
   (z.d, dictOf [⟨z.g1, .str "raw" z.k1, z.v⟩, ⟨z.g2, .str "n" z.k2, .int ((t + 4 * f : Nat) : Int) z.k6⟩, ⟨z.g3, .str "nt" z.k3, .int (t : Int) z.k7⟩, ⟨z.g4, .str "norm" z.k4, .ref z.nr⟩, ⟨z.g5, .str "is_simple" z.k5, .bool true⟩] 5),
   (z.nr, { cls := .type "tuple", data := .seq #[.ref z.ct, .int ((4 * f : Nat) : Int) z.k8] z.e1 }),
   (z.ct, { cls := .type "tuple", data := .seq (cnt t z.k9).toArray z.e2 })]

local macro_rules | `(tactic| walk_at "ite") => `(tactic| refine ite_neg (by with_reducible assumption) ?_)
set_option maxHeartbeats 8000000 in
theorem c_ws {t f c : Nat} {r : List Nat} {tk : Tok} (hr : (c :: r).all (· < 128) = true) (hc1 : c ≠ 9) (hc2 : c ≠ 32) : Con prog w p loose mean mg mb 100 [.str ⟨(txtL t f (c :: r)).toArray⟩ tk] 4 (fun _ => True) [] (fun s h' r => ∃ x z, r = .ref x ∧ NewIn s h' (wsLed t f x z)) := by
  intro dp un gd cn cs a ccd cl outer A₀ base h₀ L m s Q E B F X T hk hdp hun _ _ hret
  k_dflt (refine' call_cls' ?k1 ?k2 ?k4 ?k5 ?k6 ?_; (case k1 => k_asm); (case k2 => k_asm); (case k4 => k_is); (case k5 => k_is); (case k6 => k_is); k_whole; intro x' d' h' F' N' hK1 hfx hfd l2; (try k_lt2 l2); (try k_sweep))
  k_dflt (walk_at "my enter")
  intro g L1 h1 FG F1 N1 B1 X1 T1 hG hG' hl1
  (try dsimp only); (try k_lift B1); (try k_fold)
  k_steps
  rename Fr _ _ _ _ => F1
  rename News _ _ _ _ => N1
  refine iter_strTurns (news := [_, _, _]) (txtL_ascii hr) rfl F1 (news_sub N1 (by refine List.forall_mem_cons.mpr ⟨.head _, ?_⟩; refine List.forall_mem_cons.mpr ⟨.tail _ (.tail _ (.head _)), ?_⟩; refine List.forall_mem_cons.mpr ⟨.tail _ (.tail _ (.tail _ (.head _))), ?_⟩; exact List.forall_mem_nil _)) ?_
  intro I l1
  k_lt l1
  refine rest_at (σ := S1 t) (fun st => st.k) (fun st => chItems (List.replicate st.k 9 ++ (List.replicate (4 * f) 32 ++ c :: r)))
    (fun m₀ st z => if z = "b" then some (.int 0 (st.tk "b")) else if z = "count" then some (.ref st.K) else if z = "nt" then some (.int st.i (st.tk "nt")) else if z = "n" then some (.int st.i (st.tk "n")) else if z = "ch" then st.ch else m₀ z)
    (fun n₀ st => (st.K, W.listOf (cnt st.i st.c).toArray st.e) :: n₀.tail) ⟨0, t, refOf (mapOf F1 "count"), 0, 0, none, fun z => tokOf (mapOf F1 z), Nat.zero_add t⟩ rfl ?_ rfl ?_
  · refine names_ext ["b", "count", "nt", "n", "ch"] (by walk_at "my names") (by walk_at "my rest")
  · clear F1 N1 F' N'
    intro st IH
    obtain ⟨i, k, K, e, c0, ch, tk, hik⟩ := st
    cases k with
    | zero =>
      clear IH
      dsimp only [List.tail_cons, List.replicate, List.nil_append]
      refine rest_at (σ := S2 (4 * f)) (fun st => st.k) (fun st => chItems (List.replicate st.k 32 ++ c :: r))
        (fun m₀ st z => if z = "b" then some (.int st.j (st.tk "b")) else if z = "n" then some (.int (i + st.j : Nat) (st.tk "n")) else if z = "ch" then st.ch else m₀ z)
        (fun n₀ st => n₀) ⟨0, 4 * f, ch, tk, Nat.zero_add _⟩ rfl ?_ rfl ?_
      · refine names_ext ["b", "n", "ch"] (by walk_at "my names") (by walk_at "my rest")
      · intro st IH
        obtain ⟨j, k, ch, tk, hjk⟩ := st
        cases k with
        | zero =>
          clear IH
          dsimp only [List.replicate, List.nil_append]
          with_unfolding_all refine ItemsRest.tok (fun t' h' tk' F' => ?_)
          ktu_objs
          rename News _ _ _ _ => N5
          have e2 := news_ne N5 (.tail _ (.head _)) (.tail _ (.tail _ (.head _))) (by intro e; cases e)
          have e3 := news_ne N5 (.tail _ (.head _)) (.tail _ (.tail _ (.tail _ (.head _)))) (by intro e; exact absurd (Value.type.inj e) (by decide))
          obtain rfl : i = t := by omega
          obtain rfl : j = 4 * f := by omega
          have q1 : ¬ ((⟨#[c]⟩ : Str) == Str.ofString " ") = true := by
            rw [show Str.ofString " " = (⟨#[32]⟩ : Str) from by decide +kernel]; simp [hc2]
          have q2 : ¬ ((⟨#[c]⟩ : Str) == Str.ofString "\t") = true := by
            rw [show Str.ofString "\t" = (⟨#[9]⟩ : Str) from by decide +kernel]; simp [hc1]
          cases i with
          | zero =>
            dsimp only [cnt] at N5
            k_steps
            rename News g _ _ _ => N9
            rename Fr g _ _ _ => F9
            refine' hret _ _ _ (by assumption) (kept_init hG hK1 hfx hfd F9) ⟨x', ⟨_, _, _, _, _, _, _, _, _, _, _, _, _, _, _, _, 0, _, _, _⟩, rfl, List.forall_mem_cons.mpr ⟨⟨hfx, N9.get ?a⟩, List.forall_mem_cons.mpr ⟨⟨hfd, N9.get ?b⟩, List.forall_mem_cons.mpr ⟨⟨fresh_init hG hK1 FG N9 ?c ?c1 ?c2, N9.get ?c'⟩, List.forall_mem_cons.mpr ⟨⟨fresh_init hG hK1 FG N9 ?d ?d1 ?d2, N9.get ?d'⟩, List.forall_mem_nil _⟩⟩⟩⟩⟩
            case a => k_mem
            case b => k_mem
            case c' => k_mem
            case d' => k_mem
            case c => k_mem
            case d => k_mem
            case c1 => k_ne
            case c2 => k_ne
            case d1 => k_ne
            case d2 => k_ne
          | succ i =>
            dsimp only [cnt] at N5
            k_steps
            rename News g _ _ _ => N9
            rename Fr g _ _ _ => F9
            refine' hret _ _ _ (by assumption) (kept_init hG hK1 hfx hfd F9) ⟨x', ⟨_, _, _, _, _, _, _, _, _, _, _, _, _, _, _, _, _, _, _, _⟩, rfl, List.forall_mem_cons.mpr ⟨⟨hfx, N9.get ?a⟩, List.forall_mem_cons.mpr ⟨⟨hfd, N9.get ?b⟩, List.forall_mem_cons.mpr ⟨⟨fresh_init hG hK1 FG N9 ?c ?c1 ?c2, N9.get ?c'⟩, List.forall_mem_cons.mpr ⟨⟨fresh_init hG hK1 FG N9 ?d ?d1 ?d2, N9.get ?d'⟩, List.forall_mem_nil _⟩⟩⟩⟩⟩
            case a => k_mem
            case b => k_mem
            case c' => k_mem
            case d' => k_mem
            case c => k_mem
            case d => k_mem
            case c1 => k_ne
            case c2 => k_ne
            case d1 => k_ne
            case d2 => k_ne
        | succ k =>
          dsimp only [List.replicate, List.nil_append]
          with_unfolding_all refine ItemsRest.tok (fun t' h' tk' F' => ?_)
          ktu_objs
          k_steps
          rename Fr _ _ _ _ => F9
          refine rest_weak (IH ⟨j + 1, k, mapOf F9 "ch", fun z => tokOf (mapOf F9 z), by omega⟩ (Nat.lt_succ_self _)) ?_ ?_
          · refine names_ext ["b", "n", "ch"] (by walk_at "my names") (by walk_at "my rest")
          · exact fun p hp => hp
    | succ k =>
      cases i with
      | zero =>
        dsimp only [List.tail_cons, List.replicate, cnt]
        with_unfolding_all refine ItemsRest.tok (fun t' h' tk' F' => ?_)
        ktu_objs
        rename News _ _ _ _ => N5
        rename (Obj.cls _ = _) => hc5
        have e1 := news_ne N5 (.tail _ (.head _)) (.head _) (by rw [hc5]; intro e; exact absurd (Value.type.inj e) (by decide))
        k_steps
        rename Fr _ _ _ _ => F9
        refine' rest_weak (IH ⟨1, k, refOf (mapOf F9 "count"), 0, _, mapOf F9 "ch", fun z => tokOf (mapOf F9 z), by omega⟩ (Nat.lt_succ_self _)) ?em ?en
        case en => walk_at "my sub"
        case em => exact names_ext ["b", "count", "nt", "n", "ch"] (by walk_at "my names") (by walk_at "my rest")
      | succ i =>
        dsimp only [List.tail_cons, List.replicate, cnt]
        with_unfolding_all refine ItemsRest.tok (fun t' h' tk' F' => ?_)
        ktu_objs
        rename News _ _ _ _ => N5
        rename (Obj.cls _ = _) => hc5
        have e1 := news_ne N5 (.tail _ (.head _)) (.head _) (by rw [hc5]; intro e; exact absurd (Value.type.inj e) (by decide))
        have e2 := news_ne N5 (.tail _ (.head _)) (.tail _ (.tail _ (.head _))) (by intro e; cases e)
        have e3 := news_ne N5 (.tail _ (.head _)) (.tail _ (.tail _ (.tail _ (.head _)))) (by intro e; exact absurd (Value.type.inj e) (by decide))
        k_steps
        rename Fr _ _ _ _ => F9
        refine' rest_weak (IH ⟨i + 2, k, K, e, _, mapOf F9 "ch", fun z => tokOf (mapOf F9 z), by omega⟩ (Nat.lt_succ_self _)) ?em ?en
        case en => walk_at "my sub"
        case em => exact names_ext ["b", "count", "nt", "n", "ch"] (by walk_at "my names") (by walk_at "my rest")
end

theorem offPF : True := by
  w_top off
  trivial
section
variable {prog : Program} {w : World} {p : Program} {loose : List Str} {mean : ExcName → Option Value} {mg mb : Str → Option Value}
def codes : Nat → List Nat
  | 1 => [79, 80, 84, 73, 77, 73, 90, 69, 68]
  | 2 => [78, 69, 87, 76, 79, 67, 65, 76, 83]
  | 3 => [79, 80, 84, 73, 77, 73, 90, 69, 68, 44, 32, 78, 69, 87, 76, 79, 67, 65, 76, 83]
  | 4 => [86, 65, 82, 65, 82, 71, 83]
  | 5 => [79, 80, 84, 73, 77, 73, 90, 69, 68, 44, 32, 86, 65, 82, 65, 82, 71, 83]
  | 6 => [78, 69, 87, 76, 79, 67, 65, 76, 83, 44, 32, 86, 65, 82, 65, 82, 71, 83]
  | _ => [79, 80, 84, 73, 77, 73, 90, 69, 68, 44, 32, 78, 69, 87, 76, 79, 67, 65, 76, 83, 44, 32, 86, 65, 82, 65, 82, 71, 83]
def wordsS (fl : Nat) : Str := ⟨(codes fl).toArray⟩
local macro_rules | `(tactic| walk_at "exec For") => `(tactic| (k_here; (rename Fr _ _ _ _ => lF'); (with_unfolding_all refine' For_else lF' ?_; k_whole)))
local macro_rules | `(tactic| walk_at "pyIter ref") => `(tactic| (k_here; (rename Fr _ _ _ _ => lF'); (rename News _ _ _ _ => lN'); (with_unfolding_all refine iter_rangeE (n := 32) (by assumption) (by decide) (by rfl) lF' lN' ?_); clear lF' lN'; intro I' h' l1 F' N'; k_lt l1))
local macro_rules | `(tactic| walk_at "LoopE") => `(tactic| (k_here; (rename Fr _ _ _ _ => lF'); (rename News _ _ _ _ => lN'); (with_unfolding_all refine loopE_range (news := _ :: _) lF' lN' (by decide) (by k_all) ?_)))
theorem str_val {x y : Str} {t : Tok} (h : x = y) : Value.str x t = Value.str y t := by rw [h]
set_option maxHeartbeats 8000000 in
theorem c_pf1 {tk : Tok} : Con prog w p loose mean mg mb 112 [.int ((1 : Nat) : Int) tk] 2 (fun _ => True) [] (fun _ _ r => ∃ t, r = .str (wordsS 1) t) := by
  intro dp un gd cn cs a ccd cl outer A₀ base h₀ L m s Q E B F X T hk hdp hun _ _ hret
  refine wpAny_call ?_
  have N0 : News h₀ L s.heap [] := News.nil
  k_dflt (walk_at "my enter")
  intro g L1 h1 FG F1 N1 B1 X1 T1 hG hG' hl1
  (try dsimp only); (try k_lift B1); (try k_fold)
  k_steps
  rename Fr g _ _ _ => F9
  exact hret _ _ _ (by assumption) (kept_end hG F9) ⟨_, str_val (by decide +kernel)⟩
set_option maxHeartbeats 8000000 in
theorem c_pf2 {tk : Tok} : Con prog w p loose mean mg mb 112 [.int ((2 : Nat) : Int) tk] 2 (fun _ => True) [] (fun _ _ r => ∃ t, r = .str (wordsS 2) t) := by
  intro dp un gd cn cs a ccd cl outer A₀ base h₀ L m s Q E B F X T hk hdp hun _ _ hret
  refine wpAny_call ?_
  have N0 : News h₀ L s.heap [] := News.nil
  k_dflt (walk_at "my enter")
  intro g L1 h1 FG F1 N1 B1 X1 T1 hG hG' hl1
  (try dsimp only); (try k_lift B1); (try k_fold)
  k_steps
  rename Fr g _ _ _ => F9
  exact hret _ _ _ (by assumption) (kept_end hG F9) ⟨_, str_val (by decide +kernel)⟩
set_option maxHeartbeats 8000000 in
theorem c_pf3 {tk : Tok} : Con prog w p loose mean mg mb 112 [.int ((3 : Nat) : Int) tk] 2 (fun _ => True) [] (fun _ _ r => ∃ t, r = .str (wordsS 3) t) := by
  intro dp un gd cn cs a ccd cl outer A₀ base h₀ L m s Q E B F X T hk hdp hun _ _ hret
  refine wpAny_call ?_
  have N0 : News h₀ L s.heap [] := News.nil
  k_dflt (walk_at "my enter")
  intro g L1 h1 FG F1 N1 B1 X1 T1 hG hG' hl1
  (try dsimp only); (try k_lift B1); (try k_fold)
  k_steps
  rename Fr g _ _ _ => F9
  exact hret _ _ _ (by assumption) (kept_end hG F9) ⟨_, str_val (by decide +kernel)⟩
set_option maxHeartbeats 8000000 in
theorem c_pf4 {tk : Tok} : Con prog w p loose mean mg mb 112 [.int ((4 : Nat) : Int) tk] 2 (fun _ => True) [] (fun _ _ r => ∃ t, r = .str (wordsS 4) t) := by
  intro dp un gd cn cs a ccd cl outer A₀ base h₀ L m s Q E B F X T hk hdp hun _ _ hret
  refine wpAny_call ?_
  have N0 : News h₀ L s.heap [] := News.nil
  k_dflt (walk_at "my enter")
  intro g L1 h1 FG F1 N1 B1 X1 T1 hG hG' hl1
  (try dsimp only); (try k_lift B1); (try k_fold)
  k_steps
  rename Fr g _ _ _ => F9
  exact hret _ _ _ (by assumption) (kept_end hG F9) ⟨_, str_val (by decide +kernel)⟩
set_option maxHeartbeats 8000000 in
theorem c_pf5 {tk : Tok} : Con prog w p loose mean mg mb 112 [.int ((5 : Nat) : Int) tk] 2 (fun _ => True) [] (fun _ _ r => ∃ t, r = .str (wordsS 5) t) := by
  intro dp un gd cn cs a ccd cl outer A₀ base h₀ L m s Q E B F X T hk hdp hun _ _ hret
  refine wpAny_call ?_
  have N0 : News h₀ L s.heap [] := News.nil
  k_dflt (walk_at "my enter")
  intro g L1 h1 FG F1 N1 B1 X1 T1 hG hG' hl1
  (try dsimp only); (try k_lift B1); (try k_fold)
  k_steps
  rename Fr g _ _ _ => F9
  exact hret _ _ _ (by assumption) (kept_end hG F9) ⟨_, str_val (by decide +kernel)⟩
set_option maxHeartbeats 8000000 in
theorem c_pf6 {tk : Tok} : Con prog w p loose mean mg mb 112 [.int ((6 : Nat) : Int) tk] 2 (fun _ => True) [] (fun _ _ r => ∃ t, r = .str (wordsS 6) t) := by
  intro dp un gd cn cs a ccd cl outer A₀ base h₀ L m s Q E B F X T hk hdp hun _ _ hret
  refine wpAny_call ?_
  have N0 : News h₀ L s.heap [] := News.nil
  k_dflt (walk_at "my enter")
  intro g L1 h1 FG F1 N1 B1 X1 T1 hG hG' hl1
  (try dsimp only); (try k_lift B1); (try k_fold)
  k_steps
  rename Fr g _ _ _ => F9
  exact hret _ _ _ (by assumption) (kept_end hG F9) ⟨_, str_val (by decide +kernel)⟩
set_option maxHeartbeats 8000000 in
theorem c_pf7 {tk : Tok} : Con prog w p loose mean mg mb 112 [.int ((7 : Nat) : Int) tk] 2 (fun _ => True) [] (fun _ _ r => ∃ t, r = .str (wordsS 7) t) := by
  intro dp un gd cn cs a ccd cl outer A₀ base h₀ L m s Q E B F X T hk hdp hun _ _ hret
  refine wpAny_call ?_
  have N0 : News h₀ L s.heap [] := News.nil
  k_dflt (walk_at "my enter")
  intro g L1 h1 FG F1 N1 B1 X1 T1 hG hG' hl1
  (try dsimp only); (try k_lift B1); (try k_fold)
  k_steps
  rename Fr g _ _ _ => F9
  exact hret _ _ _ (by assumption) (kept_end hG F9) ⟨_, str_val (by decide +kernel)⟩
theorem c_pf {fl : Nat} (h1 : 1 ≤ fl) (h2 : fl ≤ 7) {tk : Tok} : Con prog w p loose mean mg mb 112 [.int (fl : Int) tk] 2 (fun _ => True) [] (fun _ _ r => ∃ t, r = .str (wordsS fl) t) := by
  match fl, h1, h2 with
  | 1, _, _ => exact c_pf1
  | 2, _, _ => exact c_pf2
  | 3, _, _ => exact c_pf3
  | 4, _, _ => exact c_pf4
  | 5, _, _ => exact c_pf5
  | 6, _, _ => exact c_pf6
  | 7, _, _ => exact c_pf7
end

theorem offRE : True := by
  w_top off
  trivial
section RE
open PySem.Builtin PySem.Builtin.Re
theorem re_getattribute : typeLookup (.type "re.Pattern") "__getattribute__" = pure (some (.builtin "object.__getattribute__")) := by rw [typeLookup_type, builtinLookup_eq_fast]; kernel_rfl
theorem re_canon : (Manifest.canonical "object.__getattribute__" != "object.__getattribute__") = false := by decide +kernel
theorem re_getattr_none : typeLookup (.type "re.Pattern") "__getattr__" = pure none := by rw [typeLookup_type, builtinLookup_eq_fast]; kernel_rfl
theorem slot_re_search : Slot "re.Pattern" "search" "re.Pattern.search" :=
  .of (owner := "re.Pattern") (n := "search") (by rw [typeLookup_type, builtinLookup_eq_fast]; kernel_rfl) (by decide +kernel) (by decide +kernel) (by decide +kernel)
    (by first | exact .inl (by decide +kernel) | exact .inr (by decide +kernel)) (by rw [isSubtype_type]; kernel_rfl)
theorem type_re_search : typeOf (.builtin "re.Pattern.search") = pure (.type "method_descriptor") := by show builtinType _ = _; rw [builtinType_eq_fast]; kernel_rfl
theorem entry_re_search : entryFor table "re.Pattern.search" = some Builtin.«re.Pattern.search» := entryFor_of_fast (by kernel_rfl)
theorem getMethod_re_search {M : Model} {A : Around} {E : Value → Shared → Prop} {s : Shared} {l : Addr} {o : Obj} {pl : Sem Bool} {Q : Value × List Value → Shared → Prop} (ho : s.heap.get? l = some o) (hc : o.cls = .type "re.Pattern") (hd : o.dict = none)
    (h : Q (.builtin "re.Pattern.search", [.ref l]) s) : wpAny M A (getMethod (.ref l) "search" pl) Q E s := by
  have hT : s.TypeIs (.ref l) "re.Pattern" := ⟨o, ho, hc⟩
  unfold getMethod
  refine wpAny_bind (wpAny_specialOf hT re_getattribute ?_)
  show wpAny M A (if (Manifest.canonical "object.__getattribute__" != "object.__getattribute__") = true then _ else _) Q E s
  rw [re_canon, if_neg Bool.false_ne_true]
  refine wpAny_bind (wpAny_specialOf hT re_getattr_none ?_)
  refine wpAny_bind (wpAny_specialOf hT slot_re_search.lookup ?_)
  refine wpAny_bind (wpAny_of_eq type_re_search ?_)
  refine wpAny_bind (wpAny_load ho ?_)
  rw [hd]
  exact wpAny_bind (wpAny_rule (wpAny_pure h))

theorem admitted_none (m : Sre.M) (P : Nat → Prop) (hset : ∀ c, P c → ∀ seen, ∃ seen', Sre.inSet m.code c m.code.size 5 true seen = .ok (false, seen')) (ht : ∀ i, i < m.lim → P (m.text.getD i 0)) :
    ∀ fuel s seen, ∃ seen', Sre.M.admitted m fuel s seen = .ok (none, seen')
  | 0, s, seen => ⟨seen, rfl⟩
  | fuel + 1, s, seen => by
    unfold Sre.M.admitted
    split
    · exact ⟨seen, rfl⟩
    · rename_i h
      obtain ⟨seen', e⟩ := hset _ (ht s (by omega)) seen
      rw [e]
      exact admitted_none m P hset ht fuel (s + 1) seen'

theorem runFor_false (m : Sre.M) (ha : m.answer = some false) (hf : m.frames = []) (ho : m.outcome = none) : (m.runFor 4).outcome = some .failed := by
  have h1 : m.step = { m with outcome := some .failed } := by
    unfold Sre.M.step
    rw [ho, ha, hf]
    rfl
  unfold Sre.M.runFor
  rw [ho]
  simp only [Option.isSome_none, Bool.false_eq_true, if_false]
  rw [h1]
  unfold Sre.M.runFor
  simp

theorem attempt_failed (m : Sre.M) (P : Nat → Prop) (hset : ∀ c, P c → ∀ seen, ∃ seen', Sre.inSet m.code c m.code.size 5 true seen = .ok (false, seen')) (ht : ∀ i, i < m.lim → P (m.text.getD i 0))
    (hh : m.hasFirstSet = true) (hf : m.frames = []) (ho : m.outcome = none) : ((m.attemptFrom 0 true).runFor 4).outcome = some .failed := by
  unfold Sre.M.attemptFrom
  rw [hh]
  simp only [Bool.not_true, Bool.false_eq_true, if_false]
  obtain ⟨seen', e⟩ := admitted_none m P hset ht (m.lim + 1 - 0) 0 m.seen
  rw [e]
  exact runFor_false _ rfl hf ho
theorem search_failed (code text : Array Nat) (P : Nat → Prop) (hset : ∀ c, P c → ∀ seen, ∃ seen', Sre.inSet code c code.size 5 true seen = .ok (false, seen')) (ht : ∀ i, i < text.size → P (text.getD i 0))
    (hh : ∀ m : Sre.M, m.code = code → m.hasFirstSet = true) (groups : Nat) : ((Sre.forSearch code text groups 0 text.size false).runFor 4).outcome = some .failed := by
  unfold Sre.forSearch
  dsimp only
  split
  · exact runFor_false _ rfl rfl rfl
  · exact attempt_failed _ P hset ht (hh _ rfl) rfl rfl

theorem wp_forIn_unit {M : Model} {A : Around} {E : Value → Shared → Prop} {s : Shared} {f : Nat → PUnit → Sem (ForInStep PUnit)} (hf : ∀ i (Q' : ForInStep PUnit → Shared → Prop), Q' (.yield PUnit.unit) s → wpAny M A (f i PUnit.unit) Q' E s) {Q : PUnit → Shared → Prop} (h : Q PUnit.unit s) : ∀ l : List Nat, wpAny M A (forIn l PUnit.unit f) Q E s
  | [] => wpAny_pure h
  | i :: r => by
    rw [List.forIn_cons]
    exact wpAny_bind (hf i _ (wp_forIn_unit hf h r))

theorem runToEnd_failed {M : Model} {A : Around} {E : Value → Shared → Prop} {s : Shared} {Q : Option Sre.M → Shared → Prop} {m : Sre.M} (hm : (m.runFor 4).outcome = some .failed) (h : Q none s) : wpAny M A (reRunToEnd m) Q E s := by
  unfold reRunToEnd
  refine wpAny_bind ?_
  rw [show (2 : Nat) ^ 64 = (2 ^ 64 - 1) + 1 from rfl]
  unfold reDrive
  dsimp only [reTurnSteps]
  rw [hm]
  simp only [Option.isSome_some, if_true]
  refine wpAny_pure ?_
  refine wpAny_bind (wp_forIn_unit (fun i Q' h' => ?_) ?_ _)
  · split
    · exact wpAny_bind (wpAny_rule (wpAny_pure h'))
    · exact wpAny_pure h'
  · rw [hm]
    exact wpAny_pure h

theorem call_search_none {prog : Program} {w : World} {A : Around} {E : Value → Shared → Prop} {s : Shared} {Q : Value → Shared → Prop} {P T : Addr} {x : Str} {t : Tok} {fs ws : Array Value} {n : Nat} {code : Array Nat} (G : Nat → Prop)
    (hP : s.heap.get? P = some ⟨.type "re.Pattern", none, .fields fs, #[]⟩) (hT : s.heap.get? T = some ⟨.type "tuple", none, .seq ws n, #[]⟩) (h5 : fs.getD 5 .none = .ref T) (h6 : reRawNat (fs.getD 6 .none) = 0) (hc : (ws.map reRawOf).map (·.toNat) = code)
    (hset : ∀ c, G c → ∀ seen, ∃ seen', Sre.inSet code c code.size 5 true seen = .ok (false, seen')) (hh : ∀ m : Sre.M, m.code = code → m.hasFirstSet = true)
    (hx : ∀ i, i < x.cps.size → G (x.cps.getD i 0)) (hsz : x.cps.size < 2 ^ 60) (h : Q .none s) :
    wpAny (model prog w) A (call (.builtin "re.Pattern.search") [.ref P, .str x t]) Q E s := by
  refine wpAny_call_entry slot_re_search ⟨_, hP, rfl⟩ entry_re_search ?_ ?_
  · unfold Builtin.«re.Pattern.search»
    refine wpAny_bind ?_
    unfold reTarget
    refine wpAny_bind (wpAny_of_eq (show reNamed "re.Pattern.search" "search" ["string", "pos", "endpos"] 1 [.str x t] [] = pure [some (.str x t), none, none] from rfl) ?_)
    refine wpAny_bind (wpAny_pure ?_)
    refine wpAny_bind (wpAny_pure ?_)
    refine wpAny_bind (wpAny_fieldsOf hP rfl ?_)
    refine wpAny_bind (wpAny_of_eq (show reTextOf (.str x t) = pure (x.cps, 0) from rfl) ?_)
    dsimp only
    rw [h6, if_neg (by decide), if_neg (by decide)]
    refine wpAny_bind (wpAny_of_eq (show reNoCollectionInside (.str x t) 0 = pure () from rfl) ?_)
    rw [h5]
    unfold reRawItems
    refine wpAny_bind (wpAny_bind (wpAny_seqItems hT rfl (wpAny_pure ?_)))
    refine wpAny_pure ?_
    dsimp only [Option.getD_some]
    rw [hc, show min (Int.toNat 0) x.cps.size = 0 from by simp, show (min ((2 ^ 63 - 1 : Int).toNat) x.cps.size : Nat) = x.cps.size from by omega]
    unfold reAnswer
    refine wpAny_bind (runToEnd_failed (search_failed code x.cps G hset hx hh _) ?_)
    exact wpAny_pure ⟨_, rfl, h⟩
  · unfold argsOk
    kernel_rfl
end RE
section RE2
open PySem.Builtin PySem.Builtin.Re
def codeV : Array Nat := #[14, 14, 4, 1, 1, 9, 4294966783, 0, 0, 2147483648, 0, 0, 0, 0, 0, 13, 11, 9, 4294966783, 0, 0, 2147483648, 0, 0, 0, 0, 0, 1]
def codeN : Array Nat := #[14, 10, 4, 1, 1, 22, 0, 31, 16, 127, 0, 13, 7, 22, 0, 31, 16, 127, 0, 1]
def goodV (c : Nat) : Prop := c = 9 ∨ (32 ≤ c ∧ c < 127)
def goodN (c : Nat) : Prop := 32 ≤ c ∧ c < 127
theorem testV : ∀ c, c < 127 → (c = 9 ∨ 32 ≤ c) → (codeV.getD (5 + (1 + c / 32)) 0).testBit (c % 32) = false := by decide +kernel
theorem setV (c : Nat) (h : goodV c) (seen : Sre.Seen) : ∃ seen', Sre.inSet codeV c codeV.size 5 true seen = .ok (false, seen') := by
  have h1 : c < 127 := by rcases h with h | h <;> omega
  have h2 := testV c h1 (by rcases h with h | h; exact .inl h; exact .inr h.1)
  refine ⟨(seen.add 9).add 0, ?_⟩
  rw [show codeV.size = 26 + 1 + 1 from rfl, Sre.inSet]
  dsimp only
  rw [show Sre.ops[codeV.getD (5 + 0) 0]? = some .CHARSET from rfl]
  dsimp only
  rw [h2, Bool.and_false, if_neg Bool.false_ne_true, Sre.inSet]
  rfl
theorem setN (c : Nat) (h : goodN c) (seen : Sre.Seen) : ∃ seen', Sre.inSet codeN c codeN.size 5 true seen = .ok (false, seen') := by
  refine ⟨((seen.add 22).add 16).add 0, ?_⟩
  rw [show codeN.size = 17 + 1 + 1 + 1 from rfl, Sre.inSet]
  dsimp only
  rw [show Sre.ops[codeN.getD (5 + 0) 0]? = some .RANGE from rfl]
  dsimp only
  rw [if_neg (by show ¬ (decide (0 ≤ c) && decide (c ≤ 31)) = true; have := h.1; simp; omega), Sre.inSet]
  dsimp only
  rw [show Sre.ops[codeN.getD (5 + 3 + 0) 0]? = some .LITERAL from rfl]
  dsimp only
  rw [if_neg (by show ¬ (c == 127) = true; have := h.2; simp; omega), Sre.inSet]
  rfl
theorem firstV (m : Sre.M) (e : m.code = codeV) : m.hasFirstSet = true := by unfold Sre.M.hasFirstSet; rw [e]; rfl
theorem firstN (m : Sre.M) (e : m.code = codeN) : m.hasFirstSet = true := by unfold Sre.M.hasFirstSet; rw [e]; rfl
theorem get_searchK {M : Model} {A : Around} {E : Value → Shared → Prop} {s : Shared} {K : Frag} {h₀ : Heap} {L P : Addr} {m : Str → Option Value} {fs : Array Value} {pl : Sem Bool} {Q : Value × List Value → Shared → Prop} (F : Fr h₀ L s.heap m) (X : K.In h₀) (e : K.lookup P = some ⟨.type "re.Pattern", none, .fields fs, #[]⟩)
    (h : Q (.builtin "re.Pattern.search", [.ref P]) s) : wpAny M A (getMethod (.ref P) "search" pl) Q E s := getMethod_re_search ((X.keeps F.keep) _ _ e) rfl rfl h
theorem re_searchK {prog : Program} {w : World} {A : Around} {E : Value → Shared → Prop} {s : Shared} {K : Frag} {h₀ : Heap} {L : Addr} {m : Str → Option Value} {Q : Value → Shared → Prop} {P T : Addr} {x : Str} {t : Tok} {fs ws : Array Value} {n : Nat} (code : Array Nat) (G : Nat → Prop)
    (hset : ∀ c, G c → ∀ seen, ∃ seen', Sre.inSet code c code.size 5 true seen = .ok (false, seen')) (hh : ∀ m : Sre.M, m.code = code → m.hasFirstSet = true) (F : Fr h₀ L s.heap m) (X : K.In h₀) (e : K.lookup P = some ⟨.type "re.Pattern", none, .fields fs, #[]⟩) (h5 : fs.getD 5 .none = .ref T) (e2 : K.lookup T = some ⟨.type "tuple", none, .seq ws n, #[]⟩) (h6 : reRawNat (fs.getD 6 .none) = 0) (hc : (ws.map reRawOf).map (·.toNat) = code)
    (hx : ∀ i, i < x.cps.size → G (x.cps.getD i 0)) (hsz : x.cps.size < 2 ^ 60) (h : Q .none s) :
    wpAny (model prog w) A (call (.builtin "re.Pattern.search") [.ref P, .str x t]) Q E s :=
  call_search_none G ((X.keeps F.keep) _ _ e) ((X.keeps F.keep) _ _ e2) h5 h6 hc hset hh hx hsz h
end RE2

theorem offLT : True := by
  w_top off
  trivial
section
variable {prog : Program} {w : World} {p : Program} {loose : List Str} {mean : ExcName → Option Value} {mg mb : Str → Option Value}
local macro_rules | `(tactic| walk_at "call ref") => `(tactic| (k_here; k_dflt (refine' Con.use0 (c_pf ?q1 ?q2) ?B ?F ?X ?T ?hk ?hd ?hu ?hH ?N ?_); (case q1 => assumption); (case q2 => assumption); (walk_at "my ask"); (case hH => trivial); (case N => k_asm); intro r' h' tk' F' N' k' p'; obtain ⟨t', p'⟩ := p'; subst p'; (try k_sweep)))
theorem wordsS_len (fl : Nat) : (wordsS fl).length ≤ 32 := by
  unfold wordsS codes; split <;> decide
theorem fold_app (l : List (Array Nat)) : ∀ acc : Array Nat, (l.foldl (· ++ ·) acc).toList = acc.toList ++ (l.map Array.toList).flatten := by
  induction l with
  | nil => intro acc; simp
  | cons x r ih => intro acc; rw [List.foldl_cons, ih]; simp
theorem mul_rep (k c n : Nat) : (Txt.mul ⟨(List.replicate k c).toArray⟩ (n : Int)).cps.toList = List.replicate (n * k) c := by
  unfold Txt.mul
  split
  · rename_i h
    have : n = 0 := by omega
    subst this
    simp [Str.empty]
  · split
    · rename_i h1 h2
      simp only [Bool.or_eq_true, beq_iff_eq] at h2
      rcases h2 with h2 | h2
      · have : n = 1 := by omega
        subst this
        simp
      · have : k = 0 := by simpa [Str.length] using h2
        subst this
        simp
    · rw [fold_app]
      simp [List.map_replicate, List.flatten_replicate_replicate]
theorem txt_val (t f fl : Nat) : Txt.mul (Str.ofString "\t") (t : Int) ++ Txt.mul (Str.ofString "    ") (f : Int) ++ wordsS fl = (⟨(txtL t f (codes fl)).toArray⟩ : Str) := by
  have e1 : Str.ofString "\t" = ⟨(List.replicate 1 9).toArray⟩ := by decide +kernel
  have e2 : Str.ofString "    " = ⟨(List.replicate 4 32).toArray⟩ := by decide +kernel
  have h1 := mul_rep 1 9 t
  have h2 := mul_rep 4 32 f
  rw [← e1] at h1
  rw [← e2] at h2
  refine Str.ext' ?_
  rw [Str.cps_append, Str.cps_append]
  apply Array.ext'
  rw [Array.toList_append, Array.toList_append, h1, h2]
  simp only [wordsS, txtL, Nat.mul_one, Nat.mul_comm f 4, List.append_assoc]
def txt (t f fl : Nat) : Str := ⟨(txtL t f (codes fl)).toArray⟩
set_option maxHeartbeats 8000000 in
theorem c_text {t f fl : Nat} (ht : t ≤ 64) (hf : f ≤ 64) (h1 : 1 ≤ fl) (h2 : fl ≤ 7) {k1 k2 k3 : Tok} : Con prog w p loose mean mg mb 352 [.int (t : Int) k1, .int (f : Int) k2, .int (fl : Int) k3] 4 (fun _ => True) [] (fun _ _ r => ∃ t', r = .str (txt t f fl) t') := by
  intro dp un gd cn cs a ccd cl outer A₀ base h₀ L m s Q E B F X T hk hdp hun _ _ hret
  refine wpAny_call ?_
  have N0 : News h₀ L s.heap [] := News.nil
  have hw := wordsS_len fl
  k_dflt (walk_at "my enter")
  intro g L1 h1 FG F1 N1 B1 X1 T1 hG hG' hl1
  (try dsimp only); (try k_lift B1); (try k_fold)
  k_steps
  rename Fr g _ _ _ => F9
  exact hret _ _ _ (by assumption) (kept_end hG F9) ⟨_, str_val (txt_val _ _ _)⟩
end

theorem offEQ : True := by
  w_top off
  trivial
section
variable {prog : Program} {w : World} {p : Program} {loose : List Str} {mean : ExcName → Option Value} {mg mb : Str → Option Value}
def lessB (t f t' f' : Nat) : Bool := decide (t + 4 * f < t' + 4 * f') && decide (t ≤ t')
def equalB (t f t' f' : Nat) : Bool := decide (t = t') && decide (f = f')
theorem less_no {t f t' f' : Nat} (h : ((t' + 4 * f' : Nat) : Int) ≤ ((t + 4 * f : Nat) : Int)) : false = lessB t f t' f' := by
  unfold lessB
  rw [decide_eq_false (by omega), Bool.false_and]
theorem less_yes {t f t' f' : Nat} (h : ¬ ((t' + 4 * f' : Nat) : Int) ≤ ((t + 4 * f : Nat) : Int)) : decide ((t : Int) ≤ (t' : Int)) = lessB t f t' f' := by
  unfold lessB
  rw [decide_eq_true (p := t + 4 * f < t' + 4 * f') (by omega), Bool.true_and]
  by_cases q : t ≤ t' <;> simp [q]
theorem eq00 {f f' : Nat} : (((4 * f : Nat) : Int) == ((4 * f' : Nat) : Int)) = equalB 0 f 0 f' := by
  unfold equalB
  rw [decide_eq_true rfl, Bool.true_and]
  by_cases q : f = f'
  · subst q; simp
  · rw [decide_eq_false q, beq_eq_false_iff_ne]; omega
theorem eq01 {t f f' : Nat} : false = equalB 0 f (t + 1) f' := by
  unfold equalB
  rw [decide_eq_false (by omega), Bool.false_and]
theorem eq10 {t f f' : Nat} : false = equalB (t + 1) f 0 f' := by
  unfold equalB
  rw [decide_eq_false (by omega), Bool.false_and]
theorem eq11 {t f t' f' : Nat} : ((((t + 1 : Nat) : Int) == ((t' + 1 : Nat) : Int)) && (((4 * f : Nat) : Int) == ((4 * f' : Nat) : Int))) = equalB (t + 1) f (t' + 1) f' := by
  unfold equalB
  congr 1
  · by_cases q : t + 1 = t' + 1
    · rw [q]; simp
    · rw [decide_eq_false q, beq_eq_false_iff_ne]; omega
  · by_cases q : f = f'
    · subst q; simp
    · rw [decide_eq_false q, beq_eq_false_iff_ne]; omega
set_option maxHeartbeats 8000000 in
theorem c_less {t f t' f' : Nat} {x y : Addr} {z z' : WsZ} : ConL prog w p loose mean mg mb 90 [.ref x, .ref y] 4 (fun _ => True) (wsLed t f x z ++ wsLed t' f' y z') [] (fun _ _ r => r = .bool (lessB t f t' f')) := by
  intro dp un gd cn cs a ccd cl outer A₀ base h₀ L m s Q E B F X T hk hdp hun _ N hret
  refine wpAny_call ?_
  have N0 := N
  dsimp only [wsLed, List.cons_append, List.nil_append] at N
  k_dflt (walk_at "my enter")
  intro g L1 h1 FG F1 N1 B1 X1 T1 hG hG' hl1
  (try dsimp only); (try k_lift B1); (try k_fold)
  k_steps
  · rename Fr g _ _ _ => F9
    rename News g _ _ _ => N9
    exact hret _ _ _ (by assumption) (kept_led hG F9 N9 N0 fun q hq => .inr hq) (congrArg Value.bool (less_no (by assumption)))
  · rename Fr g _ _ _ => F9
    rename News g _ _ _ => N9
    exact hret _ _ _ (by assumption) (kept_led hG F9 N9 N0 fun q hq => .inr hq) (congrArg Value.bool (less_yes (by assumption)))
set_option maxHeartbeats 8000000 in
theorem c_equal {t f t' f' : Nat} {x y : Addr} {z z' : WsZ} : ConL prog w p loose mean mg mb 76 [.ref x, .ref y] 20 (fun _ => True) (wsLed t f x z ++ wsLed t' f' y z') [] (fun _ _ r => r = .bool (equalB t f t' f')) := by
  intro dp un gd cn cs a ccd cl outer A₀ base h₀ L m s Q E B F X T hk hdp hun _ N hret
  refine wpAny_call ?_
  have N0 := N
  cases t <;> cases t'
  all_goals (
    dsimp only [wsLed, List.cons_append, List.nil_append, cnt] at N
    k_dflt (walk_at "my enter")
    intro g L1 h1 FG F1 N1 B1 X1 T1 hG hG' hl1
    (try dsimp only); (try k_lift B1); (try k_fold)
    k_steps
    rename Fr g _ _ _ => F9
    rename News g _ _ _ => N9
    exact hret _ _ _ (by assumption) (kept_led hG F9 N9 N0 fun q hq => .inr hq) (congrArg Value.bool (by first | exact eq00 | exact eq01 | exact eq10 | exact eq11)))
end

theorem offHD : True := by
  w_top off
  trivial
section
variable {prog : Program} {w : World} {p : Program} {loose : List Str} {mean : ExcName → Option Value} {mg mb : Str → Option Value}
def nmS (n : Nat) : Str :=
  match n % 4 with
  | 0 => "k"
  | 1 => "m"
  | 2 => "K"
  | _ => "M"
structure Row where
  a : Addr
  nm : Nat
  t : Nat
  f : Nat
  fl : Nat
  k1 : Tok
  k2 : Tok
  n : Nat
def Row.obj (r : Row) : Addr × Obj := (r.a, { cls := .type "tuple", data := .seq #[.str (nmS r.nm) r.k1, .str (txt r.t r.f r.fl) r.k2] r.n })
structure TabZ where
  t : Addr
  d : Addr
  l : Addr
  g : Int
  k : Tok
  e : Nat
def lstObj (vs : List Value) (e : Nat) : Obj := { cls := .type "list", data := .seq vs.toArray e }
def tabLed (T : TabZ) (rows : List Row) : List (Addr × Obj) :=
  (T.l, lstObj (rows.map fun r => .ref r.a) T.e) :: (T.t, instObj 334 T.d) :: (T.d, dictOf [⟨T.g, .str "_headers" T.k, .ref T.l⟩] 1) :: rows.map Row.obj
local macro_rules | `(tactic| walk_at "eval ListComp Name cons") => `(tactic| (k_here; k_dflt (refine PyProof.Rows.LCp.ListComp_P (F₀ := by k_asm) (by with_unfolding_all rfl) (by decide) (by rfl) (by decide) (by rfl) (by rfl) (by decide) ?_)))
theorem off1_map {D : Addr} : ∀ {l : List (Addr × Obj)}, PyProof.Rows.LCg.Off1 D l → D ∉ l.map (·.1)
  | [], _ => fun h => nomatch h
  | p :: r, x => fun h => by
    rcases List.mem_cons.mp h with h | h
    · exact x.1 h.symm
    · exact off1_map x.2 h
set_option maxHeartbeats 8000000 in
theorem c_values {T : TabZ} {rows : List Row} (hr : rows.length ≤ 1000) : ConL prog w p loose mean mg mb 291 [.ref T.t] 4 (fun _ => True) (tabLed T rows) [] (fun s h' r => ∃ D, r = .ref D ∧ NewIn s h' [(D, PyProof.Rows.LCg.lst (rows.map fun r => .str (txt r.t r.f r.fl) r.k2))]) := by
  intro dp un gd cn cs a ccd cl outer A₀ base h₀ L m s Q E B F X T' hk hdp hun _ N hret
  refine wpAny_call ?_
  have N0 := N
  dsimp only [tabLed] at N
  k_dflt (walk_at "my enter")
  intro g L1 h1 FG F1 N1 B1 X1 T1 hG hG' hl1
  (try dsimp only); (try k_lift B1); (try k_fold)
  k_steps
  refine PyProof.Rows.LCp.SrcLP.ledger (by rfl) F1 N1 (.head _) (by rw [List.size_toArray, List.length_map]; exact Nat.le_trans hr (by decide)) ?_
  intro g'
  refine compP_ind rows (fun r => .str (txt r.t r.f r.fl) r.k2) (by simp) ?_ ?_
  · refine PyProof.Rows.LCp.CompRestP.zero ?_
    k_steps
    rename Fr g _ _ _ => F9
    rename News g _ _ _ => N9
    rename PyProof.Rows.LCg.Off1 _ _ => ho
    exact hret _ _ _ (by assumption) (kept_led hG F9 N9 N0 fun q hq => .inr (.tail _ hq)) ⟨_, rfl, List.forall_mem_cons.mpr ⟨⟨fresh_led hG N9 (.head _) (off1_map ho), N9.get (.head _)⟩, List.forall_mem_nil _⟩⟩
  · intro done r rest e IH
    refine PyProof.Rows.LCp.CompRestP.succ ?_
    intro v hv
    have hv' : v = .ref r.a := by
      rw [e] at hv; simp at hv; exact hv.symm
    refine ⟨r.a, r.obj.2, .str (nmS r.nm) r.k1, .str (txt r.t r.f r.fl) r.k2, r.n, hv', List.mem_append_right [_, _, _] (List.mem_map_of_mem (by rw [e]; simp)), rfl, rfl, ?_⟩
    intro I oI C oC D m2 h2 tk2 E' hC hx hy F2 N2 off ne
    k_steps
    exact PyProof.Rows.LCg.CompEnd.intro (by assumption) N2 (tabLed T rows) (fun p hp => hp) off (.inr ⟨_, .head _, rfl, _, rfl⟩) IH
theorem codes_good (fl : Nat) : ∀ c ∈ codes fl, goodV c := by
  unfold codes goodV; split <;> decide
theorem codes_len (fl : Nat) : (codes fl).length ≤ 32 := by
  unfold codes; split <;> decide
theorem txt_good (t f fl : Nat) : ∀ i, i < (txt t f fl).cps.size → goodV ((txt t f fl).cps.getD i 0) := by
  intro i hi
  have hm : (txt t f fl).cps.getD i 0 ∈ txtL t f (codes fl) := by
    have : (txt t f fl).cps.getD i 0 = (txt t f fl).cps[i] := by simp [Array.getD, hi]
    rw [this]
    exact Array.mem_toList_iff.mpr (Array.getElem_mem hi)
  unfold txtL at hm
  rcases List.mem_append.mp hm with hm | hm
  · rw [(List.mem_replicate.mp hm).2]; exact .inl rfl
  · rcases List.mem_append.mp hm with hm | hm
    · rw [(List.mem_replicate.mp hm).2]; exact .inr ⟨Nat.le_refl _, by decide⟩
    · exact codes_good fl _ hm
theorem txt_size (t f fl : Nat) : (txt t f fl).cps.size = t + (4 * f + (codes fl).length) := by
  simp [txt, txtL]
theorem nm_good (nm : Nat) : ∀ i, i < (nmS nm).cps.size → goodN ((nmS nm).cps.getD i 0) := by
  have h : ∀ x : Str, x ∈ [nmS 0, nmS 1, nmS 2, nmS 3] → (x.cps.size = 1 ∧ goodN (x.cps.getD 0 0)) := by unfold goodN; decide +kernel
  intro i hi
  have hm : nmS nm ∈ [nmS 0, nmS 1, nmS 2, nmS 3] := by
    have e : nmS nm = nmS (nm % 4) := by unfold nmS; rw [Nat.mod_mod]
    rw [e]
    have : nm % 4 < 4 := Nat.mod_lt _ (by decide)
    generalize nm % 4 = j at this
    match j, this with
    | 0, _ => simp
    | 1, _ => simp
    | 2, _ => simp
    | 3, _ => simp
  obtain ⟨h1, h2⟩ := h _ hm
  have : i = 0 := by omega
  rw [this]; exact h2
theorem nm_size (nm : Nat) : (nmS nm).cps.size = 1 := by
  unfold nmS; split <;> rfl
theorem nm_mod (nm : Nat) : nmS nm = nmS (nm % 4) := by unfold nmS; rw [Nat.mod_mod]
theorem nm_lower (nm : Nat) : Txt.lower (nmS nm) = nmS (nm % 2) := by
  have h : ∀ i, i < 4 → Txt.lower (nmS i) = nmS (i % 2) := by decide +kernel
  rw [nm_mod, h _ (Nat.mod_lt _ (by decide)), Nat.mod_mod_of_dvd _ (by decide)]
theorem nm_short (nm : Nat) : Builtin.Str.tooLong (Txt.lower (nmS nm)).length = false := by
  have h : ∀ i, i < 2 → Builtin.Str.tooLong (nmS i).length = false := by decide +kernel
  rw [nm_lower]
  exact h _ (Nat.mod_lt _ (by decide))
theorem nm_eq (a b : Nat) : (nmS (a % 2) = nmS (b % 2)) ↔ a % 2 = b % 2 := by
  have h : ∀ i, i < 2 → ∀ j, j < 2 → ((nmS i = nmS j) ↔ i = j) := by decide +kernel
  exact h _ (Nat.mod_lt _ (by decide)) _ (Nat.mod_lt _ (by decide))
theorem compT_ind {R : Nat → Nat → List Value → List (Addr × Obj) → Prop} {α : Type} (rows : List α) (keep : α → Bool) (val : α → Value) {led : List (Addr × Obj)} {n : Nat} (hn : n = rows.length) (zero : R 0 rows.length ((rows.filter keep).map val) led)
    (succ : ∀ done r rest, rows = done ++ r :: rest → R rest.length (done.length + 1) (((done ++ [r]).filter keep).map val) led → R (rest.length + 1) done.length ((done.filter keep).map val) led) : R n 0 [] led := by
  have all : ∀ rest done, rows = done ++ rest → R rest.length done.length ((done.filter keep).map val) led := by
    intro rest
    induction rest with
    | nil => intro done e; rw [List.append_nil] at e; subst e; exact zero
    | cons r rest ih =>
      intro done e
      refine succ done r rest e ?_
      have := ih (done ++ [r]) (by rw [e]; simp)
      simpa using this
  have := all rows [] rfl
  rw [hn]; simpa using this
end

theorem offHT : True := by
  w_top off
  trivial
section
variable {prog : Program} {w : World} {p : Program} {loose : List Str} {mean : ExcName → Option Value} {mg mb : Str → Option Value}
theorem two_low {a b D : Nat} (h1 : a < D) (h2 : b < D) (h : a ≠ b) : (D == sysModules) = false := by
  have : D ≠ 1 := by omega
  exact beq_eq_false_iff_ne.mpr this
theorem txt_len (t f fl : Nat) : (txt t f fl).length = t + (4 * f + (codes fl).length) := txt_size t f fl
theorem join_one (x y : Str) : Txt.join x [y] = y := by
  show Builtin.Str.glued x [y] = _
  rw [StrLaws.glued_eq_join]
  rfl
theorem append_sub {prog : Program} {w : World} {A : Around} {E : Value → Shared → Prop} {s : Shared} {h₀ : Heap} {L D : Addr} {m : Str → Option Value} {news : List (Addr × Obj)} (others : List (Addr × Obj)) {its : Array Value} {n : Nat} {x : Value} {Q : Value → Shared → Prop}
    (F : Fr h₀ L s.heap m) (N : News h₀ L s.heap news) (hm : (D, W.listOf its n) ∈ news) (ho : ∀ q ∈ others, q ∈ news ∧ q.1 ≠ D) (hsz : its.size ≤ sizeLine)
    (h : ∀ h', Fr h₀ L h' m → News h₀ L h' ((D, W.listOf (its.push x) (n + 1)) :: others) → Q .none { s with heap := h' }) :
    wpAny (model prog w) A (call (.builtin "list.append") [.ref D, x]) Q E s := by
  have z := N _ hm
  refine append_at (hsz := hsz) z.1 fun h' hs ho' => h h' (F.change hs z.2.1 z.2.2) ?_
  intro q hq
  rcases List.mem_cons.mp hq with rfl | hq
  · exact ⟨ho', z.2⟩
  · have y := N q (ho q hq).1
    exact ⟨(hs.2 _ (ho q hq).2).trans y.1, y.2⟩
def Added (T : TabZ) (rows : List Row) (nm t f fl : Nat) (s h' : Heap) : Prop :=
  ∃ (r : Row) (e : Nat), r.nm = nm ∧ r.t = t ∧ r.f = f ∧ r.fl = fl ∧ s.get? r.a = none ∧ h'.get? r.a = some r.obj.2 ∧ h'.get? T.l = some (lstObj ((rows ++ [r]).map fun r => .ref r.a) e)
theorem tabLed_rest {T : TabZ} {rows : List Row} {h₀ h : Heap} {L : Addr} {news : List (Addr × Obj)} (N : News h₀ L h news) (hs : ∀ q ∈ tabLed T rows, q ∈ news) : ∀ q ∈ (T.t, instObj 334 T.d) :: (T.d, dictOf [⟨T.g, .str "_headers" T.k, .ref T.l⟩] 1) :: rows.map Row.obj, q ∈ news ∧ q.1 ≠ T.l := by
  intro q hq
  refine ⟨hs q (.tail _ hq), ?_⟩
  refine news_ne N (o := q.2) (hs q (.tail _ hq)) (hs _ (.head _)) ?_
  rcases List.mem_cons.mp hq with rfl | hq
  · simp [lstObj, instObj]
  · rcases List.mem_cons.mp hq with rfl | hq
    · simp [lstObj]
    · obtain ⟨r, _, rfl⟩ := List.mem_map.mp hq
      simp [lstObj, Row.obj]
theorem append_tab {prog : Program} {w : World} {A : Around} {E : Value → Shared → Prop} {s : Shared} {h₀ : Heap} {L : Addr} {m : Str → Option Value} {T : TabZ} {rows : List Row} {q0 : Addr × Obj} {rest : List (Addr × Obj)} {x : Value} {Q : Value → Shared → Prop}
    (F : Fr h₀ L s.heap m) (N : News h₀ L s.heap (q0 :: rest)) (hs : ∀ q ∈ tabLed T rows, q ∈ rest) (h0 : q0.2.cls ≠ .type "list") (hr : rows.length ≤ 1000)
    (h : ∀ h', Fr h₀ L h' m → News h₀ L h' ((T.l, W.listOf ((rows.map fun r => .ref r.a).toArray.push x) (T.e + 1)) :: q0 :: (T.t, instObj 334 T.d) :: (T.d, dictOf [⟨T.g, .str "_headers" T.k, .ref T.l⟩] 1) :: rows.map Row.obj) → Q .none { s with heap := h' }) :
    wpAny (model prog w) A (call (.builtin "list.append") [.ref T.l, x]) Q E s := by
  refine append_sub (q0 :: (T.t, instObj 334 T.d) :: (T.d, dictOf [⟨T.g, .str "_headers" T.k, .ref T.l⟩] 1) :: rows.map Row.obj) F N (its := (rows.map fun r => .ref r.a).toArray) (n := T.e) (.tail _ (hs _ (.head _))) ?_ ?_ h
  · refine List.forall_mem_cons.mpr ⟨⟨.head _, ?_⟩, tabLed_rest N fun q hq => .tail _ (hs q hq)⟩
    exact news_ne N (o := q0.2) (.head _) (.tail _ (hs _ (.head _))) (by simpa [lstObj] using h0)
  · rw [List.size_toArray, List.length_map]; exact Nat.le_trans hr (by decide)
theorem added_end {m : Str → Option Value} {T : TabZ} {rows : List Row} {nm t f fl : Nat} {k1 k2 : Tok} {n : Nat} {s h' g h₀ : Heap} {L L' D : Addr} {news : List (Addr × Obj)}
    (hG : ∀ b o, b ≠ L → b ∉ (tabLed T rows).map (·.1) → s.get? b = some o → g.get? b = some o)
    (N0 : News h₀ L s (tabLed T rows)) (FG : Fr h₀ L g m)
    (N : News g L' h' ((T.l, W.listOf ((rows.map fun r => .ref r.a).toArray.push (.ref D)) (T.e + 1)) :: (D, { cls := .type "tuple", data := .seq #[.str (nmS nm) k1, .str (txt t f fl) k2] n }) :: news)) (hD : D ∉ (tabLed T rows).map (·.1)) : Added T rows nm t f fl s h' := by
  refine ⟨⟨D, nm, t, f, fl, k1, k2, n⟩, T.e + 1, rfl, rfl, rfl, rfl, ?_, (N _ (.tail _ (.head _))).1, ?_⟩
  · have hy := (N _ (.tail _ (.head _))).2.2
    cases e : s.get? D with
    | none => rfl
    | some o' =>
      by_cases hL : D = L
      · subst hL
        obtain ⟨oL, a1, a2, hL, a3⟩ := FG.ns
        rw [hy] at hL; cases hL
      · rw [hG _ _ hL hD e] at hy; cases hy
  · rw [(N _ (.head _)).1]
    simp [lstObj]
theorem allLt_map {b : Addr} : ∀ {l : List (Addr × Obj)}, AllLt b l → b ∉ l.map (·.1)
  | [], _ => fun h => nomatch h
  | p :: r, x => fun h => by
    rcases List.mem_cons.mp h with h | h
    · exact absurd (h ▸ x.1) (Nat.lt_irrefl _)
    · exact allLt_map x.2 h
end

theorem offHA : True := by
  w_top off
  trivial
section
variable {prog : Program} {w : World} {p : Program} {loose : List Str} {mean : ExcName → Option Value} {mg mb : Str → Option Value}
local macro_rules | `(tactic| walk_at "getMethod ref") => `(tactic| (k_here; (with_reducible show wpAny _ _ (getMethod (Value.ref _) (PySem.Str.ofString "search") _) _ _ _); k_dflt (refine' get_searchK ?F ?X ?e ?_; (case F => k_asm); (case X => k_asm); (case e => k_is); k_whole)))
local macro_rules | `(tactic| walk_at "call builtin:re.Pattern.search") => `(tactic| (k_here; k_dflt (first
  | (refine' re_searchK codeV goodV setV firstV ?F ?X ?e ?h5 ?e2 ?h6 ?hc ?hx ?hz ?_; (case F => k_asm); (case X => k_asm); (case e => k_is); (case h5 => rfl); (case e2 => k_is); (case h6 => rfl); (case hc => first | rfl | decide +kernel); (case hx => with_reducible assumption); (case hz => with_reducible assumption))
  | (refine' re_searchK codeN goodN setN firstN ?F ?X ?e ?h5 ?e2 ?h6 ?hc ?hx ?hz ?_; (case F => k_asm); (case X => k_asm); (case e => k_is); (case h5 => rfl); (case e2 => k_is); (case h6 => rfl); (case hc => first | rfl | decide +kernel); (case hx => with_reducible assumption); (case hz => with_reducible assumption)))))
local macro_rules | `(tactic| walk_at "call builtin:str.join") => `(tactic| (k_here; k_dflt (refine join_listW (by is_list) (StrsAre.cons _ _ StrsAre.nil) (by decide +kernel) (by with_reducible assumption) ?_); intro _ _; (with_reducible rewrite [join_one])))
set_option maxHeartbeats 8000000 in
theorem c_add {T : TabZ} {rows : List Row} (hr : rows.length ≤ 1000) {nm t f fl : Nat} (ht : t ≤ 64) (hf : f ≤ 64) {tk tk2 : Tok} : ConL prog w p loose mean mg mb 331 [.ref T.t, .str (nmS nm) tk, .str (txt t f fl) tk2] 20 (fun _ => True) (tabLed T rows) [T.l] (fun s h' r => Added T rows nm t f fl s h') := by
  intro dp un gd cn cs a ccd cl outer A₀ base h₀ L m s Q E B F X T' hk hdp hun _ N hret
  refine wpAny_call ?_
  have N0 := N
  have q1 := txt_good t f fl
  have q2 := nm_good nm
  have q3 : (txt t f fl).cps.size < 2 ^ 60 := by rw [txt_size]; have := codes_len fl; omega
  have q4 : (nmS nm).cps.size < 2 ^ 60 := by rw [nm_size]; decide
  have q5 : (([txt t f fl] : List Str).map (·.length)).sum + ([txt t f fl] : List Str).length ≤ 1048576 := by
    have := codes_len fl
    show (txt t f fl).length + 0 + 1 ≤ _
    rw [txt_len]; omega
  k_dflt (walk_at "my enterM")
  intro D1 g L1 h1 FG F1 N1 B1 X1 T1 hG hD1 hlD hlL
  have hsm : (D1 == sysModules) = false := two_low (hlD _ (.head _)) (hlD _ (.tail _ (.head _))) (news_ne N0 (.head _) (.tail _ (.head _)) (by simp [lstObj, instObj]))
  have hd0 : (dictOf [] 0).IsDictOf (strKind prog w) [] := kp_isDict (ex := []) 0 0 List.nodup_nil
  have hf0 : FlatPairs (K := Str) PyData.str [] [] := .nil
  generalize hdo : dictOf [] 0 = o1 at N1 hd0
  clear hdo
  (try dsimp only); (try k_lift B1); (try k_fold)
  k_steps
  rename Fr g L1 _ _ => F8
  rename News g L1 _ _ => N8
  refine append_tab F8 N8 (fun q hq => .tail _ (.tail _ (.tail _ hq))) (by simp) hr ?_
  intro h9 F9 N9
  k_steps
  rename (_ < _) ∧ (_ < _) ∧ (_ < _) ∧ AllLt _ (tabLed T rows) => hlt
  exact hret _ _ _ (by assumption) (kept_more hG F9 N9 N0 fun q hq => (List.mem_cons.mp hq).elim (fun e => .inl (e ▸ .head _)) fun h => .inr (.tail _ (.tail _ h))) (added_end hG N0 FG N9 (allLt_map hlt.2.2.2))
end

theorem offHI : True := by
  w_top off
  trivial
section
variable {prog : Program} {w : World} {p : Program} {loose : List Str} {mean : ExcName → Option Value} {mg mb : Str → Option Value}
set_option maxHeartbeats 8000000 in
theorem c_items {T : TabZ} {rows : List Row} (hr : rows.length ≤ 1000) : ConL prog w p loose mean mg mb 298 [.ref T.t] 4 (fun _ => True) (tabLed T rows) [] (fun s h' r => ∃ D, r = .ref D ∧ NewIn s h' [(D, lstObj (rows.map fun r => .ref r.a) 0)]) := by
  intro dp un gd cn cs a ccd cl outer A₀ base h₀ L m s Q E B F X T' hk hdp hun _ N hret
  refine wpAny_call ?_
  have N0 := N
  k_dflt (walk_at "my enter")
  intro g L1 h1 FG F1 N1 B1 X1 T1 hG hG' hl1
  (try dsimp only); (try k_lift B1); (try k_fold)
  k_steps
  rename Fr g _ _ _ => F9
  rename News g _ _ _ => N9
  rw [slicePick_all] at N9
  refine hret _ _ _ (by assumption) (kept_led hG F9 N9 N0 fun q hq => .inr (.tail _ hq)) ⟨_, rfl, List.forall_mem_cons.mpr ⟨⟨fresh_led hG N9 (.head _) ?_, N9.get (.head _)⟩, List.forall_mem_nil _⟩⟩
  intro hm
  obtain ⟨q, hq, e⟩ := List.mem_map.mp hm
  have := Heap.lt_size (N1 q hq).1
  dsimp only at e
  rw [e] at this
  exact absurd this (Nat.not_lt.mpr (Nat.le_succ _))
set_option maxHeartbeats 8000000 in
theorem c_len {T : TabZ} {rows : List Row} (hr : rows.length ≤ 1000) : ConL prog w p loose mean mg mb 242 [.ref T.t] 4 (fun _ => True) (tabLed T rows) [] (fun s h' r => ∃ t, r = .int (rows.length : Int) t) := by
  intro dp un gd cn cs a ccd cl outer A₀ base h₀ L m s Q E B F X T' hk hdp hun _ N hret
  refine wpAny_call ?_
  have N0 := N
  k_dflt (walk_at "my enter")
  intro g L1 h1 FG F1 N1 B1 X1 T1 hG hG' hl1
  (try dsimp only); (try k_lift B1); (try k_fold)
  k_steps
  rename News g _ _ _ => N9
  refine call_len_list (items := (rows.map fun r => Value.ref r.a).toArray) ⟨_, (N9 _ (.head _)).1, rfl, _, rfl⟩ (by rw [List.size_toArray, List.length_map]; omega) ?_
  k_steps
  rename Fr g _ _ _ => F9
  exact hret _ _ _ (by assumption) (kept_led hG F9 N9 N0 fun q hq => .inr hq) ⟨_, by rw [List.size_toArray, List.length_map]⟩
end

theorem offHH : True := by
  w_top off
  trivial
section
variable {prog : Program} {w : World} {p : Program} {loose : List Str} {mean : ExcName → Option Value} {mg mb : Str → Option Value}
set_option maxHeartbeats 8000000 in
theorem c_hint {T : TabZ} {rows : List Row} (hr : rows.length ≤ 1000) : ConL prog w p loose mean mg mb 190 [.ref T.t] 8 (fun _ => True) (tabLed T rows) [] (fun s h' r => ∃ t, r = .int (rows.length : Int) t) := by
  intro dp un gd cn cs a ccd cl outer A₀ base h₀ L m s Q E B F X T' hk hdp hun _ N hret
  refine wpAny_call ?_
  have N0 := N
  k_dflt (walk_at "my enter")
  intro g L1 h1 FG F1 N1 B1 X1 T1 hG hG' hl1
  (try dsimp only); (try k_lift B1); (try k_fold)
  dsimp only [tabLed] at N1
  k_steps
  rename News _ _ _ _ => N9
  refine call_len_list (items := (rows.map fun r => Value.ref r.a).toArray) ⟨_, (N9 _ (.head _)).1, rfl, _, rfl⟩ (by rw [List.size_toArray, List.length_map]; omega) ?_
  k_steps
  rename Fr g L1 _ _ => F9
  rename News g L1 _ _ => N8
  exact hret _ _ _ (by assumption) (kept_led hG F9 N8 N0 fun q hq => .inr hq) ⟨_, by rw [List.size_toArray, List.length_map]⟩
end

theorem offHG : True := by
  w_top off
  trivial
section
variable {prog : Program} {w : World} {p : Program} {loose : List Str} {mean : ExcName → Option Value} {mg mb : Str → Option Value}
local macro_rules | `(tactic| walk_at "getMethod ref") => `(tactic| (k_here; (with_reducible show wpAny _ _ (getMethod (Value.ref _) (PySem.Str.ofString "search") _) _ _ _); k_dflt (refine' get_searchK ?F ?X ?e ?_; (case F => k_asm); (case X => k_asm); (case e => k_is); k_whole)))
local macro_rules | `(tactic| walk_at "call builtin:re.Pattern.search") => `(tactic| (k_here; k_dflt (first
  | (refine' re_searchK codeV goodV setV firstV ?F ?X ?e ?h5 ?e2 ?h6 ?hc ?hx ?hz ?_; (case F => k_asm); (case X => k_asm); (case e => k_is); (case h5 => rfl); (case e2 => k_is); (case h6 => rfl); (case hc => first | rfl | decide +kernel); (case hx => with_reducible assumption); (case hz => with_reducible assumption))
  | (refine' re_searchK codeN goodN setN firstN ?F ?X ?e ?h5 ?e2 ?h6 ?hc ?hx ?hz ?_; (case F => k_asm); (case X => k_asm); (case e => k_is); (case h5 => rfl); (case e2 => k_is); (case h6 => rfl); (case hc => first | rfl | decide +kernel); (case hx => with_reducible assumption); (case hz => with_reducible assumption)))))
local macro_rules | `(tactic| walk_at "eval ListComp Subscript cons") => `(tactic| (k_here; k_dflt (refine PyProof.Rows.LCt.ListComp_T (F₀ := by k_asm) (by with_unfolding_all rfl) (by decide) (by rfl) (by decide) (by rfl) ?_)))
local macro_rules | `(tactic| walk_at "call builtin:str.lower") => `(tactic| (k_here; k_dflt (refine KXw.lower (by with_reducible assumption) (by with_reducible assumption) ?_); intro _ _))
local macro_rules | `(tactic| walk_at "my tail") => `(tactic| first | with_reducible assumption | (refine List.mem_cons_of_mem _ ?_; walk_at "my tail"))
local macro_rules | `(tactic| walk_at "subscriptTail") => `(tactic| (k_here; (with_reducible show wpAny _ _ (subscriptTail _ _ (Value.ref _) (Value.int _ _)) _ _ _); k_dflt (refine' item_tupleT ?t ?a ?b ?c ?d ?_; (case t => (rename News _ _ _ _ => kNN; exact News.isTup kNN (by walk_at "my tail"))); (case a => decide); (case b => decide); (case c => rfl); (case d => rfl); k_whole)))
local macro_rules | `(tactic| k_updF) => `(tactic| (refine' UpdF.head ?a; (case a => first | with_reducible assumption | assumption)))
set_option maxHeartbeats 8000000 in
theorem c_getall {T : TabZ} {rows : List Row} (hr : rows.length ≤ 1000) {nm : Nat} {tk : Tok} : ConL prog w p loose mean mg mb 273 [.ref T.t, .str (nmS nm) tk] 20 (fun _ => True) (tabLed T rows) [] (fun s h' r => ∃ D, r = .ref D ∧ NewIn s h' [(D, PyProof.Rows.LCg.lst ((rows.filter fun r => r.nm % 2 == nm % 2).map fun r => .str (txt r.t r.f r.fl) r.k2))]) := by
  intro dp un gd cn cs a ccd cl outer A₀ base h₀ L m s Q E B F X T' hk hdp hun _ N hret
  refine wpAny_call ?_
  have N0 := N
  have f0 := nm_good (nm % 2)
  have f1 : (nmS (nm % 2)).cps.size < 2 ^ 60 := by rw [nm_size]; decide
  have f2 := nm_lower nm
  have f3 := nm_short nm
  generalize nmS nm = x at f2 f3 ⊢
  have hyy : ∀ r : Row, (nmS (r.nm % 2) = nmS (nm % 2)) ↔ r.nm % 2 = nm % 2 := fun r => nm_eq _ _
  generalize nmS (nm % 2) = y at f0 f1 f2 hyy
  k_dflt (walk_at "my enterC")
  intro g L1 h1 tk1 cells1 FG F1 N1 Y1 B1 X1 T1 hG hG' hl1
  have hcell : ∀ p ∈ tabLed T rows, p.1 ≠ L1 + 1 := fun p hp => Nat.ne_of_lt (Nat.lt_succ_of_lt (hl1 p hp))
  (try k_lt hl1); k_cells Y1; (try simp only [List.cons_append, List.nil_append] at N1)
  (try dsimp only); (try k_lift B1); (try k_fold)
  k_steps
  rename Fr g L1 _ _ => F8
  rename News g L1 _ _ => N8
  refine PyProof.Rows.LCt.CompSrcT.ledger (by rfl) F8 N8 (.tail _ (.head _)) (by rw [List.size_toArray, List.length_map]; exact Nat.le_trans hr (by decide)) ?_
  intro g'
  refine compT_ind rows (fun r => r.nm % 2 == nm % 2) (fun r => .str (txt r.t r.f r.fl) r.k2) (by simp) ?_ ?_
  · refine PyProof.Rows.LCt.CompRestT.zero ?_
    k_steps
    rename Fr g _ _ _ => F9
    rename News g _ _ _ => N9
    rename _ ∧ PyProof.Rows.LCg.Off1 _ _ => ho
    exact hret _ _ _ (by assumption) (kept_led hG F9 N9 N0 fun q hq => .inr (.tail _ (.tail _ hq))) ⟨_, rfl, List.forall_mem_cons.mpr ⟨⟨fresh_led hG N9 (.head _) (off1_map ho.2), N9.get (.head _)⟩, List.forall_mem_nil _⟩⟩
  · intro done r rest e IH
    refine PyProof.Rows.LCt.CompRestT.succ ?_
    intro v I oI C oC D m2 h2 tk2 E' hv hC hx F2 N2 off ne
    have hv' : v = .ref r.a := by
      rw [e] at hv; simp at hv; exact hv.symm
    subst hv'
    have hrow : (r.a, ({ cls := .type "tuple", data := .seq #[.str (nmS r.nm) r.k1, .str (txt r.t r.f r.fl) r.k2] r.n } : Obj)) ∈ tabLed T rows := List.mem_append_right [_, _, _] (List.mem_map_of_mem (f := Row.obj) (by rw [e]; simp))
    have g2 := nm_lower r.nm
    have g3 := nm_short r.nm
    have hyr := hyy r
    have ec : ((done ++ [r]).filter fun r => r.nm % 2 == nm % 2) = if r.nm % 2 = nm % 2 then (done.filter fun r => r.nm % 2 == nm % 2) ++ [r] else (done.filter fun r => r.nm % 2 == nm % 2) := by
      rw [List.filter_append]; by_cases q : r.nm % 2 = nm % 2 <;> simp [q]
    generalize nmS r.nm = xr at hrow g2 g3
    generalize nmS (r.nm % 2) = yr at g2 hyr
    k_steps
    · rename (_ == _) = true => hc
      have q := hyr.mp (by simpa using hc)
      rw [ec, if_pos q, List.map_append] at IH
      rename News g _ _ _ => N9
      exact PyProof.Rows.LCg.CompEnd.intro (by assumption) N9 ((L1 + 1, _) :: tabLed T rows) (fun p hp => hp) off (.inr ⟨_, .tail _ (.head _), rfl, _, rfl⟩) IH
    · rename (_ == _) = false => hc
      have q : ¬ r.nm % 2 = nm % 2 := fun z => by rw [hyr.mpr z] at hc; simp at hc
      rw [ec, if_neg q] at IH
      rename News g _ _ _ => N9
      exact PyProof.Rows.LCg.CompEnd.intro (by assumption) N9 ((L1 + 1, _) :: tabLed T rows) (fun p hp => hp) off (.inr ⟨_, .tail _ (.head _), rfl, _, rfl⟩) IH
end

theorem offHS : True := by
  w_top off
  trivial
section
variable {prog : Program} {w : World} {A : Around} {E : Value → Shared → Prop} {s : Shared}
theorem setItem_list_all {l sl D : Addr} {items new : Array Value} {n : Nat} {Q : Unit → Shared → Prop} (ho : s.heap.get? l = some (W.listOf items n)) (hD : s.heap.IsList D new) (hne : l ≠ D) (hs : s.heap.IsSliceOf sl .none .none .none) (hsz : items.size + new.size ≤ 2000)
    (hQ : ∀ h' n', Heap.SameBut l s.heap h' → h'.get? l = some (W.listOf new n') → Q () { s with heap := h' }) : wpAny (model prog w) A (setItem (.ref l) (.ref sl) (.ref D)) Q E s := by
  have hl : s.heap.IsList l items := ⟨_, ho, rfl, n, rfl⟩
  obtain ⟨oD, hoD, hcD, nD, hdD⟩ := id hD
  obtain ⟨os, hos, hcs, hds⟩ := id hs
  have hTs : s.TypeIs (.ref sl) "slice" := ⟨os, hos, hcs⟩
  unfold setItem
  try with_reducible refine wpAny_holding ?_
  first | refine wpAny_bind (wpAny_pure ?_) | skip
  refine wpAny_bind (wpAny_sequenceKey hl.typeIs (by decide) ?_)
  refine wpAny_bind (wpAny_callSpecial?_slot (name := Str.ofString "__setitem__") hl.typeIs slot_list_setitem
    (wpAny_call_entry slot_list_setitem hl.typeIs entry_list_setitem ?_ (args_list_setitem _ _ _)))
  show wpAny _ _ (Builtin.List.listSubscript? (.ref sl) >>= _) _ _ s
  refine wpAny_bind ?_
  unfold Builtin.List.listSubscript?
  refine wpAny_bind (wpAny_specialOf hTs slice_no_index ?_)
  simp only [Option.isNone_none, if_true]
  refine wpAny_pure ?_
  show wpAny _ _ (typeOf (.ref sl) >>= _) _ _ s
  refine wpAny_bind (wpAny_typeOf hTs ?_)
  rw [if_neg (by decide)]
  rw [listSliceParts_eq]
  refine wpAny_bind (wpAny_bind (wpAny_field hos hds (x := .none) rfl (wpAny_bind (wpAny_listPart .none ?_))))
  rw [if_neg (show ¬ ((rawPart none == rawInt 0) = true) from Bool.false_ne_true)]
  refine wpAny_bind (wpAny_field hos hds (x := .none) rfl (wpAny_bind (wpAny_listPart .none ?_)))
  refine wpAny_bind (wpAny_field hos hds (x := .none) rfl (wpAny_bind (wpAny_listPart .none (wpAny_pure ?_))))
  have hsr : Builtin.List.listSameRef (.ref l) (.ref D) = false := beq_eq_false_iff_ne.mpr hne
  rw [hsr, if_neg Bool.false_ne_true]
  refine wpAny_bind (m := Builtin.List.listAllItems (.ref D) _) ?_
  unfold Builtin.List.listAllItems
  refine wpAny_bind (wpAny_typeOf hD.typeIs ?_)
  rw [if_pos (by decide)]
  unfold Builtin.List.listItems
  refine wpAny_bind (wpAny_seqItems hoD hdD (wpAny_pure ?_))
  refine wpAny_bind (wpAny_bind (wpAny_seqItems ho rfl (wpAny_pure ?_)))
  refine wpAny_bind (wpAny_of_eq (sliceIndices_raw none none none items.size (by simp)) ?_)
  have e : sliceBounds none none none items.size = (((0 : Nat) : Int), (items.size : Int), 1) := by
    simp [sliceBounds]
  rw [e]
  dsimp only
  rw [if_pos (by decide)]
  refine wpAny_bind (wpAny_rule ?_)
  have htl : Builtin.List.listTooLong (items.size + new.size) = false := by
    unfold Builtin.List.listTooLong
    rw [decide_eq_false_iff_not, Nat.not_lt]
    exact Nat.le_trans hsz (by decide)
  rw [htl, if_neg Bool.false_ne_true]
  have hf : (items.extract 0 (((0 : Nat) : Int)).toNat ++ new ++ items.extract (max (((0 : Nat) : Int)) (items.size : Int)).toNat items.size) = new := by
    have : (max (((0 : Nat) : Int)) (items.size : Int)).toNat = items.size := by omega
    rw [this]
    simp
  refine wpAny_bind (wpAny_updateSeq ho rfl ?_ (Nat.le_trans (Nat.le_trans (Nat.le_add_right _ _) hsz) (by decide)) (by rw [hf]; exact Nat.le_trans (Nat.le_trans (Nat.le_add_left _ _) hsz) (by decide)))
  refine wpAny_bind (wpAny_letGo ?_)
  have q := PySem.IsL.update ho fun xs => xs.extract 0 (((0 : Nat) : Int)).toNat ++ new ++ xs.extract (max (((0 : Nat) : Int)) (items.size : Int)).toNat
  rw [hf] at q
  exact wpAny_pure ⟨.none, rfl, wpAny_pure (hQ _ _ (Heap.SameBut.update ..) q)⟩
end
section
variable {M : Model} {A : Around} {E : Value → Shared → Prop} {s : Shared} {K : Frag} {x C L f : Addr} {h₀ : Heap} {m : Str → Option Value} {ox : Obj} {od : Option Obj} {i : Value}
theorem own_delItem {Q : Unit → Shared → Prop} (F : Fr h₀ L s.heap m) (X₀ : K.In h₀) (I : InstAt s.heap x ox C od) (hq : noSeq K C = true) (hs : findIn K (.ref C) "__delitem__" = some (some (.ref f))) (hf : isFn K (.ref f) = true)
    (h : wpAny M A (call (.ref f) [.ref x, i]) (fun _ s' => Q () s') E s) : wpAny M A (delItem (.ref x) i) Q E s := by
  have X := X₀.keeps F.keep
  unfold delItem sequenceKey
  refine wpAny_holding (wpAny_bind (wpAny_bind (I.type.here ?_)))
  refine wpAny_bind ((anyM_none X hq).here ?_)
  rw [if_pos (show (!false) = true from rfl)]
  exact wpAny_pure (wpAny_bind (special_fn X I hs (beq_iff_eq.mp hf) (wpAny_mono h (fun _ _ z => wpAny_pure z) fun _ _ z => z)))
end

theorem offHX : True := by
  w_top off
  trivial
section
variable {prog : Program} {w : World} {p : Program} {loose : List Str} {mean : ExcName → Option Value} {mg mb : Str → Option Value}
local macro_rules | `(tactic| walk_at "getMethod ref") => `(tactic| (k_here; (with_reducible show wpAny _ _ (getMethod (Value.ref _) (PySem.Str.ofString "search") _) _ _ _); k_dflt (refine' get_searchK ?F ?X ?e ?_; (case F => k_asm); (case X => k_asm); (case e => k_is); k_whole)))
local macro_rules | `(tactic| walk_at "call builtin:re.Pattern.search") => `(tactic| (k_here; k_dflt (first
  | (refine' re_searchK codeV goodV setV firstV ?F ?X ?e ?h5 ?e2 ?h6 ?hc ?hx ?hz ?_; (case F => k_asm); (case X => k_asm); (case e => k_is); (case h5 => rfl); (case e2 => k_is); (case h6 => rfl); (case hc => first | rfl | decide +kernel); (case hx => with_reducible assumption); (case hz => with_reducible assumption))
  | (refine' re_searchK codeN goodN setN firstN ?F ?X ?e ?h5 ?e2 ?h6 ?hc ?hx ?hz ?_; (case F => k_asm); (case X => k_asm); (case e => k_is); (case h5 => rfl); (case e2 => k_is); (case h6 => rfl); (case hc => first | rfl | decide +kernel); (case hx => with_reducible assumption); (case hz => with_reducible assumption)))))
local macro_rules | `(tactic| walk_at "eval ListComp Name cons") => `(tactic| (k_here; k_dflt (refine PyProof.Rows.LCt.ListComp_T (F₀ := by k_asm) (by with_unfolding_all rfl) (by decide) (by rfl) (by decide) (by rfl) ?_)))
local macro_rules | `(tactic| walk_at "call builtin:str.lower") => `(tactic| (k_here; k_dflt (refine KXw.lower (by with_reducible assumption) (by with_reducible assumption) ?_); intro _ _))
local macro_rules | `(tactic| walk_at "my tail") => `(tactic| first | with_reducible assumption | (refine List.mem_cons_of_mem _ ?_; walk_at "my tail"))
local macro_rules | `(tactic| walk_at "subscriptTail") => `(tactic| (k_here; (with_reducible show wpAny _ _ (subscriptTail _ _ (Value.ref _) (Value.int _ _)) _ _ _); k_dflt (refine' item_tupleT ?t ?a ?b ?c ?d ?_; (case t => (rename News _ _ _ _ => kNN; exact News.isTup kNN (by walk_at "my tail"))); (case a => decide); (case b => decide); (case c => rfl); (case d => rfl); k_whole)))
local macro_rules | `(tactic| k_updF) => `(tactic| (refine' UpdF.head ?a; (case a => first | with_reducible assumption | assumption)))
def Cut (T : TabZ) (rows : List Row) (nm : Nat) (h' : Heap) : Prop := ∃ e, h'.get? T.l = some (lstObj ((rows.filter fun r => !(r.nm % 2 == nm % 2)).map fun r => .ref r.a) e)
theorem setall_tab {A : Around} {E : Value → Shared → Prop} {s : Shared} {h₀ : Heap} {L : Addr} {m : Str → Option Value} {T : TabZ} {rows : List Row} {D : Addr} {vs : List Value} {c0 : Addr × Obj} {Q : Unit → Shared → Prop}
    (F : Fr h₀ L s.heap m) (N : News h₀ L s.heap ((D, PyProof.Rows.LCg.lst vs) :: c0 :: tabLed T rows)) (hD : @Ne Nat T.l D) (hr : rows.length ≤ 1000) (hv : vs.length ≤ 1000)
    (h : ∀ h' e, Fr h₀ L h' m → News h₀ L h' ((T.l, lstObj vs e) :: (T.t, instObj 334 T.d) :: (T.d, dictOf [⟨T.g, .str "_headers" T.k, .ref T.l⟩] 1) :: rows.map Row.obj) → Q () { s with heap := h' }) :
    wpAny (model prog w) A (setItem (.ref T.l) (.ref s.heap.objs.size) (.ref D)) Q E { s with heap := s.heap.push { cls := .type "slice", data := .fields #[.none, .none, .none] } } := by
  have N2 := News.push F N { cls := .type "slice", data := .fields #[.none, .none, .none] }
  have F2 := F.push { cls := .type "slice", data := .fields #[.none, .none, .none] }
  refine setItem_list_all (items := (rows.map fun (r : Row) => Value.ref r.a).toArray) (new := vs.toArray) (n := T.e) (N2 _ (.tail _ (.tail _ (.tail _ (.head _))))).1 ⟨_, (N2 _ (.tail _ (.head _))).1, rfl, _, rfl⟩ hD ⟨_, (N2 _ (.head _)).1, rfl, rfl⟩ ?_ ?_
  · rw [List.size_toArray, List.size_toArray, List.length_map]; omega
  · intro h' n' hs ho'
    have z := N2 _ (.tail _ (.tail _ (.tail _ (.head _))))
    refine h h' n' (F2.change hs z.2.1 z.2.2) ?_
    intro q hq
    rcases List.mem_cons.mp hq with rfl | hq
    · exact ⟨ho', z.2⟩
    · have y := tabLed_rest N2 (T := T) (rows := rows) (fun q hq => .tail _ (.tail _ (.tail _ hq))) q hq
      have x := N2 q y.1
      exact ⟨(hs.2 _ y.2).trans x.1, x.2⟩
local macro_rules | `(tactic| walk_at "none 0") => `(tactic| fail)
set_option maxHeartbeats 8000000 in
theorem c_delM {T : TabZ} {rows : List Row} (hr : rows.length ≤ 1000) {nm : Nat} {tk : Tok} : ConL prog w p loose mean mg mb 254 [.ref T.t, .str (nmS nm) tk] 20 (fun _ => True) (tabLed T rows) [T.l] (fun s h' r => Cut T rows nm h') := by
  intro dp un gd cn cs a ccd cl outer A₀ base h₀ L m s Q E B F X T' hk hdp hun _ N hret
  refine wpAny_call ?_
  have N0 := N
  have f0 := nm_good (nm % 2)
  have f1 : (nmS (nm % 2)).cps.size < 2 ^ 60 := by rw [nm_size]; decide
  have f2 := nm_lower nm
  have f3 := nm_short nm
  generalize nmS nm = x at f2 f3 ⊢
  have hyy : ∀ r : Row, (nmS (r.nm % 2) = nmS (nm % 2)) ↔ r.nm % 2 = nm % 2 := fun r => nm_eq _ _
  generalize nmS (nm % 2) = y at f0 f1 f2 hyy
  k_dflt (walk_at "my enterC")
  intro g L1 h1 tk1 cells1 FG F1 N1 Y1 B1 X1 T1 hG hG' hl1
  have hcell : ∀ p ∈ tabLed T rows, p.1 ≠ L1 + 1 := fun p hp => Nat.ne_of_lt (Nat.lt_succ_of_lt (hl1 p hp))
  (try k_lt hl1); k_cells Y1; (try simp only [List.cons_append, List.nil_append] at N1)
  (try dsimp only); (try k_lift B1); (try k_fold)
  k_steps
  rename Fr g L1 _ _ => F8
  rename News g L1 _ _ => N8
  refine PyProof.Rows.LCt.CompSrcT.ledger (by rfl) F8 N8 (.tail _ (.head _)) (by rw [List.size_toArray, List.length_map]; exact Nat.le_trans hr (by decide)) ?_
  intro g'
  refine compT_ind rows (fun r => !(r.nm % 2 == nm % 2)) (fun r => .ref r.a) (by simp) ?_ ?_
  · refine PyProof.Rows.LCt.CompRestT.zero ?_
    k_steps
    rename Fr g L1 _ _ => F9
    rename News g L1 _ _ => N9
    rename _ ∧ PyProof.Rows.LCg.Off1 _ _ => ho
    refine setall_tab F9 N9 ho.2.1 hr ?_ ?_
    · rw [List.length_map]; exact Nat.le_trans (List.length_filter_le _ _) hr
    · intro h5 e5 F5 N5
      k_steps
      exact hret _ _ _ (by assumption) (kept_led hG F5 N5 N0 fun q hq => (List.mem_cons.mp hq).elim (fun e => .inl (e ▸ .head _)) fun h => .inr (.tail _ h)) ⟨e5, (N5 _ (.head _)).1⟩
  · intro done r rest e IH
    refine PyProof.Rows.LCt.CompRestT.succ ?_
    intro v I oI C oC D m2 h2 tk2 E' hv hC hx F2 N2 off ne
    have hv' : v = .ref r.a := by
      rw [e] at hv; simp at hv; exact hv.symm
    subst hv'
    have hrow : (r.a, ({ cls := .type "tuple", data := .seq #[.str (nmS r.nm) r.k1, .str (txt r.t r.f r.fl) r.k2] r.n } : Obj)) ∈ tabLed T rows := List.mem_append_right [_, _, _] (List.mem_map_of_mem (f := Row.obj) (by rw [e]; simp))
    have g2 := nm_lower r.nm
    have g3 := nm_short r.nm
    have hyr := hyy r
    have ec : ((done ++ [r]).filter fun r => !(r.nm % 2 == nm % 2)) = if r.nm % 2 = nm % 2 then (done.filter fun r => !(r.nm % 2 == nm % 2)) else (done.filter fun r => !(r.nm % 2 == nm % 2)) ++ [r] := by
      rw [List.filter_append]; by_cases q : r.nm % 2 = nm % 2 <;> simp [q]
    generalize nmS r.nm = xr at hrow g2 g3
    generalize nmS (r.nm % 2) = yr at g2 hyr
    k_steps
    · rename (_ != _) = true => hc
      have q : ¬ r.nm % 2 = nm % 2 := fun z => by rw [hyr.mpr z] at hc; simp at hc
      rw [ec, if_neg q, List.map_append] at IH
      rename News g _ _ _ => N9
      exact PyProof.Rows.LCg.CompEnd.intro (by assumption) N9 ((L1 + 1, _) :: tabLed T rows) (fun p hp => hp) off (.inr ⟨_, .tail _ (.head _), rfl, _, rfl⟩) IH
    · rename (_ != _) = false => hc
      have q := hyr.mp (by simpa using hc)
      rw [ec, if_pos q] at IH
      rename News g _ _ _ => N9
      exact PyProof.Rows.LCg.CompEnd.intro (by assumption) N9 ((L1 + 1, _) :: tabLed T rows) (fun p hp => hp) off (.inr ⟨_, .tail _ (.head _), rfl, _, rfl⟩) IH
end

theorem offHY : True := by
  w_top off
  trivial
section
variable {prog : Program} {w : World} {p : Program} {loose : List Str} {mean : ExcName → Option Value} {mg mb : Str → Option Value}
local macro_rules | `(tactic| walk_at "delItem ref") => `(tactic| (k_here; k_dflt (refine' own_delItem ?k1 ?k2 ?k3 ?k4 ?k5 ?k6 ?_; (case k1 => k_asm); (case k2 => k_asm); (case k3 => k_inst); (case k4 => k_is); (case k5 => k_is); (case k6 => k_is); k_whole)))
local macro_rules | `(tactic| walk_at "call ref") => `(tactic| (k_here; k_dflt (refine' ConL.use1 (c_delM (by with_reducible assumption)) ?B ?F ?X ?T ?hk ?hd ?hu True.intro ?N ?hN ?hoff ?_; (case B => k_asm); (case F => k_asm); (case X => k_asm); (case T => k_asm); (case hk => first | exact rfl | assumption); (case hd => ktr_room); (case hu => ktr_units); (case N => k_asm); (case hN => exact fun q hq => hq); (case hoff => exact fun q hq => (tabLed_rest (by k_asm) (fun q hq => hq) q hq).2); intro r h2 tk2 F2 N2 NX K2 P2; obtain ⟨e2, P2⟩ := P2; have N3 := NX _ P2; clear NX N2)))
set_option maxHeartbeats 8000000 in
theorem c_delF {T : TabZ} {rows : List Row} (hr : rows.length ≤ 1000) {nm : Nat} {tk : Tok} : ConL prog w p loose mean mg mb 168 [.ref T.t, .str (nmS nm) tk] 24 (fun _ => True) (tabLed T rows) [T.l] (fun s h' r => Cut T rows nm h') := by
  intro dp un gd cn cs a ccd cl outer A₀ base h₀ L m s Q E B F X T' hk hdp hun _ N hret
  refine wpAny_call ?_
  have N0 := N
  k_dflt (walk_at "my enter")
  intro g L1 h1 FG F1 N1 B1 X1 T1 hG hG' hl1
  dsimp only [tabLed] at N1
  (try dsimp only); (try k_lift B1); (try k_fold)
  k_steps
  rename Fr g L1 _ _ => F9
  rename News g L1 _ _ => N9
  exact hret _ _ _ (by assumption) (kept_led hG F9 N9 N0 fun q hq => (List.mem_cons.mp hq).elim (fun e => .inl (e ▸ .head _)) fun h => .inr (.tail _ h)) ⟨_, (N9 _ (.head _)).1⟩
end

theorem offHZ : True := by
  w_top off
  trivial
section
variable {prog : Program} {w : World} {p : Program} {loose : List Str} {mean : ExcName → Option Value} {mg mb : Str → Option Value}
local macro_rules | `(tactic| walk_at "getMethod ref") => `(tactic| (k_here; (with_reducible show wpAny _ _ (getMethod (Value.ref _) (PySem.Str.ofString "search") _) _ _ _); k_dflt (refine' get_searchK ?F ?X ?e ?_; (case F => k_asm); (case X => k_asm); (case e => k_is); k_whole)))
local macro_rules | `(tactic| walk_at "call builtin:re.Pattern.search") => `(tactic| (k_here; k_dflt (first
  | (refine' re_searchK codeV goodV setV firstV ?F ?X ?e ?h5 ?e2 ?h6 ?hc ?hx ?hz ?_; (case F => k_asm); (case X => k_asm); (case e => k_is); (case h5 => rfl); (case e2 => k_is); (case h6 => rfl); (case hc => first | rfl | decide +kernel); (case hx => with_reducible assumption); (case hz => with_reducible assumption))
  | (refine' re_searchK codeN goodN setN firstN ?F ?X ?e ?h5 ?e2 ?h6 ?hc ?hx ?hz ?_; (case F => k_asm); (case X => k_asm); (case e => k_is); (case h5 => rfl); (case e2 => k_is); (case h6 => rfl); (case hc => first | rfl | decide +kernel); (case hx => with_reducible assumption); (case hz => with_reducible assumption)))))
local macro_rules | `(tactic| walk_at "delItem ref") => `(tactic| (k_here; k_dflt (refine' own_delItem ?k1 ?k2 ?k3 ?k4 ?k5 ?k6 ?_; (case k1 => k_asm); (case k2 => k_asm); (case k3 => k_inst); (case k4 => k_is); (case k5 => k_is); (case k6 => k_is); k_whole)))
local macro_rules | `(tactic| walk_at "call ref") => `(tactic| (k_here; k_dflt (refine' ConL.use1 (c_delM (by with_reducible assumption)) ?B ?F ?X ?T ?hk ?hd ?hu True.intro ?N ?hN ?hoff ?_; (case B => k_asm); (case F => k_asm); (case X => k_asm); (case T => k_asm); (case hk => first | exact rfl | assumption); (case hd => ktr_room); (case hu => ktr_units); (case N => k_asm); (case hN => exact fun q hq => hq); (case hoff => exact fun q hq => (tabLed_rest (by k_asm) (fun q hq => hq) q hq).2); intro r h2 tk2 F2 N2 NX K2 P2; obtain ⟨e2, P2⟩ := P2; have N3 := NX _ P2; clear NX N2)))
theorem append_tab3 {A : Around} {E : Value → Shared → Prop} {s : Shared} {h₀ : Heap} {L : Addr} {m : Str → Option Value} {T : TabZ} {rows : List Row} {vs : List Value} {e : Nat} {q0 : Addr × Obj} {x : Value} {Q : Value → Shared → Prop}
    (F : Fr h₀ L s.heap m) (N : News h₀ L s.heap (q0 :: (T.l, lstObj vs e) :: (T.t, instObj 334 T.d) :: (T.d, dictOf [⟨T.g, .str "_headers" T.k, .ref T.l⟩] 1) :: rows.map Row.obj)) (h0 : q0.2.cls ≠ .type "list") (hv : vs.length ≤ 1000)
    (h : ∀ h', Fr h₀ L h' m → News h₀ L h' ((T.l, W.listOf (vs.toArray.push x) (e + 1)) :: q0 :: (T.t, instObj 334 T.d) :: (T.d, dictOf [⟨T.g, .str "_headers" T.k, .ref T.l⟩] 1) :: rows.map Row.obj) → Q .none { s with heap := h' }) :
    wpAny (model prog w) A (call (.builtin "list.append") [.ref T.l, x]) Q E s := by
  refine append_sub (q0 :: (T.t, instObj 334 T.d) :: (T.d, dictOf [⟨T.g, .str "_headers" T.k, .ref T.l⟩] 1) :: rows.map Row.obj) F N (its := vs.toArray) (n := e) (.tail _ (.head _)) ?_ ?_ h
  · intro q hq
    have hm : q ∈ q0 :: (T.l, lstObj vs e) :: (T.t, instObj 334 T.d) :: (T.d, dictOf [⟨T.g, .str "_headers" T.k, .ref T.l⟩] 1) :: rows.map Row.obj := (List.mem_cons.mp hq).elim (fun z => z ▸ .head _) fun z => .tail _ (.tail _ z)
    refine ⟨hm, news_ne N (o := q.2) hm (.tail _ (.head _)) ?_⟩
    rcases List.mem_cons.mp hq with rfl | hq
    · simpa [lstObj] using h0
    · rcases List.mem_cons.mp hq with rfl | hq
      · simp [lstObj, instObj]
      · rcases List.mem_cons.mp hq with rfl | hq
        · simp [lstObj]
        · obtain ⟨r, _, rfl⟩ := List.mem_map.mp hq
          simp [lstObj, Row.obj]
  · rw [List.size_toArray]; exact Nat.le_trans hv (by decide)
theorem added_end2 {T : TabZ} {rowsF : List Row} {nm t f fl e : Nat} {k1 k2 : Tok} {n : Nat} {s h' g : Heap} {L' D : Addr} {news : List (Addr × Obj)} (hS : s.get? D = none)
    (N : News g L' h' ((T.l, W.listOf ((rowsF.map fun r => .ref r.a).toArray.push (.ref D)) (e + 1)) :: (D, { cls := .type "tuple", data := .seq #[.str (nmS nm) k1, .str (txt t f fl) k2] n }) :: news)) : Added T rowsF nm t f fl s h' := by
  refine ⟨⟨D, nm, t, f, fl, k1, k2, n⟩, e + 1, rfl, rfl, rfl, rfl, hS, (N _ (.tail _ (.head _))).1, ?_⟩
  rw [(N _ (.head _)).1]
  simp [lstObj]
set_option maxHeartbeats 8000000 in
theorem c_setM {T : TabZ} {rows : List Row} (hr : rows.length ≤ 999) {nm t f fl : Nat} (ht : t ≤ 64) (hf : f ≤ 64) {tk tk2 : Tok} : ConL prog w p loose mean mg mb 249 [.ref T.t, .str (nmS nm) tk, .str (txt t f fl) tk2] 28 (fun _ => True) (tabLed T rows) [T.l] (fun s h' r => Added T (rows.filter fun r => !(r.nm % 2 == nm % 2)) nm t f fl s h') := by
  intro dp un gd cn cs a ccd cl outer A₀ base h₀ L m s Q E B F X T' hk hdp hun _ N hret
  refine wpAny_call ?_
  have N0 := N
  have hr2 : rows.length ≤ 1000 := by omega
  have q1 := txt_good t f fl
  have q2 := nm_good nm
  have q3 : (txt t f fl).cps.size < 2 ^ 60 := by rw [txt_size]; have := codes_len fl; omega
  have q4 : (nmS nm).cps.size < 2 ^ 60 := by rw [nm_size]; decide
  k_dflt (walk_at "my enter")
  intro g L1 h1 FG F1 N1 B1 X1 T1 hG hG' hl1
  dsimp only [tabLed] at N1
  (try dsimp only); (try k_lift B1); (try k_fold)
  k_steps
  rename Fr g L1 _ _ => F8
  rename News g L1 _ _ => N8
  rename (_ < _) ∧ (_ < _) ∧ (_ < _) ∧ AllLt _ (List.map Row.obj rows) => hlt
  refine append_tab3 F8 N8 (by simp) ?_ ?_
  · rw [List.length_map]; exact Nat.le_trans (List.length_filter_le _ _) hr2
  intro h9 F9 N9
  k_steps
  exact hret _ _ _ (by assumption) (kept_led hG F9 N9 N0 fun q hq => (List.mem_cons.mp hq).elim (fun e => .inl (e ▸ .head _)) fun h => .inr (.tail _ (.tail _ h))) (added_end2 (fresh_led hG N9 (.tail _ (.head _)) (allLt_map (l := tabLed T rows) hlt)) N9)
end

theorem offHW : True := by
  w_top off
  trivial
section
variable {prog : Program} {w : World} {p : Program} {loose : List Str} {mean : ExcName → Option Value} {mg mb : Str → Option Value}
local macro_rules | `(tactic| walk_at "setItem ref") => `(tactic| (k_here; k_dflt (refine' ksp_setItem ?k1 ?k2 ?k3 ?k4 ?k5 ?k6 ?_; (case k1 => k_asm); (case k2 => k_asm); (case k3 => k_inst); (case k4 => k_is); (case k5 => k_is); (case k6 => k_is); k_whole)))
local macro_rules | `(tactic| walk_at "call ref") => `(tactic| (k_here; k_dflt (refine' ConL.use1 (c_setM (by with_reducible assumption) (by with_reducible assumption) (by with_reducible assumption)) ?B ?F ?X ?T ?hk ?hd ?hu True.intro ?N ?hN ?hoff ?_; (case B => k_asm); (case F => k_asm); (case X => k_asm); (case T => k_asm); (case hk => first | exact rfl | assumption); (case hd => ktr_room); (case hu => ktr_units); (case N => k_asm); (case hN => exact fun q hq => hq); (case hoff => exact fun q hq => (tabLed_rest (by k_asm) (fun q hq => hq) q hq).2); intro r h2 tk2 F2 N2 NX K2 P2; have PB := id P2; obtain ⟨rw, e2, P3, P4, P5, P6, P7, P8, P9⟩ := P2; have N3 := NX _ P9; clear NX N2)))
theorem fresh_back {s h1 g : Heap} {L1 a : Addr} {m1 : Str → Option Value} {led : List (Addr × Obj)} (hG : ∀ b o, b ∉ led.map (·.1) → s.get? b = some o → g.get? b = some o) (F1 : Fr g L1 h1 m1) (N1 : News g L1 h1 led) (h : h1.get? a = none) : s.get? a = none := by
  cases q : s.get? a with
  | none => rfl
  | some o =>
    by_cases hm : a ∈ led.map (·.1)
    · obtain ⟨p, hp, rfl⟩ := List.mem_map.mp hm
      rw [(N1 p hp).1] at h; cases h
    · rw [F1.keep _ _ (hG _ _ hm q)] at h; cases h
set_option maxHeartbeats 8000000 in
theorem c_setF {T : TabZ} {rows : List Row} (hr : rows.length ≤ 999) {nm t f fl : Nat} (ht : t ≤ 64) (hf : f ≤ 64) {tk tk2 : Tok} : ConL prog w p loose mean mg mb 182 [.ref T.t, .str (nmS nm) tk, .str (txt t f fl) tk2] 32 (fun _ => True) (tabLed T rows) [T.l] (fun s h' r => Added T (rows.filter fun r => !(r.nm % 2 == nm % 2)) nm t f fl s h') := by
  intro dp un gd cn cs a ccd cl outer A₀ base h₀ L m s Q E B F X T' hk hdp hun _ N hret
  refine wpAny_call ?_
  have N0 := N
  k_dflt (walk_at "my enter")
  intro g L1 h1 FG F1 N1 B1 X1 T1 hG hG' hl1
  dsimp only [tabLed] at N1
  (try dsimp only); (try k_lift B1); (try k_fold)
  k_steps
  rename Fr g L1 _ _ => F9
  rename News g L1 _ _ => N9
  rename Added _ _ _ _ _ _ _ _ => PA
  obtain ⟨r, e, a1, a2, a3, a4, a5, a6, a7⟩ := PA
  exact hret _ _ _ (by assumption) (kept_led hG F9 N9 N0 fun q hq => (List.mem_cons.mp hq).elim (fun e => .inl (e ▸ .head _)) fun h => .inr (.tail _ h)) ⟨r, e, a1, a2, a3, a4, fresh_back hG F1 N1 a5, a6, a7⟩
end

theorem offM2 : True := by
  w_top off
  trivial
theorem unrW_mem {h₀ : Heap} {L : Addr} {its : List (Addr × Obj)} {rest : (Str → Option Value) → List (Addr × Obj) → Prop} {s₁ : Shared} {h' : Heap} {tk : Nat} {m' : Str → Option Value} {all : List (Addr × Obj)} (F : Fr h₀ L h' m') (N : News h₀ L h' all) (news' : List (Addr × Obj))
    (hI : ∀ p ∈ its, p ∈ all) (sub : ∀ p ∈ news', p ∈ all) (off : ∀ p ∈ news', ∀ q ∈ its, p.1 ≠ q.1) (r : rest m' news') : UnrEndW h₀ L s₁ its rest { s₁ with heap := h', toks := tk } :=
  ⟨h', tk, m', news', rfl, F, fun p hp => (List.mem_append.mp hp).elim (fun q => N p (hI p q)) (fun q => N p (sub p q)), off, r⟩
theorem off_lt {I : Addr} {o : Obj} {news : List (Addr × Obj)} (h : ∀ p ∈ news, p.1 < I) : ∀ p ∈ news, ∀ q ∈ [(I, o)], p.1 ≠ q.1 := fun p hp q hq => by
  rw [List.mem_singleton.mp hq]
  exact Nat.ne_of_lt (h p hp)
section
variable {prog : Program} {w : World} {p : Program} {loose : List Str} {mean : ExcName → Option Value} {mg mb : Str → Option Value} {f : Addr} {vs : List Value} {n : Nat} {H : Heap → Prop} {P : Heap → Heap → Value → Prop} {led : List (Addr × Obj)} {ch : List Addr}
    {dp un : Nat} {gd : Option (List Code)} {cn : Str} {cs : Scope} {a : Addr} {ccd : Value} {cl : List (Str × Addr)} {outer : List Env} {A₀ : Around} {base h₀ : Heap} {L : Addr} {m : Str → Option Value} {s : Shared} {Q E : Value → Shared → Prop} {news rest : List (Addr × Obj)}
/-- what was free before the call is free of the frame and of its ledger -/
def FreeOf (h₀ h : Heap) (news : List (Addr × Obj)) : Prop := ∀ b, h.get? b = none → h₀.get? b = none ∧ ∀ q ∈ news, q.1 ≠ b
theorem ConL.use1n {l : Addr} {o : Obj} (C : ConL prog w p loose mean mg mb f vs n H led [l] P)
    (B : Below A₀ base outer h₀) (F : Fr h₀ L s.heap m) (X : (hd.heap_39 w.params).In h₀) (T : Top p loose mean mg mb h₀) (hk : cs.kind = .function) (hd : dp + n < recursionLimit) (hu : un + 8 * n < cLine) (hH : H s.heap) (N : News h₀ L s.heap ((l, o) :: news)) (hN : ∀ q ∈ led, q ∈ (l, o) :: news) (hoff : ∀ q ∈ news, q.1 ≠ l)
    (h : ∀ r h' tk', Fr h₀ L h' m → News h₀ L h' news → (∀ o', h'.get? l = some o' → News h₀ L h' ((l, o') :: news)) → Kept [L, l] s.heap h' → FreeOf h₀ s.heap ((l, o) :: news) → P s.heap h' r → Q r { s with heap := h', toks := tk' }) :
    wpAny (model prog w) (ktrTop dp un gd cn cs L a ccd cl outer) (call (.ref f) vs) Q E s :=
  C.use1 B F X T hk hd hu hH N hN hoff fun r h' tk' F' N' NX k pp => h r h' tk' F' N' NX k (fun b hb => by
    refine ⟨?_, fun q hq e => ?_⟩
    · cases e : h₀.get? b with
      | none => rfl
      | some o => rw [F.keep _ _ e] at hb; cases hb
    · have := (N q hq).1
      rw [e, hb] at this; cases this) pp
theorem fresh_of_free {s h g : Heap} {a : Addr} {led news : List (Addr × Obj)} (hG : ∀ b o, b ∉ led.map (·.1) → s.get? b = some o → g.get? b = some o) (FO : FreeOf g h news) (hs : ∀ q ∈ led, ∃ q' ∈ news, q'.1 = q.1) (ha : h.get? a = none) : s.get? a = none := by
  obtain ⟨h1, h2⟩ := FO a ha
  cases q : s.get? a with
  | none => rfl
  | some o =>
    by_cases hm : a ∈ led.map (·.1)
    · obtain ⟨p, hp, rfl⟩ := List.mem_map.mp hm
      obtain ⟨q', ho, e'⟩ := hs p hp
      exact absurd e' (h2 _ ho)
    · rw [hG _ _ hm q] at h1; cases h1
end

theorem offLWr : True := by
  w_top off
  trivial
section
variable {prog : Program} {w : World} {p : Program} {loose : List Str} {mean : ExcName → Option Value} {mg mb : Str → Option Value}
def maxT (rows : List Row) : Nat := rows.foldl (fun a r => max a r.t) 0
def maxF (rows : List Row) : Nat := rows.foldl (fun a r => max a r.f) 0
theorem codes_cons (fl : Nat) (h1 : 1 ≤ fl) (h7 : fl ≤ 7) : ∃ c r, codes fl = c :: r ∧ (c :: r).all (· < 128) = true ∧ c ≠ 9 ∧ c ≠ 32 := by
  have h : fl = 1 ∨ fl = 2 ∨ fl = 3 ∨ fl = 4 ∨ fl = 5 ∨ fl = 6 ∨ fl = 7 := by omega
  rcases h with rfl | rfl | rfl | rfl | rfl | rfl | rfl <;> exact ⟨_, _, rfl, by decide, by decide, by decide⟩
theorem c_wsT {t f fl : Nat} {tk : Tok} (h : 1 ≤ fl ∧ fl ≤ 7) : Con prog w p loose mean mg mb 100 [.str (txt t f fl) tk] 4 (fun _ => True) [] (fun s h' r => ∃ x z, r = .ref x ∧ NewIn s h' (wsLed t f x z)) := by
  obtain ⟨c, r, e, a1, a2, a3⟩ := codes_cons fl h.1 h.2
  have := c_ws (prog := prog) (w := w) (p := p) (loose := loose) (mean := mean) (mg := mg) (mb := mb) (t := t) (f := f) (c := c) (r := r) (tk := tk) a1 a2 a3
  rw [← e] at this
  exact this
theorem foldmax_le (f : Row → Nat) (b : Nat) : ∀ (rows : List Row) (a : Nat), a ≤ b → (∀ r ∈ rows, f r ≤ b) → rows.foldl (fun a r => max a (f r)) a ≤ b
  | [], _, h, _ => h
  | r :: rs, a, h, hr => foldmax_le f b rs _ (Nat.max_le.mpr ⟨h, hr r (.head _)⟩) fun q hq => hr q (.tail _ hq)
theorem maxT_le {rows : List Row} {b : Nat} (h : ∀ r ∈ rows, r.t ≤ b) : maxT rows ≤ b := foldmax_le Row.t b rows 0 (Nat.zero_le _) h
theorem maxF_le {rows : List Row} {b : Nat} (h : ∀ r ∈ rows, r.f ≤ b) : maxF rows ≤ b := foldmax_le Row.f b rows 0 (Nat.zero_le _) h
theorem c_textI {x y z : Int} (hx : 0 ≤ x ∧ x ≤ 64) (hy : 0 ≤ y ∧ y ≤ 64) (hz : 1 ≤ z ∧ z ≤ 7) {k1 k2 k3 : Tok} : Con prog w p loose mean mg mb 352 [.int x k1, .int y k2, .int z k3] 4 (fun _ => True) [] (fun _ _ r => ∃ t', r = .str (txt x.toNat y.toNat z.toNat) t') := by
  have h := c_text (prog := prog) (w := w) (p := p) (loose := loose) (mean := mean) (mg := mg) (mb := mb) (t := x.toNat) (f := y.toNat) (fl := z.toNat) (k1 := k1) (k2 := k2) (k3 := k3) (by omega) (by omega) (by omega) (by omega)
  rw [show ((x.toNat : Nat) : Int) = x by omega, show ((y.toNat : Nat) : Int) = y by omega, show ((z.toNat : Nat) : Int) = z by omega] at h
  exact h
theorem max_int (a b : Nat) : (if (b : Int) > (a : Int) then (b : Int) else (a : Int)) = ((max a b : Nat) : Int) := by split <;> omega
theorem max_blank (t f bf : Nat) : (if ((t + 4 * f : Nat) : Int) - (t : Int) > ((4 * bf : Nat) : Int) then ((t + 4 * f : Nat) : Int) - (t : Int) else ((4 * bf : Nat) : Int)) = ((4 * max bf f : Nat) : Int) := by split <;> omega
structure S3 (rows : List Row) where
  rest : List Row
  tb : Nat
  bf : Nat
  mv : Option Value
  tx : Option Value
  tk : Str → Tok
  h1 : rest.foldl (fun a r => max a r.t) tb = maxT rows
  h2 : rest.foldl (fun a r => max a r.f) bf = maxF rows
  h3 : ∀ r ∈ rest, r ∈ rows
local macro_rules | `(tactic| walk_at "exec For Name Call cons nil") => `(tactic| (k_here; (rename Fr _ _ _ _ => lF'); (with_unfolding_all refine' For_turns lF' ?_; k_whole)))
local macro_rules | `(tactic| walk_at "call ref") => `(tactic| (k_here; k_dflt (refine' ConL.use0 (c_values (by with_reducible assumption)) ?B ?F ?X ?T ?hk ?hd ?hu True.intro ?N ?hN ?_; (case B => k_asm); (case F => k_asm); (case X => k_asm); (case T => k_asm); (case hk => first | exact rfl | assumption); (case hd => ktr_room); (case hu => ktr_units); (case N => k_asm); (case hN => exact fun q hq => hq); intro r h2 tk2 F2 N2 K2 P2; obtain ⟨D2, e2, P3⟩ := P2; subst e2; have N3 := NewIn.news P3 (by k_asm) K2 (by k_asm); clear N2)))
local macro_rules | `(tactic| walk_at "call ref") => `(tactic| (k_here; k_dflt (refine' Con.use0 (c_wsT (by with_reducible assumption)) ?B ?F ?X ?T ?hk ?hd ?hu True.intro ?N ?_; (case B => k_asm); (case F => k_asm); (case X => k_asm); (case T => k_asm); (case hk => first | exact rfl | assumption); (case hd => ktr_room); (case hu => ktr_units); (case N => k_asm); intro r h2 tk2 F2 N2 K2 P2; obtain ⟨x2, z2, e2, P3⟩ := P2; subst e2; have N3 := NewIn.news P3 (by k_asm) K2 (by k_asm); clear N2; (try dsimp only [wsLed, List.cons_append, List.nil_append] at N3))))
local macro_rules | `(tactic| walk_at "call ref") => `(tactic| (k_here; k_dflt (refine' Con.use0 (c_textI (by omega) (by omega) (by omega)) ?B ?F ?X ?T ?hk ?hd ?hu True.intro ?N ?_; (case B => k_asm); (case F => k_asm); (case X => k_asm); (case T => k_asm); (case hk => first | exact rfl | assumption); (case hd => ktr_room); (case hu => ktr_units); (case N => k_asm); intro r h2 tk2 F2 N2 K2 P2; obtain ⟨t2, e2⟩ := P2; subst e2)))
local macro_rules | `(tactic| walk_at "call ref") => `(tactic| (k_here; k_dflt (refine' ConL.use1n (c_setF (by with_reducible assumption) (by omega) (by omega)) ?B ?F ?X ?T ?hk ?hd ?hu True.intro ?N ?hN ?hoff ?_; (case B => k_asm); (case F => k_asm); (case X => k_asm); (case T => k_asm); (case hk => first | exact rfl | assumption); (case hd => ktr_room); (case hu => ktr_units); (case N => k_asm); (case hN => exact fun q hq => hq); (case hoff => exact fun q hq => (tabLed_rest (by k_asm) (fun q hq => hq) q hq).2); intro r h2 tk2 F2 N2 NX K2 FO P2; have PB := id P2; obtain ⟨rw, e2, P3, P4, P5, P6, P7, P8, P9⟩ := P2; have N3 := NX _ P9; clear NX N2)))
set_option maxHeartbeats 8000000 in
theorem c_write {T : TabZ} {rows : List Row} (hr : rows.length ≤ 20) {nm fl : Nat} {site : Nat} (hs : site ≤ 1) (h1 : 1 ≤ fl) (h7 : fl ≤ 7) (hrow : ∀ r ∈ rows, r.t ≤ 32 ∧ r.f ≤ 32 ∧ 1 ≤ r.fl ∧ r.fl ≤ 7) {ts tn tf : Tok} : ConL prog w p loose mean mg mb 359 [.ref T.t, .int (site : Int) ts, .str (nmS nm) tn, .int (fl : Int) tf] 40 (fun _ => True) (tabLed T rows) [T.l]
    (fun s h' r => Added T (rows.filter fun r => !(r.nm % 2 == nm % 2)) nm (if site = 0 then maxT rows + 1 else maxT rows) (if site = 0 then maxF rows else maxF rows + 1) fl s h') := by
  intro dp un gd cn cs a ccd cl outer A₀ base h₀ L m s Q E B F X T' hk hdp hun _ N hret
  refine wpAny_call ?_
  have N0 := N
  have hr2 : rows.length ≤ 1000 := by omega
  have hr3 : rows.length ≤ 999 := by omega
  k_dflt (walk_at "my enter")
  intro g L1 h1 FG F1 N1 B1 X1 T1 hG hG' hl1
  dsimp only [tabLed] at N1
  (try dsimp only); (try k_lift B1); (try k_fold)
  k_steps
  rename Fr g _ _ _ => F3
  rename News g _ _ _ => N3
  refine iter_listTurns (by rfl) F3 N3 (.head _) rfl rfl ?_
  intro I l1
  have l0 := l1
  (try simp only [List.cons_append, List.nil_append] at l1 N3)
  (try k_lt l1)
  refine rest_at (σ := S3 rows) (fun st => st.rest.length) (fun st => (st.rest.map fun r => Value.str (txt r.t r.f r.fl) r.k2).map .val)
    (fun m₀ st z => if z = "blanks" then some (.int ((4 * st.bf : Nat) : Int) (st.tk "blanks")) else if z = "tabs" then some (.int (st.tb : Int) (st.tk "tabs")) else if z = "mark" then st.mv else if z = "text" then st.tx else m₀ z)
    (fun n₀ st => n₀) ⟨rows, 0, 0, none, none, fun z => tokOf (mapOf F3 z), rfl, rfl, fun _ h => h⟩ rfl ?_ rfl ?_
  · refine names_ext ["blanks", "tabs", "mark", "text"] (by walk_at "my names") (by walk_at "my rest")
  · clear F3 N3
    intro st IH
    obtain ⟨rest, tb, bf, mv, tx, tk, e1, e2, e3⟩ := st
    cases rest with
    | nil =>
      clear IH
      dsimp only [List.foldl] at e1 e2
      subst e1
      subst e2
      dsimp only [List.map]
      have q1 : ((4 * maxF rows : Nat) : Int).fdiv 4 = (maxF rows : Int) := by rw [Int.fdiv_eq_ediv_of_nonneg _ (by decide)]; omega
      have q2 := maxT_le fun r hr => (hrow r hr).1
      have q3 := maxF_le fun r hr => (hrow r hr).2.1
      with_unfolding_all refine ItemsRest.zero (fun h' tk' F' N' => ?_)
      have N5 := news_sub (n' := tabLed T rows) N' (fun p hp => .tail _ hp)
      clear N'
      dsimp only [tabLed] at N5
      k_steps
      · rename Fr g L1 _ _ => F9
        rename News g L1 _ _ => N9
        rename FreeOf _ _ _ => FO
        rename Added _ _ _ _ _ _ _ _ => PA
        obtain ⟨r, e, a1, a2, a3, a4, a5, a6, a7⟩ := PA
        exact hret _ _ _ (by assumption) (kept_led hG F9 N9 N0 fun q hq => (List.mem_cons.mp hq).elim (fun e => .inl (e ▸ .head _)) fun h => .inr (.tail _ h)) ⟨r, e, a1, by rw [a2, if_pos (by omega)]; omega, by rw [a3, if_pos (by omega)]; omega, by omega, fresh_of_free hG FO (fun q hq => ⟨q, List.mem_cons.mp hq |>.elim (fun e => e ▸ .head _) (.tail _), rfl⟩) a5, a6, a7⟩
      · rename Fr g L1 _ _ => F9
        rename News g L1 _ _ => N9
        rename FreeOf _ _ _ => FO
        rename Added _ _ _ _ _ _ _ _ => PA
        obtain ⟨r, e, a1, a2, a3, a4, a5, a6, a7⟩ := PA
        exact hret _ _ _ (by assumption) (kept_led hG F9 N9 N0 fun q hq => (List.mem_cons.mp hq).elim (fun e => .inl (e ▸ .head _)) fun h => .inr (.tail _ h)) ⟨r, e, a1, by rw [a2, if_neg (by omega)]; omega, by rw [a3, if_neg (by omega)]; omega, by omega, fresh_of_free hG FO (fun q hq => ⟨q, List.mem_cons.mp hq |>.elim (fun e => e ▸ .head _) (.tail _), rfl⟩) a5, a6, a7⟩
    | cons r rest =>
      dsimp only [List.map]
      have hf7 := (hrow r (e3 r (.head _))).2.2
      with_unfolding_all refine ItemsRest.val (fun h' tk' F' => ?_)
      ktu_objs
      k_steps
      rename Fr g _ _ _ => F9
      rename News g _ _ _ => N9
      refine unrW_mem F9 N9 _ (List.forall_mem_cons.mpr ⟨by k_mem, List.forall_mem_nil _⟩) (fun p hp => List.mem_append_right [_, _, _, _, _] hp) (off_lt l0) ⟨⟨.head _, trivial⟩, ?_⟩
      refine rest_weak (IH ⟨rest, max tb r.t, max bf r.f, mapOf F9 "mark", mapOf F9 "text", fun z => tokOf (mapOf F9 z), by simpa using e1, by simpa using e2, fun q hq => e3 q (.tail _ hq)⟩ (Nat.lt_succ_self _)) ?_ (fun p hp => hp)
      refine names_ext ["blanks", "tabs", "mark", "text"] (List.forall_mem_cons.mpr ⟨?_, List.forall_mem_cons.mpr ⟨?_, by walk_at "my names"⟩⟩) (by walk_at "my rest")
      · exact congrArg (fun x => some (Value.int x _)) (max_blank _ _ _)
      · exact congrArg (fun x => some (Value.int x _)) (max_int _ _)
end

theorem offTK : True := by
  w_top off
  trivial
theorem runs_toks {M : Model} {Γ : PySem.Ctx} {p : Pos} {t : Sem Fin} {fs : List Frame} {s s' : Shared} {e : End} (h : Runs M Γ p t fs s e s') : s.toks ≤ s'.toks := by
  induction h <;> (try simp only [Shared.setGen] at *) <;> omega
theorem wakes_toks {M : Model} {Γ : PySem.Ctx} {p : Pos} {g : Nat} {r : Resume} {s s' : Shared} {res : GenResult} (h : Wakes M Γ p g r s res s') : s.toks ≤ s'.toks := by
  unfold Wakes at h
  split at h
  · exact h.elim
  · split at h
    · obtain ⟨e₁, s₁, h1, _, _, rfl⟩ := h
      have := runs_toks h1
      exact this
    · rw [h.2]; exact Nat.le_refl _
    · rw [h.2]; exact Nat.le_refl _
  · obtain ⟨e₁, s₁, h1, _, _, rfl⟩ := h
    have := runs_toks h1
    exact this
  · rw [h.2]; exact Nat.le_refl _
  · rw [h.2]; exact Nat.le_refl _
theorem wp_toks {X : Type} {M : Model} {Γ : PySem.Ctx} {b : Nat} (t : Sem X) {Q : X → Pos → Shared → Prop} {E : Value → Pos → Shared → Prop} : ∀ (p : Pos) (s : Shared), b ≤ s.toks → Sem.wp M Γ t Q E p s →
    Sem.wp M Γ t (fun a p' s' => b ≤ s'.toks ∧ Q a p' s') (fun e p' s' => b ≤ s'.toks ∧ E e p' s') p s := by
  induction t with
  | pure a => exact fun p s hb h => ⟨hb, h⟩
  | raise e => exact fun p s hb h => ⟨hb, h⟩
  | unsupported | finish | yield | fork | await | register => exact fun _ _ _ h => h
  | rule tag k ih => exact fun p s hb h => ih () p s hb h
  | «at» p' k ih => exact fun p s hb h => ih () p' s hb h
  | load a part k ih => exact fun p s hb ⟨o, ho, h⟩ => ⟨o, ho, ih o p s hb h⟩
  | update a part f k ih => exact fun p s hb ⟨ho, h⟩ => ⟨ho, ih () p _ hb h⟩
  | alloc o k ih => exact fun p s hb h => ih _ p { s with heap := s.heap.push o } hb h
  | loadIfAlive a k ih => exact fun p s hb h => ih _ p s hb h
  | point l k ih => exact fun p s hb h => ih () p s hb h
  | fresh k ih => exact fun p s hb h => ih _ p { s with toks := s.toks + 1 } (Nat.le_succ_of_le hb) h
  | ask k ih => exact fun p s hb h => ih _ p s hb h
  | choose src n k ih => exact fun p s hb ⟨hn, h⟩ => ⟨hn, ih _ p { s with drawn := s.drawn.bump src } hb h⟩
  | os q l k ih => exact fun p s hb h => ih _ p { s with os := (Os.step s.os q).1 } hb h
  | call c hh g l k ih =>
    intro p s hb ⟨r, s', hr, h⟩
    exact ⟨r, s', hr, ih r p s' (Nat.le_trans hb (runs_toks hr)) h⟩
  | handled own k ih => exact fun p s hb h => ih _ p s hb h
  | newGen c k ih => exact fun p s hb h => ih _ p { s with gens := s.gens.push (.fresh c) } hb h
  | genState g k ih => exact fun p s hb ⟨st, hs, h⟩ => ⟨st, hs, ih _ p s hb h⟩
  | resume g r l k ih =>
    intro p s hb ⟨res, s', hr, h⟩
    exact ⟨res, s', hr, ih res p s' (Nat.le_trans hb (wakes_toks hr)) h⟩
  | stack k ih => exact fun p s hb h => ih _ p s hb h
  | thread k ih => exact fun p s hb h => ih _ p s hb h
/-- tokens only grow -/
theorem wpAny_toks {X : Type} {M : Model} {A : Around} {t : Sem X} {Q : X → Shared → Prop} {E : Value → Shared → Prop} {s : Shared} {b : Nat} (hb : b ≤ s.toks) (h : wpAny M A t Q E s) : wpAny M A t (fun a s' => b ≤ s'.toks ∧ Q a s') (fun e s' => b ≤ s'.toks ∧ E e s') s :=
  fun Γ p hΓ => wp_toks t p s hb (h Γ p hΓ)
theorem nb39 {P : Params} {h : Heap} (X : (hd.heap_39 P).In h) : PySem.NoneBooked h := by
  refine ⟨_, ⟨_, _, _, X 2 _ rfl, rfl, ?_, fun _ => rfl⟩, rfl⟩
  intro i hi
  simp only [List.mem_toArray, List.mem_cons, List.not_mem_nil, or_false] at hi
  rcases hi with rfl | rfl | rfl | rfl | rfl | rfl | rfl | rfl | rfl <;> exact ⟨_, _, rfl⟩
section
variable {prog : Program} {w : World} {p : Program} {loose : List Str} {mean : ExcName → Option Value} {mg mb : Str → Option Value} {f : Addr} {vs : List Value} {n : Nat} {H : Heap → Prop} {P : Heap → Heap → Value → Prop} {led : List (Addr × Obj)} {ch : List Addr}
    {dp un : Nat} {gd : Option (List Code)} {cn : Str} {cs : Scope} {a : Addr} {ccd : Value} {cl : List (Str × Addr)} {outer : List Env} {A₀ : Around} {base h₀ : Heap} {L : Addr} {m : Str → Option Value} {s : Shared} {Q E : Value → Shared → Prop} {news rest : List (Addr × Obj)}
theorem wpAny_tk {X : Type} {M : Model} {A : Around} {t : Sem X} {Q : X → Shared → Prop} {E : Value → Shared → Prop} {s : Shared} (b : Nat) (hb : b ≤ s.toks) (h : wpAny M A t (fun a s' => b ≤ s'.toks → Q a s') (fun e s' => b ≤ s'.toks → E e s') s) : wpAny M A t Q E s :=
  wpAny_mono (wpAny_toks hb h) (fun _ _ x => x.2 x.1) (fun _ _ x => x.2 x.1)
theorem Con.use0T (C : Con prog w p loose mean mg mb f vs n H [] P)
    (B : Below A₀ base outer h₀) (F : Fr h₀ L s.heap m) (X : (hd.heap_39 w.params).In h₀) (T : Top p loose mean mg mb h₀) (hk : cs.kind = .function) (hd : dp + n < recursionLimit) (hu : un + 8 * n < cLine) (hH : H s.heap) (N : News h₀ L s.heap news)
    (h : ∀ r h' tk', s.toks ≤ tk' → Fr h₀ L h' m → News h₀ L h' news → Kept [L] s.heap h' → P s.heap h' r → Q r { s with heap := h', toks := tk' }) :
    wpAny (model prog w) (ktrTop dp un gd cn cs L a ccd cl outer) (call (.ref f) vs) Q E s :=
  wpAny_tk s.toks (Nat.le_refl _) (wpAny_mono (C.use0 (E := E) (Q := fun a s' => s.toks ≤ s'.toks → Q a s') B F X T hk hd hu hH N fun r h' tk' F' N' k pp hb => h r h' tk' hb F' N' k pp) (fun _ _ x => x) fun _ _ x _ => x)
theorem ConL.use0T (C : ConL prog w p loose mean mg mb f vs n H led [] P)
    (B : Below A₀ base outer h₀) (F : Fr h₀ L s.heap m) (X : (hd.heap_39 w.params).In h₀) (T : Top p loose mean mg mb h₀) (hk : cs.kind = .function) (hd : dp + n < recursionLimit) (hu : un + 8 * n < cLine) (hH : H s.heap) (N : News h₀ L s.heap news) (hN : ∀ q ∈ led, q ∈ news)
    (h : ∀ r h' tk', s.toks ≤ tk' → Fr h₀ L h' m → News h₀ L h' news → Kept [L] s.heap h' → P s.heap h' r → Q r { s with heap := h', toks := tk' }) :
    wpAny (model prog w) (ktrTop dp un gd cn cs L a ccd cl outer) (call (.ref f) vs) Q E s :=
  wpAny_tk s.toks (Nat.le_refl _) (wpAny_mono (C.use0 (E := E) (Q := fun a s' => s.toks ≤ s'.toks → Q a s') B F X T hk hd hu hH N hN fun r h' tk' F' N' k pp hb => h r h' tk' hb F' N' k pp) (fun _ _ x => x) fun _ _ x _ => x)
end
section
variable {prog : Program} {w : World} {A : Around} {E : Value → Shared → Prop} {s : Shared} {env : Env} {h₀ : Heap} {target : Expr} {body orelse : List Stmt} {Q : Flow → Shared → Prop}
/-- what is left of a loop over xs, with tokens from b on -/
def ItemsT (prog : Program) (w : World) (A : Around) (E : Value → Shared → Prop) (h₀ : Heap) (env : Env) (target : Expr) (body orelse : List Stmt) (Q : Flow → Shared → Prop) (s : Shared) (b : Nat) (ws : List (Addr × String)) (keep : List (Addr × Obj)) : List Itm → (Str → Option Value) → List (Addr × Obj) → Prop
  | [], m, news => ∀ h tk, b ≤ tk → Fr h₀ env.locals h m → News h₀ env.locals h news → wpAny (model prog w) A (execs orelse env) Q E { s with heap := h, toks := tk }
  | a :: r, m, news => ∀ v h tk, b ≤ tk → a.Is v h → Fr h₀ env.locals h m → AllObj ws (fun its => News h₀ env.locals h (its ++ news) →
      wpAny (model prog w) A (assign target env v) (fun _ s₂ => wpAny (model prog w) A (execs body env) (UnrPostW h₀ env.locals { s with heap := h, toks := tk } its (fun m' n' => SubL keep n' ∧ ItemsT prog w A E h₀ env target body orelse Q s b ws keep r m' n') Q) E s₂) E { s with heap := h, toks := tk })
theorem ItemsT.zero {b : Nat} {ws : List (Addr × String)} {keep : List (Addr × Obj)} {m : Str → Option Value} {news : List (Addr × Obj)} (h : ∀ h tk, b ≤ tk → Fr h₀ env.locals h m → News h₀ env.locals h news → wpAny (model prog w) A (execs orelse env) Q E { s with heap := h, toks := tk }) :
    ItemsT prog w A E h₀ env target body orelse Q s b ws keep [] m news := h
theorem ItemsT.val {b : Nat} {ws : List (Addr × String)} {keep : List (Addr × Obj)} {v : Value} {r : List Itm} {m : Str → Option Value} {news : List (Addr × Obj)}
    (h : ∀ h tk, b ≤ tk → Fr h₀ env.locals h m → AllObj ws (fun its => News h₀ env.locals h (its ++ news) →
      wpAny (model prog w) A (assign target env v) (fun _ s₂ => wpAny (model prog w) A (execs body env) (UnrPostW h₀ env.locals { s with heap := h, toks := tk } its (fun m' n' => SubL keep n' ∧ ItemsT prog w A E h₀ env target body orelse Q s b ws keep r m' n') Q) E s₂) E { s with heap := h, toks := tk })) :
    ItemsT prog w A E h₀ env target body orelse Q s b ws keep (.val v :: r) m news := by
  intro u h' tk hb e F
  have e' : u = v := e
  subst e'
  exact h h' tk hb F
theorem ItemsT.pair {b : Nat} {ws : List (Addr × String)} {keep : List (Addr × Obj)} {f : Tok → Value} {x : Value} {r : List Itm} {m : Str → Option Value} {news : List (Addr × Obj)}
    (h : ∀ T t h tk, b ≤ tk → IsTup h T #[f t, x] → Fr h₀ env.locals h m → AllObj ws (fun its => News h₀ env.locals h (its ++ news) →
      wpAny (model prog w) A (assign target env (.ref T)) (fun _ s₂ => wpAny (model prog w) A (execs body env) (UnrPostW h₀ env.locals { s with heap := h, toks := tk } its (fun m' n' => SubL keep n' ∧ ItemsT prog w A E h₀ env target body orelse Q s b ws keep r m' n') Q) E s₂) E { s with heap := h, toks := tk })) :
    ItemsT prog w A E h₀ env target body orelse Q s b ws keep (.pair f x :: r) m news := by
  intro u h' tk hb e F
  obtain ⟨T, t, e, ht⟩ := e
  subst e
  exact h T t h' tk hb ht F
theorem restT_weak {b : Nat} {ws : List (Addr × String)} {keep : List (Addr × Obj)} {xs : List Itm} {m m' : Str → Option Value} {n n' : List (Addr × Obj)}
    (h : ItemsT prog w A E h₀ env target body orelse Q s b ws keep xs m' n') (em : ∀ z, m z = m' z) (en : ∀ p ∈ n', p ∈ n) : ItemsT prog w A E h₀ env target body orelse Q s b ws keep xs m n := by
  rw [show m = m' from funext em]
  cases xs with
  | nil => exact fun h' tk hb F N => h h' tk hb F (news_sub N en)
  | cons a r => exact fun v h' tk hb ha F => allObj_mono (fun its k N => k (news_sub N fun p hp => (List.mem_append.mp hp).elim (fun q => List.mem_append_left _ q) fun q => List.mem_append_right _ (en p q))) (h v h' tk hb ha F)
theorem fr_off {L : Addr} {h h' : Heap} {m : Str → Option Value} {news : List (Addr × Obj)} {wr : List Addr} (F : Fr h₀ L h m) (N : News h₀ L h news) (hLw : L ∉ wr) (hwr : ∀ b ∈ wr, h₀.get? b = none) (hnw : ∀ p ∈ news, p.1 ∉ wr)
    (hk : ∀ b o, b ∉ wr → h.get? b = some o → h'.get? b = some o) : Fr h₀ L h' m ∧ News h₀ L h' news :=
  ⟨⟨F.ns.at' fun o e => hk _ o hLw e, fun b o e => hk b o (fun hb => by rw [hwr b hb] at e; cases e) (F.keep b o e), F.above⟩, fun p hp => ⟨hk _ _ (hnw p hp) (N p hp).1, (N p hp).2⟩⟩
theorem loopT_core {I : Addr} {fp wr : List Addr} {n b : Nat} {P Md : Nat → Value → Heap → Prop} {St : Nat → Heap → Prop} {ws : List (Addr × String)} {keep : List (Addr × Obj)} {xs : List Itm}
    (W : KTurns prog w A target I fp wr n P Md St) (hn : n = xs.length) (hP : ∀ i v h, P i v h → ∃ a, xs[i]? = some a ∧ a.Is v h)
    (hobj : ∀ i h, St i h → ∃ its, Objs ws its ∧ ∀ p ∈ its, h.get? p.1 = some p.2)
    (hws : ∀ b ∈ ws.map (·.1), b ∈ fp ∧ h₀.get? b = none) (hwr : ∀ b ∈ wr, b ∈ ws.map (·.1))
    (hfp : ∀ b ∈ fp, b ∈ ws.map (·.1) ∨ ∃ o, (b, o) ∈ keep) (hL : env.locals ∉ fp) :
    ∀ k i m news h tk, n - i = k → i ≤ n → b ≤ tk → St i h → Fr h₀ env.locals h m → News h₀ env.locals h news → (∀ p ∈ news, p.1 ∉ wr) → SubL keep news →
      ItemsT prog w A E h₀ env target body orelse Q s b ws keep (xs.drop i) m news → LoopE prog w A env target body orelse Q E (.ref I) { s with heap := h, toks := tk } := by
  have hLw : env.locals ∉ wr := fun q => hL (W.sub _ q)
  have hw0 : ∀ c ∈ wr, h₀.get? c = none := fun c hc => (hws c (hwr c hc)).2
  intro k
  induction k with
  | zero =>
    intro i m news h tk hk hi hb st F N hnw hkeep R
    have e : i = n := by omega
    subst e
    rw [List.drop_eq_nil_of_le (Nat.le_of_eq hn.symm)] at R
    refine LoopE.turn (wpAny_tk b hb (W.done _ _ _ st fun h' tk' hk' hb' => ?_))
    obtain ⟨F', N'⟩ := fr_off F N hLw hw0 hnw hk'
    exact R h' tk' hb' F' N'
  | succ k ih =>
    intro i m news h tk hk hi hb st F N hnw hkeep R
    have hlt : i < n := by omega
    have hlt' : i < xs.length := hn ▸ hlt
    refine LoopE.turn (wpAny_tk b hb (wpAny_mono (W.item i _ (fun r s₁ => b ≤ s₁.toks → _) E hlt st fun v h₁ tk₁ hMd hk₁ hb₁ => ?_) (fun _ _ x => x) fun _ _ x _ => x))
    dsimp only
    refine W.go i v _ _ _ hMd fun h₂ hPv st₂ hk₂ => ?_
    obtain ⟨F₂, N₂⟩ := fr_off F N hLw hw0 hnw fun c o hc x => hk₂ c o hc (hk₁ c o hc x)
    obtain ⟨a, ha, hav⟩ := hP i v h₂ hPv
    obtain ⟨its, hits, hval⟩ := hobj (i + 1) h₂ st₂
    have hmap := hits.map
    have hdrop : xs.drop i = a :: xs.drop (i + 1) := by
      rw [List.drop_eq_getElem_cons hlt']
      congr 1
      exact Option.some.inj ((List.getElem?_eq_getElem hlt').symm.trans ha)
    rw [hdrop] at R
    have N₃ : News h₀ env.locals h₂ (its ++ news) := fun p hp => by
      rcases List.mem_append.mp hp with hp | hp
      · have h1 : p.1 ∈ ws.map (·.1) := by rw [← hmap]; exact List.mem_map.mpr ⟨p, hp, rfl⟩
        exact ⟨hval p hp, fun e => hL (e ▸ (hws _ h1).1), (hws _ h1).2⟩
      · exact N₂ _ hp
    refine wpAny_mono (wpAny_toks (b := b) hb₁ ((R v h₂ tk₁ hb₁ hav F₂).at hits N₃)) (fun _ s₂ h₂' => wpAny_mono (wpAny_toks h₂'.1 h₂'.2) (fun f s₃ q => ?_) fun _ _ x => x.2) fun _ _ x => x.2
    obtain ⟨hb₃, q⟩ := q
    have fin : UnrEndW h₀ env.locals { s with heap := h₂, toks := tk₁ } its (fun m' n' => SubL keep n' ∧ ItemsT prog w A E h₀ env target body orelse Q s b ws keep (xs.drop (i + 1)) m' n') s₃ →
        LoopE prog w A env target body orelse Q E (.ref I) s₃ := by
      rintro ⟨h', tk', m', news', rfl, F', N', ho, hk', r⟩
      refine ih (i + 1) m' news' h' tk' (by omega) hlt hb₃ ?_ F' (fun p hp => N' p (List.mem_append_right _ hp)) ?_ hk' r
      · refine W.frame _ _ _ st₂ fun c hc o e => ?_
        rcases hfp c hc with h3 | ⟨o', h3⟩
        · have h4 : c ∈ its.map (·.1) := by rw [hmap]; exact h3
          obtain ⟨q, hq, rfl⟩ := List.mem_map.mp h4
          rw [(N' q (List.mem_append_left _ hq)).1, ← hval q hq, e]
        · have h4 := (N₂ _ (hkeep.mem _ h3)).1
          have h5 := (N' _ (List.mem_append_right _ (hk'.mem _ h3))).1
          rw [h5, ← h4, e]
      · intro p hp hI
        have h4 : p.1 ∈ its.map (·.1) := by rw [hmap]; exact hwr _ hI
        obtain ⟨q, hq, e⟩ := List.mem_map.mp h4
        exact ho p hp q hq e.symm
    cases f with
    | ret v => exact q
    | brk => exact q
    | next => exact fin q
    | cont => exact fin q
theorem iter_listT {ax : Addr} {lo : Obj} {vs : List Value} {n : Nat} {m₀ : Str → Option Value} {news : List (Addr × Obj)}
    (hh : A.handled = none) (F : Fr h₀ env.locals s.heap m₀) (N : News h₀ env.locals s.heap news) (hm : (ax, lo) ∈ news) (hc : lo.cls = .type "list") (hd : lo.data = .seq vs.toArray n)
    (rest₀ : ∀ I : Addr, (∀ p ∈ news, p.1 < I) → ItemsT prog w A E h₀ env target body orelse Q s s.toks [(I, "list_iterator")] [(ax, lo)] (vs.map .val) m₀ news) :
    wpAny (model prog w) A (pyIter (.ref ax)) (fun it s₂ => LoopE prog w A env target body orelse Q E it s₂) E s := by
  have hax := N _ hm
  have hl : s.heap.IsList ax vs.toArray := ⟨lo, hax.1, hc, n, hd⟩
  have hne : ax ≠ s.heap.objs.size := Nat.ne_of_lt (Heap.lt_size hax.1)
  refine wpAny_pyIter_list hl ?_
  refine loopT_core (b := s.toks) (KTurns.ofWalks (Walks.list hh s.heap.objs.size ax hne vs.toArray) fun i v s Q E st q => letGo_listiter st.1 q) (xs := vs.map .val) (ws := [(s.heap.objs.size, "list_iterator")]) (keep := [(ax, lo)]) (by simp) (fun i v h hp => ⟨.val v, ?_, rfl⟩) (fun i h st => ?_) (fun b hb => ?_) (fun b hb => by simpa using hb) (fun b hb => ?_) ?_ _ 0 m₀ news _ s.toks rfl (Nat.zero_le _) (Nat.le_refl _) ?_ (F.push _) (fun p hp => ⟨Heap.get?_push_of_some _ (N p hp).1, (N p hp).2⟩) (fun p hp hI => ?_) (And.intro hm trivial) (rest₀ _ fun p hp => Heap.lt_size (N p hp).1)
  · have hp' : vs.toArray[i]? = some v := hp
    simpa using hp'
  · obtain ⟨it, hit, hic, _⟩ := st.1
    exact ⟨[(s.heap.objs.size, it)], ⟨⟨rfl, hic⟩, trivial⟩, fun p hp => by rw [List.mem_singleton.mp hp]; exact hit⟩
  · have hb' : b = s.heap.objs.size := by simpa using hb
    rw [hb']
    exact ⟨List.mem_cons_self .., next_is_new F⟩
  · have hb' : b = s.heap.objs.size ∨ b = ax := by simpa using hb
    rcases hb' with e | e
    · exact .inl (by simp [e])
    · exact .inr ⟨lo, by simp [e]⟩
  · intro hI
    rcases List.mem_cons.mp hI with e | hI
    · exact absurd F.ns.lt (e ▸ Nat.lt_irrefl _)
    · exact hax.2.1 (List.mem_singleton.mp hI).symm
  · exact ⟨⟨_, Heap.get?_push_size _ rfl, rfl, rfl⟩, hl.at fun o e => Heap.get?_push_of_some _ e⟩
  · exact absurd (Heap.lt_size (N p hp).1) ((List.mem_singleton.mp hI) ▸ Nat.lt_irrefl _)
end

theorem offTE : True := by
  w_top off
  trivial
section
variable {prog : Program} {w : World} {A : Around} {E : Value → Shared → Prop} {s : Shared}
def enumObj (it : Addr) (i : Int) (old : Value) : Obj := { cls := .type "enumerate", data := .fields #[.none, .bool false, .ref it, rawInt i, .none, old] }
/-- the next of an enumerate over an ascii str, with its tokens -/
theorem enum_nextS {e it : Addr} {x : Str} {t : Tok} {i c : Nat} {old : Value} {Q : Value → Shared → Prop}
    (he : IsEnum s.heap e it i old) (hst : s.heap.IsStrIter it "str_ascii_iterator" x t i) (hx : x.cps[i]? = some c) (hne : e ≠ it)
    (hQ : ∀ h', IsEnumOut h' e it ((i : Int) + 1) (.str ⟨#[c]⟩ s.toks) s.heap.objs.size → h'.IsStrIter it "str_ascii_iterator" x t (i + 1) →
      h'.get? s.heap.objs.size = some { cls := .type "tuple", data := .seq #[.int i (s.toks + 1), .str ⟨#[c]⟩ s.toks] } →
      (∀ b o, b ≠ e → b ≠ it → s.heap.get? b = some o → h'.get? b = some o) → Q (.ref s.heap.objs.size) { s with heap := h', toks := s.toks + 2 }) :
    wpAny (model prog w) A (Builtin.«enumerate.__next__» ⟨[.ref e], []⟩) (fun fin s' => ∃ v, fin = .done (.ret v) ∧ Q v s') E s := by
  obtain ⟨hp, g, d, tk, os⟩ := s
  have hel : e < hp.objs.size := Heap.lt_size he
  have hil : it < hp.objs.size := by obtain ⟨_, y, _⟩ := hst; exact Heap.lt_size y
  show wpAny _ _ (field (.ref e) 2 >>= _) _ _ _
  refine wpAny_bind (wpAny_field he rfl (x := .ref it) rfl (wpAny_bind (wpAny_nextOf_ascii_item hst hx fun h₁ hi₁ hs₁ => ?_)))
  replace hs₁ : Heap.SameBut it hp h₁ := hs₁
  have he₁ : IsEnum h₁ e it i old := (hs₁.2 e hne).trans he
  show wpAny _ _ (field (.ref e) 3 >>= _) _ _ ⟨h₁, g, d, tk + 1, os⟩
  refine wpAny_bind (wpAny_field he₁ rfl (x := rawInt i) rfl ?_)
  show wpAny _ _ (field (.ref e) 4 >>= _) _ _ ⟨h₁, g, d, tk + 1, os⟩
  refine wpAny_bind (wpAny_field he₁ rfl (x := .none) rfl ?_)
  show wpAny _ _ (mkInt i >>= _) _ _ ⟨h₁, g, d, tk + 1, os⟩
  refine wpAny_bind (wpAny_mkInt ?_)
  show wpAny _ _ (setField (.ref e) 3 (rawInt ((i : Int) + 1)) >>= _) _ _ ⟨h₁, g, d, tk + 2, os⟩
  refine wpAny_bind (wpAny_setField_rec he₁ (by simp) fun h₂ he₂ hs₂ => ?_)
  replace hs₂ : Heap.SameBut e h₁ h₂ := hs₂
  replace he₂ : IsEnum h₂ e it ((i : Int) + 1) old := he₂
  show wpAny _ _ (setField (.ref e) 4 .none >>= _) _ _ ⟨h₂, g, d, tk + 2, os⟩
  refine wpAny_bind (wpAny_setField_rec he₂ (by simp) fun h₃ he₃ hs₃ => ?_)
  replace hs₃ : Heap.SameBut e h₂ h₃ := hs₃
  replace he₃ : IsEnum h₃ e it ((i : Int) + 1) old := he₃
  show wpAny _ _ (newTuple [.int i (tk + 1), .str ⟨#[c]⟩ tk] >>= _) _ _ ⟨h₃, g, d, tk + 2, os⟩
  refine wpAny_bind (wpAny_newTuple ?_)
  have hz : h₃.objs.size = hp.objs.size := by rw [hs₃.1, hs₂.1, hs₁.1]
  have he₄ : IsEnum (h₃.push { cls := .type "tuple", data := .seq #[.int i (tk + 1), .str ⟨#[c]⟩ tk] }) e it ((i : Int) + 1) old := Heap.get?_push_of_some _ he₃
  have ht₄ : (h₃.push { cls := .type "tuple", data := .seq #[.int i (tk + 1), .str ⟨#[c]⟩ tk] }).get? hp.objs.size = some { cls := .type "tuple", data := .seq #[.int i (tk + 1), .str ⟨#[c]⟩ tk] } := by
    rw [← hz]; exact Heap.get?_push_size _ rfl
  have hk₄ : ∀ b o, b ≠ e → b ≠ it → hp.get? b = some o → (h₃.push { cls := .type "tuple", data := .seq #[.int i (tk + 1), .str ⟨#[c]⟩ tk] }).get? b = some o := fun b o hb hi y =>
    Heap.get?_push_of_some _ (hs₃.extBut b o hb (hs₂.extBut b o hb (hs₁.extBut b o hi y)))
  have hi₄ : (h₃.push { cls := .type "tuple", data := .seq #[.int i (tk + 1), .str ⟨#[c]⟩ tk] }).IsStrIter it "str_ascii_iterator" x t (i + 1) := by
    obtain ⟨o, y, r⟩ := hi₁
    exact ⟨o, Heap.get?_push_of_some _ (hs₃.extBut _ o (Ne.symm hne) (hs₂.extBut _ o (Ne.symm hne) y)), r⟩
  rw [hz]
  generalize (h₃.push { cls := .type "tuple", data := .seq #[.int i (tk + 1), .str ⟨#[c]⟩ tk] }) = h₄ at he₄ ht₄ hk₄ hi₄
  show wpAny _ _ (Builtin.SmallTypes.ownedTupleIsFree (.ref e) >>= _) _ _ ⟨h₄, g, d, tk + 2, os⟩
  refine wpAny_bind ?_
  unfold Builtin.SmallTypes.ownedTupleIsFree
  refine wpAny_bind (wpAny_field he₄ rfl (x := .none) rfl (wpAny_pure ?_))
  simp only [if_true]
  refine wpAny_bind (wpAny_rule (wpAny_bind (wpAny_field he₄ rfl (x := old) rfl (wpAny_bind (wpAny_setField_rec he₄ (by simp) fun h₅ he₅ hs₅ => ?_)))))
  replace hs₅ : Heap.SameBut e h₄ h₅ := hs₅
  replace he₅ : IsEnum h₅ e it ((i : Int) + 1) (.str ⟨#[c]⟩ tk) := he₅
  show wpAny _ _ (Builtin.SmallTypes.ownedTupleHandOut (.ref e) (.ref hp.objs.size) >>= _) _ _ ⟨h₅, g, d, tk + 2, os⟩
  refine wpAny_bind ?_
  unfold Builtin.SmallTypes.ownedTupleHandOut
  refine wpAny_bind (wpAny_setField_rec he₅ (by simp) fun h₆ he₆ hs₆ => ?_)
  replace hs₆ : Heap.SameBut e h₅ h₆ := hs₆
  replace he₆ : IsEnumOut h₆ e it ((i : Int) + 1) (.str ⟨#[c]⟩ tk) hp.objs.size := he₆
  refine wpAny_setField_rec he₆ (by simp) fun h₇ he₇ hs₇ => ?_
  replace hs₇ : Heap.SameBut e h₆ h₇ := hs₇
  replace he₇ : IsEnumOut h₇ e it ((i : Int) + 1) (.str ⟨#[c]⟩ tk) hp.objs.size := he₇
  have off : ∀ b o, b ≠ e → h₄.get? b = some o → h₇.get? b = some o := fun b o hb y => hs₇.extBut b o hb (hs₆.extBut b o hb (hs₅.extBut b o hb y))
  refine wpAny_bind (wpAny_letGo (wpAny_pure ⟨_, rfl, hQ h₇ he₇ ?_ (off _ _ (Nat.ne_of_gt hel) ht₄) fun b o hb hi y => off b o hb (hk₄ b o hb hi y)⟩))
  obtain ⟨o, y, r⟩ := hi₄
  exact ⟨o, off _ _ (Ne.symm hne) y, r⟩
theorem pyNext_enumS {e it : Addr} {x : Str} {t : Tok} {i c : Nat} {old : Value} {Q : Option Value → Shared → Prop}
    (he : IsEnum s.heap e it i old) (hst : s.heap.IsStrIter it "str_ascii_iterator" x t i) (hx : x.cps[i]? = some c) (hne : e ≠ it)
    (hQ : ∀ h', IsEnumOut h' e it ((i : Int) + 1) (.str ⟨#[c]⟩ s.toks) s.heap.objs.size → h'.IsStrIter it "str_ascii_iterator" x t (i + 1) →
      h'.get? s.heap.objs.size = some { cls := .type "tuple", data := .seq #[.int i (s.toks + 1), .str ⟨#[c]⟩ s.toks] } →
      (∀ b o, b ≠ e → b ≠ it → s.heap.get? b = some o → h'.get? b = some o) → Q (some (.ref s.heap.objs.size)) { s with heap := h', toks := s.toks + 2 }) :
    wpAny (model prog w) A (pyNext (.ref e)) Q E s := by
  have hT : s.TypeIs (.ref e) "enumerate" := ⟨_, he, rfl⟩
  unfold pyNext
  exact wpAny_bind (wpAny_attempt (wpAny_callSpecial?_slot (name := Str.ofString "__next__") hT F.slot_enumerate_next
    (wpAny_call_entry F.slot_enumerate_next hT F.entry_enumerate_next
      (enum_nextS he hst hx hne fun h' a b d k => wpAny_pure (hQ h' a b d k)) (F.args_enumerate_next_1 _))))
end
section
variable {prog : Program} {w : World} {A : Around} {E : Value → Shared → Prop} {s : Shared} {env : Env} {h₀ : Heap} {elts : List Expr} {kk : Nat} {pos : Pos} {body orelse : List Stmt} {Q : Flow → Shared → Prop}
/-- one turn of for .. in enumerate(str) -/
theorem loopE_enumS {e it : Addr} {oi : Obj} {x : Str} {t : Tok} {i c : Nat} {old : Value} {m : Str → Option Value} {news : List (Addr × Obj)} (F : Fr h₀ env.locals s.heap m) (N : News h₀ env.locals s.heap ((e, enumObj it i old) :: (it, oi) :: news))
    (hic : oi.cls = .type "str_ascii_iterator") (hid : oi.data = .fields #[.str x t, .int i 0]) (hx : x.cps[i]? = some c) (hoff : ∀ p ∈ news, p.1 ≠ e ∧ p.1 ≠ it) (hne : e ≠ it)
    (h : ∀ T h' oi' old', IsTup h' T #[.int i (s.toks + 1), .str ⟨#[c]⟩ s.toks] → oi'.cls = .type "str_ascii_iterator" → oi'.data = .fields #[.str x t, .int ((i + 1 : Nat) : Int) 0] →
      Fr h₀ env.locals h' m → News h₀ env.locals h' ((e, enumObj it ((i + 1 : Nat) : Int) old') :: (it, oi') :: news) →
      wpAny (model prog w) A (assign (.Tuple elts kk pos) env (.ref T)) (fun _ s₂ => wpAny (model prog w) A (execs body env) (fun f s₃ => match f with
            | .next | .cont => LoopE prog w A env (.Tuple elts kk pos) body orelse Q E (.ref e) s₃
            | .brk => Q .next s₃
            | .ret v => Q (.ret v) s₃) E s₂) E { s with heap := h', toks := s.toks + 2 }) : LoopE prog w A env (.Tuple elts kk pos) body orelse Q E (.ref e) s := by
  have ne := N _ (.head _)
  have ni := N _ (.tail _ (.head _))
  refine LoopE.turn (pyNext_enumS (i := i) ne.1 ⟨oi, ni.1, hic, hid⟩ hx hne fun h₁ he₁ hi₁ ht₁ hk₁ => ?_)
  dsimp only
  refine wpAny_letOwnedTupleGo_enum he₁ fun h₂ he₂ hs₂ => ?_
  replace hs₂ : Heap.SameBut e h₁ h₂ := hs₂
  have hk₂ : ∀ b o, b ≠ e → b ≠ it → s.heap.get? b = some o → h₂.get? b = some o := fun b o hb hi y => (hs₂.2 b hb).trans (hk₁ b o hb hi y)
  obtain ⟨oi', hi', hc', hd'⟩ := hi₁
  have hTe : s.heap.objs.size ≠ e := Nat.ne_of_gt (Heap.lt_size ne.1)
  obtain ⟨F₂, N₂⟩ := fr_off (wr := [e, it]) F (news_sub N fun p hp => .tail _ (.tail _ hp)) (fun q => by
      rcases List.mem_cons.mp q with q | q
      · exact ne.2.1 q.symm
      · exact ni.2.1 (List.mem_singleton.mp q).symm) (fun b hb => by
      rcases List.mem_cons.mp hb with rfl | hb
      · exact ne.2.2
      · rw [List.mem_singleton.mp hb]; exact ni.2.2) (fun p hp hI => by
      rcases List.mem_cons.mp hI with q | q
      · exact (hoff p hp).1 q
      · exact (hoff p hp).2 (List.mem_singleton.mp q)) fun b o hb y => hk₂ b o (fun q => hb (q ▸ List.mem_cons_self ..)) (fun q => hb (q ▸ List.mem_cons_of_mem _ (List.mem_singleton.mpr rfl))) y
  refine h _ h₂ oi' (.str ⟨#[c]⟩ s.toks) ⟨_, (hs₂.2 _ hTe).trans ht₁, rfl, _, rfl⟩ hc' hd' F₂ fun p hp => ?_
  rcases List.mem_cons.mp hp with rfl | hp
  · exact ⟨he₂, ne.2⟩
  · rcases List.mem_cons.mp hp with rfl | hp
    · exact ⟨(hs₂.2 _ (Ne.symm hne)).trans hi', ni.2⟩
    · exact N₂ p hp
/-- enumerate(str) in a for -/
theorem enum_strT {x : Str} {t : Tok} {m : Str → Option Value} {news : List (Addr × Obj)} (ha : strIterType x = "str_ascii_iterator") (F : Fr h₀ env.locals s.heap m) (N : News h₀ env.locals s.heap news)
    (h : ∀ I h' oi old, I + 1 ≠ I → (∀ p ∈ news, p.1 < I) → oi.cls = .type "str_ascii_iterator" → oi.data = .fields #[.str x t, .int ((0 : Nat) : Int) 0] → Fr h₀ env.locals h' m →
      News h₀ env.locals h' ((I + 1, enumObj I ((0 : Nat) : Int) old) :: (I, oi) :: news) → LoopE prog w A env (.Tuple elts kk pos) body orelse Q E (.ref (I + 1)) { s with heap := h' }) :
    wpAny (model prog w) A (call (.type "enumerate") [.str x t]) (fun xv s₁ => wpAny (model prog w) A (pyIter xv) (fun it s₂ => LoopE prog w A env (.Tuple elts kk pos) body orelse Q E it s₂) E s₁) E s := by
  refine call_enumerate_str fun h' hE hI hsz hk => wpAny_pyIter_enum hE ?_
  rw [ha] at hI
  obtain ⟨oi, hi, hc, hd⟩ := hI
  have hLs : env.locals < s.heap.objs.size := F.ns.lt
  refine h s.heap.objs.size h' oi .none (Nat.succ_ne_self _) (fun p hp => Heap.lt_size (N p hp).1) hc hd (F.keeps hk) fun p hp => ?_
  rcases List.mem_cons.mp hp with rfl | hp
  · exact ⟨hE, fun q => ktu_ne 1 hLs q.symm, ktu_new F (Nat.le_add_right _ _)⟩
  · rcases List.mem_cons.mp hp with rfl | hp
    · exact ⟨hi, fun q => Nat.ne_of_lt hLs q.symm, ktu_new F (Nat.le_refl _)⟩
    · exact N.grown hk p hp
theorem enum_listT {l : Addr} {lo : Obj} {vs : List Value} {n : Nat} {m₀ : Str → Option Value} {news : List (Addr × Obj)}
    (hh : A.handled = none) (F : Fr h₀ env.locals s.heap m₀) (N : News h₀ env.locals s.heap news) (hm : (l, lo) ∈ news) (hc : lo.cls = .type "list") (hd : lo.data = .seq vs.toArray n)
    (rest₀ : ∀ I : Addr, (∀ p ∈ news, p.1 < I) → ItemsT prog w A E h₀ env (.Tuple elts kk pos) body orelse Q s s.toks [(I + 1, "enumerate"), (I, "list_iterator")] [(l, lo)] (enumItems 0 vs) m₀ news) :
    wpAny (model prog w) A (call (.type "enumerate") [.ref l]) (fun xv s₁ => wpAny (model prog w) A (pyIter xv) (fun it s₂ => LoopE prog w A env (.Tuple elts kk pos) body orelse Q E it s₂) E s₁) E s := by
  have hax := N _ hm
  have hl : s.heap.IsList l vs.toArray := ⟨lo, hax.1, hc, n, hd⟩
  have hlt : l < s.heap.objs.size := Heap.lt_size hax.1
  have hLs : env.locals < s.heap.objs.size := F.ns.lt
  refine call_enumerate_list hl fun h' hE hI hsz hk => wpAny_pyIter_enum hE ?_
  refine loopT_core (b := s.toks) (xs := enumItems 0 vs) (KTurns.ofWalksU (WalksT.enumerate hh (s.heap.objs.size + 1) s.heap.objs.size l (Nat.succ_ne_self _) (ktu_ne 1 hlt) (Nat.ne_of_lt hlt) vs.toArray).toU)
    (ws := [(s.heap.objs.size + 1, "enumerate"), (s.heap.objs.size, "list_iterator")]) (keep := [(l, lo)]) (by simp [enumItems_length]) ?_ ?_ ?_ ?_ ?_ ?_ _ 0 m₀ news _ s.toks rfl (Nat.zero_le _) (Nat.le_refl _) ?_ (F.keeps hk) (N.grown hk) ?_ (And.intro hm trivial) (rest₀ _ fun p hp => Heap.lt_size (N p hp).1)
  · rintro i v h ⟨T, vals, rfl, ⟨t, x, hx, rfl⟩, hT⟩
    refine ⟨_, enumItems_get vs 0 i (v := x) (by simpa using hx), T, t, rfl, ?_⟩
    show IsTup h T #[.int ((0 + i : Nat) : Int) t, x]
    rw [Nat.zero_add]
    exact hT
  · rintro i h ⟨⟨old, he⟩, ⟨oi, hoi, hic, _⟩, _⟩
    refine ⟨[(s.heap.objs.size + 1, enumObj s.heap.objs.size i old), (s.heap.objs.size, oi)], ⟨⟨rfl, rfl⟩, ⟨rfl, hic⟩, trivial⟩, fun p hp => ?_⟩
    rcases List.mem_cons.mp hp with rfl | hp
    · exact he
    · rw [List.mem_singleton.mp hp]; exact hoi
  · intro b hb
    have hb' : b = s.heap.objs.size + 1 ∨ b = s.heap.objs.size := by simpa using hb
    rcases hb' with rfl | rfl
    · exact ⟨by simp, ktu_new F (Nat.le_add_right _ _)⟩
    · exact ⟨by simp, ktu_new F (Nat.le_refl _)⟩
  · intro b hb
    simpa using hb
  · intro b hb
    have hb' : b = s.heap.objs.size + 1 ∨ b = s.heap.objs.size ∨ b = l := by simpa using hb
    rcases hb' with rfl | rfl | rfl
    · exact .inl (by simp)
    · exact .inl (by simp)
    · exact .inr ⟨lo, by simp⟩
  · intro hI'
    have hb' : env.locals = s.heap.objs.size + 1 ∨ env.locals = s.heap.objs.size ∨ env.locals = l := by simpa using hI'
    rcases hb' with e | e | e
    · exact ktu_ne 1 hLs e
    · exact Nat.ne_of_lt hLs e
    · exact hax.2.1 e.symm
  · exact ⟨⟨.none, hE⟩, hI, hl.at fun o e => hk l o e⟩
  · intro p hp hI'
    have hb' : p.1 = s.heap.objs.size + 1 ∨ p.1 = s.heap.objs.size := by simpa using hI'
    have hlp := Heap.lt_size (N p hp).1
    rcases hb' with e | e
    · exact ktu_ne 1 hlp e
    · exact Nat.ne_of_lt hlp e
theorem gen_tk {α : Type} {M : Model} {A : Around} {t : Sem α} {E : Value → Shared → Prop} {Q : α → Shared → Prop} {h : Heap} {g : Array GenState} {d : Drawn} {X : Nat} {os : OsState} (k : ∀ tk, tk = X → wpAny M A t Q E ⟨h, g, d, tk, os⟩) : wpAny M A t Q E ⟨h, g, d, X, os⟩ := k X rfl
theorem is_str_same {prog : Program} {w : World} {A : Around} {E : Value → Shared → Prop} {s : Shared} {y z : Str} {u v : Nat} {Q : Value → Shared → Prop} {h₀ : Heap} {L : Addr} {m : Str → Option Value} (X : (hd.heap_39 w.params).In h₀) (F : Fr h₀ L s.heap m)
    (h0 : u ≠ 0 ∧ v ≠ 0) (_ : y = z) (h : ∀ b, Q (.bool b) s) : wpAny (model prog w) A (compareOp .Is (.str y u) (.str z v)) Q E s := by
  show wpAny _ A (do return .bool (← isSame _ _)) Q E s
  exact wpAny_bind (wpAny_isSame_str (by simp [h0.1, h0.2]) (nb39 fun a o e => F.keep _ _ (X a o e)) fun b => wpAny_pure (h b))
theorem is_str_other {M : Model} {A : Around} {E : Value → Shared → Prop} {s : Shared} {y z : Str} {u v : Nat} {Q : Value → Shared → Prop} (h0 : u ≠ 0 ∧ v ≠ 0) (hne : u ≠ v) (hyz : (y == z) = false) (h : Q (.bool false) s) : wpAny M A (compareOp .Is (.str y u) (.str z v)) Q E s := by
  show wpAny _ A (do return .bool (← isSame _ _)) Q E s
  rw [isSame_str_other y z u v (by simp [h0.1, h0.2]) (by simpa using hne) hyz]
  exact wpAny_bind (wpAny_pure (wpAny_pure h))
end

theorem offIX : True := by
  w_top off
  trivial
section
variable {prog : Program} {w : World} {p : Program} {loose : List Str} {mean : ExcName → Option Value} {mg mb : Str → Option Value}
def wordN : Nat → Str
  | 0 => "OPTIMIZED"
  | 1 => "NEWLOCALS"
  | _ => "VARARGS"
section
local macro_rules | `(tactic| walk_at "exec For") => `(tactic| (k_here; (rename Fr _ _ _ _ => lF'); (with_unfolding_all refine' For_else lF' ?_; k_whole)))
local macro_rules | `(tactic| walk_at "call type:enumerate") => `(tactic| (k_here; (rename Fr _ _ _ _ => lF'); (rename News _ _ _ _ => lN'); (with_unfolding_all refine enum_listT (news := [_]) (by rfl) lF' lN' (.head _) rfl rfl ?_); clear lF' lN'; intro I' l1; k_lt l1; dsimp only [enumItems]))
local macro_rules | `(tactic| walk_at "ItemsT") => `(tactic| ((with_unfolding_all refine ItemsT.pair (fun T' t' h' tk' hb' hT' F' => ?_)); (try dsimp only at hT'); ktu_objs))
local macro_rules | `(tactic| walk_at "compareOp Is str str") => `(tactic| (k_dflt (refine is_str_same (by assumption) (by assumption) (by assumption) (by rfl) (fun b => ?_); cases b)))
local macro_rules | `(tactic| walk_at "compareOp Is str str") => `(tactic| (k_dflt (refine is_str_other (by assumption) (by assumption) (by decide +kernel) ?_)))
local macro_rules | `(tactic| walk_at "none 1") => `(tactic| fail)
set_option maxHeartbeats 8000000 in
theorem c_idxL {W : Addr} {e : Nat} {k0 k1 k2 u : Nat} {j : Nat} (hj : j < 3) (p0 : k0 ≠ 0 ∧ u ≠ 0) (p1 : k1 ≠ 0 ∧ u ≠ 0) (p2 : k2 ≠ 0 ∧ u ≠ 0) (d0 : k0 ≠ u) (d1 : k1 ≠ u) :
    ConL prog w p loose mean mg mb 175 [.ref W, .str (wordN j) u] 8 (fun _ => True) [(W, lstObj [.str (wordN 0) k0, .str (wordN 1) k1, .str (wordN 2) k2] e)] [] (fun _ _ r => ∃ t, r = .int (j : Int) t) := by
  intro dp un gd cn cs a ccd cl outer A₀ base h₀ L m s Q E B F X T' hk hdp hun _ N hret
  refine wpAny_call ?_
  have N0 := N
  rcases j with _ | _ | _ | j
  rotate_left 3
  · omega
  all_goals (
    k_dflt (walk_at "my enter")
    intro g L1 h1 FG F1 N1 B1 X1 T1 hG hG' hl1
    (try dsimp only); (try k_lift B1); (try k_fold)
    k_steps
    all_goals (
      rename Fr g _ _ _ => F9
      rename News g _ _ _ => N9
      exact hret _ _ _ (by assumption) (kept_led hG F9 N9 N0 fun q hq => .inr (.tail _ (.tail _ hq))) ⟨_, rfl⟩))
end
section
local macro_rules | `(tactic| walk_at "execs cons") => `(tactic| (k_here; (fail_if_success (fail_if_success k_gentoks)); refine gen_tk ?_; intro tk htk; (try dsimp only at htk)))
local macro_rules | `(tactic| walk_at "exec For") => `(tactic| (k_here; (rename Fr _ _ _ _ => lF'); (with_unfolding_all refine' For_else lF' ?_; k_whole)))
local macro_rules | `(tactic| walk_at "call type:enumerate") => `(tactic| (k_here; k_dflt ((rename Fr _ _ _ _ => lF'); (rename News _ _ _ _ => lN'); (with_unfolding_all refine enum_strT (news := []) (by decide +kernel) lF' lN' ?_); clear lF' lN'; intro I' h' oi' old' e0' l1' hc' hd' F' N')))
local macro_rules | `(tactic| walk_at "LoopE") => `(tactic| (k_here; (rename Fr _ _ _ _ => lF'); (rename News _ _ _ _ => lN'); (with_unfolding_all refine loopE_enumS (news := []) lF' lN' (by assumption) (by assumption) (by rfl) (by exact List.forall_mem_nil _) (by assumption) ?_); clear lF' lN'; intro T' h' oi' old' hT' hc' hd' F' N'))
local macro_rules | `(tactic| walk_at "compareOp Is str str") => `(tactic| (k_dflt (refine is_str_same (by assumption) (by assumption) (by (try dsimp only); constructor <;> omega) (by rfl) (fun b => ?_); cases b)))
local macro_rules | `(tactic| walk_at "compareOp Is str str") => `(tactic| (k_dflt (refine is_str_other (by (try dsimp only); constructor <;> omega) (by (try dsimp only); omega) (by decide +kernel) ?_)))
local macro_rules | `(tactic| walk_at "none 2") => `(tactic| fail)
set_option maxHeartbeats 8000000 in
theorem c_idxS {j : Nat} (hj : j < 2) {t0 u : Nat} {dp un : Nat} {gd : Option (List Code)} {cn : Str} {cs : Scope} {a : Addr} {ccd : Value} {cl : List (Str × Addr)} {outer : List Env} {A₀ : Around} {base h₀ : Heap} {L : Addr} {m : Str → Option Value} {s : Shared} {Q E : Value → Shared → Prop} {news : List (Addr × Obj)}
    (B : Below A₀ base outer h₀) (F : Fr h₀ L s.heap m) (X : (hd.heap_39 w.params).In h₀) (T : Top p loose mean mg mb h₀) (hk : cs.kind = .function) (hdp : dp + 8 < recursionLimit) (hun : un + 8 * 8 < cLine) (hu : 0 < u ∧ u < s.toks) (N : News h₀ L s.heap news)
    (hret : ∀ t h' tk', s.toks ≤ tk' → Fr h₀ L h' m → News h₀ L h' news → Kept [L] s.heap h' → Q (.int (j : Int) t) { s with heap := h', toks := tk' }) :
    wpAny (model prog w) (ktrTop dp un gd cn cs L a ccd cl outer) (call (.ref 175) [.str "km" t0, .str (nmS j) u]) Q E s := by
  refine wpAny_tk s.toks (Nat.le_refl _) (wpAny_mono (E := E) (Q := fun a s' => s.toks ≤ s'.toks → Q a s') ?_ (fun _ _ x => x) fun _ _ x _ => x)
  have hret' : ∀ t h' tk', Fr h₀ L h' m → Kept [L] s.heap h' → s.toks ≤ tk' → Q (.int (j : Int) t) { s with heap := h', toks := tk' } := fun t h' tk' F' k b => hret t h' tk' b F' (k.news N) k
  clear hret N
  obtain ⟨u0, u1⟩ := hu
  refine wpAny_call ?_
  have N0 : News h₀ L s.heap [] := News.nil
  rcases j with _ | _ | j
  rotate_left 2
  · omega
  all_goals (
    k_dflt (walk_at "my enter")
    intro g L1 h1 FG F1 N1 B1 X1 T1 hG hG' hl1
    (try dsimp only); (try k_lift B1); (try k_fold)
    k_steps
    all_goals (
      rename Fr g _ _ _ => F9
      rename News g _ _ _ => N9
      exact hret' _ _ _ (by assumption) (kept_led (led := []) hG F9 N9 N0 fun q hq => nomatch hq) (by assumption)))
end
end

theorem offSP : True := by
  w_top off
  trivial
section
variable {prog : Program} {w : World} {A : Around} {E : Value → Shared → Prop} {s : Shared} {x y : Str} {t u : Tok} {h₀ : Heap} {L : Addr} {m : Str → Option Value} {news : List (Addr × Obj)} {Q : Value → Shared → Prop}
theorem numbered_range : ∀ (l : List Str) (k : Nat), ∀ q ∈ numbered k l, ∃ n : Nat, q.2 = n ∧ k ≤ n ∧ n < k + l.length
  | [], _, _, h => by cases h
  | a :: r, k, q, h => by
    rcases List.mem_cons.mp h with rfl | h
    · exact ⟨k, rfl, Nat.le_refl _, by simp⟩
    · obtain ⟨n, e, h1, h2⟩ := numbered_range r (k + 1) q h
      have e' : (a :: r).length = r.length + 1 := rfl
      exact ⟨n, e, by omega, by omega⟩
theorem split1T (hF : Fr h₀ L s.heap m) (hN : News h₀ L s.heap news) (hy : (y.length == 0) = false)
    (h : ∀ l h' k, l.map (·.1) = Txt.split x y → (∀ q ∈ l, (∃ n : Nat, q.2 = n ∧ s.toks ≤ n ∧ n < k) ∨ q = (x, t)) → s.toks ≤ k → Fr h₀ L h' m → News h₀ L h' ((s.heap.objs.size, lstObj (strValues l) 0) :: news) → (∀ p ∈ news, p.1 < s.heap.objs.size) → Q (.ref s.heap.objs.size) { s with heap := h', toks := k })
    (hsz : x.length + 2 ≤ sizeLine) :
    wpAny (model prog w) A (call (.builtin "str.split") [.str x t, .str y u]) Q E s := by
  have hlt : ∀ p ∈ news, p.1 < s.heap.objs.size := fun p hp => Heap.lt_size (hN p hp).1
  have hn : (PySem.Builtin.Str.partsBetween x (PySem.Builtin.Str.occurrences x y 0 x.length (x.length + 1)) y.length).length ≤ sizeLine := by
    have e1 := StrLaws.occ_length_le x y 0 x.length (x.length + 1)
    rw [length_partsBetween]; omega
  cases h1 : (decide (x.length < y.length) || decide (PySem.Builtin.Str.strKind x < PySem.Builtin.Str.strKind y))
  · cases hf : (PySem.Builtin.Str.occurrences x y 0 x.length (x.length + 1)).isEmpty
    · refine call_meets F.slot_str_split (typeIs_str _ _ _) F.entry_str_split (F.args_str_split_2 _ _) (meets_str_split_sep x y t u h1 hy hf (by omega) hn) ?_
      show wants Q E _ { s with toks := _, heap := s.heap.push (lstObj (strsFrom s.toks (PySem.Builtin.Str.partsBetween x (PySem.Builtin.Str.occurrences x y 0 x.length (x.length + 1)) y.length)) 0) }
      rw [strsFrom_eq]
      exact h (numbered s.toks _) _ _ ((numbered_texts _ _).trans ((if_neg (ne_true_of_eq_false h1)).trans (if_neg (ne_true_of_eq_false hf))).symm) (fun q hq => .inl (numbered_range _ _ q hq)) (Nat.le_add_right _ _) (Fr.pushS hF _) (News.push hF hN _) hlt
    · exact call_meets F.slot_str_split (typeIs_str _ _ _) F.entry_str_split (F.args_str_split_2 _ _) (meets_str_split_not_found x y t u h1 hy hf)
        (h [(x, t)] _ s.toks ((if_neg (ne_true_of_eq_false h1)).trans (if_pos hf)).symm (fun q hq => .inr (List.mem_singleton.mp hq)) (Nat.le_refl _) (Fr.pushS hF _) (News.push hF hN _) hlt)
  · exact call_meets F.slot_str_split (typeIs_str _ _ _) F.entry_str_split (F.args_str_split_2 _ _) (meets_str_split_cannot_occur x y t u h1)
      (h [(x, t)] _ s.toks (if_pos h1).symm (fun q hq => .inr (List.mem_singleton.mp hq)) (Nat.le_refl _) (Fr.pushS hF _) (News.push hF hN _) hlt)
theorem js_of : ∀ (l : List (Str × Tok)) (bits : List Nat) (P : Str → Nat → Prop), l.map (·.1) = bits.map wordN → (∀ q ∈ l, ∃ n : Nat, q.2 = n ∧ P q.1 n) →
    ∃ js : List (Nat × Nat), strValues l = js.map (fun q => Value.str (wordN q.1) q.2) ∧ js.map (·.1) = bits ∧ ∀ q ∈ js, P (wordN q.1) q.2
  | [], [], _, _, _ => ⟨[], rfl, rfl, fun _ h => nomatch h⟩
  | [], _ :: _, _, e, _ => nomatch e
  | _ :: _, [], _, e, _ => nomatch e
  | (x, t) :: r, b :: bs, P, e, h => by
    have e1 : x = wordN b := (List.cons.inj e).1
    have e2 : r.map (·.1) = bs.map wordN := (List.cons.inj e).2
    obtain ⟨js, a1, a2, a3⟩ := js_of r bs P e2 fun q hq => h q (.tail _ hq)
    obtain ⟨n, hn, hp⟩ := h _ (.head _)
    refine ⟨(b, n) :: js, ?_, by rw [List.map_cons, a2], fun q hq => ?_⟩
    · show Value.str x t :: strValues r = Value.str (wordN b) n :: _
      rw [a1, e1]
      exact congrArg (fun z => Value.str (wordN b) z :: _) hn
    · rcases List.mem_cons.mp hq with rfl | hq
      · exact e1 ▸ hp
      · exact a3 q hq
theorem split1W {t : Nat} (bits : List Nat) (hb : Txt.split x y = bits.map wordN) (hF : Fr h₀ L s.heap m) (hN : News h₀ L s.heap news) (hy : (y.length == 0) = false)
    (h : ∀ D (js : List (Nat × Nat)) h' k, js.map (·.1) = bits → (∀ q ∈ js, (s.toks ≤ q.2 ∧ q.2 < k) ∨ (wordN q.1 = x ∧ q.2 = t)) → s.toks ≤ k → Fr h₀ L h' m → News h₀ L h' ((D, lstObj (js.map fun q : Nat × Nat => Value.str (wordN q.1) q.2) 0) :: news) → (∀ p ∈ news, p.1 < D) → Q (.ref D) { s with heap := h', toks := k })
    (hsz : x.length + 2 ≤ sizeLine) :
    wpAny (model prog w) A (call (.builtin "str.split") [.str x t, .str y u]) Q E s := by
  refine split1T hF hN hy (fun l h' k e ht hk F N hlt => ?_) hsz
  obtain ⟨js, a1, a2, a3⟩ := js_of l bits (fun z n => (s.toks ≤ n ∧ n < k) ∨ (z = x ∧ n = t)) (e.trans hb) fun q hq => by
    rcases ht q hq with ⟨n, hn, h1⟩ | rfl
    · exact ⟨n, hn, .inl h1⟩
    · exact ⟨t, rfl, .inr ⟨rfl, rfl⟩⟩
  rw [a1] at N
  exact h _ js h' k a2 a3 hk F N hlt
end
def bitsL : Nat → List Nat
  | 1 => [0]
  | 2 => [1]
  | 3 => [0, 1]
  | 4 => [2]
  | 5 => [0, 2]
  | 6 => [1, 2]
  | _ => [0, 1, 2]
theorem split_words (fl : Nat) (h1 : 1 ≤ fl) (h7 : fl ≤ 7) : Txt.split (wordsS fl) (Str.ofString ", ") = (bitsL fl).map wordN := by
  have h : fl = 1 ∨ fl = 2 ∨ fl = 3 ∨ fl = 4 ∨ fl = 5 ∨ fl = 6 ∨ fl = 7 := by omega
  rcases h with rfl | rfl | rfl | rfl | rfl | rfl | rfl <;> decide +kernel
theorem idx_from {a len : Nat} (h : a ≤ len) : (PySem.Builtin.Str.strSliceIndices (some (a : Int)) none 1 len).length = len - a := by
  have h1 : ¬ ((a : Int) < 0) := by omega
  have e1 : max (0 : Int) (min (a : Int) (len : Int)) = a := by omega
  simp only [PySem.Builtin.Str.strSliceIndices, PySem.sliceRange, h1, if_false, e1, show ((1 : Int) > 0) = True from by simp, if_true]
  by_cases hlt : (a : Int) < len
  · simp only [hlt, if_true, List.length_map, List.length_range]; omega
  · simp only [hlt, if_false]; simp; omega
theorem slice_txt (t f fl : Nat) : Txt.slice (txt t f fl) (some ((t + 4 * f : Nat) : Int)) none = wordsS fl := by
  have hl := txt_len t f fl
  rw [slice_from_eq (b := ((txt t f fl).length : Int)) (by omega) (by omega) rfl]
  have e1 : ((t + 4 * f : Nat) : Int).toNat = t + 4 * f := by omega
  have e2 : (((txt t f fl).length : Int) - ((t + 4 * f : Nat) : Int)).toNat = (codes fl).length := by omega
  rw [e1, e2]
  have e3 : (txt t f fl).cps.toList = (List.replicate t 9 ++ List.replicate (4 * f) 32) ++ codes fl := by simp [txt, txtL]
  rw [e3, List.drop_left' (by simp), List.take_length]
  rfl
section
variable {prog : Program} {w : World} {A : Around} {E : Value → Shared → Prop} {s : Shared} {value slice : Expr} {t : Tok} {h₀ : Heap} {L : Addr} {m : Str → Option Value} {news : List (Addr × Obj)} {Q : Value → Shared → Prop}
/-- text[mark.n:] -/
theorem slice_txtT {a f fl : Nat} {ui : Tok} (h1 : 1 ≤ a + f) (hF : Fr h₀ L s.heap m) (hN : News h₀ L s.heap news) (h : ∀ h', Fr h₀ L h' m → News h₀ L h' news → Q (.str (wordsS fl) s.toks) { s with heap := h', toks := s.toks + 1 })
    (hs : subscripted slice false (.str (txt a f fl) t) (.ref s.heap.objs.size) = operate [.ref s.heap.objs.size, .str (txt a f fl) t] (getItem (.str (txt a f fl) t) (.ref s.heap.objs.size)))
    (ht : ∀ r, letTemporaryGo value (.str (txt a f fl) t) r = pure ()) :
    wpAny (model prog w) A (subscriptTail value slice (.str (txt a f fl) t) (.ref s.heap.objs.size)) Q E { s with heap := s.heap.push { cls := .type "slice", data := .fields #[.int ((a + 4 * f : Nat) : Int) ui, .none, .none] } } := by
  have hl := txt_len a f fl
  have e : (slicePicked (txt a f fl) (some (((a + 4 * f : Nat) : Int), ui)) none none).length = (txt a f fl).length - (a + 4 * f) := idx_from (by omega)
  have q := slice_txt a f fl
  unfold Txt.slice at q
  rw [if_neg (by show ¬ ((slicePicked (txt a f fl) (some (((a + 4 * f : Nat) : Int), ui)) none none).length == (txt a f fl).length) = true; rw [e]; simp; omega)] at q
  have I : ItemOn (model prog w) A E (.str (txt a f fl) t) (.ref s.heap.objs.size) Q { s with heap := s.heap.push { cls := .type "slice", data := .fields #[.int ((a + 4 * f : Nat) : Int) ui, .none, .none] } } := by
    refine ⟨"str", _, F.slot_str_getitem.lookup, typeIs_str _ _ _, wpAny_getItem_str_slice (l := some (((a + 4 * f : Nat) : Int), ui)) (u := none) (st := none) ⟨_, Heap.get?_push_size s.heap (o := { cls := .type "slice", data := .fields #[.int ((a + 4 * f : Nat) : Int) ui, .none, .none] }) rfl, rfl, rfl⟩ rfl ?_⟩
    unfold sliceMade
    rw [if_neg (by rw [e]; simp; omega)]
    show Made.post (.str ⟨((slicePicked (txt a f fl) (some (((a + 4 * f : Nat) : Int), ui)) none none).filterMap ((txt a f fl).cps[·]?)).toArray⟩) _ _
    rw [show (⟨((slicePicked (txt a f fl) (some (((a + 4 * f : Nat) : Int), ui)) none none).filterMap ((txt a f fl).cps[·]?)).toArray⟩ : Str) = wordsS fl from q]
    exact ⟨Nat.le_trans (wordsS_len fl) (by decide), h _ (Fr.pushS hF _) fun p hp => ⟨Heap.get?_push_of_some _ (hN p hp).1, (hN p hp).2⟩⟩
  exact tail_of_ItemOn I hs ht
end
theorem lowerT {prog : Program} {w : World} {A : Around} {E : Value → Shared → Prop} {s : Shared} {x y : Str} {t : Tok} {Q : Value → Shared → Prop} (e : Txt.lower x = y) (hf : PySem.Builtin.Str.tooLong (Txt.lower x).length = false) (h : Q (.str y s.toks) { s with toks := s.toks + 1 }) :
    wpAny (model prog w) A (call (.builtin "str.lower") [.str x t]) Q E s := SC.lower hf (by rw [e]; exact h)

theorem offLE : True := by
  w_top off
  trivial
section
variable {prog : Program} {w : World} {p : Program} {loose : List Str} {mean : ExcName → Option Value} {mg mb : Str → Option Value}
theorem wordsS7_len : (wordsS 7).length + 2 ≤ sizeLine := by decide
local macro_rules | `(tactic| walk_at "exec For") => `(tactic| (k_here; (rename Fr _ _ _ _ => lF'); (with_unfolding_all refine' For_else lF' ?_; k_whole)))
local macro_rules | `(tactic| walk_at "execs cons") => `(tactic| (k_here; (try dsimp only); (fail_if_success (fail_if_success k_gentoks)); refine gen_tk ?_; intro tk htk; (try dsimp only at htk)))
local macro_rules | `(tactic| walk_at "call ref") => `(tactic| (k_here; k_dflt (refine' Con.use0T (c_pf (fl := 7) ?q1 ?q2) ?B ?F ?X ?T ?hk ?hd ?hu True.intro ?N ?_; (case q1 => decide); (case q2 => decide); (case B => k_asm); (case F => k_asm); (case X => k_asm); (case T => k_asm); (case hk => first | exact rfl | assumption); (case hd => ktr_room); (case hu => ktr_units); (case N => k_asm); intro r' h' tk' hb' F' N' k' p'; obtain ⟨t', p'⟩ := p'; subst p'; (try dsimp only at hb'))))
local macro_rules | `(tactic| walk_at "call ref") => `(tactic| (k_here; k_dflt (refine' ConL.use0T (c_items (by with_reducible assumption)) ?B ?F ?X ?T ?hk ?hd ?hu True.intro ?N ?hN ?_; (case B => k_asm); (case F => k_asm); (case X => k_asm); (case T => k_asm); (case hk => first | exact rfl | assumption); (case hd => ktr_room); (case hu => ktr_units); (case N => k_asm); (case hN => exact fun q hq => .tail _ (.tail _ hq)); intro r h2 tk2 hb' F2 N2 K2 P2; (try dsimp only at hb'); obtain ⟨D2, e2, P3⟩ := P2; subst e2; have N3 := NewIn.news P3 (by k_asm) K2 (by k_asm); clear N2)))
local macro_rules | `(tactic| walk_at "exec For Name Call cons nil") => `(tactic| (k_here; k_dflt ((rename Fr _ _ _ _ => lF'); (with_unfolding_all refine' For_turns lF' ?_; k_whole))))
local macro_rules | `(tactic| walk_at "subscriptTail Name Slice str ref") => `(tactic| (k_here; k_dflt ((rename Fr _ _ _ _ => lF'); (rename News _ _ _ _ => lN'); (refine' slice_txtT ?h1 lF' lN' ?_ ?hs ?ht; (case h1 => omega); (case hs => with_unfolding_all rfl); (case ht => intro _; with_unfolding_all rfl); k_whole); clear lF' lN'; intro h' F' N')))
local macro_rules | `(tactic| walk_at "call builtin:str.lower") => `(tactic| (k_here; k_dflt (refine lowerT (by with_reducible assumption) (by with_reducible assumption) ?_)))
local macro_rules | `(tactic| walk_at "call builtin:str.split") => `(tactic| (k_here; k_dflt ((rename Fr _ _ _ _ => lF'); (rename News _ _ _ _ => lN'); (refine split1W (bitsL _) (split_words _ (by with_reducible assumption) (by with_reducible assumption)) lF' lN' (by decide) ?_ (Nat.le_trans (Nat.add_le_add_right (wordsS_len _) 2) (by decide))); clear lF' lN'; intro D' js' h' k' e' hj' hk' F' N' l1; (try dsimp only at hj' hk'))))
local macro_rules | `(tactic| walk_at "call builtin:str.split") => `(tactic| (k_here; k_dflt ((rename Fr _ _ _ _ => lF'); (rename News _ _ _ _ => lN'); (refine split1W (bitsL 7) (split_words 7 (by decide) (by decide)) lF' lN' (by decide) ?_ wordsS7_len); clear lF' lN'; intro D' js' h' k' e' hj' hk' F' N' l1; k_lt l1; (try dsimp only at hj' hk'))))
local macro_rules | `(tactic| walk_at "call ref") => `(tactic| (k_here; k_dflt (refine' Con.use0T (c_wsT (by with_reducible assumption)) ?B ?F ?X ?T ?hk ?hd ?hu True.intro ?N ?_; (case B => k_asm); (case F => k_asm); (case X => k_asm); (case T => k_asm); (case hk => first | exact rfl | assumption); (case hd => ktr_room); (case hu => ktr_units); (case N => k_asm); intro r h2 tk2 hb' F2 N2 K2 P2; (try dsimp only at hb'); obtain ⟨x2, z2, e2, P3⟩ := P2; subst e2; have N3 := NewIn.news P3 (by k_asm) K2 (by k_asm); clear N2; (try dsimp only [wsLed, List.cons_append, List.nil_append] at N3))))
def numR (r : Row) : Nat := r.nm % 2 + 2 * (r.t + 6 * (r.f + 6 * r.fl))
def octR (r : Row) : List Int := [((192 + numR r / 64 : Nat) : Int), ((numR r % 64 : Nat) : Int)]
def octs (rows : List Row) : List Int := rows.flatMap octR
theorem words_js {js : List (Nat × Nat)} {a k t : Nat} (ej : js.map (fun x : Nat × Nat => x.1) = bitsL 7) (hj : ∀ q : Nat × Nat, q ∈ js → (a ≤ q.2 ∧ q.2 < k) ∨ (wordN q.1 = wordsS 7 ∧ q.2 = t)) :
    ∃ w0 w1 w2, js = [(0, w0), (1, w1), (2, w2)] ∧ (a ≤ w0 ∧ w0 < k) ∧ (a ≤ w1 ∧ w1 < k) ∧ (a ≤ w2 ∧ w2 < k) := by
  match js, ej with
  | [(b0, w0), (b1, w1), (b2, w2)], ej =>
    simp only [List.map_cons, List.map_nil, bitsL, List.cons.injEq, and_true] at ej
    obtain ⟨rfl, rfl, rfl⟩ := ej
    refine ⟨w0, w1, w2, rfl, ?_, ?_, ?_⟩
    · exact (hj _ (.head _)).resolve_right fun q => absurd q.1 (show ¬ wordN 0 = wordsS 7 by decide +kernel)
    · exact (hj _ (.tail _ (.head _))).resolve_right fun q => absurd q.1 (show ¬ wordN 1 = wordsS 7 by decide +kernel)
    · exact (hj _ (.tail _ (.tail _ (.head _)))).resolve_right fun q => absurd q.1 (show ¬ wordN 2 = wordsS 7 by decide +kernel)
theorem tup_row {h₀ h : Heap} {L : Addr} {news : List (Addr × Obj)} (N : News h₀ L h news) {r : Row} (hm : r.obj ∈ news) : IsTup h r.a #[.str (nmS r.nm) r.k1, .str (txt r.t r.f r.fl) r.k2] := ⟨_, (N _ hm).1, rfl, _, rfl⟩
theorem news_ne_obj {h₀ h : Heap} {L a b : Addr} {o o' : Obj} {news : List (Addr × Obj)} (N : News h₀ L h news) (h1 : (a, o) ∈ news) (h2 : (b, o') ∈ news) (hc : o ≠ o') : @Ne Nat a b := fun e => by
  have e1 := (N _ h1).1
  have e2 := (N _ h2).1
  have e' : a = b := e
  subst e'
  rw [e1] at e2
  exact hc (Option.some.inj e2)
theorem lst_ne {vs us : List Value} {ns : List Int} {e k : Nat} {v : Value} (hi : IntsAre vs ns) (hu : us.head? = some v) (hv : ∀ i t, v ≠ .int i t) : lstObj us k ≠ W.listOf vs.toArray e := fun q => by
  have q1 : us.toArray = vs.toArray := (Data.seq.inj (congrArg Obj.data q)).1
  have q2 : us = vs := by have := congrArg Array.toList q1; simpa using this
  subst q2
  cases hi with
  | nil => cases hu
  | cons _ _ hi => cases hu; exact hv _ _ rfl
theorem offT {h₀ h : Heap} {L O : Addr} {vs : List Value} {ns : List Int} {e : Nat} {T : TabZ} {r : Row} {rows : List Row} {news : List (Addr × Obj)} (N : News h₀ L h news) (hO : (O, W.listOf vs.toArray e) ∈ news) (hi : IntsAre vs ns)
    (ht : ∀ q ∈ tabLed T rows, q ∈ news) (hr : r ∈ rows) : ∀ q ∈ tabLed T rows, q.1 ≠ O := by
  have hh : ∃ v, (rows.map fun r => Value.ref r.a).head? = some v ∧ ∀ i t, v ≠ .int i t := by
    cases rows with
    | nil => cases hr
    | cons r' _ => exact ⟨_, rfl, fun _ _ h => by cases h⟩
  obtain ⟨v, hv1, hv2⟩ := hh
  intro q hq
  rcases List.mem_cons.mp hq with rfl | hq'
  · exact news_ne_obj N (ht _ hq) hO (lst_ne hi hv1 hv2)
  · refine news_ne N (o := q.2) (ht q hq) hO ?_
    rcases List.mem_cons.mp hq' with rfl | hq'
    · simp [W.listOf, instObj]
    · rcases List.mem_cons.mp hq' with rfl | hq'
      · simp [W.listOf]
      · obtain ⟨r, _, rfl⟩ := List.mem_map.mp hq'
        simp [W.listOf, Row.obj]
theorem offO {h₀ h : Heap} {L O I D2 D1 : Addr} {o' : Obj} {vs : List Value} {ns : List Int} {e k2 k1 : Nat} {a b c : Str} {x y z : Tok} {T : TabZ} {r : Row} {rows : List Row} {news : List (Addr × Obj)} (N : News h₀ L h news) (hO : (O, W.listOf vs.toArray e) ∈ news) (hi : IntsAre vs ns) (hI : (I, o') ∈ news) (hc : o'.cls = .type "list_iterator")
    (h2 : (D2, lstObj (rows.map fun r => .ref r.a) k2) ∈ news) (h1 : (D1, lstObj [.str a x, .str b y, .str c z] k1) ∈ news) (ht : ∀ q ∈ tabLed T rows, q ∈ news) (hr : r ∈ rows) :
    ∀ q ∈ (I, o') :: (D2, lstObj (rows.map fun r => .ref r.a) k2) :: (D1, lstObj [.str a x, .str b y, .str c z] k1) :: tabLed T rows, q.1 ≠ O := by
  have hh : ∃ v, (rows.map fun r => Value.ref r.a).head? = some v ∧ ∀ i t, v ≠ .int i t := by
    cases rows with
    | nil => cases hr
    | cons r' _ => exact ⟨_, rfl, fun _ _ h => by cases h⟩
  obtain ⟨v, hv1, hv2⟩ := hh
  intro q hq
  rcases List.mem_cons.mp hq with rfl | hq
  · exact news_ne N hI hO (by rw [hc]; intro e; exact absurd (Value.type.inj e) (by decide))
  · rcases List.mem_cons.mp hq with rfl | hq
    · exact news_ne_obj N h2 hO (lst_ne hi hv1 hv2)
    · rcases List.mem_cons.mp hq with rfl | hq
      · exact news_ne_obj N h1 hO (lst_ne hi rfl fun _ _ h => by cases h)
      · exact offT N hO hi ht hr q hq
theorem intsAre_app {vs us : List Value} {ns ms : List Int} (h : IntsAre vs ns) (h' : IntsAre us ms) : IntsAre (vs ++ us) (ns ++ ms) := by
  induction h with
  | nil => exact h'
  | cons _ _ _ ih => exact .cons _ _ ih
theorem octs_snoc (fin : List Row) (r : Row) : octs (fin ++ [r]) = octs fin ++ octR r := by simp [octs]
theorem ints_len {vs : List Value} {ns : List Int} (h : IntsAre vs ns) : vs.length = ns.length := by
  induction h with
  | nil => rfl
  | cons _ _ _ ih => simp [ih]
theorem octs_len (rows : List Row) : (octs rows).length = 2 * rows.length := by
  induction rows with
  | nil => rfl
  | cons r rs ih => simp only [octs, List.flatMap_cons, List.length_append, List.length_cons, octR] at *; simp at *; omega
theorem extend_two {prog : Program} {w : World} {A : Around} {E : Value → Shared → Prop} {s : Shared} {h₀ : Heap} {L D b : Addr} {m : Str → Option Value} {news others : List (Addr × Obj)} {vs us : List Value} {n k : Nat} {Q : Value → Shared → Prop}
    (F : Fr h₀ L s.heap m) (N : News h₀ L s.heap news) (hD : (D, W.listOf vs.toArray n) ∈ news) (hb : (b, W.listOf us.toArray k) ∈ news) (hbD : @Ne Nat b D) (ho : ∀ q ∈ others, q ∈ news) (hn : ∀ q ∈ others, q.1 ≠ D) (hu : us.length ≠ 0) (hz : vs.length + us.length ≤ 1000)
    (h : ∀ h', Fr h₀ L h' m → News h₀ L h' ((D, W.listOf (vs ++ us).toArray (n + 1)) :: others) → Q .none { s with heap := h' }) : wpAny (model prog w) A (call (.builtin "list.extend") [.ref D, .ref b]) Q E s := by
  have hs : (1000 : Nat) ≤ sizeLine := by decide
  refine kl_extend (news := (D, W.listOf vs.toArray n) :: (b, W.listOf us.toArray k) :: others) (news' := (D, W.listOf (vs ++ us).toArray (n + 1)) :: (b, W.listOf us.toArray k) :: others) F (news_sub N ?_) (.tail _ (.head _)) (l := vs ++ us) (by simp) (by simpa using hu) (.head ?_) ?_ (by simp; omega) (by simp; omega) fun h' F' N' => h h' F' (news_sub N' ?_)
  · exact List.forall_mem_cons.mpr ⟨hD, List.forall_mem_cons.mpr ⟨hb, ho⟩⟩
  · exact List.forall_mem_cons.mpr ⟨hbD, hn⟩
  · have : PySem.Builtin.List.listTooLong (vs.toArray.size + us.toArray.size) = false := by
      simp only [PySem.Builtin.List.listTooLong, List.size_toArray]
      first | (simp; omega) | (exact decide_eq_false (by omega))
    rw [this, Bool.and_false]; exact Bool.false_ne_true
  · exact List.forall_mem_cons.mpr ⟨.head _, fun q hq => .tail _ (.tail _ hq)⟩
theorem octs_vals (r : Row) (t1 t2 : Tok) : IntsAre [.int (192 + (((r.nm % 2 : Nat) : Int) + 2 * ((r.t : Int) + 6 * ((((r.t + 4 * r.f : Nat) : Int) - (r.t : Int)).fdiv 4 + 6 * (r.fl : Int)))).fdiv 64) t1,
    .int ((((r.nm % 2 : Nat) : Int) + 2 * ((r.t : Int) + 6 * ((((r.t + 4 * r.f : Nat) : Int) - (r.t : Int)).fdiv 4 + 6 * (r.fl : Int)))).fmod 64) t2] (octR r) := by
  have e : ((r.nm % 2 : Nat) : Int) + 2 * ((r.t : Int) + 6 * ((((r.t + 4 * r.f : Nat) : Int) - (r.t : Int)).fdiv 4 + 6 * (r.fl : Int))) = (numR r : Int) := by
    rw [Int.fdiv_eq_ediv_of_nonneg _ (by decide)]
    unfold numR
    omega
  rw [e, Int.fdiv_eq_ediv_of_nonneg _ (by decide), Int.fmod_eq_emod_of_nonneg _ (by decide)]
  have e1 : (192 + (numR r : Int) / 64) = ((192 + numR r / 64 : Nat) : Int) := by omega
  have e2 : ((numR r : Int) % 64) = ((numR r % 64 : Nat) : Int) := by omega
  rw [e1, e2]
  exact .cons _ _ (.cons _ _ .nil)
theorem or_lt {a j : Nat} (h : a < 8) (hj : j < 3) : a ||| 2 ^ j < 8 := by
  have : ∀ j, j < 3 → ∀ a, a < 8 → a ||| 2 ^ j < 8 := by decide
  exact this j hj a h
theorem or_val {a j : Nat} (h : a < 8) (hj : j < 3) : PySem.Builtin.bitOr (a : Int) (1 * 2 ^ ((j : Int)).toNat) = ((a ||| 2 ^ j : Nat) : Int) := by
  have : ∀ j, j < 3 → ∀ a, a < 8 → PySem.Builtin.bitOr ((a : Nat) : Int) (1 * 2 ^ (((j : Nat) : Int)).toNat) = ((a ||| 2 ^ j : Nat) : Int) := by decide +kernel
  exact this j hj a h
def orFold (js : List (Nat × Nat)) (a : Nat) : Nat := js.foldl (fun a q => a ||| 2 ^ q.1) a
theorem bits_or (fl : Nat) (h1 : 1 ≤ fl) (h7 : fl ≤ 7) {js : List (Nat × Nat)} (e : js.map (fun x : Nat × Nat => x.1) = bitsL fl) : orFold js 0 = fl ∧ ∀ q ∈ js, q.1 < 3 := by
  have e1 : orFold js 0 = (bitsL fl).foldl (fun a j => a ||| 2 ^ j) 0 := by rw [← e, List.foldl_map]; rfl
  have e2 : ∀ j ∈ bitsL fl, j < 3 := by
    have h : fl = 1 ∨ fl = 2 ∨ fl = 3 ∨ fl = 4 ∨ fl = 5 ∨ fl = 6 ∨ fl = 7 := by omega
    rcases h with rfl | rfl | rfl | rfl | rfl | rfl | rfl <;> decide
  refine ⟨?_, fun q hq => e2 _ (by rw [← e]; exact List.mem_map_of_mem hq)⟩
  rw [e1]
  have h : fl = 1 ∨ fl = 2 ∨ fl = 3 ∨ fl = 4 ∨ fl = 5 ∨ fl = 6 ∨ fl = 7 := by omega
  rcases h with rfl | rfl | rfl | rfl | rfl | rfl | rfl <;> decide
structure SJ (fl k : Nat) where
  js : List (Nat × Nat)
  fv : Nat
  wv : Option Value
  tk : Str → Tok
  h1 : orFold js fv = fl
  h2 : ∀ q ∈ js, q.1 < 3 ∧ k ≤ q.2
  h3 : fv < 8
structure SL (rows : List Row) where
  fin : List Row
  rest : List Row
  vs : List Value
  O : Addr
  e : Nat
  v1 : Option Value
  v2 : Option Value
  v3 : Option Value
  v4 : Option Value
  v5 : Option Value
  v6 : Option Value
  v7 : Option Value
  h : fin ++ rest = rows
  hv : IntsAre vs (octs fin)
local macro_rules | `(tactic| walk_at "call ref") => `(tactic| (k_here; k_dflt (refine' c_idxS ?hj ?B ?F ?X ?T ?hk ?hd ?hu ?ht ?N ?_; (case hj => exact Nat.mod_lt _ (by decide)); (case B => k_asm); (case F => k_asm); (case X => k_asm); (case T => k_asm); (case hk => first | exact rfl | assumption); (case hd => ktr_room); (case hu => ktr_units); (case N => k_asm); (case ht => (try dsimp only); constructor <;> omega); intro t2 h2 tk2 hb' F2 N2 K2; (try dsimp only at hb'); (try dsimp only))))
local macro_rules | `(tactic| walk_at "call ref") => `(tactic| (k_here; k_dflt (refine' ConL.use0 (c_idxL (by with_reducible assumption) ?p0 ?p1 ?p2 ?d0 ?d1) ?B ?F ?X ?T ?hk ?hd ?hu True.intro ?N ?hN ?_; (case B => k_asm); (case F => k_asm); (case X => k_asm); (case T => k_asm); (case hk => first | exact rfl | assumption); (case hd => ktr_room); (case hu => ktr_units); (case N => k_asm); (case hN => exact List.forall_mem_cons.mpr ⟨by k_mem, List.forall_mem_nil _⟩); (case p0 => assumption); (case p1 => assumption); (case p2 => assumption); (case d0 => assumption); (case d1 => assumption); intro r h2 tk2 F2 N2 K2 P2; obtain ⟨t2, e2⟩ := P2; subst e2)))
set_option maxHeartbeats 8000000 in
theorem c_letter {T : TabZ} {rows : List Row} {r0 : Row} (hne : r0 ∈ rows) (hr : rows.length ≤ 20) (hrow : ∀ r ∈ rows, r.t ≤ 32 ∧ r.f ≤ 32 ∧ 1 ≤ r.t + r.f ∧ 1 ≤ r.fl ∧ r.fl ≤ 7) : ConL prog w p loose mean mg mb 366 [.ref T.t] 40 (fun _ => True) (tabLed T rows) []
    (fun s h' r => ∃ O vs e, r = .ref O ∧ NewIn s h' [(O, lstObj vs e)] ∧ IntsAre vs (octs rows)) := by
  intro dp un gd cn cs a ccd cl outer A₀ base h₀ L m s Q E B F X T' hk hdp hun _ N hret
  refine wpAny_call ?_
  have N0 := N
  have hr2 : rows.length ≤ 1000 := by omega
  k_dflt (walk_at "my enter")
  intro g L1 h1 FG F1 N1 B1 X1 T1 hG hG' hl1
  dsimp only [tabLed] at N1
  (try dsimp only); (try k_lift B1); (try k_fold)
  k_steps
  rename Fr g _ _ _ => F3
  rename News g _ _ _ => N3
  rename (List.map (fun x : Nat × Nat => x.1) _ = bitsL 7) => ej
  rename (∀ q : Nat × Nat, q ∈ _ → _) => hj
  have N4 := news_sub (n' := _ :: (_, lstObj (rows.map fun r => .ref r.a) 0) :: _ :: tabLed T rows) N3 (List.forall_mem_cons.mpr ⟨.tail _ (.head _), List.forall_mem_cons.mpr ⟨.head _, List.forall_mem_cons.mpr ⟨.tail _ (.tail _ (.head _)), fun q hq => .tail _ (.tail _ (.tail _ hq))⟩⟩⟩)
  clear N3
  dsimp only [tabLed] at N4
  obtain ⟨w0, w1, w2, hjs, wb0, wb1, wb2⟩ := words_js ej hj
  subst hjs
  dsimp only [List.map] at N4
  refine iter_listT (by rfl) F3 N4 (.tail _ (.head _)) rfl rfl ?_
  intro I l0
  have l1 := l0
  k_lt l1
  refine rest_at (σ := SL rows) (fun st => st.rest.length) (fun st => (st.rest.map fun r => Value.ref r.a).map .val)
    (fun m₀ st z => if z = "octets" then some (.ref st.O) else if z = "name" then st.v1 else if z = "text" then st.v2 else if z = "mark" then st.v3 else if z = "flags" then st.v4 else if z = "word" then st.v5 else if z = "fours" then st.v6 else if z = "number" then st.v7 else m₀ z)
    (fun n₀ st => (st.O, W.listOf st.vs.toArray st.e) :: n₀.tail) ⟨[], rows, [], refOf (mapOf F3 "octets"), 0, none, none, none, none, none, none, none, rfl, .nil⟩ rfl ?_ rfl ?_
  · refine names_ext ["octets", "name", "text", "mark", "flags", "word", "fours", "number"] (by walk_at "my names") (by walk_at "my rest")
  · clear F3 N4
    intro st IH
    obtain ⟨fin, rest, vs, O, e, v1, v2, v3, v4, v5, v6, v7, e1, e2⟩ := st
    cases rest with
    | nil =>
      clear IH
      dsimp only [List.map, List.tail]
      with_unfolding_all refine ItemsT.zero (fun h' tk' hb' F' N' => ?_)
      have hfin : fin = rows := by rw [← e1]; simp
      subst hfin
      k_steps
      rename Fr g L1 _ _ => F9
      rename News g L1 _ _ => N9
      refine hret _ _ _ (by assumption) (kept_led hG F9 N9 N0 fun q hq => .inr (List.mem_append_right [_, _, _] hq)) ⟨O, vs, e, rfl, List.forall_mem_cons.mpr ⟨⟨fresh_led hG N9 (.head _) ?_, N9.get (.head _)⟩, List.forall_mem_nil _⟩, e2⟩
      intro hm
      obtain ⟨q, hq, e⟩ := List.mem_map.mp hm
      exact offT N9 (.head _) e2 (fun q hq => List.mem_append_right [_, _, _] hq) hne q hq e
    | cons r rest =>
      dsimp only [List.map, List.tail]
      obtain ⟨hr1, hr2, hf0, hf1, hf7⟩ := hrow r (by rw [← e1]; simp)
      have g2 := nm_lower r.nm
      have g3 := nm_short r.nm
      have hf8 : 1 ≤ r.fl ∧ r.fl ≤ 7 := ⟨hf1, hf7⟩
      with_unfolding_all refine ItemsT.val (fun h' tk' hb' F' => ?_)
      ktu_objs
      rename News g _ _ _ => N5
      have hT := tup_row N5 (r := r) (List.mem_append_right [_, _, _, _, _, _, _] (List.mem_map_of_mem (by rw [← e1]; simp)))
      k_steps
      rename Fr g _ _ _ => F6
      rename News g _ _ _ => N6
      rename (List.map (fun x : Nat × Nat => x.1) _ = bitsL r.fl) => ej2
      rename (∀ q : Nat × Nat, q ∈ _ → _) => hj2
      obtain ⟨eo, eb⟩ := bits_or r.fl hf1 hf7 ej2
      refine iter_listTurns (by rfl) F6 N6 (.head _) rfl rfl ?_
      intro I2 l2
      have l3 := l2
      k_lt l3
      refine rest_at (σ := SJ r.fl (max w0 (max w1 w2) + 1)) (fun st => st.js.length) (fun st => (st.js.map fun q : Nat × Nat => Value.str (wordN q.1) q.2).map .val)
        (fun m₀ st z => if z = "flags" then some (.int (st.fv : Int) (st.tk "flags")) else if z = "word" then st.wv else m₀ z)
        (fun n₀ st => n₀) ⟨_, 0, v5, fun z => tokOf (mapOf F6 z), eo, fun q hq => ⟨eb q hq, ?_⟩, by decide⟩ rfl ?_ rfl ?_
      · rcases hj2 q hq with ⟨a1, a2⟩ | ⟨a1, a2⟩
        · omega
        · omega
      · refine names_ext ["flags", "word"] (by walk_at "my names") (by walk_at "my rest")
      · clear F6 N6
        intro st IH2
        obtain ⟨js, fv, wv, tk, d1, d2, d3⟩ := st
        cases js with
        | nil =>
          clear IH2
          dsimp only [List.map]
          with_unfolding_all refine ItemsRest.zero (fun h' tk' F' N' => ?_)
          have d1' : fv = r.fl := d1
          subst d1'
          k_steps
          rename Fr g _ _ _ => F8
          rename News g _ _ _ => N8
          have hrm : r ∈ rows := by rw [← e1]; simp
          have hofl := octs_len fin
          have hvl := ints_len e2
          have hfl : fin.length ≤ 20 := by rw [← e1] at hr; simp at hr; omega
          have hno := offO (T := T) (rows := rows) N8 (List.mem_append_right [_, _, _, _, _, _, _] (.head _)) e2 (List.mem_append_right [_, _, _, _, _, _] (.head _)) (by assumption) (List.mem_append_right [_, _, _, _, _, _, _, _] (.head _)) (List.mem_append_right [_, _, _, _, _, _, _, _, _] (.head _)) (fun q hq => List.mem_append_right [_, _, _, _, _, _, _, _, _, _] hq) hrm
          refine extend_two F8 N8 (List.mem_append_right [_, _, _, _, _, _, _] (.head _)) (.head _) (by k_ne) (fun q hq => ?_) hno (by simp) (by simp; omega) ?_
          · rcases List.mem_cons.mp hq with rfl | hq
            · exact List.mem_append_right [_, _, _, _, _, _] (.head _)
            · exact List.mem_append_right [_, _, _, _, _, _, _, _] hq
          intro h9 F9 N9
          k_steps
          refine unrW_mem F9 N9 ((O, W.listOf _ (e + 1)) :: _) (List.forall_mem_cons.mpr ⟨.tail _ (.head _), List.forall_mem_nil _⟩) (fun p hp => (List.mem_cons.mp hp).elim (fun q => q ▸ .head _) fun q => .tail _ (.tail _ q)) (fun p hp q hq => ?_) ⟨⟨.tail _ (.head _), trivial⟩, ?_⟩
          · rw [List.mem_singleton.mp hq]
            rcases List.mem_cons.mp hp with rfl | hp
            · exact Ne.symm (hno _ (.head _))
            · exact Nat.ne_of_lt (l0 _ (.tail _ hp))
          · refine restT_weak (IH ⟨fin ++ [r], rest, _, O, e + 1, mapOf F9 "name", mapOf F9 "text", mapOf F9 "mark", mapOf F9 "flags", mapOf F9 "word", mapOf F9 "fours", mapOf F9 "number", by rw [← e1]; simp, by rw [octs_snoc]; exact intsAre_app e2 (octs_vals r _ _)⟩ (Nat.lt_succ_self _)) ?_ (fun p hp => hp)
            refine names_ext ["octets", "name", "text", "mark", "flags", "word", "fours", "number"] (by walk_at "my names") (by walk_at "my rest")
        | cons q js =>
          dsimp only [List.map]
          have hq3 := (d2 q (.head _)).1
          have hk3 := (d2 q (.head _)).2
          have p0 : w0 ≠ 0 ∧ q.2 ≠ 0 := by omega
          have p1 : w1 ≠ 0 ∧ q.2 ≠ 0 := by omega
          have p2 : w2 ≠ 0 ∧ q.2 ≠ 0 := by omega
          have d4 : w0 ≠ q.2 := by omega
          have d5 : w1 ≠ q.2 := by omega
          with_unfolding_all refine ItemsRest.val (fun h' tk' F' => ?_)
          ktu_objs
          k_steps
          rename Fr g _ _ _ => F9
          rename News g _ _ _ => N9
          refine unrW_mem F9 N9 _ (List.forall_mem_cons.mpr ⟨.head _, List.forall_mem_nil _⟩) (fun p hp => .tail _ hp) (off_lt l2) ⟨⟨.head _, trivial⟩, ?_⟩
          refine rest_weak (IH2 ⟨js, fv ||| 2 ^ q.1, mapOf F9 "word", fun z => tokOf (mapOf F9 z), d1, fun q hq => d2 q (.tail _ hq), or_lt d3 hq3⟩ (Nat.lt_succ_self _)) ?_ (fun p hp => hp)
          refine names_ext ["flags", "word"] (List.forall_mem_cons.mpr ⟨?_, by walk_at "my names"⟩) (by walk_at "my rest")
          exact congrArg (fun x => some (Value.int x _)) (or_val d3 hq3)
end

theorem offPT : True := by
  w_top off
  trivial
section
variable {prog : Program} {w : World} {p : Program} {loose : List Str} {mean : ExcName → Option Value} {mg mb : Str → Option Value} {f : Addr} {vs : List Value} {n : Nat} {H : Heap → Prop} {led : List (Addr × Obj)} {ch : List Addr}
theorem ConL.mono {P P' : Heap → Heap → Value → Prop} (C : ConL prog w p loose mean mg mb f vs n H led ch P) (h : ∀ s h' r, P s h' r → P' s h' r) : ConL prog w p loose mean mg mb f vs n H led ch P' :=
  fun dp un gd cn cs a ccd cl outer A₀ base h₀ L m s Q E B F X T hk hdp hun hH N k => C dp un gd cn cs a ccd cl outer A₀ base h₀ L m s Q E B F X T hk hdp hun hH N fun r h' tk' F' K pp => k r h' tk' F' K (h _ _ _ pp)
/-- a row without its place: whose, tabs, fours, flags -/
abbrev Ab := Nat × Nat × Nat × Nat
def Row.ab (r : Row) : Ab := (r.nm % 2, r.t, r.f, r.fl)
/-- the table holds rows' now; what is new of them was free -/
def Put (T : TabZ) (rows rows' : List Row) (s h' : Heap) : Prop :=
  ∃ e, h'.get? T.l = some (lstObj (rows'.map fun r => .ref r.a) e) ∧ ∀ r ∈ rows', r ∈ rows ∨ (s.get? r.a = none ∧ h'.get? r.a = some r.obj.2)
theorem put_added {T : TabZ} {rows : List Row} {nm t f fl : Nat} {s h' : Heap} (h : Added T rows nm t f fl s h') : ∃ rows', Put T rows rows' s h' ∧ rows'.map Row.ab = rows.map Row.ab ++ [(nm % 2, t, f, fl)] := by
  obtain ⟨r, e, rfl, rfl, rfl, rfl, a5, a6, a7⟩ := h
  refine ⟨rows ++ [r], ⟨e, a7, fun q hq => ?_⟩, by simp [Row.ab]⟩
  rcases List.mem_append.mp hq with hq | hq
  · exact .inl hq
  · rw [List.mem_singleton.mp hq]; exact .inr ⟨a5, a6⟩
theorem map_cut (rows : List Row) (nm : Nat) : (rows.filter fun r => !(r.nm % 2 == nm % 2)).map Row.ab = (rows.map Row.ab).filter fun a => !(a.1 == nm % 2) := by
  rw [List.filter_map]; rfl
theorem put_added_cut {T : TabZ} {rows : List Row} {nm t f fl : Nat} {s h' : Heap} (h : Added T (rows.filter fun r => !(r.nm % 2 == nm % 2)) nm t f fl s h') :
    ∃ rows', Put T rows rows' s h' ∧ rows'.map Row.ab = ((rows.map Row.ab).filter fun a => !(a.1 == nm % 2)) ++ [(nm % 2, t, f, fl)] := by
  obtain ⟨rows', ⟨e, h1, h2⟩, h3⟩ := put_added h
  refine ⟨rows', ⟨e, h1, fun r hr => (h2 r hr).elim (fun q => .inl (List.mem_filter.mp q).1) .inr⟩, ?_⟩
  rw [h3, map_cut]
theorem put_cut {T : TabZ} {rows : List Row} {nm : Nat} {s h' : Heap} (h : Cut T rows nm h') : ∃ rows', Put T rows rows' s h' ∧ rows'.map Row.ab = (rows.map Row.ab).filter fun a => !(a.1 == nm % 2) := by
  obtain ⟨e, h⟩ := h
  exact ⟨_, ⟨e, h, fun r hr => .inl (List.mem_filter.mp hr).1⟩, map_cut _ _⟩
theorem kept_off {s h' : Heap} {L l a : Addr} {o : Obj} (K : Kept [L, l] s h') (h1 : a ≠ L) (h2 : a ≠ l) (h : s.get? a = some o) : h'.get? a = some o := K _ _ (fun q => by
  rcases List.mem_cons.mp q with q | q
  · exact h1 q
  · exact h2 (List.mem_singleton.mp q)) h
theorem put_news {T : TabZ} {rows rows' : List Row} {e : Nat} {s h' h₀ : Heap} {L : Addr} {m : Str → Option Value} (F : Fr h₀ L s m) (N : News h₀ L s (tabLed T rows)) (K : Kept [L, T.l] s h') (hl : h'.get? T.l = some (lstObj (rows'.map fun r => .ref r.a) e))
    (hr : ∀ r ∈ rows', r ∈ rows ∨ (s.get? r.a = none ∧ h'.get? r.a = some r.obj.2)) : News h₀ L h' (tabLed { T with e := e } rows') := by
  have hR := tabLed_rest N fun q hq => hq
  have old : ∀ q ∈ (T.t, instObj 334 T.d) :: (T.d, dictOf [⟨T.g, .str "_headers" T.k, .ref T.l⟩] 1) :: rows.map Row.obj, h'.get? q.1 = some q.2 ∧ q.1 ≠ L ∧ h₀.get? q.1 = none := fun q hq => by
    have z := N q (hR q hq).1
    exact ⟨kept_off K z.2.1 (hR q hq).2 z.1, z.2⟩
  intro q hq
  rcases List.mem_cons.mp hq with rfl | hq
  · exact ⟨hl, (N _ (.head _)).2⟩
  · rcases List.mem_cons.mp hq with rfl | hq
    · exact old _ (.head _)
    · rcases List.mem_cons.mp hq with rfl | hq
      · exact old _ (.tail _ (.head _))
      · obtain ⟨r, hr', rfl⟩ := List.mem_map.mp hq
        rcases hr r hr' with h | ⟨h1, h2⟩
        · exact old _ (.tail _ (.tail _ (List.mem_map_of_mem h)))
        · obtain ⟨oL, _, _, hL, _⟩ := F.ns
          refine ⟨h2, fun e => ?_, ?_⟩
          · have e' : r.a = L := e
            rw [e', hL] at h1; cases h1
          · cases q : h₀.get? r.obj.1 with
            | none => rfl
            | some o => have z : s.get? r.a = some o := F.keep _ _ q; rw [h1] at z; cases z
theorem ConL.useP {R : List Row → Value → Prop} {T : TabZ} {rows : List Row} {rest : List (Addr × Obj)} (C : ConL prog w p loose mean mg mb f vs n H (tabLed T rows) [T.l] (fun s h' r => ∃ rows', Put T rows rows' s h' ∧ R rows' r))
    {dp un : Nat} {gd : Option (List Code)} {cn : Str} {cs : Scope} {a : Addr} {ccd : Value} {cl : List (Str × Addr)} {outer : List Env} {A₀ : Around} {base h₀ : Heap} {L : Addr} {m : Str → Option Value} {s : Shared} {Q E : Value → Shared → Prop}
    (B : Below A₀ base outer h₀) (F : Fr h₀ L s.heap m) (X : (hd.heap_39 w.params).In h₀) (T' : Top p loose mean mg mb h₀) (hk : cs.kind = .function) (hd : dp + n < recursionLimit) (hu : un + 8 * n < cLine) (hH : H s.heap)
    (N : News h₀ L s.heap ((T.l, lstObj (rows.map fun r => .ref r.a) T.e) :: (T.t, instObj 334 T.d) :: (T.d, dictOf [⟨T.g, .str "_headers" T.k, .ref T.l⟩] 1) :: (rows.map Row.obj ++ rest))) (hoff : ∀ q ∈ rest, q.1 ≠ T.l)
    (h : ∀ r h' tk' e rows', Fr h₀ L h' m → News h₀ L h' ((T.l, lstObj (rows'.map fun r => .ref r.a) e) :: (T.t, instObj 334 T.d) :: (T.d, dictOf [⟨T.g, .str "_headers" T.k, .ref T.l⟩] 1) :: (rows'.map Row.obj ++ rest)) → FreeOf h₀ s.heap (tabLed T rows ++ rest) →
      (∀ r ∈ rows', r ∈ rows ∨ s.heap.get? r.a = none) → R rows' r → Q r { s with heap := h', toks := tk' }) :
    wpAny (model prog w) (ktrTop dp un gd cn cs L a ccd cl outer) (call (.ref f) vs) Q E s := by
  have N' : News h₀ L s.heap (tabLed T rows ++ rest) := N
  have Nt : News h₀ L s.heap (tabLed T rows) := news_sub N' fun q hq => List.mem_append_left _ hq
  refine C dp un gd cn cs a ccd cl outer A₀ base h₀ L m s Q E B F X T' hk hd hu hH Nt fun r h' tk' F' K pp => ?_
  obtain ⟨rows', ⟨e, h1, h2⟩, h3⟩ := pp
  have N2 := put_news F Nt K h1 h2
  refine h r h' tk' e rows' F' ?_ (fun b hb => ⟨?_, fun q hq e => ?_⟩) (fun r hr => (h2 r hr).elim .inl fun q => .inr q.1) h3
  · show News h₀ L h' (tabLed { T with e := e } rows' ++ rest)
    intro q hq
    rcases List.mem_append.mp hq with hq | hq
    · exact N2 q hq
    · have z := N' q (List.mem_append_right _ hq)
      exact ⟨kept_off K z.2.1 (hoff q hq) z.1, z.2⟩
  · cases e : h₀.get? b with
    | none => rfl
    | some o => rw [F.keep _ _ e] at hb; cases hb
  · have z := (N' q hq).1
    rw [e, hb] at z; cases z
theorem ConL.usePe {R : List Row → Value → Prop} {T : TabZ} {rows : List Row} {rest : List (Addr × Obj)} (C : ∀ e, ConL prog w p loose mean mg mb f vs n H (tabLed { T with e := e } rows) [T.l] (fun s h' r => ∃ rows', Put T rows rows' s h' ∧ R rows' r)) {e₀ : Nat}
    {dp un : Nat} {gd : Option (List Code)} {cn : Str} {cs : Scope} {a : Addr} {ccd : Value} {cl : List (Str × Addr)} {outer : List Env} {A₀ : Around} {base h₀ : Heap} {L : Addr} {m : Str → Option Value} {s : Shared} {Q E : Value → Shared → Prop}
    (B : Below A₀ base outer h₀) (F : Fr h₀ L s.heap m) (X : (hd.heap_39 w.params).In h₀) (T' : Top p loose mean mg mb h₀) (hk : cs.kind = .function) (hd : dp + n < recursionLimit) (hu : un + 8 * n < cLine) (hH : H s.heap)
    (N : News h₀ L s.heap ((T.l, lstObj (rows.map fun r => .ref r.a) e₀) :: (T.t, instObj 334 T.d) :: (T.d, dictOf [⟨T.g, .str "_headers" T.k, .ref T.l⟩] 1) :: (rows.map Row.obj ++ rest))) (hoff : ∀ q ∈ rest, q.1 ≠ T.l)
    (h : ∀ r h' tk' e rows', Fr h₀ L h' m → News h₀ L h' ((T.l, lstObj (rows'.map fun r => .ref r.a) e) :: (T.t, instObj 334 T.d) :: (T.d, dictOf [⟨T.g, .str "_headers" T.k, .ref T.l⟩] 1) :: (rows'.map Row.obj ++ rest)) → FreeOf h₀ s.heap (tabLed { T with e := e₀ } rows ++ rest) →
      (∀ r ∈ rows', r ∈ rows ∨ s.heap.get? r.a = none) → R rows' r → Q r { s with heap := h', toks := tk' }) :
    wpAny (model prog w) (ktrTop dp un gd cn cs L a ccd cl outer) (call (.ref f) vs) Q E s :=
  ConL.useP (T := { T with e := e₀ }) (C e₀) B F X T' hk hd hu hH N hoff h
end

theorem offLA : True := by
  w_top off
  trivial
section
variable {prog : Program} {w : World} {p : Program} {loose : List Str} {mean : ExcName → Option Value} {mg mb : Str → Option Value}
theorem P_add {T : TabZ} {rows : List Row} (hr : rows.length ≤ 1000) {nm t f fl : Nat} (ht : t ≤ 64) (hf : f ≤ 64) {tk tk2 : Tok} : ConL prog w p loose mean mg mb 331 [.ref T.t, .str (nmS nm) tk, .str (txt t f fl) tk2] 20 (fun _ => True) (tabLed T rows) [T.l]
    (fun s h' _ => ∃ rows', Put T rows rows' s h' ∧ rows'.map Row.ab = rows.map Row.ab ++ [(nm % 2, t, f, fl)]) := (c_add hr ht hf).mono fun _ _ _ h => put_added h
theorem P_addE {T : TabZ} {rows : List Row} (hr : rows.length ≤ 1000) {nm t f fl : Nat} (ht : t ≤ 64) (hf : f ≤ 64) {tk tk2 : Tok} (e : Nat) : ConL prog w p loose mean mg mb 331 [.ref T.t, .str (nmS nm) tk, .str (txt t f fl) tk2] 20 (fun _ => True) (tabLed { T with e := e } rows) [T.l]
    (fun s h' _ => ∃ rows', Put T rows rows' s h' ∧ rows'.map Row.ab = rows.map Row.ab ++ [(nm % 2, t, f, fl)]) := P_add (T := { T with e := e }) hr ht hf
theorem P_del {T : TabZ} {rows : List Row} (hr : rows.length ≤ 1000) {nm : Nat} {tk : Tok} : ConL prog w p loose mean mg mb 168 [.ref T.t, .str (nmS nm) tk] 24 (fun _ => True) (tabLed T rows) [T.l]
    (fun s h' _ => ∃ rows', Put T rows rows' s h' ∧ rows'.map Row.ab = (rows.map Row.ab).filter fun a => !(a.1 == nm % 2)) := (c_delF hr).mono fun _ _ _ h => put_cut h
theorem c_lessE {t f t' f' : Nat} {x y : Addr} {z z' : WsZ} {b : Bool} (hb : lessB t f t' f' = b) : ConL prog w p loose mean mg mb 90 [.ref x, .ref y] 4 (fun _ => True) (wsLed t f x z ++ wsLed t' f' y z') [] (fun _ _ r => r = .bool b) := hb ▸ c_less
theorem c_equalE {t f t' f' : Nat} {x y : Addr} {z z' : WsZ} {b : Bool} (hb : equalB t f t' f' = b) : ConL prog w p loose mean mg mb 76 [.ref x, .ref y] 20 (fun _ => True) (wsLed t f x z ++ wsLed t' f' y z') [] (fun _ _ r => r = .bool b) := hb ▸ c_equal
theorem ConL.use0n {f : Addr} {vs : List Value} {n : Nat} {H : Heap → Prop} {P : Heap → Heap → Value → Prop} {led : List (Addr × Obj)} (C : ConL prog w p loose mean mg mb f vs n H led [] P)
    {dp un : Nat} {gd : Option (List Code)} {cn : Str} {cs : Scope} {a : Addr} {ccd : Value} {cl : List (Str × Addr)} {outer : List Env} {A₀ : Around} {base h₀ : Heap} {L : Addr} {m : Str → Option Value} {s : Shared} {Q E : Value → Shared → Prop} {news : List (Addr × Obj)}
    (B : Below A₀ base outer h₀) (F : Fr h₀ L s.heap m) (X : (hd.heap_39 w.params).In h₀) (T : Top p loose mean mg mb h₀) (hk : cs.kind = .function) (hd : dp + n < recursionLimit) (hu : un + 8 * n < cLine) (hH : H s.heap) (N : News h₀ L s.heap news) (hN : ∀ q ∈ led, q ∈ news)
    (h : ∀ r h' tk', Fr h₀ L h' m → News h₀ L h' news → Kept [L] s.heap h' → (∀ b, s.heap.get? b = none → ∀ q ∈ news, q.1 ≠ b) → P s.heap h' r → Q r { s with heap := h', toks := tk' }) :
    wpAny (model prog w) (ktrTop dp un gd cn cs L a ccd cl outer) (call (.ref f) vs) Q E s :=
  C.use0 B F X T hk hd hu hH N hN fun r h' tk' F' N' k pp => h r h' tk' F' N' k (fun b hb q hq e => by
    have := (N q hq).1
    rw [e, hb] at this; cases this) pp
theorem news_swap {h₀ h : Heap} {L : Addr} {a b : Addr × Obj} {r : List (Addr × Obj)} (N : News h₀ L h (a :: b :: r)) : News h₀ L h (b :: a :: r) :=
  news_sub N (List.forall_mem_cons.mpr ⟨.tail _ (.head _), List.forall_mem_cons.mpr ⟨.head _, fun q hq => .tail _ (.tail _ hq)⟩⟩)
theorem allLt_ne {b : Addr} : ∀ {l : List (Addr × Obj)}, AllLt b l → ∀ q ∈ l, q.1 ≠ b
  | [], _, _, h => nomatch h
  | p :: r, x, q, h => by
    rcases List.mem_cons.mp h with rfl | h
    · exact Nat.ne_of_lt x.1
    · exact allLt_ne x.2 q h
theorem ho_cons {h₀ h : Heap} {L S D : Addr} {oS o : Obj} {r : List (Addr × Obj)} (_ : News h₀ L h ((S, oS) :: (D, o) :: r)) (ND : ∀ q ∈ (S, oS) :: r, q.1 ≠ D) (l1 : AllLt S r) : ∀ q ∈ (D, o) :: r, q.1 ≠ S :=
  List.forall_mem_cons.mpr ⟨Ne.symm (ND _ (.head _)), allLt_ne l1⟩
theorem news_tabS (pre : List (Addr × Obj)) {h₀ h : Heap} {L : Addr} {T : TabZ} {rows : List Row} {S0 : Addr × Obj} (N : News h₀ L h (S0 :: (pre ++ tabLed T rows))) : News h₀ L h (tabLed T rows ++ (S0 :: rows.map Row.obj)) :=
  news_sub N fun _ hq => (List.mem_append.mp hq).elim (fun h => .tail _ (List.mem_append_right _ h)) fun h => (List.mem_cons.mp h).elim (fun e => e ▸ .head _) fun h => .tail _ (List.mem_append_right _ (.tail _ (.tail _ (.tail _ h))))
theorem news_front (pre : List (Addr × Obj)) {h₀ h : Heap} {L : Addr} {a b : Addr × Obj} {r : List (Addr × Obj)} (N : News h₀ L h (pre ++ (a :: b :: r))) : News h₀ L h (b :: a :: r) := news_swap (news_sub N fun _ hq => List.mem_append_right _ hq)
theorem append_head {A : Around} {E : Value → Shared → Prop} {s : Shared} {h₀ : Heap} {L D : Addr} {m : Str → Option Value} {others : List (Addr × Obj)} {its : Array Value} {n : Nat} {x : Value} {Q : Value → Shared → Prop}
    (F : Fr h₀ L s.heap m) (N : News h₀ L s.heap ((D, W.listOf its n) :: others)) (ho : ∀ q ∈ others, q.1 ≠ D) (hsz : its.size ≤ sizeLine)
    (h : ∀ h', Fr h₀ L h' m → News h₀ L h' ((D, W.listOf (its.push x) (n + 1)) :: others) → Q .none { s with heap := h' }) :
    wpAny (model prog w) A (call (.builtin "list.append") [.ref D, x]) Q E s := append_sub others F N (.head _) (fun q hq => ⟨.tail _ hq, ho q hq⟩) hsz h
def sameN (nm : Nat) (r : Row) : Bool := r.nm % 2 == nm % 2
def valR (r : Row) : Value := .str (txt r.t r.f r.fl) r.k2
theorem push_filter {k : Row → Bool} {fin : List Row} {r : Row} (h : k r = true) : ((fin.filter k).map valR).toArray.push (valR r) = (((fin ++ [r]).filter k).map valR).toArray := by simp [h]
theorem skip_filter {k : Row → Bool} {fin : List Row} {r : Row} (h : k r = false) : (fin ++ [r]).filter k = fin.filter k := by simp [h]
def notLess (tf : Nat × Nat) (r : Row) : Bool := !lessB r.t r.f tf.1 tf.2
def layA (rows : List Ab) (x : Ab) : List Ab :=
  if rows.any (fun a => a.1 == x.1 && (equalB x.2.1 x.2.2.1 a.2.1 a.2.2.1 || lessB x.2.1 x.2.2.1 a.2.1 a.2.2.1)) then rows
  else (rows.filter fun a => !(a.1 == x.1)) ++ (rows.filter fun a => a.1 == x.1 && !lessB a.2.1 a.2.2.1 x.2.1 x.2.2.1) ++ [x]
theorem layA_hit {rows : List Row} {nm t f fl : Nat} {r : Row} (hr : r ∈ rows.filter (sameN nm)) (h : (equalB t f r.t r.f || lessB t f r.t r.f) = true) : rows.map Row.ab = layA (rows.map Row.ab) (nm % 2, t, f, fl) := by
  have : (rows.map Row.ab).any (fun a => a.1 == nm % 2 && (equalB t f a.2.1 a.2.2.1 || lessB t f a.2.1 a.2.2.1)) = true := by
    rw [List.any_eq_true]
    obtain ⟨h1, h2⟩ := List.mem_filter.mp hr
    refine ⟨r.ab, List.mem_map_of_mem h1, ?_⟩
    show (r.nm % 2 == nm % 2 && (equalB t f r.t r.f || lessB t f r.t r.f)) = true
    rw [h, Bool.and_true]
    exact h2
  unfold layA
  rw [if_pos this]
theorem layA_miss {rows : List Row} {nm t f fl : Nat} (h : ∀ r ∈ rows.filter (sameN nm), (equalB t f r.t r.f || lessB t f r.t r.f) = false) :
    layA (rows.map Row.ab) (nm % 2, t, f, fl) = ((rows.map Row.ab).filter fun a => !(a.1 == nm % 2)) ++ ((rows.filter (sameN nm)).filter (notLess (t, f))).map Row.ab ++ [(nm % 2, t, f, fl)] := by
  have : ¬ (rows.map Row.ab).any (fun a => a.1 == nm % 2 && (equalB t f a.2.1 a.2.2.1 || lessB t f a.2.1 a.2.2.1)) = true := by
    rw [List.any_eq_true]
    rintro ⟨a, ha, hc⟩
    obtain ⟨r, hr, rfl⟩ := List.mem_map.mp ha
    rw [Bool.and_eq_true] at hc
    have := h r (List.mem_filter.mpr ⟨hr, hc.1⟩)
    rw [show (equalB t f r.t r.f || lessB t f r.t r.f) = true from hc.2] at this
    cases this
  unfold layA
  rw [if_neg this, List.filter_filter, List.filter_map (p := fun a : Ab => a.1 == nm % 2 && !lessB a.2.1 a.2.2.1 t f)]
  congr 3
  refine List.filter_congr fun r _ => ?_
  show (r.nm % 2 == nm % 2 && !lessB r.t r.f t f) = (!lessB r.t r.f t f && (r.nm % 2 == nm % 2))
  exact Bool.and_comm _ _
theorem mem_mid {α : Type} {q a b c d : α} {x y : List α} (h : q ∈ a :: b :: c :: (x ++ y)) : q ∈ a :: b :: c :: (x ++ d :: y) := by
  simp only [List.mem_cons, List.mem_append] at h ⊢
  rcases h with h | h | h | h | h <;> simp [h]
theorem news_tabI {h₀ h : Heap} {L : Addr} {i d a b c : Addr × Obj} {x y : List (Addr × Obj)} (N : News h₀ L h (i :: d :: a :: b :: c :: (x ++ y))) : News h₀ L h (a :: b :: c :: (x ++ i :: d :: y)) := news_sub N fun q hq => by
  simp only [List.mem_cons, List.mem_append] at hq ⊢
  rcases hq with h | h | h | h | h | h | h <;> simp [h]
theorem offA {h₀ h : Heap} {L I D : Addr} {o' : Obj} {l : Addr} {e k : Nat} {cur rows adds : List Row} {b c : Addr × Obj} (N : News h₀ L h ((l, lstObj (cur.map fun r => .ref r.a) e) :: b :: c :: (cur.map Row.obj ++ (I, o') :: (D, W.listOf (adds.map valR).toArray k) :: rows.map Row.obj))) (hc : o'.cls = .type "list_iterator") (ha : adds ≠ []) :
    ∀ q ∈ (I, o') :: (D, W.listOf (adds.map valR).toArray k) :: rows.map Row.obj, q.1 ≠ l := by
  have up : ∀ q ∈ (I, o') :: (D, W.listOf (adds.map valR).toArray k) :: rows.map Row.obj, q ∈ (l, lstObj (cur.map fun r => .ref r.a) e) :: b :: c :: (cur.map Row.obj ++ (I, o') :: (D, W.listOf (adds.map valR).toArray k) :: rows.map Row.obj) := fun q hq => .tail _ (.tail _ (.tail _ (List.mem_append_right _ hq)))
  intro q hq
  have hm := up q hq
  rcases List.mem_cons.mp hq with rfl | hq
  · exact news_ne N hm (.head _) (by rw [hc]; intro e; exact absurd (Value.type.inj e) (by decide))
  · rcases List.mem_cons.mp hq with rfl | hq
    · refine news_ne_obj N hm (.head _) fun q => ?_
      have q1 : (adds.map valR).toArray = (cur.map fun r => Value.ref r.a).toArray := (Data.seq.inj (congrArg Obj.data q)).1
      have q2 : adds.map valR = cur.map fun r => Value.ref r.a := by have := congrArg Array.toList q1; simpa using this
      cases adds with
      | nil => exact ha rfl
      | cons r _ =>
        cases cur with
        | nil => cases q2
        | cons r' _ => have := (List.cons.inj q2).1; cases this
    · obtain ⟨r, _, rfl⟩ := List.mem_map.mp hq
      exact news_ne N hm (.head _) (by simp [lstObj, Row.obj])
theorem offB {h₀ h : Heap} {L I : Addr} {o' : Obj} {all news' : List (Addr × Obj)} (N : News h₀ L h all) (hI : (I, o') ∈ all) (hc : o'.cls = .type "list_iterator") (sub : ∀ p ∈ news', p ∈ all) (hcl : ∀ p ∈ news', p.2.cls ≠ .type "list_iterator") : ∀ p ∈ news', ∀ q ∈ [(I, o')], p.1 ≠ q.1 := fun p hp q hq => by
  rw [List.mem_singleton.mp hq]
  exact news_ne N (o := p.2) (sub p hp) hI (by rw [hc]; exact hcl p hp)
theorem clsA {D l tt td d : Addr} {vs us : List Value} {e k n : Nat} {es : List DictEntry} {x y : List Row} : ∀ p ∈ (D, W.listOf vs.toArray k) :: (l, lstObj us e) :: (tt, instObj 334 d) :: (td, dictOf es n) :: (x.map Row.obj ++ y.map Row.obj), p.2.cls ≠ .type "list_iterator" := by
  intro p hp
  simp only [List.mem_cons, List.mem_append, List.mem_map] at hp
  rcases hp with rfl | rfl | rfl | rfl | ⟨r, _, rfl⟩ | ⟨r, _, rfl⟩
  · simp
  · simp [lstObj]
  · simp [instObj]
  · simp
  · simp [Row.obj]
  · simp [Row.obj]
theorem mem_end {α : Type} {q i d a b c : α} {x y : List α} (h : q ∈ d :: a :: b :: c :: (x ++ y)) : q ∈ a :: b :: c :: (x ++ i :: d :: y) := by
  simp only [List.mem_cons, List.mem_append] at h ⊢
  rcases h with h | h | h | h | h | h <;> simp [h]
theorem tab_in {T : TabZ} {rows cur : List Row} {e : Nat} {rest : List (Addr × Obj)} (hrest : ∀ q ∈ rows.map Row.obj, q ∈ rest) : ∀ q ∈ tabLed T rows, ∃ q' ∈ tabLed { T with e := e } cur ++ rest, q'.1 = q.1 := by
  intro q hq
  rcases List.mem_cons.mp hq with rfl | hq
  · exact ⟨_, .head _, rfl⟩
  · rcases List.mem_cons.mp hq with rfl | hq
    · exact ⟨_, .tail _ (.head _), rfl⟩
    · rcases List.mem_cons.mp hq with rfl | hq
      · exact ⟨_, .tail _ (.tail _ (.head _)), rfl⟩
      · exact ⟨q, List.mem_append_right _ (hrest q hq), rfl⟩
structure SA (adds rows : List Row) (base : List Ab) (c : Nat) (s0 : Heap) where
  fin : List Row
  rest : List Row
  h : fin ++ rest = adds
  cur : List Row
  e : Nat
  ab : cur.map Row.ab = base ++ fin.map fun r => (c, r.t, r.f, r.fl)
  fr : ∀ r ∈ cur, r ∈ rows ∨ s0.get? r.a = none
  v1 : Option Value
structure SG (same : List Row) (tf : Nat × Nat) (oth : List (Addr × Obj)) where
  fin : List Row
  rest : List Row
  h : fin ++ rest = same
  S : Addr
  e : Nat
  ho : ∀ q ∈ oth, q.1 ≠ S
  v1 : Option Value
  v2 : Option Value
  no : ∀ r ∈ fin, (equalB tf.1 tf.2 r.t r.f || lessB tf.1 tf.2 r.t r.f) = false
local macro_rules | `(tactic| walk_at "exec For Name Call cons nil") => `(tactic| (k_here; k_dflt ((rename Fr _ _ _ _ => lF'); (with_unfolding_all refine' For_turns lF' ?_; k_whole))))
local macro_rules | `(tactic| walk_at "exec For Name BinOp cons nil") => `(tactic| (k_here; k_dflt ((rename Fr _ _ _ _ => lF'); (with_unfolding_all refine' For_turns lF' ?_; k_whole))))
local macro_rules | `(tactic| walk_at "call ref") => `(tactic| (k_here; k_dflt (refine' Con.use0 (c_wsT (by with_reducible assumption)) ?B ?F ?X ?T ?hk ?hd ?hu True.intro ?N ?_; (case B => k_asm); (case F => k_asm); (case X => k_asm); (case T => k_asm); (case hk => first | exact rfl | assumption); (case hd => ktr_room); (case hu => ktr_units); (case N => k_asm); intro r h2 tk2 F2 N2 K2 P2; obtain ⟨x2, z2, e2, P3⟩ := P2; subst e2; have N3 := NewIn.news P3 (by k_asm) K2 (by k_asm); clear N2; (try dsimp only [wsLed, List.cons_append, List.nil_append] at N3))))
local macro_rules | `(tactic| walk_at "call ref") => `(tactic| (k_here; k_dflt (refine' ConL.use0n (c_getall (by with_reducible assumption)) ?B ?F ?X ?T ?hk ?hd ?hu True.intro ?N ?hN ?_; (case B => k_asm); (case F => k_asm); (case X => k_asm); (case T => k_asm); (case hk => first | exact rfl | assumption); (case hd => ktr_room); (case hu => ktr_units); (case N => k_asm); (case hN => exact fun q hq => List.mem_append_right [_, _, _, _, _] hq); intro r h2 tk2 F2 N2 K2 FN P2; obtain ⟨D2, e2, P3⟩ := P2; subst e2; have ND := FN D2 (P3 _ (.head _)).1; have N3 := NewIn.news P3 (by k_asm) K2 (by k_asm); clear N2)))
local macro_rules | `(tactic| walk_at "call ref") => `(tactic| (k_here; k_dflt (refine' ConL.use0 (c_lessE ?hb) ?B ?F ?X ?T ?hk ?hd ?hu True.intro ?N ?hN ?_; (case B => k_asm); (case F => k_asm); (case X => k_asm); (case T => k_asm); (case hk => first | exact rfl | assumption); (case hd => ktr_room); (case hu => ktr_units); (case N => k_asm); (case hN => intro q hq; rcases List.mem_append.mp hq with hq | hq; all_goals first | exact List.mem_append_left _ hq | exact List.mem_append_right [_, _, _, _, _, _, _] (List.mem_append_left _ hq)); (case hb => with_reducible assumption); intro r h2 tk2 F2 N2 K2 P2; subst P2)))
local macro_rules | `(tactic| walk_at "call ref") => `(tactic| (k_here; k_dflt (refine' ConL.use0 (c_equalE ?hb) ?B ?F ?X ?T ?hk ?hd ?hu True.intro ?N ?hN ?_; (case B => k_asm); (case F => k_asm); (case X => k_asm); (case T => k_asm); (case hk => first | exact rfl | assumption); (case hd => ktr_room); (case hu => ktr_units); (case N => k_asm); (case hN => intro q hq; rcases List.mem_append.mp hq with hq | hq; all_goals first | exact List.mem_append_left _ hq | exact List.mem_append_right [_, _, _, _, _, _, _] (List.mem_append_left _ hq)); (case hb => with_reducible assumption); intro r h2 tk2 F2 N2 K2 P2; subst P2)))
local macro_rules | `(tactic| walk_at "call ref") => `(tactic| (k_here; k_dflt (refine' ConL.useP (P_del (by with_reducible assumption)) ?B ?F ?X ?T ?hk ?hd ?hu True.intro ?N ?hoff ?_; (case B => k_asm); (case F => k_asm); (case X => k_asm); (case T => k_asm); (case hk => first | exact rfl | assumption); (case hd => ktr_room); (case hu => ktr_units); (case N => k_asm); (case hoff => assumption); intro r h2 tk2 e2 rows2 F2 N2 FO2 hf2 P2)))
local macro_rules | `(tactic| walk_at "call ref") => `(tactic| (k_here; k_dflt (refine' ConL.usePe (P_addE (by with_reducible assumption) (by omega) (by omega)) ?B ?F ?X ?T ?hk ?hd ?hu True.intro ?N ?hoff ?_; (case B => k_asm); (case F => k_asm); (case X => k_asm); (case T => k_asm); (case hk => first | exact rfl | assumption); (case hd => ktr_room); (case hu => ktr_units); (case N => k_asm); (case hoff => assumption); intro r h2 tk2 e2 rows2 F2 N2 FO2 hf2 P2)))
set_option maxHeartbeats 8000000 in
theorem c_lay {T : TabZ} {rows : List Row} (hr : rows.length ≤ 100) {nm t f fl : Nat} (hrow : ∀ r ∈ rows, r.t ≤ 32 ∧ r.f ≤ 32 ∧ 1 ≤ r.fl ∧ r.fl ≤ 7) (hn : t ≤ 32 ∧ f ≤ 32) (hfl : 1 ≤ fl ∧ fl ≤ 7) {k1 k2 : Tok} : ConL prog w p loose mean mg mb 373 [.ref T.t, .str (nmS nm) k1, .str (txt t f fl) k2] 40 (fun _ => True) (tabLed T rows) [T.l]
    (fun s h' _ => ∃ rows', Put T rows rows' s h' ∧ rows'.map Row.ab = layA (rows.map Row.ab) (nm % 2, t, f, fl)) := by
  intro dp un gd cn cs a ccd cl outer A₀ base h₀ L m s Q E B F X T' hk hdp hun _ N hret
  refine wpAny_call ?_
  have N0 := N
  have hr3 : rows.length ≤ 1000 := by omega
  k_dflt (walk_at "my enter")
  intro g L1 h1 FG F1 N1 B1 X1 T1 hG hG' hl1
  dsimp only [tabLed] at N1
  (try dsimp only); (try k_lift B1); (try k_fold)
  k_steps
  rename Fr g _ _ _ => F3
  rename News g _ _ _ => N3
  rename (∀ q : Addr × Obj, q ∈ _ → q.1 ≠ _) => ND
  rename (_ < _) ∧ _ => l1
  have N4 := news_swap N3
  have ho0 := ho_cons N4 ND l1
  refine iter_listTurns (by rfl) F3 N4 (.tail _ (.head _)) rfl rfl ?_
  intro I l2
  refine rest_at (σ := SG (rows.filter (sameN nm)) (t, f) _) (fun st => st.rest.length) (fun st => (st.rest.map valR).map .val)
    (fun m₀ st z => if z = "stay" then some (.ref st.S) else if z = "old" then st.v1 else if z = "mark" then st.v2 else m₀ z)
    (fun n₀ st => (st.S, W.listOf ((st.fin.filter (notLess (t, f))).map valR).toArray st.e) :: n₀.tail)
    ⟨[], _, rfl, _, 0, ho0, none, none, fun _ h => nomatch h⟩ rfl ?_ rfl ?_
  · refine names_ext ["stay", "old", "mark"] (by walk_at "my names") (by walk_at "my rest")
  · clear F3 N3 N4
    intro st IH
    obtain ⟨fin, rest, e1, S, e, ho, v1, v2, no⟩ := st
    cases rest with
    | nil =>
      clear IH
      dsimp only [List.map, List.tail]
      with_unfolding_all refine ItemsRest.zero (fun h' tk' F' N' => ?_)
      have hfin : fin = rows.filter (sameN nm) := by rw [← e1]; simp
      have N5 := news_tabS (T := T) (rows := rows) [_, _, _, _, _] N'
      have ho1 : ∀ q ∈ (S, W.listOf ((fin.filter (notLess (t, f))).map valR).toArray e) :: rows.map Row.obj, q.1 ≠ T.l := List.forall_mem_cons.mpr ⟨Ne.symm (ho _ (List.mem_append_right [_, _, _, _, _] (.head _))), fun q hq => (tabLed_rest N5 (fun q hq => List.mem_append_left _ hq) q (.tail _ (.tail _ hq))).2⟩
      dsimp only [tabLed, List.cons_append] at N5
      clear N' ho
      k_steps
      rename Fr g L1 _ _ => F6
      rename News g L1 _ _ => N6
      rename (List.map Row.ab _ = _) => P2
      rename FreeOf _ _ _ => FO
      rename (∀ r : Row, r ∈ _ → r ∈ rows ∨ _) => hf2
      have hfz := List.length_filter_le (notLess (t, f)) fin
      have hfy : fin.length ≤ 100 := by rw [hfin]; exact Nat.le_trans (List.length_filter_le _ _) hr
      obtain ⟨adds, hadds⟩ : ∃ adds : List Row, adds = fin.filter (notLess (t, f)) ++ [(⟨0, nm, t, f, fl, 0, k2, 0⟩ : Row)] := ⟨_, rfl⟩
      have hal : adds.length ≤ 101 := by rw [hadds]; simp; omega
      have hane : adds ≠ [] := by rw [hadds]; simp
      have hab : ∀ r ∈ adds, r.t ≤ 32 ∧ r.f ≤ 32 := by
        intro r hr'
        rw [hadds] at hr'
        rcases List.mem_append.mp hr' with h | h
        · have h1 := (List.mem_filter.mp h).1
          rw [hfin] at h1
          exact ⟨(hrow r (List.mem_filter.mp h1).1).1, (hrow r (List.mem_filter.mp h1).1).2.1⟩
        · rw [List.mem_singleton.mp h]; exact hn
      refine kmk_add_lit (zs := adds.map valR) F6 N6 (News.isList N6 (List.mem_append_right [_, _, _, _] (List.mem_append_right _ (.head _)))) (News.isList N6 (.head _)) (by rw [hadds]; simp [valR]) ?_ (by simp; exact Nat.le_trans (show _ ≤ 101 by omega) (by decide))
      intro D4 h4 F4 N4 l4
      k_steps
      rename Fr g L1 _ _ => F5
      rename News g L1 _ _ => N7
      have N8 := news_sub (n' := _ :: (T.l, _) :: (T.t, _) :: (T.d, _) :: (_ ++ rows.map Row.obj)) N7 (List.forall_mem_cons.mpr ⟨.head _, fun q hq => .tail _ (.tail _ (mem_mid hq))⟩)
      refine iter_listTurns (by rfl) F5 N8 (.head _) rfl rfl ?_
      intro I5 l5
      refine rest_at (σ := SA adds rows ((rows.map Row.ab).filter fun a => !(a.1 == nm % 2)) (nm % 2) s.heap) (fun st => st.rest.length) (fun st => (st.rest.map valR).map .val)
        (fun m₀ st z => if z = "old" then st.v1 else m₀ z)
        (fun n₀ st => n₀.take 1 ++ (T.l, lstObj (st.cur.map fun r => .ref r.a) st.e) :: (T.t, instObj 334 T.d) :: (T.d, dictOf [⟨T.g, .str "_headers" T.k, .ref T.l⟩] 1) :: (st.cur.map Row.obj ++ rows.map Row.obj))
        ⟨[], adds, rfl, _, _, by rw [P2]; simp, fun r hr => (hf2 r hr).imp id fun z => fresh_of_free hG FO (fun q hq => ⟨q, List.mem_append_left _ hq, rfl⟩) z, v1⟩ rfl ?_ rfl ?_
      · refine names_ext ["old"] (by walk_at "my names") (by walk_at "my rest")
      · (try clear F5); (try clear N8); (try clear F6); (try clear N6); (try clear N7); (try clear F4); (try clear N4); (try clear N5); clear P2 FO hf2
        intro st IH
        obtain ⟨fin2, rest, e3, cur, e5, hcab, hfr, v3⟩ := st
        have hcl : cur.length ≤ 1000 := by
          have z1 : cur.length = (cur.map Row.ab).length := by simp
          have z2 := List.length_filter_le (fun a : Ab => !(a.1 == nm % 2)) (rows.map Row.ab)
          have z3 : fin2.length ≤ adds.length := by rw [← e3]; simp
          rw [z1, hcab]
          simp at z2 ⊢
          omega
        cases rest with
        | nil =>
          clear IH
          dsimp only [List.map, List.take, List.cons_append, List.nil_append]
          with_unfolding_all refine ItemsRest.zero (fun h' tk' F' N' => ?_)
          k_steps
          rename Fr g L1 _ _ => F9
          rename News g L1 _ _ => N9
          refine hret _ _ _ (by assumption) (kept_led hG F9 N9 N0 fun q hq => ?_) ⟨cur, ⟨e5, (N9 _ (.tail _ (.head _))).1, fun r hr => (hfr r hr).imp id fun z => ⟨z, (N9 _ (List.mem_append_right [_, _, _, _] (List.mem_append_left _ (List.mem_map_of_mem hr)))).1⟩⟩, ?_⟩
          · rcases List.mem_cons.mp hq with rfl | hq
            · exact .inl (.head _)
            · rcases List.mem_cons.mp hq with rfl | hq
              · exact .inr (.tail _ (.tail _ (.head _)))
              · rcases List.mem_cons.mp hq with rfl | hq
                · exact .inr (.tail _ (.tail _ (.tail _ (.head _))))
                · exact .inr (List.mem_append_right [_, _, _, _] (List.mem_append_right _ hq))
          · have e4 : fin2 = adds := by rw [← e3]; simp
            rw [hcab, e4, layA_miss (fun r hr => no r (hfin ▸ hr)), hadds, hfin, List.append_assoc]
            congr 1
            rw [List.map_append]
            congr 1
            refine List.map_congr_left fun r hr => ?_
            have z := (List.mem_filter.mp (List.mem_filter.mp hr).1).2
            have z' : r.nm % 2 = nm % 2 := eq_of_beq z
            show (nm % 2, r.t, r.f, r.fl) = (r.nm % 2, r.t, r.f, r.fl)
            rw [z']
        | cons r rest =>
          dsimp only [List.map, List.take, List.cons_append, List.nil_append]
          obtain ⟨hrt, hrf⟩ := hab r (by rw [← e3]; simp)
          with_unfolding_all refine ItemsRest.val (fun h' tk' F' => ?_)
          ktu_objs
          rename News g L1 _ _ => N7
          rename (Obj.cls _ = _) => hc5
          have N6 := news_tabI N7
          have ho2 := offA N6 hc5 hane
          clear N7
          k_steps
          rename Fr g L1 _ _ => F9
          rename News g L1 _ _ => N9
          rename (List.map Row.ab _ = _) => P2
          rename FreeOf _ _ _ => FO
          rename (∀ r : Row, r ∈ _ → r ∈ cur ∨ _) => hf2
          have hf3 : ∀ q ∈ _, q ∈ rows ∨ s.heap.get? q.a = none := fun q hq => (hf2 q hq).elim (hfr q) fun z => .inr (fresh_of_free hG FO (tab_in fun q hq => .tail _ (.tail _ hq)) z)
          refine unrW_mem F9 N9 (_ :: (T.l, _) :: (T.t, _) :: (T.d, _) :: (_ ++ rows.map Row.obj)) (List.forall_mem_cons.mpr ⟨List.mem_append_right [_, _, _] (List.mem_append_right _ (.head _)), List.forall_mem_nil _⟩) (fun p hp => mem_end hp) (offB N9 (List.mem_append_right [_, _, _] (List.mem_append_right _ (.head _))) hc5 (fun p hp => mem_end hp) clsA) ⟨⟨.head _, trivial⟩, ?_⟩
          refine rest_weak (IH ⟨fin2 ++ [r], rest, by rw [← e3]; simp, _, _, by rw [P2, hcab]; simp, hf3, mapOf F9 "old"⟩ (Nat.lt_succ_self _)) ?_ (fun p hp => hp)
          refine names_ext ["old"] (by walk_at "my names") (by walk_at "my rest")
    | cons r rest =>
      dsimp only [List.map, List.tail]
      have hrs : r ∈ rows.filter (sameN nm) := by rw [← e1]; simp
      have hrm : r ∈ rows := (List.mem_filter.mp hrs).1
      have hf7 := (hrow r hrm).2.2
      cases hE : equalB t f r.t r.f with
      | true =>
        with_unfolding_all refine ItemsRest.val (fun h' tk' F' => ?_)
        ktu_objs
        k_steps
        rename Fr g L1 _ _ => F9
        rename News g L1 _ _ => N9
        have Nt := news_sub (n' := tabLed T rows) N9 fun q hq => List.mem_append_right [_, _, _, _, _, _, _, _, _, _, _] hq
        exact hret _ _ _ (by assumption) (kept_led hG F9 N9 N0 fun q hq => .inr (List.mem_append_right [_, _, _, _, _, _, _, _, _, _, _] hq)) ⟨rows, ⟨T.e, (Nt _ (.head _)).1, fun r hr => .inl hr⟩, layA_hit hrs (by rw [hE]; rfl)⟩
      | false =>
        cases hL : lessB t f r.t r.f with
        | true =>
          with_unfolding_all refine ItemsRest.val (fun h' tk' F' => ?_)
          ktu_objs
          k_steps
          rename Fr g L1 _ _ => F9
          rename News g L1 _ _ => N9
          have Nt := news_sub (n' := tabLed T rows) N9 fun q hq => List.mem_append_right [_, _, _, _, _, _, _, _, _, _, _] hq
          exact hret _ _ _ (by assumption) (kept_led hG F9 N9 N0 fun q hq => .inr (List.mem_append_right [_, _, _, _, _, _, _, _, _, _, _] hq)) ⟨rows, ⟨T.e, (Nt _ (.head _)).1, fun r hr => .inl hr⟩, layA_hit hrs (by rw [hE, hL]; rfl)⟩
        | false =>
          cases hM : lessB r.t r.f t f with
          | true =>
            with_unfolding_all refine ItemsRest.val (fun h' tk' F' => ?_)
            ktu_objs
            k_steps
            rename Fr g L1 _ _ => F9
            rename News g L1 _ _ => N9
            rename (Obj.cls _ = _) => hc5
            refine unrW_mem F9 N9 _ (List.forall_mem_cons.mpr ⟨List.mem_append_right [_, _, _, _] (.head _), List.forall_mem_nil _⟩) (fun p hp => List.mem_append_right [_, _, _, _, _] hp) (fun p hp q hq => ?_) ⟨⟨.tail _ (.head _), trivial⟩, ?_⟩
            · rw [List.mem_singleton.mp hq]
              rcases List.mem_cons.mp hp with rfl | hp
              · exact news_ne N9 (List.mem_append_right [_, _, _, _, _] (.head _)) (List.mem_append_right [_, _, _, _] (.head _)) (by rw [hc5]; intro e; exact absurd (Value.type.inj e) (by decide))
              · exact Nat.ne_of_lt (l2 _ (.tail _ hp))
            · refine rest_weak (IH ⟨fin ++ [r], rest, by rw [← e1]; simp, S, e, ho, mapOf F9 "old", mapOf F9 "mark", fun q hq => ?_⟩ (Nat.lt_succ_self _)) ?_ (fun p hp => ?_)
              · rcases List.mem_append.mp hq with hq | hq
                · exact no q hq
                · rw [List.mem_singleton.mp hq]; show (equalB t f r.t r.f || lessB t f r.t r.f) = false; rw [hE, hL]; rfl
              · refine names_ext ["stay", "old", "mark"] (by walk_at "my names") (by walk_at "my rest")
              · dsimp only at hp
                rw [skip_filter (by show (!lessB r.t r.f t f) = false; rw [hM]; rfl)] at hp
                exact hp
          | false =>
            with_unfolding_all refine ItemsRest.val (fun h' tk' F' => ?_)
            ktu_objs
            k_steps
            rename Fr g L1 _ _ => F8
            rename News g L1 _ _ => N8
            rename (Obj.cls _ = _) => hc5
            have hkl : notLess (t, f) r = true := by show (!lessB r.t r.f t f) = true; rw [hM]; rfl
            have hsz : ((fin.filter (notLess (t, f))).map valR).toArray.size ≤ sizeLine := by
              rw [List.size_toArray, List.length_map]
              have z1 := List.length_filter_le (notLess (t, f)) fin
              have z2 : fin.length ≤ (rows.filter (sameN nm)).length := by rw [← e1]; simp
              have z3 := List.length_filter_le (sameN nm) rows
              exact Nat.le_trans (show _ ≤ 100 by omega) (by decide)
            have N7 := news_front [_, _, _, _] N8
            refine append_head F8 N7 (List.forall_mem_cons.mpr ⟨news_ne N7 (.tail _ (.head _)) (.head _) (by rw [hc5]; intro e; exact absurd (Value.type.inj e) (by decide)), ho⟩) hsz ?_
            intro h9 F9 N9
            rw [push_filter hkl] at N9
            k_steps
            refine unrW_mem F9 N9 ((S, W.listOf ((((fin ++ [r]).filter (notLess (t, f))).map valR).toArray) (e + 1)) :: _) (List.forall_mem_cons.mpr ⟨.tail _ (.head _), List.forall_mem_nil _⟩) (fun p hp => (List.mem_cons.mp hp).elim (fun q => q ▸ .head _) fun q => .tail _ (.tail _ q)) (fun p hp q hq => ?_) ⟨⟨.tail _ (.head _), trivial⟩, ?_⟩
            · rw [List.mem_singleton.mp hq]
              rcases List.mem_cons.mp hp with rfl | hp
              · exact news_ne N9 (.head _) (.tail _ (.head _)) (by rw [hc5]; intro e; exact absurd (Value.type.inj e) (by decide))
              · exact Nat.ne_of_lt (l2 _ (.tail _ hp))
            · refine rest_weak (IH ⟨fin ++ [r], rest, by rw [← e1]; simp, S, e + 1, ho, mapOf F9 "old", mapOf F9 "mark", fun q hq => ?_⟩ (Nat.lt_succ_self _)) ?_ (fun p hp => hp)
              · rcases List.mem_append.mp hq with hq | hq
                · exact no q hq
                · rw [List.mem_singleton.mp hq]; show (equalB t f r.t r.f || lessB t f r.t r.f) = false; rw [hE, hL]; rfl
              · refine names_ext ["stay", "old", "mark"] (by walk_at "my names") (by walk_at "my rest")
end

theorem offTN : True := by
  w_top off
  trivial
def itL (D : Addr) (i : Nat) : Obj := { cls := .type "list_iterator", data := .fields #[.ref D, .int (i : Int) 0] }
section
variable {prog : Program} {w : World} {A : Around} {E : Value → Shared → Prop} {s : Shared} {h₀ : Heap} {L D it : Addr} {m : Str → Option Value} {news : List (Addr × Obj)} {Q : Value → Shared → Prop}
theorem iter_list {lo : Obj} {vs : List Value} {n : Nat} (F : Fr h₀ L s.heap m) (N : News h₀ L s.heap news) (hm : (D, lo) ∈ news) (hc : lo.cls = .type "list") (hd : lo.data = .seq vs.toArray n)
    (h : ∀ (I : Addr) h', Fr h₀ L h' m → News h₀ L h' ((I, itL D 0) :: news) → (∀ p ∈ news, p.1 < I) → Q (.ref I) { s with heap := h' }) :
    wpAny (model prog w) A (call (.builtin "iter") [.ref D]) Q E s := by
  refine call_function_entry (by decide +kernel) (by decide +kernel) kdk_entry_iter (kdk_args_iter _) ?_
  unfold Builtin.«iter»
  refine wpAny_bind (m := someArgs "iter" 1 2 _) (wpAny_of_eq (a := [Value.ref D]) (by first | rfl | kernel_rfl!) ?_)
  show wpAny _ _ (pyIter (.ref D) >>= _) _ _ _
  refine wpAny_bind (wpAny_pyIter_list ⟨lo, (N _ hm).1, hc, n, hd⟩ ?_)
  exact wpAny_pure ⟨_, rfl, h _ _ (F.push _) (News.push F N (itL D 0) rfl) fun q hq => Heap.lt_size (N q hq).1⟩
theorem next_item {lo : Obj} {vs : List Value} {n i : Nat} {x : Value} (F : Fr h₀ L s.heap m) (N : News h₀ L s.heap ((it, itL D i) :: news)) (hm : (D, lo) ∈ news) (hc : lo.cls = .type "list") (hd : lo.data = .seq vs.toArray n) (ho : ∀ q ∈ news, q.1 ≠ it) (hx : vs[i]? = some x)
    (h : ∀ h', Fr h₀ L h' m → News h₀ L h' ((it, itL D (i + 1)) :: news) → Q x { s with heap := h' }) :
    wpAny (model prog w) A (call (.builtin "next") [.ref it]) Q E s := by
  have hit := N _ (.head _)
  have hT : s.TypeIs (.ref it) "list_iterator" := ⟨_, hit.1, rfl⟩
  have hol := (N _ (.tail _ hm)).1
  refine call_function_entry (by decide +kernel) (by decide +kernel) kdk_entry_next (kdk_args_next _) ?_
  unfold Builtin.«next»
  refine wpAny_bind (m := someArgs "next" 1 2 _) (wpAny_of_eq (a := [Value.ref it]) (by first | rfl | kernel_rfl!) ?_)
  dsimp only
  refine wpAny_bind (wpAny_specialOf (name := Str.ofString "__next__") hT slot_listiter_next.lookup ?_)
  refine wpAny_ite_split (fun hab => absurd hab (by decide)) (fun _ => ?_)
  refine wpAny_bind (wpAny_callSpecial?_slot (name := Str.ofString "__next__") hT slot_listiter_next (wpAny_call_entry slot_listiter_next hT entry_listiter_next ?_ (args_listiter_next _)))
  show wpAny _ _ (field (.ref it) 0 >>= _) _ _ s
  refine wpAny_bind (wpAny_field hit.1 rfl (x := .ref D) rfl ?_)
  show wpAny _ _ (if (Value.ref D == Value.none) = true then _ else _) _ _ s
  rw [if_neg (show ¬ ((Value.ref D == Value.none) = true) from Bool.false_ne_true)]
  show wpAny _ _ (field (.ref it) 1 >>= _) _ _ s
  refine wpAny_bind (wpAny_field hit.1 rfl (x := .int i 0) rfl ?_)
  show wpAny _ _ (seqItems? (.ref D) >>= _) _ _ s
  refine wpAny_bind (wpAny_seqItems hol hd ?_)
  simp only [Int.toNat_natCast, List.getElem?_toArray, hx]
  refine wpAny_bind (wpAny_setField hit.1 rfl (by simp) (wpAny_pure ⟨x, rfl, wpAny_pure ⟨_, rfl, ?_⟩⟩))
  refine h _ (F.change (Heap.SameBut.update ..) hit.2.1 hit.2.2) fun q hq => ?_
  rcases List.mem_cons.mp hq with rfl | hq
  · refine ⟨?_, hit.2⟩
    rw [Heap.get?_update_self _ hit.1 rfl]
    rfl
  · have z := N q (.tail _ hq)
    exact ⟨(Heap.get?_update_other _ _ (Ne.symm (ho q hq))).trans z.1, z.2⟩
theorem next_end {lo : Obj} {vs : List Value} {n i : Nat} (hh : A.handled = none) (F : Fr h₀ L s.heap m) (N : News h₀ L s.heap ((it, itL D i) :: news)) (hm : (D, lo) ∈ news) (hc : lo.cls = .type "list") (hd : lo.data = .seq vs.toArray n) (ho : ∀ q ∈ news, q.1 ≠ it) (hx : vs[i]? = none)
    (h : ∀ h₁ h' e, Fr h₀ L h₁ m → News h₀ L h₁ news → Heap.NewExc h₁ h' e "StopIteration" → E (.ref e) { s with heap := h' }) :
    wpAny (model prog w) A (call (.builtin "next") [.ref it]) Q E s := by
  have hit := N _ (.head _)
  have hT : s.TypeIs (.ref it) "list_iterator" := ⟨_, hit.1, rfl⟩
  have hol := (N _ (.tail _ hm)).1
  refine call_function_entry (by decide +kernel) (by decide +kernel) kdk_entry_next (kdk_args_next _) ?_
  unfold Builtin.«next»
  refine wpAny_bind (m := someArgs "next" 1 2 _) (wpAny_of_eq (a := [Value.ref it]) (by first | rfl | kernel_rfl!) ?_)
  dsimp only
  refine wpAny_bind (wpAny_specialOf (name := Str.ofString "__next__") hT slot_listiter_next.lookup ?_)
  refine wpAny_ite_split (fun hab => absurd hab (by decide)) (fun _ => ?_)
  refine wpAny_bind (wpAny_callSpecial?_slot (name := Str.ofString "__next__") hT slot_listiter_next (wpAny_call_entry slot_listiter_next hT entry_listiter_next ?_ (args_listiter_next _)))
  show wpAny _ _ (field (.ref it) 0 >>= _) _ _ s
  refine wpAny_bind (wpAny_field hit.1 rfl (x := .ref D) rfl ?_)
  show wpAny _ _ (if (Value.ref D == Value.none) = true then _ else _) _ _ s
  rw [if_neg (show ¬ ((Value.ref D == Value.none) = true) from Bool.false_ne_true)]
  show wpAny _ _ (field (.ref it) 1 >>= _) _ _ s
  refine wpAny_bind (wpAny_field hit.1 rfl (x := .int i 0) rfl ?_)
  show wpAny _ _ (seqItems? (.ref D) >>= _) _ _ s
  refine wpAny_bind (wpAny_seqItems hol hd ?_)
  simp only [Int.toNat_natCast, List.getElem?_toArray, hx]
  refine wpAny_bind (wpAny_rule (wpAny_bind (wpAny_setField hit.1 rfl (by simp) ?_)))
  show wpAny _ _ (newExc (.type "StopIteration") [] >>= _) _ _ _
  refine wpAny_bind ?_
  simp only [newExc, newTuple]
  refine wpAny_bind (wpAny_newObj_type ?_ (by size_fits))
  refine wpAny_bind (m := firstArgMember _ _) (wpAny_of_eq (a := Value.none) (by first | rfl | (simp only [firstArgMember]; rfl)) ?_)
  refine wpAny_newObj_type ?_ (by size_fits)
  simp only [raiseNew]
  refine wpAny_bind (wpAny_handled ?_)
  first | rw [show A.in1.in1.handled = none from hh] | rw [show A.in1.handled = none from hh] | rw [hh]
  refine wpAny_bind (wpAny_pure (wpAny_throw ?_))
  refine h _ _ _ (F.change (Heap.SameBut.update ..) hit.2.1 hit.2.2) (fun q hq => ?_) ⟨fun b o y => Heap.get?_push_of_some _ (Heap.get?_push_of_some _ y), ?_, ⟨_, _, Heap.get?_push_size _ rfl, rfl, rfl⟩⟩
  · have z := N q (.tail _ hq)
    exact ⟨(Heap.get?_update_other _ _ (Ne.symm (ho q hq))).trans z.1, z.2⟩
  · refine Heap.get?_none_of_le ?_
    rw [Heap.size_push]
    exact Nat.le_succ _
end

theorem offPA : True := by
  w_top off
  trivial
section
variable {prog : Program} {w : World} {p : Program} {loose : List Str} {mean : ExcName → Option Value} {mg mb : Str → Option Value}
theorem and_val {A : Around} {E : Value → Shared → Prop} {s : Shared} {a b c : Int} {t u : Tok} {Q : Value → Shared → Prop} (h : PySem.Builtin.bitAnd a b = c) (k : Q (.int c s.toks) { s with toks := s.toks + 1 }) : wpAny (model prog w) A (binaryOp .BitAnd (.int a t) (.int b u)) Q E s := and_int (h ▸ k)
theorem ior_val {A : Around} {E : Value → Shared → Prop} {s : Shared} {a b c : Int} {t u : Tok} {Q : Value → Shared → Prop} (h : PySem.Builtin.bitOr a b = c) (k : Q (.int c s.toks) { s with toks := s.toks + 1 }) : wpAny (model prog w) A (inplaceOp .BitOr (.int a t) (.int b u)) Q E s := ior_int (h ▸ k)
theorem ishl_val {A : Around} {E : Value → Shared → Prop} {s : Shared} {q : Nat} {t u : Tok} {Q : Value → Shared → Prop} (hq : q < 64) (k : Q (.int ((64 * q : Nat) : Int) s.toks) { s with toks := s.toks + 1 }) : wpAny (model prog w) A (inplaceOp .LShift (.int (q : Int) t) (.int 6 u)) Q E s :=
  ilshift_int_small (by decide) (by decide) (by rw [Int.natAbs_natCast]; omega) (by rw [show ((q : Int) * 2 ^ (6 : Int).toNat) = ((64 * q : Nat) : Int) by show (q : Int) * 64 = _; omega]; exact k)
theorem pb1 {q : Nat} (h : q < 64) : PySem.Builtin.bitAnd ((192 + q : Nat) : Int) 63 = (q : Int) ∧ PySem.Builtin.bitAnd ((192 + q : Nat) : Int) 64 = 64 ∧ PySem.Builtin.bitAnd (q : Int) 63 = (q : Int) ∧ PySem.Builtin.bitAnd (q : Int) 64 = 0 := by
  have : ∀ q : Nat, q < 64 → PySem.Builtin.bitAnd ((192 + q : Nat) : Int) 63 = (q : Int) ∧ PySem.Builtin.bitAnd ((192 + q : Nat) : Int) 64 = 64 ∧ PySem.Builtin.bitAnd (q : Int) 63 = (q : Int) ∧ PySem.Builtin.bitAnd (q : Int) 64 = 0 := by decide +kernel
  exact this q h
theorem pb2 {q r : Nat} (h : q < 64) (h' : r < 64) : PySem.Builtin.bitOr ((64 * q : Nat) : Int) (r : Int) = ((64 * q + r : Nat) : Int) := by
  have : ∀ q : Nat, q < 64 → ∀ r : Nat, r < 64 → PySem.Builtin.bitOr ((64 * q : Nat) : Int) (r : Int) = ((64 * q + r : Nat) : Int) := by decide +kernel
  exact this q h r h'
section
local macro_rules | `(tactic| walk_at "call builtin:next") => `(tactic| (k_here; k_dflt ((rename Fr _ _ _ _ => lF'); (rename News _ _ _ _ => lN'); (refine next_item lF' lN' (.head _) rfl rfl (List.forall_mem_cons.mpr ⟨news_ne lN' (.tail _ (.head _)) (.head _) (by simp [lstObj, itL]), List.forall_mem_nil _⟩) (by assumption) ?_); clear lF' lN'; intro h' F' N')))
local macro_rules | `(tactic| walk_at "exec While") => `(tactic| (k_here; k_dflt (refine whl_start 2 ?_)))
local macro_rules | `(tactic| walk_at "exec While BinOp") => `(tactic| (k_here; k_dflt (refine whl_start 2 ?_)))
local macro_rules | `(tactic| walk_at "binaryOp BitAnd int int") => `(tactic| (k_here; k_dflt (refine and_val (by assumption) ?_)))
local macro_rules | `(tactic| walk_at "inplaceOp BitOr int int") => `(tactic| (k_here; k_dflt (refine ior_val (by assumption) ?_)))
local macro_rules | `(tactic| walk_at "inplaceOp LShift int int") => `(tactic| (k_here; k_dflt (refine ishl_val (by assumption) ?_)))
set_option maxHeartbeats 8000000 in
theorem c_parse {D I : Addr} {vs : List Value} {n i q r : Nat} {t1 t2 : Tok} (hq : q < 64) (hr : r < 64) (h1 : vs[i]? = some (.int ((192 + q : Nat) : Int) t1)) (h2 : vs[i + 1]? = some (.int (r : Int) t2)) :
    ConL prog w p loose mean mg mb 119 [.ref I] 4 (fun _ => True) [(I, itL D i), (D, lstObj vs n)] [I] (fun s h' v => (∃ t, v = .int ((64 * q + r : Nat) : Int) t) ∧ h'.get? I = some (itL D (i + 2))) := by
  intro dp un gd cn cs a ccd cl outer A₀ base h₀ L m s Q E B F X T' hk hdp hun _ N hret
  refine wpAny_call ?_
  have N0 := N
  obtain ⟨a1, a2, _, _⟩ := pb1 hq
  obtain ⟨_, _, a3, a4⟩ := pb1 hr
  have a5 := pb2 hq hr
  k_dflt (walk_at "my enter")
  intro g L1 h1 FG F1 N1 B1 X1 T1 hG hG' hl1
  (try dsimp only); (try k_lift B1); (try k_fold)
  k_steps
  rename Fr g _ _ _ => F9
  rename News g _ _ _ => N9
  exact hret _ _ _ (by assumption) (kept_led hG F9 N9 N0 (List.forall_mem_cons.mpr ⟨.inl (.head _), List.forall_mem_cons.mpr ⟨.inr (.tail _ (.head _)), List.forall_mem_nil _⟩⟩)) ⟨⟨_, rfl⟩, (N9 _ (.head _)).1⟩
end
end

theorem offPB : True := by
  w_top off
  trivial
section
variable {prog : Program} {w : World} {p : Program} {loose : List Str} {mean : ExcName → Option Value} {mg mb : Str → Option Value}
set_option maxHeartbeats 8000000 in
theorem c_parseEnd {D I : Addr} {vs : List Value} {n i : Nat} (hx : vs[i]? = none) {dp un : Nat} {gd : Option (List Code)} {cn : Str} {cs : Scope} {a : Addr} {ccd : Value} {cl : List (Str × Addr)} {outer : List Env} {A₀ : Around} {base h₀ : Heap} {L : Addr} {m : Str → Option Value} {s : Shared} {Q E : Value → Shared → Prop} {news : List (Addr × Obj)}
    (B : Below A₀ base outer h₀) (F : Fr h₀ L s.heap m) (X : (hd.heap_39 w.params).In h₀) (T' : Top p loose mean mg mb h₀) (hk : cs.kind = .function) (hdp : dp + 4 < recursionLimit) (hun : un + 8 * 4 < cLine)
    (N : News h₀ L s.heap ((I, itL D i) :: (D, lstObj vs n) :: news)) (ho : ∀ q ∈ (D, lstObj vs n) :: news, q.1 ≠ I)
    (hE : ∀ e h' tk' G, Fr h₀ L G m → RaisedSN base G (envX cn cs L a ccd cl :: outer) e (.type "StopIteration") ((D, lstObj vs n) :: news) h' → G.UpToSlots h' → E (.ref e) { s with heap := h', toks := tk' }) :
    wpAny (model prog w) (ktrTop dp un gd cn cs L a ccd cl outer) (call (.ref 119) [.ref I]) Q E s := by
  refine wpAny_call ?_
  have N0 := N
  k_dflt (walk_at "my enter")
  intro g L1 h1 FG F1 N1 B1 X1 T1 hG hG' hl1
  (try dsimp only); (try k_lift B1); (try k_fold)
  k_steps
  refine next_end rfl F1 N1 (.head _) rfl rfl ho hx ?_
  intro h2 h3 e F2 N2 hx2
  refine leave_newS B1 hx2 F2 N2 ?_
  intro h4 R4 _ U4
  exact hE _ _ _ _ FG R4 U4
end

theorem offCT : True := by
  w_top off
  trivial
def frs (l : List Env) : List Addr := l.filterMap (·.frame)
def KeptF (ch fs : List Addr) (h h' : Heap) : Prop := ∀ b o, b ∉ ch → b ∉ fs → h.get? b = some o → h'.get? b = some o
/-- what the callee must leave behind -/
def LeaveT (prog : Program) (w : World) (p : Program) (loose : List Str) (mean : ExcName → Option Value) (mg mb : Str → Option Value) (A₀ : Around) (base : Heap) (env : Env) (outer : List Env) (h₀ : Heap) (L : Addr) (m : Str → Option Value) (g : Heap) (R : Result → Shared → Prop) (v : Value) (s' : Shared) : Prop :=
  ∃ g' L' m', KtsTurn (frs (env :: outer)) g g' ∧ Fr g' L' s'.heap m' ∧
    ∀ h₀', KtsTurn (frs outer) h₀ h₀' → Fr h₀' L s'.heap m → Below A₀ base outer h₀' → (hd.heap_39 w.params).In h₀' → Top p loose mean mg mb h₀' → KtsDicts (frs outer) h₀' → R (.ok (.ret v)) s'
section
variable {prog : Program} {w : World} {A A₀ : Around} {s : Shared} {L : Addr} {h₀ base : Heap} {m mg mb : Str → Option Value} {news : List (Addr × Obj)} {p : Program} {loose : List Str} {mean : ExcName → Option Value}
theorem frs_cons {env : Env} {outer : List Env} {L b : Addr} (hf : env.frame = some L) (h : b ∈ frs (env :: outer)) : b = L ∨ b ∈ frs outer := by
  obtain ⟨e, he, hb⟩ := List.mem_filterMap.mp h
  rcases List.mem_cons.mp he with rfl | he
  · rw [hf] at hb; exact .inl (Option.some.inj hb).symm
  · exact .inr (List.mem_filterMap.mpr ⟨e, he, hb⟩)
theorem enter_S {env : Env} {outer : List Env} {R : Result → Shared → Prop} {name qual : Str} {params : Arguments} {body : List Stmt} {scope : Scope} {dV kV doc pm cdv ct oc : Value} {an od : Option Addr} {osl : Array (Option Value)} {f : Addr} {args : Args} {binds : List (Str × Value)}
    (B : Below A₀ base outer h₀) (F : Fr h₀ L s.heap m) (X₀ : (hd.heap_39 w.params).In h₀) (N : News h₀ L s.heap news) (T : Top p loose mean mg mb h₀) (XB : (hd.heap_39 w.params).In base) (TB : Top p loose mean mg mb base) (D : KtsDicts (frs outer) h₀)
    (hA : A.frames = some (env :: outer)) (hf : env.frame = some L) (hke : env.scope.kind = .function)
    (ho : (hd.heap_39 w.params).lookup f = some ⟨oc, od, .func (fnOf name qual params body scope dV kV doc pm an cdv ct), osl⟩) (hcd : codeIn (hd.heap_39 w.params) cdv qual = true) (hroom : A.depth < recursionLimit)
    (hbind : BindsTo s (fnOf name qual params body scope dV kV doc pm an cdv ct) args binds) (hloc : ∀ y ∈ binds, scope.names.lookup y.1 = some .local)
    (h : ∀ g L' h₁, Fr h₀ L g m → Fr g L' h₁ (fun y => binds.reverse.lookup y) → News g L' h₁ news → Below A base (env :: outer) g → (hd.heap_39 w.params).In g → Top p loose mean mg mb g → KtsDicts (frs (env :: outer)) g →
      (∀ b o, b ∉ news.map (·.1) → s.heap.get? b = some o → g.get? b = some o) → (∀ b o, g.get? b = some o → s.heap.get? b = some o) → (∀ p ∈ news, p.1 < L') →
      wpAny (model prog w) (A.deeper (envOf qual scope L' f cdv)) (execs body (envOf qual scope L' f cdv))
        (fun fl s' => LeaveT prog w p loose mean mg mb A₀ base env outer h₀ L m g R (match fl with | .ret v => v | _ => .none) s')
        (fun e s' => wpAny (model prog w) (A.deeper (envOf qual scope L' f cdv)) (leaving (envOf qual scope L' f cdv) e) (fun _ s'' => R (.error e) s'') (fun e' s'' => R (.error e') s'') s')
        { s with heap := h₁, toks := s.toks + binds.length })
    (hco : scope.isCoroutine = false) (hgen : scope.isGenerator = false) (hk : scope.kind = .function)
    (hcell : ∀ x ∈ scope.names, x.2 ≠ .cell) : codeAny (model prog w) A (.call (.ref f) args) R s := by
  obtain ⟨FG, BG, st, lv⟩ := groundX (R := R) B F N hA hf hke
  have X : (hd.heap_39 w.params).In s.heap := X₀.keeps F.keep
  obtain ⟨oL, es, ep, hL, hLd, hLk, hLf⟩ := FG.ns
  have DG : KtsDicts (frs (env :: outer)) (hideAll s.heap (news.map (·.1))) := fun b hb => by
    rcases frs_cons hf hb with rfl | hb
    · exact ⟨oL, es, ep, hL, hLd⟩
    · obtain ⟨o, es', n', ho', hd'⟩ := D b hb
      exact ⟨o, es', n', st b o ho', hd'⟩
  refine codeAny_call_def (fd := fnOf name qual params body scope dV kV doc pm an cdv ct) (body := body) (binds := binds) hroom (X _ _ ho) rfl (T.nolimit.keeps F.keep) (codeRec_of X hcd) rfl hbind hcell hloc (fun h₁ hns hk₁ => ?_) hco hgen hk
  refine wpAny_mono (h _ s.heap.objs.size h₁ FG ⟨hns, fun b o e => hk₁ b o (of_hideAll _ e), Nat.le_of_eq (hideAll_size _ _)⟩
    (fun p hp => ⟨hk₁ _ _ (N p hp).1, Nat.ne_of_lt (Heap.lt_size (N p hp).1), hideAll_none _ (List.mem_map_of_mem hp)⟩) BG (X₀.keeps st) (T.keeps st) DG
    (fun b o hn e => hideAll_get _ e hn) (fun b o e => of_hideAll _ e) (fun p hp => Heap.lt_size (N p hp).1)) (fun fl s' hl => ?_) fun _ _ y => y
  obtain ⟨g', L', m', T', F', k⟩ := hl
  have nL₀ : h₀.get? L = none := kts_self F
  obtain ⟨sl, hs⟩ := T'.up hL
  obtain ⟨T₁, S₁⟩ := kts_turn_at (h := s'.heap) (fs := frs outer) (g := h₀)
    (fun b hb => by
      obtain ⟨_, o, ho', _⟩ := B.frames.mem hb
      exact ⟨o, ho'⟩)
    (fun b o e nmem => F'.keep b o (T'.other b o (st b o e) (fun q => by
      rcases frs_cons hf q with z | z
      · rw [z, nL₀] at e
        cases e
      · exact nmem z)))
    (fun b o e hm => by
      obtain ⟨sl', hs'⟩ := T'.up (st b o e)
      exact ⟨sl', F'.keep _ _ hs'⟩)
  have B₃ : Below A₀ base outer (ktsHeap s'.heap (frs outer) h₀) := ⟨B.stack, fun b o e => T₁.other b o (B.stays b o e) (fun hm => by
    rw [(B.frames.mem hm).1] at e
    cases e), B.frames.of_keeps fun b o e _ => by
    obtain ⟨sl', hs'⟩ := T₁.up e
    exact ⟨_, hs', rfl⟩⟩
  exact k _ T₁ ⟨⟨_, es, ep, F'.keep _ _ hs, hLd, hLk, hLf⟩, S₁, by rw [T₁.size]; exact F.above⟩ B₃ (XB.keeps B₃.stays) (TB.keeps B₃.stays) (D.turn T₁)
end
/-- what a call of f with vs does, when an exception may be caught under it -/
def ConT (prog : Program) (w : World) (p : Program) (loose : List Str) (mean : ExcName → Option Value) (mg mb : Str → Option Value) (f : Addr) (vs : List Value) (n : Nat) (H : Heap → Prop) (led : List (Addr × Obj)) (ch : List Addr) (P : Heap → Heap → Value → Prop) : Prop :=
  ∀ (dp un : Nat) (gd : Option (List Code)) (cn : Str) (cs : Scope) (a : Addr) (ccd : Value) (cl : List (Str × Addr)) (outer : List Env) (A₀ : Around) (base h₀ : Heap) (L : Addr) (m : Str → Option Value) (s : Shared) (Q E : Value → Shared → Prop),
    Below A₀ base outer h₀ → Fr h₀ L s.heap m → (hd.heap_39 w.params).In h₀ → Top p loose mean mg mb h₀ → (hd.heap_39 w.params).In base → Top p loose mean mg mb base → KtsDicts (frs outer) h₀ → cs.kind = .function → dp + n < recursionLimit → un + 8 * n < cLine →
    H s.heap → News h₀ L s.heap led →
    (∀ r h' tk' h₀', KtsTurn (frs outer) h₀ h₀' → Fr h₀' L h' m → Below A₀ base outer h₀' → (hd.heap_39 w.params).In h₀' → Top p loose mean mg mb h₀' → KtsDicts (frs outer) h₀' → KeptF (L :: ch) (frs outer) s.heap h' → P s.heap h' r → Q r { s with heap := h', toks := tk' }) →
    wpAny (model prog w) (ktrTop dp un gd cn cs L a ccd cl outer) (call (.ref f) vs) Q E s
section
variable {p : Program} {w : World} {loose : List Str} {mean : ExcName → Option Value} {mg mb : Str → Option Value} {base h₀ h₀' : Heap} {L : Addr} {m : Str → Option Value} {outer : List Env} {A₀ : Around}
theorem keptF_get {s h' : Heap} {ch : List Addr} {b : Addr} {o : Obj} (K : KeptF (L :: ch) (frs outer) s h') (B : Below A₀ base outer h₀) (hL : b ≠ L) (h0 : h₀.get? b = none) (hc : b ∉ ch) (h : s.get? b = some o) : h'.get? b = some o :=
  K b o (fun q => (List.mem_cons.mp q).elim hL hc) (fun q => by
    obtain ⟨_, o', ho, _⟩ := B.frames.mem q
    rw [h0] at ho; cases ho) h
theorem keptF_news {s h' : Heap} {ch : List Addr} {news : List (Addr × Obj)} (K : KeptF (L :: ch) (frs outer) s h') (B : Below A₀ base outer h₀) (T : KtsTurn (frs outer) h₀ h₀') (N : News h₀ L s news) (hc : ∀ q ∈ news, q.1 ∉ ch) : News h₀' L h' news := fun q hq =>
  have z := N q hq
  ⟨keptF_get K B z.2.1 z.2.2 (hc q hq) z.1, z.2.1, T.none_ _ z.2.2⟩
end

theorem offTA : True := by
  w_top off
  trivial
def numA (x : Ab) : Nat := x.1 + 2 * (x.2.1 + 6 * (x.2.2.1 + 6 * x.2.2.2))
def octA (x : Ab) : List Int := [((192 + numA x / 64 : Nat) : Int), ((numA x % 64 : Nat) : Int)]
theorem octs_ab (rows : List Row) : octs rows = (rows.map Row.ab).flatMap octA := by
  unfold octs
  rw [List.flatMap_map]
  rfl
theorem news_tabJ {h₀ h : Heap} {L : Addr} {i a b c d : Addr × Obj} {x y : List (Addr × Obj)} (N : News h₀ L h (i :: a :: b :: c :: (x ++ [d]))) (hy : ∀ q ∈ y, q ∈ x ++ [d]) : News h₀ L h (a :: b :: c :: (x ++ i :: d :: y)) := news_sub N fun q hq => by
  have hy := hy q
  simp only [List.mem_cons, List.mem_append] at hq hy ⊢
  rcases hq with h | h | h | h | h | h | h
  · simp [h]
  · simp [h]
  · simp [h]
  · simp [h]
  · simp [h]
  · simp [h]
  · rcases hy h with h | h | h
    · simp [h]
    · simp [h]
    · cases h
theorem layA_mem {l : List Ab} {x a : Ab} (h : a ∈ layA l x) : a ∈ l ∨ a = x := by
  unfold layA at h
  split at h
  · exact .inl h
  · rcases List.mem_append.mp h with h | h
    · rcases List.mem_append.mp h with h | h
      · exact .inl (List.mem_filter.mp h).1
      · exact .inl (List.mem_filter.mp h).1
    · exact .inr (List.mem_singleton.mp h)
theorem foldA_mem {a : Ab} : ∀ (us : List Ab) {l : List Ab}, a ∈ us.foldl layA l → a ∈ l ∨ a ∈ us
  | [], _, h => .inl h
  | u :: us, l, h => by
    rcases foldA_mem us h with h | h
    · rcases layA_mem h with h | h
      · exact .inl h
      · exact .inr (h ▸ .head _)
    · exact .inr (.tail _ h)
theorem layA_len (l : List Ab) (x : Ab) : (layA l x).length ≤ l.length + 1 := by
  unfold layA
  split
  · exact Nat.le_succ _
  · rw [List.length_append, List.length_append]
    have : ∀ (c : Ab → Bool) (d : Ab → Bool) (l : List Ab), (l.filter fun a => !c a).length + (l.filter fun a => c a && d a).length ≤ l.length := by
      intro c d l
      induction l with
      | nil => exact Nat.le_refl _
      | cons a r ih =>
        simp only [List.filter_cons]
        cases c a <;> cases d a <;> simp <;> omega
    have z := this (fun a => a.1 == x.1) (fun a => !lessB a.2.1 a.2.2.1 x.2.1 x.2.2.1) l
    simp only [List.length_singleton]
    omega
theorem foldA_len : ∀ (us l : List Ab), (us.foldl layA l).length ≤ l.length + us.length
  | [], _ => Nat.le_refl _
  | u :: us, l => by
    have z1 := foldA_len us (layA l u)
    have z2 := layA_len l u
    simp only [List.foldl_cons, List.length_cons]
    omega
theorem intsAt {vs : List Value} {ns : List Int} {i : Nat} {x : Int} (h : IntsAre vs ns) (e : ns[i]? = some x) : ∃ t, vs[i]? = some (.int x t) := by
  induction h generalizing i with
  | nil => simp at e
  | cons n t _ ih =>
    cases i with
    | zero => simp at e; subst e; exact ⟨t, rfl⟩
    | succ i => simp at e; simpa using ih e
theorem oct_len (us : List Ab) : (us.flatMap octA).length = 2 * us.length := by
  induction us with
  | nil => rfl
  | cons u us ih => simp only [List.flatMap_cons, List.length_append, List.length_cons, octA, ih, List.length_nil]; omega
theorem octs_at {vs : List Value} {fin rest : List Ab} {u : Ab} (h : IntsAre vs ((fin ++ u :: rest).flatMap octA)) : ∃ t1 t2, vs[2 * fin.length]? = some (.int ((192 + numA u / 64 : Nat) : Int) t1) ∧ vs[2 * fin.length + 1]? = some (.int ((numA u % 64 : Nat) : Int) t2) := by
  have e : (fin ++ u :: rest).flatMap octA = fin.flatMap octA ++ (octA u ++ rest.flatMap octA) := by simp
  rw [e] at h
  have hl := oct_len fin
  obtain ⟨t1, h1⟩ := intsAt (i := 2 * fin.length) (x := ((192 + numA u / 64 : Nat) : Int)) h (by rw [List.getElem?_append_right (by omega), hl, Nat.sub_self]; rfl)
  obtain ⟨t2, h2⟩ := intsAt (i := 2 * fin.length + 1) (x := ((numA u % 64 : Nat) : Int)) h (by rw [List.getElem?_append_right (by omega), hl, Nat.add_sub_cancel_left]; rfl)
  exact ⟨t1, t2, h1, h2⟩
theorem octs_none {vs : List Value} {us : List Ab} (h : IntsAre vs (us.flatMap octA)) : vs[2 * us.length]? = none := by
  have := ints_len h
  rw [oct_len] at this
  exact List.getElem?_eq_none (by omega)
theorem num_at {u : Ab} (h1 : u.1 < 2) (h2 : u.2.1 ≤ 5) (h3 : u.2.2.1 ≤ 5) (h7 : u.2.2.2 ≤ 7) : numA u ≤ 575 ∧ (numA u : Int).fmod 2 = (u.1 : Int) ∧ ((numA u : Int).fdiv 2).fmod 6 = (u.2.1 : Int) ∧ ((numA u : Int).fdiv 12).fmod 6 = (u.2.2.1 : Int) ∧ (numA u : Int).fdiv 72 = (u.2.2.2 : Int) := by
  have e : numA u = u.1 + 2 * (u.2.1 + 6 * (u.2.2.1 + 6 * u.2.2.2)) := rfl
  refine ⟨by omega, ?_, ?_, ?_, ?_⟩
  · rw [Int.fmod_eq_emod_of_nonneg _ (by decide)]; omega
  · rw [Int.fdiv_eq_ediv_of_nonneg _ (by decide), Int.fmod_eq_emod_of_nonneg _ (by decide)]; omega
  · rw [Int.fdiv_eq_ediv_of_nonneg _ (by decide), Int.fmod_eq_emod_of_nonneg _ (by decide)]; omega
  · rw [Int.fdiv_eq_ediv_of_nonneg _ (by decide)]; omega
theorem item_nm {c : Nat} (h : c < 2) {x : Int} (e : x = (c : Int)) : Txt.item (Str.ofString "KM") x = nmS (2 + c) := by
  subst e
  have : ∀ c : Nat, c < 2 → Txt.item (Str.ofString "KM") (c : Int) = nmS (2 + c) := by decide +kernel
  exact this c h
theorem news_tabK {h₀ h : Heap} {L : Addr} {i a b c d : Addr × Obj} {x y : List (Addr × Obj)} (N : News h₀ L h (a :: b :: c :: (x ++ i :: d :: y))) : News h₀ L h (i :: d :: a :: b :: c :: (x ++ y)) := news_sub N fun q hq => by
  simp only [List.mem_cons, List.mem_append] at hq ⊢
  rcases hq with h | h | h | h | h | h | h <;> simp [h]
theorem mem_swap {α : Type} {q a b c d : α} {x y : List α} (h : q ∈ a :: b :: c :: (x ++ d :: y)) : q ∈ d :: a :: b :: c :: (x ++ y) := by
  simp only [List.mem_cons, List.mem_append] at h ⊢
  rcases h with h | h | h | h | h | h <;> simp [h]
theorem offI {h₀ h : Heap} {L I D l tt td d : Addr} {i n e k : Nat} {vs us : List Value} {es : List DictEntry} {x y : List Row} (N : News h₀ L h ((I, itL D i) :: (D, lstObj vs n) :: (l, lstObj us e) :: (tt, instObj 334 d) :: (td, dictOf es k) :: (x.map Row.obj ++ y.map Row.obj))) :
    ∀ q ∈ (D, lstObj vs n) :: (l, lstObj us e) :: (tt, instObj 334 d) :: (td, dictOf es k) :: (x.map Row.obj ++ y.map Row.obj), q.1 ≠ I := by
  intro q hq
  refine news_ne N (o := q.2) (.tail _ hq) (.head _) ?_
  simp only [List.mem_cons, List.mem_append, List.mem_map] at hq
  rcases hq with rfl | rfl | rfl | rfl | ⟨r, _, rfl⟩ | ⟨r, _, rfl⟩
  · simp [lstObj, itL]
  · simp [lstObj, itL]
  · simp [instObj, itL]
  · simp [itL]
  · simp [Row.obj, itL]
  · simp [Row.obj, itL]
theorem whl_ind {R : Shared → Prop} {σ : Type} (size : σ → Nat) (P : σ → Shared → Prop) {s₀ : Shared} (st₀ : σ) (h0 : P st₀ s₀) (step : ∀ st s, (∀ st' s', size st' < size st → P st' s' → R s') → P st s → R s) : R s₀ := by
  have all : ∀ k, ∀ st s, size st < k → P st s → R s := by
    intro k
    induction k with
    | zero => exact fun _ _ h => absurd h (Nat.not_lt_zero _)
    | succ k ih => exact fun st s h p => step st s (fun st' s' h' p' => ih st' s' (Nat.lt_of_lt_of_le h' (Nat.le_of_lt_succ h)) p') p
  exact all _ st₀ s₀ (Nat.lt_succ_self _) h0
section
variable {prog : Program} {w : World} {p : Program} {loose : List Str} {mean : ExcName → Option Value} {mg mb : Str → Option Value}
/-- the walk stops here -/
def Stop (P : Prop) : Prop := P
theorem Stop.of {P : Prop} (h : Stop P) : P := h
theorem use_parse {D I : Addr} {vs : List Value} {n i q r k : Nat} {t1 t2 : Tok} (hq : q < 64) (hr : r < 64) (hkk : 64 * q + r = k) (h1 : vs[i]? = some (.int ((192 + q : Nat) : Int) t1)) (h2 : vs[i + 1]? = some (.int (r : Int) t2)) {dp un : Nat} {gd : Option (List Code)} {cn : Str} {cs : Scope} {a : Addr} {ccd : Value} {cl : List (Str × Addr)} {outer : List Env} {A₀ : Around} {base h₀ : Heap} {L : Addr} {m : Str → Option Value} {s : Shared} {Q E : Value → Shared → Prop} {x y : List (Addr × Obj)} {b1 b2 b3 : Addr × Obj}
    (B : Below A₀ base outer h₀) (F : Fr h₀ L s.heap m) (X : (hd.heap_39 w.params).In h₀) (T : Top p loose mean mg mb h₀) (hk : cs.kind = .function) (hd : dp + 4 < recursionLimit) (hu : un + 8 * 4 < cLine)
    (N : News h₀ L s.heap (b1 :: b2 :: b3 :: (x ++ (I, itL D i) :: (D, lstObj vs n) :: y))) (ho : ∀ q ∈ b1 :: b2 :: b3 :: (x ++ (D, lstObj vs n) :: y), q.1 ≠ I)
    (h : ∀ t h' tk', Fr h₀ L h' m → News h₀ L h' (b1 :: b2 :: b3 :: (x ++ (I, itL D (i + 2)) :: (D, lstObj vs n) :: y)) → Q (.int (k : Int) t) { s with heap := h', toks := tk' }) :
    wpAny (model prog w) (ktrTop dp un gd cn cs L a ccd cl outer) (call (.ref 119) [.ref I]) Q E s := by
  have N1 : News h₀ L s.heap ((I, itL D i) :: b1 :: b2 :: b3 :: (x ++ (D, lstObj vs n) :: y)) := news_sub N fun q hq => by
    simp only [List.mem_cons, List.mem_append] at hq ⊢
    rcases hq with h | h | h | h | h | h | h <;> simp [h]
  refine ConL.use1 (c_parse hq hr h1 h2 (n := n)) B F X T hk hd hu True.intro N1 (List.forall_mem_cons.mpr ⟨.head _, List.forall_mem_cons.mpr ⟨by simp, List.forall_mem_nil _⟩⟩) ho fun v h' tk' F' N' NX K P => ?_
  obtain ⟨⟨t, rfl⟩, h3⟩ := P
  subst hkk
  refine h t h' tk' F' (news_sub (NX _ h3) fun q hq => ?_)
  simp only [List.mem_cons, List.mem_append] at hq ⊢
  rcases hq with h | h | h | h | h | h | h <;> simp [h]
theorem c_layE {T : TabZ} {rows : List Row} (hr : rows.length ≤ 100) {x : Str} {nm t f fl : Nat} (hx : x = nmS nm) (hrow : ∀ r ∈ rows, r.t ≤ 32 ∧ r.f ≤ 32 ∧ 1 ≤ r.fl ∧ r.fl ≤ 7) (hn : t ≤ 32 ∧ f ≤ 32) (hfl : 1 ≤ fl ∧ fl ≤ 7) {k1 k2 : Tok} (e : Nat) : ConL prog w p loose mean mg mb 373 [.ref T.t, .str x k1, .str (txt t f fl) k2] 40 (fun _ => True) (tabLed { T with e := e } rows) [T.l]
    (fun s h' _ => ∃ rows', Put T rows rows' s h' ∧ rows'.map Row.ab = layA (rows.map Row.ab) (nm % 2, t, f, fl)) := by
  subst hx
  exact c_lay (T := { T with e := e }) hr hrow hn hfl
theorem isStop : isSubtype (.type "StopIteration") (.type "BaseException") = pure true := by rw [isSubtype_type]; kernel_rfl
theorem notTupStop : isSubtype (.type ((Manifest.find? "StopIteration").elim "type" fun y => y.metatype)) (.type "tuple") = pure false := by rw [isSubtype_type]; kernel_rfl
theorem stopStop : isSubtype (.type "StopIteration") (.type "StopIteration") = pure true := by rw [isSubtype_type]; kernel_rfl
theorem keptF_end {s g g' h' : Heap} {L L' : Addr} {m' : Str → Option Value} {ch : List Addr} {env : Env} {outer : List Env} {led n9 : List (Addr × Obj)} (hf : env.frame = some L) (hG : ∀ b o, b ∉ led.map (·.1) → s.get? b = some o → g.get? b = some o) (T : KtsTurn (frs (env :: outer)) g g') (F : Fr g' L' h' m') (N0 : ∀ q ∈ led, s.get? q.1 = some q.2)
    (N9 : ∀ q ∈ n9, h'.get? q.1 = some q.2) (hs : ∀ q ∈ led, q.1 ∈ ch ∨ q ∈ n9) : KeptF (L :: ch) (frs outer) s h' := fun b o hb hb2 e => by
  by_cases hm : b ∈ led.map (·.1)
  · obtain ⟨q, hq, rfl⟩ := List.mem_map.mp hm
    rcases hs q hq with h | h
    · exact absurd (List.mem_cons_of_mem _ h) hb
    · have e1 := N0 q hq
      rw [e] at e1
      rw [N9 q h, ← e1]
  · exact F.keep _ _ (T.other b o (hG b o hm e) fun q => (frs_cons hf q).elim (fun z => hb (z ▸ .head _)) hb2)
structure SW (us : List Ab) (rows : List Row) (s0 : Heap) where
  fin : List Ab
  rest : List Ab
  h : fin ++ rest = us
  cur : List Row
  e : Nat
  I : Addr
  ab : cur.map Row.ab = fin.foldl layA (rows.map Row.ab)
  fr : ∀ r ∈ cur, r ∈ rows ∨ s0.get? r.a = none
  v1 : Option Value
local macro_rules | `(tactic| walk_at "my enterS") => `(tactic| (refine' enter_S ?k1 ?k2 ?k3 ?k4 ?k5 ?kX ?kT ?kD ?kA ?kF ?kK ?k6 ?k7 ?k8 ?k9 ?kB ?_ ?c2 ?c3 ?c4 ?c5; (case kA => exact rfl); (case kF => exact rfl); (case kK => assumption); (case kX => assumption); (case kT => assumption); (case kD => assumption); (case k1 => k_asm); (case k2 => k_asm); (case k3 => k_asm); (case k4 => k_asm); (case k5 => k_asm); (case k6 => k_is); (case k7 => k_is); (case k8 => ktr_room); (case k9 => first | exact BindsTo.of_eq rfl | exact binds_K (by k_in) rfl (by k_is) rfl rfl rfl); (case c5 => decide); (case kB => exact locs rfl); (case c2 => exact rfl); (case c3 => exact rfl); (case c4 => exact rfl); k_whole))
local macro_rules | `(tactic| walk_at "exec While") => `(tactic| (k_here; k_dflt (refine whl_start 2 (Stop.of ?_))))
local macro_rules | `(tactic| walk_at "exec While Constant") => `(tactic| (k_here; k_dflt (refine whl_start 2 (Stop.of ?_))))
local macro_rules | `(tactic| walk_at "call builtin:iter") => `(tactic| (k_here; k_dflt ((rename Fr _ _ _ _ => lF'); (rename News _ _ _ _ => lN'); (refine iter_list lF' lN' (List.mem_append_right [_, _, _] (List.mem_append_right _ (.head _))) rfl rfl ?_); clear lF' lN'; intro I' h' F' N' l1)))
local macro_rules | `(tactic| walk_at "call ref") => `(tactic| (k_here; (with_reducible show wpAny _ _ (call (Value.ref 119) _) _ _ _); refine Stop.of ?_))
local macro_rules | `(tactic| walk_at "WhlRest") => `(tactic| refine Stop.of ?_)
local macro_rules | `(tactic| walk_at "call ref") => `(tactic| (k_here; k_dflt (refine' Con.use0 (c_textI (by omega) (by omega) (by omega)) ?B ?F ?X ?T ?hk ?hd ?hu True.intro ?N ?_; (case B => k_asm); (case F => k_asm); (case X => k_asm); (case T => k_asm); (case hk => first | exact rfl | assumption); (case hd => ktr_room); (case hu => ktr_units); (case N => k_asm); intro r h2 tk2 F2 N2 K2 P2; obtain ⟨t2, e2⟩ := P2; subst e2)))
local macro_rules | `(tactic| walk_at "call ref") => `(tactic| (k_here; k_dflt (refine' ConL.usePe (c_layE (by with_reducible assumption) (by with_reducible assumption) (by with_reducible assumption) (by omega) (by omega)) ?B ?F ?X ?T ?hk ?hd ?hu True.intro ?N ?hoff ?_; (case B => k_asm); (case F => k_asm); (case X => k_asm); (case T => k_asm); (case hk => first | exact rfl | assumption); (case hd => ktr_room); (case hu => ktr_units); (case N => k_asm); (case hoff => assumption); intro r h2 tk2 e2 rows2 F2 N2 FO2 hf2 P2)))
set_option maxHeartbeats 8000000 in
theorem c_take {T : TabZ} {rows : List Row} {us : List Ab} {D : Addr} {vs : List Value} {n : Nat} (hr : rows.length + us.length ≤ 60) (hD : @Ne Nat D T.l) (hrow : ∀ r ∈ rows, r.t ≤ 32 ∧ r.f ≤ 32 ∧ 1 ≤ r.fl ∧ r.fl ≤ 7)
    (hus : ∀ u ∈ us, u.1 < 2 ∧ u.2.1 ≤ 5 ∧ u.2.2.1 ≤ 5 ∧ 1 ≤ u.2.2.2 ∧ u.2.2.2 ≤ 7) (hvs : IntsAre vs (us.flatMap octA)) :
    ConT prog w p loose mean mg mb 380 [.ref T.t, .ref D] 60 (fun _ => True) (tabLed T rows ++ [(D, lstObj vs n)]) [T.l] (fun s h' r => r = .ref T.t ∧ ∃ rows', Put T rows rows' s h' ∧ rows'.map Row.ab = us.foldl layA (rows.map Row.ab)) := by
  intro dp un gd cn cs a ccd cl outer A₀ base h₀ L m s Q E B F X T' XB TB KD hk hdp hun _ N hret
  refine wpAny_call ?_
  have N0 := N
  k_dflt (walk_at "my enterS")
  intro g L1 h1 FG F1 N1 B1 X1 T1 D1 hG hG' hl1
  dsimp only [tabLed, List.cons_append] at N1
  (try dsimp only); (try k_lift B1); (try k_fold)
  k_steps
  rename Fr g _ _ _ => F3
  rename News g _ _ _ => N3
  have N4 := news_tabJ (y := rows.map Row.obj) N3 fun q hq => List.mem_append_left _ hq
  unfold Stop
  refine whl_ind (R := fun s' => WhlRest _ _ _ _ _ _ _ _ _ _ s') (σ := SW us rows s.heap) (fun st => st.rest.length)
    (fun st s' => ∃ h tk, s' = { s with heap := h, toks := tk } ∧ Fr g L1 h (fun z => if z = "tape" then some (.ref st.I) else if z = "number" then st.v1 else mapOf F3 z) ∧
      News g L1 h ((T.l, lstObj (st.cur.map fun r => .ref r.a) st.e) :: (T.t, instObj 334 T.d) :: (T.d, dictOf [⟨T.g, .str "_headers" T.k, .ref T.l⟩] 1) :: (st.cur.map Row.obj ++ (st.I, itL D (2 * st.fin.length)) :: (D, lstObj vs n) :: rows.map Row.obj)))
    ⟨[], us, rfl, rows, T.e, refOf (mapOf F3 "tape"), rfl, fun r hr => .inl hr, none⟩ ⟨_, _, rfl, fr_congr F3 ?_, N4⟩ ?_
  · refine names_ext ["tape", "number"] (by walk_at "my names") (by walk_at "my rest")
  · dsimp only [mapOf]
    clear F3 N3 N4
    intro st s' IH hP
    obtain ⟨fin, rest, e1, cur, e, I, hab, hfr, v1⟩ := st
    obtain ⟨h', tk', rfl, F', N'⟩ := hP
    dsimp only at F' N'
    refine' whl_turn (k := 1) ?hE ?_
    case hE => first | passes_own | with_unfolding_all passes_own
    k_steps
    unfold Stop
    have hcl : cur.length ≤ 100 := by
      have z1 : cur.length = (cur.map Row.ab).length := by simp
      have z2 := foldA_len fin (rows.map Row.ab)
      have z3 : fin.length ≤ us.length := by rw [← e1]; simp
      rw [z1, hab]
      simp at z2
      omega
    have hcb : ∀ r ∈ cur, r.t ≤ 32 ∧ r.f ≤ 32 ∧ 1 ≤ r.fl ∧ r.fl ≤ 7 := by
      intro r hr'
      have hm : r.ab ∈ cur.map Row.ab := List.mem_map_of_mem hr'
      rw [hab] at hm
      rcases foldA_mem fin hm with h | h
      · obtain ⟨q, hq, e⟩ := List.mem_map.mp h
        have := hrow q hq
        simp only [Row.ab, Prod.mk.injEq] at e
        omega
      · have := hus r.ab (by rw [← e1]; exact List.mem_append_left _ h)
        simp only [Row.ab] at this
        omega
    cases rest with
    | nil =>
      clear IH
      have hfin : fin = us := by rw [← e1]; simp
      subst hfin
      have N6 := news_tabK N'
      refine' c_parseEnd (octs_none hvs) ?B ?F ?X ?T ?hk ?hd ?hu N6 (offI N6) ?_
      case B => k_asm
      case F => k_asm
      case X => k_asm
      case T => k_asm
      case hk => exact rfl
      case hd => ktr_room
      case hu => ktr_units
      intro ex h2 tk2 G FGG R U
      refine caught_SN0 (T' := "StopIteration") R FGG B1 U XB TB D1 KtsTurn.refl (by k_is) PyProof.Rows.Boot.«StopIteration» (by decide) isStop notTupStop stopStop ?_
      intro h3 g3 T3 F3 N3 K3 X3 P3 D3
      k_steps
      rename Fr g3 L1 _ _ => F9
      rename News g3 L1 _ _ => N9
      refine ⟨g3, L1, _, T3, F9, fun h₀' T₀ F₀ B₀ X₀ P₀ D₀ => hret _ _ _ h₀' T₀ F₀ B₀ X₀ P₀ D₀ (keptF_end rfl hG T3 F9 (fun q hq => (N0 q hq).1) (fun q hq => (N9 q hq).1) fun q hq => ?_) ⟨rfl, cur, ⟨e, (N9 _ (.tail _ (.head _))).1, fun r hr => (hfr r hr).imp id fun z => ⟨z, (N9 _ (List.mem_append_right [_, _, _, _] (List.mem_append_left _ (List.mem_map_of_mem hr)))).1⟩⟩, hab⟩⟩
      rcases List.mem_append.mp hq with hq | hq
      · rcases List.mem_cons.mp hq with rfl | hq
        · exact .inl (.head _)
        · rcases List.mem_cons.mp hq with rfl | hq
          · exact .inr (.tail _ (.tail _ (.head _)))
          · rcases List.mem_cons.mp hq with rfl | hq
            · exact .inr (.tail _ (.tail _ (.tail _ (.head _))))
            · exact .inr (List.mem_append_right [_, _, _, _] (List.mem_append_right _ hq))
      · rw [List.mem_singleton.mp hq]; exact .inr (.head _)
    | cons u rest =>
      obtain ⟨b1, b2, b3, b4, b5⟩ := hus u (by rw [← e1]; simp)
      obtain ⟨c1, c2, c3, c4, c5⟩ := num_at b1 b2 b3 b5
      obtain ⟨t1, t2, d1, d2⟩ := octs_at (e1 ▸ hvs)
      have d3 := item_nm b1 c2
      have ho2 : ∀ q ∈ (I, itL D (2 * fin.length + 2)) :: (D, lstObj vs n) :: rows.map Row.obj, q.1 ≠ T.l := by
        have N6 := news_tabK N'
        have z := offI N6
        refine List.forall_mem_cons.mpr ⟨Ne.symm (z _ (.tail _ (.head _))), List.forall_mem_cons.mpr ⟨hD, fun q hq => ?_⟩⟩
        obtain ⟨r, _, rfl⟩ := List.mem_map.mp hq
        exact news_ne N6 (.tail _ (.tail _ (.tail _ (.tail _ (.tail _ (List.mem_append_right _ hq)))))) (.tail _ (.tail _ (.head _))) (by simp [Row.obj, lstObj])
      refine' use_parse (k := numA u) (by omega) (Nat.mod_lt _ (by decide)) (by omega) d1 d2 ?B ?F ?X ?T ?hk ?hd ?hu N' (fun q hq => offI (news_tabK N') q (mem_swap hq)) ?_
      case B => k_asm
      case F => k_asm
      case X => k_asm
      case T => k_asm
      case hk => exact rfl
      case hd => ktr_room
      case hu => ktr_units
      intro t h2 tk2 F2 N2
      k_steps
      unfold Stop
      rename Fr g L1 _ _ => F9
      rename News g L1 _ _ => N9
      rename (List.map Row.ab _ = layA _ _) => P2
      rename FreeOf _ _ _ => FO
      rename (∀ r : Row, r ∈ _ → r ∈ cur ∨ _) => hf2
      have eu : ((2 + u.1) % 2, (((numA u : Int).fdiv 2).fmod 6).toNat, (((numA u : Int).fdiv 12).fmod 6).toNat, ((numA u : Int).fdiv 72).toNat) = u := by
        rw [c3, c4, c5]
        obtain ⟨u1, u2, u3, u4⟩ := u
        simp only [Prod.mk.injEq]
        dsimp only at b1
        exact ⟨by omega, by omega, by omega, by omega⟩
      rw [eu] at P2
      have e9 : 2 * (fin ++ [u]).length = 2 * fin.length + 2 := by rw [List.length_append]; rfl
      refine IH ⟨fin ++ [u], rest, by rw [← e1]; simp, _, _, I, by rw [P2, hab, List.foldl_append]; rfl, fun q hq => (hf2 q hq).elim (hfr q) fun z => .inr (fresh_of_free hG FO (fun q hq => (List.mem_append.mp hq).elim (tab_in (fun q hq => .tail _ (.tail _ hq)) q) fun h => ⟨(D, lstObj vs n), List.mem_append_right _ (.tail _ (.head _)), by rw [List.mem_singleton.mp h]⟩) z), mapOf F9 "number"⟩ _ (Nat.lt_succ_self _) ⟨_, _, rfl, fr_congr F9 ?_, by dsimp only; rw [e9]; exact N9⟩
      refine names_ext ["tape", "number"] (by walk_at "my names") (by walk_at "my rest")
end

theorem offSH : True := by
  w_top off
  trivial
section
variable {prog : Program} {w : World} {p : Program} {loose : List Str} {mean : ExcName → Option Value} {mg mb : Str → Option Value}
structure ShowZ where
  D : Addr
  S1 : Addr
  S2 : Addr
  v1 : List Value
  v2 : List Value
  s1 : List Str
  s2 : List Str
  e0 : Nat
  e1 : Nat
  e2 : Nat
  n : Nat
  t : Tok
def showLed (z : ShowZ) : List (Addr × Obj) := [(z.D, lstObj [.ref z.S1, .ref z.S2, .int (z.n : Int) z.t] z.e0), (z.S1, lstObj z.v1 z.e1), (z.S2, lstObj z.v2 z.e2)]
def textsA (l : List Ab) (c : Nat) : List Str := (l.filter fun a => a.1 == c).map fun a => txt a.2.1 a.2.2.1 a.2.2.2
/-- what _law_shown shows of the rows l -/
def Shows (z : ShowZ) (l : List Ab) : Prop := StrsAre z.v1 z.s1 ∧ StrsAre z.v2 z.s2 ∧ z.s1.Perm (textsA l 0) ∧ z.s2.Perm (textsA l 1) ∧ sortedS z.s1 = true ∧ sortedS z.s2 = true ∧ z.n = l.length
theorem strs_map (l : List Row) : StrsAre (l.map fun r => .str (txt r.t r.f r.fl) r.k2) (l.map fun r => txt r.t r.f r.fl) := by
  induction l with
  | nil => exact .nil
  | cons r l ih => exact .cons _ _ ih
theorem texts_ab (rows : List Row) (nm : Nat) : ((rows.filter fun r => r.nm % 2 == nm % 2).map fun r => txt r.t r.f r.fl) = textsA (rows.map Row.ab) (nm % 2) := by
  unfold textsA
  rw [List.filter_map, List.map_map]
  rfl
theorem sorted_T {A : Around} {E : Value → Shared → Prop} {s : Shared} {h₀ : Heap} {L : Addr} {m : Str → Option Value} {news : List (Addr × Obj)} {l : Addr} {lo : Obj} {n : Nat} {vs : List Value} {ss : List Str} {Q : Value → Shared → Prop}
    (F : Fr h₀ L s.heap m) (N : News h₀ L s.heap news) (hm : (l, lo) ∈ news) (hc : lo.cls = .type "list") (hd : lo.data = .seq vs.toArray n) (hS : StrsAre vs ss) (h64 : vs.length < 64)
    (h : ∀ (D : Addr) (h' : Heap) (vs' : List Value) (ss' : List Str) (e : Nat), Fr h₀ L h' m → News h₀ L h' ((D, lstObj vs' e) :: news) → StrsAre vs' ss' → ss'.Perm ss → sortedS ss' = true → (∀ p ∈ news, p.1 < D) → Q (.ref D) { s with heap := h' }) :
    wpAny (model prog w) A (call (.builtin "sorted") [.ref l]) Q E s :=
  sorted_N_str F N ⟨lo, (N _ hm).1, hc, n, hd⟩ hS h64 fun h' vs' ss' e F' N' a b c => h _ h' vs' ss' e F' N' a b c fun p hp => Nat.lt_succ_of_lt (Heap.lt_size (N p hp).1)
local macro_rules | `(tactic| walk_at "call ref") => `(tactic| (k_here; k_dflt (refine' ConL.use0n (c_getall (nm := 0) (by with_reducible assumption)) ?B ?F ?X ?T ?hk ?hd ?hu True.intro ?N ?hN ?_; (case B => k_asm); (case F => k_asm); (case X => k_asm); (case T => k_asm); (case hk => first | exact rfl | assumption); (case hd => ktr_room); (case hu => ktr_units); (case N => k_asm); (case hN => exact fun q hq => hq); intro r h2 tk2 F2 N2 K2 FN P2; obtain ⟨D2, e2, P3⟩ := P2; subst e2; have N3 := NewIn.news P3 (by k_asm) K2 (by k_asm); clear N2; (try dsimp only [List.cons_append, List.nil_append] at N3))))
local macro_rules | `(tactic| walk_at "call ref") => `(tactic| (k_here; k_dflt (refine' ConL.use0n (c_getall (nm := 3) (by with_reducible assumption)) ?B ?F ?X ?T ?hk ?hd ?hu True.intro ?N ?hN ?_; (case B => k_asm); (case F => k_asm); (case X => k_asm); (case T => k_asm); (case hk => first | exact rfl | assumption); (case hd => ktr_room); (case hu => ktr_units); (case N => k_asm); (case hN => exact fun q hq => List.mem_append_right [_, _] hq); intro r h2 tk2 F2 N2 K2 FN P2; obtain ⟨D2, e2, P3⟩ := P2; subst e2; have N3 := NewIn.news P3 (by k_asm) K2 (by k_asm); clear N2; (try dsimp only [List.cons_append, List.nil_append] at N3))))
local macro_rules | `(tactic| walk_at "call ref") => `(tactic| (k_here; k_dflt (refine' ConL.use0 (c_hint (by with_reducible assumption)) ?B ?F ?X ?T ?hk ?hd ?hu True.intro ?N ?hN ?_; (case B => k_asm); (case F => k_asm); (case X => k_asm); (case T => k_asm); (case hk => first | exact rfl | assumption); (case hd => ktr_room); (case hu => ktr_units); (case N => k_asm); (case hN => exact fun q hq => List.mem_append_right [_, _, _, _] hq); intro r h2 tk2 F2 N2 K2 P2; obtain ⟨t2, e2⟩ := P2; subst e2)))
local macro_rules | `(tactic| walk_at "call builtin:sorted") => `(tactic| (k_here; k_dflt ((rename Fr _ _ _ _ => lF'); (rename News _ _ _ _ => lN'); (refine sorted_T lF' lN' (.head _) rfl rfl (strs_map _) (by assumption) ?_); clear lF' lN'; intro D' h' vs' ss' e' F' N' hs' hp' ho' l1')))
set_option maxHeartbeats 8000000 in
theorem c_shown {T : TabZ} {rows : List Row} (hr : rows.length < 64) : ConL prog w p loose mean mg mb 387 [.ref T.t] 40 (fun _ => True) (tabLed T rows) []
    (fun s h' r => ∃ z : ShowZ, r = .ref z.D ∧ NewIn s h' (showLed z) ∧ Shows z (rows.map Row.ab)) := by
  intro dp un gd cn cs a ccd cl outer A₀ base h₀ L m s Q E B F X T' hk hdp hun _ N hret
  refine wpAny_call ?_
  have N0 := N
  have hr2 : rows.length ≤ 1000 := by omega
  have hf0 : ((rows.filter fun r => r.nm % 2 == 0 % 2).map fun r => Value.str (txt r.t r.f r.fl) r.k2).length < 64 := by rw [List.length_map]; exact Nat.lt_of_le_of_lt (List.length_filter_le _ _) hr
  have hf1 : ((rows.filter fun r => r.nm % 2 == 3 % 2).map fun r => Value.str (txt r.t r.f r.fl) r.k2).length < 64 := by rw [List.length_map]; exact Nat.lt_of_le_of_lt (List.length_filter_le _ _) hr
  k_dflt (walk_at "my enter")
  intro g L1 h1 FG F1 N1 B1 X1 T1 hG hG' hl1
  dsimp only [tabLed] at N1
  (try dsimp only); (try k_lift B1); (try k_fold)
  k_steps
  rename Fr g L1 _ _ => F9
  rename News g L1 _ _ => N9
  rename (_ < _) ∧ _ => l1
  have t0 : ((rows.filter fun r => r.nm % 2 == 0 % 2).map fun r => txt r.t r.f r.fl) = textsA (rows.map Row.ab) 0 := texts_ab rows 0
  have t1 : ((rows.filter fun r => r.nm % 2 == 3 % 2).map fun r => txt r.t r.f r.fl) = textsA (rows.map Row.ab) 1 := texts_ab rows 3
  rename (∀ p : Addr × Obj, p ∈ _ → p.1 < _) => lb
  have lb2 := fun q hq => Nat.ne_of_lt (lb q (List.mem_append_right [_, _, _] hq))
  clear lb
  rename (∀ p : Addr × Obj, p ∈ _ → p.1 < _) => la
  have la2 := fun q hq => Nat.ne_of_lt (la q (List.mem_append_right [_] hq))
  clear la
  refine hret _ _ _ (by assumption) (kept_led hG F9 N9 N0 fun q hq => .inr (List.mem_append_right [_, _, _, _, _] hq)) ⟨⟨_, _, _, _, _, _, _, 0, _, _, rows.length, _⟩, rfl, List.forall_mem_cons.mpr ⟨⟨fresh_led hG N9 (.head _) (allLt_map (l := tabLed T rows) l1.2.2.2.2), N9.get (.head _)⟩, List.forall_mem_cons.mpr ⟨⟨fresh_led hG N9 (List.mem_append_right [_, _, _] (.head _)) ?_, N9.get (List.mem_append_right [_, _, _] (.head _))⟩, List.forall_mem_cons.mpr ⟨⟨fresh_led hG N9 (.tail _ (.head _)) ?_, N9.get (.tail _ (.head _))⟩, List.forall_mem_nil _⟩⟩⟩, by assumption, by assumption, by rw [← t0]; assumption, by rw [← t1]; assumption, by assumption, by assumption, by simp⟩
  · intro hm
    obtain ⟨q, hq, e⟩ := List.mem_map.mp hm
    exact la2 q hq e
  · intro hm
    obtain ⟨q, hq, e⟩ := List.mem_map.mp hm
    exact lb2 q hq e
end

theorem offHN : True := by
  w_top off
  trivial
section
variable {prog : Program} {w : World} {p : Program} {loose : List Str} {mean : ExcName → Option Value} {mg mb : Str → Option Value}
set_option maxHeartbeats 8000000 in
theorem c_hdr : Con prog w p loose mean mg mb 334 [] 8 (fun _ => True) [] (fun s h' r => ∃ T : TabZ, r = .ref T.t ∧ NewIn s h' (tabLed T []) ∧ T.l ≠ T.t ∧ T.l ≠ T.d) := by
  intro dp un gd cn cs a ccd cl outer A₀ base h₀ L m s Q E B F X T hk hdp hun _ _ hret
  k_dflt (refine' call_cls' ?k1 ?k2 ?k4 ?k5 ?k6 ?_; (case k1 => k_asm); (case k2 => k_asm); (case k4 => k_is); (case k5 => k_is); (case k6 => k_is); k_whole; intro x' d' h' F' N' hK1 hfx hfd l2; (try k_lt2 l2); (try k_sweep))
  k_dflt (walk_at "my enter")
  intro g L1 h1 FG F1 N1 B1 X1 T1 hG hG' hl1
  (try dsimp only); (try k_lift B1); (try k_fold)
  k_steps
  rename News g _ _ _ => N9
  rename Fr g _ _ _ => F9
  refine' hret _ _ _ (by assumption) (kept_init hG hK1 hfx hfd F9) ⟨⟨x', d', _, _, _, 0⟩, rfl, List.forall_mem_cons.mpr ⟨⟨fresh_init hG hK1 FG N9 ?c ?c1 ?c2, N9.get ?c'⟩, List.forall_mem_cons.mpr ⟨⟨hfx, N9.get ?a⟩, List.forall_mem_cons.mpr ⟨⟨hfd, N9.get ?b⟩, List.forall_mem_nil _⟩⟩⟩, ?e1, ?e2⟩
  case a => k_mem
  case b => k_mem
  case c' => k_mem
  case c => k_mem
  case c1 => k_ne
  case c2 => k_ne
  case e1 => k_ne
  case e2 => k_ne
end

theorem offRN : True := by
  w_top off
  trivial
structure LetZ where
  O : Addr
  vs : List Value
  e : Nat
  us : List Ab
def LetZ.obj (l : LetZ) : Addr × Obj := (l.O, lstObj l.vs l.e)
/-- what stays of a run: the lists' places -/
structure CR where
  Lt : Addr
  W : Addr
  X : Addr
  Nn : Addr
  vs : List Value
  n : Nat
  T : Nat → TabZ
structure SRr where
  ls : List LetZ
  eL : Nat
  zs : List ShowZ
  eW : Nat
  r : Nat → List Row
  e : Nat → Nat
def CR.mu (c : CR) : List Addr := [c.Lt, c.W, (c.T 0).l, (c.T 1).l, (c.T 2).l]
def CR.tab (c : CR) (st : SRr) (i : Nat) : List (Addr × Obj) := tabLed { c.T i with e := st.e i } (st.r i)
def ledR (c : CR) (st : SRr) : List (Addr × Obj) :=
  (c.Lt, lstObj (st.ls.map fun l => .ref l.O) st.eL) :: (c.W, lstObj (st.zs.map fun z => .ref z.D) st.eW) :: (c.X, lstObj [.ref (c.T 0).t, .ref (c.T 1).t, .ref (c.T 2).t] 0) :: (c.Nn, lstObj c.vs c.n) ::
    ((c.tab st 0 ++ (c.tab st 1 ++ c.tab st 2)) ++ (st.ls.map LetZ.obj ++ st.zs.flatMap showLed))
def imR (c : CR) (st : SRr) : List Addr := c.X :: c.Nn :: (st.ls.map LetZ.O ++ st.zs.flatMap fun z => [z.D, z.S1, z.S2])
def OffR (c : CR) (st : SRr) : Prop := c.mu.Nodup ∧ ∀ a ∈ imR c st, a ∉ c.mu
theorem tab_in_led {c : CR} {st : SRr} {i : Nat} (hi : i < 3) : ∀ q ∈ c.tab st i, q ∈ ledR c st := by
  intro q hq
  refine .tail _ (.tail _ (.tail _ (.tail _ (List.mem_append_left _ ?_))))
  match i, hi with
  | 0, _ => exact List.mem_append_left _ hq
  | 1, _ => exact List.mem_append_right _ (List.mem_append_left _ hq)
  | 2, _ => exact List.mem_append_right _ (List.mem_append_right _ hq)
theorem led_cases {c : CR} {st : SRr} {q : Addr × Obj} (h : q ∈ ledR c st) : q = (c.Lt, lstObj (st.ls.map fun l => .ref l.O) st.eL) ∨ q = (c.W, lstObj (st.zs.map fun z => .ref z.D) st.eW) ∨ q = (c.X, lstObj [.ref (c.T 0).t, .ref (c.T 1).t, .ref (c.T 2).t] 0) ∨ q = (c.Nn, lstObj c.vs c.n) ∨
    (∃ i, i < 3 ∧ q ∈ c.tab st i) ∨ (∃ l ∈ st.ls, q = l.obj) ∨ ∃ z ∈ st.zs, q ∈ showLed z := by
  unfold ledR at h
  simp only [List.mem_cons, List.mem_append, List.mem_map, List.mem_flatMap] at h
  rcases h with h | h | h | h | (h | h | h) | ⟨l, hl, h⟩ | ⟨z, hz, h⟩
  · exact .inl h
  · exact .inr (.inl h)
  · exact .inr (.inr (.inl h))
  · exact .inr (.inr (.inr (.inl h)))
  · exact .inr (.inr (.inr (.inr (.inl ⟨0, by decide, h⟩))))
  · exact .inr (.inr (.inr (.inr (.inl ⟨1, by decide, h⟩))))
  · exact .inr (.inr (.inr (.inr (.inl ⟨2, by decide, h⟩))))
  · exact .inr (.inr (.inr (.inr (.inr (.inl ⟨l, hl, h.symm⟩)))))
  · exact .inr (.inr (.inr (.inr (.inr (.inr ⟨z, hz, h⟩)))))
theorem let_in_led {c : CR} {st : SRr} {l : LetZ} (h : l ∈ st.ls) : l.obj ∈ ledR c st := .tail _ (.tail _ (.tail _ (.tail _ (List.mem_append_right _ (List.mem_append_left _ (List.mem_map_of_mem h))))))
theorem show_in_led {c : CR} {st : SRr} {z : ShowZ} (h : z ∈ st.zs) {q : Addr × Obj} (hq : q ∈ showLed z) : q ∈ ledR c st := .tail _ (.tail _ (.tail _ (.tail _ (List.mem_append_right _ (List.mem_append_right _ (List.mem_flatMap.mpr ⟨z, h, hq⟩))))))
theorem mu_at {c : CR} {i : Nat} (hi : i < 3) : (c.T i).l ∈ c.mu := by
  match i, hi with
  | 0, _ => simp [CR.mu]
  | 1, _ => simp [CR.mu]
  | 2, _ => simp [CR.mu]
theorem mu_ne {c : CR} (h : c.mu.Nodup) : (∀ i, i < 3 → c.Lt ≠ (c.T i).l ∧ c.W ≠ (c.T i).l) ∧ c.Lt ≠ c.W ∧ ∀ i j, i < 3 → j < 3 → i ≠ j → (c.T i).l ≠ (c.T j).l := by
  simp only [CR.mu, List.nodup_cons, List.mem_cons, List.not_mem_nil, or_false, not_or] at h
  obtain ⟨⟨a1, a2, a3, a4⟩, ⟨b1, b2, b3⟩, ⟨c1, c2⟩, d1, _⟩ := h
  refine ⟨fun i hi => ?_, a1, fun i j hi hj hij => ?_⟩
  · match i, hi with
    | 0, _ => exact ⟨a2, b1⟩
    | 1, _ => exact ⟨a3, b2⟩
    | 2, _ => exact ⟨a4, b3⟩
  · match i, j, hi, hj with
    | 0, 0, _, _ => exact absurd rfl hij
    | 1, 1, _, _ => exact absurd rfl hij
    | 2, 2, _, _ => exact absurd rfl hij
    | 0, 1, _, _ => exact c1
    | 0, 2, _, _ => exact c2
    | 1, 2, _, _ => exact d1
    | 1, 0, _, _ => exact Ne.symm c1
    | 2, 0, _, _ => exact Ne.symm c2
    | 2, 1, _, _ => exact Ne.symm d1
theorem show_im {c : CR} {st : SRr} {z : ShowZ} (hz : z ∈ st.zs) {q : Addr × Obj} (hq : q ∈ showLed z) : q.1 ∈ imR c st := by
  refine .tail _ (.tail _ (List.mem_append_right _ (List.mem_flatMap.mpr ⟨z, hz, ?_⟩)))
  simp only [showLed, List.mem_cons, List.not_mem_nil, or_false] at hq
  rcases hq with rfl | rfl | rfl <;> simp
theorem let_im {c : CR} {st : SRr} {l : LetZ} (h : l ∈ st.ls) : l.O ∈ imR c st := .tail _ (.tail _ (List.mem_append_left _ (List.mem_map_of_mem h)))
/-- the entries of a table but its list are no lists -/
theorem tab_ne {T : TabZ} {rows : List Row} {q : Addr × Obj} (h : q ∈ tabLed T rows) (hl : q ≠ (T.l, lstObj (rows.map fun r => .ref r.a) T.e)) : q.2.cls ≠ .type "list" := by
  rcases List.mem_cons.mp h with rfl | h
  · exact absurd rfl hl
  · rcases List.mem_cons.mp h with rfl | h
    · simp [instObj]
    · rcases List.mem_cons.mp h with rfl | h
      · simp
      · obtain ⟨r, _, rfl⟩ := List.mem_map.mp h
        simp [Row.obj]
def SRr.put (st : SRr) (i : Nat) (rows : List Row) (e : Nat) : SRr := { st with r := fun j => if j = i then rows else st.r j, e := fun j => if j = i then e else st.e j }
/-- all of a run's ledger but x's list stands -/
theorem led_off {c : CR} {st : SRr} (O : OffR c st) {h₀ h : Heap} {L : Addr} (N : News h₀ L h (ledR c st)) {i : Nat} (hi : i < 3) {q : Addr × Obj} (hq : q ∈ ledR c st) (hne : ∀ j, j < 3 → q ∈ c.tab st j → j = i → q ≠ ((c.T i).l, lstObj ((st.r i).map fun r => .ref r.a) (st.e i))) : q.1 ≠ (c.T i).l := by
  obtain ⟨m1, m2, m3⟩ := mu_ne O.1
  have hlist : ((c.T i).l, lstObj ((st.r i).map fun r => .ref r.a) (st.e i)) ∈ ledR c st := tab_in_led hi _ (.head _)
  rcases led_cases hq with rfl | rfl | rfl | rfl | ⟨j, hj, h⟩ | ⟨l, hl, rfl⟩ | ⟨z, hz, h⟩
  · exact (m1 i hi).1
  · exact (m1 i hi).2
  · exact fun e => O.2 c.X (.head _) (by rw [show c.X = (c.T i).l from e]; exact mu_at hi)
  · exact fun e => O.2 c.Nn (.tail _ (.head _)) (by rw [show c.Nn = (c.T i).l from e]; exact mu_at hi)
  · by_cases hji : j = i
    · subst hji
      exact news_ne N (o := q.2) hq hlist (tab_ne h (hne j hj h rfl))
    · by_cases hl : q = ((c.T j).l, lstObj ((st.r j).map fun r => .ref r.a) (st.e j))
      · subst hl
        exact m3 j i hj hi hji
      · exact news_ne N (o := q.2) hq hlist (tab_ne h hl)
  · exact fun e => O.2 l.O (let_im hl) (by rw [show l.O = (c.T i).l from e]; exact mu_at hi)
  · exact fun e => O.2 q.1 (show_im hz h) (by rw [e]; exact mu_at hi)
theorem ledR_put {c : CR} {st : SRr} (O : OffR c st) {h₀ h₀' s h' : Heap} {L : Addr} {m : Str → Option Value} (F : Fr h₀ L s m) (N : News h₀ L s (ledR c st)) {i : Nat} (hi : i < 3) {rows' : List Row} {e' : Nat} (K : ∀ q ∈ ledR c st, q.1 ≠ (c.T i).l → h'.get? q.1 = some q.2) (hg : ∀ b, h₀.get? b = none → h₀'.get? b = none)
    (hl : h'.get? (c.T i).l = some (lstObj (rows'.map fun r => .ref r.a) e')) (hr : ∀ r ∈ rows', r ∈ st.r i ∨ (s.get? r.a = none ∧ h'.get? r.a = some r.obj.2)) : News h₀' L h' (ledR c (st.put i rows' e')) := by
  have old : ∀ q ∈ ledR c st, (∀ j, j < 3 → q ∈ c.tab st j → j = i → q ≠ ((c.T i).l, lstObj ((st.r i).map fun r => .ref r.a) (st.e i))) → h'.get? q.1 = some q.2 ∧ q.1 ≠ L ∧ h₀'.get? q.1 = none := fun q hq hne =>
    ⟨K q hq (led_off O N hi hq hne), (N q hq).2.1, hg _ (N q hq).2.2⟩
  obtain ⟨m1, m2, m3⟩ := mu_ne O.1
  intro q hq
  rcases led_cases hq with rfl | rfl | rfl | rfl | ⟨j, hj, h⟩ | ⟨l, hl', rfl⟩ | ⟨z, hz, h⟩
  · exact old _ (.head _) fun j hj _ _ e => (m1 i hi).1 (congrArg Prod.fst e)
  · exact old _ (.tail _ (.head _)) fun j hj _ _ e => (m1 i hi).2 (congrArg Prod.fst e)
  · refine old _ (.tail _ (.tail _ (.head _))) fun j hj _ _ e => O.2 c.X (.head _) ?_
    rw [show c.X = (c.T i).l from congrArg Prod.fst e]; exact mu_at hi
  · refine old _ (.tail _ (.tail _ (.tail _ (.head _)))) fun j hj _ _ e => O.2 c.Nn (.tail _ (.head _)) ?_
    rw [show c.Nn = (c.T i).l from congrArg Prod.fst e]; exact mu_at hi
  · by_cases hji : j = i
    · subst hji
      simp only [CR.tab, SRr.put, if_true] at h
      have up : ∀ q ∈ (( c.T j).t, instObj 334 (c.T j).d) :: ((c.T j).d, dictOf [⟨(c.T j).g, .str "_headers" (c.T j).k, .ref (c.T j).l⟩] 1) :: (st.r j).map Row.obj, q ∈ c.tab st j := fun q hq => .tail _ hq
      have notl : ∀ q ∈ (( c.T j).t, instObj 334 (c.T j).d) :: ((c.T j).d, dictOf [⟨(c.T j).g, .str "_headers" (c.T j).k, .ref (c.T j).l⟩] 1) :: (st.r j).map Row.obj, ∀ k, k < 3 → q ∈ c.tab st k → k = j → q ≠ ((c.T j).l, lstObj ((st.r j).map fun r => .ref r.a) (st.e j)) := by
        intro q hq k _ _ _ e
        subst e
        simp only [List.mem_cons, List.mem_map] at hq
        rcases hq with e | e | ⟨r, _, e⟩
        · have := congrArg (fun p : Addr × Obj => p.2.cls) e; simp [instObj, lstObj] at this
        · have := congrArg (fun p : Addr × Obj => p.2.cls) e; simp [lstObj] at this
        · have := congrArg (fun p : Addr × Obj => p.2.cls) e; simp [Row.obj, lstObj] at this
      rcases List.mem_cons.mp h with rfl | h
      · exact ⟨hl, (N _ (tab_in_led hj _ (.head _))).2.1, hg _ (N _ (tab_in_led hj _ (.head _))).2.2⟩
      · rcases List.mem_cons.mp h with rfl | h
        · exact old _ (tab_in_led hj _ (up _ (.head _))) (notl _ (.head _))
        · rcases List.mem_cons.mp h with rfl | h
          · exact old _ (tab_in_led hj _ (up _ (.tail _ (.head _)))) (notl _ (.tail _ (.head _)))
          · obtain ⟨r, hr', rfl⟩ := List.mem_map.mp h
            rcases hr r hr' with hh | ⟨h1, h2⟩
            · have hm : r.obj ∈ (( c.T j).t, instObj 334 (c.T j).d) :: ((c.T j).d, dictOf [⟨(c.T j).g, .str "_headers" (c.T j).k, .ref (c.T j).l⟩] 1) :: (st.r j).map Row.obj := .tail _ (.tail _ (List.mem_map_of_mem hh))
              exact old _ (tab_in_led hj _ (up _ hm)) (notl _ hm)
            · obtain ⟨oL, _, _, hL, _⟩ := F.ns
              refine ⟨h2, fun e => ?_, hg _ ?_⟩
              · have e' : r.a = L := e
                rw [e', hL] at h1; cases h1
              · cases q : h₀.get? r.obj.1 with
                | none => rfl
                | some o => have z : s.get? r.a = some o := F.keep _ _ q; rw [h1] at z; cases z
    · simp only [CR.tab, SRr.put, if_neg hji] at h
      exact old _ (tab_in_led hj _ h) fun k _ hk e => by
        subst e
        intro eq
        subst eq
        rcases List.mem_cons.mp h with e | h'
        · exact m3 j k hj hi hji (congrArg Prod.fst e).symm
        · have := tab_ne h (fun e => m3 j k hj hi hji (congrArg Prod.fst e).symm)
          simp [lstObj] at this
  · exact old _ (let_in_led hl') fun j hj _ _ e => O.2 l.O (let_im hl') (by rw [show l.O = (c.T i).l from congrArg Prod.fst e]; exact mu_at hi)
  · have hz' : z ∈ st.zs := hz
    exact old _ (show_in_led hz' h) fun j hj _ _ e => O.2 q.1 (show_im hz' h) (by rw [show q.1 = (c.T i).l from congrArg Prod.fst e]; exact mu_at hi)
def SRr.addL (st : SRr) (l : LetZ) : SRr := { st with ls := st.ls ++ [l], eL := st.eL + 1 }
def SRr.addZ (st : SRr) (z : ShowZ) : SRr := { st with zs := st.zs ++ [z], eW := st.eW + 1 }
theorem mem_mu {c : CR} : c.Lt ∈ c.mu ∧ c.W ∈ c.mu := by simp [CR.mu]
theorem led_split {c : CR} {st : SRr} {h₀ h : Heap} {L : Addr} (N : News h₀ L h (ledR c st)) (O : OffR c st) {q : Addr × Obj} (hq : q ∈ ledR c st) : (q = (c.Lt, lstObj (st.ls.map fun l => .ref l.O) st.eL) ∨ q.1 ≠ c.Lt) ∧ (q = (c.W, lstObj (st.zs.map fun z => .ref z.D) st.eW) ∨ q.1 ≠ c.W) := by
  obtain ⟨m1, m2, m3⟩ := mu_ne O.1
  have hLt : (c.Lt, lstObj (st.ls.map fun l => .ref l.O) st.eL) ∈ ledR c st := .head _
  have hW : (c.W, lstObj (st.zs.map fun z => .ref z.D) st.eW) ∈ ledR c st := .tail _ (.head _)
  have im : ∀ a ∈ imR c st, a ≠ c.Lt ∧ a ≠ c.W := fun a ha => ⟨fun e => O.2 a ha (e ▸ mem_mu.1), fun e => O.2 a ha (e ▸ mem_mu.2)⟩
  rcases led_cases hq with rfl | rfl | rfl | rfl | ⟨j, hj, h⟩ | ⟨l, hl, rfl⟩ | ⟨z, hz, h⟩
  · exact ⟨.inl rfl, .inr m2⟩
  · exact ⟨.inr (Ne.symm m2), .inl rfl⟩
  · exact ⟨.inr (im _ (.head _)).1, .inr (im _ (.head _)).2⟩
  · exact ⟨.inr (im _ (.tail _ (.head _))).1, .inr (im _ (.tail _ (.head _))).2⟩
  · by_cases hl : q = ((c.T j).l, lstObj ((st.r j).map fun r => .ref r.a) (st.e j))
    · subst hl
      exact ⟨.inr (Ne.symm (m1 j hj).1), .inr (Ne.symm (m1 j hj).2)⟩
    · have hc := tab_ne h hl
      exact ⟨.inr (news_ne N (o := q.2) hq hLt hc), .inr (news_ne N (o := q.2) hq hW hc)⟩
  · exact ⟨.inr (im _ (let_im hl)).1, .inr (im _ (let_im hl)).2⟩
  · exact ⟨.inr (im _ (show_im hz h)).1, .inr (im _ (show_im hz h)).2⟩
theorem ledR_addL {c : CR} {st : SRr} {l : LetZ} (O : OffR c st) {h₀ s h' : Heap} {L : Addr} (N : News h₀ L s (l.obj :: ledR c st)) (hO : l.O ∉ c.mu) (K : ∀ b o, b ≠ c.Lt → s.get? b = some o → h'.get? b = some o) (hl : h'.get? c.Lt = some (lstObj ((st.ls ++ [l]).map fun l => .ref l.O) (st.eL + 1))) :
    News h₀ L h' (ledR c (st.addL l)) ∧ OffR c (st.addL l) := by
  have N1 : News h₀ L s (ledR c st) := news_sub N fun q hq => .tail _ hq
  have old : ∀ q ∈ ledR c st, q.1 ≠ c.Lt → h'.get? q.1 = some q.2 ∧ q.1 ≠ L ∧ h₀.get? q.1 = none := fun q hq hne => ⟨K _ _ hne (N1 q hq).1, (N1 q hq).2⟩
  have oth : ∀ q ∈ ledR c st, q ≠ (c.Lt, lstObj (st.ls.map fun l => .ref l.O) st.eL) → h'.get? q.1 = some q.2 ∧ q.1 ≠ L ∧ h₀.get? q.1 = none := fun q hq hne => old q hq ((led_split N1 O hq).1.resolve_left hne)
  have ltne : ∀ q : Addr × Obj, q.1 ≠ c.Lt → q ≠ (c.Lt, lstObj (st.ls.map fun l => .ref l.O) st.eL) := fun q h e => h (congrArg Prod.fst e)
  have im : ∀ a ∈ imR c st, a ≠ c.Lt := fun a ha e => O.2 a ha (e ▸ mem_mu.1)
  obtain ⟨m1, m2, m3⟩ := mu_ne O.1
  refine ⟨fun q hq => ?_, O.1, fun a ha => ?_⟩
  · rcases led_cases hq with rfl | rfl | rfl | rfl | ⟨j, hj, h⟩ | ⟨l', hl', rfl⟩ | ⟨z, hz, h⟩
    · exact ⟨hl, (N1 _ (.head _)).2⟩
    · exact old _ (.tail _ (.head _)) (Ne.symm m2)
    · exact old _ (.tail _ (.tail _ (.head _))) (im _ (.head _))
    · exact old _ (.tail _ (.tail _ (.tail _ (.head _)))) (im _ (.tail _ (.head _)))
    · have hq' : q ∈ ledR c st := tab_in_led hj _ h
      refine oth q hq' fun e => ?_
      subst e
      by_cases hl : ((c.Lt, lstObj (st.ls.map fun l => .ref l.O) st.eL) : Addr × Obj) = ((c.T j).l, lstObj ((st.r j).map fun r => .ref r.a) (st.e j))
      · exact (m1 j hj).1 (congrArg Prod.fst hl)
      · exact tab_ne (T := { c.T j with e := st.e j }) h hl rfl
    · rcases List.mem_append.mp (show l' ∈ st.ls ++ [l] from hl') with hh | hh
      · exact old _ (let_in_led hh) (im _ (let_im hh))
      · rw [List.mem_singleton.mp hh]
        have z := N _ (.head _)
        exact ⟨K _ _ (fun e => hO (by rw [show l.O = c.Lt from e]; exact mem_mu.1)) z.1, z.2⟩
    · have hz' : z ∈ st.zs := hz
      exact old _ (show_in_led hz' h) (im _ (show_im hz' h))
  · rcases List.mem_cons.mp ha with rfl | ha
    · exact O.2 _ (.head _)
    · rcases List.mem_cons.mp ha with rfl | ha
      · exact O.2 _ (.tail _ (.head _))
      · rcases List.mem_append.mp ha with ha | ha
        · obtain ⟨l', hl', rfl⟩ := List.mem_map.mp ha
          rcases List.mem_append.mp (show l' ∈ st.ls ++ [l] from hl') with hh | hh
          · exact O.2 _ (let_im hh)
          · rw [List.mem_singleton.mp hh]; exact hO
        · exact O.2 a (.tail _ (.tail _ (List.mem_append_right _ ha)))
theorem ledR_addZ {c : CR} {st : SRr} {z : ShowZ} (O : OffR c st) {h₀ s h' : Heap} {L : Addr} (N : News h₀ L s (showLed z ++ ledR c st)) (hO : ∀ q ∈ showLed z, q.1 ∉ c.mu) (K : ∀ b o, b ≠ c.W → s.get? b = some o → h'.get? b = some o) (hl : h'.get? c.W = some (lstObj ((st.zs ++ [z]).map fun z => .ref z.D) (st.eW + 1))) :
    News h₀ L h' (ledR c (st.addZ z)) ∧ OffR c (st.addZ z) := by
  have N1 : News h₀ L s (ledR c st) := news_sub N fun q hq => List.mem_append_right _ hq
  have old : ∀ q ∈ ledR c st, q.1 ≠ c.W → h'.get? q.1 = some q.2 ∧ q.1 ≠ L ∧ h₀.get? q.1 = none := fun q hq hne => ⟨K _ _ hne (N1 q hq).1, (N1 q hq).2⟩
  have oth : ∀ q ∈ ledR c st, q ≠ (c.W, lstObj (st.zs.map fun z => .ref z.D) st.eW) → h'.get? q.1 = some q.2 ∧ q.1 ≠ L ∧ h₀.get? q.1 = none := fun q hq hne => old q hq ((led_split N1 O hq).2.resolve_left hne)
  have im : ∀ a ∈ imR c st, a ≠ c.W := fun a ha e => O.2 a ha (e ▸ mem_mu.2)
  obtain ⟨m1, m2, m3⟩ := mu_ne O.1
  refine ⟨fun q hq => ?_, O.1, fun a ha => ?_⟩
  · rcases led_cases hq with rfl | rfl | rfl | rfl | ⟨j, hj, h⟩ | ⟨l', hl', rfl⟩ | ⟨z', hz, h⟩
    · exact old _ (.head _) m2
    · exact ⟨hl, (N1 _ (.tail _ (.head _))).2⟩
    · exact old _ (.tail _ (.tail _ (.head _))) (im _ (.head _))
    · exact old _ (.tail _ (.tail _ (.tail _ (.head _)))) (im _ (.tail _ (.head _)))
    · have hq' : q ∈ ledR c st := tab_in_led hj _ h
      refine oth q hq' fun e => ?_
      subst e
      by_cases hl : ((c.W, lstObj (st.zs.map fun z => .ref z.D) st.eW) : Addr × Obj) = ((c.T j).l, lstObj ((st.r j).map fun r => .ref r.a) (st.e j))
      · exact (m1 j hj).2 (congrArg Prod.fst hl)
      · exact tab_ne (T := { c.T j with e := st.e j }) h hl rfl
    · have hh : l' ∈ st.ls := hl'
      exact old _ (let_in_led hh) (im _ (let_im hh))
    · rcases List.mem_append.mp (show z' ∈ st.zs ++ [z] from hz) with hh | hh
      · exact old _ (show_in_led hh h) (im _ (show_im hh h))
      · rw [List.mem_singleton.mp hh] at h
        have y := N q (List.mem_append_left _ h)
        exact ⟨K _ _ (fun e => hO q h (e ▸ mem_mu.2)) y.1, y.2⟩
  · rcases List.mem_cons.mp ha with rfl | ha
    · exact O.2 _ (.head _)
    · rcases List.mem_cons.mp ha with rfl | ha
      · exact O.2 _ (.tail _ (.head _))
      · rcases List.mem_append.mp ha with ha | ha
        · exact O.2 a (.tail _ (.tail _ (List.mem_append_left _ ha)))
        · obtain ⟨z', hz', hm⟩ := List.mem_flatMap.mp ha
          rcases List.mem_append.mp (show z' ∈ st.zs ++ [z] from hz') with hh | hh
          · exact O.2 a (.tail _ (.tail _ (List.mem_append_right _ (List.mem_flatMap.mpr ⟨z', hh, hm⟩))))
          · rw [List.mem_singleton.mp hh] at hm
            simp only [List.mem_cons, List.not_mem_nil, or_false] at hm
            rcases hm with rfl | rfl | rfl
            · exact hO (z.D, _) (.head _)
            · exact hO (z.S1, _) (.tail _ (.head _))
            · exact hO (z.S2, _) (.tail _ (.tail _ (.head _)))
section
variable {prog : Program} {w : World} {A : Around} {E : Value → Shared → Prop} {s : Shared} {h₀ : Heap} {L : Addr} {m : Str → Option Value}
theorem sub_item {value slice : Expr} {D : Addr} {lo : Obj} {vs : List Value} {n k : Nat} {i : Int} {t : Tok} {v : Value} {Q : Value → Shared → Prop} (hg : s.heap.get? D = some lo) (hc : lo.cls = .type "list") (hd : lo.data = .seq vs.toArray n) (hi : i = (k : Int)) (hx : vs[k]? = some v) (hk : k < 2 ^ 60) (h : Q v s)
    (hs : subscripted slice false (.ref D) (.int i t) = operate [.ref D, .int i t] (getItem (.ref D) (.int i t))) (ht : ∀ r, letTemporaryGo value (.ref D) r = pure ()) :
    wpAny (model prog w) A (subscriptTail value slice (.ref D) (.int i t)) Q E s := by
  subst hi
  have hl : s.heap.IsList D vs.toArray := ⟨lo, hg, hc, n, hd⟩
  have b1 : (0 : Int) ≤ (k : Int) := by omega
  have b2 : (k : Int) < 2 ^ 63 := by
    have : (2 : Int) ^ 63 = 9223372036854775808 := by decide
    rw [this]
    have : (2 : Nat) ^ 60 = 1152921504606846976 := by decide
    omega
  exact tail_of_ItemOn ⟨"list", _, slot_list_getitem.lookup, hl.typeIs, wpAny_getItem_list hl b1 b2 (by simpa using hx) h⟩ hs ht
theorem append_K {D : Addr} {us : List Value} {n : Nat} {x : Value} {Q : Value → Shared → Prop} (F : Fr h₀ L s.heap m) (hg : s.heap.get? D = some (lstObj us n)) (hL : D ≠ L) (h0 : h₀.get? D = none) (hsz : us.length ≤ 1000)
    (h : ∀ h', Fr h₀ L h' m → (∀ b o, b ≠ D → s.heap.get? b = some o → h'.get? b = some o) → h'.get? D = some (lstObj (us ++ [x]) (n + 1)) → Q .none { s with heap := h' }) :
    wpAny (model prog w) A (call (.builtin "list.append") [.ref D, x]) Q E s := by
  refine append_at (its := us.toArray) (n := n) (hsz := by rw [List.size_toArray]; exact Nat.le_trans hsz (by decide)) hg fun h' hs ho' => h h' (F.change hs hL h0) (fun b o hb e => (hs.2 b hb).trans e) ?_
  rw [ho']
  simp [lstObj]
end

theorem offRU : True := by
  w_top off
  trivial
def mTA (l : List Ab) : Nat := l.foldl (fun a r => max a r.2.1) 0
def mFA (l : List Ab) : Nat := l.foldl (fun a r => max a r.2.2.1) 0
theorem maxT_ab (rows : List Row) : maxT rows = mTA (rows.map Row.ab) := by unfold maxT mTA; rw [List.foldl_map]; rfl
theorem maxF_ab (rows : List Row) : maxF rows = mFA (rows.map Row.ab) := by unfold maxF mFA; rw [List.foldl_map]; rfl
/-- a writing at a site -/
def writeA (l : List Ab) (site c fl : Nat) : List Ab := (l.filter fun a => !(a.1 == c)) ++ [(c, if site = 0 then mTA l + 1 else mTA l, if site = 0 then mFA l else mFA l + 1, fl)]
theorem mu_led {c : CR} (st : SRr) {a : Addr} (h : a ∈ c.mu) : ∃ vs e, (a, lstObj vs e) ∈ ledR c st := by
  simp only [CR.mu, List.mem_cons, List.not_mem_nil, or_false] at h
  rcases h with rfl | rfl | rfl | rfl | rfl
  · exact ⟨_, _, .head _⟩
  · exact ⟨_, _, .tail _ (.head _)⟩
  · exact ⟨_, _, tab_in_led (i := 0) (by decide) _ (.head _)⟩
  · exact ⟨_, _, tab_in_led (i := 1) (by decide) _ (.head _)⟩
  · exact ⟨_, _, tab_in_led (i := 2) (by decide) _ (.head _)⟩
theorem mu_new {c : CR} {st : SRr} {a : Addr} (h : ∀ q ∈ ledR c st, q.1 ≠ a) : a ∉ c.mu := fun hm => by
  obtain ⟨vs, e, hq⟩ := mu_led st hm
  exact h _ hq rfl
theorem it_off {c : CR} {st : SRr} {h₀ h : Heap} {L I : Addr} {x y : Int} (N : News h₀ L h ((I, itR x y) :: ledR c st)) : ∀ q ∈ ledR c st, q.1 ≠ I := by
  intro q hq
  refine news_ne N (o := q.2) (.tail _ hq) (.head _) ?_
  rcases led_cases hq with rfl | rfl | rfl | rfl | ⟨j, hj, h⟩ | ⟨l, hl, rfl⟩ | ⟨z, hz, h⟩
  · simp [lstObj, itR]
  · simp [lstObj, itR]
  · simp [lstObj, itR]
  · simp [lstObj, itR]
  · simp only [CR.tab, tabLed, List.mem_cons, List.mem_map] at h
    rcases h with rfl | rfl | rfl | ⟨r, _, rfl⟩
    · simp [lstObj, itR]
    · simp [instObj, itR]
    · simp [itR]
    · simp [Row.obj, itR]
  · simp [LetZ.obj, lstObj, itR]
  · simp only [showLed, List.mem_cons, List.not_mem_nil, or_false] at h
    rcases h with rfl | rfl | rfl <;> simp [lstObj, itR]
section
variable {prog : Program} {w : World} {p : Program} {loose : List Str} {mean : ExcName → Option Value} {mg mb : Str → Option Value} {c : CR} {st : SRr} {i : Nat} {x : Addr × Obj}
  {dp un : Nat} {gd : Option (List Code)} {cn : Str} {cs : Scope} {a : Addr} {ccd : Value} {cl : List (Str × Addr)} {outer : List Env} {A₀ : Around} {base h₀ : Heap} {L : Addr} {m : Str → Option Value} {s : Shared} {Q E : Value → Shared → Prop}
theorem use_takeR {l : LetZ} (B : Below A₀ base outer h₀) (F : Fr h₀ L s.heap m) (X : (hd.heap_39 w.params).In h₀) (T : Top p loose mean mg mb h₀) (XB : (hd.heap_39 w.params).In base) (TB : Top p loose mean mg mb base) (KD : KtsDicts (frs outer) h₀) (hk : cs.kind = .function) (hdp : dp + 60 < recursionLimit) (hu : un + 8 * 60 < cLine)
    (N : News h₀ L s.heap (x :: ledR c st)) (O : OffR c st) (hx : x.1 ∉ c.mu) (hi : i < 3) (hl : l ∈ st.ls) (hvs : IntsAre l.vs (l.us.flatMap octA)) (hr : (st.r i).length + l.us.length ≤ 60) (hrow : ∀ r ∈ st.r i, r.t ≤ 32 ∧ r.f ≤ 32 ∧ 1 ≤ r.fl ∧ r.fl ≤ 7)
    (hus : ∀ u ∈ l.us, u.1 < 2 ∧ u.2.1 ≤ 5 ∧ u.2.2.1 ≤ 5 ∧ 1 ≤ u.2.2.2 ∧ u.2.2.2 ≤ 7)
    (h : ∀ h' tk' h₀' rows' e', KtsTurn (frs outer) h₀ h₀' → Fr h₀' L h' m → Below A₀ base outer h₀' → (hd.heap_39 w.params).In h₀' → Top p loose mean mg mb h₀' → KtsDicts (frs outer) h₀' → News h₀' L h' (x :: ledR c (st.put i rows' e')) → rows'.map Row.ab = l.us.foldl layA ((st.r i).map Row.ab) →
      Q (.ref (c.T i).t) { s with heap := h', toks := tk' }) :
    wpAny (model prog w) (ktrTop dp un gd cn cs L a ccd cl outer) (call (.ref 380) [.ref (c.T i).t, .ref l.O]) Q E s := by
  have N1 : News h₀ L s.heap (ledR c st) := news_sub N fun q hq => .tail _ hq
  have hD : @Ne Nat l.O (c.T i).l := fun e => O.2 l.O (let_im hl) (by rw [e]; exact mu_at hi)
  refine c_take (T := { c.T i with e := st.e i }) (rows := st.r i) (us := l.us) (D := l.O) (vs := l.vs) (n := l.e) hr hD hrow hus hvs dp un gd cn cs a ccd cl outer A₀ base h₀ L m s Q E B F X T XB TB KD hk hdp hu True.intro
    (news_sub N1 fun q hq => ?_) fun r h' tk' h₀' KT F' B' X' T' D' K P => ?_
  · rcases List.mem_append.mp hq with hq | hq
    · exact tab_in_led hi q hq
    · rw [List.mem_singleton.mp hq]; exact let_in_led hl
  · obtain ⟨rfl, rows', ⟨e', h1, h2⟩, h3⟩ := P
    refine h h' tk' h₀' rows' e' KT F' B' X' T' D' (List.forall_mem_cons.mpr ⟨⟨keptF_get K B (N x (.head _)).2.1 (N x (.head _)).2.2 (fun hm => hx (by rw [List.mem_singleton.mp hm]; exact mu_at hi)) (N x (.head _)).1, (N x (.head _)).2.1, KT.none_ _ (N x (.head _)).2.2⟩, ?_⟩) h3
    exact ledR_put O F N1 hi (fun q hq hne => keptF_get K B (N1 q hq).2.1 (N1 q hq).2.2 (fun hm => hne (List.mem_singleton.mp hm)) (N1 q hq).1) KT.none_ h1 h2
theorem use_writeR {nm fl site : Nat} {y1 y3 : Int} {y2 : Str} (B : Below A₀ base outer h₀) (F : Fr h₀ L s.heap m) (X : (hd.heap_39 w.params).In h₀) (T : Top p loose mean mg mb h₀) (hk : cs.kind = .function) (hdp : dp + 40 < recursionLimit) (hu : un + 8 * 40 < cLine)
    (N : News h₀ L s.heap (x :: ledR c st)) (O : OffR c st) (hx : x.1 ∉ c.mu) (hi : i < 3) (hr : (st.r i).length ≤ 20) (hrow : ∀ r ∈ st.r i, r.t ≤ 32 ∧ r.f ≤ 32 ∧ 1 ≤ r.fl ∧ r.fl ≤ 7) (hs : site ≤ 1) (h1 : 1 ≤ fl) (h7 : fl ≤ 7) (e1 : y1 = (site : Int)) (e2 : y2 = nmS nm) (e3 : y3 = (fl : Int)) {ts tn tf : Tok}
    (h : ∀ r h' tk' rows' e', Fr h₀ L h' m → News h₀ L h' (x :: ledR c (st.put i rows' e')) → rows'.map Row.ab = writeA ((st.r i).map Row.ab) site (nm % 2) fl → Q r { s with heap := h', toks := tk' }) :
    wpAny (model prog w) (ktrTop dp un gd cn cs L a ccd cl outer) (call (.ref 359) [.ref (c.T i).t, .int y1 ts, .str y2 tn, .int y3 tf]) Q E s := by
  subst e1 e2 e3
  have N1 : News h₀ L s.heap (ledR c st) := news_sub N fun q hq => .tail _ hq
  refine c_write (T := { c.T i with e := st.e i }) (rows := st.r i) (nm := nm) (fl := fl) (site := site) hr hs h1 h7 hrow dp un gd cn cs a ccd cl outer A₀ base h₀ L m s Q E B F X T hk hdp hu True.intro (news_sub N1 fun q hq => tab_in_led hi q hq) fun r h' tk' F' K P => ?_
  obtain ⟨rows', ⟨e', g1, g2⟩, h3⟩ := put_added_cut P
  refine h r h' tk' rows' e' F' (List.forall_mem_cons.mpr ⟨⟨kept_off K (N x (.head _)).2.1 (fun e => hx (by rw [e]; exact mu_at hi)) (N x (.head _)).1, (N x (.head _)).2⟩, ?_⟩) ?_
  · exact ledR_put O F N1 hi (fun q hq hne => kept_off K (N1 q hq).2.1 hne (N1 q hq).1) (fun _ e => e) g1 g2
  · rw [h3, maxT_ab, maxF_ab]; rfl
theorem use_letterR {r0 : Row} (B : Below A₀ base outer h₀) (F : Fr h₀ L s.heap m) (X : (hd.heap_39 w.params).In h₀) (T : Top p loose mean mg mb h₀) (hk : cs.kind = .function) (hdp : dp + 40 < recursionLimit) (hu : un + 8 * 40 < cLine)
    (N : News h₀ L s.heap (x :: ledR c st)) (hi : i < 3) (h0 : r0 ∈ st.r i) (hr : (st.r i).length ≤ 20) (hrow : ∀ r ∈ st.r i, r.t ≤ 32 ∧ r.f ≤ 32 ∧ 1 ≤ r.t + r.f ∧ 1 ≤ r.fl ∧ r.fl ≤ 7)
    (h : ∀ (l : LetZ) h' tk', Fr h₀ L h' m → News h₀ L h' (l.obj :: x :: ledR c st) → l.O ∉ c.mu → l.us = (st.r i).map Row.ab → IntsAre l.vs (l.us.flatMap octA) → Q (.ref l.O) { s with heap := h', toks := tk' }) :
    wpAny (model prog w) (ktrTop dp un gd cn cs L a ccd cl outer) (call (.ref 366) [.ref (c.T i).t]) Q E s := by
  refine ConL.use0n (c_letter (T := { c.T i with e := st.e i }) (rows := st.r i) h0 hr hrow) B F X T hk hdp hu True.intro N (fun q hq => .tail _ (tab_in_led hi q hq)) fun r h' tk' F' N' K FN P => ?_
  obtain ⟨O, vs, e, rfl, hn, hv⟩ := P
  refine h ⟨O, vs, e, (st.r i).map Row.ab⟩ h' tk' F' (NewIn.news hn F K N) (mu_new fun q hq => FN O (hn _ (.head _)).1 q (.tail _ hq)) rfl (by rw [← octs_ab]; exact hv)
theorem use_shownR (B : Below A₀ base outer h₀) (F : Fr h₀ L s.heap m) (X : (hd.heap_39 w.params).In h₀) (T : Top p loose mean mg mb h₀) (hk : cs.kind = .function) (hdp : dp + 40 < recursionLimit) (hu : un + 8 * 40 < cLine)
    (N : News h₀ L s.heap (x :: ledR c st)) (hi : i < 3) (hr : (st.r i).length < 64)
    (h : ∀ (z : ShowZ) h' tk', Fr h₀ L h' m → News h₀ L h' (showLed z ++ x :: ledR c st) → (∀ q ∈ showLed z, q.1 ∉ c.mu ∧ q.1 ≠ c.Nn ∧ s.heap.get? q.1 = none) → Shows z ((st.r i).map Row.ab) → Q (.ref z.D) { s with heap := h', toks := tk' }) :
    wpAny (model prog w) (ktrTop dp un gd cn cs L a ccd cl outer) (call (.ref 387) [.ref (c.T i).t]) Q E s := by
  refine ConL.use0n (c_shown (T := { c.T i with e := st.e i }) (rows := st.r i) hr) B F X T hk hdp hu True.intro N (fun q hq => .tail _ (tab_in_led hi q hq)) fun r h' tk' F' N' K FN P => ?_
  obtain ⟨z, rfl, hn, hs⟩ := P
  exact h z h' tk' F' (NewIn.news hn F K N) (fun q hq => ⟨mu_new fun q' hq' => FN _ (hn q hq).1 q' (.tail _ hq'), Ne.symm (FN _ (hn q hq).1 (c.Nn, lstObj c.vs c.n) (.tail _ (.tail _ (.tail _ (.tail _ (.head _)))))), (hn q hq).1⟩) hs
variable {A : Around}
theorem use_appL {l : LetZ} (F : Fr h₀ L s.heap m) (N : News h₀ L s.heap (l.obj :: x :: ledR c st)) (O : OffR c st) (hx : x.1 ∉ c.mu) (hO : l.O ∉ c.mu) (hsz : st.ls.length ≤ 1000)
    (h : ∀ h', Fr h₀ L h' m → News h₀ L h' (x :: ledR c (st.addL l)) → OffR c (st.addL l) → Q .none { s with heap := h' }) :
    wpAny (model prog w) A (call (.builtin "list.append") [.ref c.Lt, .ref l.O]) Q E s := by
  have z := N (c.Lt, lstObj (st.ls.map fun l => .ref l.O) st.eL) (.tail _ (.tail _ (.head _)))
  refine append_K F z.1 z.2.1 z.2.2 (by simpa using hsz) fun h' F' K g => ?_
  have zx := N x (.tail _ (.head _))
  obtain ⟨N', O'⟩ := ledR_addL (l := l) O (news_sub N fun q hq => by
    rcases List.mem_cons.mp hq with rfl | hq
    · exact .head _
    · exact .tail _ (.tail _ hq)) hO K (by simpa using g)
  exact h h' F' (List.forall_mem_cons.mpr ⟨⟨K _ _ (fun e => hx (by rw [e]; exact mem_mu.1)) zx.1, zx.2⟩, N'⟩) O'
theorem use_appZ {z : ShowZ} (F : Fr h₀ L s.heap m) (N : News h₀ L s.heap (showLed z ++ x :: ledR c st)) (O : OffR c st) (hx : x.1 ∉ c.mu) (hO : ∀ q ∈ showLed z, q.1 ∉ c.mu) (hsz : st.zs.length ≤ 1000)
    (h : ∀ h', Fr h₀ L h' m → News h₀ L h' (x :: ledR c (st.addZ z)) → OffR c (st.addZ z) → Q .none { s with heap := h' }) :
    wpAny (model prog w) A (call (.builtin "list.append") [.ref c.W, .ref z.D]) Q E s := by
  have y := N (c.W, lstObj (st.zs.map fun z => .ref z.D) st.eW) (List.mem_append_right _ (.tail _ (.tail _ (.head _))))
  refine append_K F y.1 y.2.1 y.2.2 (by simpa using hsz) fun h' F' K g => ?_
  have zx := N x (List.mem_append_right _ (.head _))
  obtain ⟨N', O'⟩ := ledR_addZ (z := z) O (news_sub N fun q hq => by
    rcases List.mem_append.mp hq with hq | hq
    · exact List.mem_append_left _ hq
    · exact List.mem_append_right _ (.tail _ hq)) hO K (by simpa using g)
  exact h h' F' (List.forall_mem_cons.mpr ⟨⟨K _ _ (fun e => hx (by rw [e]; exact mem_mu.2)) zx.1, zx.2⟩, N'⟩) O'
end

theorem offRD : True := by
  w_top off
  trivial
/-- the run in plain words -/
structure RA where
  ta : Nat → List Ab
  le : List (List Ab)
def stepA (ns : List Nat) (A : RA) (k : Nat) : RA :=
  let v := ns.getD k 0
  let t := if v / 2 % 60 % (k + 1) < k then (A.le.getD (v / 2 % 60 % (k + 1)) []).foldl layA (A.ta (v % 2)) else A.ta (v % 2)
  let t2 := writeA t (v % 2) (v / 120 % 4 % 2) (v / 480 % 7 + 1)
  ⟨fun i => if i = v % 2 then t2 else A.ta i, A.le ++ [t2]⟩
def runA (ns : List Nat) : Nat → RA
  | 0 => ⟨fun _ => [], []⟩
  | k + 1 => stepA ns (runA ns k) k
def thirdA (ns : List Nat) : Nat → List Ab
  | 0 => []
  | j + 1 => ((runA ns 5).le.getD (ns.getD 5 0 / 5 ^ j % 5) []).foldl layA (thirdA ns j)
def OkL (l : List Ab) : Prop := l.length ≤ 10 ∧ ∀ a ∈ l, a.1 < 2 ∧ a.2.1 ≤ 5 ∧ a.2.2.1 ≤ 5 ∧ 1 ≤ a.2.1 + a.2.2.1 ∧ 1 ≤ a.2.2.2 ∧ a.2.2.2 ≤ 7
def OkRun (ns : List Nat) : Prop := ∀ k, k ≤ 5 → (∀ i, OkL ((runA ns k).ta i)) ∧ ∀ l ∈ (runA ns k).le, OkL l

theorem offPL : True := by
  w_top off
  trivial
/-- the specification in plain words -/
structure DA where
  kn : Nat → List Nat
  se : List (List Nat)
def knownD (ns : List Nat) (D : DA) (k : Nat) : List Nat :=
  let v := ns.getD k 0
  (if v / 2 % 60 % (k + 1) < k then (List.range k).filter (fun e => (D.kn (v % 2)).contains e || (D.se.getD (v / 2 % 60 % (k + 1)) []).contains e) else D.kn (v % 2)) ++ [k]
def stepD (ns : List Nat) (D : DA) (k : Nat) : DA :=
  ⟨fun i => if i = ns.getD k 0 % 2 then knownD ns D k else D.kn i, D.se ++ [knownD ns D k]⟩
def runD (ns : List Nat) : Nat → DA
  | 0 => ⟨fun _ => [], []⟩
  | k + 1 => stepD ns (runD ns k) k
def cntS (site : Nat → Nat) (i : Nat) (l : List Nat) : Nat := (l.filter fun e => site e == i).length
theorem sub_len : ∀ {l l' : List Nat}, l.Nodup → (∀ x ∈ l, x ∈ l') → l.length ≤ l'.length
  | [], _, _, _ => Nat.zero_le _
  | a :: l, l', hn, hs => by
    have ha : a ∈ l' := hs a (.head _)
    have h1 : l.length ≤ (l'.erase a).length := sub_len (List.nodup_cons.mp hn).2 fun x hx => by
      refine (List.mem_erase_of_ne ?_).mpr (hs x (.tail _ hx))
      rintro rfl
      exact (List.nodup_cons.mp hn).1 hx
    rw [List.length_erase_of_mem ha] at h1
    have : 0 < l'.length := List.length_pos_of_mem ha
    simp only [List.length_cons]; omega
theorem sub_lt {l l' : List Nat} {x : Nat} (hn : l.Nodup) (hs : ∀ x ∈ l, x ∈ l') (h1 : x ∈ l') (h2 : x ∉ l) : l.length < l'.length :=
  sub_len (l := x :: l) (List.nodup_cons.mpr ⟨h2, hn⟩) fun y hy => (List.mem_cons.mp hy).elim (fun e => e ▸ h1) (hs y)
theorem cnt_le {site : Nat → Nat} {i : Nat} {l l' : List Nat} (hn : l.Nodup) (hs : ∀ x ∈ l, site x = i → x ∈ l') : cntS site i l ≤ cntS site i l' :=
  sub_len (hn.filter _) fun x hx => by
    obtain ⟨a, b⟩ := List.mem_filter.mp hx
    exact List.mem_filter.mpr ⟨hs x a (by simpa using b), b⟩
theorem cnt_lt {site : Nat → Nat} {i : Nat} {l l' : List Nat} {x : Nat} (hn : l.Nodup) (hs : ∀ x ∈ l, site x = i → x ∈ l') (hx : site x = i) (h1 : x ∈ l') (h2 : x ∉ l) : cntS site i l < cntS site i l' :=
  sub_lt (x := x) (hn.filter _) (fun x hx => by
    obtain ⟨a, b⟩ := List.mem_filter.mp hx
    exact List.mem_filter.mpr ⟨hs x a (by simpa using b), b⟩) (List.mem_filter.mpr ⟨h1, by simpa using hx⟩) fun h => h2 (List.mem_filter.mp h).1
theorem cnt_two {site : Nat → Nat} : ∀ {l : List Nat}, (∀ x ∈ l, site x < 2) → cntS site 0 l + cntS site 1 l = l.length
  | [], _ => rfl
  | a :: l, h => by
    have ih := cnt_two (site := site) (l := l) fun x hx => h x (.tail _ hx)
    have ha := h a (.head _)
    unfold cntS at ih ⊢
    simp only [List.filter_cons, List.length_cons]
    rcases Nat.lt_or_ge (site a) 1 with h0 | h1
    · have : site a = 0 := by omega
      simp [this]; omega
    · have : site a = 1 := by omega
      simp [this]; omega
structure Past (site : Nat → Nat) (sn : Nat → List Nat) (n : Nat) : Prop where
  nd : ∀ e, e < n → (sn e).Nodup
  le : ∀ e, e < n → ∀ x ∈ sn e, x ≤ e
  self : ∀ e, e < n → e ∈ sn e
  tr : ∀ e, e < n → ∀ x ∈ sn e, ∀ y ∈ sn x, y ∈ sn e
  ch : ∀ e, e < n → ∀ x, x ≤ e → site x = site e → x ∈ sn e
  two : ∀ e, site e < 2
section
variable {site : Nat → Nat} {sn : Nat → List Nat} {n : Nat}
def tE (site : Nat → Nat) (sn : Nat → List Nat) (e : Nat) : Nat := cntS site 0 (sn e)
def fE (site : Nat → Nat) (sn : Nat → List Nat) (e : Nat) : Nat := (sn e).length - cntS site 0 (sn e)
theorem fE_eq (P : Past site sn n) (e : Nat) : fE site sn e = cntS site 1 (sn e) := by
  have := cnt_two (site := site) (l := sn e) fun x _ => P.two x
  unfold fE; omega
theorem cnt_at_site (P : Past site sn n) {x y : Nat} (hx : x < n) (hy : y < n) (h : x ∉ sn y) : cntS site (site x) (sn y) < cntS site (site x) (sn x) :=
  cnt_lt (x := x) (P.nd y hy) (fun z hz hs => by
    rcases Nat.lt_or_ge z x with hl | hl
    · exact P.ch x hx z (Nat.le_of_lt hl) hs
    · exact absurd (P.tr y hy z hz x (P.ch z (Nat.lt_of_le_of_lt (P.le y hy z hz) hy) x hl hs.symm)) h) rfl (P.self x hx) h
theorem less_iff (P : Past site sn n) (h5 : n ≤ 5) {x y : Nat} (hx : x < n) (hy : y < n) : lessB (tE site sn x) (fE site sn x) (tE site sn y) (fE site sn y) = true ↔ x ∈ sn y ∧ x ≠ y := by
  rw [fE_eq P, fE_eq P]
  unfold lessB tE
  simp only [Bool.and_eq_true, decide_eq_true_eq]
  constructor
  · intro ⟨h1, h2⟩
    have hm : x ∈ sn y := by
      refine Classical.byContradiction fun hn => ?_
      have hc := cnt_at_site P hx hy hn
      have h2x := P.two x
      rcases Nat.lt_or_ge (site x) 1 with h0 | h0
      · rw [show site x = 0 by omega] at hc; omega
      · have hs : site x = 1 := by omega
        rw [hs] at hc
        have h6 : cntS site 0 (sn y) < (List.range 5).length := sub_lt (x := x) ((P.nd y hy).filter _) (fun z hz => by
          have := P.le y hy z (List.mem_filter.mp hz).1
          exact List.mem_range.mpr (by omega)) (List.mem_range.mpr (by omega)) fun h => hn (List.mem_filter.mp h).1
        rw [List.length_range] at h6
        omega
    refine ⟨hm, ?_⟩
    rintro rfl
    omega
  · intro ⟨hm, hne⟩
    have s : ∀ i, cntS site i (sn x) ≤ cntS site i (sn y) := fun i => cnt_le (P.nd x hx) fun z hz _ => P.tr y hy x hm z hz
    have hyx : y ∉ sn x := fun h => hne (Nat.le_antisymm (P.le y hy x hm) (P.le x hx y h))
    have hl : (sn x).length < (sn y).length := sub_lt (P.nd x hx) (fun z hz => P.tr y hy x hm z hz) (P.self y hy) hyx
    have e1 := cnt_two (site := site) (l := sn x) fun z _ => P.two z
    have e2 := cnt_two (site := site) (l := sn y) fun z _ => P.two z
    have s0 := s 0
    have s1 := s 1
    omega
theorem equal_iff (P : Past site sn n) {x y : Nat} (hx : x < n) (hy : y < n) : equalB (tE site sn x) (fE site sn x) (tE site sn y) (fE site sn y) = true ↔ x = y := by
  rw [fE_eq P, fE_eq P]
  unfold equalB tE
  simp only [Bool.and_eq_true, decide_eq_true_eq]
  constructor
  · intro ⟨h1, h2⟩
    refine Classical.byContradiction fun hne => ?_
    have h : ∀ {a b : Nat}, a < n → b < n → a ∉ sn b → cntS site 0 (sn a) = cntS site 0 (sn b) → cntS site 1 (sn a) = cntS site 1 (sn b) → False := fun {a b} ha hb hn q0 q1 => by
      have hc := cnt_at_site P ha hb hn
      have h2x := P.two a
      rcases Nat.lt_or_ge (site a) 1 with h0 | h0
      · rw [show site a = 0 by omega] at hc; omega
      · rw [show site a = 1 by omega] at hc; omega
    by_cases hm : x ∈ sn y
    · exact h hy hx (fun h' => hne (Nat.le_antisymm (P.le y hy x hm) (P.le x hx y h'))) h1.symm h2.symm
    · exact h hx hy hm h1 h2
  · rintro rfl
    exact ⟨rfl, rfl⟩
/-- the row of a writing -/
def abE (site : Nat → Nat) (sn : Nat → List Nat) (nm fl : Nat → Nat) (e : Nat) : Ab := (nm e, tE site sn e, fE site sn e, fl e)
variable {nm fl : Nat → Nat}
/-- the table l holds what stands of the writings S -/
structure Rep (site : Nat → Nat) (sn : Nat → List Nat) (nm fl : Nat → Nat) (n : Nat) (l : List Ab) (S : Nat → Prop) (es : List Nat) : Prop where
  eq : l = es.map (abE site sn nm fl)
  nd : es.Nodup
  lt : ∀ e, S e → e < n
  sub : ∀ e ∈ es, S e
  up : ∀ e, S e → ∃ f ∈ es, nm f = nm e ∧ e ∈ sn f
  anti : ∀ e ∈ es, ∀ f ∈ es, nm e = nm f → e ∈ sn f → e = f
theorem rep_lay (P : Past site sn n) (h5 : n ≤ 5) {l : List Ab} {S : Nat → Prop} {es : List Nat} (R : Rep site sn nm fl n l S es) {x : Nat} (hx : x < n) : ∃ es', Rep site sn nm fl n (layA l (abE site sn nm fl x)) (fun e => S e ∨ e = x) es' := by
  obtain ⟨rfl, nd, lt, sub, up, anti⟩ := R
  have hlt : ∀ e ∈ es, e < n := fun e he => lt e (sub e he)
  have lt' : ∀ e, (S e ∨ e = x) → e < n := fun e h => h.elim (lt e) fun q => q ▸ hx
  by_cases hc : ∃ f ∈ es, nm f = nm x ∧ x ∈ sn f
  · obtain ⟨f, hf, hn, hm⟩ := hc
    have : layA (es.map (abE site sn nm fl)) (abE site sn nm fl x) = es.map (abE site sn nm fl) := by
      unfold layA
      rw [if_pos]
      rw [List.any_eq_true]
      refine ⟨_, List.mem_map_of_mem hf, ?_⟩
      show (nm f == nm x && (equalB (tE site sn x) (fE site sn x) (tE site sn f) (fE site sn f) || lessB (tE site sn x) (fE site sn x) (tE site sn f) (fE site sn f))) = true
      rw [Bool.and_eq_true, Bool.or_eq_true, equal_iff P hx (hlt f hf), less_iff P h5 hx (hlt f hf)]
      refine ⟨by simpa using hn, ?_⟩
      by_cases e : x = f
      · exact .inl e
      · exact .inr ⟨hm, e⟩
    rw [this]
    exact ⟨es, rfl, nd, lt', fun e he => .inl (sub e he), fun e h => h.elim (up e) fun q => q ▸ ⟨f, hf, hn, hm⟩, anti⟩
  · have hno : ∀ f ∈ es, nm f = nm x → x ∉ sn f := fun f hf hn hm => hc ⟨f, hf, hn, hm⟩
    have hxn : x ∉ es := fun h => hno x h rfl (P.self x hx)
    have e1 : ((es.map (abE site sn nm fl)).filter fun a => !(a.1 == (abE site sn nm fl x).1)) = (es.filter fun e => !(nm e == nm x)).map (abE site sn nm fl) := by rw [List.filter_map]; rfl
    have e2 : ((es.map (abE site sn nm fl)).filter fun a => a.1 == (abE site sn nm fl x).1 && !lessB a.2.1 a.2.2.1 (abE site sn nm fl x).2.1 (abE site sn nm fl x).2.2.1) = (es.filter fun e => nm e == nm x && !lessB (tE site sn e) (fE site sn e) (tE site sn x) (fE site sn x)).map (abE site sn nm fl) := by rw [List.filter_map]; rfl
    have : layA (es.map (abE site sn nm fl)) (abE site sn nm fl x) = ((es.filter fun e => !(nm e == nm x)) ++ (es.filter fun e => nm e == nm x && !lessB (tE site sn e) (fE site sn e) (tE site sn x) (fE site sn x)) ++ [x]).map (abE site sn nm fl) := by
      unfold layA
      rw [if_neg, e1, e2, List.map_append, List.map_append]
      · rfl
      · rw [List.any_eq_true]
        rintro ⟨a, ha, hb⟩
        obtain ⟨f, hf, rfl⟩ := List.mem_map.mp ha
        replace hb : (nm f == nm x && (equalB (tE site sn x) (fE site sn x) (tE site sn f) (fE site sn f) || lessB (tE site sn x) (fE site sn x) (tE site sn f) (fE site sn f))) = true := hb
        rw [Bool.and_eq_true, Bool.or_eq_true, equal_iff P hx (hlt f hf), less_iff P h5 hx (hlt f hf)] at hb
        obtain ⟨h1, h2⟩ := hb
        rcases h2 with rfl | h2
        · exact hxn hf
        · exact hno f hf (by simpa using h1) h2.1
    have mem : ∀ e, e ∈ (es.filter fun e => !(nm e == nm x)) ++ (es.filter fun e => nm e == nm x && !lessB (tE site sn e) (fE site sn e) (tE site sn x) (fE site sn x)) ++ [x] ↔ (e ∈ es ∧ ¬ (nm e = nm x ∧ e ∈ sn x)) ∨ e = x := by
      intro e
      simp only [List.mem_append, List.mem_filter, List.mem_singleton, Bool.and_eq_true, Bool.not_eq_true', beq_iff_eq, beq_eq_false_iff_ne]
      constructor
      · rintro ((⟨h, q⟩ | ⟨h, q1, q2⟩) | rfl)
        · exact .inl ⟨h, fun z => q z.1⟩
        · refine .inl ⟨h, fun z => ?_⟩
          have : lessB (tE site sn e) (fE site sn e) (tE site sn x) (fE site sn x) = true := (less_iff P h5 (hlt e h) hx).mpr ⟨z.2, fun q => hxn (q ▸ h)⟩
          rw [this] at q2; cases q2
        · exact .inr rfl
      · rintro (⟨h, q⟩ | rfl)
        · by_cases z : nm e = nm x
          · refine .inl (.inr ⟨h, z, ?_⟩)
            cases hb : lessB (tE site sn e) (fE site sn e) (tE site sn x) (fE site sn x) with
            | false => rfl
            | true => exact absurd ⟨z, ((less_iff P h5 (hlt e h) hx).mp hb).1⟩ q
          · exact .inl (.inl ⟨h, z⟩)
        · exact .inr rfl
    rw [this]
    refine ⟨_, rfl, ?_, lt', fun e he => ?_, fun e h => ?_, fun e he f hf hn hm => ?_⟩
    · rw [List.nodup_append]
      refine ⟨?_, by simp, fun a ha b hb => ?_⟩
      · rw [List.nodup_append]
        refine ⟨nd.filter _, nd.filter _, fun a ha b hb => ?_⟩
        have q1 := (List.mem_filter.mp ha).2
        have q2 := (List.mem_filter.mp hb).2
        rintro rfl
        rw [Bool.and_eq_true] at q2
        rw [q2.1] at q1; cases q1
      · rw [List.mem_singleton.mp hb]
        rintro rfl
        rcases List.mem_append.mp ha with ha | ha
        · exact hxn (List.mem_filter.mp ha).1
        · exact hxn (List.mem_filter.mp ha).1
    · rcases (mem e).mp he with h | h
      · exact .inl (sub e h.1)
      · exact .inr h
    · have top : ∀ e, e ∈ sn x → nm x = nm e → ∃ f ∈ (es.filter fun e => !(nm e == nm x)) ++ (es.filter fun e => nm e == nm x && !lessB (tE site sn e) (fE site sn e) (tE site sn x) (fE site sn x)) ++ [x], nm f = nm e ∧ e ∈ sn f := fun e he hn => ⟨x, (mem x).mpr (.inr rfl), hn, he⟩
      rcases h with h | rfl
      · obtain ⟨f, hf, hn, hm⟩ := up e h
        by_cases z : nm f = nm x ∧ f ∈ sn x
        · exact top e (P.tr x hx f z.2 e hm) (z.1.symm.trans hn)
        · exact ⟨f, (mem f).mpr (.inl ⟨hf, z⟩), hn, hm⟩
      · exact top e (P.self e hx) rfl
    · rcases (mem e).mp he with h | rfl
      · rcases (mem f).mp hf with h' | rfl
        · exact anti e h.1 f h'.1 hn hm
        · exact absurd ⟨hn, hm⟩ h.2
      · rcases (mem f).mp hf with h' | rfl
        · exact absurd hm (hno f h'.1 hn.symm)
        · rfl
theorem rep_mono {l : List Ab} {S S' : Nat → Prop} {es : List Nat} (R : Rep site sn nm fl n l S es) (lt : ∀ e, S' e → e < n) (h1 : ∀ e, S e → S' e) (h2 : ∀ e, S' e → ∃ f, S f ∧ nm f = nm e ∧ e ∈ sn f) (tr : ∀ e, e < n → ∀ x ∈ sn e, ∀ y ∈ sn x, y ∈ sn e) : Rep site sn nm fl n l S' es :=
  ⟨R.eq, R.nd, lt, fun e he => h1 e (R.sub e he), fun e he => by
    obtain ⟨f, hf, hn, hm⟩ := h2 e he
    obtain ⟨g, hg, hn', hm'⟩ := R.up f hf
    exact ⟨g, hg, hn'.trans hn, tr g (R.lt g (R.sub g hg)) f hm' e hm⟩, R.anti⟩
theorem rep_fold (P : Past site sn n) (h5 : n ≤ 5) : ∀ (xs : List Nat) {l : List Ab} {S : Nat → Prop} {es : List Nat}, Rep site sn nm fl n l S es → (∀ x ∈ xs, x < n) → ∃ es', Rep site sn nm fl n ((xs.map (abE site sn nm fl)).foldl layA l) (fun e => S e ∨ e ∈ xs) es'
  | [], l, S, es, R, _ => ⟨es, rep_mono R (fun e h => h.elim (R.lt e) fun h => (nomatch h)) (fun e h => .inl h) (fun e h => h.elim (fun h => ⟨e, h, rfl, P.self e (R.lt e h)⟩) fun h => (nomatch h)) P.tr⟩
  | x :: xs, l, S, es, R, hx => by
    obtain ⟨es1, R1⟩ := rep_lay P h5 R (hx x (.head _))
    obtain ⟨es2, R2⟩ := rep_fold P h5 xs R1 fun y hy => hx y (.tail _ hy)
    refine ⟨es2, rep_mono R2 (fun e h => ?_) (fun e h => ?_) (fun e h => ⟨e, ?_, rfl, P.self e ?_⟩) P.tr⟩
    · rcases h with h | h
      · exact R.lt e h
      · exact hx e h
    · rcases h with (h | h) | h
      · exact .inl h
      · exact .inr (h ▸ .head _)
      · exact .inr (.tail _ h)
    · rcases h with h | h
      · exact .inl (.inl h)
      · rcases List.mem_cons.mp h with h | h
        · exact .inl (.inr h)
        · exact .inr h
    · rcases h with h | h
      · exact R.lt e h
      · exact hx e h
theorem rep_join (P : Past site sn n) (h5 : n ≤ 5) {l l' : List Ab} {S S' : Nat → Prop} {es es' : List Nat} (R : Rep site sn nm fl n l S es) (R' : Rep site sn nm fl n l' S' es') : ∃ es2, Rep site sn nm fl n (l'.foldl layA l) (fun e => S e ∨ S' e) es2 := by
  obtain ⟨es2, R2⟩ := rep_fold P h5 es' R fun x hx => R'.lt x (R'.sub x hx)
  rw [← R'.eq] at R2
  refine ⟨es2, rep_mono R2 (fun e h => h.elim (R.lt e) (R'.lt e)) (fun e h => h.elim .inl fun h => .inr (R'.sub e h)) (fun e h => ?_) P.tr⟩
  rcases h with h | h
  · exact ⟨e, .inl h, rfl, P.self e (R.lt e h)⟩
  · obtain ⟨f, hf, q⟩ := R'.up e h
    exact ⟨f, .inr hf, q⟩
theorem fold_max_le {α : Type} (g : α → Nat) : ∀ (l : List α) (a c : Nat), a ≤ c → (∀ x ∈ l, g x ≤ c) → l.foldl (fun a r => max a (g r)) a ≤ c
  | [], a, c, h, _ => h
  | x :: l, a, c, h, k => fold_max_le g l _ c (Nat.max_le.mpr ⟨h, k x (.head _)⟩) fun y hy => k y (.tail _ hy)
theorem fold_max_ge {α : Type} (g : α → Nat) : ∀ (l : List α) (a : Nat), a ≤ l.foldl (fun a r => max a (g r)) a ∧ ∀ x ∈ l, g x ≤ l.foldl (fun a r => max a (g r)) a
  | [], a => ⟨Nat.le_refl _, fun _ h => nomatch h⟩
  | x :: l, a => by
    have ih := fold_max_ge g l (max a (g x))
    refine ⟨Nat.le_trans (Nat.le_max_left _ _) ih.1, fun y hy => ?_⟩
    rcases List.mem_cons.mp hy with rfl | hy
    · exact Nat.le_trans (Nat.le_max_right _ _) ih.1
    · exact ih.2 y hy
/-- a list with a last of its site -/
theorem last_of (site : Nat → Nat) (i : Nat) : ∀ (K : List Nat), (∃ x ∈ K, site x = i) → ∃ x ∈ K, site x = i ∧ ∀ y ∈ K, site y = i → y ≤ x
  | [], ⟨_, h, _⟩ => nomatch h
  | a :: K, ⟨x, hx, hs⟩ => by
    by_cases h : ∃ x ∈ K, site x = i
    · obtain ⟨z, hz, hzs, hm⟩ := last_of site i K h
      by_cases ha : site a = i ∧ z ≤ a
      · refine ⟨a, .head _, ha.1, fun y hy hys => ?_⟩
        rcases List.mem_cons.mp hy with rfl | hy
        · exact Nat.le_refl _
        · exact Nat.le_trans (hm y hy hys) ha.2
      · refine ⟨z, .tail _ hz, hzs, fun y hy hys => ?_⟩
        rcases List.mem_cons.mp hy with rfl | hy
        · exact Nat.le_of_lt (Nat.lt_of_not_ge fun q => ha ⟨hys, q⟩)
        · exact hm y hy hys
    · rcases List.mem_cons.mp hx with rfl | hx
      · refine ⟨x, .head _, hs, fun y hy hys => ?_⟩
        rcases List.mem_cons.mp hy with rfl | hy
        · exact Nat.le_refl _
        · exact absurd ⟨y, hy, hys⟩ h
      · exact absurd ⟨x, hx, hs⟩ h
theorem max_cnt (P : Past site sn n) {l : List Ab} {K : List Nat} {es : List Nat} (R : Rep site sn nm fl n l (· ∈ K) es) (hK : K.Nodup) (hd : ∀ e ∈ K, ∀ x ∈ sn e, x ∈ K) (i : Nat) : es.foldl (fun a e => max a (cntS site i (sn e))) 0 = cntS site i K := by
  refine Nat.le_antisymm (fold_max_le _ _ _ _ (Nat.zero_le _) fun e he => cnt_le (P.nd e (R.lt e (R.sub e he))) fun x hx _ => hd e (R.sub e he) x hx) ?_
  by_cases h : ∃ x ∈ K, site x = i
  · obtain ⟨x, hx, hs, hm⟩ := last_of site i K h
    obtain ⟨f, hf, _, hxf⟩ := R.up x hx
    have h1 : cntS site i K ≤ cntS site i (sn f) := cnt_le hK fun y hy hys => P.tr f (R.lt f (R.sub f hf)) x hxf y (P.ch x (R.lt x hx) y (hm y hy hys) (hys.trans hs.symm))
    exact Nat.le_trans h1 ((fold_max_ge (fun e => cntS site i (sn e)) es 0).2 f hf)
  · have : cntS site i K = 0 := by
      unfold cntS
      rw [List.length_eq_zero_iff, List.filter_eq_nil_iff]
      intro a ha q
      exact h ⟨a, ha, by simpa using q⟩
    rw [this]; exact Nat.zero_le _
theorem rep_write (P : Past site sn (n + 1)) {l : List Ab} {K : List Nat} {es : List Nat} (R : Rep site sn nm fl n l (· ∈ K) es) (hK : K.Nodup) (hd : ∀ e ∈ K, ∀ x ∈ sn e, x ∈ K) (hsn : ∀ x, x ∈ sn n ↔ x ∈ K ∨ x = n) :
    ∃ es', Rep site sn nm fl (n + 1) (writeA l (site n) (nm n) (fl n)) (· ∈ sn n) es' := by
  have hnK : n ∉ K := fun h => Nat.lt_irrefl _ (R.lt n h)
  have P' : Past site sn n := ⟨fun e h => P.nd e (Nat.lt_succ_of_lt h), fun e h => P.le e (Nat.lt_succ_of_lt h), fun e h => P.self e (Nat.lt_succ_of_lt h), fun e h => P.tr e (Nat.lt_succ_of_lt h), fun e h => P.ch e (Nat.lt_succ_of_lt h), P.two⟩
  have m0 := max_cnt P' R hK hd 0
  have m1 := max_cnt P' R hK hd 1
  have c : ∀ i, cntS site i (sn n) = cntS site i K + (if site n = i then 1 else 0) := by
    intro i
    have e1 : cntS site i (n :: K) = cntS site i K + (if site n = i then 1 else 0) := by
      unfold cntS
      simp only [List.filter_cons]
      by_cases h : site n = i <;> simp [h]
    rw [← e1]
    refine Nat.le_antisymm (cnt_le (P.nd n (Nat.lt_succ_self _)) fun x hx _ => ?_) (cnt_le (List.nodup_cons.mpr ⟨hnK, hK⟩) fun x hx _ => ?_)
    · exact ((hsn x).mp hx).elim (fun h => .tail _ h) fun h => h ▸ .head _
    · exact (hsn x).mpr ((List.mem_cons.mp hx).elim .inr .inl)
  have hes : ∀ e ∈ es, nm e = nm e ∧ e ∈ K := fun e he => ⟨rfl, R.sub e he⟩
  have t1 : mTA l = cntS site 0 K := by
    rw [← m0, R.eq]; unfold mTA; rw [List.foldl_map]; rfl
  have t2 : mFA l = cntS site 1 K := by
    rw [← m1, R.eq]; unfold mFA; rw [List.foldl_map]
    show es.foldl (fun a e => max a (fE site sn e)) 0 = _
    congr 1
    funext a e
    rw [fE_eq P]
  have h2 := P.two n
  have e1 : ((es.map (abE site sn nm fl)).filter fun a => !(a.1 == nm n)) = (es.filter fun e => !(nm e == nm n)).map (abE site sn nm fl) := by rw [List.filter_map]; rfl
  have hw : writeA l (site n) (nm n) (fl n) = ((es.filter fun e => !(nm e == nm n)) ++ [n]).map (abE site sn nm fl) := by
    unfold writeA
    rw [t1, t2, R.eq, e1, List.map_append]
    congr 1
    show [_] = [abE site sn nm fl n]
    unfold abE
    rw [fE_eq P]
    unfold tE
    rw [c 0, c 1]
    rcases Nat.lt_or_ge (site n) 1 with h0 | h0
    · have : site n = 0 := by omega
      simp [this]
    · have : site n = 1 := by omega
      simp [this]
  have mem : ∀ e, e ∈ (es.filter fun e => !(nm e == nm n)) ++ [n] ↔ (e ∈ es ∧ nm e ≠ nm n) ∨ e = n := by
    intro e
    simp [List.mem_filter]
  rw [hw]
  refine ⟨_, rfl, ?_, fun e he => Nat.lt_succ_of_le (P.le n (Nat.lt_succ_self _) e he), fun e he => ?_, fun e he => ?_, fun e he f hf hn hm => ?_⟩
  · rw [List.nodup_append]
    refine ⟨R.nd.filter _, by simp, fun a ha b hb => ?_⟩
    rw [List.mem_singleton.mp hb]
    rintro rfl
    exact hnK (R.sub _ (List.mem_filter.mp ha).1)
  · rcases (mem e).mp he with h | rfl
    · exact (hsn e).mpr (.inl (R.sub e h.1))
    · exact P.self _ (Nat.lt_succ_self _)
  · by_cases hq : nm n = nm e
    · exact ⟨n, (mem n).mpr (.inr rfl), hq, he⟩
    · rcases (hsn e).mp he with h | rfl
      · obtain ⟨f, hf, hn, hm⟩ := R.up e h
        exact ⟨f, (mem f).mpr (.inl ⟨hf, fun q => hq (q.symm.trans hn)⟩), hn, hm⟩
      · exact absurd rfl hq
  · rcases (mem e).mp he with h | rfl
    · rcases (mem f).mp hf with h' | rfl
      · exact R.anti e h.1 f h'.1 hn hm
      · exact absurd hn h.2
    · rcases (mem f).mp hf with h' | rfl
      · exact absurd hn.symm h'.2
      · rfl
end

theorem offPL2 : True := by
  w_top off
  trivial
def siteN (ns : List Nat) (k : Nat) : Nat := ns.getD k 0 % 2
def nameN (ns : List Nat) (k : Nat) : Nat := ns.getD k 0 / 120 % 4 % 2
def flagN (ns : List Nat) (k : Nat) : Nat := ns.getD k 0 / 480 % 7 + 1
def earlyN (ns : List Nat) (k : Nat) : Nat := ns.getD k 0 / 2 % 60 % (k + 1)
theorem runD_len (ns : List Nat) : ∀ k, (runD ns k).se.length = k
  | 0 => rfl
  | k + 1 => by
    have := runD_len ns k
    simp [runD, stepD, this]
theorem runA_len (ns : List Nat) : ∀ k, (runA ns k).le.length = k
  | 0 => rfl
  | k + 1 => by
    have := runA_len ns k
    simp [runA, stepA, this]
/-- what the writing e knows -/
def snN (ns : List Nat) (e : Nat) : List Nat := knownD ns (runD ns e) e
theorem runD_get (ns : List Nat) : ∀ k e, e < k → (runD ns k).se.getD e [] = snN ns e
  | k + 1, e, h => by
    have hl := runD_len ns k
    show ((runD ns k).se ++ [knownD ns (runD ns k) k]).getD e [] = _
    rw [List.getD_eq_getElem?_getD, List.getElem?_append]
    rw [hl]
    by_cases he : e < k
    · rw [if_pos he, ← List.getD_eq_getElem?_getD]
      exact runD_get ns k e he
    · have : e = k := by omega
      subst this
      simp [snN]
theorem runD_all (ns : List Nat) (k : Nat) : (runD ns k).se = (List.range k).map (snN ns) := by
  apply List.ext_getElem
  · simp [runD_len]
  · intro i h1 h2
    rw [runD_len] at h1
    have := runD_get ns k i h1
    rw [List.getD_eq_getElem?_getD, List.getElem?_eq_getElem (by rw [runD_len]; exact h1)] at this
    simpa using this
structure KnOk (ns : List Nat) (k : Nat) (i : Nat) (K : List Nat) : Prop where
  nd : K.Nodup
  lt : ∀ e ∈ K, e < k
  dn : ∀ e ∈ K, ∀ x ∈ snN ns e, x ∈ K
  ch : ∀ e, e < k → siteN ns e = i → e ∈ K
theorem early_lt (ns : List Nat) (k : Nat) : earlyN ns k < k + 1 := Nat.mod_lt _ (Nat.succ_pos _)
theorem known_eq (ns : List Nat) (D : DA) (k : Nat) : knownD ns D k = (if earlyN ns k < k then (List.range k).filter (fun e => (D.kn (siteN ns k)).contains e || (D.se.getD (earlyN ns k) []).contains e) else D.kn (siteN ns k)) ++ [k] := rfl
/-- the pasts of the first k writings, and what each site knows -/
theorem past_run (ns : List Nat) : ∀ k, Past (siteN ns) (snN ns) k ∧ ∀ i, KnOk ns k i ((runD ns k).kn i)
  | 0 => ⟨⟨fun _ h => (nomatch h), fun _ h => (nomatch h), fun _ h => (nomatch h), fun _ h => (nomatch h), fun _ h => (nomatch h), fun _ => Nat.mod_lt _ (by decide)⟩, fun i => ⟨.nil, fun _ h => (nomatch h), fun _ h => (nomatch h), fun _ h => (nomatch h)⟩⟩
  | k + 1 => by
    obtain ⟨P, Kn⟩ := past_run ns k
    have K := Kn (siteN ns k)
    -- what is known ahead of the writing
    have pre : ∃ pre, snN ns k = pre ++ [k] ∧ KnOk ns k (siteN ns k) pre := by
      refine ⟨_, known_eq ns (runD ns k) k, ?_⟩
      split
      · rename_i he
        have hg := runD_get ns k _ he
        refine ⟨List.nodup_range.filter _, fun e h => List.mem_range.mp (List.mem_filter.mp h).1, fun e h x hx => ?_, fun e h1 h2 => ?_⟩
        · obtain ⟨h1, h2⟩ := List.mem_filter.mp h
          have h1 := List.mem_range.mp h1
          simp only [Bool.or_eq_true, List.contains_iff_mem, hg] at h2
          refine List.mem_filter.mpr ⟨List.mem_range.mpr (Nat.lt_of_le_of_lt (P.le e h1 x hx) h1), ?_⟩
          simp only [Bool.or_eq_true, List.contains_iff_mem, hg]
          exact h2.elim (fun q => .inl (K.dn e q x hx)) fun q => .inr (P.tr _ he e q x hx)
        · refine List.mem_filter.mpr ⟨List.mem_range.mpr h1, ?_⟩
          simp only [Bool.or_eq_true, List.contains_iff_mem]
          exact .inl (K.ch e h1 h2)
      · exact K
    obtain ⟨pre, hs, KP⟩ := pre
    have mem : ∀ x, x ∈ snN ns k ↔ x ∈ pre ∨ x = k := fun x => by rw [hs]; simp
    have nd : (snN ns k).Nodup := by
      rw [hs, List.nodup_append]
      refine ⟨KP.nd, by simp, fun a ha b hb => ?_⟩
      rw [List.mem_singleton.mp hb]
      rintro rfl
      exact Nat.lt_irrefl _ (KP.lt _ ha)
    have cs : ∀ {e}, e < k + 1 → e < k ∨ e = k := fun h => Nat.lt_or_eq_of_le (Nat.le_of_lt_succ h)
    have P' : Past (siteN ns) (snN ns) (k + 1) := by
      refine ⟨fun e h => ?_, fun e h x hx => ?_, fun e h => ?_, fun e h x hx y hy => ?_, fun e h x hx hxs => ?_, P.two⟩
      · rcases cs h with h | rfl
        · exact P.nd e h
        · exact nd
      · rcases cs h with h | rfl
        · exact P.le e h x hx
        · exact ((mem x).mp hx).elim (fun q => Nat.le_of_lt (KP.lt x q)) fun q => Nat.le_of_eq q
      · rcases cs h with h | rfl
        · exact P.self e h
        · exact (mem _).mpr (.inr rfl)
      · rcases cs h with h | rfl
        · exact P.tr e h x hx y hy
        · rcases (mem x).mp hx with hx | rfl
          · exact (mem y).mpr (.inl (KP.dn x hx y hy))
          · exact hy
      · rcases cs h with h | rfl
        · exact P.ch e h x hx hxs
        · rcases Nat.lt_or_eq_of_le hx with hx | rfl
          · exact (mem x).mpr (.inl (KP.ch x hx hxs))
          · exact (mem _).mpr (.inr rfl)
    refine ⟨P', fun i => ?_⟩
    show KnOk ns (k + 1) i (if i = siteN ns k then snN ns k else (runD ns k).kn i)
    split
    · rename_i hi
      subst hi
      refine ⟨nd, fun e h => Nat.lt_succ_of_le (P'.le k (Nat.lt_succ_self _) e h), fun e h x hx => P'.tr k (Nat.lt_succ_self _) e h x hx, fun e h hxs => ?_⟩
      exact P'.ch k (Nat.lt_succ_self _) e (Nat.le_of_lt_succ h) hxs
    · rename_i hi
      have Ki := Kn i
      refine ⟨Ki.nd, fun e h => Nat.lt_succ_of_lt (Ki.lt e h), Ki.dn, fun e h hxs => ?_⟩
      rcases cs h with h | rfl
      · exact Ki.ch e h hxs
      · exact absurd hxs.symm hi
theorem past_pre (ns : List Nat) (k : Nat) : ∃ pre, snN ns k = pre ++ [k] ∧ pre = (if earlyN ns k < k then (List.range k).filter (fun e => ((runD ns k).kn (siteN ns k)).contains e || ((runD ns k).se.getD (earlyN ns k) []).contains e) else (runD ns k).kn (siteN ns k)) := ⟨_, known_eq ns (runD ns k) k, rfl⟩
abbrev RepN (ns : List Nat) (n : Nat) (l : List Ab) (S : Nat → Prop) : Prop := ∃ es, Rep (siteN ns) (snN ns) (nameN ns) (flagN ns) n l S es
theorem rep_up {ns : List Nat} {n : Nat} {l : List Ab} {S : Nat → Prop} (R : RepN ns n l S) : RepN ns (n + 1) l S := by
  obtain ⟨es, R⟩ := R
  exact ⟨es, R.eq, R.nd, fun e h => Nat.lt_succ_of_lt (R.lt e h), R.sub, R.up, R.anti⟩
theorem rep_ext {ns : List Nat} {n : Nat} {l : List Ab} {S S' : Nat → Prop} (R : RepN ns n l S) (h : ∀ e, S e ↔ S' e) : RepN ns n l S' := by
  have : S = S' := funext fun e => propext (h e)
  rw [← this]; exact R
theorem run_rep (ns : List Nat) : ∀ k, k ≤ 5 → (∀ i, RepN ns k ((runA ns k).ta i) (· ∈ (runD ns k).kn i)) ∧ ∀ e, e < k → RepN ns k ((runA ns k).le.getD e []) (· ∈ snN ns e)
  | 0, _ => ⟨fun i => ⟨[], rfl, .nil, fun _ h => (nomatch h), fun _ h => (nomatch h), fun _ h => (nomatch h), fun _ h => (nomatch h)⟩, fun _ h => (nomatch h)⟩
  | k + 1, hk => by
    obtain ⟨R, Re⟩ := run_rep ns k (Nat.le_of_succ_le hk)
    obtain ⟨P, Kn⟩ := past_run ns k
    have P' := (past_run ns (k + 1)).1
    obtain ⟨pre, hs, hp⟩ := past_pre ns k
    have h5 : k ≤ 5 := Nat.le_of_succ_le hk
    have T : RepN ns k (if earlyN ns k < k then ((runA ns k).le.getD (earlyN ns k) []).foldl layA ((runA ns k).ta (siteN ns k)) else (runA ns k).ta (siteN ns k)) (· ∈ pre) := by
      rw [hp]
      split
      · rename_i he
        obtain ⟨es, R1⟩ := R (siteN ns k)
        obtain ⟨es', R2⟩ := Re _ he
        have R3 : RepN ns k _ _ := rep_join P h5 R1 R2
        refine rep_ext R3 fun e => ?_
        simp only [List.mem_filter, List.mem_range, Bool.or_eq_true, List.contains_iff_mem, runD_get ns k _ he]
        exact ⟨fun h => ⟨h.elim (R1.lt e) (R2.lt e), h⟩, fun h => h.2⟩
      · exact R (siteN ns k)
    obtain ⟨es, T⟩ := T
    have mem : ∀ x, x ∈ snN ns k ↔ x ∈ pre ∨ x = k := fun x => by rw [hs]; simp
    have hnd : pre.Nodup := by
      have := P'.nd k (Nat.lt_succ_self _)
      rw [hs, List.nodup_append] at this
      exact this.1
    have hdn : ∀ e ∈ pre, ∀ x ∈ snN ns e, x ∈ pre := fun e he x hx => by
      have := P'.tr k (Nat.lt_succ_self _) e ((mem e).mpr (.inl he)) x hx
      rcases (mem x).mp this with h | rfl
      · exact h
      · exact absurd (P.le e (T.lt e he) _ hx) (Nat.not_le.mpr (T.lt e he))
    have W : RepN ns (k + 1) (writeA (if earlyN ns k < k then ((runA ns k).le.getD (earlyN ns k) []).foldl layA ((runA ns k).ta (siteN ns k)) else (runA ns k).ta (siteN ns k)) (siteN ns k) (nameN ns k) (flagN ns k)) (· ∈ snN ns k) := rep_write P' T hnd hdn mem
    refine ⟨fun i => ?_, fun e he => ?_⟩
    · show RepN ns (k + 1) (if i = siteN ns k then _ else (runA ns k).ta i) (· ∈ (if i = siteN ns k then snN ns k else (runD ns k).kn i))
      split
      · exact W
      · exact rep_up (R i)
    · show RepN ns (k + 1) (((runA ns k).le ++ [_]).getD e []) _
      rw [List.getD_eq_getElem?_getD, List.getElem?_append, runA_len]
      by_cases h : e < k
      · rw [if_pos h, ← List.getD_eq_getElem?_getD]
        exact rep_up (Re e h)
      · have : e = k := by omega
        subst this
        rw [if_neg h, Nat.sub_self]
        exact W
/-- what stands of known -/
def standD (ns : List Nat) (known : List Nat) : List Nat := known.filter fun e => (known.filter fun f => (f != e && nameN ns f == nameN ns e) && (snN ns f).contains e) == []
theorem rep_stand {ns : List Nat} {n : Nat} {l : List Ab} {K : List Nat} (hn : K.Nodup) (h5 : n ≤ 5) (R : RepN ns n l (· ∈ K)) : l.Perm ((standD ns K).map (abE (siteN ns) (snN ns) (nameN ns) (flagN ns))) := by
  obtain ⟨es, R⟩ := R
  obtain ⟨P, _⟩ := past_run ns n
  rw [R.eq]
  refine List.Perm.map _ ((List.perm_ext_iff_of_nodup R.nd (hn.filter _)).mpr fun e => ?_)
  rw [List.mem_filter, beq_iff_eq, List.filter_eq_nil_iff]
  constructor
  · intro he
    refine ⟨R.sub e he, fun f hf q => ?_⟩
    simp only [Bool.and_eq_true, bne_iff_ne, beq_iff_eq, List.contains_iff_mem] at q
    obtain ⟨⟨q1, q2⟩, q3⟩ := q
    obtain ⟨g, hg, hgn, hgm⟩ := R.up f hf
    have hgl := R.lt g (R.sub g hg)
    have e1 : e = g := R.anti e he g hg (q2.symm.trans hgn.symm) (P.tr g hgl f hgm e q3)
    subst e1
    exact q1 (Nat.le_antisymm (P.le e hgl f hgm) (P.le f (R.lt f hf) e q3))
  · intro ⟨he, hno⟩
    obtain ⟨g, hg, hgn, hgm⟩ := R.up e he
    have := hno g (R.sub g hg)
    simp only [Bool.and_eq_true, bne_iff_ne, beq_iff_eq, List.contains_iff_mem] at this
    by_cases q : g = e
    · exact q ▸ hg
    · exact absurd ⟨⟨q, hgn⟩, hgm⟩ this
theorem run_stand (ns : List Nat) {k e : Nat} (hk : k ≤ 5) (he : e < k) : ((runA ns k).le.getD e []).Perm ((standD ns (snN ns e)).map (abE (siteN ns) (snN ns) (nameN ns) (flagN ns))) :=
  rep_stand ((past_run ns k).1.nd e he) hk ((run_rep ns k hk).2 e he)
def endN (ns : List Nat) (j : Nat) : Nat := ns.getD 5 0 / 5 ^ j % 5
def lastD (ns : List Nat) (es : List (List Nat)) : List Nat := (List.range 5).filter fun e => !((es.filter fun row => row.contains e) == [])
theorem third_rep (ns : List Nat) : ∀ j, RepN ns 5 (thirdA ns j) (fun e => ∃ i, i < j ∧ e ∈ snN ns (endN ns i))
  | 0 => ⟨[], rfl, .nil, fun _ ⟨_, h, _⟩ => (nomatch h), fun _ h => (nomatch h), fun _ ⟨_, h, _⟩ => (nomatch h), fun _ h => (nomatch h)⟩
  | j + 1 => by
    obtain ⟨es, R⟩ := third_rep ns j
    have hl : endN ns j < 5 := Nat.mod_lt _ (by decide)
    obtain ⟨es', R'⟩ := (run_rep ns 5 (Nat.le_refl _)).2 (endN ns j) hl
    have J : RepN ns 5 _ _ := rep_join (past_run ns 5).1 (Nat.le_refl _) R R'
    refine rep_ext J fun e => ⟨fun h => ?_, fun ⟨i, hi, h⟩ => ?_⟩
    · rcases h with ⟨i, hi, h⟩ | h
      · exact ⟨i, Nat.lt_succ_of_lt hi, h⟩
      · exact ⟨j, Nat.lt_succ_self _, h⟩
    · rcases Nat.lt_or_eq_of_le (Nat.le_of_lt_succ hi) with hi | rfl
      · exact .inl ⟨i, hi, h⟩
      · exact .inr h
theorem third_stand (ns : List Nat) : (thirdA ns 3).Perm ((standD ns (lastD ns [snN ns (endN ns 0), snN ns (endN ns 1), snN ns (endN ns 2)])).map (abE (siteN ns) (snN ns) (nameN ns) (flagN ns))) := by
  have T := third_rep ns 3
  have lt : ∀ e, (∃ i, i < 3 ∧ e ∈ snN ns (endN ns i)) → e < 5 := by obtain ⟨es, R⟩ := T; exact R.lt
  refine rep_stand (List.nodup_range.filter _) (Nat.le_refl _) (rep_ext T fun e => ?_)
  unfold lastD
  rw [List.mem_filter, List.mem_range]
  constructor
  · intro h
    refine ⟨lt e h, ?_⟩
    obtain ⟨i, hi, h⟩ := h
    rw [Bool.not_eq_true', beq_eq_false_iff_ne]
    intro q
    rw [List.filter_eq_nil_iff] at q
    refine q (snN ns (endN ns i)) ?_ (List.contains_iff_mem.mpr h)
    match i, hi with
    | 0, _ => simp
    | 1, _ => simp
    | 2, _ => simp
  · intro ⟨_, h⟩
    rw [Bool.not_eq_true', beq_eq_false_iff_ne] at h
    refine Classical.byContradiction fun hn => h (List.filter_eq_nil_iff.mpr fun r hr hc => hn ?_)
    have hc := List.contains_iff_mem.mp hc
    simp only [List.mem_cons, List.not_mem_nil, or_false] at hr
    rcases hr with rfl | rfl | rfl
    · exact ⟨0, by decide, hc⟩
    · exact ⟨1, by decide, hc⟩
    · exact ⟨2, by decide, hc⟩
theorem ok_of_rep {ns : List Nat} {n : Nat} {l : List Ab} {S : Nat → Prop} (h5 : n ≤ 5) (R : RepN ns n l S) : OkL l := by
  obtain ⟨es, R⟩ := R
  obtain ⟨P, _⟩ := past_run ns n
  have hlt : ∀ e ∈ es, e < n := fun e he => R.lt e (R.sub e he)
  have h1 : es.length ≤ (List.range 5).length := sub_len R.nd fun e he => List.mem_range.mpr (Nat.lt_of_lt_of_le (hlt e he) h5)
  rw [List.length_range] at h1
  refine ⟨by rw [R.eq, List.length_map]; omega, fun a ha => ?_⟩
  rw [R.eq] at ha
  obtain ⟨e, he, rfl⟩ := List.mem_map.mp ha
  have hl := hlt e he
  have h2 : (snN ns e).length ≤ (List.range 5).length := sub_len (P.nd e hl) fun x hx => List.mem_range.mpr (Nat.lt_of_le_of_lt (P.le e hl x hx) (Nat.lt_of_lt_of_le hl h5))
  rw [List.length_range] at h2
  have h3 := cnt_two (site := siteN ns) (l := snN ns e) fun x _ => P.two x
  have h4 : 0 < (snN ns e).length := List.length_pos_of_mem (P.self e hl)
  refine ⟨Nat.mod_lt _ (by decide), ?_, ?_, ?_, Nat.le_add_left _ _, Nat.succ_le_of_lt (Nat.mod_lt (ns.getD e 0 / 480) (by decide : 0 < 7))⟩
  · show cntS _ 0 (snN ns e) ≤ 5; omega
  · show fE _ _ e ≤ 5; unfold fE; omega
  · show 1 ≤ tE _ _ e + fE _ _ e; unfold fE tE; omega
theorem ok_run (ns : List Nat) : OkRun ns := by
  intro k hk
  obtain ⟨R, Re⟩ := run_rep ns k hk
  refine ⟨fun i => ok_of_rep hk (R i), fun l hl => ?_⟩
  obtain ⟨e, he, rfl⟩ := List.mem_iff_getElem.mp hl
  have := ok_of_rep hk (Re e (by rw [← runA_len ns k]; exact he))
  rw [List.getD_eq_getElem?_getD, List.getElem?_eq_getElem he] at this
  exact this
theorem ok_third (ns : List Nat) (j : Nat) : OkL (thirdA ns j) := ok_of_rep (Nat.le_refl _) (third_rep ns j)
theorem ta_two (ns : List Nat) : ∀ k, (runA ns k).ta 2 = []
  | 0 => rfl
  | k + 1 => by
    show (if 2 = ns.getD k 0 % 2 then _ else (runA ns k).ta 2) = []
    rw [if_neg (by omega)]
    exact ta_two ns k

theorem offRS : True := by
  w_top off
  trivial
section
variable {prog : Program} {w : World} {p : Program} {loose : List Str} {mean : ExcName → Option Value} {mg mb : Str → Option Value}
theorem Con.use0n {f : Addr} {vs : List Value} {n : Nat} {H : Heap → Prop} {P : Heap → Heap → Value → Prop} (C : Con prog w p loose mean mg mb f vs n H [] P)
    {dp un : Nat} {gd : Option (List Code)} {cn : Str} {cs : Scope} {a : Addr} {ccd : Value} {cl : List (Str × Addr)} {outer : List Env} {A₀ : Around} {base h₀ : Heap} {L : Addr} {m : Str → Option Value} {s : Shared} {Q E : Value → Shared → Prop} {news : List (Addr × Obj)}
    (B : Below A₀ base outer h₀) (F : Fr h₀ L s.heap m) (X : (hd.heap_39 w.params).In h₀) (T : Top p loose mean mg mb h₀) (hk : cs.kind = .function) (hd : dp + n < recursionLimit) (hu : un + 8 * n < cLine) (hH : H s.heap) (N : News h₀ L s.heap news)
    (h : ∀ r h' tk', Fr h₀ L h' m → News h₀ L h' news → Kept [L] s.heap h' → (∀ b, s.heap.get? b = none → ∀ q ∈ news, q.1 ≠ b) → P s.heap h' r → Q r { s with heap := h', toks := tk' }) :
    wpAny (model prog w) (ktrTop dp un gd cn cs L a ccd cl outer) (call (.ref f) vs) Q E s :=
  C.use0 B F X T hk hd hu hH N fun r h' tk' F' N' k pp => h r h' tk' F' N' k (fun b hb q hq e => by
    have := (N q hq).1
    rw [e, hb] at this; cases this) pp
def ZAll : List ShowZ → List (List Ab) → Prop
  | [], [] => True
  | z :: zs, l :: ls => Shows z l ∧ ZAll zs ls
  | _, _ => False
theorem ZAll.snoc : ∀ {zs : List ShowZ} {ls : List (List Ab)} {z : ShowZ} {l : List Ab}, ZAll zs ls → Shows z l → ZAll (zs ++ [z]) (ls ++ [l])
  | [], [], _, _, _, h => ⟨h, True.intro⟩
  | _ :: _, _ :: _, _, _, ⟨h1, h2⟩, h => ⟨h1, h2.snoc h⟩
theorem ZAll.len : ∀ {zs : List ShowZ} {ls : List (List Ab)}, ZAll zs ls → zs.length = ls.length
  | [], [], _ => rfl
  | _ :: _, _ :: _, ⟨_, h⟩ => congrArg (· + 1) h.len
structure RelA (c : CR) (st : SRr) (A : RA) : Prop where
  t : ∀ i, (st.r i).map Row.ab = A.ta i
  l : st.ls.map LetZ.us = A.le
  v : ∀ l ∈ st.ls, IntsAre l.vs (l.us.flatMap octA)
  z : ZAll st.zs A.le
  n : ∀ z ∈ st.zs, ∀ q ∈ showLed z, q.1 ≠ c.Nn
theorem loopE_rangeEnd {env : Env} {A : Around} {E : Value → Shared → Prop} {s : Shared} {h₀ : Heap} {target : Expr} {body orelse : List Stmt} {Q : Flow → Shared → Prop} {I : Addr} {a : Int} {m : Str → Option Value} {news : List (Addr × Obj)} (hh : A.handled = none) (F : Fr h₀ env.locals s.heap m) (N : News h₀ env.locals s.heap ((I, itR a 0) :: news)) (hoff : ∀ p ∈ news, p.1 ≠ I)
    (h : ∀ h', Fr h₀ env.locals h' m → News h₀ env.locals h' news → wpAny (model prog w) A (execs orelse env) Q E { s with heap := h' }) : LoopE prog w A env target body orelse Q E (.ref I) s := by
  refine LoopE.turn (wpAny_pyNext_range_end (step := 1) hh (N _ (.head _)).1 (Int.le_refl _) fun h' hs => ?_)
  have n1 := N _ (.head _)
  refine h h' ?_ ?_
  · obtain ⟨⟨oL, a1, a2, hL, a3⟩, kp, ab⟩ := F
    refine ⟨⟨oL, a1, a2, hs _ _ (Ne.symm n1.2.1) hL, a3⟩, fun b o e => hs _ _ (fun q => ?_) (kp b o e), ab⟩
    rw [q, n1.2.2] at e; cases e
  · exact fun p hp => ⟨hs _ _ (hoff p hp) (N p (.tail _ hp)).1, (N p (.tail _ hp)).2⟩
abbrev belowAt {A : Around} {base h₀ : Heap} {outer : List Env} (_ : Below A base outer h₀) (G : Heap) : Prop := Below A base outer G
abbrev topAt {h₀ : Heap} (_ : Top p loose mean mg mb h₀) (G : Heap) : Prop := Top p loose mean mg mb G
abbrev fsOf {fs : List Addr} {g : Heap} (_ : KtsDicts fs g) : List Addr := fs
structure SR2 where
  j : Nat
  hj : j ≤ 3
  st : SRr
  v1 : Option Value
structure SRn where
  k : Nat
  hk : k ≤ 5
  st : SRr
  v1 : Option Value
  v2 : Option Value
  v3 : Option Value
  v4 : Option Value
def st0 (c : CR) : SRr := ⟨[], 0, [], 0, fun _ => [], fun i => (c.T i).e⟩
theorem fresh_turn {s g G h : Heap} {L : Addr} {fs : List Addr} {led news : List (Addr × Obj)} (hG : ∀ b o, b ∉ led.map (·.1) → s.get? b = some o → g.get? b = some o) (T : KtsTurn fs g G) (N : News G L h news) {q : Addr × Obj} (hq : q ∈ news) (hn : q.1 ∉ led.map (·.1)) : s.get? q.1 = none := by
  cases e : s.get? q.1 with
  | none => rfl
  | some o =>
    obtain ⟨sl, hs⟩ := T.up (hG _ _ hn e)
    rw [(N q hq).2.2] at hs; cases hs
/-- what a run or its due tells: a list of shown tables -/
def Tells (s h' : Heap) (r : Value) (ls : List (List Ab)) : Prop := ∃ (zs : List ShowZ) (D : Addr) (e : Nat), r = .ref D ∧ NewIn s h' ((D, lstObj (zs.map fun z => .ref z.D) e) :: zs.flatMap showLed) ∧ ZAll zs ls
theorem ok_rows {rows : List Row} {l : List Ab} (O : OkL l) (e : rows.map Row.ab = l) : rows.length ≤ 10 ∧ ∀ r ∈ rows, r.t ≤ 5 ∧ r.f ≤ 5 ∧ 1 ≤ r.t + r.f ∧ 1 ≤ r.fl ∧ r.fl ≤ 7 := by
  subst e
  refine ⟨by simpa using O.1, fun r hr => ?_⟩
  have := O.2 r.ab (List.mem_map_of_mem hr)
  simp only [Row.ab] at this
  omega
theorem ok_take {l us : List Ab} (O : OkL l) (O' : OkL us) : (us.foldl layA l).length ≤ 20 ∧ ∀ a ∈ us.foldl layA l, a.2.1 ≤ 5 ∧ a.2.2.1 ≤ 5 ∧ 1 ≤ a.2.2.2 ∧ a.2.2.2 ≤ 7 := by
  refine ⟨?_, fun a ha => ?_⟩
  · have := foldA_len us l
    have := O.1
    have := O'.1
    omega
  · rcases foldA_mem us ha with h | h
    · have := O.2 a h; omega
    · have := O'.2 a h; omega
theorem ok_self {l : List Ab} (O : OkL l) : l.length ≤ 20 ∧ ∀ a ∈ l, a.2.1 ≤ 5 ∧ a.2.2.1 ≤ 5 ∧ 1 ≤ a.2.2.2 ∧ a.2.2.2 ≤ 7 :=
  ⟨Nat.le_trans O.1 (by decide), fun a ha => by have := O.2 a ha; omega⟩
theorem rows_of {rows : List Row} {l : List Ab} (O : l.length ≤ 20 ∧ ∀ a ∈ l, a.2.1 ≤ 5 ∧ a.2.2.1 ≤ 5 ∧ 1 ≤ a.2.2.2 ∧ a.2.2.2 ≤ 7) (e : rows.map Row.ab = l) : rows.length ≤ 20 ∧ ∀ r ∈ rows, r.t ≤ 32 ∧ r.f ≤ 32 ∧ 1 ≤ r.fl ∧ r.fl ≤ 7 := by
  subst e
  refine ⟨by simpa using O.1, fun r hr => ?_⟩
  have := O.2 r.ab (List.mem_map_of_mem hr)
  simp only [Row.ab] at this
  omega
theorem item_kmKM {n : Nat} (h : n < 4) {x : Int} (e : x = (n : Int)) : Txt.item (Str.ofString "kmKM") x = nmS n := by
  subst e
  have : ∀ c : Nat, c < 4 → Txt.item (Str.ofString "kmKM") (c : Int) = nmS c := by decide +kernel
  exact this n h
theorem e_early (x k : Nat) : (((x : Int).fdiv 2).fmod 60).fmod ((k : Int) + 1) = ((x / 2 % 60 % (k + 1) : Nat) : Int) := by
  rw [Int.fmod_eq_emod_of_nonneg _ (b := (k : Int) + 1) (by omega), Int.fdiv_eq_ediv_of_nonneg _ (by decide), Int.fmod_eq_emod_of_nonneg _ (by decide)]
  norm_cast
theorem e_end (x P : Nat) {y : Int} (hy : y = (P : Int)) : ((x : Int).fdiv y).fmod 5 = ((x / P % 5 : Nat) : Int) := by
  subst hy
  rw [Int.fdiv_eq_ediv_of_nonneg _ (Int.natCast_nonneg P), Int.fmod_eq_emod_of_nonneg _ (by decide)]
  norm_cast
theorem e_mod2 (x : Nat) : (x : Int).fmod 2 = ((x % 2 : Nat) : Int) := by rw [Int.fmod_eq_emod_of_nonneg _ (by decide)]; norm_cast
theorem e_name (x : Nat) : ((x : Int).fdiv 120).fmod 4 = ((x / 120 % 4 : Nat) : Int) := by
  rw [Int.fdiv_eq_ediv_of_nonneg _ (by decide), Int.fmod_eq_emod_of_nonneg _ (by decide)]; norm_cast
theorem e_flag (x : Nat) : ((x : Int).fdiv 480).fmod 7 + 1 = ((x / 480 % 7 + 1 : Nat) : Int) := by
  rw [Int.fdiv_eq_ediv_of_nonneg _ (by decide), Int.fmod_eq_emod_of_nonneg _ (by decide)]; norm_cast
theorem pack_run {h₀ h : Heap} {L Wd Lt X Nn : Addr} {T0 T1 T2 : TabZ} {vs : List Value} {n : Nat}
    (N : News h₀ L h ((Wd, W.listOf #[] 0) :: (Lt, W.listOf #[] 0) :: (X, W.listOf #[.ref T0.t, .ref T1.t, .ref T2.t] 0) :: (T2.l, lstObj [] T2.e) :: (T2.t, instObj 334 T2.d) :: (T2.d, dictOf [⟨T2.g, .str (Str.ofString "_headers") T2.k, .ref T2.l⟩] 1) ::
      (T1.l, lstObj [] T1.e) :: (T1.t, instObj 334 T1.d) :: (T1.d, dictOf [⟨T1.g, .str (Str.ofString "_headers") T1.k, .ref T1.l⟩] 1) :: (T0.l, lstObj [] T0.e) :: (T0.t, instObj 334 T0.d) :: (T0.d, dictOf [⟨T0.g, .str (Str.ofString "_headers") T0.k, .ref T0.l⟩] 1) :: [(Nn, lstObj vs n)]))
    (hmu : [Lt, Wd, T0.l, T1.l, T2.l].Nodup) (him : X ∉ [Lt, Wd, T0.l, T1.l, T2.l] ∧ Nn ∉ [Lt, Wd, T0.l, T1.l, T2.l]) :
    ∃ c : CR, c.W = Wd ∧ c.Lt = Lt ∧ c.X = X ∧ c.Nn = Nn ∧ c.vs = vs ∧ c.n = n ∧ News h₀ L h (ledR c (st0 c)) ∧ OffR c (st0 c) := by
  refine ⟨⟨Lt, Wd, X, Nn, vs, n, fun i => match i with | 0 => T0 | 1 => T1 | _ => T2⟩, rfl, rfl, rfl, rfl, rfl, rfl, news_sub N ?_, hmu, ?_⟩
  · intro q hq
    simp only [ledR, st0, CR.tab, tabLed, List.map_nil, List.flatMap_nil, List.append_nil, List.mem_cons, List.mem_append, List.not_mem_nil, or_false] at hq
    have e0 : W.listOf #[] 0 = lstObj [] 0 := rfl
    have e1 : W.listOf #[.ref T0.t, .ref T1.t, .ref T2.t] 0 = lstObj [.ref T0.t, .ref T1.t, .ref T2.t] 0 := rfl
    simp only [e0, e1, List.mem_cons, List.not_mem_nil, or_false]
    rcases hq with h | h | h | h | (h | h | h) | (h | h | h) | h | h | h <;> simp [h]
  · intro a ha
    simp only [imR, st0, List.map_nil, List.flatMap_nil, List.append_nil, List.mem_cons, List.not_mem_nil, or_false] at ha
    rcases ha with rfl | rfl
    · exact him.1
    · exact him.2
end

theorem offPR : True := by
  w_top off
  trivial
section
variable {prog : Program} {w : World} {p : Program} {loose : List Str} {mean : ExcName → Option Value} {mg mb : Str → Option Value}
local macro_rules | `(tactic| walk_at "my enterS") => `(tactic| (refine' enter_S ?k1 ?k2 ?k3 ?k4 ?k5 ?kX ?kT ?kD ?kA ?kF ?kK ?k6 ?k7 ?k8 ?k9 ?kB ?_ ?c2 ?c3 ?c4 ?c5; (case kA => exact rfl); (case kF => exact rfl); (case kK => assumption); (case kX => assumption); (case kT => assumption); (case kD => assumption); (case k1 => k_asm); (case k2 => k_asm); (case k3 => k_asm); (case k4 => k_asm); (case k5 => k_asm); (case k6 => k_is); (case k7 => k_is); (case k8 => ktr_room); (case k9 => first | exact BindsTo.of_eq rfl | exact binds_K (by k_in) rfl (by k_is) rfl rfl rfl); (case c5 => decide); (case kB => exact locs rfl); (case c2 => exact rfl); (case c3 => exact rfl); (case c4 => exact rfl); k_whole))
local macro_rules | `(tactic| walk_at "call ref") => `(tactic| (k_here; k_dflt (refine' Con.use0n c_hdr ?B ?F ?X ?T ?hk ?hd ?hu True.intro ?N ?_; (case B => k_asm); (case F => k_asm); (case X => k_asm); (case T => k_asm); (case hk => first | exact rfl | assumption); (case hd => ktr_room); (case hu => ktr_units); (case N => k_asm); intro r h2 tk2 F2 N2 K2 FN P2; obtain ⟨T2, e2, P3, q1, q2⟩ := P2; subst e2; have ND := FN T2.l (P3 _ (.head _)).1; have N3 := NewIn.news P3 (by k_asm) K2 (by k_asm); clear N2; (try dsimp only [tabLed, List.map, List.cons_append, List.nil_append] at N3))))
local macro_rules | `(tactic| walk_at "subscriptTail") => `(tactic| (k_here; (with_reducible show wpAny _ _ (subscriptTail _ _ (Value.ref _) _) _ _ _); refine Stop.of ?_))
local macro_rules | `(tactic| walk_at "call ref") => `(tactic| (k_here; (first | (with_reducible show wpAny _ _ (call (Value.ref 380) _) _ _ _) | (with_reducible show wpAny _ _ (call (Value.ref 359) _) _ _ _) | (with_reducible show wpAny _ _ (call (Value.ref 366) _) _ _ _) | (with_reducible show wpAny _ _ (call (Value.ref 387) _) _ _ _)); refine Stop.of ?_))
local macro_rules | `(tactic| walk_at "LoopE") => `(tactic| (k_here; refine Stop.of ?_))
local macro_rules | `(tactic| walk_at "call builtin:list.append") => `(tactic| (k_here; refine Stop.of ?_))
local macro_rules | `(tactic| walk_at "exec For Name Call cons nil") => `(tactic| (k_here; refine Stop.of ?_))
set_option maxHeartbeats 8000000 in
theorem c_run {Nn : Addr} {vs : List Value} {n : Nat} {ns : List Nat} (hns : ns.length = 6) (hvs : IntsAre vs (ns.map fun x => ((x : Nat) : Int))) (OK : OkRun ns) :
    ConT prog w p loose mean mg mb 394 [.ref Nn] 80 (fun _ => True) [(Nn, lstObj vs n)] [] (fun s h' r => Tells s h' r ((runA ns 5).le ++ [thirdA ns 3])) := by
  intro dp un gd cn cs a ccd cl outer A₀ base h₀ L m s Q E B F X T' XB TB KD hk hdp hun _ N hret
  refine wpAny_call ?_
  have N0 := N
  k_dflt (walk_at "my enterS")
  intro g L1 h1 FG F1 N1 B1 X1 T1 D1 hG hG' hl1
  (try dsimp only); (try k_lift B1); (try k_fold)
  k_steps
  rename Fr g _ _ _ => F3
  rename News g _ _ _ => N3
  unfold Stop
  with_unfolding_all refine' For_else F3 ?_
  k_whole
  k_steps
  rename Fr g _ _ _ => F3
  rename News g _ _ _ => N3
  rename (∀ q : Addr × Obj, q ∈ _ → q.1 ≠ _) => n3
  have n3a := fun e => n3 _ (.head _) e
  have n3b := fun e => n3 _ (.tail _ (.tail _ (.tail _ (.head _)))) e
  have n3c := fun e => n3 _ (.tail _ (.tail _ (.tail _ (.tail _ (.tail _ (.tail _ (.head _))))))) e
  clear n3
  rename (∀ q : Addr × Obj, q ∈ _ → q.1 ≠ _) => n3
  have n2a := fun e => n3 _ (.head _) e
  have n2b := fun e => n3 _ (.tail _ (.tail _ (.tail _ (.head _)))) e
  clear n3
  rename (∀ q : Addr × Obj, q ∈ _ → q.1 ≠ _) => n3
  have n1a := fun e => n3 _ (.head _) e
  clear n3
  obtain ⟨c, e1, e2, e3, e4, e5, e6, N4, O4⟩ := pack_run N3 (by
    simp only [List.nodup_cons, List.mem_cons, List.not_mem_nil, or_false, not_or, List.nodup_nil, and_true, not_false_eq_true]
    refine ⟨⟨?_, ?_, ?_, ?_⟩, ⟨?_, ?_, ?_⟩, ⟨?_, ?_⟩, ?_⟩
    all_goals first | k_ne | assumption) (by
    simp only [List.mem_cons, List.not_mem_nil, or_false, not_or]
    refine ⟨⟨?_, ?_, ?_, ?_, ?_⟩, ⟨?_, ?_, ?_, ?_, ?_⟩⟩
    all_goals first | k_ne | assumption)
  clear n1a n2a n2b n3a n3b n3c N3
  subst e1 e2 e3 e4 e5 e6
  have RE0 : RelA c (st0 c) (runA ns 0) := ⟨fun _ => rfl, rfl, fun _ h => (nomatch h), True.intro, fun _ h => (nomatch h)⟩
  with_unfolding_all refine iter_rangeE (n := 5) (by assumption) (by decide) (by rfl) F3 N4 ?_
  intro I h0 lI F5 N5
  rename (IsRange _ _ _ _ _ _ _ _) => zr
  clear zr F3 N4
  have hGw := And.intro True.intro hG
  (repeat (rename NewIn _ _ _ => zr; clear zr))
  (repeat (rename Kept _ _ _ => zr; clear zr))
  (repeat (rename (_ < _) ∧ _ => zr; clear zr))
  refine whl_ind (R := fun s' => LoopE _ _ _ _ _ _ _ _ _ (.ref I) s') (σ := SRn) (fun st => 5 - st.k)
    (fun st s' => ∃ h tk G, s' = { s with heap := h, toks := tk } ∧ KtsTurn (fsOf D1) g G ∧ Fr G L1 h (fun z => if z = "k" then st.v1 else if z = "v" then st.v2 else if z = "table" then st.v3 else if z = "early" then st.v4 else mapOf F5 z) ∧
      News G L1 h ((I, itR (st.k : Int) ((5 - st.k : Nat) : Int)) :: ledR c st.st) ∧ OffR c st.st ∧ belowAt B1 G ∧ (hd.heap_39 w.params).In G ∧ topAt T1 G ∧ KtsDicts (fsOf D1) G ∧ RelA c st.st (runA ns st.k))
    ⟨0, by decide, st0 c, none, none, none, none⟩ ⟨_, _, _, rfl, KtsTurn.refl, fr_congr F5 ?_, N5, O4, B1, X1, T1, D1, RE0⟩ ?_
  · refine names_ext ["k", "v", "table", "early"] (by walk_at "my names") (by walk_at "my rest")
  · dsimp only [mapOf]
    clear F5 N5 O4
    intro st s' IH hP
    obtain ⟨k, hk5, st, v1, v2, v3, v4⟩ := st
    obtain ⟨h', tk', G, rfl, TG, F', N', O', B', X', T', D', RE⟩ := hP
    dsimp only at F' N' O' RE
    by_cases hk0 : k = 5
    · subst hk0
      clear IH hk5
      have N5 : News G L1 h' ((I, itR ((5 : Nat) : Int) 0) :: ledR c st) := N'
      clear N'
      refine loopE_rangeEnd rfl F' N5 (it_off N5) ?_
      intro h2 F2 N2
      clear F' N5
      k_steps
      unfold Stop
      rename Fr G L1 _ _ => F3
      rename News G L1 _ _ => N3
      with_unfolding_all refine' For_else F3 ?_
      k_whole
      k_steps
      rename Fr G _ _ _ => F3
      rename News G _ _ _ => N3
      have hv : ∃ t, c.vs[5]? = some (.int ((ns.getD 5 0 : Nat) : Int) t) := intsAt hvs (by rw [List.getElem?_map, List.getElem?_eq_getElem (by omega), List.getD_eq_getElem?_getD, List.getElem?_eq_getElem (by omega)]; rfl)
      obtain ⟨tv, hv⟩ := hv
      have hth : ∀ j, thirdA ns (j + 1) = ((runA ns 5).le.getD (ns.getD 5 0 / 5 ^ j % 5) []).foldl layA (thirdA ns j) := fun _ => rfl
      generalize ns.getD 5 0 = x at hv hth
      have R0 : (st.r 2).map Row.ab = thirdA ns 0 := (RE.t 2).trans (ta_two ns 5)
      have hL := RE.l
      have hV := RE.v
      have hZ := RE.z
      have hNn := RE.n
      with_unfolding_all refine iter_rangeE (n := 3) (by assumption) (by decide) (by rfl) F3 N3 ?_
      intro I2 h4 lI2 F5 N5
      rename (IsRange _ _ _ _ _ _ _ _) => zr
      clear zr F3 N3 lI lI2 RE RE0
      refine whl_ind (R := fun s' => LoopE _ _ _ _ _ _ _ _ _ (.ref I2) s') (σ := SR2) (fun st => 3 - st.j)
        (fun sr s' => ∃ h tk G, s' = { s with heap := h, toks := tk } ∧ KtsTurn (fsOf D1) g G ∧ Fr G L1 h (fun z => if z = "k" then sr.v1 else mapOf F5 z) ∧
          News G L1 h ((I2, itR (sr.j : Int) ((3 - sr.j : Nat) : Int)) :: ledR c sr.st) ∧ OffR c sr.st ∧ belowAt B1 G ∧ (hd.heap_39 w.params).In G ∧ topAt T1 G ∧ KtsDicts (fsOf D1) G ∧ (sr.st.r 2).map Row.ab = thirdA ns sr.j ∧ sr.st.ls = st.ls ∧ sr.st.zs = st.zs)
        ⟨0, by decide, st, mapOf F5 "k"⟩ ⟨_, _, _, rfl, TG, fr_congr F5 ?_, N5, O', B', X', T', D', R0, rfl, rfl⟩ ?_
      · refine names_ext ["k"] (by walk_at "my names") (by walk_at "my rest")
      · dsimp only [mapOf]
        clear F5 N5 O' R0 D' T' B' TG X'
        intro sr s' IH hP
        obtain ⟨j, hj3, st1, u1⟩ := sr
        obtain ⟨h', tk', G, rfl, TG, F', N', O', B', X', T', D', R', eL, eZ⟩ := hP
        dsimp only at F' N' O' R' eL eZ
        rw [← eL] at hL hV
        rw [← eZ] at hZ hNn
        by_cases hj0 : j = 3
        · subst hj0
          clear IH hj3
          have N5 : News G L1 h' ((I2, itR ((3 : Nat) : Int) 0) :: ledR c st1) := N'
          clear N'
          refine loopE_rangeEnd rfl F' N5 (it_off N5) ?_
          intro h2 F2 N2
          have N2b : News G L1 h2 ((c.X, lstObj [.ref (c.T 0).t, .ref (c.T 1).t, .ref (c.T 2).t] 0) :: ledR c st1) := fun q hq => (List.mem_cons.mp hq).elim (fun e => e ▸ N2 _ (.tail _ (.tail _ (.head _)))) (N2 q)
          clear F' N5 N2
          k_steps
          unfold Stop
          rename Fr G L1 _ _ => F3
          rename News G L1 _ _ => N3
          refine sub_item (N3 _ (.tail _ (.tail _ (.tail _ (.head _))))).1 rfl rfl (k := 2) rfl rfl (by decide) ?_ rfl (fun _ => rfl)
          k_steps
          unfold Stop
          rename Fr G L1 _ _ => F3
          rename News G L1 _ _ => N3
          have hXm : c.X ∉ c.mu := O'.2 _ (.head _)
          refine' use_shownR (i := 2) B' F3 X' T' ?hk ?hd ?hu N3 (by decide) (Nat.lt_of_le_of_lt (ok_rows (ok_third ns 3) R').1 (by decide)) ?_
          case hk => exact rfl
          case hd => ktr_room
          case hu => ktr_units
          intro z7 h7 tk7 F12 N12 hz7 hs7
          k_steps
          unfold Stop
          rename Fr _ L1 _ _ => F13
          rename News _ L1 _ _ => N13
          have hzl := hZ.len
          rw [runA_len] at hzl
          refine use_appZ F13 N13 O' hXm (fun q hq => (hz7 q hq).1) (by omega) ?_
          intro h8 F14 N14 O4
          have RZ : ZAll (st1.addZ z7).zs ((runA ns 5).le ++ [thirdA ns 3]) := hZ.snoc (by rw [← R']; exact hs7)
          have RN : ∀ z ∈ (st1.addZ z7).zs, ∀ q ∈ showLed z, q.1 ≠ c.Nn := fun z hz => (List.mem_append.mp (show z ∈ st1.zs ++ [z7] from hz)).elim (hNn z) fun h => by rw [List.mem_singleton.mp h]; exact fun q hq => (hz7 q hq).2.1
          generalize st1.addZ z7 = st4 at N14 O4 RZ RN
          clear F13 N13 hz7 hs7 hL hV hZ hNn R'
          k_steps
          rename Fr G L1 _ _ => F15
          rename News G L1 _ _ => N15
          have hG := hGw.2
          have hW : c.W ≠ c.Nn := fun e => O4.2 c.Nn (.tail _ (.head _)) (by rw [← e]; exact mem_mu.2)
          refine ⟨G, L1, _, TG, F15, fun h₀' T₀ F₀ B₀ X₀ P₀ D₀ => hret _ _ _ h₀' T₀ F₀ B₀ X₀ P₀ D₀ (keptF_end rfl hG TG F15 (fun q hq => (N0 q hq).1) (fun q hq => (N15 q hq).1) fun q hq => ?_) ⟨st4.zs, c.W, st4.eW, rfl, fun q hq => ?_, RZ⟩⟩
          · rw [List.mem_singleton.mp hq]
            exact .inr (.tail _ (.tail _ (.tail _ (.tail _ (.head _)))))
          · rcases List.mem_cons.mp hq with rfl | hq
            · exact ⟨fresh_turn hG TG N15 (q := (c.W, _)) (.tail _ (.tail _ (.head _))) (by simpa using hW), N15.get (.tail _ (.tail _ (.head _)))⟩
            · obtain ⟨z, hz, hq⟩ := List.mem_flatMap.mp hq
              have hm := show_in_led (c := c) hz hq
              exact ⟨fresh_turn hG TG N15 (.tail _ hm) (by simpa using RN z hz q hq), N15.get (.tail _ hm)⟩
        · have hj1 : j < 3 := by omega
          match j, hj1 with
          | 0, _ =>
            replace N' : News G L1 h' ((I2, itR 0 3) :: ledR c st1) := N'
            refine loopE_range F' N' (by decide) (it_off N') ?_
            intro t h2 tk2 F2 N2
            clear F' N'
            k_steps
            unfold Stop
            rename Fr G L1 _ _ => F3
            rename News G L1 _ _ => N3
            refine sub_item (N3 _ (.tail _ (.tail _ (.tail _ (.head _))))).1 rfl rfl (k := 2) rfl rfl (by decide) ?_ rfl (fun _ => rfl)
            k_steps
            unfold Stop
            rename Fr G L1 _ _ => F3
            rename News G L1 _ _ => N3
            refine sub_item (N3 _ (.tail _ (.tail _ (.tail _ (.tail _ (.head _)))))).1 rfl rfl (k := 5) rfl hv (by decide) ?_ rfl (fun _ => rfl)
            k_steps
            unfold Stop
            rename Fr G L1 _ _ => F3
            rename News G L1 _ _ => N3
            have hlt : x / 1 % 5 < 5 := Nat.mod_lt _ (by decide)
            have hll : st1.ls.length = 5 := by rw [← runA_len ns 5, ← hL, List.length_map]
            obtain ⟨l, hl⟩ : ∃ l, st1.ls[x / 1 % 5]? = some l := ⟨_, List.getElem?_eq_getElem (by omega)⟩
            have hlm : l ∈ st1.ls := List.mem_of_getElem? hl
            have hlu : l.us = (runA ns 5).le.getD (x / 5 ^ 0 % 5) [] := by rw [← hL, List.getD_eq_getElem?_getD, List.getElem?_map, show (5 : Nat) ^ 0 = 1 from rfl, hl]; rfl
            have OKl : OkL l.us := (OK 5 (Nat.le_refl _)).2 _ (by rw [← hL]; exact List.mem_map_of_mem hlm)
            have OR := rows_of (ok_self (ok_third ns 0)) R'
            refine sub_item (N3 _ (.tail _ (.head _))).1 rfl rfl (e_end x 1 rfl) (by rw [List.getElem?_map, hl]; rfl) (Nat.lt_trans hlt (by decide)) ?_ rfl (fun _ => rfl)
            k_steps
            unfold Stop
            rename Fr G L1 _ _ => F3
            rename News G L1 _ _ => N3
            refine' use_takeR (l := l) (st := st1) (i := 2) (x := (I2, itR _ _)) ?B F3 X' T' XB TB D' ?hk ?hd ?hu N3 O' ?hx (by decide) hlm (hV l hlm) ?hr OR.2 ?hus ?_
            case B => exact B'
            case hk => exact rfl
            case hd => ktr_room
            case hu => ktr_units
            case hx => exact mu_new (it_off N3)
            case hr => have := OR.1; have := OKl.1; omega
            case hus => exact fun u hu => by have := OKl.2 u hu; omega
            intro h3 tk3 G3 rows3 e3 TG3 F4 B4 X4 T4 D4 N4 R3
            k_steps
            unfold Stop
            rename Fr _ L1 _ _ => F15
            rename News _ L1 _ _ => N15
            refine IH ⟨1, by decide, st1.put 2 rows3 e3, mapOf F15 "k"⟩ _ (by show 3 - 1 < 3 - 0; decide) ⟨_, _, _, rfl, TG.trans TG3, fr_congr F15 ?_, N15, O', B4, X4, T4, D4, ?_, eL, eZ⟩
            · refine names_ext ["k"] (by walk_at "my names") (by walk_at "my rest")
            · show (if (2 : Nat) = 2 then rows3 else st1.r 2).map Row.ab = _
              rw [if_pos rfl, R3, R', hlu]; exact (hth 0).symm
          | 1, _ =>
            replace N' : News G L1 h' ((I2, itR 1 2) :: ledR c st1) := N'
            refine loopE_range F' N' (by decide) (it_off N') ?_
            intro t h2 tk2 F2 N2
            clear F' N'
            k_steps
            unfold Stop
            rename Fr G L1 _ _ => F3
            rename News G L1 _ _ => N3
            refine sub_item (N3 _ (.tail _ (.tail _ (.tail _ (.head _))))).1 rfl rfl (k := 2) rfl rfl (by decide) ?_ rfl (fun _ => rfl)
            k_steps
            unfold Stop
            rename Fr G L1 _ _ => F3
            rename News G L1 _ _ => N3
            refine sub_item (N3 _ (.tail _ (.tail _ (.tail _ (.tail _ (.head _)))))).1 rfl rfl (k := 5) rfl hv (by decide) ?_ rfl (fun _ => rfl)
            k_steps
            unfold Stop
            rename Fr G L1 _ _ => F3
            rename News G L1 _ _ => N3
            have hlt : x / 5 % 5 < 5 := Nat.mod_lt _ (by decide)
            have hll : st1.ls.length = 5 := by rw [← runA_len ns 5, ← hL, List.length_map]
            obtain ⟨l, hl⟩ : ∃ l, st1.ls[x / 5 % 5]? = some l := ⟨_, List.getElem?_eq_getElem (by omega)⟩
            have hlm : l ∈ st1.ls := List.mem_of_getElem? hl
            have hlu : l.us = (runA ns 5).le.getD (x / 5 ^ 1 % 5) [] := by rw [← hL, List.getD_eq_getElem?_getD, List.getElem?_map, show (5 : Nat) ^ 1 = 5 from rfl, hl]; rfl
            have OKl : OkL l.us := (OK 5 (Nat.le_refl _)).2 _ (by rw [← hL]; exact List.mem_map_of_mem hlm)
            have OR := rows_of (ok_self (ok_third ns 1)) R'
            refine sub_item (N3 _ (.tail _ (.head _))).1 rfl rfl (e_end x 5 rfl) (by rw [List.getElem?_map, hl]; rfl) (Nat.lt_trans hlt (by decide)) ?_ rfl (fun _ => rfl)
            k_steps
            unfold Stop
            rename Fr G L1 _ _ => F3
            rename News G L1 _ _ => N3
            refine' use_takeR (l := l) (st := st1) (i := 2) (x := (I2, itR _ _)) ?B F3 X' T' XB TB D' ?hk ?hd ?hu N3 O' ?hx (by decide) hlm (hV l hlm) ?hr OR.2 ?hus ?_
            case B => exact B'
            case hk => exact rfl
            case hd => ktr_room
            case hu => ktr_units
            case hx => exact mu_new (it_off N3)
            case hr => have := OR.1; have := OKl.1; omega
            case hus => exact fun u hu => by have := OKl.2 u hu; omega
            intro h3 tk3 G3 rows3 e3 TG3 F4 B4 X4 T4 D4 N4 R3
            k_steps
            unfold Stop
            rename Fr _ L1 _ _ => F15
            rename News _ L1 _ _ => N15
            refine IH ⟨2, by decide, st1.put 2 rows3 e3, mapOf F15 "k"⟩ _ (by show 3 - 2 < 3 - 1; decide) ⟨_, _, _, rfl, TG.trans TG3, fr_congr F15 ?_, N15, O', B4, X4, T4, D4, ?_, eL, eZ⟩
            · refine names_ext ["k"] (by walk_at "my names") (by walk_at "my rest")
            · show (if (2 : Nat) = 2 then rows3 else st1.r 2).map Row.ab = _
              rw [if_pos rfl, R3, R', hlu]; exact (hth 1).symm
          | 2, _ =>
            replace N' : News G L1 h' ((I2, itR 2 1) :: ledR c st1) := N'
            refine loopE_range F' N' (by decide) (it_off N') ?_
            intro t h2 tk2 F2 N2
            clear F' N'
            k_steps
            unfold Stop
            rename Fr G L1 _ _ => F3
            rename News G L1 _ _ => N3
            refine sub_item (N3 _ (.tail _ (.tail _ (.tail _ (.head _))))).1 rfl rfl (k := 2) rfl rfl (by decide) ?_ rfl (fun _ => rfl)
            k_steps
            unfold Stop
            rename Fr G L1 _ _ => F3
            rename News G L1 _ _ => N3
            refine sub_item (N3 _ (.tail _ (.tail _ (.tail _ (.tail _ (.head _)))))).1 rfl rfl (k := 5) rfl hv (by decide) ?_ rfl (fun _ => rfl)
            k_steps
            unfold Stop
            rename Fr G L1 _ _ => F3
            rename News G L1 _ _ => N3
            have hlt : x / 25 % 5 < 5 := Nat.mod_lt _ (by decide)
            have hll : st1.ls.length = 5 := by rw [← runA_len ns 5, ← hL, List.length_map]
            obtain ⟨l, hl⟩ : ∃ l, st1.ls[x / 25 % 5]? = some l := ⟨_, List.getElem?_eq_getElem (by omega)⟩
            have hlm : l ∈ st1.ls := List.mem_of_getElem? hl
            have hlu : l.us = (runA ns 5).le.getD (x / 5 ^ 2 % 5) [] := by rw [← hL, List.getD_eq_getElem?_getD, List.getElem?_map, show (5 : Nat) ^ 2 = 25 from rfl, hl]; rfl
            have OKl : OkL l.us := (OK 5 (Nat.le_refl _)).2 _ (by rw [← hL]; exact List.mem_map_of_mem hlm)
            have OR := rows_of (ok_self (ok_third ns 2)) R'
            refine sub_item (N3 _ (.tail _ (.head _))).1 rfl rfl (e_end x 25 rfl) (by rw [List.getElem?_map, hl]; rfl) (Nat.lt_trans hlt (by decide)) ?_ rfl (fun _ => rfl)
            k_steps
            unfold Stop
            rename Fr G L1 _ _ => F3
            rename News G L1 _ _ => N3
            refine' use_takeR (l := l) (st := st1) (i := 2) (x := (I2, itR _ _)) ?B F3 X' T' XB TB D' ?hk ?hd ?hu N3 O' ?hx (by decide) hlm (hV l hlm) ?hr OR.2 ?hus ?_
            case B => exact B'
            case hk => exact rfl
            case hd => ktr_room
            case hu => ktr_units
            case hx => exact mu_new (it_off N3)
            case hr => have := OR.1; have := OKl.1; omega
            case hus => exact fun u hu => by have := OKl.2 u hu; omega
            intro h3 tk3 G3 rows3 e3 TG3 F4 B4 X4 T4 D4 N4 R3
            k_steps
            unfold Stop
            rename Fr _ L1 _ _ => F15
            rename News _ L1 _ _ => N15
            refine IH ⟨3, by decide, st1.put 2 rows3 e3, mapOf F15 "k"⟩ _ (by show 3 - 3 < 3 - 2; decide) ⟨_, _, _, rfl, TG.trans TG3, fr_congr F15 ?_, N15, O', B4, X4, T4, D4, ?_, eL, eZ⟩
            · refine names_ext ["k"] (by walk_at "my names") (by walk_at "my rest")
            · show (if (2 : Nat) = 2 then rows3 else st1.r 2).map Row.ab = _
              rw [if_pos rfl, R3, R', hlu]; exact (hth 2).symm
    · have hk1 : k < 5 := by omega
      refine loopE_range F' N' (by omega) (it_off N') ?_
      intro t h2 tk2 F2 N2
      clear F' N'
      have hll : st.ls.length = k := by rw [← runA_len ns k, ← RE.l, List.length_map]
      have OKk := OK k hk5
      k_steps
      unfold Stop
      rename Fr G L1 _ _ => F3
      rename News G L1 _ _ => N3
      have hv : ∃ t, c.vs[k]? = some (.int ((ns.getD k 0 : Nat) : Int) t) := intsAt hvs (by rw [List.getElem?_map, List.getElem?_eq_getElem (by omega), List.getD_eq_getElem?_getD, List.getElem?_eq_getElem (by omega)]; rfl)
      obtain ⟨tv, hv⟩ := hv
      have hA : runA ns (k + 1) = stepA ns (runA ns k) k := rfl
      have hstep : ∀ A, stepA ns A k = (let v := ns.getD k 0; let t := if v / 2 % 60 % (k + 1) < k then (A.le.getD (v / 2 % 60 % (k + 1)) []).foldl layA (A.ta (v % 2)) else A.ta (v % 2); let t2 := writeA t (v % 2) (v / 120 % 4 % 2) (v / 480 % 7 + 1); ⟨fun i => if i = v % 2 then t2 else A.ta i, A.le ++ [t2]⟩) := fun _ => rfl
      generalize ns.getD k 0 = x at hv hstep
      refine sub_item (N3 _ (.tail _ (.tail _ (.tail _ (.tail _ (.head _)))))).1 rfl rfl rfl hv (Nat.lt_of_lt_of_le hk1 (by decide)) ?_ rfl (fun _ => rfl)
      k_steps
      unfold Stop
      rename Fr G L1 _ _ => F3
      rename News G L1 _ _ => N3
      have x2 : x % 2 < 2 := Nat.mod_lt _ (by decide)
      have x3 : x % 2 < 3 := Nat.lt_succ_of_lt x2
      have hT : [Value.ref (c.T 0).t, .ref (c.T 1).t, .ref (c.T 2).t][x % 2]? = some (.ref (c.T (x % 2)).t) := by
        rcases Nat.lt_or_ge (x % 2) 1 with h | h
        · rw [show x % 2 = 0 by omega]; rfl
        · rw [show x % 2 = 1 by omega]; rfl
      refine sub_item (N3 _ (.tail _ (.tail _ (.tail _ (.head _))))).1 rfl rfl (k := x % 2) (by rw [Int.fmod_eq_emod_of_nonneg _ (by decide)]; omega) hT (Nat.lt_of_lt_of_le x2 (by decide)) ?_ rfl (fun _ => rfl)
      k_steps
      rotate_left
      rename (¬ Int.fmod _ _ < _) => he
      rw [e_early] at he
      have he : ¬ x / 2 % 60 % (k + 1) < k := by omega
      obtain ⟨t0, ht0⟩ : ∃ t0, t0 = (if x / 2 % 60 % (k + 1) < k then ((runA ns k).le.getD (x / 2 % 60 % (k + 1)) []).foldl layA ((runA ns k).ta (x % 2)) else (runA ns k).ta (x % 2)) := ⟨_, rfl⟩
      rw [if_neg he] at ht0
      have OT := ok_self (OKk.1 (x % 2))
      rw [← ht0] at OT
      have R1 : (st.r (x % 2)).map Row.ab = t0 := (RE.t _).trans ht0.symm
      have R2 : ∀ j, j ≠ x % 2 → (st.r j).map Row.ab = (runA ns k).ta j := fun j _ => RE.t j
      have ht1 : t0 = (if x / 2 % 60 % (k + 1) < k then ((runA ns k).le.getD (x / 2 % 60 % (k + 1)) []).foldl layA ((runA ns k).ta (x % 2)) else (runA ns k).ta (x % 2)) := by rw [if_neg he]; exact ht0
      have hL := RE.l
      have hV := RE.v
      have hZ := RE.z
      have hNn := RE.n
      have O1 := O'
      have B4 := B'
      have X4 := X'
      have T4 := T'
      have D4 := D'
      have TG3 : KtsTurn (fsOf D1) g G := TG
      clear ht0 he RE
      rename SRr => st1
      k_steps
      rotate_left
      unfold Stop
      rename Fr G L1 _ _ => F3
      rename News G L1 _ _ => N3
      rename (Int.fmod _ _ < _) => he
      rw [e_early] at he
      have he : x / 2 % 60 % (k + 1) < k := by omega
      obtain ⟨l, hl⟩ : ∃ l, st.ls[x / 2 % 60 % (k + 1)]? = some l := ⟨_, List.getElem?_eq_getElem (by omega)⟩
      have hlm : l ∈ st.ls := List.mem_of_getElem? hl
      have hlu : l.us = (runA ns k).le.getD (x / 2 % 60 % (k + 1)) [] := by rw [← RE.l, List.getD_eq_getElem?_getD, List.getElem?_map, hl]; rfl
      have OKl : OkL l.us := OKk.2 _ (by rw [← RE.l]; exact List.mem_map_of_mem hlm)
      have OT := ok_take (OKk.1 (x % 2)) OKl
      have OR := rows_of (ok_self (OKk.1 (x % 2))) (RE.t (x % 2))
      refine sub_item (N3 _ (.tail _ (.head _))).1 rfl rfl (e_early x k) (by rw [List.getElem?_map, hl]; rfl) (Nat.lt_trans he (Nat.lt_of_lt_of_le hk1 (by decide))) ?_ rfl (fun _ => rfl)
      k_steps
      unfold Stop
      rename Fr G L1 _ _ => F3
      rename News G L1 _ _ => N3
      refine' use_takeR (l := l) (st := st) (i := x % 2) (x := (I, itR _ _)) ?B F3 X' T' XB TB D' ?hk ?hd ?hu N3 O' ?hx x3 hlm (RE.v l hlm) ?hr OR.2 ?hus ?_
      case B => exact B'
      case hk => exact rfl
      case hd => ktr_room
      case hu => ktr_units
      case hx => exact mu_new (it_off N3)
      case hr => have := OR.1; have := OKl.1; omega
      case hus => exact fun u hu => by have := OKl.2 u hu; omega
      intro h3 tk3 G3 rows3 e3 TG3 F4 B4 X4 T4 D4 N4 R3
      obtain ⟨t0, ht0⟩ : ∃ t0, t0 = (if x / 2 % 60 % (k + 1) < k then ((runA ns k).le.getD (x / 2 % 60 % (k + 1)) []).foldl layA ((runA ns k).ta (x % 2)) else (runA ns k).ta (x % 2)) := ⟨_, rfl⟩
      have ht1 := ht0
      rw [if_pos he, ← hlu] at ht0
      rw [← ht0] at OT
      have R1 : ((st.put (x % 2) rows3 e3).r (x % 2)).map Row.ab = t0 := by
        simp only [SRr.put, if_true]
        rw [R3, RE.t, ht0]
      have R2 : ∀ j, j ≠ x % 2 → ((st.put (x % 2) rows3 e3).r j).map Row.ab = (runA ns k).ta j := fun j hj => by
        simp only [SRr.put, if_neg hj]; exact RE.t j
      have O1 : OffR c (st.put (x % 2) rows3 e3) := O'
      have hL : (st.put (x % 2) rows3 e3).ls.map LetZ.us = _ := RE.l
      have hV : ∀ l ∈ (st.put (x % 2) rows3 e3).ls, IntsAre l.vs (l.us.flatMap octA) := RE.v
      have hZ : ZAll (st.put (x % 2) rows3 e3).zs _ := RE.z
      have hNn : ∀ z ∈ (st.put (x % 2) rows3 e3).zs, ∀ q ∈ showLed z, q.1 ≠ c.Nn := RE.n
      replace hll : (st.put (x % 2) rows3 e3).ls.length = k := hll
      replace TG3 : KtsTurn (fsOf D1) g G3 := TG.trans TG3
      generalize st.put (x % 2) rows3 e3 = st1 at N4 R1 R2 O1 hL hV hZ hNn hll
      clear R3 OKl OR ht0 hlu hlm hl he RE O' N3 F3
      k_steps
      rotate_left
      all_goals
        unfold Stop
        rename Fr _ L1 _ _ => F5
        rename News _ L1 _ _ => N5
        have RB := rows_of OT R1
        have hta : ∀ i, (runA ns (k + 1)).ta i = if i = x % 2 then writeA t0 (x % 2) (x / 120 % 4 % 2) (x / 480 % 7 + 1) else (runA ns k).ta i := fun i => by rw [hA, hstep, ht1]
        have hle : (runA ns (k + 1)).le = (runA ns k).le ++ [writeA t0 (x % 2) (x / 120 % 4 % 2) (x / 480 % 7 + 1)] := by rw [hA, hstep, ht1]
        refine' use_writeR (st := st1) (i := x % 2) (nm := x / 120 % 4) (fl := x / 480 % 7 + 1) (site := x % 2) (x := (I, itR _ _)) B4 F5 X4 T4 ?hk ?hd ?hu N5 O1 (mu_new (it_off N5)) x3 RB.1 RB.2 (by omega) (Nat.le_add_left _ _) (Nat.succ_le_of_lt (Nat.mod_lt _ (by decide))) (e_mod2 x) (item_kmKM (Nat.mod_lt _ (by decide)) (e_name x)) (e_flag x) ?_
        case hk => exact rfl
        case hd => ktr_room
        case hu => ktr_units
        intro r4 h4 tk4 rows4 e4 F6 N6 R4
        have R5 : ∀ j, ((st1.put (x % 2) rows4 e4).r j).map Row.ab = (runA ns (k + 1)).ta j := fun j => by
          rw [hta]
          by_cases hj : j = x % 2
          · simp only [SRr.put, if_pos hj]; rw [R4, R1]
          · simp only [SRr.put, if_neg hj]; exact R2 j hj
        have O2 : OffR c (st1.put (x % 2) rows4 e4) := O1
        have R6 : (runA ns (k + 1)).ta (x % 2) = writeA t0 (x % 2) (x / 120 % 4 % 2) (x / 480 % 7 + 1) := by rw [hta, if_pos rfl]
        replace hL : (st1.put (x % 2) rows4 e4).ls.map LetZ.us = _ := hL
        replace hV : ∀ l ∈ (st1.put (x % 2) rows4 e4).ls, IntsAre l.vs (l.us.flatMap octA) := hV
        replace hZ : ZAll (st1.put (x % 2) rows4 e4).zs _ := hZ
        replace hNn : ∀ z ∈ (st1.put (x % 2) rows4 e4).zs, ∀ q ∈ showLed z, q.1 ≠ c.Nn := hNn
        replace hll : (st1.put (x % 2) rows4 e4).ls.length = k := hll
        generalize st1.put (x % 2) rows4 e4 = st2 at N6 R5 O2 hL hV hZ hNn hll
        clear R1 R2 R4 OT RB N5 F5 O1
        k_steps
      all_goals
        unfold Stop
        rename Fr _ L1 _ _ => F7
        rename News _ L1 _ _ => N7
        have OB := ok_rows ((OK (k + 1) (by omega)).1 (x % 2)) (R5 _)
        obtain ⟨r0, hr0⟩ : ∃ r0, r0 ∈ st2.r (x % 2) := by
          cases hq : st2.r (x % 2) with
          | nil => have := R5 (x % 2); rw [R6, hq] at this; simp [writeA] at this
          | cons r _ => exact ⟨r, .head _⟩
        refine' use_letterR (r0 := r0) (x := (I, itR _ _)) B4 F7 X4 T4 ?hk ?hd ?hu N7 x3 hr0 (Nat.le_trans OB.1 (by decide)) (fun r hr => by have := OB.2 r hr; omega) ?_
        case hk => exact rfl
        case hd => ktr_room
        case hu => ktr_units
        intro l5 h5 tk5 F8 N8 hO5 hus5 hvs5
        clear F7 N7 hr0
        k_steps
      all_goals
        unfold Stop
        rename Fr _ L1 _ _ => F9
        rename News _ L1 _ _ => N9
        refine use_appL (x := (I, itR _ _)) F9 N9 O2 (mu_new (it_off (news_sub N9 fun q hq => .tail _ hq))) hO5 (by omega) ?_
        intro h6 F10 N10 O3
        replace hL : (st2.addL l5).ls.map LetZ.us = (runA ns (k + 1)).le := by
          show (st2.ls ++ [l5]).map LetZ.us = _
          rw [List.map_append, hL, hle, ← R6, ← R5, ← hus5]; rfl
        replace hV : ∀ l ∈ (st2.addL l5).ls, IntsAre l.vs (l.us.flatMap octA) := fun l hl => (List.mem_append.mp (show l ∈ st2.ls ++ [l5] from hl)).elim (hV l) fun h => by rw [List.mem_singleton.mp h]; exact hvs5
        replace hZ : ZAll (st2.addL l5).zs _ := hZ
        replace hNn : ∀ z ∈ (st2.addL l5).zs, ∀ q ∈ showLed z, q.1 ≠ c.Nn := hNn
        replace R5 : ∀ j, ((st2.addL l5).r j).map Row.ab = (runA ns (k + 1)).ta j := R5
        replace OB : ((st2.addL l5).r (x % 2)).length ≤ 10 := OB.1
        generalize st2.addL l5 = st3 at N10 O3 hL hV hZ hNn R5 OB
        clear F9 N9 hO5 hus5 hvs5 O2
        k_steps
      all_goals
        unfold Stop
        rename Fr _ L1 _ _ => F11
        rename News _ L1 _ _ => N11
        refine' use_shownR (x := (I, itR _ _)) B4 F11 X4 T4 ?hk ?hd ?hu N11 x3 (Nat.lt_of_le_of_lt OB (by decide)) ?_
        case hk => exact rfl
        case hd => ktr_room
        case hu => ktr_units
        intro z7 h7 tk7 F12 N12 hz7 hs7
        clear F11 N11
        k_steps
      all_goals
        unfold Stop
        rename Fr _ L1 _ _ => F13
        rename News _ L1 _ _ => N13
        have hzl := hZ.len
        rw [runA_len] at hzl
        refine use_appZ (x := (I, itR _ _)) F13 N13 O3 (mu_new (it_off (news_sub N13 fun q hq => List.mem_append_right _ hq))) (fun q hq => (hz7 q hq).1) (by omega) ?_
        intro h8 F14 N14 O4
        have RE2 : RelA c (st3.addZ z7) (runA ns (k + 1)) := ⟨R5, hL, hV, by
            show ZAll (st3.zs ++ [z7]) _
            rw [hle]
            refine hZ.snoc ?_
            rw [← R6, ← R5]; exact hs7, fun z hz => (List.mem_append.mp (show z ∈ st3.zs ++ [z7] from hz)).elim (hNn z) fun h => by rw [List.mem_singleton.mp h]; exact fun q hq => (hz7 q hq).2.1⟩
        generalize st3.addZ z7 = st4 at N14 O4 RE2
        clear F13 N13 hz7 hs7 O3 hL hV hZ hNn R5
        k_steps
      all_goals
        unfold Stop
        rename Fr _ L1 _ _ => F15
        rename News _ L1 _ _ => N15
        have eI : itR ((k : Int) + 1) (((5 - k : Nat) : Int) - 1) = itR ((k + 1 : Nat) : Int) ((5 - (k + 1) : Nat) : Int) := by congr 1; omega
        rw [eI] at N15
        dsimp only
        refine IH ⟨k + 1, by omega, st4, mapOf F15 "k", mapOf F15 "v", mapOf F15 "table", mapOf F15 "early"⟩ _ (by show 5 - (k + 1) < 5 - k; omega) ⟨_, _, _, rfl, TG3, fr_congr F15 ?_, N15, O4, B4, X4, T4, D4, RE2⟩
        refine names_ext ["k", "v", "table", "early"] (by walk_at "my names") (by walk_at "my rest")
end

theorem offNB : True := by
  w_top off
  trivial
section
variable {prog : Program} {w : World} {p : Program} {loose : List Str} {mean : ExcName → Option Value} {mg mb : Str → Option Value}
theorem itR_next {j n : Nat} (h : j < n) : itR ((j : Int) + 1) (((n - j : Nat) : Int) - 1) = itR ((j + 1 : Nat) : Int) ((n - (j + 1) : Nat) : Int) := by
  have e : ((n - j : Nat) : Int) - 1 = ((n - (j + 1) : Nat) : Int) := by omega
  rw [e]; rfl
structure SNb where
  j : Nat
  is : List Int
  vs : List Value
  k : Option Value
theorem small_range : ∀ n : Nat, n ≤ 6 → Builtin.Range.small 0 (n : Int) 1 = true ∧ Builtin.Range.rangeSize 0 (n : Int) 1 = (n : Int) := by decide
theorem nat_ints : ∀ {is : List Int}, (∀ i ∈ is, 0 ≤ i) → (is.map Int.toNat).map (fun x => ((x : Nat) : Int)) = is
  | [], _ => rfl
  | i :: is, h => by
    have := nat_ints (is := is) fun j hj => h j (.tail _ hj)
    have := h i (.head _)
    simp only [List.map_cons]
    rw [‹List.map _ (List.map _ is) = is›]
    congr 1
    omega
local macro_rules | `(tactic| walk_at "LoopE") => `(tactic| (k_here; refine Stop.of ?_))
local macro_rules | `(tactic| walk_at "exec For Name Call cons nil") => `(tactic| (k_here; refine Stop.of ?_))
set_option maxHeartbeats 8000000 in
theorem c_numbers {S : Addr} {ss : List Value} {is : List Int} (hs : IntsAre ss is) (h64 : is.length ≤ 63) :
    Con prog w p loose mean mg mb 345 [.ref S] 20 (fun h => h.IsList S ss.toArray) [] (fun s h' r => ∃ (D : Addr) (vs : List Value) (n : Nat) (ns : List Nat), r = .ref D ∧ NewIn s h' [(D, lstObj vs n)] ∧ ns.length = 6 ∧ IntsAre vs (ns.map fun x => ((x : Nat) : Int))) := by
  intro dp un gd cn cs a ccd cl outer A₀ base h₀ L m s Q E B F X T hk hdp hun hS _ hret
  refine wpAny_call ?_
  have N0 : News h₀ L s.heap [] := News.nil
  k_dflt (walk_at "my enter")
  intro g L1 h1 FG F1 N1 B1 X1 T1 hG hG' hl1
  have hS1 : g.IsList S ss.toArray := hS.at fun o e => hG _ o (by simp) e
  (try dsimp only); (try k_lift B1); (try k_fold)
  k_steps
  unfold Stop
  rename Fr g _ _ _ => F3
  rename News g _ _ _ => N3
  with_unfolding_all refine' For_else F3 ?_
  k_whole
  k_steps
  obtain ⟨nn, hnn, hn6, hnl⟩ : ∃ nn : Nat, (if 6 < (is.length : Int) then 6 else (is.length : Int)) = (nn : Int) ∧ nn ≤ 6 ∧ nn ≤ is.length := by
    by_cases h : 6 < (is.length : Int)
    · exact ⟨6, if_pos h, Nat.le_refl _, by omega⟩
    · exact ⟨is.length, if_neg h, by omega, Nat.le_refl _⟩
  rename (IsRange _ _ _ _ _ _ _ _) => hr
  rw [hnn] at hr
  obtain ⟨z1, z2⟩ := small_range nn hn6
  rename Fr g _ _ _ => F3
  rename News g _ _ _ => N3
  with_unfolding_all refine iter_rangeE (n := nn) hr z1 z2 F3 N3 ?_
  intro I h4 lI F5 N5
  clear hr F3 N3
  obtain ⟨D, vs0, hi0, N6, eD⟩ : ∃ (D : Addr) (vs : List Value), IntsAre vs [0, 723, 1081, 2282, 2884, 48] ∧ News g L1 h4 ((I, itR 0 nn) :: [(D, W.listOf vs.toArray 0)]) ∧ mapOf F5 "numbers" = some (.ref D) := ⟨_, [_, _, _, _, _, _], .cons _ _ (.cons _ _ (.cons _ _ (.cons _ _ (.cons _ _ (.cons _ _ .nil))))), N5, rfl⟩
  refine whl_ind (R := fun s' => LoopE _ _ _ _ _ _ _ _ _ (.ref I) s') (σ := SNb) (fun st => nn - st.j)
    (fun st s' => ∃ h tk, s' = { s with heap := h, toks := tk } ∧ Fr g L1 h (fun z => if z = "k" then st.k else if z = "numbers" then some (.ref D) else mapOf F5 z) ∧
      News g L1 h [(I, itR (st.j : Int) ((nn - st.j : Nat) : Int)), (D, W.listOf st.vs.toArray 0)] ∧ st.j ≤ nn ∧ st.is.length = 6 ∧ IntsAre st.vs st.is ∧ ∀ i ∈ st.is, 0 ≤ i)
    ⟨0, _, vs0, none⟩ ⟨_, _, rfl, fr_congr F5 ?_, N6, Nat.zero_le _, rfl, hi0, show ∀ i ∈ [(0 : Int), 723, 1081, 2282, 2884, 48], 0 ≤ i by decide⟩ ?_
  · refine names_ext ["k", "numbers"] (List.forall_mem_cons.mpr ⟨by rfl, List.forall_mem_cons.mpr ⟨eD, List.forall_mem_nil _⟩⟩) (by walk_at "my rest")
  · dsimp only [mapOf]
    clear F5 N5 N6 eD
    intro st s' IH hP
    obtain ⟨j, js, vs, v1⟩ := st
    obtain ⟨h', tk', rfl, F', N', hj, hl6, hi, hnn0⟩ := hP
    dsimp only at F' N' hj hl6 hi hnn0
    by_cases hj0 : j = nn
    · subst hj0
      clear IH
      have N5 : News g L1 h' ((I, itR (j : Int) 0) :: [(D, W.listOf vs.toArray 0)]) := by rw [Nat.sub_self] at N'; exact N'
      clear N'
      refine loopE_rangeEnd rfl F' N5 (List.forall_mem_cons.mpr ⟨news_ne N5 (.tail _ (.head _)) (.head _) (by simp [itR]), List.forall_mem_nil _⟩) ?_
      intro h2 F2 N2
      clear F' N5
      k_steps
      refine hret _ _ _ (by assumption) (kept_end hG F2) ⟨D, vs, 0, js.map Int.toNat, rfl, List.forall_mem_cons.mpr ⟨⟨fresh_end hG N2 (.head _), N2.get (.head _)⟩, List.forall_mem_nil _⟩, by simpa using hl6, by rw [nat_ints hnn0]; exact hi⟩
    · have hj1 : j < nn := by omega
      refine loopE_range F' N' (by omega) (List.forall_mem_cons.mpr ⟨news_ne N' (.tail _ (.head _)) (.head _) (by simp [itR]), List.forall_mem_nil _⟩) ?_
      intro t h2 tk2 F2 N2
      clear F' N'
      have b0 : (0 : Int) ≤ (j : Int) := by omega
      have b1 : (j : Int) < (js.length : Int) := by omega
      have b2 : (j : Int) < (is.length : Int) := by omega
      k_steps
      rename Fr g L1 _ _ => F3
      rename News g L1 _ _ => N3
      have N4 : News g L1 _ ((D, W.listOf vs.toArray 0) :: [(I, itR ((j : Int) + 1) (((nn - j : Nat) : Int) - 1))]) := news_swap N3
      refine ksa_set F3 N4 (.head ?_) hi b0 b1 (by omega) ?_
      · exact List.forall_mem_cons.mpr ⟨news_ne N4 (.tail _ (.head _)) (.head _) (by simp [itR]), List.forall_mem_nil _⟩
      intro h6 F6 N6 hi6 hl7 _
      clear F3 N3 N4
      k_steps
      unfold Stop
      rename Fr g L1 _ _ => F7
      rename News g L1 _ _ => N7
      rw [itR_next hj1] at N7
      dsimp only
      refine IH ⟨j + 1, _, _, mapOf F7 "k"⟩ _ (by show nn - (j + 1) < nn - j; omega) ⟨_, _, rfl, fr_congr F7 ?_, news_swap N7, hj1, hl7.trans hl6, hi6, fun i hi => ?_⟩
      · refine names_ext ["k", "numbers"] (by walk_at "my names") (by walk_at "my rest")
      · rcases List.mem_or_eq_of_mem_set hi with h | h
        · exact hnn0 i h
        · rw [h]; exact Int.fmod_nonneg_of_pos _ (by decide)
end

theorem offCC : True := by
  w_top off
  trivial
section
open PyProof.Rows.LCg
/-- a comprehension whose own variable is captured: what is left of its turns -/
def CcEnd (h₀ : Heap) (L : Addr) (m : Str → Option Value) (s₁ : Shared) (led : List (Addr × Obj)) (rest : Value → List (Addr × Obj) → Prop) (y : Value) (s₂ : Shared) : Prop :=
  ∃ h' tk news', s₂ = { s₁ with heap := h', toks := tk } ∧ Fr h₀ L h' m ∧ News h₀ L h' (led ++ news') ∧ (∀ p ∈ news', ∀ q ∈ led, p.1 ≠ q.1) ∧ rest y news'
theorem CcEnd.intro {h₀ : Heap} {L : Addr} {m : Str → Option Value} {s₁ : Shared} {led : List (Addr × Obj)} {rest : Value → List (Addr × Obj) → Prop} {y : Value} {h' : Heap} {tk : Nat} {all : List (Addr × Obj)}
    (F : Fr h₀ L h' m) (N : News h₀ L h' all) (news' : List (Addr × Obj)) (sub : ∀ p ∈ led ++ news', p ∈ all) (off : ∀ p ∈ news', ∀ q ∈ led, p.1 ≠ q.1) (r : rest y news') :
    CcEnd h₀ L m s₁ led rest y { s₁ with heap := h', toks := tk } := ⟨h', tk, news', rfl, F, fun p hp => N p (sub p hp), off, r⟩
def CcRest (prog : Program) (w : World) (A : Around) (h₀ : Heap) (L : Addr) (m : Str → Option Value) (env : Env) (ifs : List Expr) (elt : Expr) (x : Str) (scope : Scope) (cl : List (Str × Addr)) (s : Shared) (P : Nat → Value → Prop)
    (Fin : List Value → List (Addr × Obj) → Prop) : Nat → Nat → List Value → List (Addr × Obj) → Prop
  | 0, _, ys, news => Fin ys news
  | k + 1, i, ys, news => ∀ v I oI C oC c oc D h tk (E' : Value → Shared → Prop), P i v → oc.data = .cell (some v) → Fr h₀ L h m → News h₀ L h ([(I, oI), (C, oC), (c, oc), (D, lst ys)] ++ news) → (∀ p ∈ news, ∀ q ∈ [(I, oI), (C, oC), (c, oc), (D, lst ys)], p.1 ≠ q.1) →
      wpAny (model prog w) A (forIn ifs true fun c' r => if r = true then do let ok ← isTrue c' (compEnvC scope ((x, c) :: cl) C env) (eval c' (compEnvC scope ((x, c) :: cl) C env)); pure (ForInStep.yield ok) else pure (ForInStep.yield r)) (fun ok s' => if ok = true then
        wpAny (model prog w) A (eval elt (compEnvC scope ((x, c) :: cl) C env)) (CcEnd h₀ L m { s with heap := h, toks := tk } [(I, oI), (C, oC), (c, oc), (D, lst ys)] (fun y news' => CcRest prog w A h₀ L m env ifs elt x scope cl s P Fin k (i + 1) (ys ++ [y]) news')) E' s'
        else CcEnd h₀ L m { s with heap := h, toks := tk } [(I, oI), (C, oC), (c, oc), (D, lst ys)] (fun _ news' => CcRest prog w A h₀ L m env ifs elt x scope cl s P Fin k (i + 1) ys news') Value.none s') E' { s with heap := h, toks := tk }
variable {prog : Program} {w : World} {A : Around} {E : Value → Shared → Prop} {s : Shared} {h₀ : Heap} {L : Addr} {m : Str → Option Value} {env : Env}
theorem CcRest.zero {ifs : List Expr} {elt : Expr} {x : Str} {scope : Scope} {cl : List (Str × Addr)} {P : Nat → Value → Prop} {Fin : List Value → List (Addr × Obj) → Prop} {i : Nat} {ys : List Value} {news : List (Addr × Obj)} (h : Fin ys news) :
    CcRest prog w A h₀ L m env ifs elt x scope cl s P Fin 0 i ys news := h
theorem CcRest.succ {ifs : List Expr} {elt : Expr} {x : Str} {scope : Scope} {cl : List (Str × Addr)} {P : Nat → Value → Prop} {Fin : List Value → List (Addr × Obj) → Prop} {k i : Nat} {ys : List Value} {news : List (Addr × Obj)}
    (h : ∀ v I oI C oC c oc D h tk (E' : Value → Shared → Prop), P i v → oc.data = .cell (some v) → Fr h₀ L h m → News h₀ L h ([(I, oI), (C, oC), (c, oc), (D, lst ys)] ++ news) → (∀ p ∈ news, ∀ q ∈ [(I, oI), (C, oC), (c, oc), (D, lst ys)], p.1 ≠ q.1) →
      wpAny (model prog w) A (forIn ifs true fun c' r => if r = true then do let ok ← isTrue c' (compEnvC scope ((x, c) :: cl) C env) (eval c' (compEnvC scope ((x, c) :: cl) C env)); pure (ForInStep.yield ok) else pure (ForInStep.yield r)) (fun ok s' => if ok = true then
        wpAny (model prog w) A (eval elt (compEnvC scope ((x, c) :: cl) C env)) (CcEnd h₀ L m { s with heap := h, toks := tk } [(I, oI), (C, oC), (c, oc), (D, lst ys)] (fun y news' => CcRest prog w A h₀ L m env ifs elt x scope cl s P Fin k (i + 1) (ys ++ [y]) news')) E' s'
        else CcEnd h₀ L m { s with heap := h, toks := tk } [(I, oI), (C, oC), (c, oc), (D, lst ys)] (fun _ news' => CcRest prog w A h₀ L m env ifs elt x scope cl s P Fin k (i + 1) ys news') Value.none s') E' { s with heap := h, toks := tk }) :
    CcRest prog w A h₀ L m env ifs elt x scope cl s P Fin (k + 1) i ys news := h
theorem cc_ind {R : Nat → Nat → List Value → List (Addr × Obj) → Prop} {σ : Type} (n : Nat) (cnt : σ → Nat) (ys : σ → List Value) (news : σ → List (Addr × Obj)) (zero : ∀ st, cnt st = n → R 0 n (ys st) (news st))
    (succ : ∀ st k, cnt st + (k + 1) = n → (∀ st', cnt st' = cnt st + 1 → R k (cnt st + 1) (ys st') (news st')) → R (k + 1) (cnt st) (ys st) (news st)) (st₀ : σ) (h0 : cnt st₀ = 0) : R n 0 (ys st₀) (news st₀) := by
  have all : ∀ k st, cnt st + k = n → R k (cnt st) (ys st) (news st) := by
    intro k
    induction k with
    | zero => intro st h; rw [Nat.add_zero] at h; rw [h]; exact zero st h
    | succ k ih => exact fun st h => succ st k h fun st' h' => h' ▸ ih st' (by omega)
  have := all n st₀ (by omega)
  rw [h0] at this; exact this
theorem newEnv_cell1 {scope : Scope} {cl : List (Str × Addr)} {x : Str} {M : Model} {Q : Env → Shared → Prop} (hcl : ∀ k acc, cellsFrom k scope.names acc = (x, k) :: acc) (hpc : ∀ h, pushCells h scope.names = h.push { cls := .type "cell", data := .cell none })
    (h : Q { scope := scope, locals := s.heap.objs.size, globals := env.globals, cells := (x, s.heap.objs.size + 1) :: cl, qual := env.qual, func := none, code := env.code, frame := env.frame, builtins := env.builtins } { s with heap := (s.heap.push { cls := .type "dict", data := .dict #[] }).push { cls := .type "cell", data := .cell none } }) :
    wpAny M A (newFunctionEnv scope env.globals cl [] env.qual none .none (some env)) Q E s := by
  simp only [newFunctionEnv, Option.isSome_some, if_true]
  refine wpAny_bind (wpAny_alloc ?_)
  refine wpAny_bind (wpAny_layCells _ (fun name kind cells => by cases hkc : kind == NameKind.cell <;> simp [hkc]) _ _ _ _ ?_)
  rw [hcl, hpc]
  rw [show ({ s with heap := s.heap.push { cls := .type "dict", data := .dict #[] } } : Shared).heap.objs.size = s.heap.objs.size + 1 from Heap.size_push ..]
  exact wpAny_pure h
theorem block_cell {ifs : List Expr} {elt iter : Expr} {x : Str} {px : Pos} {scope : Scope} {cl : List (Str × Addr)} {pos : Pos} {s₂ : Shared} {I : Addr} {n : Nat} {P : Nat → Value → Prop} {St : Nat → Heap → Prop} {news : List (Addr × Obj)}
    {Fin : List Value → List (Addr × Obj) → Prop} {RR : Value → Addr → Result → Shared → Prop}
    (W : Walks prog w A I [I] [I] n P St) (hsz : n ≤ 1000) (hIo : ∀ i h, St i h → ∃ o, h.get? I = some o)
    (hcl : ∀ k acc, cellsFrom k scope.names acc = (x, k) :: acc) (hpc : ∀ h, pushCells h scope.names = h.push { cls := .type "cell", data := .cell none }) (hkind : scope.kind = .function) (hx : (relabel scope env).names.lookup x = some .cell)
    (hst : St 0 s₂.heap) (F : Fr h₀ L s₂.heap m) (N : News h₀ L s₂.heap news) (hIL : L ≠ I) (hI₀ : h₀.get? I = none) (off : ∀ p ∈ news, p.1 ≠ I)
    (R : CcRest prog w A h₀ L m env ifs elt x scope cl s₂ P Fin n 0 [] news)
    (hRR : ∀ D C h tk m' ys news', Fr h₀ L h m → News h₀ L h ((D, lst ys) :: news') → (∀ p ∈ news', p.1 ≠ D) → h.Ns C m' → h₀.get? C = none → h₀.get? D = none → C ≠ L → D ≠ L → C ≠ D → (∀ p ∈ news', p.1 ≠ C) → Fin ys news' → RR (.ref D) C (.ok .next) { s₂ with heap := h, toks := tk }) :
    wpAny (model prog w) A (newList []) (fun acc s₃ => wpAny (model prog w) A (newFunctionEnv scope env.globals cl [] env.qual none .none (some env)) (fun cenv s₄ =>
      codeAny (model prog w) A (.compStart (.ListComp elt [⟨.Name x px, iter, ifs, 0⟩] scope pos) 0 (.ref I) acc { cenv with scope := relabel scope env }) (RR acc cenv.locals) s₄) E s₃) E s₂ := by
  obtain ⟨oI0, heI0⟩ := hIo _ _ hst
  have hIlt : I < s₂.heap.objs.size := Heap.lt_size heI0
  generalize hz : s₂.heap.objs.size = z at hIlt
  refine wpAny_newObj_type (newEnv_cell1 hcl hpc ?_)
  dsimp only
  rw [Heap.size_push, hz]
  generalize hH : ((s₂.heap.push { cls := .type "list", dict := none, data := .seq ([] : List Value).toArray }).push { cls := .type "dict", data := .dict #[] }).push { cls := .type "cell", data := .cell none } = H
  have old : ∀ b o, s₂.heap.get? b = some o → H.get? b = some o := fun b o e => hH ▸ Heap.get?_push_of_some _ (Heap.get?_push_of_some _ (Heap.get?_push_of_some _ e))
  have hD : H.get? z = some (lst []) := hH ▸ Heap.get?_push_of_some _ (Heap.get?_push_of_some _ (hz ▸ Heap.get?_push_size _ rfl))
  have hC : H.Ns (z + 1) fun _ => none := by
    have e1 : ((s₂.heap.push { cls := .type "list", dict := none, data := .seq ([] : List Value).toArray }).push { cls := .type "dict", data := .dict #[] }).Ns (z + 1) fun _ => none := by
      have := Heap.Ns.new (s₂.heap.push { cls := .type "list", dict := none, data := .seq ([] : List Value).toArray }) (.type "dict")
      rw [Heap.size_push, hz] at this
      exact this
    obtain ⟨o, es, ep, ho, r⟩ := e1
    exact ⟨o, es, ep, hH ▸ Heap.get?_push_of_some _ ho, r⟩
  have hc : H.IsCell (z + 1 + 1) none := by
    refine ⟨{ cls := .type "cell", data := .cell none }, ?_, rfl⟩
    have := Heap.get?_push_size ((s₂.heap.push { cls := .type "list", dict := none, data := .seq ([] : List Value).toArray }).push { cls := .type "dict", data := .dict #[] }) (o := { cls := .type "cell", data := .cell none }) rfl
    rw [Heap.size_push, Heap.size_push, hz, hH] at this
    exact this
  have fresh₀ : ∀ a, z ≤ a → h₀.get? a = none := fun a ha => by
    cases e : h₀.get? a with
    | none => rfl
    | some o' => exact absurd (Heap.lt_size (F.keep a o' e)) (by rw [hz]; exact Nat.not_lt.mpr ha)
  have hLlt : L < z := hz ▸ F.ns.lt
  have nlt : ∀ p ∈ news, p.1 < z := fun p hp => hz ▸ Heap.lt_size (N p hp).1
  have ne1 : ∀ {a : Nat}, a < z → a ≠ z ∧ a ≠ z + 1 ∧ a ≠ z + 1 + 1 := fun h => ⟨by omega, by omega, by omega⟩
  have hI3 := ne1 hIlt
  have hL3 := ne1 hLlt
  have loop : ∀ tk0, codeAny (model prog w) A (.compLoop (.ListComp elt [⟨.Name x px, iter, ifs, 0⟩] scope pos) 0 (.ref I) (.ref z) (compEnvC scope ((x, z + 1 + 1) :: cl) (z + 1) env)) (RR (.ref z) (z + 1)) { s₂ with heap := H, toks := tk0 } := by
    intro tk0
    refine codeAny_compLoop_tests
      (fun k s' => ∃ h' tk i ys news', s' = { s₂ with heap := h', toks := tk } ∧ i ≤ n ∧ k = n + 1 - i ∧ ys.length ≤ i ∧ St i h' ∧ Fr h₀ L h' m ∧ h'.Ns (z + 1) (fun _ => none) ∧ (∃ v0, h'.IsCell (z + 1 + 1) v0) ∧ News h₀ L h' ((z, lst ys) :: news') ∧
        (∀ p ∈ news', @Ne Nat p.1 I ∧ @Ne Nat p.1 z ∧ @Ne Nat p.1 (z + 1) ∧ @Ne Nat p.1 (z + 1 + 1)) ∧ CcRest prog w A h₀ L m env ifs elt x scope cl s₂ P Fin (n - i) i ys news') ?_ (n + 1)
      ⟨H, tk0, 0, [], news, rfl, Nat.zero_le _, rfl, Nat.le_refl _, W.frame _ _ _ hst fun b _ o e => old b o e, F.keeps old, hC, ⟨_, hc⟩, fun p hp => ?_, fun p hp => ⟨off p hp, ne1 (nlt p hp)⟩, R⟩
    · rintro k s' ⟨h', tk, i, ys, news', rfl, hi, rfl, hyl, hst', F', hn', ⟨v0, hc'⟩, N', off', R'⟩
      have N'D := N' _ (.head _)
      by_cases hlt : i < n
      · obtain ⟨j, hj⟩ : ∃ j, n - i = j + 1 := ⟨n - i - 1, by omega⟩
        rw [hj] at R'
        refine W.item i _ _ _ hlt hst' fun v h₂ tk₂ hPv hst₂ hk₂ => ?_
        have kI : ∀ b o, b ≠ I → h'.get? b = some o → h₂.get? b = some o := fun b o hb e => hk₂ b o (fun q => hb (List.mem_singleton.mp q)) e
        have hc₂ : h₂.IsCell (z + 1 + 1) v0 := by obtain ⟨o, ho, hd⟩ := hc'; exact ⟨o, kI _ _ (Ne.symm hI3.2.2) ho, hd⟩
        refine wpAny_assign_Name (wpAny_storeName_cell (c := z + 1 + 1) hkind hx (by simp [compEnvC, List.lookup_cons]) hc₂ fun h₃ hv₃ hs₃ => ?_)
        have k3 : ∀ b o, b ≠ z + 1 + 1 → h₂.get? b = some o → h₃.get? b = some o := fun b o hb e => (hs₃.2 b hb).trans e
        have k23 : ∀ b o, b ≠ I → b ≠ z + 1 + 1 → h'.get? b = some o → h₃.get? b = some o := fun b o h1 h2 e => k3 b o h2 (kI b o h1 e)
        have hst₃ : St (i + 1) h₃ := W.frame _ _ _ hst₂ fun b hb o e => k3 b o (by rw [List.mem_singleton.mp hb]; exact hI3.2.2) e
        obtain ⟨oI, heI⟩ := hIo _ _ hst₃
        obtain ⟨oc, heC, hoc⟩ := hv₃
        have hn₃ : h₃.Ns (z + 1) fun _ => none := by
          obtain ⟨o, es, ep, ho, r⟩ := hn'
          exact ⟨o, es, ep, k23 _ _ (Ne.symm hI3.2.1) (show z + 1 ≠ z + 1 + 1 by omega) ho, r⟩
        obtain ⟨oC, heD, hoC⟩ := ns_obj hn₃
        have F₃ : Fr h₀ L h₃ m := ⟨F'.ns.at' fun o e => k23 _ o hIL hL3.2.2 e, fun b o e => k23 b o (fun q => by rw [q, hI₀] at e; cases e) (fun q => by rw [q, fresh₀ _ (by omega)] at e; cases e) (F'.keep b o e), F'.above⟩
        have N₃ : News h₀ L h₃ ([(I, oI), (z + 1, oC), (z + 1 + 1, oc), (z, lst ys)] ++ news') := fun p hp => by
          simp only [List.cons_append, List.nil_append, List.mem_cons] at hp
          rcases hp with rfl | rfl | rfl | rfl | hp
          · exact ⟨heI, Ne.symm hIL, hI₀⟩
          · exact ⟨heD, Ne.symm hL3.2.1, fresh₀ _ (Nat.le_succ _)⟩
          · exact ⟨heC, Ne.symm hL3.2.2, fresh₀ _ (by omega)⟩
          · exact ⟨k23 _ _ (Ne.symm hI3.1) (show z ≠ z + 1 + 1 by omega) N'D.1, N'D.2⟩
          · exact ⟨k23 _ _ (off' p hp).1 (off' p hp).2.2.2 (N' p (.tail _ hp)).1, (N' p (.tail _ hp)).2⟩
        have off3 : ∀ p ∈ news', ∀ q ∈ [(I, oI), (z + 1, oC), (z + 1 + 1, oc), (z, lst ys)], p.1 ≠ q.1 := fun p hp q hq => by
          simp only [List.mem_cons, List.not_mem_nil, or_false] at hq
          rcases hq with rfl | rfl | rfl | rfl
          · exact (off' p hp).1
          · exact (off' p hp).2.2.1
          · exact (off' p hp).2.2.2
          · exact (off' p hp).2.1
        have off4 : ∀ news₄ : List (Addr × Obj), (∀ p ∈ news₄, ∀ q ∈ [(I, oI), (z + 1, oC), (z + 1 + 1, oc), (z, lst ys)], p.1 ≠ q.1) → ∀ p ∈ news₄, @Ne Nat p.1 I ∧ @Ne Nat p.1 z ∧ @Ne Nat p.1 (z + 1) ∧ @Ne Nat p.1 (z + 1 + 1) := fun news₄ o4 p hp =>
          ⟨o4 p hp _ (.head _), o4 p hp _ (.tail _ (.tail _ (.tail _ (.head _)))), o4 p hp _ (.tail _ (.head _)), o4 p hp _ (.tail _ (.tail _ (.head _)))⟩
        refine wpAny_mono (R' v I oI (z + 1) oC (z + 1 + 1) oc z h₃ _ _ hPv hoc F₃ N₃ off3) (fun ok s₄ h₄ => ?_) fun _ _ e => e
        cases ok with
        | true =>
          simp only [if_true] at h₄ ⊢
          refine wpAny_mono h₄ (fun y s₅ h₅ => ?_) fun _ _ e => e
          obtain ⟨h₄, tk₄, news₄, rfl, F₄, N₄, off₄, R₄⟩ := h₅
          have zI := (N₄ (I, oI) (.head _)).1
          have zC := (N₄ (z + 1, oC) (.tail _ (.head _))).1
          have zc := (N₄ (z + 1 + 1, oc) (.tail _ (.tail _ (.head _)))).1
          have zD := (N₄ (z, lst ys) (.tail _ (.tail _ (.tail _ (.head _)))))
          have hst₄ : St (i + 1) h₄ := W.frame _ _ _ hst₃ fun b hb o e => by
            rw [List.mem_singleton.mp hb] at e ⊢
            rw [heI] at e
            rw [zI]; exact e
          refine append_at (hsz := by rw [List.size_toArray]; exact Nat.le_trans (Nat.le_trans hyl hi) (Nat.le_trans hsz (by decide))) zD.1 fun h₅ hs₅ hD₅ => ?_
          have o4 := off4 news₄ off₄
          have k5 : ∀ b o, b ≠ z → h₄.get? b = some o → h₅.get? b = some o := fun b o hb e => (hs₅.2 b hb).trans e
          refine ⟨n + 1 - (i + 1), by omega, h₅, tk₄, i + 1, ys ++ [y], news₄, rfl, hlt, rfl, by rw [List.length_append, List.length_singleton]; exact Nat.succ_le_succ hyl, W.frame _ _ _ hst₄ fun b hb o e => k5 b o (by rw [List.mem_singleton.mp hb]; exact hI3.1) e, F₄.change hs₅ zD.2.1 zD.2.2,
            ?_, ⟨_, oc, k5 _ _ (by omega) zc, hoc⟩, fun p hp => ?_, o4, ?_⟩
          · have := hoC.ns zC
            exact this.sameBut hs₅ (show z + 1 ≠ z by omega)
          · rcases List.mem_cons.mp hp with rfl | hp
            · exact ⟨hD₅.trans (congrArg some (lst_snoc ys y)), zD.2⟩
            · have q := N₄ p (List.mem_append_right [_, _, _, _] hp)
              exact ⟨k5 _ _ (o4 p hp).2.1 q.1, q.2⟩
          · rw [show n - (i + 1) = j by omega]
            exact R₄
        | false =>
          simp only [Bool.false_eq_true, if_false] at h₄ ⊢
          obtain ⟨h₄, tk₄, news₄, rfl, F₄, N₄, off₄, R₄⟩ := h₄
          have zI := (N₄ (I, oI) (.head _)).1
          have zC := (N₄ (z + 1, oC) (.tail _ (.head _))).1
          have zc := (N₄ (z + 1 + 1, oc) (.tail _ (.tail _ (.head _)))).1
          have hst₄ : St (i + 1) h₄ := W.frame _ _ _ hst₃ fun b hb o e => by
            rw [List.mem_singleton.mp hb] at e ⊢
            rw [heI] at e
            rw [zI]; exact e
          refine ⟨n + 1 - (i + 1), by omega, h₄, tk₄, i + 1, ys, news₄, rfl, hlt, rfl, Nat.le_succ_of_le hyl, hst₄, F₄, hoC.ns zC, ⟨_, oc, zc, hoc⟩, fun p hp => ?_, off4 news₄ off₄, ?_⟩
          · rcases List.mem_cons.mp hp with rfl | hp
            · exact N₄ _ (.tail _ (.tail _ (.tail _ (.head _))))
            · exact N₄ p (List.mem_append_right [_, _, _, _] hp)
          · rw [show n - (i + 1) = j by omega]
            exact R₄
      · obtain rfl : i = n := Nat.le_antisymm hi (Nat.not_lt.mp hlt)
        rw [Nat.sub_self] at R'
        refine W.done _ _ _ hst' fun h₂ tk₂ hk₂ => ?_
        have kI : ∀ b o, b ≠ I → h'.get? b = some o → h₂.get? b = some o := fun b o hb e => hk₂ b o (fun q => hb (List.mem_singleton.mp q)) e
        refine hRR z (z + 1) h₂ tk₂ (fun _ => none) ys news' ⟨F'.ns.at' fun o e => kI _ o hIL e, fun b o e => kI b o (fun q => by rw [q, hI₀] at e; cases e) (F'.keep b o e), F'.above⟩ (fun p hp => ?_) (fun p hp => (off' p hp).2.1)
          (by obtain ⟨o, es, ep, ho, r⟩ := hn'; exact ⟨o, es, ep, kI _ _ (Ne.symm hI3.2.1) ho, r⟩) (fresh₀ _ (Nat.le_succ _)) N'D.2.2 (Ne.symm hL3.2.1) N'D.2.1 (show z + 1 ≠ z by omega) (fun p hp => (off' p hp).2.2.1) R'
        rcases List.mem_cons.mp hp with rfl | hp
        · exact ⟨kI _ _ (Ne.symm hI3.1) N'D.1, N'D.2⟩
        · exact ⟨kI _ _ (off' p hp).1 (N' p (.tail _ hp)).1, (N' p (.tail _ hp)).2⟩
    · rcases List.mem_cons.mp hp with rfl | hp
      · exact ⟨hD, Ne.symm hL3.1, fresh₀ _ (Nat.le_refl _)⟩
      · exact ⟨old _ _ (N p hp).1, (N p hp).2⟩
  exact codeAny_compStart_list (loop _) (W.self 0 _ _ _ (W.frame _ _ _ hst fun b _ o e => old b o e) (loop _))
def CcFinE (h₀ : Heap) (L : Addr) (m : Str → Option Value) (s : Shared) (Q : Value → Shared → Prop) (ys : List Value) (news : List (Addr × Obj)) : Prop :=
  ∀ D h tk, Fr h₀ L h m → News h₀ L h ((D, lst ys) :: news) → (∀ p ∈ news, p.1 ≠ D) → Q (.ref D) { s with heap := h, toks := tk }
def CcFinA (h₀ : Heap) (L : Addr) (m : Str → Option Value) (s : Shared) (y : Str) (Q : Flow → Shared → Prop) (ys : List Value) (news : List (Addr × Obj)) : Prop :=
  ∀ D h tk, Fr h₀ L h (fun z => if z = y then some (.ref D) else m z) → News h₀ L h ((D, lst ys) :: news) → (∀ p ∈ news, p.1 ≠ D) → Q .next { s with heap := h, toks := tk }
/-- the signs of an ascii text -/
def CcSrcS (prog : Program) (w : World) (A : Around) (h₀ : Heap) (L : Addr) (m : Str → Option Value) (env : Env) (ifs : List Expr) (elt : Expr) (x : Str) (scope : Scope) (cl : List (Str × Addr)) (Fin : Shared → List Value → List (Addr × Obj) → Prop) (xv : Value) (s₁ : Shared) : Prop :=
  ∃ z t news, xv = .str z t ∧ z.cps.all (· < 128) = true ∧ z.cps.size ≤ 1000 ∧ A.handled = none ∧ Fr h₀ L s₁.heap m ∧ News h₀ L s₁.heap news ∧
    ∀ s₂ : Shared, (∃ h, s₂ = { s₁ with heap := h }) → CcRest prog w A h₀ L m env ifs elt x scope cl s₂ (SignAt z) (Fin s₂) z.cps.size 0 [] news
/-- a range -/
def CcSrcR (prog : Program) (w : World) (A : Around) (h₀ : Heap) (L : Addr) (m : Str → Option Value) (env : Env) (ifs : List Expr) (elt : Expr) (x : Str) (scope : Scope) (cl : List (Str × Addr)) (Fin : Shared → List Value → List (Addr × Obj) → Prop) (xv : Value) (s₁ : Shared) : Prop :=
  ∃ r a b t u v n news, xv = .ref r ∧ A.handled = none ∧ Fr h₀ L s₁.heap m ∧ News h₀ L s₁.heap news ∧ IsRange s₁.heap r a b 1 t u v ∧ Builtin.Range.small a b 1 = true ∧ Builtin.Range.rangeSize a b 1 = ((n : Nat) : Int) ∧ n ≤ 1000 ∧
    ∀ s₂ : Shared, (∃ h, s₂ = { s₁ with heap := h }) → CcRest prog w A h₀ L m env ifs elt x scope cl s₂ (fun i v => ∃ t, v = .int (a + (i : Int)) t) (Fin s₂) n 0 [] news
theorem Assign_cell_str {ifs : List Expr} {elt iter : Expr} {x y : Str} {px py : Pos} {scope : Scope} {cl : List (Str × Addr)} {pos spos : Pos} {Q : Flow → Shared → Prop} (F₀ : Fr h₀ L s.heap m) (hLe : env.locals = L)
    (hsw : swapsWith (.ListComp elt [⟨.Name x px, iter, ifs, 0⟩] scope pos) (some (.Name y py)) spos.line env = pure true)
    (hclos : closureFor scope env = pure cl) (hcl : ∀ k acc, cellsFrom k scope.names acc = (x, k) :: acc) (hpc : ∀ h, pushCells h scope.names = h.push { cls := .type "cell", data := .cell none }) (hkind : scope.kind = .function)
    (hnames : ∀ z ∈ scope.names, z.2 = .local → scope.names.lookup z.1 = some .local) (hx : (relabel scope env).names.lookup x = some .cell)
    (hy : env.kindOf y = some .local) (hp : (env.scope.kind == .class || (env.scope.kind == .module && env.locals != env.globals)) = false)
    (h : wpAny (model prog w) A (eval iter env) (CcSrcS prog w A h₀ L m env ifs elt x scope cl (fun s₂ => CcFinA h₀ L m s₂ y Q)) E s)
    (hs : ∀ x, foldedSetIterable iter env x = pure x := by intro _; rfl) :
    wpAny (model prog w) A (exec (.Assign [.Name y py] (.ListComp elt [⟨.Name x px, iter, ifs, 0⟩] scope pos) spos) env) Q E s := by
  subst hLe
  rw [exec_Assign_Name_used _ _ _ _ hsw]
  refine wpAny_bind (wpAny_standAt (wpAny_bind ?_))
  show wpAny _ A (do let _ ← comprehension (.ListComp elt [⟨.Name x px, iter, ifs, 0⟩] scope pos) scope env _ (newList []) false (eval iter env) (some (assign (.Name y py) env))) _ _ s
  refine wpAny_bind (wpAny_mono (wpAny_comprehension_free (use := some (assign (.Name y py) env)) (Q := fun _ s' => Q .next s') rfl hs hclos hkind hnames
    (wpAny_mono h (fun xv s₁ h₁ => ?_) fun _ _ e => e)) (fun _ s' hq => wpAny_pure (wpAny_pure hq)) fun _ _ e => e)
  obtain ⟨z, t, news, rfl, ha, hsz, hh, F, N, R⟩ := h₁
  refine wpAny_pyIter_ascii ha ?_
  refine block_cell (Walks.strAscii hh s₁.heap.objs.size z t) hsz (fun i h st => by obtain ⟨o, e, _⟩ := st; exact ⟨o, e⟩) hcl hpc hkind hx ⟨_, Heap.get?_push_size _ rfl, rfl, rfl⟩
    (F.push _) (fun p hp => ⟨Heap.get?_push_of_some _ (N p hp).1, (N p hp).2⟩) (Nat.ne_of_lt F.ns.lt) (next_is_new F) (fun p hp => Nat.ne_of_lt (Heap.lt_size (N p hp).1)) (R _ ⟨_, rfl⟩) ?_
  intro D C h' tk m' ys news' F' N' o1 hn hC₀ hD₀ hCL hDL hCD offC fin
  show wpAny _ A (assign (.Name y py) env (.ref D)) _ _ _
  refine wpAny_assign_Name (wpAny_storeName_local hy F'.ns (fun h₂ hn₂ hs₂ => ?_) hp)
  have hL₀ : h₀.get? env.locals = none := Heap.get?_none_of_le F'.above
  have F₂ : Fr h₀ env.locals h₂ (fun z => if z = y then some (.ref D) else m z) := ⟨hn₂, fun b o e => hs₂.extBut b o (fun q => by rw [q, hL₀] at e; cases e) (F'.keep b o e), F'.above⟩
  refine ⟨m', hn.sameBut hs₂ hCL, fun h'' hs'' => fin D h'' _ (F₂.change hs'' hCL hC₀) (fun p hp => ?_) o1⟩
  have z : h₂.get? p.1 = some p.2 := hs₂.extBut _ _ (N' p hp).2.1 (N' p hp).1
  refine ⟨hs''.extBut _ _ ?_ z, (N' p hp).2⟩
  rcases List.mem_cons.mp hp with rfl | hp
  · exact Ne.symm hCD
  · exact offC p hp
theorem eval_cell_range {ifs : List Expr} {elt iter : Expr} {x : Str} {px : Pos} {scope : Scope} {cl : List (Str × Addr)} {pos : Pos} {Q : Value → Shared → Prop} (F₀ : Fr h₀ L s.heap m)
    (hclos : closureFor scope env = pure cl) (hcl : ∀ k acc, cellsFrom k scope.names acc = (x, k) :: acc) (hpc : ∀ h, pushCells h scope.names = h.push { cls := .type "cell", data := .cell none }) (hkind : scope.kind = .function)
    (hnames : ∀ z ∈ scope.names, z.2 = .local → scope.names.lookup z.1 = some .local) (hx : (relabel scope env).names.lookup x = some .cell)
    (h : wpAny (model prog w) A (eval iter env) (CcSrcR prog w A h₀ L m env ifs elt x scope cl (fun s₂ => CcFinE h₀ L m s₂ Q)) E s)
    (hs : ∀ x, foldedSetIterable iter env x = pure x := by intro _; rfl) :
    wpAny (model prog w) A (eval (.ListComp elt [⟨.Name x px, iter, ifs, 0⟩] scope pos) env) Q E s := by
  rw [eval_ListComp]
  refine wpAny_comprehension_free (use := none) rfl hs hclos hkind hnames (wpAny_mono h (fun xv s₁ h₁ => ?_) fun _ _ e => e)
  obtain ⟨r, a, b, t, u, v, n, news, rfl, hh, F, N, hr, hsm, hn, hsz, R⟩ := h₁
  refine wpAny_pyIter_range hr hsm ?_
  refine block_cell (range_walks hh a n) hsz (fun i h st => ⟨_, st⟩) hcl hpc hkind hx (by show IsRangeIter _ _ _ _ _; rw [hn]; simpa using Heap.get?_push_size _ rfl)
    (F.push _) (fun p hp => ⟨Heap.get?_push_of_some _ (N p hp).1, (N p hp).2⟩) (Nat.ne_of_lt F.ns.lt) (next_is_new F) (fun p hp => Nat.ne_of_lt (Heap.lt_size (N p hp).1)) (R _ ⟨_, rfl⟩) ?_
  intro D C h tk m' ys news' F' N' o1 hn hC₀ hD₀ hCL hDL hCD offC fin
  refine ⟨m', hn, fun h'' hs'' => fin D h'' tk (F'.change hs'' hCL hC₀) (fun p hp => ?_) o1⟩
  refine ⟨hs''.extBut _ _ ?_ (N' p hp).1, (N' p hp).2⟩
  rcases List.mem_cons.mp hp with rfl | hp
  · exact Ne.symm hCD
  · exact offC p hp
end

theorem offSD : True := by
  w_top off
  trivial
structure KnZ where
  a : Addr
  vs : List Value
  n : Nat
  ns : List Nat
def KnZ.obj (z : KnZ) : Addr × Obj := (z.a, lstObj z.vs z.n)
def KnZ.ok (z : KnZ) : Prop := IntsAre z.vs (z.ns.map fun x => ((x : Nat) : Int))
structure StZ where
  kn : KnZ
  SE : Addr
  sz : List KnZ
  eS : Nat
  NA : Addr
  vN : List Value
  eN : Nat
  TX : Addr
  vT : List Value
  eT : Nat
def stLed (Z : StZ) : List (Addr × Obj) := Z.kn.obj :: (Z.SE, lstObj (Z.sz.map fun z => .ref z.a) Z.eS) :: (Z.NA, lstObj Z.vN Z.eN) :: (Z.TX, lstObj Z.vT Z.eT) :: Z.sz.map KnZ.obj
structure StOk (Z : StZ) (nmf : Nat → Nat) (snf : Nat → List Nat) (ab : Nat → Ab) (M : Nat) : Prop where
  kn : Z.kn.ok
  ls : Z.kn.ns.length ≤ 10
  lt : ∀ e ∈ Z.kn.ns, e < M
  m10 : M ≤ 10
  se : ∀ e, e < M → ∃ z, Z.sz[e]? = some z ∧ z.ok ∧ z.ns = snf e ∧ z.ns.length ≤ 10
  na : ∀ e, e < M → ∃ t, Z.vN[e]? = some (.str (nmS (nmf e)) t)
  nm2 : ∀ e, nmf e < 2
  tx : ∀ e, e < M → ∃ t, Z.vT[e]? = some (.str (txt (ab e).2.1 (ab e).2.2.1 (ab e).2.2.2) t)
  ab : ∀ e, (ab e).1 = nmf e
theorem ints_nil {vr : List Value} (h : IntsAre vr []) : vr = [] := by cases h; rfl
theorem ints_cons {vr : List Value} {x : Int} {l : List Int} (h : IntsAre vr (x :: l)) : ∃ t vr', vr = .int x t :: vr' ∧ IntsAre vr' l := by cases h with | cons _ t h => exact ⟨t, _, rfl, h⟩
theorem ints_rows : ∀ {ns : List Nat} {vs : List Value}, IntsAre vs (ns.map fun x => ((x : Nat) : Int)) → ∃ rows : List (Nat × Tok), rows.map (fun r => r.1) = ns ∧ rows.map (fun r => Value.int ((r.1 : Nat) : Int) r.2) = vs
  | [], vs, h => ⟨[], rfl, (ints_nil h).symm⟩
  | n :: ns, vs, h => by
    obtain ⟨t, vr, rfl, h'⟩ := ints_cons h
    obtain ⟨rows, e1, e2⟩ := ints_rows h'
    exact ⟨(n, t) :: rows, by simp [e1], by simp [e2]⟩
theorem rows_ints : ∀ (rows : List (Nat × Tok)), IntsAre (rows.map (fun r => Value.int ((r.1 : Nat) : Int) r.2)) ((rows.map fun r => r.1).map fun x => ((x : Nat) : Int))
  | [] => .nil
  | r :: rows => .cons _ _ (rows_ints rows)
abbrev ledOf {h₀ h : Heap} {L : Addr} {news : List (Addr × Obj)} (_ : News h₀ L h news) : List (Addr × Obj) := news
abbrev cellRef {o : Obj} {a : Addr} (_ : o.data = Data.cell (some (Value.ref a))) : Addr := a
def laterF (nmf : Nat → Nat) (snf : Nat → List Nat) (known : List Nat) (e : Nat) : List Nat := known.filter fun f => (f != e && nmf f == nmf e) && (snf f).contains e
def standF (nmf : Nat → Nat) (snf : Nat → List Nat) (known : List Nat) : List Nat := known.filter fun e => laterF nmf snf known e == []
section
variable {prog : Program} {w : World} {p : Program} {loose : List Str} {mean : ExcName → Option Value} {mg mb : Str → Option Value}
theorem kn_any : ∀ {ns : List Nat} {vs : List Value}, IntsAre vs (ns.map fun x => ((x : Nat) : Int)) → ∀ e : Nat, kf_ints vs = true ∧ vs.any (PyProof.Rows.isInt (e : Int)) = ns.contains e
  | [], vs, h, e => by rw [ints_nil h]; exact ⟨rfl, rfl⟩
  | n :: ns, vs, h, e => by
    obtain ⟨t, vr, rfl, h'⟩ := ints_cons h
    obtain ⟨h1, h2⟩ := kn_any h' e
    refine ⟨by simpa [kf_ints] using h1, ?_⟩
    rw [List.any_cons, h2, List.contains_cons]
    congr 1
    show ((n : Int) == (e : Int)) = (e == n)
    by_cases q : n = e
    · subst q; rw [beq_self_eq_true, beq_self_eq_true]
    · rw [beq_eq_false_iff_ne.mpr (show (n : Int) ≠ (e : Int) by omega), beq_eq_false_iff_ne.mpr (fun z => q z.symm)]
theorem kn_in {A : Around} {E : Value → Shared → Prop} {s : Shared} {h₀ : Heap} {L : Addr} {news : List (Addr × Obj)} {z : KnZ} {e : Nat} {t : Tok} {Q : Value → Shared → Prop} (N : News h₀ L s.heap news) (hok : z.ok) (hm : z.obj ∈ news) (h : Q (.bool (z.ns.contains e)) s) :
    wpAny (model prog w) A (compareOp .In (.int (e : Int) t) (.ref z.a)) Q E s := by
  obtain ⟨h1, h2⟩ := kn_any hok e
  exact kf_in (its := z.vs.toArray) (n := z.n) N hm (by simpa using h1) (by simpa using h2) h
theorem filter_snoc {α : Type} (p : α → Bool) (l : List α) (x : α) : (l ++ [x]).filter p = if p x = true then l.filter p ++ [x] else l.filter p := by
  rw [List.filter_append]
  cases hp : p x <;> simp [hp]
theorem strs_of {α : Type} (f : α → Value) (g : α → Str) : ∀ (rows : List α), (∀ r ∈ rows, ∃ t, f r = .str (g r) t) → StrsAre (rows.map f) (rows.map g)
  | [], _ => .nil
  | r :: rows, h => by
    obtain ⟨t, e⟩ := h r (.head _)
    rw [List.map_cons, List.map_cons, e]
    exact .cons _ _ (strs_of f g rows fun q hq => h q (.tail _ hq))
structure SZ where
  a : Addr
  vs : List Value
  e : Nat
  ss : List Str
def SZ.obj (z : SZ) : Addr × Obj := (z.a, lstObj z.vs z.e)
structure SSs (l : List Ab) (led : List (Addr × Obj)) where
  S : List SZ
  off : ∀ z ∈ S, ∀ p ∈ led, p.1 < z.a
  h : ∀ (j : Nat) (z : SZ), S[j]? = some z → StrsAre z.vs z.ss ∧ z.ss.Perm (textsA l j) ∧ sortedS z.ss = true
structure SStd (nmf : Nat → Nat) (snf : Nat → List Nat) (known : List Nat) where
  fin : List Nat
  rest : List Nat
  h : fin ++ rest = known
  vr : List Value
  hv : IntsAre vr (rest.map fun x => ((x : Nat) : Int))
  vals : List Value
  hs : IntsAre vals ((fin.filter fun e => laterF nmf snf known e == []).map fun x => ((x : Nat) : Int))
  n : Nat
  oE : Obj
  vE : Option Value
  hE : oE.data = .cell vE
  v1 : Option Value
local macro_rules | `(tactic| walk_at "my off") => `(tactic| first | with_reducible assumption | (refine List.forall_mem_cons.mpr ⟨by k_ne, ?_⟩; walk_at "my off"))
local macro_rules | `(tactic| k_updF) => `(tactic| first | (refine' UpdF.head ?a; (case a => walk_at "my off")) | (refine' UpdF.tail ?a ?b; (case a => k_ne); (case b => k_updF)))
local macro_rules | `(tactic| walk_at "exec For Name Name cons nil") => `(tactic| (k_here; k_dflt ((rename Fr _ _ _ _ => lF'); (with_unfolding_all refine' For_turns lF' ?_; k_whole))))
local macro_rules | `(tactic| walk_at "exec Assign cons ListComp") => `(tactic| (k_here; refine Stop.of ?_))
local macro_rules | `(tactic| walk_at "compareOp Eq ref ref") => `(tactic| (k_here; refine Stop.of ?_))
local macro_rules | `(tactic| walk_at "compareOp In int ref") => `(tactic| (k_here; refine Stop.of ?_))
local macro_rules | `(tactic| walk_at "eval ListComp") => `(tactic| (k_here; refine Stop.of ?_))
local macro_rules | `(tactic| walk_at "call builtin:sorted") => `(tactic| (k_here; refine Stop.of ?_))
local macro_rules | `(tactic| walk_at "binaryOp Add ref ref") => `(tactic| (k_here; refine Stop.of ?_))
local macro_rules | `(tactic| walk_at "CcEnd") => `(tactic| (refine Stop.of ?_))
local macro_rules | `(tactic| walk_at "CompEnd") => `(tactic| (refine Stop.of ?_))
local macro_rules | `(tactic| walk_at "CompSrcT") => `(tactic| (refine Stop.of ?_))
local macro_rules | `(tactic| walk_at "subscriptTail") => `(tactic| (k_here; (with_reducible show wpAny _ _ (subscriptTail _ _ (Value.ref _) _) _ _ _); refine Stop.of ?_))
set_option maxHeartbeats 8000000 in
theorem c_standing {Z : StZ} {nmf : Nat → Nat} {snf : Nat → List Nat} {ab : Nat → Ab} {M : Nat} (O : StOk Z nmf snf ab M) : ConL prog w p loose mean mg mb 399 [.ref Z.kn.a, .ref Z.SE, .ref Z.NA, .ref Z.TX] 40 (fun _ => True) (stLed Z) []
    (fun s h' r => ∃ z : ShowZ, r = .ref z.D ∧ NewIn s h' (showLed z) ∧ Shows z ((standF nmf snf Z.kn.ns).map ab)) := by
  intro dp un gd cn cs a ccd cl outer A₀ base h₀ L m s Q E B F X T' hk hdp hun _ N hret
  refine wpAny_call ?_
  have N0 := N
  obtain ⟨rk, hr1, hr2⟩ := ints_rows O.kn
  k_dflt (walk_at "my enterC")
  intro g L1 h1 tk1 cells1 FG F1 N1 Y1 B1 X1 T1 hG hG' hl1
  have hc4 : ∀ p ∈ stLed Z, p.1 ≠ L1 + 1 + 1 + 1 + 1 := fun p hp => Nat.ne_of_lt (Nat.lt_succ_of_lt (Nat.lt_succ_of_lt (Nat.lt_succ_of_lt (Nat.lt_succ_of_lt (hl1 p hp)))))
  have hc5 : ∀ p ∈ stLed Z, p.1 ≠ L1 + 1 + 1 + 1 + 1 + 1 := fun p hp => Nat.ne_of_lt (Nat.lt_succ_of_lt (Nat.lt_succ_of_lt (Nat.lt_succ_of_lt (Nat.lt_succ_of_lt (Nat.lt_succ_of_lt (hl1 p hp))))))
  have hld : ∀ p ∈ stLed Z, p.1 < L1 := hl1
  (try k_lt hl1); k_cells Y1; (try simp only [List.cons_append, List.nil_append] at N1)
  rename_i oE oSt oTx oNa oSe d1 d2 d3 d4 d5
  have dE : oE.data = .cell none := d1
  have dSt : oSt.data = .cell none := d2
  have dTx : oTx.data = .cell (some (.ref Z.TX)) := d3
  have dNa : oNa.data = .cell (some (.ref Z.NA)) := d4
  have dSe : oSe.data = .cell (some (.ref Z.SE)) := d5
  clear d1 d2 d3 d4 d5
  (try dsimp only); (try k_lift B1); (try k_fold)
  k_steps
  rename Fr g _ _ _ => F3
  rename News g _ _ _ => N3
  rename (_ < _) ∧ _ => lD
  rename (Obj.data _ = Data.cell (some (Value.ref _))) => dS2
  clear dSt
  obtain ⟨D, eD⟩ : ∃ D, D = cellRef dS2 := ⟨_, rfl⟩
  dsimp only [cellRef] at eD
  subst eD
  refine iter_listTurns (by rfl) F3 N3 (List.mem_append_right [_, _, _, _, _, _] (.head _)) rfl rfl ?_
  intro I l2
  have lI := l2
  k_lt lI
  have lI1 : @LT.lt Nat _ L1 I ∧ @LT.lt Nat _ L1 D := by omega
  have offI : ∀ (oD oE o4 : Obj), ∀ p ∈ (D, oD) :: (L1 + 1 + 1 + 1 + 1 + 1, oE) :: (L1 + 1 + 1 + 1 + 1, o4) :: (L1 + 1 + 1 + 1, oTx) :: (L1 + 1 + 1, oNa) :: (L1 + 1, oSe) :: stLed Z, ∀ oI : Obj, ∀ q ∈ [(I, oI)], p.1 ≠ q.1 := by
    intro oD oE o4 p hp oI q hq
    rw [List.mem_singleton.mp hq]
    simp only [List.mem_cons] at hp
    rcases hp with rfl | rfl | rfl | rfl | rfl | rfl | hp
    · k_ne
    · k_ne
    · k_ne
    · k_ne
    · k_ne
    · k_ne
    · exact Nat.ne_of_lt (Nat.lt_trans (hld p hp) lI1.1)
  have offD : ∀ (oI oE o4 : Obj), ∀ p ∈ (I, oI) :: (L1 + 1 + 1 + 1 + 1 + 1, oE) :: (L1 + 1 + 1 + 1 + 1, o4) :: (L1 + 1 + 1 + 1, oTx) :: (L1 + 1 + 1, oNa) :: (L1 + 1, oSe) :: stLed Z, p.1 ≠ D := by
    intro oI oE o4 p hp
    simp only [List.mem_cons] at hp
    rcases hp with rfl | rfl | rfl | rfl | rfl | rfl | hp
    · k_ne
    · k_ne
    · k_ne
    · k_ne
    · k_ne
    · k_ne
    · exact Nat.ne_of_lt (Nat.lt_trans (hld p hp) lI1.2)
  refine rest_at (σ := SStd nmf snf Z.kn.ns) (fun st => st.rest.length) (fun st => st.vr.map .val)
    (fun m₀ st z => if z = "later" then st.v1 else m₀ z)
    (fun n₀ st => (D, W.listOf st.vals.toArray st.n) :: (L1 + 1 + 1 + 1 + 1 + 1, st.oE) :: n₀.tail.tail)
    ⟨[], Z.kn.ns, rfl, Z.kn.vs, O.kn, [], .nil, 0, oE, none, dE, none⟩ rfl ?_ rfl ?_
  · refine names_ext ["later"] (by walk_at "my names") (by walk_at "my rest")
  · clear F3 N3
    intro st IH
    obtain ⟨fin, rest, e1, vr, hv, vals, hs, n, oE', vE, hE, v1⟩ := st
    dsimp only
    cases rest with
    | nil =>
      have hvr := ints_nil hv
      subst hvr
      clear IH hv
      dsimp only [List.map, List.tail]
      with_unfolding_all refine ItemsRest.zero (fun h' tk' F' N' => ?_)
      have hfin : fin = Z.kn.ns := by rw [← e1]; simp
      subst hfin
      obtain ⟨rs, hs1, hs2⟩ := ints_rows hs
      k_steps
      unfold Stop
      rename Fr g _ _ _ => F8
      rename News g _ _ _ => N8
      refine Assign_cell_str (F₀ := F8) (by rfl) (by with_unfolding_all rfl) (by with_unfolding_all rfl) (fun _ _ => rfl) (fun _ => rfl) (by rfl) (by decide) (by rfl) (by rfl) (by rfl) ?_
      k_steps
      rename Fr g _ _ _ => F9
      rename News g _ _ _ => N9
      refine ⟨_, _, _, rfl, by decide +kernel, by decide +kernel, by rfl, F9, news_sub N9 (n' := _ :: _ :: _ :: _ :: _ :: _ :: (stLed Z ++ ([] : List SZ).map SZ.obj)) (fun q hq => by simpa using hq), fun s₂ ⟨g', e'⟩ => ?_⟩
      subst e'
      refine cc_ind 2 (σ := SSs ((standF nmf snf Z.kn.ns).map ab) (stLed Z)) (fun st => st.S.length) (fun st => st.S.map fun z => .ref z.a) (fun st => _ :: _ :: _ :: _ :: _ :: _ :: (stLed Z ++ st.S.map SZ.obj)) ?_ ?_ ⟨[], fun _ h => (nomatch h), fun j z h => by simp at h⟩ rfl
      · intro st hst
        refine CcRest.zero ?_
        obtain ⟨S, hSo, hS⟩ := st
        dsimp only at hst
        match S, hst, hSo, hS with
        | [z0, z1], _, hSo, hS =>
          intro D9 h9 tk9 F9 N9 off9
          simp only [List.map_cons, List.map_nil] at N9 off9
          have hvl : vals.length = (standF nmf snf Z.kn.ns).length := by
            have z1 := hs.length
            rw [List.length_map] at z1
            exact z1
          have hv10 : vals.length ≤ 10 := by rw [hvl]; exact Nat.le_trans (List.length_filter_le _ _) O.ls
          k_steps
          rename News g _ _ _ => N10
          refine call_len_list (items := vals.toArray) (News.isList N10 (.tail _ (.head _))) (by rw [List.size_toArray]; omega) ?_
          k_steps
          unfold Stop
          rename Fr g _ _ _ => F10
          rename News g _ _ _ => N10
          refine kmk_add_lit F10 N10 (News.isList N10 (.tail _ (.head _))) (News.isList N10 (.head _)) rfl ?_ (show 3 ≤ sizeLine by decide)
          intro D11 h11 F11 N11 l11
          k_steps
          rename Fr g _ _ _ => F12
          rename News g _ _ _ => N12
          have mS : ∀ q ∈ stLed Z, q ∈ ledOf N12 := fun q hq => List.mem_append_right [_, _, _, _, _, _, _, _, _] (List.mem_append_left _ hq)
          have m0 : z0.obj ∈ ledOf N12 := List.mem_append_right [_, _, _, _, _, _, _, _, _] (List.mem_append_right (stLed Z) (.head _))
          have m1 : z1.obj ∈ ledOf N12 := List.mem_append_right [_, _, _, _, _, _, _, _, _] (List.mem_append_right (stLed Z) (.tail _ (.head _)))
          have oS : ∀ a, (∀ p ∈ stLed Z, p.1 < a) → a ∉ (stLed Z).map (·.1) := fun a h hm => by
            obtain ⟨p, hp, rfl⟩ := List.mem_map.mp hm
            exact Nat.lt_irrefl _ (h p hp)
          obtain ⟨a1, a2, a3⟩ := hS 0 z0 rfl
          obtain ⟨b1, b2, b3⟩ := hS 1 z1 rfl
          refine hret _ _ _ (by assumption) (kept_led hG F12 N12 N0 fun q hq => .inr (mS q hq)) ⟨⟨D11, z0.a, z1.a, z0.vs, z1.vs, z0.ss, z1.ss, 0, z0.e, z1.e, vals.toArray.size, _⟩, rfl, List.forall_mem_cons.mpr ⟨⟨fresh_led hG N12 (.head _) (oS _ fun p hp => l11 p (List.mem_append_right [_, _, _, _, _, _, _, _] (List.mem_append_left _ hp))), N12.get (.head _)⟩, List.forall_mem_cons.mpr ⟨⟨fresh_led hG N12 m0 (oS _ (hSo z0 (.head _))), N12.get m0⟩, List.forall_mem_cons.mpr ⟨⟨fresh_led hG N12 m1 (oS _ (hSo z1 (.tail _ (.head _)))), N12.get m1⟩, List.forall_mem_nil _⟩⟩⟩, a1, b1, a2, b2, a3, b3, ?_⟩
          show vals.toArray.size = _
          rw [List.size_toArray, hvl, List.length_map]
      · intro st k hst IHc
        obtain ⟨S, hSo, hS⟩ := st
        dsimp only at hst IHc
        refine CcRest.succ ?_
        intro v I5 oI5 C5 oC5 c5 oc5 D5 h5 tk5 E5 hP5 hoc5 F5 N5 off5
        refine wpAny_tests_nil ?_
        simp only [if_true]
        simp only [List.cons_append, List.nil_append] at N5
        k_steps
        unfold Stop
        rename Fr g _ _ _ => F6
        rename News g _ _ _ => N6
        refine PyProof.Rows.LCt.ListComp_T (F₀ := F6) (by with_unfolding_all rfl) (by decide) (by rfl) (by decide) (by rfl) ?_
        k_steps
        unfold Stop
        rename Fr g _ _ _ => F7
        rename News g _ _ _ => N7
        have hi : S.length < 2 := by omega
        have hrl : rs.length ≤ 10 := by
          rw [← List.length_map (f := fun r : Nat × Tok => r.1), hs1]
          exact Nat.le_trans (List.length_filter_le _ _) O.ls
        have hrm : ∀ r ∈ rs, r.1 ∈ Z.kn.ns := fun r hr => by
          have : r.1 ∈ rs.map (fun r => r.1) := List.mem_map_of_mem hr
          rw [hs1] at this
          exact (List.mem_filter.mp this).1
        obtain ⟨ch, u5, hch, hv5⟩ := hP5
        have hv6 : v = .str (nmS S.length) u5 := by
          rw [hv5]
          have : ∀ i, i < 2 → ∀ c, (Str.ofString "km").cps[i]? = some c → (⟨#[c]⟩ : Str) = nmS i := by decide +kernel
          rw [this _ hi ch hch]
        subst hv6
        clear hv5
        refine PyProof.Rows.LCt.CompSrcT.ledger (by rfl) F7 N7 (List.mem_append_right [_, _, _, _] (.head _)) (by rw [← hs2, List.size_toArray, List.length_map]; exact Nat.le_trans hrl (by decide)) ?_
        intro g'
        refine compT_ind rs (fun r => nmf r.1 == S.length) (fun r => (Z.vT[r.1]?).getD .none) (by rw [← hs2]; simp) ?_ ?_
        · refine PyProof.Rows.LCt.CompRestT.zero ?_
          k_steps
          unfold Stop
          rename Fr g _ _ _ => F8
          rename News g _ _ _ => N8
          have hST : StrsAre ((rs.filter fun r => nmf r.1 == S.length).map fun r => (Z.vT[r.1]?).getD .none) ((rs.filter fun r => nmf r.1 == S.length).map fun r => txt (ab r.1).2.1 (ab r.1).2.2.1 (ab r.1).2.2.2) := strs_of _ _ _ fun r hr => by
            obtain ⟨t, e⟩ := O.tx r.1 (O.lt _ (hrm r (List.mem_filter.mp hr).1))
            exact ⟨t, by rw [e]; rfl⟩
          have hSe : ((rs.filter fun r => nmf r.1 == S.length).map fun r => txt (ab r.1).2.1 (ab r.1).2.2.1 (ab r.1).2.2.2) = textsA ((standF nmf snf Z.kn.ns).map ab) S.length := by
            unfold textsA standF
            rw [← hs1, List.filter_map, List.filter_map, List.map_map, List.map_map]
            have : (fun r : Nat × Tok => nmf r.1 == S.length) = (((fun a : Ab => a.1 == S.length) ∘ ab) ∘ fun r : Nat × Tok => r.1) := funext fun r => by simp only [Function.comp, O.ab]
            rw [this]
            rfl
          rw [hSe] at hST
          refine sorted_T F8 N8 (.head _) rfl rfl hST (by rw [List.length_map]; exact Nat.lt_of_le_of_lt (Nat.le_trans (List.length_filter_le _ _) hrl) (by decide)) ?_
          intro D8 h8 vs8 ss8 e8 F9 N9 hs8 hp8 ho8 l8
          k_steps
          unfold Stop
          rename Fr g _ _ _ => F10
          rename News g _ _ _ => N10
          have IH8 := IHc ⟨S ++ [⟨D8, vs8, e8, ss8⟩], fun z hz => (List.mem_append.mp hz).elim (hSo z) fun q => by rw [List.mem_singleton.mp q]; exact fun p hp => l8 p (List.mem_append_right [_, _, _, _, _, _, _, _, _, _, _] (List.mem_append_left _ hp)), fun j z hz => by
            rcases Nat.lt_or_ge j S.length with hj | hj
            · rw [List.getElem?_append_left hj] at hz
              exact hS j z hz
            · rw [List.getElem?_append_right hj] at hz
              have hj0 : j - S.length = 0 := by
                cases hq : j - S.length with
                | zero => rfl
                | succ q => rw [hq] at hz; simp at hz
              rw [hj0] at hz
              have hz' := Option.some.inj hz
              subst hz'
              have hj1 : j = S.length := by omega
              rw [hj1]
              exact ⟨hs8, hp8, ho8⟩⟩ (by simp)
          have em : (S ++ [(⟨D8, vs8, e8, ss8⟩ : SZ)]).map (fun z : SZ => Value.ref z.a) = S.map (fun z => Value.ref z.a) ++ [.ref D8] := by simp
          dsimp only at IH8
          rw [em] at IH8
          refine CcEnd.intro F10 N10 _ ?sub ?off IH8
          case sub =>
            intro p hp
            simp only [List.cons_append, List.nil_append, List.mem_cons, List.mem_append, List.map_append, List.map_cons, List.map_nil, List.not_mem_nil, or_false, SZ.obj] at hp ⊢
            rcases hp with h | h | h | h | h | h | h | h | h | h | h | h | h <;> simp [h]
          case off =>
            intro p hp
            by_cases hq : p = (D8, lstObj vs8 e8)
            · subst hq
              intro q hq
              have lt : ∀ q ∈ [(I5, oI5), (C5, oC5), (c5, oc5), (D5, _)], q.1 < D8 := List.forall_mem_cons.mpr ⟨l8 _ (.tail _ (.head _)), List.forall_mem_cons.mpr ⟨l8 _ (.tail _ (.tail _ (.head _))), List.forall_mem_cons.mpr ⟨l8 _ (.tail _ (.tail _ (.tail _ (.head _)))), List.forall_mem_cons.mpr ⟨l8 _ (.tail _ (.tail _ (.tail _ (.tail _ (.head _))))), List.forall_mem_nil _⟩⟩⟩⟩
              exact Nat.ne_of_gt (lt q hq)
            · refine off5 p ?_
              simp only [List.cons_append, List.nil_append, List.mem_cons, List.mem_append, List.map_append, List.map_cons, List.map_nil, List.not_mem_nil, or_false, SZ.obj] at hp ⊢
              rcases hp with h | h | h | h | h | h | h | h | h
              · simp [h]
              · simp [h]
              · simp [h]
              · simp [h]
              · simp [h]
              · simp [h]
              · simp [h]
              · simp [h]
              · exact absurd h hq
        · intro done r rest' e5 IH5
          refine PyProof.Rows.LCt.CompRestT.succ ?_
          intro v I6 oI6 C6 oC6 D6 m6 h6 tk6 E6 hv6 hC6 hx6 F6 N6 off6 ne6
          have hv7 : v = Value.int ((r.1 : Nat) : Int) r.2 := by
            rw [← hs2, e5] at hv6; simp at hv6; exact hv6.symm
          subst hv7
          have ec := filter_snoc (fun r : Nat × Tok => nmf r.1 == S.length) done r
          have hfm : r.1 ∈ Z.kn.ns := hrm r (by rw [e5]; simp)
          obtain ⟨tn1, hn1⟩ := O.na r.1 (O.lt _ hfm)
          obtain ⟨tx1, hx1⟩ := O.tx r.1 (O.lt _ hfm)
          have hM := O.m10
          have hf60 : r.1 < 2 ^ 60 := Nat.lt_of_lt_of_le (O.lt _ hfm) (Nat.le_trans hM (by decide))
          k_steps
          unfold Stop
          rename News g _ _ _ => N9
          refine sub_item (N9 _ (List.mem_append_right [_, _, _, _, _, _, _, _, _, _, _, _, _] (List.mem_append_left _ (.tail _ (.tail _ (.head _)))))).1 rfl rfl rfl hn1 hf60 ?_ rfl (fun _ => rfl)
          have nq := nm_eq (nmf r.1) S.length
          rw [Nat.mod_eq_of_lt (O.nm2 _), Nat.mod_eq_of_lt hi] at nq
          k_steps
          · unfold Stop
            rename News g _ _ _ => N9
            rename (_ == _) = true => hnn
            have hn' : (nmf r.1 == S.length) = true := by simpa using nq.mp (by simpa using hnn)
            rw [ec, if_pos hn', List.map_append] at IH5
            refine sub_item (N9 _ (List.mem_append_right [_, _, _, _, _, _, _, _, _, _, _, _, _] (List.mem_append_left _ (.tail _ (.tail _ (.tail _ (.head _))))))).1 rfl rfl rfl hx1 hf60 ?_ rfl (fun _ => rfl)
            k_steps
            unfold Stop
            rename Fr g _ _ _ => F9
            rename News g _ _ _ => N9
            refine PyProof.Rows.LCg.CompEnd.intro F9 N9 _ (fun p hp => hp) off6 (.inr ⟨_, List.mem_append_right [_, _, _, _] (.head _), rfl, _, rfl⟩) ?_
            rw [List.map_singleton, hx1] at IH5
            exact IH5
          · unfold Stop
            rename Fr g _ _ _ => F9
            rename News g _ _ _ => N9
            rename (_ == _) = false => hnn
            have hn' : (nmf r.1 == S.length) = false := by simpa using fun q => (by simpa using hnn : ¬ nmS (nmf r.1) = nmS S.length) (nq.mpr q)
            rw [ec, if_neg (by rw [hn']; simp)] at IH5
            exact PyProof.Rows.LCg.CompEnd.intro F9 N9 _ (fun p hp => hp) off6 (.inr ⟨_, List.mem_append_right [_, _, _, _] (.head _), rfl, _, rfl⟩) IH5
    | cons e rest =>
      obtain ⟨te, vr, rfl, hv2⟩ := ints_cons hv
      dsimp only [List.map, List.tail]
      with_unfolding_all refine ItemsRest.val (fun h' tk' F' => ?_)
      ktu_objs
      k_steps
      unfold Stop
      rename Fr g _ _ _ => F8
      rename News g _ _ _ => N8
      rename (Obj.data _ = Data.cell (some (Value.int _ _))) => dE2
      refine PyProof.Rows.LCt.Assign_ListComp_T (F₀ := F8) (by rfl) (by with_unfolding_all rfl) (by with_unfolding_all rfl) (by decide) (by rfl) (by decide) (by rfl) (by rfl) (by rfl) ?_
      k_steps
      unfold Stop
      rename Fr g _ _ _ => F9
      rename News g _ _ _ => N9
      have hrl : rk.length ≤ 10 := by rw [← List.length_map (f := fun r : Nat × Tok => r.1), hr1]; exact O.ls
      have hem : e ∈ Z.kn.ns := by rw [← e1]; simp
      refine PyProof.Rows.LCt.CompSrcT.ledger (by rfl) F9 N9 (List.mem_append_right [_, _, _, _, _, _, _] (.head _)) (by rw [← hr2, List.size_toArray, List.length_map]; exact Nat.le_trans hrl (by decide)) ?_
      intro g'
      refine compT_ind rk (fun r => (r.1 != e && nmf r.1 == nmf e) && (snf r.1).contains e) (fun r => Value.int ((r.1 : Nat) : Int) r.2) (by rw [← hr2]; simp) ?_ ?_
      · refine PyProof.Rows.LCt.CompRestT.zero ?_
        k_steps
        unfold Stop
        rename Fr g _ _ _ => F9
        rename News g _ _ _ => N9
        have hI := rows_ints (rk.filter fun r => (r.1 != e && nmf r.1 == nmf e) && (snf r.1).contains e)
        have hIe : (rk.filter fun r => (r.1 != e && nmf r.1 == nmf e) && (snf r.1).contains e).map (fun r => r.1) = laterF nmf snf Z.kn.ns e := by
          unfold laterF
          rw [← hr1, List.filter_map]
          rfl
        rw [hIe] at hI
        refine eq_intsK (News.isList N9 (.tail _ (.head _))) hI (News.isList N9 (.head _)) .nil (by ktr_units) ?_
        have hkeep : ∀ b : Bool, (laterF nmf snf Z.kn.ns e == []) = b → decide ((laterF nmf snf Z.kn.ns e).map (fun x => ((x : Nat) : Int)) = []) = b := fun b hb => by
          rw [← hb]
          cases laterF nmf snf Z.kn.ns e <;> rfl
        have hfs := filter_snoc (fun e => laterF nmf snf Z.kn.ns e == []) fin e
        clear hI hIe
        cases hb : (laterF nmf snf Z.kn.ns e == []) with
        | true =>
          rw [hkeep _ hb]
          k_steps
          rename Fr g _ _ _ => F10
          rename News g _ _ _ => N10
          have N11 : News g L1 _ ((D, W.listOf vals.toArray n) :: (I, _) :: (L1 + 1 + 1 + 1 + 1 + 1, _) :: (L1 + 1 + 1 + 1 + 1, _) :: (L1 + 1 + 1 + 1, oTx) :: (L1 + 1 + 1, oNa) :: (L1 + 1, oSe) :: stLed Z) := news_sub N10 (List.forall_mem_cons.mpr ⟨.tail _ (.tail _ (.tail _ (.head _))), List.forall_mem_cons.mpr ⟨.tail _ (.tail _ (.head _)), fun q hq => List.mem_append_right [_, _, _, _] hq⟩⟩)
          have hvl : vals.length ≤ 10 := by
            have z1 := hs.length
            rw [List.length_map] at z1
            have z2 := List.length_filter_le (fun e => laterF nmf snf Z.kn.ns e == []) fin
            have z3 : fin.length ≤ Z.kn.ns.length := by rw [← e1]; simp
            have z4 := O.ls
            omega
          refine append_head F10 N11 (offD _ _ _) (by rw [List.size_toArray]; exact Nat.le_trans hvl (by decide)) ?_
          intro h12 F12 N12
          rw [List.push_toArray] at N12
          k_steps
          rename Fr g _ _ _ => F13
          rename News g _ _ _ => N13
          refine unrW_mem F13 N13 ((D, W.listOf (vals ++ [_]).toArray (n + 1)) :: (L1 + 1 + 1 + 1 + 1 + 1, _) :: (L1 + 1 + 1 + 1 + 1, _) :: (L1 + 1 + 1 + 1, oTx) :: (L1 + 1 + 1, oNa) :: (L1 + 1, oSe) :: stLed Z) (List.forall_mem_cons.mpr ⟨.tail _ (.head _), List.forall_mem_nil _⟩) (fun p hp => (List.mem_cons.mp hp).elim (fun q => q ▸ .head _) fun q => .tail _ (.tail _ q)) (fun p hp => offI _ _ _ p hp _) ⟨⟨List.mem_append_right [_, _, _, _, _, _] (.head _), trivial⟩, ?_⟩
          refine rest_weak (IH ⟨fin ++ [e], rest, by rw [← e1]; simp, vr, hv2, vals ++ [_], ?_, n + 1, _, _, dE2, mapOf F13 "later"⟩ (Nat.lt_succ_self _)) ?_ (fun p hp => hp)
          · rw [hfs, if_pos hb, List.map_append]
            exact hs.append (.cons _ _ .nil)
          · refine names_ext ["later"] (by walk_at "my names") (by walk_at "my rest")
        | false =>
          rw [hkeep _ hb]
          k_steps
          rename Fr g _ _ _ => F13
          rename News g _ _ _ => N13
          refine unrW_mem F13 N13 ((D, W.listOf vals.toArray n) :: (L1 + 1 + 1 + 1 + 1 + 1, _) :: (L1 + 1 + 1 + 1 + 1, _) :: (L1 + 1 + 1 + 1, oTx) :: (L1 + 1 + 1, oNa) :: (L1 + 1, oSe) :: stLed Z) (List.forall_mem_cons.mpr ⟨.tail _ (.tail _ (.head _)), List.forall_mem_nil _⟩) (fun p hp => List.mem_append_right [_, _, _] hp) (fun p hp => offI _ _ _ p hp _) ⟨⟨List.mem_append_right [_, _, _, _, _, _] (.head _), trivial⟩, ?_⟩
          refine rest_weak (IH ⟨fin ++ [e], rest, by rw [← e1]; simp, vr, hv2, vals, ?_, n, _, _, dE2, mapOf F13 "later"⟩ (Nat.lt_succ_self _)) ?_ (fun p hp => hp)
          · rw [hfs, if_neg (by rw [hb]; simp)]
            exact hs
          · refine names_ext ["later"] (by walk_at "my names") (by walk_at "my rest")
      · intro done r rs e5 IH5
        refine PyProof.Rows.LCt.CompRestT.succ ?_
        intro v I5 oI5 C5 oC5 D5 m5 h5 tk5 E5 hv5 hC5 hx5 F5 N5 off5 ne5
        have hv6 : v = Value.int ((r.1 : Nat) : Int) r.2 := by
          rw [← hr2, e5] at hv5; simp at hv5; exact hv5.symm
        subst hv6
        have ec : ((done ++ [r]).filter fun r => (r.1 != e && nmf r.1 == nmf e) && (snf r.1).contains e) = if ((r.1 != e && nmf r.1 == nmf e) && (snf r.1).contains e) = true then (done.filter fun r => (r.1 != e && nmf r.1 == nmf e) && (snf r.1).contains e) ++ [r] else (done.filter fun r => (r.1 != e && nmf r.1 == nmf e) && (snf r.1).contains e) := filter_snoc _ _ _
        have hfm : r.1 ∈ Z.kn.ns := by rw [← hr1, e5]; simp
        obtain ⟨tn1, hn1⟩ := O.na r.1 (O.lt _ hfm)
        obtain ⟨tn2, hn2⟩ := O.na e (O.lt _ hem)
        obtain ⟨z5, hz1, hz2, hz3, hz4⟩ := O.se r.1 (O.lt _ hfm)
        have hM := O.m10
        have hf60 : r.1 < 2 ^ 60 := Nat.lt_of_lt_of_le (O.lt _ hfm) (Nat.le_trans hM (by decide))
        have he60 : e < 2 ^ 60 := Nat.lt_of_lt_of_le (O.lt _ hem) (Nat.le_trans hM (by decide))
        k_steps
        · unfold Stop
          rename News g _ _ _ => N9
          refine sub_item (N9 _ (List.mem_append_right [_, _, _, _, _, _, _, _, _, _] (.tail _ (.tail _ (.head _))))).1 rfl rfl rfl hn1 hf60 ?_ rfl (fun _ => rfl)
          k_steps
          unfold Stop
          rename News g _ _ _ => N9
          refine sub_item (N9 _ (List.mem_append_right [_, _, _, _, _, _, _, _, _, _] (.tail _ (.tail _ (.head _))))).1 rfl rfl rfl hn2 he60 ?_ rfl (fun _ => rfl)
          k_steps
          · unfold Stop
            rename News g _ _ _ => N9
            refine sub_item (N9 _ (List.mem_append_right [_, _, _, _, _, _, _, _, _, _] (.tail _ (.head _)))).1 rfl rfl rfl (by rw [List.getElem?_map, hz1]; rfl) hf60 ?_ rfl (fun _ => rfl)
            k_steps
            unfold Stop
            rename News g _ _ _ => N9
            refine kn_in (z := z5) N9 hz2 (List.mem_append_right [_, _, _, _, _, _, _, _, _, _] (.tail _ (.tail _ (.tail _ (.tail _ (List.mem_map_of_mem (List.mem_of_getElem? hz1))))))) ?_
            rename (_ == _) = true => hnn
            rename ((_ : Int) ≠ _) => hq
            have hq' : (r.1 != e) = true := by simp; omega
            have hn' : (nmf r.1 == nmf e) = true := by
              have := nm_eq (nmf r.1) (nmf e)
              rw [Nat.mod_eq_of_lt (O.nm2 _), Nat.mod_eq_of_lt (O.nm2 _)] at this
              simpa using this.mp (by simpa using hnn)
            rw [hz3]
            rw [hq', hn', Bool.and_true, Bool.true_and] at ec
            cases hsf : (snf r.1).contains e with
            | true =>
              rw [ec, if_pos hsf, List.map_append] at IH5
              k_steps
              unfold Stop
              rename Fr g _ _ _ => F9
              rename News g _ _ _ => N9
              exact PyProof.Rows.LCg.CompEnd.intro F9 N9 _ (fun p hp => hp) off5 (.inr ⟨_, List.mem_append_right [_, _, _, _, _, _, _] (.head _), rfl, _, rfl⟩) IH5
            | false =>
              rw [ec, if_neg (by rw [hsf]; simp)] at IH5
              k_steps
              unfold Stop
              rename Fr g _ _ _ => F9
              rename News g _ _ _ => N9
              exact PyProof.Rows.LCg.CompEnd.intro F9 N9 _ (fun p hp => hp) off5 (.inr ⟨_, List.mem_append_right [_, _, _, _, _, _, _] (.head _), rfl, _, rfl⟩) IH5
          · unfold Stop
            rename Fr g _ _ _ => F9
            rename News g _ _ _ => N9
            rename (_ == _) = false => hnn
            have hn' : (nmf r.1 == nmf e) = false := by
              have := nm_eq (nmf r.1) (nmf e)
              rw [Nat.mod_eq_of_lt (O.nm2 _), Nat.mod_eq_of_lt (O.nm2 _)] at this
              simpa using fun q => (by simpa using hnn : ¬ nmS (nmf r.1) = nmS (nmf e)) (this.mpr q)
            rw [ec, if_neg (by rw [hn']; simp)] at IH5
            exact PyProof.Rows.LCg.CompEnd.intro F9 N9 _ (fun p hp => hp) off5 (.inr ⟨_, List.mem_append_right [_, _, _, _, _, _, _] (.head _), rfl, _, rfl⟩) IH5
        · unfold Stop
          rename Fr g _ _ _ => F9
          rename News g _ _ _ => N9
          rename ((_ : Int) = _) => hq
          have hq' : (r.1 != e) = false := by simp; omega
          rw [ec, if_neg (by rw [hq']; simp)] at IH5
          exact PyProof.Rows.LCg.CompEnd.intro F9 N9 _ (fun p hp => hp) off5 (.inr ⟨_, List.mem_append_right [_, _, _, _, _, _, _] (.head _), rfl, _, rfl⟩) IH5
end

theorem offDU : True := by
  w_top off
  trivial
def abN (ns : List Nat) : Nat → Ab := abE (siteN ns) (snN ns) (nameN ns) (flagN ns)
def dueL (ns : List Nat) (k : Nat) : List (List Ab) := (List.range k).map fun e => (standD ns (snN ns e)).map (abN ns)
def dueE (ns : List Nat) : List Ab := (standD ns (lastD ns [snN ns (endN ns 0), snN ns (endN ns 1), snN ns (endN ns 2)])).map (abN ns)
section
variable {prog : Program} {w : World} {p : Program} {loose : List Str} {mean : ExcName → Option Value} {mg mb : Str → Option Value}
section
variable {A : Around} {E : Value → Shared → Prop} {s : Shared} {h₀ : Heap} {L D : Addr} {m : Str → Option Value} {news : List (Addr × Obj)} {g : Obj → List (Addr × Obj)} {its : Array Value} {n : Nat}
theorem append_U {x : Value} {Q : Value → Shared → Prop} (F : Fr h₀ L s.heap m) (N : News h₀ L s.heap news) (U : UpdF D (W.listOf its n) news g) (hsz : its.size ≤ 1000)
    (h : ∀ h', Fr h₀ L h' m → News h₀ L h' (g (W.listOf (its.push x) (n + 1))) → Q .none { s with heap := h' }) : wpAny (model prog w) A (call (.builtin "list.append") [.ref D, x]) Q E s := by
  obtain ⟨pre, post, rfl, hg, h1, h2⟩ := U.split
  have z := N (D, W.listOf its n) (List.mem_append_right _ (.head _))
  refine append_at (hsz := Nat.le_trans hsz (by decide)) z.1 fun h' hs ho' => h h' (F.change hs z.2.1 z.2.2) ?_
  rw [hg]
  exact N.setAt h1 h2 hs ho'
theorem set_U {k : Int} {t : Tok} {v : Value} {Q : Unit → Shared → Prop} (F : Fr h₀ L s.heap m) (N : News h₀ L s.heap news) (U : UpdF D (W.listOf its n) news g) (h0 : 0 ≤ k) (hk : k < its.size) (hfit : k < 2 ^ 63)
    (h : ∀ h', Fr h₀ L h' m → News h₀ L h' (g (W.listOf (its.setIfInBounds k.toNat v) n)) → Q () { s with heap := h' }) : wpAny (model prog w) A (setItem (.ref D) (.int k t) v) Q E s := by
  obtain ⟨pre, post, rfl, hg, h1, h2⟩ := U.split
  have z := N (D, W.listOf its n) (List.mem_append_right _ (.head _))
  refine ki_setAt z.1 h0 hfit hk (h _ (F.change (Heap.SameBut.update ..) z.2.1 z.2.2) ?_)
  rw [hg]
  exact ki_turn _ N h1 h2 rfl (by simp)
end
theorem e_bit (x P : Nat) {y : Int} (hy : y = (P : Int)) : ((x : Int).fdiv y).fmod 2 = ((x / P % 2 : Nat) : Int) := by
  subst hy
  rw [Int.fdiv_eq_ediv_of_nonneg _ (Int.natCast_nonneg P), Int.fmod_eq_emod_of_nonneg _ (by decide)]
  norm_cast
theorem compI_ind {R : Nat → Nat → List Value → List (Addr × Obj) → Prop} (n : Nat) (keep : Nat → Bool) {led : List (Addr × Obj)} (zero : ∀ ys, IntsAre ys (((List.range n).filter keep).map fun x => ((x : Nat) : Int)) → R 0 n ys led)
    (succ : ∀ i k ys, i + (k + 1) = n → IntsAre ys (((List.range i).filter keep).map fun x => ((x : Nat) : Int)) → (∀ ys', IntsAre ys' (((List.range (i + 1)).filter keep).map fun x => ((x : Nat) : Int)) → R k (i + 1) ys' led) → R (k + 1) i ys led) : R n 0 [] led := by
  have all : ∀ k i ys, i + k = n → IntsAre ys (((List.range i).filter keep).map fun x => ((x : Nat) : Int)) → R k i ys led := by
    intro k
    induction k with
    | zero => intro i ys h hy; rw [Nat.add_zero] at h; subst h; exact zero ys hy
    | succ k ih => exact fun i ys h hy => succ i k ys h hy fun ys' hy' => ih (i + 1) ys' (by omega) hy'
  exact all n 0 [] (by omega) .nil
theorem compR_ind {R : Nat → Nat → List Value → List (Addr × Obj) → Prop} (n : Nat) (keep : Nat → Bool) (val : Nat → Value) {led : List (Addr × Obj)} (zero : R 0 n (((List.range n).filter keep).map val) led)
    (succ : ∀ i k, i + (k + 1) = n → R k (i + 1) (((List.range (i + 1)).filter keep).map val) led → R (k + 1) i (((List.range i).filter keep).map val) led) : R n 0 [] led := by
  have all : ∀ k i, i + k = n → R k i (((List.range i).filter keep).map val) led := by
    intro k
    induction k with
    | zero => intro i h; rw [Nat.add_zero] at h; subst h; exact zero
    | succ k ih => exact fun i h => succ i k h (ih (i + 1) (by omega))
  exact all n 0 (by omega)
theorem mem_mid2 {α : Type} {q x : α} {l T : List α} (h : q ∈ l ++ x :: T) : q = x ∨ q ∈ l ++ T := by
  rcases List.mem_append.mp h with h | h
  · exact .inr (List.mem_append_left _ h)
  · exact (List.mem_cons.mp h).imp id fun h => List.mem_append_right _ h
abbrev objOf {o : Obj} {v : Data} (_ : o.data = v) : Obj := o
def wordW : Nat → Str
  | 0 => Str.ofString "OPTIMIZED"
  | 1 => Str.ofString "NEWLOCALS"
  | _ => Str.ofString "VARARGS"
theorem words_fl : ∀ fl, fl ≤ 7 → 1 ≤ fl → Txt.join (Str.ofString ", ") (((List.range 3).filter fun i => fl / 2 ^ i % 2 == 1).map wordW) = wordsS fl ∧ ((((List.range 3).filter fun i => fl / 2 ^ i % 2 == 1).map wordW).map (·.length)).sum + (((List.range 3).filter fun i => fl / 2 ^ i % 2 == 1).map wordW).length ≤ 1048576 := by decide +kernel
theorem item_kmkm {n : Nat} (h : n < 4) {x : Int} (e : x = (n : Int)) : Txt.item (Str.ofString "kmkm") x = nmS (n % 2) := by
  subst e
  have : ∀ c : Nat, c < 4 → Txt.item (Str.ofString "kmkm") (c : Int) = nmS (c % 2) := by decide +kernel
  exact this n h
theorem snoc_get {α : Type} {l : List α} {x z : α} {e : Nat} (h : (l ++ [x])[e]? = some z) : l[e]? = some z ∨ (e = l.length ∧ z = x) := by
  rcases Nat.lt_or_ge e l.length with q | q
  · rw [List.getElem?_append_left q] at h; exact .inl h
  · rw [List.getElem?_append_right q] at h
    have q0 : e - l.length = 0 := by
      cases hq : e - l.length with
      | zero => rfl
      | succ j => rw [hq] at h; simp at h
    rw [q0] at h
    exact .inr ⟨by omega, (Option.some.inj h).symm⟩
theorem get_snoc {l : List Value} {k : Nat} {x : Value} {f : Nat → Str} (hl : l.length = k) (h : ∀ e, e < k → ∃ t, l[e]? = some (.str (f e) t)) {t : Tok} (hx : x = .str (f k) t) : ∀ e, e < k + 1 → ∃ t, (l ++ [x])[e]? = some (.str (f e) t) := by
  intro e he
  rcases Nat.lt_or_ge e k with q | q
  · obtain ⟨t, ht⟩ := h e q
    exact ⟨t, by rw [List.getElem?_append_left (by omega), ht]⟩
  · have : e = k := by omega
    subst this
    exact ⟨t, by rw [List.getElem?_append_right (by omega), hl, Nat.sub_self, hx]; rfl⟩
def chainN : List Nat → Prop
  | a :: b :: r => a < b ∧ chainN (b :: r)
  | _ => True
def muD (I DU NA TX SE KW L1 : Addr) : List Addr := [I, DU, NA, TX, SE, KW, L1 + 1 + 1 + 1 + 1, L1 + 1 + 1 + 1 + 1 + 1, L1 + 1 + 1 + 1 + 1 + 1 + 1, L1 + 1 + 1 + 1 + 1 + 1 + 1 + 1]
theorem due_off {I DU NA TX SE KW L1 Wd K0 K1 Nn : Addr} {oK1 oK0 oW oN : Obj} (ch : chainN [L1 + 1 + 1 + 1 + 1 + 1 + 1 + 1, Wd, K0, K1, KW, SE, TX, NA, DU]) (hI : DU < I) (hN : Nn < L1) :
    ∀ p ∈ [(K1, oK1), (K0, oK0), (Wd, oW), (Nn, oN)], ∀ a ∈ muD I DU NA TX SE KW L1, p.1 ≠ a := by
  simp only [chainN, and_true] at ch
  have hI' : @LT.lt Nat _ DU I := hI
  have hN' : @LT.lt Nat _ Nn L1 := hN
  intro p hp a ha
  simp only [muD, List.mem_cons, List.not_mem_nil, or_false] at hp ha
  have h1 : p.1 = K1 ∨ p.1 = K0 ∨ p.1 = Wd ∨ p.1 = Nn := by rcases hp with rfl | rfl | rfl | rfl <;> simp
  clear hp
  generalize p.1 = b at h1
  refine neN ?_
  have e1 : @Eq Nat b K1 ∨ @Eq Nat b K0 ∨ @Eq Nat b Wd ∨ @Eq Nat b Nn := h1
  have e2 : @Eq Nat a I ∨ @Eq Nat a DU ∨ @Eq Nat a NA ∨ @Eq Nat a TX ∨ @Eq Nat a SE ∨ @Eq Nat a KW ∨ @Eq Nat a (L1 + 1 + 1 + 1 + 1) ∨ @Eq Nat a (L1 + 1 + 1 + 1 + 1 + 1) ∨ @Eq Nat a (L1 + 1 + 1 + 1 + 1 + 1 + 1) ∨ @Eq Nat a (L1 + 1 + 1 + 1 + 1 + 1 + 1 + 1) := ha
  clear h1 ha
  omega
theorem mu_new2 {D I DU NA TX SE KW L1 : Addr} {o1 o2 o3 o4 o5 o6 o7 o8 o9 o10 : Obj} {rest : List (Addr × Obj)}
    (h : ∀ p ∈ (I, o1) :: (DU, o2) :: (NA, o3) :: (TX, o4) :: (SE, o5) :: (KW, o6) :: (L1 + 1 + 1 + 1 + 1 + 1 + 1 + 1, o7) :: (L1 + 1 + 1 + 1 + 1 + 1 + 1, o8) :: (L1 + 1 + 1 + 1 + 1 + 1, o9) :: (L1 + 1 + 1 + 1 + 1, o10) :: rest, p.1 ≠ D) : ∀ a ∈ muD I DU NA TX SE KW L1, D ≠ a := by
  intro a ha
  simp only [muD, List.mem_cons, List.not_mem_nil, or_false] at ha
  rcases ha with e | e | e | e | e | e | e | e | e | e
  · exact fun q => h _ (.head _) (q.trans e).symm
  · exact fun q => h _ (.tail _ (.head _)) (q.trans e).symm
  · exact fun q => h _ (.tail _ (.tail _ (.head _))) (q.trans e).symm
  · exact fun q => h _ (.tail _ (.tail _ (.tail _ (.head _)))) (q.trans e).symm
  · exact fun q => h _ (.tail _ (.tail _ (.tail _ (.tail _ (.head _))))) (q.trans e).symm
  · exact fun q => h _ (.tail _ (.tail _ (.tail _ (.tail _ (.tail _ (.head _)))))) (q.trans e).symm
  · exact fun q => h _ (.tail _ (.tail _ (.tail _ (.tail _ (.tail _ (.tail _ (.tail _ (.tail _ (.tail _ (.head _)))))))))) (q.trans e).symm
  · exact fun q => h _ (.tail _ (.tail _ (.tail _ (.tail _ (.tail _ (.tail _ (.tail _ (.tail _ (.head _))))))))) (q.trans e).symm
  · exact fun q => h _ (.tail _ (.tail _ (.tail _ (.tail _ (.tail _ (.tail _ (.tail _ (.head _)))))))) (q.trans e).symm
  · exact fun q => h _ (.tail _ (.tail _ (.tail _ (.tail _ (.tail _ (.tail _ (.head _))))))) (q.trans e).symm
theorem mu_conj {D I DU NA TX SE KW L1 : Addr} {R : Prop} (h : @Ne Nat I D ∧ @Ne Nat DU D ∧ @Ne Nat NA D ∧ @Ne Nat TX D ∧ @Ne Nat SE D ∧ @Ne Nat KW D ∧ @Ne Nat (L1 + 1 + 1 + 1 + 1 + 1 + 1 + 1) D ∧ @Ne Nat (L1 + 1 + 1 + 1 + 1 + 1 + 1) D ∧ @Ne Nat (L1 + 1 + 1 + 1 + 1 + 1) D ∧ @Ne Nat (L1 + 1 + 1 + 1 + 1) D ∧ R) : ∀ a ∈ muD I DU NA TX SE KW L1, D ≠ a := by
  obtain ⟨h1, h2, h3, h4, h5, h6, h7, h8, h9, h10, _⟩ := h
  intro a ha
  simp only [muD, List.mem_cons, List.not_mem_nil, or_false] at ha
  rcases ha with e | e | e | e | e | e | e | e | e | e
  · exact fun q => h1 (q.trans e).symm
  · exact fun q => h2 (q.trans e).symm
  · exact fun q => h3 (q.trans e).symm
  · exact fun q => h4 (q.trans e).symm
  · exact fun q => h5 (q.trans e).symm
  · exact fun q => h6 (q.trans e).symm
  · exact fun q => h10 (q.trans e).symm
  · exact fun q => h9 (q.trans e).symm
  · exact fun q => h8 (q.trans e).symm
  · exact fun q => h7 (q.trans e).symm
theorem off1_mem {D : Addr} : ∀ {l : List (Addr × Obj)}, PyProof.Rows.LCg.Off1 D l → ∀ p ∈ l, p.1 ≠ D
  | [], _, _, h => nomatch h
  | p :: r, x, q, h => (List.mem_cons.mp h).elim (fun e => e ▸ x.1) fun h => off1_mem x.2 q h
theorem readsAll_rows {h₀ h : Heap} {L : Addr} {news : List (Addr × Obj)} (N : News h₀ L h news) : ∀ {rows : List KnZ}, (∀ z ∈ rows, z.ok ∧ z.obj ∈ news) → ∃ as, ReadsAll h (rows.map fun z => Value.ref z.a) (rows.map fun z => PyData.list ((z.ns.map fun x => ((x : Nat) : Int)).map PyData.int)) as
  | [], _ => ⟨_, .nil⟩
  | z :: rows, hr => by
    obtain ⟨as, ih⟩ := readsAll_rows N fun y hy => hr y (.tail _ hy)
    obtain ⟨h1, h2⟩ := hr z (.head _)
    exact ⟨_, .cons (Reads.list (N _ h2).1 rfl rfl (by simpa using readsAll_of_ints h1)) ih⟩
theorem shaped_rows (rows : List (List Int)) : PySem.SeqAt.shaped (.list (rows.map fun r => .list (r.map PyData.int))) = true := by
  have h1 : ∀ rows : List (List Int), PyData.canLayAll0 (rows.map fun r => .list (r.map PyData.int)) = true ∧ PyData.depthAll (rows.map fun r => .list (r.map PyData.int)) ≤ 2 := by
    intro rows
    induction rows with
    | nil => exact ⟨by simp [PyData.canLayAll0], by simp [PyData.depthAll]⟩
    | cons r rows ih =>
      have := PySem.W.depthAll_ints r
      refine ⟨?_, ?_⟩
      · simp only [List.map_cons, PyData.canLayAll0, PyData.canLay0, canLayAll0_ints, ih.1, Bool.and_true]
      · simp only [List.map_cons, PyData.depthAll, PyData.depth]
        have := ih.2
        omega
  obtain ⟨a, b⟩ := h1 rows
  show (PyData.canLay0 _ && decide (PyData.depth _ ≤ 64)) = true
  rw [Bool.and_eq_true]
  refine ⟨by simp only [PyData.canLay0]; exact a, decide_eq_true ?_⟩
  simp only [PyData.depth]
  omega
theorem ne_rows {A : Around} {E : Value → Shared → Prop} {s : Shared} {h₀ : Heap} {L : Addr} {news : List (Addr × Obj)} {rows : List KnZ} {a b : Addr} {n k : Nat} {Q : Value → Shared → Prop} (N : News h₀ L s.heap news) (ha : (a, W.listOf (rows.map fun z => Value.ref z.a).toArray n) ∈ news) (hb : (b, W.listOf #[] k) ∈ news)
    (hr : ∀ z ∈ rows, z.ok ∧ z.obj ∈ news) (hu : A.units + 64 < cLine) (h : Q (.bool (!rows.isEmpty)) s) : wpAny (model prog w) A (compareOp .NotEq (.ref a) (.ref b)) Q E s := by
  obtain ⟨as, hR⟩ := readsAll_rows N hr
  have e : (rows.map fun z => PyData.list ((z.ns.map fun x => ((x : Nat) : Int)).map PyData.int)) = (rows.map fun z => z.ns.map fun x => ((x : Nat) : Int)).map fun r => .list (r.map PyData.int) := by rw [List.map_map]; rfl
  rw [e] at hR
  refine ne_dataH_same (Reads.list (N _ ha).1 rfl rfl hR) (Reads.list (N _ hb).1 rfl rfl .nil) (shaped_rows _) (by decide +kernel) hu ?_ ?_
  · cases rows <;> simp [PySem.SeqAt.noMix, PySem.SeqAt.noMixAll]
  · rw [show PySem.Spec.same (.list ((rows.map fun z => z.ns.map fun x => ((x : Nat) : Int)).map fun r => .list (r.map PyData.int))) (.list []) = rows.isEmpty by cases rows <;> simp [PySem.Spec.same, PySem.Spec.sameAll]]
    exact h
structure SKl (P : Nat → Bool) where
  i : Nat
  ys : List Value
  h : IntsAre ys (((List.range i).filter P).map fun x => ((x : Nat) : Int))
abbrev ledTail {h₀ h : Heap} {L : Addr} {x : Addr × Obj} {news : List (Addr × Obj)} (_ : News h₀ L h (x :: news)) : List (Addr × Obj) := news
structure SDu where
  k : Nat
  sz : List KnZ
  eS : Nat
  vN : List Value
  eN : Nat
  vT : List Value
  eT : Nat
  zs : List ShowZ
  eD : Nat
  kk : Nat → KnZ
  eK : Nat
  oEa : Obj
  oKn : Obj
  oFl : Obj
  vEa : Option Value
  vKn : Option Value
  vFl : Option Value
  T : List (Addr × Obj)
  v1 : Option Value
  v2 : Option Value
  v3 : Option Value
  v4 : Option Value
structure InvDu (ns : List Nat) (mu : List Addr) (pN pW : Addr × Obj) (st : SDu) : Prop where
  hk : st.k ≤ 5
  dEa : st.oEa.data = .cell st.vEa
  dKn : st.oKn.data = .cell st.vKn
  dFl : st.oFl.data = .cell st.vFl
  tz : ∀ z ∈ st.sz, z.obj ∈ st.T
  tk : ∀ i, i < 2 → (st.kk i).obj ∈ st.T
  ts : ∀ z ∈ st.zs, ∀ q ∈ showLed z, q ∈ st.T
  tn : pN ∈ st.T
  tw : pW ∈ st.T
  off : ∀ p ∈ st.T, ∀ a ∈ mu, p.1 ≠ a
  lz : st.sz.length = st.k
  lN : st.vN.length = st.k
  lT : st.vT.length = st.k
  se : ∀ (e : Nat) (z : KnZ), st.sz[e]? = some z → z.ok ∧ z.ns = snN ns e
  na : ∀ e, e < st.k → ∃ t, st.vN[e]? = some (.str (nmS (nameN ns e)) t)
  tx : ∀ e, e < st.k → ∃ t, st.vT[e]? = some (.str (txt (abN ns e).2.1 (abN ns e).2.2.1 (abN ns e).2.2.2) t)
  kk : ∀ i, i < 2 → (st.kk i).ok ∧ (st.kk i).ns = (runD ns st.k).kn i
  zs : ZAll st.zs (dueL ns st.k)
  nn : ∀ z ∈ st.zs, ∀ q ∈ showLed z, q.1 ≠ pN.1
local macro_rules | `(tactic| walk_at "my off") => `(tactic| first | with_reducible assumption | (refine List.forall_mem_cons.mpr ⟨by k_ne, ?_⟩; walk_at "my off"))
local macro_rules | `(tactic| k_updF) => `(tactic| first | (refine' UpdF.head ?a; (case a => walk_at "my off")) | (refine' UpdF.tail ?a ?b; (case a => k_ne); (case b => k_updF)))
local macro_rules | `(tactic| walk_at "LoopE") => `(tactic| (k_here; refine Stop.of ?_))
local macro_rules | `(tactic| walk_at "call ref") => `(tactic| (k_here; refine Stop.of ?_))
local macro_rules | `(tactic| walk_at "call builtin:list.append") => `(tactic| (k_here; refine Stop.of ?_))
local macro_rules | `(tactic| walk_at "call builtin:len") => `(tactic| (k_here; refine Stop.of ?_))
local macro_rules | `(tactic| walk_at "call builtin:str.join") => `(tactic| (k_here; refine Stop.of ?_))
local macro_rules | `(tactic| walk_at "setItem ref int ref") => `(tactic| (k_here; refine Stop.of ?_))
local macro_rules | `(tactic| walk_at "binaryOp Add ref ref") => `(tactic| (k_here; refine Stop.of ?_))
local macro_rules | `(tactic| walk_at "compareOp In int ref") => `(tactic| (k_here; refine Stop.of ?_))
local macro_rules | `(tactic| walk_at "compareOp NotEq ref ref") => `(tactic| (k_here; refine Stop.of ?_))
local macro_rules | `(tactic| walk_at "eval ListComp") => `(tactic| (k_here; refine Stop.of ?_))
local macro_rules | `(tactic| walk_at "CompSrc") => `(tactic| (refine Stop.of ?_))
local macro_rules | `(tactic| walk_at "CcEnd") => `(tactic| (refine Stop.of ?_))
local macro_rules | `(tactic| walk_at "CompEnd") => `(tactic| (refine Stop.of ?_))
local macro_rules | `(tactic| walk_at "CompSrcT") => `(tactic| (refine Stop.of ?_))
local macro_rules | `(tactic| walk_at "subscriptTail") => `(tactic| (k_here; (with_reducible show wpAny _ _ (subscriptTail _ _ (Value.ref _) _) _ _ _); refine Stop.of ?_))
local macro_rules | `(tactic| walk_at "exec For Name Call cons nil") => `(tactic| (k_here; refine Stop.of ?_))
set_option maxHeartbeats 8000000 in
theorem c_due {Nn : Addr} {vs : List Value} {n : Nat} {ns : List Nat} (hns : ns.length = 6) (hvs : IntsAre vs (ns.map fun x => ((x : Nat) : Int))) :
    ConL prog w p loose mean mg mb 404 [.ref Nn] 80 (fun _ => True) [(Nn, lstObj vs n)] [] (fun s h' r => Tells s h' r (dueL ns 5 ++ [dueE ns])) := by
  intro dp un gd cn cs a ccd cl outer A₀ base h₀ L m s Q E B F X T' hk hdp hun _ N hret
  refine wpAny_call ?_
  have N0 := N
  k_dflt (walk_at "my enterC")
  intro g L1 h1 tk1 cells1 FG F1 N1 Y1 B1 X1 T1 hG hG' hl1
  have hNn := hl1 (Nn, lstObj vs n) (.head _)
  (try k_lt hl1); k_cells Y1; (try simp only [List.cons_append, List.nil_append] at N1)
  rename_i oEn oFl oKn oEa oSe oWo oNu d7 d6 d5 d4 d3 d2 d1
  (try dsimp only); (try k_lift B1); (try k_fold)
  k_steps
  unfold Stop
  rename Fr g _ _ _ => F3
  rename News g _ _ _ => N3
  with_unfolding_all refine' For_else F3 ?_
  k_whole
  k_steps
  rename Fr g _ _ _ => F3
  rename News g _ _ _ => N3
  rename (IsRange _ _ _ _ _ _ _ _) => hrng
  have dNu : oNu.data = .cell (some (.ref Nn)) := d1
  have dEn : oEn.data = .cell none := d7
  have dFl : oFl.data = .cell none := d6
  have dKn : oKn.data = .cell none := d5
  have dEa : oEa.data = .cell none := d4
  obtain ⟨DU, NA, TX, SE, KW, K1, K0, Wd, w0, w1, w2, oSe2, oWo2, N4, e1, e2, e3, e4, dSe, dWo, ch⟩ : ∃ (DU NA TX SE KW K1 K0 Wd : Addr) (w0 w1 w2 : Tok) (oSe2 oWo2 : Obj),
    News g L1 _ ((DU, W.listOf #[] 0) :: (NA, W.listOf #[] 0) :: (TX, W.listOf #[] 0) :: (SE, W.listOf #[] 0) :: (KW, W.listOf #[.ref K0, .ref K1] 0) :: (K1, W.listOf #[] 0) :: (K0, W.listOf #[] 0) ::
      (Wd, W.listOf #[.str (Str.ofString "OPTIMIZED") w0, .str (Str.ofString "NEWLOCALS") w1, .str (Str.ofString "VARARGS") w2] 0) ::
      (L1 + 1 + 1 + 1 + 1 + 1 + 1 + 1, oEn) :: (L1 + 1 + 1 + 1 + 1 + 1 + 1, oFl) :: (L1 + 1 + 1 + 1 + 1 + 1, oKn) :: (L1 + 1 + 1 + 1 + 1, oEa) :: (L1 + 1 + 1 + 1, oSe2) :: (L1 + 1 + 1, oWo2) :: (L1 + 1, oNu) :: [(Nn, lstObj vs n)]) ∧
    mapOf F3 "due" = some (.ref DU) ∧ mapOf F3 "names" = some (.ref NA) ∧ mapOf F3 "texts" = some (.ref TX) ∧ mapOf F3 "knows" = some (.ref KW) ∧ oSe2.data = .cell (some (.ref SE)) ∧ oWo2.data = .cell (some (.ref Wd)) ∧
    chainN [L1 + 1 + 1 + 1 + 1 + 1 + 1 + 1, Wd, K0, K1, KW, SE, TX, NA, DU] := ⟨_, _, _, _, _, _, _, _, _, _, _, _, _, N3, rfl, rfl, rfl, rfl, by assumption, by assumption, by unfold chainN; repeat (first | exact True.intro | refine ⟨by omega, ?_⟩ | unfold chainN)⟩
  have chW := fun (_ : Unit) => ch
  clear ch d1 d2 d3 d4 d5 d6 d7
  (repeat (rename (_ < _) ∧ _ => zr; clear zr))
  have chD := chW ()
  have chC := chW ()
  simp only [chainN, and_true] at chD
  clear chW
  with_unfolding_all refine iter_rangeE (n := 5) hrng (by decide) (by rfl) F3 N4 ?_
  intro I h4 lI F5 N5
  have lI2 := lI
  k_lt lI2
  clear hrng N4 N3
  have hoff := due_off (oK1 := W.listOf #[] 0) (oK0 := W.listOf #[] 0) (oW := W.listOf #[.str (Str.ofString "OPTIMIZED") w0, .str (Str.ofString "NEWLOCALS") w1, .str (Str.ofString "VARARGS") w2] 0) (oN := lstObj vs n) chC (lI (DU, _) (.head _)) hNn
  refine whl_ind (R := fun s' => LoopE _ _ _ _ _ _ _ _ _ (.ref I) s') (σ := SDu) (fun st => 5 - st.k)
    (fun st s' => ∃ h tk, s' = { s with heap := h, toks := tk } ∧ Fr g L1 h (fun z => if z = "k" then st.v1 else if z = "v" then st.v2 else if z = "ones" then st.v3 else if z = "shown" then st.v4 else if z = "due" then some (.ref DU) else if z = "names" then some (.ref NA) else if z = "texts" then some (.ref TX) else if z = "knows" then some (.ref KW) else mapOf F5 z) ∧
      News g L1 h ((I, itR (st.k : Int) ((5 - st.k : Nat) : Int)) :: (DU, W.listOf (st.zs.map fun z => .ref z.D).toArray st.eD) :: (NA, W.listOf st.vN.toArray st.eN) :: (TX, W.listOf st.vT.toArray st.eT) :: (SE, W.listOf (st.sz.map fun z => .ref z.a).toArray st.eS) ::
        (KW, W.listOf #[.ref (st.kk 0).a, .ref (st.kk 1).a] st.eK) :: (L1 + 1 + 1 + 1 + 1 + 1 + 1 + 1, oEn) :: (L1 + 1 + 1 + 1 + 1 + 1 + 1, st.oFl) :: (L1 + 1 + 1 + 1 + 1 + 1, st.oKn) :: (L1 + 1 + 1 + 1 + 1, st.oEa) :: (L1 + 1 + 1 + 1, oSe2) :: (L1 + 1 + 1, oWo2) :: (L1 + 1, oNu) :: st.T) ∧
      InvDu ns (muD I DU NA TX SE KW L1) (Nn, lstObj vs n) (Wd, W.listOf #[.str (Str.ofString "OPTIMIZED") w0, .str (Str.ofString "NEWLOCALS") w1, .str (Str.ofString "VARARGS") w2] 0) st)
    ⟨0, [], 0, [], 0, [], 0, [], 0, fun i => if i = 0 then ⟨K0, [], 0, []⟩ else ⟨K1, [], 0, []⟩, 0, oEa, oKn, oFl, none, none, none, [(K1, W.listOf #[] 0), (K0, W.listOf #[] 0), (Wd, W.listOf #[.str (Str.ofString "OPTIMIZED") w0, .str (Str.ofString "NEWLOCALS") w1, .str (Str.ofString "VARARGS") w2] 0), (Nn, lstObj vs n)], none, none, none, none⟩
    ⟨_, _, rfl, fr_congr F5 ?_, news_sub N5 fun q hq => ?_, ⟨Nat.zero_le _, dEa, dKn, dFl, fun _ h => (nomatch h), fun i hi => ?_, fun _ h => (nomatch h), .tail _ (.tail _ (.tail _ (.head _))), .tail _ (.tail _ (.head _)), hoff, rfl, rfl, rfl, fun e z h => absurd (show ([] : List KnZ)[e]? = some z from h) (by simp), fun _ h => (nomatch h), fun _ h => (nomatch h), fun i hi => ?_, True.intro, fun _ h => (nomatch h)⟩⟩ ?_
  · refine names_ext ["k", "v", "ones", "shown", "due", "names", "texts", "knows"] ?_ (by intro z hz; simp only [List.forall_mem_cons, List.forall_mem_nil, and_true] at hz; simp [hz, mapOf])
    exact List.forall_mem_cons.mpr ⟨by rfl, List.forall_mem_cons.mpr ⟨by rfl, List.forall_mem_cons.mpr ⟨by rfl, List.forall_mem_cons.mpr ⟨by rfl, List.forall_mem_cons.mpr ⟨e1, List.forall_mem_cons.mpr ⟨e2, List.forall_mem_cons.mpr ⟨e3, List.forall_mem_cons.mpr ⟨e4, List.forall_mem_nil _⟩⟩⟩⟩⟩⟩⟩⟩
  · simp only [List.map_nil, List.mem_cons, List.not_mem_nil, or_false] at hq ⊢
    rcases hq with h | h | h | h | h | h | h | h | h | h | h | h | h | h | h | h | h <;> simp [h]
  · match i, hi with
    | 0, _ => exact .tail _ (.head _)
    | 1, _ => exact .head _
  · match i, hi with
    | 0, _ => exact ⟨.nil, rfl⟩
    | 1, _ => exact ⟨.nil, rfl⟩
  · dsimp only [mapOf]
    clear e1 e2 e3 e4 F3 F5 N5 dEa dKn dFl
    intro st s' IH hP
    obtain ⟨k, sz, eS, vN, eN, vT, eT, zs, eD, kk, eK, oEa, oKn, oFl, vEa, vKn, vFl, T, v1, v2, v3, v4⟩ := st
    obtain ⟨h', tk', rfl, F', N', V⟩ := hP
    dsimp only at F' N'
    have hk5 : k ≤ 5 := V.hk
    have dEa : oEa.data = .cell vEa := V.dEa
    have dKn : oKn.data = .cell vKn := V.dKn
    have dFl : oFl.data = .cell vFl := V.dFl
    have hoI : ∀ p ∈ T, p.1 ≠ I := fun p hp => V.off p hp _ (.head _)
    have o1 : ∀ p ∈ T, p.1 ≠ DU := fun p hp => V.off p hp _ (.tail _ (.head _))
    have o2 : ∀ p ∈ T, p.1 ≠ NA := fun p hp => V.off p hp _ (.tail _ (.tail _ (.head _)))
    have o3 : ∀ p ∈ T, p.1 ≠ TX := fun p hp => V.off p hp _ (.tail _ (.tail _ (.tail _ (.head _))))
    have o4 : ∀ p ∈ T, p.1 ≠ SE := fun p hp => V.off p hp _ (.tail _ (.tail _ (.tail _ (.tail _ (.head _)))))
    have o5 : ∀ p ∈ T, p.1 ≠ KW := fun p hp => V.off p hp _ (.tail _ (.tail _ (.tail _ (.tail _ (.tail _ (.head _))))))
    have o6 : ∀ p ∈ T, p.1 ≠ L1 + 1 + 1 + 1 + 1 := fun p hp => V.off p hp _ (.tail _ (.tail _ (.tail _ (.tail _ (.tail _ (.tail _ (.head _)))))))
    have o7 : ∀ p ∈ T, p.1 ≠ L1 + 1 + 1 + 1 + 1 + 1 := fun p hp => V.off p hp _ (.tail _ (.tail _ (.tail _ (.tail _ (.tail _ (.tail _ (.tail _ (.head _))))))))
    have o8 : ∀ p ∈ T, p.1 ≠ L1 + 1 + 1 + 1 + 1 + 1 + 1 := fun p hp => V.off p hp _ (.tail _ (.tail _ (.tail _ (.tail _ (.tail _ (.tail _ (.tail _ (.tail _ (.head _)))))))))
    have o9 : ∀ p ∈ T, p.1 ≠ L1 + 1 + 1 + 1 + 1 + 1 + 1 + 1 := fun p hp => V.off p hp _ (.tail _ (.tail _ (.tail _ (.tail _ (.tail _ (.tail _ (.tail _ (.tail _ (.tail _ (.head _))))))))))
    by_cases hk0 : k = 5
    · --K5
      subst hk0
      clear IH hk5
      have N5 : News g L1 h' ((I, itR ((5 : Nat) : Int) 0) :: _) := N'
      clear N'
      refine loopE_rangeEnd rfl F' N5 ?_ ?_
      · simp only [List.forall_mem_cons]
        refine ⟨?_, ?_, ?_, ?_, ?_, ?_, ?_, ?_, ?_, ?_, ?_, ?_, hoI⟩ <;> k_ne
      intro h2 F2 N2
      clear F' N5
      have hv : ∃ t, vs[5]? = some (.int ((ns.getD 5 0 : Nat) : Int) t) := intsAt hvs (by rw [List.getElem?_map, List.getElem?_eq_getElem (by omega), List.getD_eq_getElem?_getD, List.getElem?_eq_getElem (by omega)]; rfl)
      obtain ⟨tv, hv⟩ := hv
      have hend : ∀ j, endN ns j = ns.getD 5 0 / 5 ^ j % 5 := fun _ => rfl
      have hez : ∀ j, ∃ z, sz[endN ns j]? = some z := fun j => ⟨_, List.getElem?_eq_getElem (by rw [show sz.length = 5 from V.lz]; exact Nat.mod_lt _ (by decide))⟩
      obtain ⟨z0, hz0⟩ := hez 0
      obtain ⟨z1, hz1⟩ := hez 1
      obtain ⟨z2, hz2⟩ := hez 2
      have hezz : ∀ r ∈ [z0, z1, z2], r.ok ∧ r.obj ∈ T := by
        have h : ∀ (j : Nat) (z : KnZ), sz[endN ns j]? = some z → z.ok ∧ z.obj ∈ T := fun j z hz => ⟨(V.se _ _ hz).1, V.tz _ (List.mem_of_getElem? hz)⟩
        exact List.forall_mem_cons.mpr ⟨h 0 _ hz0, List.forall_mem_cons.mpr ⟨h 1 _ hz1, List.forall_mem_cons.mpr ⟨h 2 _ hz2, List.forall_mem_nil _⟩⟩⟩
      have hezn : ([z0, z1, z2].map fun z => z.ns) = [snN ns (endN ns 0), snN ns (endN ns 1), snN ns (endN ns 2)] := by
        rw [← (V.se _ _ hz0).2, ← (V.se _ _ hz1).2, ← (V.se _ _ hz2).2]; rfl
      rw [hend] at hz0 hz1 hz2
      generalize ns.getD 5 0 = x at hv hz0 hz1 hz2
      k_steps
      unfold Stop
      rename Fr g _ _ _ => F3
      rename News g _ _ _ => N3
      refine PyProof.Rows.LCg.ListComp_U (F₀ := F3) (by with_unfolding_all rfl) (by decide) (by rfl) (by decide) (by rfl) ?_
      k_steps
      unfold Stop
      rename Fr g _ _ _ => F4
      rename News g _ _ _ => N4
      rename (IsRange _ _ _ _ _ _ _ _) => hrng
      refine PyProof.Rows.LCg.CompSrc.range (by rfl) F4 N4 hrng (by decide) (by rfl) (show 3 ≤ sizeLine by decide) ?_
      intro g'
      refine compR_ind 3 (fun _ => true) (fun i => ([Value.ref z0.a, .ref z1.a, .ref z2.a][i]?).getD .none) ?_ ?_
      rotate_left
      · intro i k' hik IH5
        refine PyProof.Rows.LCg.CompRest.succ ?_
        intro v I6 oI6 C6 oC6 D6 m6 h6 tk6 E6 hv6 hC6 hx6 F6 N6 off6 ne6
        obtain ⟨t6, hv6⟩ := hv6
        rw [Int.zero_add] at hv6
        subst hv6
        have ec := filter_snoc (fun _ : Nat => true) (List.range i) i
        rw [← List.range_succ, if_pos rfl] at ec
        rw [ec, List.map_append] at IH5
        have hi3 : i < 3 := by omega
        match i, hi3 with
        | 0, _ =>
          have hx7 : m6 "j" = some (Value.int 0 t6) := hx6
          clear hx6
          k_steps
          unfold Stop
          rename News g _ _ _ => N9
          refine sub_item (N9 _ (List.mem_append_right [_, _, _, _, _, _, _, _, _, _, _, _, _, _, _] V.tn)).1 rfl rfl (k := 5) rfl hv (by decide) ?_ rfl (fun _ => rfl)
          k_steps
          unfold Stop
          rename News g _ _ _ => N9
          have hlt : x / 1 % 5 < 5 := Nat.mod_lt _ (by decide)
          refine sub_item (N9 _ (List.mem_append_right [_, _, _] (.tail _ (.tail _ (.tail _ (.head _)))))).1 rfl rfl (k := x / 1 % 5) (e_end x 1 rfl) (by rw [List.getElem?_map, show sz[x / 1 % 5]? = some z0 from hz0]; rfl) (Nat.lt_trans hlt (by decide)) ?_ rfl (fun _ => rfl)
          k_steps
          unfold Stop
          rename Fr g _ _ _ => F9
          rename News g _ _ _ => N9
          exact PyProof.Rows.LCg.CompEnd.intro F9 N9 _ (fun p hp => hp) off6 trivial IH5
        | 1, _ =>
          have hx7 : m6 "j" = some (Value.int 1 t6) := hx6
          clear hx6
          k_steps
          unfold Stop
          rename News g _ _ _ => N9
          refine sub_item (N9 _ (List.mem_append_right [_, _, _, _, _, _, _, _, _, _, _, _, _, _, _] V.tn)).1 rfl rfl (k := 5) rfl hv (by decide) ?_ rfl (fun _ => rfl)
          k_steps
          unfold Stop
          rename News g _ _ _ => N9
          have hlt : x / 5 % 5 < 5 := Nat.mod_lt _ (by decide)
          refine sub_item (N9 _ (List.mem_append_right [_, _, _] (.tail _ (.tail _ (.tail _ (.head _)))))).1 rfl rfl (k := x / 5 % 5) (e_end x 5 rfl) (by rw [List.getElem?_map, show sz[x / 5 % 5]? = some z1 from hz1]; rfl) (Nat.lt_trans hlt (by decide)) ?_ rfl (fun _ => rfl)
          k_steps
          unfold Stop
          rename Fr g _ _ _ => F9
          rename News g _ _ _ => N9
          exact PyProof.Rows.LCg.CompEnd.intro F9 N9 _ (fun p hp => hp) off6 trivial IH5
        | 2, _ =>
          have hx7 : m6 "j" = some (Value.int 2 t6) := hx6
          clear hx6
          k_steps
          unfold Stop
          rename News g _ _ _ => N9
          refine sub_item (N9 _ (List.mem_append_right [_, _, _, _, _, _, _, _, _, _, _, _, _, _, _] V.tn)).1 rfl rfl (k := 5) rfl hv (by decide) ?_ rfl (fun _ => rfl)
          k_steps
          unfold Stop
          rename News g _ _ _ => N9
          have hlt : x / 25 % 5 < 5 := Nat.mod_lt _ (by decide)
          refine sub_item (N9 _ (List.mem_append_right [_, _, _] (.tail _ (.tail _ (.tail _ (.head _)))))).1 rfl rfl (k := x / 25 % 5) (e_end x 25 rfl) (by rw [List.getElem?_map, show sz[x / 25 % 5]? = some z2 from hz2]; rfl) (Nat.lt_trans hlt (by decide)) ?_ rfl (fun _ => rfl)
          k_steps
          unfold Stop
          rename Fr g _ _ _ => F9
          rename News g _ _ _ => N9
          exact PyProof.Rows.LCg.CompEnd.intro F9 N9 _ (fun p hp => hp) off6 trivial IH5
      refine PyProof.Rows.LCg.CompRest.zero ?_
      k_steps
      unfold Stop
      rename Fr g _ _ _ => F5
      rename News g _ _ _ => N5
      rename (Obj.data _ = Data.cell (some (Value.ref _))) => dEn2
      obtain ⟨En, hEn⟩ : ∃ En, En = cellRef dEn2 := ⟨_, rfl⟩
      dsimp only [cellRef] at hEn
      subst hEn
      clear hrng dEn
      refine eval_cell_range (F₀ := F5) (by with_unfolding_all rfl) (fun _ _ => rfl) (fun _ => rfl) (by rfl) (by decide) (by rfl) ?_
      k_steps
      rename Fr g _ _ _ => F6
      rename News g _ _ _ => N6
      rename (IsRange _ _ _ _ _ _ _ _) => hrng
      have N6' : News g L1 _ ((En, W.listOf (([z0, z1, z2] : List KnZ).map fun z : KnZ => Value.ref z.a).toArray 3) :: ledTail N6) := N6
      dsimp only [ledTail] at N6'
      clear N6
      refine ⟨_, _, _, _, _, _, 5, _, rfl, by rfl, F6, N6', hrng, by decide, by rfl, by decide, fun s₂ ⟨g', e'⟩ => ?_⟩
      subst e'
      refine cc_ind 5 (σ := SKl fun e => !((([z0, z1, z2].map fun z => z.ns).filter fun row => row.contains e) == [])) (fun st => st.i) (fun st => st.ys) (fun _ => _) ?_ ?_ ⟨0, [], .nil⟩ rfl
      rotate_left
      · intro st k' hst IHc
        obtain ⟨i, ys, hys⟩ := st
        dsimp only at hst IHc
        refine CcRest.succ ?_
        intro v I6 oI6 C6 oC6 c6 oc6 D6 h6 tk6 E6 hP6 hoc6 F7 N7 off7
        obtain ⟨t6, hv6⟩ := hP6
        rw [Int.zero_add] at hv6
        subst hv6
        simp only [List.cons_append, List.nil_append] at N7
        k_steps
        unfold Stop
        rename Fr g _ _ _ => F8
        rename News g _ _ _ => N8
        refine PyProof.Rows.LCt.ListComp_T (F₀ := F8) (by with_unfolding_all rfl) (by decide) (by rfl) (by decide) (by rfl) ?_
        k_steps
        unfold Stop
        rename Fr g _ _ _ => F9
        rename News g _ _ _ => N9
        refine PyProof.Rows.LCt.CompSrcT.ledger (by rfl) F9 N9 (its := ([z0, z1, z2].map fun z => Value.ref z.a).toArray) (k := 3) (List.mem_append_right [_, _, _, _] (.head _)) (show 3 ≤ _ by decide) ?_
        intro g'
        refine compT_ind [z0, z1, z2] (fun z => z.ns.contains i) (fun z => Value.ref z.a) rfl ?_ ?_
        rotate_left
        · intro done r rest' e5 IH5
          refine PyProof.Rows.LCt.CompRestT.succ ?_
          intro v J6 oJ6 H6 oH6 G6 m7 h7 tk7 E7 hv7 hH7 hx7 F7 N7 off8 ne7
          have hv8 : v = Value.ref r.a := by
            rw [e5] at hv7; simp at hv7; exact hv7.symm
          subst hv8
          have ec := filter_snoc (fun z : KnZ => z.ns.contains i) done r
          k_steps
          unfold Stop
          rename News g _ _ _ => N9
          have hr3 : r ∈ [z0, z1, z2] := by rw [e5]; simp
          refine kn_in (z := r) N9 (hezz r hr3).1 (List.mem_append_right [_, _, _, _, _, _, _, _, _, _, _, _, _, _, _, _, _, _, _, _] (hezz r hr3).2) ?_
          cases hsf : r.ns.contains i with
          | true =>
            rw [ec, if_pos hsf, List.map_append] at IH5
            k_steps
            unfold Stop
            rename Fr g _ _ _ => F9
            rename News g _ _ _ => N9
            exact PyProof.Rows.LCg.CompEnd.intro F9 N9 _ (fun p hp => hp) off8 (.inr ⟨_, List.mem_append_right [_, _, _, _] (.head _), rfl, _, rfl⟩) IH5
          | false =>
            rw [ec, if_neg (by rw [hsf]; simp)] at IH5
            k_steps
            unfold Stop
            rename Fr g _ _ _ => F9
            rename News g _ _ _ => N9
            exact PyProof.Rows.LCg.CompEnd.intro F9 N9 _ (fun p hp => hp) off8 (.inr ⟨_, List.mem_append_right [_, _, _, _] (.head _), rfl, _, rfl⟩) IH5
        rotate_left
        refine PyProof.Rows.LCt.CompRestT.zero ?_
        k_steps
        unfold Stop
        rename News g _ _ _ => N9
        have hrs : ∀ r ∈ [z0, z1, z2].filter (fun z => z.ns.contains i), r ∈ [z0, z1, z2] := fun r hr => (List.mem_filter.mp hr).1
        have hP : (!((([z0, z1, z2].map fun z => z.ns).filter fun row => row.contains i) == [])) = !([z0, z1, z2].filter (fun z => z.ns.contains i)).isEmpty := by
          rw [List.filter_map]
          show (!(List.map _ ([z0, z1, z2].filter (fun z => z.ns.contains i)) == [])) = _
          cases [z0, z1, z2].filter (fun z => z.ns.contains i) <;> rfl
        refine ne_rows (rows := [z0, z1, z2].filter (fun z => z.ns.contains i)) N9 (.tail _ (.head _)) (.head _) (fun r hr => ⟨(hezz r (hrs r hr)).1, List.mem_append_right [_, _, _, _, _, _, _, _, _, _, _, _, _, _, _, _, _, _, _] (hezz r (hrs r hr)).2⟩) (by ktr_units) ?_
        rw [← hP]
        clear hrs
        have ec := filter_snoc (fun e => !((([z0, z1, z2].map fun z => z.ns).filter fun row => row.contains e) == [])) (List.range i) i
        rw [← List.range_succ] at ec
        cases hb : (!((([z0, z1, z2].map fun z => z.ns).filter fun row => row.contains i) == [])) with
        | true =>
          k_steps
          unfold Stop
          rename Fr g _ _ _ => F10
          rename News g _ _ _ => N10
          refine CcEnd.intro F10 N10 _ (fun p hp => List.mem_append_right [_, _] hp) off7 (IHc ⟨i + 1, ys ++ [.int (i : Int) t6], ?_⟩ rfl)
          rw [ec, if_pos hb, List.map_append]
          exact hys.append (.cons _ _ .nil)
        | false =>
          k_steps
          unfold Stop
          rename Fr g _ _ _ => F10
          rename News g _ _ _ => N10
          refine CcEnd.intro F10 N10 _ (fun p hp => List.mem_append_right [_, _] hp) off7 (IHc ⟨i + 1, ys, ?_⟩ rfl)
          rw [ec, if_neg (by rw [hb]; simp)]
          exact hys
      · intro st hst
        obtain ⟨i, ys, hys⟩ := st
        dsimp only at hst
        subst hst
        refine CcRest.zero ?_
        intro D9 h9 tk9 F9 N9 off9
        clear hrng
        dsimp only at N9
        simp only [List.forall_mem_cons] at off9
        change @Ne Nat _ _ ∧ @Ne Nat _ _ ∧ @Ne Nat _ _ ∧ @Ne Nat _ _ ∧ @Ne Nat _ _ ∧ @Ne Nat _ _ ∧ @Ne Nat _ _ ∧ @Ne Nat _ _ ∧ @Ne Nat _ _ ∧ @Ne Nat _ _ ∧ @Ne Nat _ _ ∧ @Ne Nat _ _ ∧ @Ne Nat _ _ ∧ _ at off9
        k_steps
        unfold Stop
        rename Fr g _ _ _ => F10
        rename News g _ _ _ => N10
        obtain ⟨KL, hKL⟩ : ∃ KL, KL = lastD ns [snN ns (endN ns 0), snN ns (endN ns 1), snN ns (endN ns 2)] := ⟨_, rfl⟩
        have hys2 : IntsAre ys (KL.map fun x => ((x : Nat) : Int)) := by rw [hKL]; unfold lastD; rw [← hezn]; exact hys
        have hKl : ∀ e ∈ KL, e < 5 := by rw [hKL]; exact fun e he => List.mem_range.mp (List.mem_filter.mp he).1
        have hK5 : KL.length ≤ 5 := by rw [hKL]; exact Nat.le_trans (List.length_filter_le _ _) (by simp)
        have SO : StOk ⟨⟨D9, ys, ys.length, KL⟩, SE, sz, eS, NA, vN, eN, TX, vT, eT⟩ (nameN ns) (snN ns) (abN ns) 5 := by
          obtain ⟨hp1, _⟩ := past_run ns 5
          refine ⟨hys2, Nat.le_trans hK5 (by decide), hKl, by decide, fun e he => ?_, V.na, fun e => Nat.mod_lt _ (by decide), V.tx, fun e => rfl⟩
          obtain ⟨z, hz⟩ : ∃ z, sz[e]? = some z := ⟨_, List.getElem?_eq_getElem (by rw [show sz.length = 5 from V.lz]; exact he)⟩
          obtain ⟨h1, h2⟩ := V.se e z hz
          refine ⟨z, hz, h1, h2, ?_⟩
          have := sub_len (l' := List.range 5) (hp1.nd e he) fun x hx => List.mem_range.mpr (Nat.lt_of_le_of_lt (hp1.le e he x hx) he)
          rw [List.length_range] at this
          rw [h2]; omega
        refine' ConL.use0n (c_standing SO) ?B F10 X1 T1 ?hk ?hd ?hu True.intro N10 ?hN ?_
        case B => exact B1
        case hk => exact rfl
        case hd => ktr_room
        case hu => ktr_units
        case hN =>
          intro q hq
          rcases List.mem_cons.mp hq with rfl | hq
          · exact .head _
          · rcases List.mem_cons.mp hq with rfl | hq
            · exact .tail _ (.tail _ (.tail _ (.tail _ (.tail _ (.head _)))))
            · rcases List.mem_cons.mp hq with rfl | hq
              · exact .tail _ (.tail _ (.tail _ (.head _)))
              · rcases List.mem_cons.mp hq with rfl | hq
                · exact .tail _ (.tail _ (.tail _ (.tail _ (.head _))))
                · obtain ⟨z, hz, rfl⟩ := List.mem_map.mp hq
                  exact List.mem_append_right [_, _, _, _, _, _, _, _, _, _, _, _, _, _] (V.tz z hz)
        intro r h30 tk30 F30 N30 K30 FN P30
        obtain ⟨z, hzr, hzn, hzs⟩ := P30
        subst hzr
        have hz1 : ∀ q ∈ showLed z, q.1 ≠ DU := fun q hq => Ne.symm (FN q.1 (hzn q hq).1 (DU, W.listOf (zs.map fun z => .ref z.D).toArray eD) (.tail _ (.tail _ (.head _))))
        have hz2 : ∀ q ∈ showLed z, q.1 ≠ Nn := fun q hq => Ne.symm (FN q.1 (hzn q hq).1 (Nn, lstObj vs n) (List.mem_append_right [_, _, _, _, _, _, _, _, _, _, _, _, _, _] V.tn))
        have N32 : News g L1 h30 ((DU, W.listOf (zs.map fun z => .ref z.D).toArray eD) :: (showLed z ++ T)) := news_sub (NewIn.news hzn F10 K30 N10) fun q hq => by
          rcases List.mem_cons.mp hq with rfl | h
          · exact List.mem_append_right _ (.tail _ (.tail _ (.head _)))
          · rcases List.mem_append.mp h with h | h
            · exact List.mem_append_left _ h
            · exact List.mem_append_right _ (List.mem_append_right [_, _, _, _, _, _, _, _, _, _, _, _, _, _] h)
        have hoD : ∀ p ∈ showLed z ++ T, p.1 ≠ DU := fun p hp => (List.mem_append.mp hp).elim (hz1 p) (o1 p)
        clear F10 N10 N30 hezz hezn hys hz0 hz1
        k_steps
        unfold Stop
        rename Fr g _ _ _ => F33
        rename News g _ _ _ => N33
        have hzl : zs.length = 5 := by
          have h1 := V.zs.len
          rw [show (dueL ns 5).length = 5 by simp [dueL]] at h1
          exact h1
        refine append_head F33 N33 hoD (by rw [List.size_toArray, List.length_map, hzl]; decide) ?_
        intro h34 F34 N34
        rw [List.push_toArray, show zs.map (fun z => Value.ref z.D) ++ [Value.ref z.D] = (zs ++ [z]).map (fun z => Value.ref z.D) by simp] at N34
        clear F33 N33
        have hnew : ∀ q ∈ ledOf N34, q.1 ≠ Nn → s.heap.get? q.1 = none ∧ h34.get? q.1 = some q.2 := fun q hq hne => ⟨fresh_led hG N34 hq (fun hm => hne (List.mem_singleton.mp hm)), N34.get hq⟩
        have hDN : DU ≠ Nn := by k_ne
        k_steps
        refine hret _ _ _ (by assumption) (kept_led hG F34 N34 N0 fun q hq => .inr (by rw [List.mem_singleton.mp hq]; exact .tail _ (List.mem_append_right _ V.tn))) ⟨zs ++ [z], DU, eD + 1, rfl, List.forall_mem_cons.mpr ⟨hnew _ (.head _) hDN, fun q hq => ?_⟩, ?_⟩
        · obtain ⟨y, hy, hqy⟩ := List.mem_flatMap.mp hq
          rcases List.mem_append.mp hy with hy | hy
          · exact hnew q (.tail _ (List.mem_append_right _ (V.ts y hy q hqy))) (V.nn y hy q hqy)
          · rw [List.mem_singleton.mp hy] at hqy
            exact hnew q (.tail _ (List.mem_append_left _ hqy)) (hz2 q hqy)
        · refine V.zs.snoc ?_
          have hzs' : Shows z ((standF (nameN ns) (snN ns) KL).map (abN ns)) := hzs
          rw [hKL] at hzs'
          exact hzs'
    · have hk1 : k < 5 := by omega
      refine loopE_range F' N' (by omega) ?_ ?_
      · simp only [List.forall_mem_cons]
        refine ⟨?_, ?_, ?_, ?_, ?_, ?_, ?_, ?_, ?_, ?_, ?_, ?_, hoI⟩ <;> k_ne
      intro t h2 tk2 F2 N2
      clear F' N'
      have hkn : k < ns.length := by omega
      have hv : ∃ t, vs[k]? = some (.int ((ns.getD k 0 : Nat) : Int) t) := intsAt hvs (by rw [List.getElem?_map, List.getElem?_eq_getElem hkn, List.getD_eq_getElem?_getD, List.getElem?_eq_getElem hkn]; rfl)
      obtain ⟨tv, hv⟩ := hv
      obtain ⟨x, hx⟩ : ∃ x, x = ns.getD k 0 := ⟨_, rfl⟩
      rw [← hx] at hv
      have x2 : x % 2 < 2 := Nat.mod_lt _ (by decide)
      have eS2 : siteN ns k = x % 2 := by unfold siteN; rw [← hx]
      have eE : earlyN ns k = x / 2 % 60 % (k + 1) := by unfold earlyN; rw [← hx]
      have hKW : #[Value.ref (kk 0).a, .ref (kk 1).a].toList[x % 2]? = some (.ref (kk (x % 2)).a) := by
        rcases Nat.lt_or_ge (x % 2) 1 with h | h
        · rw [show x % 2 = 0 by omega]; rfl
        · rw [show x % 2 = 1 by omega]; rfl
      obtain ⟨hp1, hp2⟩ := past_run ns (k + 1)
      obtain ⟨pre, hs, hp⟩ := past_pre ns k
      k_steps
      unfold Stop
      rename News g _ _ _ => N3
      refine sub_item (N3 _ (List.mem_append_right [_, _, _, _, _, _, _, _, _, _, _, _, _] V.tn)).1 rfl rfl rfl hv (Nat.lt_of_lt_of_le hk1 (by decide)) ?_ rfl (fun _ => rfl)
      k_steps
      unfold Stop
      rename News g _ _ _ => N3
      refine sub_item (N3 _ (.tail _ (.tail _ (.tail _ (.tail _ (.tail _ (.head _))))))).1 rfl rfl (k := x % 2) (e_mod2 x) hKW (Nat.lt_of_lt_of_le x2 (by decide)) ?_ rfl (fun _ => rfl)
      k_steps
      rotate_left
      unfold Stop
      rename (¬ Int.fmod _ _ < _) => he
      rw [e_early] at he
      have he : ¬ x / 2 % 60 % (k + 1) < k := by omega
      rename News g _ _ _ => N9
      obtain ⟨hk1', hk2'⟩ := V.kk _ x2
      rename (Obj.data _ = Data.cell (some (Value.ref _))) => dKn2
      obtain ⟨P, hPok, hPns, hPm, hPo, hPa⟩ : ∃ P : KnZ, P.ok ∧ P.ns = pre ∧ P.obj ∈ ledOf N9 ∧ (∀ a ∈ muD I DU NA TX SE KW L1, P.a ≠ a) ∧ P.a = cellRef dKn2 := by
        refine ⟨kk (x % 2), hk1', ?_, List.mem_append_right [_, _, _, _, _, _, _, _, _, _, _, _, _, _] (V.tk _ x2), V.off _ (V.tk _ x2), rfl⟩
        rw [hp, eE, if_neg he, eS2, hk2']
      rotate_left
      unfold Stop
      rename (Int.fmod _ _ < _) => he
      rw [e_early] at he
      have he : x / 2 % 60 % (k + 1) < k := by omega
      obtain ⟨ze, hze⟩ : ∃ z, sz[x / 2 % 60 % (k + 1)]? = some z := ⟨_, List.getElem?_eq_getElem (by rw [show sz.length = k from V.lz]; exact he)⟩
      obtain ⟨hz1, hz2⟩ := V.se _ _ hze
      obtain ⟨hk1', hk2'⟩ := V.kk _ x2
      rename Fr g _ _ _ => F8
      rename News g _ _ _ => N8
      refine PyProof.Rows.LCt.ListComp_T (F₀ := F8) (by with_unfolding_all rfl) (by decide) (by rfl) (by decide) (by rfl) ?_
      k_steps
      unfold Stop
      rename Fr g _ _ _ => F9
      rename News g _ _ _ => N9
      rename (IsRange _ _ _ _ _ _ _ _) => hrng
      refine PyProof.Rows.LCt.CompSrcT.range (by rfl) F9 N9 hrng (small_range k (by omega)).1 (small_range k (by omega)).2 (Nat.le_trans hk5 (by decide)) ?_
      intro g'
      refine compI_ind k (fun e => (kk (x % 2)).ns.contains e || ze.ns.contains e) ?_ ?_
      rotate_left
      · intro i k' ys hik hys IHc
        refine PyProof.Rows.LCt.CompRestT.succ ?_
        intro v I6 oI6 C6 oC6 D6 m6 h6 tk6 E6 hv6 hC6 hx6 F6 N6 off6 ne6
        obtain ⟨t6, hv6⟩ := hv6
        rw [Int.zero_add] at hv6
        subst hv6
        k_steps
        unfold Stop
        rename News g _ _ _ => N7
        refine kn_in (z := kk (x % 2)) N7 hk1' (List.mem_append_right [_, _, _, _, _, _, _, _, _, _, _, _, _, _, _, _] (V.tk _ x2)) ?_
        have ec := filter_snoc (fun e => (kk (x % 2)).ns.contains e || ze.ns.contains e) (List.range i) i
        rw [← List.range_succ] at ec
        have hys' : ∀ b : Bool, ((kk (x % 2)).ns.contains i || ze.ns.contains i) = b → IntsAre (if b = true then ys ++ [.int (i : Int) t6] else ys) (((List.range (i + 1)).filter fun e => (kk (x % 2)).ns.contains e || ze.ns.contains e).map fun x => ((x : Nat) : Int)) := fun b hb => by
          rw [ec]
          cases b with
          | true => rw [if_pos hb, if_pos rfl, List.map_append]; exact hys.append (.cons _ _ .nil)
          | false => rw [if_neg (show ¬ (false = true) by simp), if_neg (by rw [hb]; simp)]; exact hys
        cases hb1 : (kk (x % 2)).ns.contains i with
        | true =>
          k_steps
          unfold Stop
          rename Fr g _ _ _ => F9
          rename News g _ _ _ => N9
          exact PyProof.Rows.LCg.CompEnd.intro F9 N9 _ (fun p hp => hp) off6 trivial (IHc _ (hys' true (by rw [hb1]; rfl)))
        | false =>
          k_steps
          unfold Stop
          rename News g _ _ _ => N9
          refine sub_item (N9 _ (List.mem_append_right [_, _, _, _, _, _, _] (.head _))).1 rfl rfl (e_early x k) (by rw [List.getElem?_map, hze]; rfl) (Nat.lt_trans he (Nat.lt_of_lt_of_le hk1 (by decide))) ?_ rfl (fun _ => rfl)
          k_steps
          unfold Stop
          rename News g _ _ _ => N9
          refine kn_in (z := ze) N9 hz1 (List.mem_append_right [_, _, _, _, _, _, _, _, _, _, _, _, _, _, _, _] (V.tz _ (List.mem_of_getElem? hze))) ?_
          cases hb2 : ze.ns.contains i with
          | true =>
            k_steps
            unfold Stop
            rename Fr g _ _ _ => F9
            rename News g _ _ _ => N9
            exact PyProof.Rows.LCg.CompEnd.intro F9 N9 _ (fun p hp => hp) off6 trivial (IHc _ (hys' true (by rw [hb1, hb2]; rfl)))
          | false =>
            k_steps
            unfold Stop
            rename Fr g _ _ _ => F9
            rename News g _ _ _ => N9
            exact PyProof.Rows.LCg.CompEnd.intro F9 N9 _ (fun p hp => hp) off6 trivial (IHc _ (hys' false (by rw [hb1, hb2]; rfl)))
      rotate_left
      intro ys hys
      refine PyProof.Rows.LCt.CompRestT.zero ?_
      rename Fr g _ _ _ => F8
      rename News g _ _ _ => N8
      clear hrng
      k_steps
      unfold Stop
      rename News g _ _ _ => N9
      rename ((_ : Nat) ≠ _) ∧ _ => ho
      rename (Obj.data _ = Data.cell (some (Value.ref _))) => dKn2
      obtain ⟨P, hPok, hPns, hPm, hPo, hPa⟩ : ∃ P : KnZ, P.ok ∧ P.ns = pre ∧ P.obj ∈ ledOf N9 ∧ (∀ a ∈ muD I DU NA TX SE KW L1, P.a ≠ a) ∧ P.a = cellRef dKn2 := by
        refine ⟨⟨_, ys, _, _⟩, hys, ?_, .tail _ (.head _), mu_conj ho, rfl⟩
        rw [hp, eE, if_pos he, eS2, runD_get ns k _ he, ← hz2, hk2']
      all_goals
        rename Fr g _ _ _ => F10
        rename News g _ _ _ => N10
        dsimp only [cellRef] at hPa
        rename (Obj.data _ = Data.cell (some (Value.int _ _))) => dEa2
        have N11 : News g L1 _ ((_, W.listOf #[Value.int (k : Int) _] 0) :: (I, itR ((k : Int) + 1) (((5 - k : Nat) : Int) - 1)) :: (DU, W.listOf (zs.map fun z => .ref z.D).toArray eD) :: (NA, W.listOf vN.toArray eN) :: (TX, W.listOf vT.toArray eT) :: (SE, W.listOf (sz.map fun z => .ref z.a).toArray eS) ::
          (KW, W.listOf #[.ref (kk 0).a, .ref (kk 1).a] eK) :: (L1 + 1 + 1 + 1 + 1 + 1 + 1 + 1, oEn) :: (L1 + 1 + 1 + 1 + 1 + 1 + 1, oFl) :: (L1 + 1 + 1 + 1 + 1 + 1, objOf dKn2) :: (L1 + 1 + 1 + 1 + 1, objOf dEa2) :: (L1 + 1 + 1 + 1, oSe2) :: (L1 + 1 + 1, oWo2) :: (L1 + 1, oNu) :: P.obj :: T) :=
          List.forall_mem_cons.mpr ⟨N10 _ (.head _), news_sub N10 fun q hq => ?_⟩
        rotate_left
        · rcases mem_mid2 (l := [_, _, _, _, _, _, _, _, _, _, _, _, _]) hq with e | h
          · rw [e]; exact hPm
          · first | exact .tail _ (.tail _ h) | exact .tail _ h
        have hT2 : ∀ p ∈ P.obj :: T, ∀ a ∈ muD I DU NA TX SE KW L1, p.1 ≠ a := List.forall_mem_cons.mpr ⟨hPo, V.off⟩
        have hsub : ∀ q ∈ T, q ∈ P.obj :: T := fun q hq => .tail _ hq
        have hPm2 : P.obj ∈ P.obj :: T := .head _
        clear hPm hPo N10
        generalize P.obj :: T = T2 at N11 hT2 hsub hPm2
        clear hoI o1 o2 o3 o4 o5 o6 o7 o8 o9
        have hoI : ∀ p ∈ T2, p.1 ≠ I := fun p hp => hT2 p hp _ (.head _)
        have o1 : ∀ p ∈ T2, p.1 ≠ DU := fun p hp => hT2 p hp _ (.tail _ (.head _))
        have o2 : ∀ p ∈ T2, p.1 ≠ NA := fun p hp => hT2 p hp _ (.tail _ (.tail _ (.head _)))
        have o3 : ∀ p ∈ T2, p.1 ≠ TX := fun p hp => hT2 p hp _ (.tail _ (.tail _ (.tail _ (.head _))))
        have o4 : ∀ p ∈ T2, p.1 ≠ SE := fun p hp => hT2 p hp _ (.tail _ (.tail _ (.tail _ (.tail _ (.head _)))))
        have o5 : ∀ p ∈ T2, p.1 ≠ KW := fun p hp => hT2 p hp _ (.tail _ (.tail _ (.tail _ (.tail _ (.tail _ (.head _))))))
        have o6 : ∀ p ∈ T2, p.1 ≠ L1 + 1 + 1 + 1 + 1 := fun p hp => hT2 p hp _ (.tail _ (.tail _ (.tail _ (.tail _ (.tail _ (.tail _ (.head _)))))))
        have o7 : ∀ p ∈ T2, p.1 ≠ L1 + 1 + 1 + 1 + 1 + 1 := fun p hp => hT2 p hp _ (.tail _ (.tail _ (.tail _ (.tail _ (.tail _ (.tail _ (.tail _ (.head _))))))))
        have o8 : ∀ p ∈ T2, p.1 ≠ L1 + 1 + 1 + 1 + 1 + 1 + 1 := fun p hp => hT2 p hp _ (.tail _ (.tail _ (.tail _ (.tail _ (.tail _ (.tail _ (.tail _ (.tail _ (.head _)))))))))
        have o9 : ∀ p ∈ T2, p.1 ≠ L1 + 1 + 1 + 1 + 1 + 1 + 1 + 1 := fun p hp => hT2 p hp _ (.tail _ (.tail _ (.tail _ (.tail _ (.tail _ (.tail _ (.tail _ (.tail _ (.tail _ (.head _))))))))))
        have hsn : snN ns k = P.ns ++ [k] := by rw [hs, hPns]
        have hl5 : (snN ns k).length ≤ 5 := by
          have := sub_len (l' := List.range 5) (hp1.nd k (Nat.lt_succ_self _)) fun e he => List.mem_range.mpr (Nat.lt_of_le_of_lt (hp1.le k (Nat.lt_succ_self _) e he) hk1)
          simpa using this
        have hPl : P.vs.length ≤ 5 := by
          have h1 := hPok.length
          rw [List.length_map] at h1
          rw [hsn, List.length_append] at hl5
          omega
        rw [← hPa]
        refine kmk_add_lit (zs := P.vs ++ [_]) F10 N11 (News.isList (items := P.vs.toArray) N11 (List.mem_append_right [_, _, _, _, _, _, _, _, _, _, _, _, _, _] hPm2)) (News.isList N11 (.head _)) rfl ?_ (by
          have h1 : P.vs.toArray.toList.length + 1 ≤ 6 := Nat.succ_le_succ hPl
          exact Nat.le_trans h1 (by decide))
        intro Dn h12 F12 N12 l12
        have oDn := fun p hp => Nat.ne_of_lt (l12 p hp)
        have muDn := mu_new2 fun p hp => oDn p (.tail _ hp)
        obtain ⟨Nz, hNa, hNok, hNns, hNob⟩ : ∃ Nz : KnZ, Nz.a = Dn ∧ Nz.ok ∧ Nz.ns = snN ns k ∧ Nz.obj = (Dn, W.listOf (P.vs ++ [Value.int (k : Int) t]).toArray 0) := by
          refine ⟨⟨Dn, P.vs ++ [Value.int (k : Int) t], 0, snN ns k⟩, rfl, ?_, rfl, rfl⟩
          show IntsAre _ _
          rw [hsn, List.map_append]
          exact IntsAre.append hPok (.cons _ _ .nil)
        have N13 : News g L1 h12 ((I, itR ((k : Int) + 1) (((5 - k : Nat) : Int) - 1)) :: (DU, W.listOf (zs.map fun z => .ref z.D).toArray eD) :: (NA, W.listOf vN.toArray eN) :: (TX, W.listOf vT.toArray eT) :: (SE, W.listOf (sz.map fun z => .ref z.a).toArray eS) :: (KW, W.listOf #[.ref (kk 0).a, .ref (kk 1).a] eK) :: (L1 + 1 + 1 + 1 + 1 + 1 + 1 + 1, oEn) :: (L1 + 1 + 1 + 1 + 1 + 1 + 1, oFl) :: (L1 + 1 + 1 + 1 + 1 + 1, objOf dKn2) :: (L1 + 1 + 1 + 1 + 1, objOf dEa2) :: (L1 + 1 + 1 + 1, oSe2) :: (L1 + 1 + 1, oWo2) :: (L1 + 1, oNu) :: Nz.obj :: T2) := news_sub N12 fun q hq => by
          rcases mem_mid2 (l := [_, _, _, _, _, _, _, _, _, _, _, _, _]) hq with e | h
          · rw [e, hNob]; exact .head _
          · exact .tail _ (.tail _ h)
        have hT3 : ∀ p ∈ Nz.obj :: T2, ∀ a ∈ muD I DU NA TX SE KW L1, p.1 ≠ a := List.forall_mem_cons.mpr ⟨by rw [hNob]; exact muDn, hT2⟩
        have hNm : Nz.obj ∈ Nz.obj :: T2 := .head _
        replace hsub : ∀ q ∈ T, q ∈ Nz.obj :: T2 := fun q hq => .tail _ (hsub q hq)
        clear N11 N12 hT2 oDn muDn l12
        generalize Nz.obj :: T2 = T3 at N13 hT3 hsub hNm
        clear hoI o1 o2 o3 o4 o5 o6 o7 o8 o9
        have hoI : ∀ p ∈ T3, p.1 ≠ I := fun p hp => hT3 p hp _ (.head _)
        have o1 : ∀ p ∈ T3, p.1 ≠ DU := fun p hp => hT3 p hp _ (.tail _ (.head _))
        have o2 : ∀ p ∈ T3, p.1 ≠ NA := fun p hp => hT3 p hp _ (.tail _ (.tail _ (.head _)))
        have o3 : ∀ p ∈ T3, p.1 ≠ TX := fun p hp => hT3 p hp _ (.tail _ (.tail _ (.tail _ (.head _))))
        have o4 : ∀ p ∈ T3, p.1 ≠ SE := fun p hp => hT3 p hp _ (.tail _ (.tail _ (.tail _ (.tail _ (.head _)))))
        have o5 : ∀ p ∈ T3, p.1 ≠ KW := fun p hp => hT3 p hp _ (.tail _ (.tail _ (.tail _ (.tail _ (.tail _ (.head _))))))
        have o6 : ∀ p ∈ T3, p.1 ≠ L1 + 1 + 1 + 1 + 1 := fun p hp => hT3 p hp _ (.tail _ (.tail _ (.tail _ (.tail _ (.tail _ (.tail _ (.head _)))))))
        have o7 : ∀ p ∈ T3, p.1 ≠ L1 + 1 + 1 + 1 + 1 + 1 := fun p hp => hT3 p hp _ (.tail _ (.tail _ (.tail _ (.tail _ (.tail _ (.tail _ (.tail _ (.head _))))))))
        have o8 : ∀ p ∈ T3, p.1 ≠ L1 + 1 + 1 + 1 + 1 + 1 + 1 := fun p hp => hT3 p hp _ (.tail _ (.tail _ (.tail _ (.tail _ (.tail _ (.tail _ (.tail _ (.tail _ (.head _)))))))))
        have o9 : ∀ p ∈ T3, p.1 ≠ L1 + 1 + 1 + 1 + 1 + 1 + 1 + 1 := fun p hp => hT3 p hp _ (.tail _ (.tail _ (.tail _ (.tail _ (.tail _ (.tail _ (.tail _ (.tail _ (.tail _ (.head _))))))))))
        subst hNa
        clear F10 hNob hPm2 hPok
        k_steps
        unfold Stop
        rename Fr g _ _ _ => F14
        rename News g _ _ _ => N14
        rw [e_mod2 x]
        refine' set_U F14 N14 ?U (Int.natCast_nonneg _) ?hk (by omega) ?_
        case U => k_updF
        case hk => show ((x % 2 : Nat) : Int) < 2; omega
        intro h15 F15 N15
        obtain ⟨kk2, hkk2, hkks⟩ : ∃ kk2 : Nat → KnZ, (#[Value.ref (kk 0).a, .ref (kk 1).a] : Array Value).setIfInBounds ((x % 2 : Nat) : Int).toNat (.ref Nz.a) = #[.ref (kk2 0).a, .ref (kk2 1).a] ∧ ∀ i, kk2 i = if i = x % 2 then Nz else kk i := by
          refine ⟨fun i => if i = x % 2 then Nz else kk i, ?_, fun _ => rfl⟩
          rcases Nat.lt_or_ge (x % 2) 1 with h | h
          · rw [show x % 2 = 0 by omega]; rfl
          · rw [show x % 2 = 1 by omega]; rfl
        rw [hkk2] at N15
        clear F14 N14 hkk2 hKW
        k_steps
        unfold Stop
        rename Fr g _ _ _ => F16
        rename News g _ _ _ => N16
        refine' append_U F16 N16 ?U ?hz ?_
        case U => k_updF
        case hz => rw [List.size_toArray, List.length_map, show sz.length = k from V.lz]; omega
        intro h17 F17 N17
        rw [List.push_toArray, show sz.map (fun z => Value.ref z.a) ++ [Value.ref Nz.a] = (sz ++ [Nz]).map (fun z => Value.ref z.a) by simp] at N17
        clear F16 N16
        k_steps
        unfold Stop
        rename Fr g _ _ _ => F18
        rename News g _ _ _ => N18
        refine PyProof.Rows.LCt.ListComp_T (F₀ := F18) (by with_unfolding_all rfl) (by decide) (by rfl) (by decide) (by rfl) ?_
        k_steps
        unfold Stop
        rename Fr g _ _ _ => F19
        rename News g _ _ _ => N19
        obtain ⟨rn, hn1, hn2⟩ := ints_rows hNok
        have hrl : rn.length ≤ 5 := by
          rw [← List.length_map (f := fun r : Nat × Tok => r.1), hn1, hNns]; exact hl5
        have hrm : ∀ r ∈ rn, r.1 ≤ k := fun r hr => by
          have : r.1 ∈ rn.map (fun r => r.1) := List.mem_map_of_mem hr
          rw [hn1, hNns] at this
          exact hp1.le k (Nat.lt_succ_self _) _ this
        refine PyProof.Rows.LCt.CompSrcT.ledger (by rfl) F19 N19 (its := Nz.vs.toArray) (k := Nz.n) (List.mem_append_right [_, _, _, _, _, _, _, _, _, _, _, _, _] hNm) (by rw [← hn2, List.size_toArray, List.length_map]; exact Nat.le_trans hrl (by decide)) ?_
        intro g'
        refine compT_ind rn (fun r => siteN ns r.1 == 0) (fun r => Value.int ((r.1 : Nat) : Int) r.2) (by rw [← hn2]; simp) ?_ ?_
        rotate_left
        · intro done r rest' e5 IH5
          refine PyProof.Rows.LCt.CompRestT.succ ?_
          intro v I6 oI6 C6 oC6 D6 m6 h6 tk6 E6 hv6 hC6 hx6 F6 N6 off6 ne6
          have hv7 : v = Value.int ((r.1 : Nat) : Int) r.2 := by
            rw [← hn2, e5] at hv6; simp at hv6; exact hv6.symm
          subst hv7
          have ec := filter_snoc (fun r : Nat × Tok => siteN ns r.1 == 0) done r
          have hrk : r.1 < ns.length := by have := hrm r (by rw [e5]; simp); omega
          have hvr : ∃ t, vs[r.1]? = some (.int ((ns.getD r.1 0 : Nat) : Int) t) := intsAt hvs (by rw [List.getElem?_map, List.getElem?_eq_getElem hrk, List.getD_eq_getElem?_getD, List.getElem?_eq_getElem hrk]; rfl)
          obtain ⟨tr, hvr⟩ := hvr
          have hsr : siteN ns r.1 = ns.getD r.1 0 % 2 := rfl
          generalize ns.getD r.1 0 = y at hvr hsr
          k_steps
          unfold Stop
          rename News g _ _ _ => N9
          refine sub_item (N9 _ (List.mem_append_right [_, _, _, _, _, _, _, _, _, _, _, _, _, _, _, _] (hsub _ V.tn))).1 rfl rfl rfl hvr (Nat.lt_of_lt_of_le hrk (by rw [hns]; decide)) ?_ rfl (fun _ => rfl)
          k_steps
          · unfold Stop
            rename Fr g _ _ _ => F9
            rename News g _ _ _ => N9
            rename (Int.fmod _ _ = _) => hq
            rw [e_mod2] at hq
            have hq' : (siteN ns r.1 == 0) = true := by rw [hsr]; simp; omega
            rw [ec, if_pos hq', List.map_append] at IH5
            exact PyProof.Rows.LCg.CompEnd.intro F9 N9 _ (fun p hp => hp) off6 (.inr ⟨_, List.mem_append_right [_, _, _, _, _, _, _, _, _, _, _, _, _] hNm, rfl, _, rfl⟩) IH5
          · unfold Stop
            rename Fr g _ _ _ => F9
            rename News g _ _ _ => N9
            rename (¬ Int.fmod _ _ = _) => hq
            rw [e_mod2] at hq
            have hq' : ¬ (siteN ns r.1 == 0) = true := by rw [hsr]; simp; omega
            rw [ec, if_neg hq'] at IH5
            exact PyProof.Rows.LCg.CompEnd.intro F9 N9 _ (fun p hp => hp) off6 (.inr ⟨_, List.mem_append_right [_, _, _, _, _, _, _, _, _, _, _, _, _] hNm, rfl, _, rfl⟩) IH5
        rotate_left
        refine PyProof.Rows.LCt.CompRestT.zero ?_
        k_steps
        unfold Stop
        rename News g _ _ _ => N20
        have hones : (rn.filter (fun r => siteN ns r.1 == 0)).length = cntS (siteN ns) 0 (snN ns k) := by
          rw [← hNns, ← hn1]
          unfold cntS
          rw [List.filter_map, List.length_map]
          rfl
        refine call_len_list (News.isList N20 (.head _)) (by rw [List.size_toArray, List.length_map]; have := List.length_filter_le (fun r : Nat × Tok => siteN ns r.1 == 0) rn; omega) ?_
        rw [List.size_toArray, List.length_map, hones]
        k_steps
        unfold Stop
        rename Fr g _ _ _ => F21
        rename News g _ _ _ => N21
        rename (IsRange _ _ _ _ _ _ _ _) => hrng
        rename (Obj.data _ = Data.cell (some (Value.int (_ + _) _))) => dFl2
        rw [e_flag x] at dFl2
        have hfl : flagN ns k = x / 480 % 7 + 1 := by unfold flagN; rw [← hx]
        rw [← hfl] at dFl2
        have hfl1 : 1 ≤ flagN ns k ∧ flagN ns k ≤ 7 := by
          have : x / 480 % 7 < 7 := Nat.mod_lt _ (by decide)
          omega
        obtain ⟨fl, hflE⟩ : ∃ fl, fl = flagN ns k := ⟨_, rfl⟩
        rw [← hflE] at dFl2 hfl1
        refine PyProof.Rows.LCt.CompSrcT.range (by rfl) F21 N21 hrng (by decide) (by rfl) (show 3 ≤ sizeLine by decide) ?_
        intro g'
        refine compR_ind 3 (fun i => fl / 2 ^ i % 2 == 1) (fun i => ([Value.str (Str.ofString "OPTIMIZED") w0, .str (Str.ofString "NEWLOCALS") w1, .str (Str.ofString "VARARGS") w2][i]?).getD .none) ?_ ?_
        rotate_left
        · intro i k' hik IH5
          refine PyProof.Rows.LCt.CompRestT.succ ?_
          intro v I6 oI6 C6 oC6 D6 m6 h6 tk6 E6 hv6 hC6 hx6 F6 N6 off6 ne6
          obtain ⟨t6, hv6⟩ := hv6
          rw [Int.zero_add] at hv6
          subst hv6
          have ec := filter_snoc (fun i => fl / 2 ^ i % 2 == 1) (List.range i) i
          rw [← List.range_succ] at ec
          have hi3 : i < 3 := by omega
          match i, hi3 with
          | 0, _ =>
            have hx7 : m6 "i" = some (Value.int 0 t6) := hx6
            clear hx6
            k_steps
            · unfold Stop
              rename News g _ _ _ => N9
              rename (Int.fmod _ _ = _) => hq
              rw [e_bit fl 1 (y := 2 ^ Int.toNat 0) rfl] at hq
              have hq' : (fl / 2 ^ 0 % 2 == 1) = true := by show (fl / 1 % 2 == 1) = true; simp; omega
              rw [ec, if_pos hq', List.map_append] at IH5
              refine sub_item (N9 _ (List.mem_append_right [_, _, _, _, _, _, _, _, _, _, _, _, _, _, _, _, _] (hsub _ V.tw))).1 rfl rfl (k := 0) rfl rfl (by decide) ?_ rfl (fun _ => rfl)
              k_steps
              unfold Stop
              rename Fr g _ _ _ => F9
              rename News g _ _ _ => N9
              exact PyProof.Rows.LCg.CompEnd.intro F9 N9 _ (fun p hp => hp) off6 trivial IH5
            · unfold Stop
              rename Fr g _ _ _ => F9
              rename News g _ _ _ => N9
              rename (¬ Int.fmod _ _ = _) => hq
              rw [e_bit fl 1 (y := 2 ^ Int.toNat 0) rfl] at hq
              have hq' : ¬ (fl / 2 ^ 0 % 2 == 1) = true := by show ¬ (fl / 1 % 2 == 1) = true; simp; omega
              rw [ec, if_neg hq'] at IH5
              exact PyProof.Rows.LCg.CompEnd.intro F9 N9 _ (fun p hp => hp) off6 trivial IH5
          | 1, _ =>
            have hx7 : m6 "i" = some (Value.int 1 t6) := hx6
            clear hx6
            k_steps
            · unfold Stop
              rename News g _ _ _ => N9
              rename (Int.fmod _ _ = _) => hq
              rw [e_bit fl 2 (y := 2 ^ Int.toNat 1) rfl] at hq
              have hq' : (fl / 2 ^ 1 % 2 == 1) = true := by show (fl / 2 % 2 == 1) = true; simp; omega
              rw [ec, if_pos hq', List.map_append] at IH5
              refine sub_item (N9 _ (List.mem_append_right [_, _, _, _, _, _, _, _, _, _, _, _, _, _, _, _, _] (hsub _ V.tw))).1 rfl rfl (k := 1) rfl rfl (by decide) ?_ rfl (fun _ => rfl)
              k_steps
              unfold Stop
              rename Fr g _ _ _ => F9
              rename News g _ _ _ => N9
              exact PyProof.Rows.LCg.CompEnd.intro F9 N9 _ (fun p hp => hp) off6 trivial IH5
            · unfold Stop
              rename Fr g _ _ _ => F9
              rename News g _ _ _ => N9
              rename (¬ Int.fmod _ _ = _) => hq
              rw [e_bit fl 2 (y := 2 ^ Int.toNat 1) rfl] at hq
              have hq' : ¬ (fl / 2 ^ 1 % 2 == 1) = true := by show ¬ (fl / 2 % 2 == 1) = true; simp; omega
              rw [ec, if_neg hq'] at IH5
              exact PyProof.Rows.LCg.CompEnd.intro F9 N9 _ (fun p hp => hp) off6 trivial IH5
          | 2, _ =>
            have hx7 : m6 "i" = some (Value.int 2 t6) := hx6
            clear hx6
            k_steps
            · unfold Stop
              rename News g _ _ _ => N9
              rename (Int.fmod _ _ = _) => hq
              rw [e_bit fl 4 (y := 2 ^ Int.toNat 2) rfl] at hq
              have hq' : (fl / 2 ^ 2 % 2 == 1) = true := by show (fl / 4 % 2 == 1) = true; simp; omega
              rw [ec, if_pos hq', List.map_append] at IH5
              refine sub_item (N9 _ (List.mem_append_right [_, _, _, _, _, _, _, _, _, _, _, _, _, _, _, _, _] (hsub _ V.tw))).1 rfl rfl (k := 2) rfl rfl (by decide) ?_ rfl (fun _ => rfl)
              k_steps
              unfold Stop
              rename Fr g _ _ _ => F9
              rename News g _ _ _ => N9
              exact PyProof.Rows.LCg.CompEnd.intro F9 N9 _ (fun p hp => hp) off6 trivial IH5
            · unfold Stop
              rename Fr g _ _ _ => F9
              rename News g _ _ _ => N9
              rename (¬ Int.fmod _ _ = _) => hq
              rw [e_bit fl 4 (y := 2 ^ Int.toNat 2) rfl] at hq
              have hq' : ¬ (fl / 2 ^ 2 % 2 == 1) = true := by show ¬ (fl / 4 % 2 == 1) = true; simp; omega
              rw [ec, if_neg hq'] at IH5
              exact PyProof.Rows.LCg.CompEnd.intro F9 N9 _ (fun p hp => hp) off6 trivial IH5
        rotate_left
        refine PyProof.Rows.LCt.CompRestT.zero ?_
        have hct := cnt_le (site := siteN ns) (i := 0) (hp1.nd k (Nat.lt_succ_self _)) (l' := snN ns k) fun x hx _ => hx
        have hcl : cntS (siteN ns) 0 (snN ns k) ≤ (snN ns k).length := List.length_filter_le _ _
        have htE : tE (siteN ns) (snN ns) k = cntS (siteN ns) 0 (snN ns k) := rfl
        have hfE : fE (siteN ns) (snN ns) k = (snN ns k).length - cntS (siteN ns) 0 (snN ns k) := rfl
        have hNl : Nz.vs.length = (snN ns k).length := by
          have h1 := hNok.length
          rw [List.length_map, hNns] at h1
          exact h1
        generalize cntS (siteN ns) 0 (snN ns k) = t0 at hcl htE hfE hones
        k_steps
        unfold Stop
        rename News g _ _ _ => N22
        refine call_len_list (items := Nz.vs.toArray) (News.isList N22 (List.mem_append_right [_, _, _, _, _, _, _, _, _, _, _, _, _, _, _] hNm)) (by rw [List.size_toArray, hNl]; omega) ?_
        rw [List.size_toArray, hNl]
        have hl5b := hl5
        generalize (snN ns k).length = Ln at hl5 hcl hfE
        k_steps
        unfold Stop
        rename News g _ _ _ => N23
        obtain ⟨hw1, hw2⟩ := words_fl fl hfl1.2 hfl1.1
        have hw := wordsS_len fl
        refine join_listW (News.isList N23 (.head _)) (ys := ((List.range 3).filter fun i => fl / 2 ^ i % 2 == 1).map wordW) (strs_of _ _ _ fun r hr => ?_) (by decide +kernel) hw2 ?_
        · have hr3 : r < 3 := List.mem_range.mp (List.mem_filter.mp hr).1
          match r, hr3 with
          | 0, _ => exact ⟨w0, rfl⟩
          | 1, _ => exact ⟨w1, rfl⟩
          | 2, _ => exact ⟨w2, rfl⟩
        intro tj kj
        rw [hw1]
        k_steps
        unfold Stop
        rename Fr g _ _ _ => F24
        rename News g _ _ _ => N24
        replace N24 := fun q hq => N24 q (List.mem_append_right [_, _] hq)
        replace N24 : News g L1 _ _ := N24
        have et : Txt.mul (Str.ofString "\t") (t0 : Int) ++ Txt.mul (Str.ofString "    ") ((Ln : Int) - (t0 : Int)) ++ wordsS fl = txt (abN ns k).2.1 (abN ns k).2.2.1 (abN ns k).2.2.2 := by
          show _ = txt (tE (siteN ns) (snN ns) k) (fE (siteN ns) (snN ns) k) (flagN ns k)
          rw [htE, hfE, ← hflE, show ((Ln : Int) - (t0 : Int)) = ((Ln - t0 : Nat) : Int) by omega]
          exact txt_val _ _ _
        rw [et]
        refine' append_U F24 N24 ?U ?hz ?_
        case U => k_updF
        case hz => rw [List.size_toArray, show vT.length = k from V.lT]; omega
        intro h25 F25 N25
        rw [List.push_toArray] at N25
        clear F24 N24
        k_steps
        unfold Stop
        rename Fr g _ _ _ => F26
        rename News g _ _ _ => N26
        rw [item_kmkm (n := x / 120 % 4) (Nat.mod_lt _ (by decide)) (e_name x)]
        have hnm : x / 120 % 4 % 2 = nameN ns k := by unfold nameN; rw [← hx]
        rw [hnm]
        refine' append_U F26 N26 ?U ?hz ?_
        case U => k_updF
        case hz => rw [List.size_toArray, show vN.length = k from V.lN]; omega
        intro h27 F27 N27
        rw [List.push_toArray] at N27
        clear F26 N26
        k_steps
        unfold Stop
        rename Fr g _ _ _ => F28
        rename News g _ _ _ => N28
        rename (Obj.data _ = Data.cell (some (Value.ref _))) => dKn3
        have hse : ∀ (e : Nat) (z : KnZ), (sz ++ [Nz])[e]? = some z → z.ok ∧ z.ns = snN ns e := fun e z hz => by
          rcases snoc_get hz with h | ⟨h1, h2⟩
          · exact V.se e z h
          · rw [h2, h1, show sz.length = k from V.lz]; exact ⟨hNok, hNns⟩
        obtain ⟨vN2, vT2, N29, hna, htx, hlN, hlT⟩ : ∃ vN2 vT2 : List Value, News g L1 _ ((I, itR ((k : Int) + 1) (((5 - k : Nat) : Int) - 1)) :: (DU, W.listOf (zs.map fun z => .ref z.D).toArray eD) :: (NA, W.listOf vN2.toArray (eN + 1)) :: (TX, W.listOf vT2.toArray (eT + 1)) :: (SE, W.listOf ((sz ++ [Nz]).map fun z => .ref z.a).toArray (eS + 1)) :: (KW, W.listOf #[.ref (kk2 0).a, .ref (kk2 1).a] eK) :: (L1 + 1 + 1 + 1 + 1 + 1 + 1 + 1, oEn) :: (L1 + 1 + 1 + 1 + 1 + 1 + 1, objOf dFl2) :: (L1 + 1 + 1 + 1 + 1 + 1, objOf dKn3) :: (L1 + 1 + 1 + 1 + 1, objOf dEa2) :: (L1 + 1 + 1 + 1, oSe2) :: (L1 + 1 + 1, oWo2) :: (L1 + 1, oNu) :: T3) ∧
            (∀ e, e < k + 1 → ∃ t, vN2[e]? = some (.str (nmS (nameN ns e)) t)) ∧ (∀ e, e < k + 1 → ∃ t, vT2[e]? = some (.str (txt (abN ns e).2.1 (abN ns e).2.2.1 (abN ns e).2.2.2) t)) ∧ vN2.length = k + 1 ∧ vT2.length = k + 1 :=
          ⟨_, _, N28, get_snoc V.lN V.na rfl, get_snoc V.lT V.tx rfl, by rw [List.length_append, show vN.length = k from V.lN]; rfl, by rw [List.length_append, show vT.length = k from V.lT]; rfl⟩
        have hlz : (sz ++ [Nz]).length = k + 1 := by rw [List.length_append, show sz.length = k from V.lz]; rfl
        have SO : StOk ⟨Nz, SE, sz ++ [Nz], eS + 1, NA, vN2, eN + 1, TX, vT2, eT + 1⟩ (nameN ns) (snN ns) (abN ns) (k + 1) := by
          refine ⟨hNok, by show Nz.ns.length ≤ 10; rw [hNns]; omega, fun e he => ?_, by omega, fun e he => ?_, hna, fun e => Nat.mod_lt _ (by decide), htx, fun e => rfl⟩
          · have he' : e ∈ Nz.ns := he
            rw [hNns] at he'
            exact Nat.lt_succ_of_le (hp1.le k (Nat.lt_succ_self _) e he')
          · obtain ⟨z, hz⟩ : ∃ z, (sz ++ [Nz])[e]? = some z := ⟨_, List.getElem?_eq_getElem (by omega)⟩
            obtain ⟨h1, h2⟩ := hse e z hz
            refine ⟨z, hz, h1, h2, ?_⟩
            have := sub_len (l' := List.range 5) (hp1.nd e he) fun x hx => List.mem_range.mpr (Nat.lt_of_le_of_lt (hp1.le e he x hx) (by omega))
            rw [List.length_range] at this
            rw [h2]; omega
        refine' ConL.use0n (c_standing SO) ?B F28 X1 T1 ?hk ?hd ?hu True.intro N29 ?hN ?_
        case B => exact B1
        case hk => exact rfl
        case hd => ktr_room
        case hu => ktr_units
        case hN =>
          intro q hq
          rcases List.mem_cons.mp hq with rfl | hq
          · exact List.mem_append_right [_, _, _, _, _, _, _, _, _, _, _, _, _] hNm
          · rcases List.mem_cons.mp hq with rfl | hq
            · exact .tail _ (.tail _ (.tail _ (.tail _ (.head _))))
            · rcases List.mem_cons.mp hq with rfl | hq
              · exact .tail _ (.tail _ (.head _))
              · rcases List.mem_cons.mp hq with rfl | hq
                · exact .tail _ (.tail _ (.tail _ (.head _)))
                · obtain ⟨z, hz, rfl⟩ := List.mem_map.mp hq
                  rcases List.mem_append.mp hz with hz | hz
                  · exact List.mem_append_right [_, _, _, _, _, _, _, _, _, _, _, _, _] (hsub _ (V.tz z hz))
                  · rw [List.mem_singleton.mp hz]; exact List.mem_append_right [_, _, _, _, _, _, _, _, _, _, _, _, _] hNm
        intro r h30 tk30 F30 N30 K30 FN P30
        obtain ⟨z, hzr, hzn, hzs⟩ := P30
        subst hzr
        have N31 : News g L1 h30 (showLed z ++ ((I, itR ((k : Int) + 1) (((5 - k : Nat) : Int) - 1)) :: (DU, W.listOf (zs.map fun z => .ref z.D).toArray eD) :: (NA, W.listOf vN2.toArray (eN + 1)) :: (TX, W.listOf vT2.toArray (eT + 1)) :: (SE, W.listOf ((sz ++ [Nz]).map fun z => .ref z.a).toArray (eS + 1)) :: (KW, W.listOf #[.ref (kk2 0).a, .ref (kk2 1).a] eK) :: (L1 + 1 + 1 + 1 + 1 + 1 + 1 + 1, oEn) :: (L1 + 1 + 1 + 1 + 1 + 1 + 1, objOf dFl2) :: (L1 + 1 + 1 + 1 + 1 + 1, objOf dKn3) :: (L1 + 1 + 1 + 1 + 1, objOf dEa2) :: (L1 + 1 + 1 + 1, oSe2) :: (L1 + 1 + 1, oWo2) :: (L1 + 1, oNu) :: T3)) := NewIn.news hzn F28 K30 N29
        have hz1 : ∀ q ∈ showLed z, ∀ a ∈ muD I DU NA TX SE KW L1, q.1 ≠ a := fun q hq => mu_new2 (FN q.1 (hzn q hq).1)
        have hz2 : ∀ q ∈ showLed z, q.1 ≠ Nn := fun q hq => Ne.symm (FN q.1 (hzn q hq).1 (Nn, lstObj vs n) (List.mem_append_right [_, _, _, _, _, _, _, _, _, _, _, _, _] (hsub _ V.tn)))
        have N32 : News g L1 h30 ((I, itR ((k : Int) + 1) (((5 - k : Nat) : Int) - 1)) :: (DU, W.listOf (zs.map fun z => .ref z.D).toArray eD) :: (NA, W.listOf vN2.toArray (eN + 1)) :: (TX, W.listOf vT2.toArray (eT + 1)) :: (SE, W.listOf ((sz ++ [Nz]).map fun z => .ref z.a).toArray (eS + 1)) :: (KW, W.listOf #[.ref (kk2 0).a, .ref (kk2 1).a] eK) :: (L1 + 1 + 1 + 1 + 1 + 1 + 1 + 1, oEn) :: (L1 + 1 + 1 + 1 + 1 + 1 + 1, objOf dFl2) :: (L1 + 1 + 1 + 1 + 1 + 1, objOf dKn3) :: (L1 + 1 + 1 + 1 + 1, objOf dEa2) :: (L1 + 1 + 1 + 1, oSe2) :: (L1 + 1 + 1, oWo2) :: (L1 + 1, oNu) :: (showLed z ++ T3)) := news_sub N31 fun q hq => by
          rcases List.mem_append.mp (show q ∈ [_, _, _, _, _, _, _, _, _, _, _, _, _] ++ (showLed z ++ T3) from hq) with h | h
          · exact List.mem_append_right _ (List.mem_append_left (bs := T3) h)
          · rcases List.mem_append.mp h with h | h
            · exact List.mem_append_left _ h
            · exact List.mem_append_right _ (List.mem_append_right [_, _, _, _, _, _, _, _, _, _, _, _, _] h)
        have hT4 : ∀ p ∈ showLed z ++ T3, ∀ a ∈ muD I DU NA TX SE KW L1, p.1 ≠ a := fun p hp => (List.mem_append.mp hp).elim (hz1 p) (hT3 p)
        have hzm : ∀ q ∈ showLed z, q ∈ showLed z ++ T3 := fun q hq => List.mem_append_left _ hq
        have hNm2 : Nz.obj ∈ showLed z ++ T3 := List.mem_append_right _ hNm
        replace hsub : ∀ q ∈ T, q ∈ showLed z ++ T3 := fun q hq => List.mem_append_right _ (hsub q hq)
        clear N28 N29 N30 N31 hT3 hNm hz1
        generalize showLed z ++ T3 = T4 at N32 hT4 hzm hNm2 hsub
        clear hoI o1 o2 o3 o4 o5 o6 o7 o8 o9
        have hoI : ∀ p ∈ T4, p.1 ≠ I := fun p hp => hT4 p hp _ (.head _)
        have o1 : ∀ p ∈ T4, p.1 ≠ DU := fun p hp => hT4 p hp _ (.tail _ (.head _))
        have o2 : ∀ p ∈ T4, p.1 ≠ NA := fun p hp => hT4 p hp _ (.tail _ (.tail _ (.head _)))
        have o3 : ∀ p ∈ T4, p.1 ≠ TX := fun p hp => hT4 p hp _ (.tail _ (.tail _ (.tail _ (.head _))))
        have o4 : ∀ p ∈ T4, p.1 ≠ SE := fun p hp => hT4 p hp _ (.tail _ (.tail _ (.tail _ (.tail _ (.head _)))))
        have o5 : ∀ p ∈ T4, p.1 ≠ KW := fun p hp => hT4 p hp _ (.tail _ (.tail _ (.tail _ (.tail _ (.tail _ (.head _))))))
        have o6 : ∀ p ∈ T4, p.1 ≠ L1 + 1 + 1 + 1 + 1 := fun p hp => hT4 p hp _ (.tail _ (.tail _ (.tail _ (.tail _ (.tail _ (.tail _ (.head _)))))))
        have o7 : ∀ p ∈ T4, p.1 ≠ L1 + 1 + 1 + 1 + 1 + 1 := fun p hp => hT4 p hp _ (.tail _ (.tail _ (.tail _ (.tail _ (.tail _ (.tail _ (.tail _ (.head _))))))))
        have o8 : ∀ p ∈ T4, p.1 ≠ L1 + 1 + 1 + 1 + 1 + 1 + 1 := fun p hp => hT4 p hp _ (.tail _ (.tail _ (.tail _ (.tail _ (.tail _ (.tail _ (.tail _ (.tail _ (.head _)))))))))
        have o9 : ∀ p ∈ T4, p.1 ≠ L1 + 1 + 1 + 1 + 1 + 1 + 1 + 1 := fun p hp => hT4 p hp _ (.tail _ (.tail _ (.tail _ (.tail _ (.tail _ (.tail _ (.tail _ (.tail _ (.tail _ (.head _))))))))))
        clear F28
        k_steps
        unfold Stop
        rename Fr g _ _ _ => F33
        rename News g _ _ _ => N33
        have hzl : zs.length = k := by
          have h1 := V.zs.len
          rw [show (dueL ns k).length = k by simp [dueL]] at h1
          exact h1
        refine' append_U F33 N33 ?U ?hz ?_
        case U => k_updF
        case hz => rw [List.size_toArray, List.length_map, hzl]; omega
        intro h34 F34 N34
        rw [List.push_toArray, show zs.map (fun z => Value.ref z.D) ++ [Value.ref z.D] = (zs ++ [z]).map (fun z => Value.ref z.D) by simp] at N34
        clear F33 N33
        k_steps
        unfold Stop
        rename Fr g _ _ _ => F35
        rename News g _ _ _ => N35
        rw [itR_next hk1] at N35
        dsimp only
        have hkn : ∀ i, (runD ns (k + 1)).kn i = if i = x % 2 then snN ns k else (runD ns k).kn i := fun i => by rw [hx]; rfl
        refine IH ⟨k + 1, sz ++ [Nz], eS + 1, vN2, eN + 1, vT2, eT + 1, zs ++ [z], eD + 1, kk2, eK, objOf dEa2, objOf dKn3, objOf dFl2, _, _, _, T4, mapOf F35 "k", mapOf F35 "v", mapOf F35 "ones", mapOf F35 "shown"⟩ _ (by show 5 - (k + 1) < 5 - k; omega) ⟨_, _, rfl, fr_congr F35 ?_, N35,
          ⟨hk1, dEa2, dKn3, dFl2, fun z' hz' => (List.mem_append.mp hz').elim (fun h => hsub _ (V.tz z' h)) fun h => by rw [List.mem_singleton.mp h]; exact hNm2, fun i hi => ?_,
            fun z' hz' => (List.mem_append.mp hz').elim (fun h q hq => hsub _ (V.ts z' h q hq)) fun h => by rw [List.mem_singleton.mp h]; exact hzm, hsub _ V.tn, hsub _ V.tw, hT4, hlz, hlN, hlT, hse, hna, htx, fun i hi => ?_, ?_,
            fun z' hz' => (List.mem_append.mp hz').elim (fun h => V.nn z' h) fun h => by rw [List.mem_singleton.mp h]; exact hz2⟩⟩
        · refine names_ext ["k", "v", "ones", "shown"] (by walk_at "my names") (by walk_at "my rest")
        · show (kk2 i).obj ∈ T4
          rw [hkks]
          split
          · exact hNm2
          · exact hsub _ (V.tk i hi)
        · show (kk2 i).ok ∧ (kk2 i).ns = (runD ns (k + 1)).kn i
          rw [hkks, hkn]
          split
          · exact ⟨hNok, hNns⟩
          · exact V.kk i hi
        · show ZAll (zs ++ [z]) (dueL ns (k + 1))
          have : dueL ns (k + 1) = dueL ns k ++ [(standD ns (snN ns k)).map (abN ns)] := by
            unfold dueL
            rw [List.range_succ, List.map_append]; rfl
          rw [this]
          refine V.zs.snoc ?_
          have hzs' : Shows z ((standF (nameN ns) (snN ns) Nz.ns).map (abN ns)) := hzs
          rw [hNns] at hzs'
          exact hzs'
end

theorem offEN : True := by
  w_top off
  trivial
theorem reads_strs {h : Heap} : ∀ {vs : List Value} {ss : List Str}, StrsAre vs ss → ReadsAll h vs (ss.map PyData.str) []
  | _, _, .nil => .nil
  | _, _, .cons y t r => ReadsAll.cons (as := []) (bs := []) (Reads.str y t) (reads_strs r)
def dataZ (z : ShowZ) : PyData := .list [.list (z.s1.map .str), .list (z.s2.map .str), .int (z.n : Int)]
theorem reads_show {h : Heap} {z : ShowZ} {l : List Ab} (hz : Shows z l) (hh : ∀ q ∈ showLed z, h.get? q.1 = some q.2) : ∃ as, Reads h (.ref z.D) (dataZ z) as := by
  obtain ⟨a1, a2, _⟩ := hz
  have r1 : Reads h (.ref z.S1) (.list (z.s1.map .str)) _ := Reads.list (hh _ (.tail _ (.head _))) rfl rfl (by simpa using reads_strs a1)
  have r2 : Reads h (.ref z.S2) (.list (z.s2.map .str)) _ := Reads.list (hh _ (.tail _ (.tail _ (.head _)))) rfl rfl (by simpa using reads_strs a2)
  exact ⟨_, Reads.list (hh _ (.head _)) rfl rfl (.cons r1 (.cons r2 (.cons (.int _ _) .nil)))⟩
theorem reads_all : ∀ {h : Heap} {zs : List ShowZ} {ls : List (List Ab)}, ZAll zs ls → (∀ q ∈ zs.flatMap showLed, h.get? q.1 = some q.2) → ∃ as, ReadsAll h (zs.map fun z => Value.ref z.D) (zs.map dataZ) as
  | _, [], [], _, _ => ⟨_, .nil⟩
  | _, z :: zs, l :: ls, ⟨h1, h2⟩, hh => by
    obtain ⟨as, ih⟩ := reads_all h2 fun q hq => hh q (by rw [List.flatMap_cons]; exact List.mem_append_right _ hq)
    obtain ⟨bs, i1⟩ := reads_show h1 fun q hq => hh q (by rw [List.flatMap_cons]; exact List.mem_append_left _ hq)
    exact ⟨_, .cons i1 ih⟩
theorem tells_reads {s h' h : Heap} {r : Value} {ls : List (List Ab)} (T : Tells s h' r ls) (K : ∀ b o, h'.get? b = some o → s.get? b = none → h.get? b = some o) : ∃ zs as, Reads h r (.list (zs.map dataZ)) as ∧ ZAll zs ls := by
  obtain ⟨zs, D, e, rfl, hn, hz⟩ := T
  have hk : ∀ q ∈ (D, lstObj (zs.map fun z => .ref z.D) e) :: zs.flatMap showLed, h.get? q.1 = some q.2 := fun q hq => K _ _ (hn q hq).2 (hn q hq).1
  obtain ⟨as, hr⟩ := reads_all hz fun q hq => hk q (.tail _ hq)
  exact ⟨zs, _, Reads.list (hk _ (.head _)) rfl rfl (by simpa using hr), hz⟩
theorem lt_str {a b : Str} : ltCps a.cps.toList b.cps.toList = decide (a.cps.toList < b.cps.toList) := ltCps_eq _ _
theorem rising_all : ∀ {p : Str} {l : List Str}, risingS p l = true → ∀ x ∈ l, ¬ x.cps.toList < p.cps.toList
  | p, [], _, _, h => nomatch h
  | p, y :: l, hr, x, hx => by
    have hr' : (!ltCps y.cps.toList p.cps.toList && risingS y l) = true := hr
    rw [Bool.and_eq_true, lt_str] at hr'
    have h1 : ¬ y.cps.toList < p.cps.toList := by simpa using hr'.1
    rcases List.mem_cons.mp hx with rfl | hx
    · exact h1
    · have h2 := rising_all hr'.2 x hx
      exact fun h => List.le_trans (List.not_lt.mp h1) (List.not_lt.mp h2) h
theorem sorted_uniq : ∀ {a b : List Str}, sortedS a = true → sortedS b = true → a.Perm b → a = b
  | [], b, _, _, h => h.nil_eq
  | x :: a, [], _, _, h => absurd h.length_eq (by simp)
  | x :: a, y :: b, ha, hb, h => by
    have hxy : x = y := by
      rcases List.mem_cons.mp (h.mem_iff.mp (.head _)) with q | q
      · exact q
      · rcases List.mem_cons.mp (h.mem_iff.mpr (List.mem_cons_self (a := y) (l := b))) with q' | q'
        · exact q'.symm
        · have h1 := rising_all ha y q'
          have h2 := rising_all hb x q
          have h3 : x.cps.toList = y.cps.toList := List.le_antisymm (List.not_lt.mp h1) (List.not_lt.mp h2)
          cases x; cases y
          simpa using h3
    subst hxy
    have ha' : sortedS a = true := by
      cases a with
      | nil => rfl
      | cons z a => exact (Bool.and_eq_true_iff.mp (show (!ltCps z.cps.toList x.cps.toList && risingS z a) = true from ha)).2
    have hb' : sortedS b = true := by
      cases b with
      | nil => rfl
      | cons z b => exact (Bool.and_eq_true_iff.mp (show (!ltCps z.cps.toList x.cps.toList && risingS z b) = true from hb)).2
    rw [sorted_uniq ha' hb' h.cons_inv]
theorem show_eq {z y : ShowZ} {l l' : List Ab} (hz : Shows z l) (hy : Shows y l') (h : l.Perm l') : dataZ z = dataZ y := by
  obtain ⟨_, _, a1, a2, a3, a4, a5⟩ := hz
  obtain ⟨_, _, b1, b2, b3, b4, b5⟩ := hy
  have ht : ∀ c, (textsA l c).Perm (textsA l' c) := fun c => (h.filter _).map _
  have e1 : z.s1 = y.s1 := sorted_uniq a3 b3 (a1.trans ((ht 0).trans b1.symm))
  have e2 : z.s2 = y.s2 := sorted_uniq a4 b4 (a2.trans ((ht 1).trans b2.symm))
  have e3 : z.n = y.n := by rw [a5, b5]; exact h.length_eq
  unfold dataZ
  rw [e1, e2, e3]
def PAll : List (List Ab) → List (List Ab) → Prop
  | [], [] => True
  | a :: as, b :: bs => a.Perm b ∧ PAll as bs
  | _, _ => False
theorem pall_snoc : ∀ {as bs : List (List Ab)} {a b : List Ab}, PAll as bs → a.Perm b → PAll (as ++ [a]) (bs ++ [b])
  | [], [], _, _, _, h => ⟨h, True.intro⟩
  | _ :: _, _ :: _, _, _, ⟨h1, h2⟩, h => ⟨h1, pall_snoc h2 h⟩
theorem zall_eq : ∀ {ls ls' : List (List Ab)} {zs ys : List ShowZ}, ZAll zs ls → ZAll ys ls' → PAll ls ls' → zs.map dataZ = ys.map dataZ
  | [], [], [], [], _, _, _ => rfl
  | l :: ls, l' :: ls', z :: zs, y :: ys, ⟨h1, h2⟩, ⟨k1, k2⟩, ⟨p1, p2⟩ => by
    rw [List.map_cons, List.map_cons, show_eq h1 k1 p1, zall_eq h2 k2 p2]
theorem run_due (ns : List Nat) : PAll ((runA ns 5).le ++ [thirdA ns 3]) (dueL ns 5 ++ [dueE ns]) := by
  refine pall_snoc ?_ (third_stand ns)
  have hl := runA_len ns 5
  have hp : ∀ e, e < 5 → ((runA ns 5).le.getD e []).Perm ((standD ns (snN ns e)).map (abN ns)) := fun e he => run_stand ns (Nat.le_refl _) he
  generalize (runA ns 5).le = l at hl hp
  match l, hl, hp with
  | [a, b, c, d, e], _, hp => exact ⟨hp 0 (by decide), hp 1 (by decide), hp 2 (by decide), hp 3 (by decide), hp 4 (by decide), True.intro⟩
theorem strOk_txt (t f fl : Nat) : PyData.strOk (txt t f fl) = true := by
  have h : (codes fl).all (· < 128) = true := by unfold codes; split <;> decide
  have h1 := txtL_ascii (t := t) (f := f) h
  unfold PyData.strOk
  rw [Array.all_eq_true] at h1 ⊢
  intro i hi
  have := h1 i hi
  simp only [decide_eq_true_eq] at this ⊢
  exact Nat.lt_trans this (by decide)
theorem lay_strs : ∀ {ss : List Str}, (∀ x ∈ ss, PyData.strOk x = true) → PyData.canLayAll0 (ss.map PyData.str) = true ∧ PyData.depthAll (ss.map PyData.str) = 0
  | [], _ => ⟨by simp [PyData.canLayAll0], by simp [PyData.depthAll]⟩
  | x :: ss, h => by
    obtain ⟨a, b⟩ := lay_strs fun y hy => h y (.tail _ hy)
    refine ⟨?_, ?_⟩
    · simp only [List.map_cons, PyData.canLayAll0, PyData.canLay0, h x (.head _), a, Bool.and_true]
    · simp only [List.map_cons, PyData.depthAll, PyData.depth, b]; rfl
theorem lay_show {z : ShowZ} {l : List Ab} (hz : Shows z l) : PyData.canLay0 (dataZ z) = true ∧ PyData.depth (dataZ z) ≤ 2 := by
  obtain ⟨_, _, a1, a2, _⟩ := hz
  have ok : ∀ {c : Nat} {ss : List Str}, ss.Perm (textsA l c) → ∀ x ∈ ss, PyData.strOk x = true := fun hp x hx => by
    obtain ⟨a, _, rfl⟩ := List.mem_map.mp (hp.mem_iff.mp hx)
    exact strOk_txt _ _ _
  obtain ⟨b1, c1⟩ := lay_strs (ok a1)
  obtain ⟨b2, c2⟩ := lay_strs (ok a2)
  unfold dataZ
  refine ⟨?_, ?_⟩
  · simp only [PyData.canLay0, PyData.canLayAll0, b1, b2, Bool.and_true]
  · simp only [PyData.depth, PyData.depthAll, c1, c2]; decide
theorem lay_all : ∀ {zs : List ShowZ} {ls : List (List Ab)}, ZAll zs ls → PyData.canLayAll0 (zs.map dataZ) = true ∧ PyData.depthAll (zs.map dataZ) ≤ 2
  | [], [], _ => ⟨by simp [PyData.canLayAll0], by simp [PyData.depthAll]⟩
  | z :: zs, l :: ls, ⟨h1, h2⟩ => by
    obtain ⟨a, b⟩ := lay_all h2
    obtain ⟨c, d⟩ := lay_show h1
    refine ⟨?_, ?_⟩
    · simp only [List.map_cons, PyData.canLayAll0, a, c, Bool.and_true]
    · simp only [List.map_cons, PyData.depthAll]; omega
theorem shaped_zs {zs : List ShowZ} {ls : List (List Ab)} (h : ZAll zs ls) : PySem.SeqAt.shaped (.list (zs.map dataZ)) = true := by
  obtain ⟨a, b⟩ := lay_all h
  show (PyData.canLay0 _ && decide (PyData.depth _ ≤ 64)) = true
  rw [Bool.and_eq_true]
  refine ⟨by simp only [PyData.canLay0]; exact a, decide_eq_true ?_⟩
  simp only [PyData.depth]
  omega
/-- the law's last row: what the run shows is what is due -/
theorem law_eq {prog : Program} {w : World} {A : Around} {E : Value → Shared → Prop} {s : Shared} {s1 h1 s2 h2 : Heap} {r1 r2 : Value} {ns : List Nat} {Q : Value → Shared → Prop}
    (T1 : Tells s1 h1 r1 ((runA ns 5).le ++ [thirdA ns 3])) (T2 : Tells s2 h2 r2 (dueL ns 5 ++ [dueE ns]))
    (K1 : ∀ b o, h1.get? b = some o → s1.get? b = none → s.heap.get? b = some o) (K2 : ∀ b o, h2.get? b = some o → s2.get? b = none → s.heap.get? b = some o)
    (hu : A.units + 64 < cLine) (h : Q (.bool true) s) : wpAny (model prog w) A (compareOp .Eq r1 r2) Q E s := by
  obtain ⟨zs, as, R1, Z1⟩ := tells_reads T1 K1
  obtain ⟨ys, bs, R2, Z2⟩ := tells_reads T2 K2
  rw [zall_eq Z1 Z2 (run_due ns)] at R1
  have hsh := shaped_zs Z2
  exact PyProof.Rows.eq_dataH R1 R2 hsh hsh hu (by rw [PySem.SeqAt.eqv_refl _ (PySem.SeqAt.canLay_of_shaped hsh)]; exact h)

theorem offLW : True := by
  w_top off
  trivial
section
theorem lt_ns {h : Heap} {L b : Addr} {m : Str → Option Value} (F : h.Ns L m) (hb : b = L) (e : h.get? b = none) : False := by
  obtain ⟨o, _, _, ho, _⟩ := F
  rw [hb, ho] at e; cases e
theorem fr_turn {g g' h : Heap} {L : Addr} {m : Str → Option Value} (T : KtsTurn (frs []) g g') (F : Fr g' L h m) : Fr g L h m := ⟨F.ns, fun b o e => F.keep _ _ (T.other b o e fun q => nomatch q), by have := F.above; rw [T.size] at this; exact this⟩
local macro_rules | `(tactic| walk_at "call ref") => `(tactic| (k_here; refine Stop.of ?_))
local macro_rules | `(tactic| walk_at "compareOp Eq ref ref") => `(tactic| (k_here; refine Stop.of ?_))
set_option maxHeartbeats 8000000 in
theorem fin0 : PySem.Challenge.rw_ta0119_01.Holds := hd (by
  k_go0
  (all_goals try k_fold)
  k_steps
  unfold Stop
  rename Fr _ _ _ _ => F1
  rename News _ _ _ _ => N1
  rename Below _ _ _ _ => B1
  rename Top _ _ _ _ _ _ => T1
  rename Frag.In _ _ => X1
  rename IntsAre _ _ => hI
  rename Heap.IsList _ _ _ => hL
  refine Con.use0n (c_numbers hI ?hlen) B1 F1 X1 T1 ?hk ?hd ?hu (by obtain ⟨o, a, b⟩ := hL; exact ⟨o, F1.keep _ _ a, b⟩) N1 ?_
  case hlen => omega
  case hk => exact rfl
  case hd => ktr_room
  case hu => ktr_units
  intro r h2 tk2 F2 N2 K2 _ P2
  obtain ⟨D, vs, n, ns, rfl, hn, hl6, hi6⟩ := P2
  replace N2 := NewIn.news hn F1 K2 N1
  clear F1 N1 K2 hn
  k_steps
  unfold Stop
  rename Fr _ _ _ _ => F3
  rename News _ _ _ _ => N3
  refine c_run hl6 hi6 (ok_run ns) _ _ _ _ _ _ _ _ _ _ _ _ _ _ _ _ _ B1 F3 X1 T1 X1 T1 ktsDicts_nil ?hk ?hd ?hu True.intro N3 ?_
  case hk => exact rfl
  case hd => ktr_room
  case hu => ktr_units
  intro r1 h4 tk4 g4 TT F4 B4 X4 T4 KD4 KF4 P4
  have N4 := keptF_news KF4 B1 TT N3 (fun _ _ h => nomatch h)
  have z3 := F3.ns
  clear F3 N3
  k_steps
  unfold Stop
  rename Fr _ _ _ _ => F5
  rename News _ _ _ _ => N5
  refine ConL.use0 (c_due hl6 hi6) B4 F5 X4 T4 ?hk ?hd ?hu True.intro N5 (fun q hq => hq) ?_
  case hk => exact rfl
  case hd => ktr_room
  case hu => ktr_units
  intro r2 h6 tk6 F6 N6 K6 P6
  have F7 := fr_turn TT F6
  refine law_eq P4 P6 (fun b o e e0 => K6 b o (fun q => ?_) e) (fun b o e _ => e) ?hu ?_
  · exact lt_ns z3 (List.mem_singleton.mp q) e0
  case hu => ktr_units
  clear F6 N6 F5 N5 B4 X4 T4
  k_steps)
end

end Mine
theorem PySem.Challenge.cw_ta0119_01_holds : PySem.Challenge.rw_ta0119_01.Holds :=
  Mine.fin0
