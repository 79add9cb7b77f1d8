import PyProof.Rows.All
import Wide.All
import OpenK.AllK
import Wide.FinOn
import Lean
import PySem.Challenge.RW_tv0008_01
open PySem PySem.W PyProof.Rows
set_option Elab.async false
set_option maxRecDepth 100000
set_option maxHeartbeats 8000000
local macro_rules | `(tactic| walk_at $s:str) => `(tactic| k_extra $s)
local macro_rules | `(tactic| lcg_off) => `(tactic| ((try simp only [LCg.Off3, and_true]); with_reducible assumption))
namespace Mine
section
local macro_rules | `({ scope := $_, locals := $_, globals := $_, cells := $_, code := $_, frame := $_ }) => Lean.Macro.throwError "the head at once"
local macro_rules | `(tactic| o_law) => `(tactic| refine PySem.W.holds_law (by decide +kernel) fun said => ?_)
open_top hd for PySem.Challenge.rw_tv0008_01
end
section
open PySem PySem.W PyProof.Rows PySem.Calls
set_option maxHeartbeats 800000
noncomputable abbrev LO := looseW hd.view_1 [PySem.Str.ofString "_MIN_DIFF_LEN", PySem.Str.ofString "safe_repr"]
/-- all objects of h but the ones of the given ledger stand in g -/
def Kept (h : Heap) (given : List (Addr × Obj)) (g : Heap) : Prop := ∀ b o, h.get? b = some o → b ∉ given.map (·.1) → g.get? b = some o
theorem kept_back {h g h' h₀ : Heap} {L L' : Addr} {m' : PySem.Str → Option Value} {given : List (Addr × Obj)} (N : News h₀ L h given) (st : Kept h given g) (F' : Fr g L' h' m') (N' : News h₀ L h' given) : ∀ b o, h.get? b = some o → h'.get? b = some o := by
  intro b o e
  by_cases hm : b ∈ given.map (·.1)
  · obtain ⟨q, hq, rfl⟩ := List.mem_map.mp hm
    have h2 := (N q hq).1
    rw [e] at h2
    rw [Option.some.inj h2]
    exact (N' q hq).1
  · exact F'.keep _ _ (st _ _ e hm)
/-- any caller's around -/
abbrev genTop (dp un : Nat) (gd : Option (List Code)) (env : Env) (outer : List Env) : Around := { handled := none, depth := dp, frames := some (env :: outer), guards := gd, units := un }
/-- what a call of the def at f with these arguments gives back; all that stood stands -/
def Con (k : Nat) (w : World) (f : Addr) (vs : List Value) (given : List (Addr × Obj)) (R : Value → Prop) : Prop :=
  ∀ (mg mb : PySem.Str → Option Value) (dp un : Nat) (gd : Option (List Code)) (env : Env) (outer : List Env) (A₀ : Around) (base h₀ : Heap) (L : Addr) (m : PySem.Str → Option Value) (s : Shared) (Q E : Value → Shared → Prop),
    Below A₀ base outer h₀ → Fr h₀ L s.heap m → (hd.heap_1 w.params).In h₀ → News h₀ L s.heap given → TopRead hd.view_1 LO mg mb h₀ → env.frame = some L → env.scope.kind = .function → dp + k < recursionLimit → un + 20 * k < cLine →
    (∀ v h' tk', R v → (∀ b o, s.heap.get? b = some o → h'.get? b = some o) → Q v { s with heap := h', toks := tk' }) →
    wpAny (model PySem.Challenge.rw_tv0008_01.row.prog w) (genTop dp un gd env outer) (call (.ref f) vs) Q E s
theorem con_use {k : Nat} {w : World} {f : Addr} {vs : List Value} {given : List (Addr × Obj)} {R : Value → Prop} {mg mb : PySem.Str → Option Value} {dp un : Nat} {gd : Option (List Code)} {env : Env} {outer : List Env} {A₀ : Around} {base h₀ : Heap} {L : Addr} {m : PySem.Str → Option Value} {s : Shared} {news : List (Addr × Obj)} {Q E : Value → Shared → Prop}
    (B : Below A₀ base outer h₀) (F : Fr h₀ L s.heap m) (X : (hd.heap_1 w.params).In h₀) (N : News h₀ L s.heap news) (T : TopRead hd.view_1 LO mg mb h₀) (hk : env.scope.kind = .function) (C : Con k w f vs given R) (hs : ∀ p ∈ given, p ∈ news) (hd : dp + k < recursionLimit) (hu : un + 20 * k < cLine)
    (h : ∀ v h' tk', R v → Fr h₀ L h' m → News h₀ L h' news → Q v { s with heap := h', toks := tk' }) (hf : env.frame = some L := by rfl) :
    wpAny (model PySem.Challenge.rw_tv0008_01.row.prog w) (genTop dp un gd env outer) (call (.ref f) vs) Q E s :=
  C mg mb dp un gd env outer A₀ base h₀ L m s Q E B F X (fun p hp => N p (hs p hp)) T hf hk hd hu fun v h' tk' hR hk' => h v h' tk' hR (F.keeps hk') (N.grown hk')
/-- to show a contract -/
theorem con_of {k : Nat} {w : World} {f : Addr} {vs : List Value} {given : List (Addr × Obj)} {R : Value → Prop}
    (H : ∀ (mg mb : PySem.Str → Option Value) (dp un : Nat) (gd : Option (List Code)) (env : Env) (outer : List Env) (A₀ : Around) (base h₀ : Heap) (L : Addr) (m : PySem.Str → Option Value) (s : Shared) (Q E : Value → Shared → Prop),
      Below A₀ base outer h₀ → Fr h₀ L s.heap m → (hd.heap_1 w.params).In h₀ → News h₀ L s.heap given → TopRead hd.view_1 LO mg mb h₀ → env.frame = some L → env.scope.kind = .function → dp + k < recursionLimit → un + 20 * k < cLine →
      (∀ v g L' m' h' tk', R v → Fr h₀ L h' m → News h₀ L h' given → Kept s.heap given g → Fr g L' h' m' → Q v { s with heap := h', toks := tk' }) →
      wpAny (model PySem.Challenge.rw_tv0008_01.row.prog w) (genTop dp un gd env outer) (call (.ref f) vs) Q E s) : Con k w f vs given R := by
  intro mg mb dp un gd env outer A₀ base h₀ L m s Q E B F X N T hf hk hd hu ret
  refine H mg mb dp un gd env outer A₀ base h₀ L m s Q E B F X N T hf hk hd hu ?_
  intro v g L' m' h' tk' hR _ kN st F'
  exact ret v h' tk' hR (kept_back N st F' kN)
/-- the same of a def that gives back a new tuple -/
abbrev tup (vs : List Value) : Obj := { cls := .type "tuple", data := .seq vs.toArray }
section
variable {prog : Program} {w : World} {A₀ A : Around} {s : Shared} {base h₀ : Heap} {outer : List Env} {L : Addr} {m : PySem.Str → Option Value} {env : Env} {given : List (Addr × Obj)} {K : Frag} {p : Program} {loose : List PySem.Str} {mg mb : PySem.Str → Option Value}
  {R : Result → Shared → Prop} {name qual : PySem.Str} {params : Arguments} {body : List Stmt} {scope : Scope} {dV kV doc pm cdv ct oc : Value} {an od : Option Addr} {osl : Array (Option Value)} {f : Addr} {args : Args} {binds : List (PySem.Str × Value)}
/-- into a def without cells -/
theorem enter_plain (B : Below A₀ base outer h₀) (F : Fr h₀ L s.heap m) (X₀ : K.In h₀) (N : News h₀ L s.heap given) (T : TopRead p loose mg mb h₀) (hA : A.frames = some (env :: outer)) (hf : env.frame = some L) (hke : env.scope.kind = .function)
    (ho : K.lookup f = some ⟨oc, od, .func (fnOf name qual params body scope dV kV doc pm an cdv ct), osl⟩) (hcd : codeIn K cdv qual = true) (hroom : A.depth < recursionLimit)
    (hbind : BindsTo s (fnOf name qual params body scope dV kV doc pm an cdv ct) args binds) (hloc : ∀ y ∈ binds, scope.names.lookup y.1 = some .local)
    (h : ∀ g L' h₁, Fr h₀ L g m → Fr g L' h₁ (fun y => binds.reverse.lookup y) → News g L' h₁ given → Below A base (env :: outer) g → K.In g → TopRead p loose mg mb g → Kept s.heap given g → (∀ p ∈ given, p.1 < L') → s.heap.objs.size ≤ L' →
      wpAny (model prog w) (A.deeper (envOf qual scope L' f cdv)) (execs body (envOf qual scope L' f cdv))
        (fun fl s' => LeaveK h₀ L m g R (match fl with | .ret v => v | _ => .none) s')
        (fun e s' => wpAny (model prog w) (A.deeper (envOf qual scope L' f cdv)) (leaving (envOf qual scope L' f cdv) e) (fun _ s'' => R (.error e) s'') (fun e' s'' => R (.error e') s'') s')
        { s with heap := h₁, toks := s.toks + binds.length })
    (hco : scope.isCoroutine = false) (hgen : scope.isGenerator = false) (hk : scope.kind = .function)
    (hcell : ∀ x ∈ scope.names, x.2 ≠ .cell) : codeAny (model prog w) A (.call (.ref f) args) R s := by
  obtain ⟨FG, BG, st, lv⟩ := groundX (R := R) B F N hA hf hke
  refine codeAny_call_def (fd := fnOf name qual params body scope dV kV doc pm an cdv ct) (body := body) (binds := binds) hroom ((X₀.keeps F.keep) _ _ ho) rfl (T.nolimit.keeps F.keep) (codeRec_of (X₀.keeps F.keep) hcd) rfl hbind hcell hloc (fun h₁ hns hk₁ => ?_) hco hgen hk
  refine wpAny_mono (h _ s.heap.objs.size h₁ FG ⟨hns, fun b o e => hk₁ b o (of_hideAll _ e), Nat.le_of_eq (hideAll_size _ _)⟩ ?_ BG (X₀.keeps st) (T.keeps st) (fun b o e n => hideAll_get _ e n) (fun p hp => Heap.lt_size (N p hp).1) (Nat.le_refl _)) (fun fl s' hl => lv _ _ hl) fun _ _ y => y
  exact fun p hp => ⟨hk₁ _ _ (N p hp).1, Nat.ne_of_lt (Heap.lt_size (N p hp).1), hideAll_none _ (List.mem_map_of_mem hp)⟩

/-- the new frame of a def with cells, once its parameters are known -/
theorem frame_cells {E : Value → Shared → Prop} (B : Below A₀ base outer h₀) (F : Fr h₀ L s.heap m) (X₀ : K.In h₀) (N : News h₀ L s.heap given) (T : TopRead p loose mg mb h₀) (hA : A.frames = some (env :: outer)) (hf : env.frame = some L) (hke : env.scope.kind = .function)
    (hkind : (binds.all fun y => scope.names.lookup y.1 == some .local || scope.names.lookup y.1 == some .cell) = true)
    (hnd : ((cellsFrom 0 scope.names []).map (·.1)).Nodup)
    (h : ∀ g L' h₁ tk cells, Fr h₀ L g m → Fr g L' h₁ (bindL (envOfC qual scope L' f cdv).kindOf binds fun _ => none) → News g L' h₁ (cells ++ given) →
      CellsAre (bindC (envOfC qual scope L' f cdv).kindOf binds fun _ => none) (cellsFrom (L' + 1) scope.names []) cells → Below A base (env :: outer) g → K.In g → TopRead p loose mg mb g → Kept s.heap given g → (∀ p ∈ given, p.1 < L') → s.heap.objs.size ≤ L' →
      wpAny (model prog w) (A.deeper (envOfC qual scope L' f cdv)) (execs body (envOfC qual scope L' f cdv))
        (fun fl s' => LeaveK h₀ L m g R (match fl with | .ret v => v | _ => .none) s')
        (fun e s' => wpAny (model prog w) (A.deeper (envOfC qual scope L' f cdv)) (leaving (envOfC qual scope L' f cdv) e) (fun _ s'' => R (.error e) s'') (fun e' s'' => R (.error e') s'') s')
        { s with heap := h₁, toks := tk })
    (hk : scope.kind = .function) :
    wpAny (model prog w) A.in1 (newFunctionEnv scope mainGlobals [] binds (qual ++ ".<locals>.") (some f) cdv none builtinsNs) (fun env' s₂ => s₂.heap.NoLimit ∧ codeAny (model prog w) A (.func body env') R s₂) E s := by
  obtain ⟨FG, BG, st, lv⟩ := groundX (R := R) B F N hA hf hke
  refine wpAny_newFunctionEnv_cells hk (kindsX hkind _) fun env' he s' x => ?_
  subst he
  refine ⟨(T.nolimit.keeps F.keep).keeps x.toInCall.keep, codeAny_func ?_⟩
  obtain ⟨h₁, tk, rfl, _⟩ := x.done
  have hk₁ := x.toInCall.keep
  obtain ⟨cells, NC, Y⟩ := Cl.news (h₀ := s.heap) (Nat.le_refl _) fun n c hm => ⟨x.cell n c (lookup_of_mem_nodup (cellsFrom_names scope.names 0 (s.heap.objs.size + 1) [] [] rfl ▸ hnd) hm), x.above n c hm⟩
  refine wpAny_mono (h _ s.heap.objs.size h₁ tk cells FG ⟨x.toInCall.ns, fun b o e => hk₁ b o (of_hideAll _ e), Nat.le_of_eq (hideAll_size _ _)⟩ (fun p hp => ?_) Y BG (X₀.keeps st) (T.keeps st) (fun b o e n => hideAll_get _ e n) (fun p hp => Heap.lt_size (N p hp).1) (Nat.le_refl _)) (fun fl s' hl => lv _ _ hl) fun _ _ y => y
  rcases List.mem_append.mp hp with hp | hp
  · refine ⟨(NC p hp).1, (NC p hp).2.1, ?_⟩
    cases q : (hideAll s.heap (given.map (·.1))).get? p.1 with
    | none => rfl
    | some o => have := of_hideAll _ q; rw [(NC p hp).2.2] at this; cases this
  · exact ⟨hk₁ _ _ (N p hp).1, Nat.ne_of_lt (Heap.lt_size (N p hp).1), hideAll_none _ (List.mem_map_of_mem hp)⟩

/-- into a def with cells -/
theorem enter_cells (B : Below A₀ base outer h₀) (F : Fr h₀ L s.heap m) (X₀ : K.In h₀) (N : News h₀ L s.heap given) (T : TopRead p loose mg mb h₀) (hA : A.frames = some (env :: outer)) (hf : env.frame = some L) (hke : env.scope.kind = .function)
    (ho : K.lookup f = some ⟨oc, od, .func (fnOf name qual params body scope dV kV doc pm an cdv ct), osl⟩) (hcd : codeIn K cdv qual = true) (hroom : A.depth < recursionLimit)
    (hbind : BindsTo s (fnOf name qual params body scope dV kV doc pm an cdv ct) args binds)
    (hkind : (binds.all fun y => scope.names.lookup y.1 == some .local || scope.names.lookup y.1 == some .cell) = true)
    (hnd : ((cellsFrom 0 scope.names []).map (·.1)).Nodup)
    (h : ∀ g L' h₁ tk cells, Fr h₀ L g m → Fr g L' h₁ (bindL (envOfC qual scope L' f cdv).kindOf binds fun _ => none) → News g L' h₁ (cells ++ given) →
      CellsAre (bindC (envOfC qual scope L' f cdv).kindOf binds fun _ => none) (cellsFrom (L' + 1) scope.names []) cells → Below A base (env :: outer) g → K.In g → TopRead p loose mg mb g → Kept s.heap given g → (∀ p ∈ given, p.1 < L') → s.heap.objs.size ≤ L' →
      wpAny (model prog w) (A.deeper (envOfC qual scope L' f cdv)) (execs body (envOfC qual scope L' f cdv))
        (fun fl s' => LeaveK h₀ L m g R (match fl with | .ret v => v | _ => .none) s')
        (fun e s' => wpAny (model prog w) (A.deeper (envOfC qual scope L' f cdv)) (leaving (envOfC qual scope L' f cdv) e) (fun _ s'' => R (.error e) s'') (fun e' s'' => R (.error e') s'') s')
        { s with heap := h₁, toks := tk })
    (hco : scope.isCoroutine = false) (hgen : scope.isGenerator = false) (hk : scope.kind = .function) : codeAny (model prog w) A (.call (.ref f) args) R s := by
  refine codeAny_call_function (fd := fnOf name qual params body scope dV kV doc pm an cdv ct) (body := body) hroom ((X₀.keeps F.keep) _ _ ho) rfl hco hgen rfl (codeRec_of (X₀.keeps F.keep) hcd) (hbind _ _ _ _ ?_)
  exact frame_cells B F X₀ N T hA hf hke hkind hnd h hk
theorem one_alloc {α : Type} {M : Model} {E : Value → Shared → Prop} {Q : α → Shared → Prop} {o : Obj} {r : Addr → α} (X : K.In s.heap)
    (q : Q (r s.heap.objs.size) { s with heap := s.heap.push o }) :
    ∀ (t : Sem α) (g : Addr → Option α), peek1 K ⟨M.prog, M.w.params⟩ t = some (o, g) → (∀ D, g D = some (r D)) → wpAny M A t Q E s := by
  intro t
  induction t with
  | rule _ k ih => intro g e hg Γ p hΓ; exact ih () g e hg Γ p hΓ
  | point _ k ih => intro g e hg Γ p hΓ; exact ih () g e hg Γ p hΓ
  | ask k ih => intro g e hg Γ p hΓ; exact ih _ g e hg Γ p hΓ
  | load a _ k ih =>
    intro g e hg Γ p hΓ
    simp only [peek1] at e
    split at e
    · rename_i ob ho; exact ⟨ob, X _ _ ho, ih ob g e hg Γ p hΓ⟩
    · cases e
  | alloc ob k _ =>
    intro g e hg
    obtain ⟨e1, e2⟩ := Prod.mk.inj (Option.some.inj (show some (ob, fun D => peek K ⟨M.prog, M.w.params⟩ (k D)) = some (o, g) from e))
    subst e1
    subst e2
    show wpAny M A (alloc ob >>= k) Q E s
    exact wpAny_bind (wpAny_alloc ((Looks.of_peek (M := M) (h := s.heap.push ob) (X.keeps fun b x hb => Heap.get?_push_of_some _ hb) (hg s.heap.objs.size)).here (s := { s with heap := s.heap.push ob }) q))
  | _ => intro g e; cases e
/-- into a def of star arguments alone, with cells -/
theorem enter_star {vs : List Value} {g₁ : Addr → Option (List (PySem.Str × Value))} {binds : Addr → List (PySem.Str × Value)} (B : Below A₀ base outer h₀) (F : Fr h₀ L s.heap m) (X₀ : K.In h₀) (N : News h₀ L s.heap given) (T : TopRead p loose mg mb h₀) (hA : A.frames = some (env :: outer)) (hf : env.frame = some L) (hke : env.scope.kind = .function)
    (ho : K.lookup f = some ⟨oc, od, .func (fnOf name qual params body scope dV kV doc pm an cdv ct), osl⟩) (hcd : codeIn K cdv qual = true) (hroom : A.depth < recursionLimit)
    (hp : peek1 K ⟨prog, w.params⟩ (bindArgs (fnOf name qual params body scope dV kV doc pm an cdv ct) args) = some (({ cls := .type "tuple", data := .seq vs.toArray } : Obj), g₁))
    (hg : ∀ D, g₁ D = some (binds D))
    (hkind : ∀ D, ((binds D).all fun y => scope.names.lookup y.1 == some .local || scope.names.lookup y.1 == some .cell) = true)
    (hnd : ((cellsFrom 0 scope.names []).map (·.1)).Nodup)
    (h : ∀ D g L' h₁ tk cells, (∀ p ∈ given, p.1 < D) → Fr h₀ L g m → Fr g L' h₁ (bindL (envOfC qual scope L' f cdv).kindOf (binds D) fun _ => none) → News g L' h₁ (cells ++ (D, ({ cls := .type "tuple", data := .seq vs.toArray } : Obj)) :: given) →
      CellsAre (bindC (envOfC qual scope L' f cdv).kindOf (binds D) fun _ => none) (cellsFrom (L' + 1) scope.names []) cells → Below A base (env :: outer) g → K.In g → TopRead p loose mg mb g → Kept s.heap given g → (∀ p ∈ (D, ({ cls := .type "tuple", data := .seq vs.toArray } : Obj)) :: given, p.1 < L') → s.heap.objs.size ≤ L' →
      wpAny (model prog w) (A.deeper (envOfC qual scope L' f cdv)) (execs body (envOfC qual scope L' f cdv))
        (fun fl s' => LeaveK h₀ L m g R (match fl with | .ret v => v | _ => .none) s')
        (fun e s' => wpAny (model prog w) (A.deeper (envOfC qual scope L' f cdv)) (leaving (envOfC qual scope L' f cdv) e) (fun _ s'' => R (.error e) s'') (fun e' s'' => R (.error e') s'') s')
        { s with heap := h₁, toks := tk })
    (hco : scope.isCoroutine = false) (hgen : scope.isGenerator = false) (hk : scope.kind = .function) : codeAny (model prog w) A (.call (.ref f) args) R s := by
  refine codeAny_call_function (fd := fnOf name qual params body scope dV kV doc pm an cdv ct) (body := body) hroom ((X₀.keeps F.keep) _ _ ho) rfl hco hgen rfl (codeRec_of (X₀.keeps F.keep) hcd) ?_
  refine one_alloc (o := ({ cls := .type "tuple", data := .seq vs.toArray } : Obj)) (X₀.keeps F.keep) (r := binds) ?_ _ g₁ hp hg
  have l : ∀ p ∈ given, p.1 < s.heap.objs.size := fun p hp => Heap.lt_size (N p hp).1
  refine frame_cells (s := { s with heap := s.heap.push ({ cls := .type "tuple", data := .seq vs.toArray } : Obj) }) B (F.push _) X₀ (News.push F N _ rfl) T hA hf hke (hkind _) hnd (fun g L' h₁ tk cells FG FL NG C BG XG TG KG lG zG => ?_) hk
  refine h _ g L' h₁ tk cells l FG FL NG C BG XG TG (fun b o e n => KG b o (Heap.get?_push_of_some _ e) ?_) lG (by rw [Heap.size_push] at zG; exact Nat.le_of_succ_le zG)
  intro hm
  rcases List.mem_map.mp hm with ⟨q, hq, e'⟩
  rcases List.mem_cons.mp hq with rfl | hq
  · exact absurd (Heap.lt_size e) (by rw [← e']; exact Nat.lt_irrefl _)
  · exact n (List.mem_map.mpr ⟨q, hq, e'⟩)
end
/-- a text by its codes -/
def S (l : List Nat) : PySem.Str := ⟨l.toArray⟩
abbrev tl (x : PySem.Str) : List Nat := x.cps.toList
def IsS (l : List Nat) (v : Value) : Prop := ∃ t, v = .str (S l) t
end
section
theorem tl_S (l : List Nat) : tl (S l) = l := by simp [tl, S]
theorem S_tl (x : PySem.Str) : S (tl x) = x := by simp [tl, S]
theorem len_S (l : List Nat) : (S l).length = l.length := by simp [S, PySem.Str.length]
theorem len_tl (x : PySem.Str) : (tl x).length = x.length := by simp [tl, PySem.Str.length]
theorem str_eq {x y : PySem.Str} (h : tl x = tl y) : x = y := by rw [← S_tl x, ← S_tl y, h]
theorem tl_append (x y : PySem.Str) : tl (x ++ y) = tl x ++ tl y := by simp [tl, PySem.Str.cps_append]
theorem beq_tl {x y : PySem.Str} : (x == y) = true ↔ tl x = tl y := by
  constructor
  · intro h; rw [eq_of_beq h]
  · intro h; rw [str_eq h]; simp
theorem bne_tl {x y : PySem.Str} : (x != y) = true ↔ tl x ≠ tl y := by
  rw [bne, Bool.not_eq_true', ← Bool.not_eq_true, beq_tl]
theorem beq_tl_f {x y : PySem.Str} : (x == y) = false ↔ tl x ≠ tl y := by
  rw [← Bool.not_eq_true, beq_tl]
theorem bne_tl_f {x y : PySem.Str} : (x != y) = false ↔ tl x = tl y := by
  rw [← Bool.not_eq_true, bne_tl]; exact Decidable.not_not
theorem tl_slice {x : PySem.Str} {i j : Int} (h0 : 0 ≤ i) (h1 : i ≤ j) (h2 : j ≤ x.length) : tl (Txt.slice x (some i) (some j)) = ((tl x).drop i.toNat).take (j - i).toNat := by
  have := slice_closes (x := x) (i := i) (j := j) ⟨h0, h1, by simpa [PySem.Str.length] using h2⟩
  rw [beq_tl] at this
  rw [this]
theorem tl_slice_from {x : PySem.Str} {i : Int} (h0 : 0 ≤ i) : tl (Txt.slice x (some i) none) = (tl x).drop i.toNat := by
  by_cases h : i ≤ x.length
  · have := slice_closes_from (x := x) (i := i) ⟨h0, by simpa [PySem.Str.length] using h⟩
    rw [beq_tl] at this
    rw [this]; simp only [tl]
    apply List.take_of_length_le
    simp only [List.length_drop]; omega
  · rw [slice_beyond (by omega)]
    symm
    simp only [tl, PySem.Str.empty]
    apply List.drop_eq_nil_of_le
    have : (x.cps.toList.length : Int) = x.length := by simp [PySem.Str.length]
    omega
theorem slice_to_max {x : PySem.Str} {j : Int} (h : (x.length : Int) ≤ j) : Txt.slice x none (some j) = Txt.slice x none (some x.length) := by
  have e : Builtin.Str.strSliceIndices none (some j) 1 x.length = Builtin.Str.strSliceIndices none (some (x.length : Int)) 1 x.length := by
    have h0 : ¬ j < 0 := by omega
    have h1 : ¬ ((x.length : Int) < 0) := by omega
    have h2 : (1 : Int) > 0 := by decide
    simp only [Builtin.Str.strSliceIndices, h0, h1, h2, if_false, if_true, Int.min_eq_right h, Int.min_self]
  unfold Txt.slice
  rw [e]
theorem tl_slice_to {x : PySem.Str} {j : Int} (h0 : 0 ≤ j) : tl (Txt.slice x none (some j)) = (tl x).take j.toNat := by
  have key : ∀ j : Int, 0 ≤ j → j ≤ x.length → tl (Txt.slice x none (some j)) = (tl x).take j.toNat := by
    intro j h0 h
    have := slice_closes_to (x := x) (j := j) ⟨h0, by simpa [PySem.Str.length] using h⟩
    rw [beq_tl] at this
    rw [this]; simp [tl]
  by_cases h : j ≤ x.length
  · exact key j h0 h
  · rw [slice_to_max (by omega), key _ (by omega) (Int.le_refl _)]
    rw [List.take_of_length_le (by simp [tl, PySem.Str.length]), List.take_of_length_le]
    have : (x.cps.toList.length : Int) = x.length := by simp [PySem.Str.length]
    simp only [tl]; omega
theorem item_at {x : PySem.Str} {i : Int} (h0 : 0 ≤ i) (h1 : i < x.length) : tl (Txt.item x i) = [(tl x).getD i.toNat 0] := by
  have e : Txt.charAt x i = x.cps[i.toNat]? := by
    unfold Txt.charAt
    rw [StrLaws.seqIndex_nonneg h0 h1]
    rfl
  simp [Txt.item, tl, e, List.getD_eq_getElem?_getD]
/-- at a place within, the rest begins with the sign there -/
theorem drop_at {l : List Nat} {n : Nat} (h : n < l.length) : l.drop n = l.getD n 0 :: l.drop (n + 1) := by
  rw [List.drop_eq_getElem_cons h, List.getD_eq_getElem?_getD, List.getElem?_eq_getElem h]
  rfl
theorem take_at {l : List Nat} {n : Nat} (h : n < l.length) : l.take (n + 1) = l.take n ++ [l.getD n 0] := by
  rw [List.take_add_one, List.getD_eq_getElem?_getD, List.getElem?_eq_getElem h]
  rfl
theorem isS_of {l : List Nat} {y : PySem.Str} {t : Tok} (h : tl y = l) : IsS l (.str y t) := ⟨t, by rw [← h, S_tl]⟩
end
section
open PySem PySem.W PyProof.Rows PySem.Calls
set_option maxHeartbeats 2000000
section
variable {prog : Program} {w : World} {A : Around} {E : Value → Shared → Prop} {s : Shared} {t u t1 t3 : Tok} {Q : Value → Shared → Prop} {n : Int}
theorem mod_chars (h0 : 0 ≤ n) (h1 : n < 10 ^ 10) (h : ∀ t' k, Q (.str (PySem.Str.ofString "[" ++ PySem.Str.ofString (toString n) ++ PySem.Str.ofString " chars]") t') { s with toks := k }) :
    wpAny (model prog w) A (binaryOp .Mod (.str (PySem.Str.ofString "[%d chars]") t) (.int n u)) Q E s := by
  refine' KPc.mod_int (T := fun n => PySem.Str.ofString "[" ++ PySem.Str.ofString (toString n) ++ PySem.Str.ofString " chars]") ?kpcF h0 h1 ?kpcm h
  case kpcF => kpc_eq
  case kpcm => k_dflt kpc_run
theorem mod_skip {x y : PySem.Str} {b L : Addr} {h₀ : Heap} {news : List (Addr × Obj)} (hx : x.length ≤ 1000) (hy : y.length ≤ 1000) (h0 : 0 ≤ n) (h1 : n < 10 ^ 10)
    (N : News h₀ L s.heap news) (hb : (b, ({ cls := .type "tuple", data := .seq #[.str x t1, .int n u, .str y t3] } : Obj)) ∈ news)
    (h : ∀ t' k, Q (.str (x ++ PySem.Str.ofString "[" ++ PySem.Str.ofString (toString n) ++ PySem.Str.ofString " chars]" ++ y) t') { s with toks := k }) :
    wpAny (model prog w) A (binaryOp .Mod (.str (PySem.Str.ofString "%s[%d chars]%s") t) (.ref b)) Q E s := by
  refine' KPt.mod_tuple N hb ?kptF ?kptm h
  case kptF => kpt_eq
  case kptm => k_dflt kpt_run
end
end
section
open PySem PySem.W PyProof.Rows PySem.Calls
set_option maxHeartbeats 800000
/-- codes that go on behind p with c -/
def At (p : List Nat) (c : Nat) (l : List Nat) : Prop := ∃ r, l = p ++ c :: r
theorem at_lt {p : List Nat} {a b : Nat} {x y : List Nat} (hx : At p a x) (hy : At p b y) (h : a ≠ b) : x < y ↔ a < b := by
  obtain ⟨r, rfl⟩ := hx
  obtain ⟨r', rfl⟩ := hy
  induction p with
  | nil => simp only [List.nil_append, List.cons_lt_cons_iff]; omega
  | cons c p ih => simp only [List.cons_append, List.cons_lt_cons_iff]; constructor
                   · rintro (h1 | ⟨_, h1⟩)
                     · omega
                     · exact ih.mp h1
                   · intro h1; exact .inr ⟨trivial, ih.mpr h1⟩
theorem at_irrefl {x : List Nat} : ¬ x < x := List.lt_irrefl x
section
variable {prog : Program} {w : World} {A : Around} {E : Value → Shared → Prop} {s : Shared} {h₀ : Heap} {L l : Addr} {m : PySem.Str → Option Value} {news : List (Addr × Obj)} {x y z : PySem.Str} {t1 t2 t3 : Tok} {Q : Value → Shared → Prop}
theorem cmp_lt (xs : Nat → PySem.Str) {P : Nat → Value → Prop} (hv : ∀ i v, P i v → ∃ t, v = .str (xs i) t) : CmpOf prog w A .Lt P (fun i j => decide (tl (xs i) < tl (xs j))) := fun i j vi vj s Q E hi hj h => by
  obtain ⟨t, rfl⟩ := hv i vi hi
  obtain ⟨u, rfl⟩ := hv j vj hj
  exact lt_str h
theorem cmp_gt (xs : Nat → PySem.Str) {P : Nat → Value → Prop} (hv : ∀ i v, P i v → ∃ t, v = .str (xs i) t) : CmpOf prog w A .Gt P (fun i j => decide (tl (xs i) > tl (xs j))) := fun i j vi vj s Q E hi hj h => by
  obtain ⟨t, rfl⟩ := hv i vi hi
  obtain ⟨u, rfl⟩ := hv j vj hj
  exact PySem.P.gt_str h
def three (x y z : PySem.Str) (i : Nat) : PySem.Str := if i = 0 then x else if i = 1 then y else z
theorem three_at {x y z : PySem.Str} {t1 t2 t3 : Tok} {i : Nat} {v : Value} (h : #[Value.str x t1, .str y t2, .str z t3][i]? = some v) : ∃ t, v = .str (three x y z i) t := by
  rcases i with _ | _ | _ | i
  · exact ⟨t1, by simpa [three] using h.symm⟩
  · exact ⟨t2, by simpa [three] using h.symm⟩
  · exact ⟨t3, by simpa [three] using h.symm⟩
  · simp at h
theorem best_is (bt : Nat → Nat → Bool) : argBest bt 2 = if bt 2 (if bt 1 0 then 1 else 0) then 2 else if bt 1 0 then 1 else 0 := by
  simp [argBest]
theorem min3 {p : List Nat} {a b c : Nat} (hh : A.handled = none) (F : Fr h₀ L s.heap m) (N : News h₀ L s.heap news) (hm : (l, ({ cls := .type "tuple", data := .seq #[.str x t1, .str y t2, .str z t3] } : Obj)) ∈ news)
    (hx : At p a (tl x)) (hy : At p b (tl y)) (hz : At p c (tl z)) (hab : a ≠ b) (hac : a ≠ c) (hbc : b ≠ c) (lx : x.length ≤ 1000) (ly : y.length ≤ 1000) (lz : z.length ≤ 1000)
    (h : ∀ u t h' tk', u.length ≤ 1000 → At p (min a (min b c)) (tl u) → Fr h₀ L h' m → News h₀ L h' news → Q (.str u t) { s with heap := h', toks := tk' }) :
    wpAny (model prog w) A (call (.builtin "min") [.ref l]) Q E s := by
  have hT : s.heap.IsTuple l #[.str x t1, .str y t2, .str z t3] := ⟨_, (N _ hm).1, rfl, 0, rfl⟩
  have hlt : l < s.heap.objs.size := Heap.lt_size (N _ hm).1
  refine call_min_walk (wpAny_pyIter_tuple hT ?_)
  refine ⟨_, [s.heap.objs.size, l], [s.heap.objs.size], _, _, _, _, rfl, Walks.tuple (A := A.in1) hh s.heap.objs.size l (Nat.ne_of_lt hlt) #[.str x t1, .str y t2, .str z t3], ⟨⟨_, Heap.get?_push_size _ rfl, rfl, rfl⟩, hT.push _⟩, fun d hd => ?_, by simp, cmp_lt (three x y z) (fun _ _ => three_at), fun v h' tk hP hk => ?_⟩
  · show d < (s.heap.push _).objs.size
    rw [Heap.size_push]
    rcases List.mem_cons.mp hd with rfl | hd
    · exact Nat.lt_succ_self _
    · rw [List.mem_singleton.mp hd]; exact Nat.lt_succ_of_lt hlt
  · have hk' : ∀ b o, s.heap.get? b = some o → h'.get? b = some o := fun b o e => hk b o (by simp; exact Nat.ne_of_lt (Heap.lt_size e)) (Heap.get?_push_of_some _ e)
    have F' := F.keeps hk'
    have N' := N.grown hk'
    rw [show (#[Value.str x t1, .str y t2, .str z t3] : Array Value).size - 1 = 2 from rfl, best_is] at hP
    simp only [three, decide_eq_true_eq] at hP
    have e10 := at_lt hy hx (Ne.symm hab)
    have e20 := at_lt hz hx (Ne.symm hac)
    have e21 := at_lt hz hy (Ne.symm hbc)
    simp only [show ¬ (1 : Nat) = 0 by decide, show ¬ (2 : Nat) = 0 by decide, show ¬ (2 : Nat) = 1 by decide, if_false, if_true] at hP
    by_cases h10 : b < a
    · simp only [e10.mpr h10, if_true, show ¬ (1 : Nat) = 0 by decide, if_false] at hP
      by_cases h21 : c < b
      · simp only [e21.mpr h21, if_true] at hP
        obtain rfl : Value.str z t3 = v := by simpa using hP
        exact h z t3 h' tk lz (by rw [show min a (min b c) = c by omega]; exact hz) F' N'
      · simp only [mt e21.mp h21, if_false] at hP
        obtain rfl : Value.str y t2 = v := by simpa using hP
        exact h y t2 h' tk ly (by rw [show min a (min b c) = b by omega]; exact hy) F' N'
    · simp only [mt e10.mp h10, if_false, if_true] at hP
      by_cases h20 : c < a
      · simp only [e20.mpr h20, if_true] at hP
        obtain rfl : Value.str z t3 = v := by simpa using hP
        exact h z t3 h' tk lz (by rw [show min a (min b c) = c by omega]; exact hz) F' N'
      · simp only [mt e20.mp h20, if_false] at hP
        obtain rfl : Value.str x t1 = v := by simpa using hP
        exact h x t1 h' tk lx (by rw [show min a (min b c) = a by omega]; exact hx) F' N'
theorem max3 {p : List Nat} {a b c : Nat} (hh : A.handled = none) (F : Fr h₀ L s.heap m) (N : News h₀ L s.heap news) (hm : (l, ({ cls := .type "tuple", data := .seq #[.str x t1, .str y t2, .str z t3] } : Obj)) ∈ news)
    (hx : At p a (tl x)) (hy : At p b (tl y)) (hz : At p c (tl z)) (hab : a ≠ b) (hac : a ≠ c) (hbc : b ≠ c) (lx : x.length ≤ 1000) (ly : y.length ≤ 1000) (lz : z.length ≤ 1000)
    (h : ∀ u t h' tk', u.length ≤ 1000 → At p (max a (max b c)) (tl u) → Fr h₀ L h' m → News h₀ L h' news → Q (.str u t) { s with heap := h', toks := tk' }) :
    wpAny (model prog w) A (call (.builtin "max") [.ref l]) Q E s := by
  have hT : s.heap.IsTuple l #[.str x t1, .str y t2, .str z t3] := ⟨_, (N _ hm).1, rfl, 0, rfl⟩
  have hlt : l < s.heap.objs.size := Heap.lt_size (N _ hm).1
  refine call_max_walk (wpAny_pyIter_tuple hT ?_)
  refine ⟨_, [s.heap.objs.size, l], [s.heap.objs.size], _, _, _, _, rfl, Walks.tuple (A := A.in1) hh s.heap.objs.size l (Nat.ne_of_lt hlt) #[.str x t1, .str y t2, .str z t3], ⟨⟨_, Heap.get?_push_size _ rfl, rfl, rfl⟩, hT.push _⟩, fun d hd => ?_, by simp, cmp_gt (three x y z) (fun _ _ => three_at), fun v h' tk hP hk => ?_⟩
  · show d < (s.heap.push _).objs.size
    rw [Heap.size_push]
    rcases List.mem_cons.mp hd with rfl | hd
    · exact Nat.lt_succ_self _
    · rw [List.mem_singleton.mp hd]; exact Nat.lt_succ_of_lt hlt
  · have hk' : ∀ b o, s.heap.get? b = some o → h'.get? b = some o := fun b o e => hk b o (by simp; exact Nat.ne_of_lt (Heap.lt_size e)) (Heap.get?_push_of_some _ e)
    have F' := F.keeps hk'
    have N' := N.grown hk'
    rw [show (#[Value.str x t1, .str y t2, .str z t3] : Array Value).size - 1 = 2 from rfl, best_is] at hP
    simp only [three, decide_eq_true_eq, gt_iff_lt] at hP
    have e10 := at_lt hx hy hab
    have e20 := at_lt hx hz hac
    have e21 := at_lt hy hz hbc
    simp only [show ¬ (1 : Nat) = 0 by decide, show ¬ (2 : Nat) = 0 by decide, show ¬ (2 : Nat) = 1 by decide, if_false, if_true] at hP
    by_cases h10 : a < b
    · simp only [e10.mpr h10, if_true, show ¬ (1 : Nat) = 0 by decide, if_false] at hP
      by_cases h21 : b < c
      · simp only [e21.mpr h21, if_true] at hP
        obtain rfl : Value.str z t3 = v := by simpa using hP
        exact h z t3 h' tk lz (by rw [show max a (max b c) = c by omega]; exact hz) F' N'
      · simp only [mt e21.mp h21, if_false] at hP
        obtain rfl : Value.str y t2 = v := by simpa using hP
        exact h y t2 h' tk ly (by rw [show max a (max b c) = b by omega]; exact hy) F' N'
    · simp only [mt e10.mp h10, if_false, if_true] at hP
      by_cases h20 : a < c
      · simp only [e20.mpr h20, if_true] at hP
        obtain rfl : Value.str z t3 = v := by simpa using hP
        exact h z t3 h' tk lz (by rw [show max a (max b c) = c by omega]; exact hz) F' N'
      · simp only [mt e20.mp h20, if_false] at hP
        obtain rfl : Value.str x t1 = v := by simpa using hP
        exact h x t1 h' tk lx (by rw [show max a (max b c) = a by omega]; exact hx) F' N'
end
end
section
set_option maxHeartbeats 800000
def chars (n : Int) : List Nat := tl (PySem.Str.ofString "[") ++ tl (PySem.Str.ofString (toString n)) ++ tl (PySem.Str.ofString " chars]")
def quoted (l : List Nat) : List Nat := 39 :: (l ++ [39])
def shortW (w : List Nat) (size longest : Int) : List Nat :=
  if 80 < longest then
    if longest - size < 58 then w.take 5 ++ chars (longest - 63 - 5) ++ w.drop (longest - 63).toNat
    else if 12 < size - 5 - 5 then
      if 12 < (w.length : Int) - 5 - (size + 41) then w.take 5 ++ chars (size - 5 - 5) ++ ((w.drop (size - 5).toNat).take 46 ++ chars ((w.length : Int) - 5 - (size + 41))) ++ w.drop (w.length - 5)
      else w.take 5 ++ chars (size - 5 - 5) ++ w.drop (size - 5).toNat
    else if 12 < (w.length : Int) - 5 - (size + 41) then w.take (size + 41).toNat ++ chars ((w.length : Int) - 5 - (size + 41)) ++ w.drop (w.length - 5)
    else w
  else w
def shortL (text : List Nat) (size longest : Int) : List Nat := shortW (quoted text) size longest
def shortenL (l : List Nat) (p q : Int) : List Nat :=
  if 12 < (l.length : Int) - p - q then l.take p.toNat ++ chars ((l.length : Int) - p - q) ++ l.drop (l.length - q.toNat) else l
def fineB (c : Nat) : Bool := decide (32 ≤ c) && decide (c ≤ 126) && !decide (c = 39) && !decide (c = 92)
def Fine (l : List Nat) : Prop := ∀ c ∈ l, fineB c = true
theorem At_end (x : List Nat) : At (39 :: x) 39 (quoted x) := ⟨[], rfl⟩
theorem At_in {x y : List Nat} {k : Nat} (h : At x k y) : At (39 :: x) k (quoted y) := by
  obtain ⟨r, rfl⟩ := h
  exact ⟨r ++ [39], by simp [quoted]⟩
theorem At_fine {x y : List Nat} {k : Nat} (f : Fine y) (h : At x k y) : 39 ≠ k := by
  obtain ⟨r, rfl⟩ := h
  rintro rfl
  exact absurd (f 39 (by simp)) (by decide)
theorem at_split {p : List Nat} {k : Nat} {l : List Nat} (h : At p k l) : l = p ++ l.drop p.length := by
  obtain ⟨r, rfl⟩ := h
  simp
/-- the first branch -/
theorem join_1 {p r : List Nat} {q : Int} (hp : 6 ≤ p.length) (h1 : 80 < q) (h2 : q - p.length < 58) :
    shortenL p 5 (63 - (q - p.length)) ++ r = shortW (p ++ r) p.length q := by
  unfold shortenL shortW
  rw [if_pos (show 12 < (p.length : Int) - 5 - (63 - (q - p.length)) by omega), if_pos h1, if_pos h2]
  rw [show (p.length : Int) - 5 - (63 - (q - p.length)) = q - 63 - 5 by omega]
  rw [List.take_append_of_le_length (by omega), List.append_assoc, List.append_assoc, List.append_assoc]
  rw [List.drop_append_of_le_length (by omega)]
  rw [show p.length - (63 - (q - p.length)).toNat = (q - 63).toNat by omega]
  simp
theorem join_2 {p r : List Nat} {q : Int} (hp : 6 ≤ p.length) (h1 : 80 < q) (h2 : ¬ q - p.length < 58) :
    shortenL p 5 5 ++ shortenL r 41 5 = shortW (p ++ r) p.length q := by
  unfold shortenL shortW
  rw [if_pos h1, if_neg h2, List.length_append]
  have e3 : ((p.length + r.length : Nat) : Int) - 5 - (p.length + 41) = (r.length : Int) - 41 - 5 := by omega
  have d5 : Int.toNat 5 = 5 := rfl
  have d41 : Int.toNat 41 = 41 := rfl
  have d1 : List.take 5 (p ++ r) = p.take 5 := List.take_append_of_le_length (by omega)
  have d2 : ((p.length : Int) - 5).toNat = p.length - 5 := by omega
  have d3 : List.drop (p.length - 5) (p ++ r) = List.drop (p.length - 5) p ++ r := List.drop_append_of_le_length (by omega)
  have d4 : (List.drop (p.length - 5) p ++ r).take 46 = List.drop (p.length - 5) p ++ r.take 41 := by
    rw [List.take_append, List.length_drop, List.take_of_length_le (by rw [List.length_drop]; omega), show 46 - (p.length - (p.length - 5)) = 41 by omega]
  have d6 : ((p.length : Int) + 41).toNat = p.length + 41 := by omega
  have d7 : List.take (p.length + 41) (p ++ r) = p ++ r.take 41 := by
    rw [List.take_append, List.take_of_length_le (by omega), show p.length + 41 - p.length = 41 by omega]
  rw [e3, d5, d41, d1, d2, d3, d4, d6, d7]
  have d8 : 12 < (r.length : Int) - 41 - 5 → List.drop (p.length + r.length - 5) (p ++ r) = List.drop (r.length - 5) r := by
    intro h
    rw [List.drop_append, List.drop_eq_nil_of_le (by omega), show p.length + r.length - 5 - p.length = r.length - 5 by omega]
    rfl
  by_cases h3 : 12 < (p.length : Int) - 5 - 5
  · rw [if_pos h3, if_pos h3]
    by_cases h4 : 12 < (r.length : Int) - 41 - 5
    · rw [if_pos h4, if_pos h4, d8 h4]
      simp
    · rw [if_neg h4, if_neg h4]
      simp
  · rw [if_neg h3, if_neg h3]
    by_cases h4 : 12 < (r.length : Int) - 41 - 5
    · rw [if_pos h4, if_pos h4, d8 h4]
      simp
    · rw [if_neg h4, if_neg h4]
end
section
set_option maxHeartbeats 800000
theorem chars_len {n : Int} (h0 : 0 ≤ n) (h1 : n < 10000) : (chars n).length ≤ 20 := by
  unfold chars
  rw [List.length_append, List.length_append, len_tl, len_tl, len_tl]
  have a : (PySem.Str.ofString "[").length = 1 := by decide +kernel
  have b : (PySem.Str.ofString " chars]").length = 7 := by decide +kernel
  have c := int_text_length_le10 (a := n) (k := 4) (by decide) (by omega)
  rw [a, b, PySem.ofString_length]
  omega
theorem shortenL_len {l : List Nat} {p q : Int} (h0 : 0 ≤ p) (h1 : 0 ≤ q) (hl : l.length ≤ 1000) : (shortenL l p q).length ≤ 1020 := by
  unfold shortenL
  split
  · have := chars_len (n := (l.length : Int) - p - q) (by omega) (by omega)
    rw [List.length_append, List.length_append, List.length_take, List.length_drop]
    omega
  · omega
theorem px_of {x : PySem.Str} {v : Value} (h : IsS (39 :: tl x) v) : ∃ px t, tl px = 39 :: tl x ∧ px.length = x.length + 1 ∧ v = .str px t := by
  obtain ⟨t, rfl⟩ := h
  exact ⟨_, t, tl_S _, by rw [len_S, ← len_tl]; rfl, rfl⟩
theorem sh_of {l : List Nat} {p q : Int} {v : Value} (h0 : 0 ≤ p) (h1 : 0 ≤ q) (hl : l.length ≤ 1000) (h : IsS (shortenL l p q) v) : ∃ sx t, tl sx = shortenL l p q ∧ sx.length ≤ 1020 ∧ v = .str sx t := by
  obtain ⟨t, rfl⟩ := h
  exact ⟨_, t, tl_S _, by rw [len_S]; exact shortenL_len h0 h1 hl, rfl⟩
theorem slice_from_len {x : PySem.Str} {i : Int} (h0 : 0 ≤ i) (hx : x.length ≤ 1000) : (Txt.slice x (some i) none).length ≤ 1000 := by
  rw [← len_tl, tl_slice_from h0, List.length_drop, len_tl]; omega
end
section
open PySem PySem.W PyProof.Rows PySem.Calls
set_option maxHeartbeats 800000
section
variable {prog : Program} {w : World} {A : Around} {E : Value → Shared → Prop} {s : Shared} {env : Env} {h₀ : Heap} {m : PySem.Str → Option Value} {news : List (Addr × Obj)} {Q : Flow → Shared → Prop}
def PairEnd (h₀ : Heap) (L : Addr) (m : PySem.Str → Option Value) (xi xc : PySem.Str) (news : List (Addr × Obj)) (P : Prop) (s s₂ : Shared) : Prop :=
  ∃ h' tk' m', s₂ = { s with heap := h', toks := tk' } ∧ Fr h₀ L h' m' ∧ News h₀ L h' news ∧ (∀ y, y ≠ xi → y ≠ xc → m' y = m y) ∧ P
def PairPost (h₀ : Heap) (L : Addr) (m : PySem.Str → Option Value) (xi xc : PySem.Str) (news : List (Addr × Obj)) (P : Prop) (s : Shared) (Q : Flow → Shared → Prop) (f : Flow) (s₂ : Shared) : Prop :=
  match f with
  | .ret v => Q (.ret v) s₂
  | .brk => Q .next s₂
  | _ => PairEnd h₀ L m xi xc news P s s₂
theorem pair_word {xx : PySem.Str} {xv : Value} {xi xc : PySem.Str} {body : List Stmt} (P : Nat → Prop) (S : PairSrcL prog w A E h₀ env.locals ItemKind.str (signs xx) xv s m news) (h0 : P 0)
    (step : ∀ (i : Nat) a t t' h tk own, (signs xx)[i]? = some a → P i → Fr h₀ env.locals h (fun y => if y = xc then some (.str a t') else if y = xi then some (.int i t) else m y) → News h₀ env.locals h (own ++ news) →
      wpAny (model prog w) A (execs body env) (PairPost h₀ env.locals m xi xc (own ++ news) (P (i + 1)) { s with heap := h, toks := tk } Q) E { s with heap := h, toks := tk })
    (done : P (signs xx).length → ∀ h' tk m', Fr h₀ env.locals h' m' → News h₀ env.locals h' news → Q .next { s with heap := h', toks := tk }) :
    wpAny (model prog w) A (pyIter xv) (fun it s₂ => PairAt3 prog w A h₀ env xi xc body Q E it s₂) E s := by
  refine S env rfl xi xc body Q (fun i m₁ nw => nw = news ∧ P i ∧ ∀ y, y ≠ xi → y ≠ xc → m₁ y = m y) ⟨rfl, h0, fun _ _ _ => rfl⟩ ?_ ?_
  · rintro i a t v m₁ nw s₁ own ⟨h, tk, rfl⟩ ha hv ⟨rfl, hP, hm⟩ _ _ F N
    obtain ⟨t', rfl⟩ := ItemKind.str_is hv
    have e : (fun y => if y = xc then some (Value.str a t') else if y = xi then some (.int i t) else m₁ y) = (fun y => if y = xc then some (.str a t') else if y = xi then some (.int i t) else m y) := by
      funext y
      by_cases h1 : y = xc
      · simp [h1]
      · by_cases h2 : y = xi
        · simp [h2]
        · simp [h1, h2, hm y h2 h1]
    rw [e] at F
    refine wpAny_mono (step i a t t' h tk own ha hP F N) (fun f s₂ p => ?_) fun _ _ e => e
    have up : PairEnd h₀ env.locals m xi xc (own ++ nw) (P (i + 1)) { s with heap := h, toks := tk } s₂ → LoopStep2 h₀ env.locals own nw (fun m₁ nw' => nw' = nw ∧ P (i + 1) ∧ ∀ y, y ≠ xi → y ≠ xc → m₁ y = m y) { s with heap := h, toks := tk } .next s₂ := by
      rintro ⟨h', tk', m', rfl, F', N', hm', hP'⟩
      exact ⟨rfl, h', tk', m', nw, rfl, F', N', rfl, rfl, hP', hm'⟩
    cases f with
    | ret v => exact p
    | brk => exact p
    | next => exact up p
    | cont => exact up p
  · rintro h' tk m' nw F N _ ⟨rfl, hP, _⟩
    exact done hP h' tk m' F N
end
def AtPre (p : List Nat) (k : Nat) (l : List Nat) : Prop := At p k l
section
variable {p : List Nat} {k1 k2 i : Nat} {u v a : PySem.Str}
theorem at_len (h : At p k1 (tl u)) : p.length < u.length := by
  obtain ⟨r, e⟩ := h
  rw [← len_tl, e]
  simp
theorem sign_tl (h : (signs u)[i]? = some a) : i < u.length ∧ tl a = [(tl u).getD i 0] := by
  unfold signs at h
  rw [List.getElem?_map] at h
  obtain ⟨c, hc, rfl⟩ := Option.map_eq_some_iff.mp h
  obtain ⟨hi, e⟩ := List.getElem?_eq_some_iff.mp hc
  refine ⟨by rw [← len_tl]; exact hi, ?_⟩
  simp only [tl, List.getD_eq_getElem?_getD, hc]
  rfl
theorem at_get (h : At p k1 (tl u)) (hi : i < p.length) : (tl u).getD i 0 = p.getD i 0 := by
  obtain ⟨r, e⟩ := h
  rw [e, List.getD_eq_getElem?_getD, List.getD_eq_getElem?_getD, List.getElem?_append_left hi]
theorem at_get_end (h : At p k1 (tl u)) : (tl u).getD p.length 0 = k1 := by
  obtain ⟨r, e⟩ := h
  rw [e, List.getD_eq_getElem?_getD, List.getElem?_append_right (Nat.le_refl _)]
  simp
theorem item_tl (hi : i < v.length) : tl (Txt.item v (i : Int)) = [(tl v).getD i 0] := by
  rw [item_at (by omega) (by omega)]
  simp
theorem pf_next (hu : At p k1 (tl u)) (hv : At p k2 (tl v)) (hk : k1 ≠ k2) (ha : (signs u)[i]? = some a) (hP : i ≤ p.length) (hne : (a != Txt.item v (i : Int)) = false) : i + 1 ≤ p.length := by
  obtain ⟨_, ea⟩ := sign_tl ha
  have := at_len hv
  rw [bne_tl_f, ea, item_tl (by omega)] at hne
  have hne := List.head_eq_of_cons_eq hne
  by_cases h : i = p.length
  · rw [h, at_get_end hu, at_get_end hv] at hne
    exact absurd hne hk
  · omega
theorem pf_ret (hu : At p k1 (tl u)) (hv : At p k2 (tl v)) (ha : (signs u)[i]? = some a) (hP : i ≤ p.length) (hne : (a != Txt.item v (i : Int)) = true) : tl (Txt.slice u none (some (i : Int))) = p := by
  obtain ⟨_, ea⟩ := sign_tl ha
  have := at_len hv
  rw [bne_tl, ea, item_tl (by omega)] at hne
  have h : i = p.length := by
    by_cases h : i < p.length
    · rw [at_get hu h, at_get hv h] at hne
      exact absurd rfl hne
    · omega
  rw [tl_slice_to (by omega), show ((i : Int)).toNat = i by omega, h]
  obtain ⟨r, e⟩ := hu
  rw [e]
  simp
theorem pf_done (hu : At p k1 (tl u)) (hP : (signs u).length ≤ p.length) : False := by
  rw [signs_length] at hP
  have := at_len hu
  omega
end
end
section
open PySem PySem.W PyProof.Rows PySem.Calls PyProof.Rows.LCg
set_option maxHeartbeats 800000
section
variable {prog : Program} {w : World} {A : Around} {E : Value → Shared → Prop} {s : Shared} {h₀ : Heap} {L : Addr} {m : PySem.Str → Option Value} {env : Env}
def TupSrc (prog : Program) (w : World) (A : Around) (h₀ : Heap) (L : Addr) (m : PySem.Str → Option Value) (env : Env) (elt : Expr) (x : PySem.Str) (scope : Scope) (cl : List (PySem.Str × Addr)) (Fin : Shared → List Value → List (Addr × Obj) → Prop) (xv : Value) (s₁ : Shared) : Prop :=
  ∃ ax vs news, xv = .ref ax ∧ A.handled = none ∧ Fr h₀ L s₁.heap m ∧ News h₀ L s₁.heap news ∧ (ax, tup vs) ∈ news ∧ vs.length ≤ sizeLine ∧
    ∀ s₂ : Shared, (∃ h, s₂ = { s₁ with heap := h }) → CompRest prog w A h₀ L m env elt x scope cl s₂ (fun nw => (ax, tup vs) ∈ nw) (fun i v => vs.toArray[i]? = some v) (Fin s₂) vs.toArray.size 0 [] news
theorem tup_st {ax I : Addr} {vs : List Value} : ∀ i (h h' : Heap) (o : Obj) (nw : List (Addr × Obj)), (h.IsTupleIter I ax i ∧ h.IsTuple ax vs.toArray) → h.get? I = some o → h'.get? I = some o → (∀ b o, h₀.get? b = some o → h'.get? b = some o) → News h₀ L h' nw → (ax, tup vs) ∈ nw → (h'.IsTupleIter I ax i ∧ h'.IsTuple ax vs.toArray) :=
  fun i h h' o nw st e e' k N S => ⟨by obtain ⟨o', q, r⟩ := st.1; rw [e] at q; cases q; exact ⟨o, e', r⟩, ⟨_, (N _ S).1, rfl, 0, rfl⟩⟩
theorem ListComp_tup {elt iter : Expr} {x : PySem.Str} {px : Pos} {scope : Scope} {cl : List (PySem.Str × Addr)} {pos : Pos} {Q : Value → Shared → Prop} (_F₀ : Fr h₀ L s.heap m)
    (hclos : closureFor scope env = pure cl) (hcell : ∀ y ∈ scope.names, y.2 ≠ .cell) (hkind : scope.kind = .function)
    (hnames : ∀ y ∈ scope.names, y.2 = .local → scope.names.lookup y.1 = some .local) (hx : scope.names.lookup x = some .local)
    (h : wpAny (model prog w) A (eval iter env) (TupSrc prog w A h₀ L m env elt x scope cl (fun s₂ => FinE h₀ L m s₂ Q)) E s)
    (hs : ∀ x, foldedSetIterable iter env x = pure x := by intro _; rfl) :
    wpAny (model prog w) A (eval (.ListComp elt [⟨.Name x px, iter, [], 0⟩] scope pos) env) Q E s := by
  rw [eval_ListComp]
  refine wpAny_comprehension_free (use := none) rfl hs hclos hkind hnames (wpAny_mono h (fun xv s₁ h₁ => ?_) fun _ _ e => e)
  obtain ⟨ax, vs, news, rfl, hh, F, N, S, hsz, R⟩ := h₁
  have hl : s₁.heap.IsTuple ax vs.toArray := ⟨_, (N _ S).1, rfl, 0, rfl⟩
  have hlt : ax < s₁.heap.objs.size := Heap.lt_size (N _ S).1
  refine wpAny_pyIter_tuple hl ?_
  have up : ∀ b o, s₁.heap.get? b = some o → (s₁.heap.push { cls := .type "tuple_iterator", data := .fields #[.ref ax, .int 0 0] }).get? b = some o := fun b o e => Heap.get?_push_of_some _ e
  refine block_U (Walks.tuple hh (prog := prog) (w := w) s₁.heap.objs.size ax (Nat.ne_of_lt hlt) vs.toArray) (by rw [List.size_toArray]; exact hsz) (fun i h st => by obtain ⟨o, e, _⟩ := st.1; exact ⟨o, e⟩) tup_st hcell hkind hx ⟨⟨_, Heap.get?_push_size _ rfl, rfl, rfl⟩, hl.push _⟩ (fun b hb => ?_)
    (F.keeps up) (N.grown up) (Nat.ne_of_lt F.ns.lt) (next_is_new F) (fun p hp => Nat.ne_of_lt (Heap.lt_size (N p hp).1)) S (R _ ⟨_, rfl⟩) ?_
  · show b < (s₁.heap.push _).objs.size
    rw [Heap.size_push]
    rcases List.mem_cons.mp hb with rfl | hb
    · exact Nat.lt_succ_self _
    · rw [List.mem_singleton.mp hb]; exact Nat.lt_succ_of_lt hlt
  · intro D C h tk m' ys news' F' N' o1 hn hC₀ hD₀ hCL hDL hCD offC fin
    refine ⟨m', hn, fun h'' hs'' => fin D h'' tk (F'.change hs'' hCL hC₀) (fun p hp => ?_) o1⟩
    refine ⟨hs''.extBut _ _ ?_ (N' p hp).1, (N' p hp).2⟩
    rcases List.mem_cons.mp hp with rfl | hp
    · exact Ne.symm hCD
    · exact offC p hp
theorem TupSrc.ledger {elt : Expr} {x : PySem.Str} {scope : Scope} {cl : List (PySem.Str × Addr)} {Fin : Shared → List Value → List (Addr × Obj) → Prop} {ax : Addr} {vs : List Value} {news : List (Addr × Obj)} {s₁ : Shared}
    (hh : A.handled = none) (F : Fr h₀ L s₁.heap m) (N : News h₀ L s₁.heap news) (hm : (ax, tup vs) ∈ news) (hsz : vs.length ≤ sizeLine)
    (h : ∀ g, CompRest prog w A h₀ L m env elt x scope cl { s₁ with heap := g } (fun nw => (ax, tup vs) ∈ nw) (fun i v => vs.toArray[i]? = some v) (Fin { s₁ with heap := g }) vs.toArray.size 0 [] news) :
    TupSrc prog w A h₀ L m env elt x scope cl Fin (.ref ax) s₁ := ⟨ax, vs, news, rfl, hh, F, N, hm, hsz, fun _ ⟨g, e⟩ => e ▸ h g⟩
end
end
section
open PySem.Sem (wp)
open PySem.AutoSeq1 (wpAny_loadPart')
set_option maxHeartbeats 800000
theorem owner_map : Manifest.owners.lookup (String.ofList ['p', 'a', 'm'].reverse) = some Manifest.sig_map := by kernel_rfl
theorem slot_map_iter : Slot "map" "__iter__" "map.__iter__" :=
  .of (owner := "map") (n := "__iter__") (by rw [typeLookup_type, builtinLookup_eq_fast]; kernel_rfl) (by decide +kernel) (by decide +kernel) (by decide +kernel)
    (by first | exact .inl (by decide +kernel) | exact .inr (by decide +kernel)) (by rw [isSubtype_type]; kernel_rfl)
theorem slot_map_next : Slot "map" "__next__" "map.__next__" :=
  .of (owner := "map") (n := "__next__") (by rw [typeLookup_type, builtinLookup_eq_fast]; kernel_rfl) (by decide +kernel) (by decide +kernel) (by decide +kernel)
    (by first | exact .inl (by decide +kernel) | exact .inr (by decide +kernel)) (by rw [isSubtype_type]; kernel_rfl)
theorem slot_map_init : Slot "map" "__init__" "object.__init__" :=
  .of (owner := "object") (n := "__init__") (by rw [typeLookup_type, builtinLookup_eq_fast]; kernel_rfl) (by decide +kernel) (by decide +kernel) (by decide +kernel)
    (by first | exact .inl (by decide +kernel) | exact .inr (by decide +kernel)) (by rw [isSubtype_type]; kernel_rfl)
theorem args_map_iter_1 (a : Value) : argsOk "map.__iter__" ⟨[a], []⟩ := by
  unfold argsOk; rw [signature?_of (id := "map.__iter__") (n := ['_', '_', 'r', 'e', 't', 'i', '_', '_']) (o := ['p', 'a', 'm']) (by kernel_rfl) owner_map]; kernel_rfl
theorem args_map_next_1 (a : Value) : argsOk "map.__next__" ⟨[a], []⟩ := by
  unfold argsOk; rw [signature?_of (id := "map.__next__") (n := ['_', '_', 't', 'x', 'e', 'n', '_', '_']) (o := ['p', 'a', 'm']) (by kernel_rfl) owner_map]; kernel_rfl
theorem entry_map_next : entryFor table "map.__next__" = some Builtin.«map.__next__» := entryFor_of_tree (by kernel_rfl)
theorem entry_map_new : entryFor table "map.__new__" = some Builtin.«map.__new__» := entryFor_of_tree (by kernel_rfl)
theorem entry_map_iter : entryFor table "map.__iter__" = some Builtin.«dict_keyiterator.__iter__» :=
  entryFor_alias (id' := "dict_keyiterator.__iter__") (by kernel_rfl) (by first | rfl | decide +kernel | (unfold String.splitOn; simp +decide [String.splitOnAux])) (by decide +kernel) (by kernel_rfl)
theorem mro_map : mroOf (.type "map") = pure [.type "map", .type "object"] := by rw [mroOf_type]; kernel_rfl
theorem lookup_map_new : typeLookup (.type "map") "__new__" = pure (some (.builtin "map.__new__")) := by rw [typeLookup_type, builtinLookup_eq_fast]; kernel_rfl
theorem map_no_len : typeLookup (.type "map") "__len__" = pure none := by rw [typeLookup_type, builtinLookup_eq_fast]; kernel_rfl
theorem map_no_hint : typeLookup (.type "map") "__length_hint__" = pure none := by rw [typeLookup_type, builtinLookup_eq_fast]; kernel_rfl
theorem called_map : TypeCalled "map" "map.__new__" "object.__init__" :=
  ⟨by decide +kernel, by decide +kernel, ⟨_, _, mro_map⟩, madeBy_type mro_map lookup_map_new (by decide +kernel), by decide +kernel, by rw [isSubtype_type]; kernel_rfl, slot_map_init⟩
theorem typeCall_map_2 (a b : Value) : checkTypeCall "map" ⟨[a, b], []⟩ = pure () := by kernel_rfl
theorem newCall_map_2 (a b : Value) : checkBuiltinCall "map.__new__" ⟨[.type "map", a, b], []⟩ = pure () := by kernel_rfl
theorem sub_map : isSubtype (.type "map") (.type "map") = pure true := by rw [isSubtype_type]; kernel_rfl
abbrev itObj (ax : Addr) : Obj := { cls := .type "tuple_iterator", data := .fields #[.ref ax, .int 0 0] }
abbrev mapObj (its : Addr) (f : Value) : Obj := { cls := .type "map", data := .fields #[.ref its, f] }
theorem meets_map_new (f : Value) (ax : Addr) (items : Array Value) (n : Nat) :
    Meets (Builtin.«map.__new__» ⟨[.type "map", f, .ref ax], []⟩) (fun _ R s => s.heap.get? ax = some { cls := .type "tuple", dict := none, data := .seq items n, slots := #[] } ∧
      R (.ok (.ret (.ref (s.heap.objs.size + 2)))) { s with heap := ((s.heap.push (itObj ax)).push (tup [.ref s.heap.objs.size])).push (mapObj (s.heap.objs.size + 1) f) }) :=
  .of_wp fun prog w A R s h => by
    obtain ⟨hp, g, d, tk, os⟩ := s; obtain ⟨hl, h⟩ := h
    have hsub := sub_map
    have hL : Heap.IsTuple (Shared.heap ⟨hp, g, d, tk, os⟩) ax items := ⟨_, hl, rfl, n, rfl⟩
    have hz1 : (hp.push (itObj ax)).objs.size = hp.objs.size + 1 := Heap.size_push ..
    have hz2 : ((hp.push (itObj ax)).push (tup [.ref hp.objs.size])).objs.size = hp.objs.size + 2 := by rw [Heap.size_push, hz1]
    wp_walk using wpAny_loadPart' hl, wpAny_pyIter_tuple hL
    refine ⟨_, rfl, ?_⟩
    show R (.ok (.ret (.ref ((hp.push (itObj ax)).push (tup [.ref hp.objs.size])).objs.size))) ⟨((hp.push (itObj ax)).push (tup [.ref hp.objs.size])).push (mapObj (hp.push (itObj ax)).objs.size f), g, d, tk, os⟩
    rw [hz2, hz1]
    exact h

section
variable {prog : Program} {w : World} {A : Around} {E : Value → Shared → Prop} {s : Shared}
theorem call_map_2 {f : Value} {ax : Addr} {items : Array Value} {n : Nat} {Q : Value → Shared → Prop}
    (hl : s.heap.get? ax = some { cls := .type "tuple", dict := none, data := .seq items n, slots := #[] })
    (h : Q (.ref (s.heap.objs.size + 2)) { s with heap := ((s.heap.push (itObj ax)).push (tup [.ref s.heap.objs.size])).push (mapObj (s.heap.objs.size + 1) f) }) :
    wpAny (model prog w) A (call (.type "map") [f, .ref ax]) Q E s := by
  refine callType_new called_map (by decide) (typeCall_map_2 _ _) (newCall_map_2 _ _) (fun obj => ?_) entry_map_new (meets_map_new f ax items n) ⟨hl, ?_⟩
  · exact F.args_object_init_3 obj _ _
  · have hz1 : (s.heap.push (itObj ax)).objs.size = s.heap.objs.size + 1 := Heap.size_push ..
    have hz2 : ((s.heap.push (itObj ax)).push (tup [.ref s.heap.objs.size])).objs.size = s.heap.objs.size + 2 := by rw [Heap.size_push, hz1]
    exact ⟨⟨_, by rw [← hz2]; exact Heap.get?_push_size _ rfl, rfl⟩, h⟩

theorem wpAny_pyIter_map {c b : Addr} {f : Value} {Q : Value → Shared → Prop} (hc : s.heap.get? c = some (mapObj b f)) (h : Q (.ref c) s) : wpAny (model prog w) A (pyIter (.ref c)) Q E s := by
  have hT : s.TypeIs (.ref c) "map" := ⟨_, hc, rfl⟩
  refine wpAny_pyIter_slot hT slot_map_iter (wpAny_call_entry slot_map_iter hT entry_map_iter ?_ (args_map_iter_1 _))
  show wpAny _ _ (ret (.ref c)) _ _ s
  exact wpAny_pure ⟨_, rfl, "map", _, hT, slot_map_next.lookup, h⟩

theorem wpAny_nextOf_tuple_item {it t : Addr} {i : Nat} {items} {x : Value} {Q : Value → Shared → Prop} (hit : s.heap.IsTupleIter it t i)
    (ht : s.heap.IsTuple t items) (hx : items[i]? = some x)
    (hQ : ∀ h', h'.IsTupleIter it t (i + 1) → Heap.SameBut it s.heap h' → Q x { s with heap := h' }) :
    wpAny (model prog w) A (Builtin.SmallTypes.nextOf (.ref it)) Q E s := by
  obtain ⟨o, ho, hc, hd⟩ := id hit
  obtain ⟨ol, hol, _, nl, hdl⟩ := ht
  unfold Builtin.SmallTypes.nextOf
  refine wpAny_bind (wpAny_callSpecial?_slot (name := Str.ofString "__next__") hit.typeIs F.slot_tuple_iterator_next
    (wpAny_call_entry F.slot_tuple_iterator_next hit.typeIs F.entry_tuple_iterator_next ?_ (F.args_tuple_iterator_next_1 _)))
  show wpAny _ _ (field (.ref it) 0 >>= _) _ _ s
  refine wpAny_bind (wpAny_field ho hd (x := .ref t) rfl ?_)
  show wpAny _ _ (if (Value.ref t == Value.none) = true then _ else _) _ _ s
  rw [if_neg (show ¬ ((Value.ref t == Value.none) = true) from Bool.false_ne_true)]
  show wpAny _ _ (field (.ref it) 1 >>= _) _ _ s
  refine wpAny_bind (wpAny_field ho hd (x := .int i 0) rfl ?_)
  show wpAny _ _ (seqItems? (.ref t) >>= _) _ _ s
  refine wpAny_bind (wpAny_seqItems hol hdl ?_)
  simp only [Int.toNat_natCast, hx]
  refine wpAny_bind (wpAny_setField ho hd (by simp) (wpAny_pure ⟨x, rfl, wpAny_pure (hQ _ ?_ (Heap.SameBut.update ..))⟩))
  exact ⟨_, Heap.get?_update_self _ ho (Obj.isFreed_of_fields (Obj.data_mapFields hd _)), (Obj.cls_mapFields ..).trans hc, by
    rw [Obj.data_mapFields hd]; simp [rawInt]⟩

theorem wpAny_nextOf_tuple_end {it t : Addr} {i : Nat} {items} {Q : Value → Shared → Prop} (hh : A.handled = none)
    (hit : s.heap.IsTupleIter it t i) (ht : s.heap.IsTuple t items) (hx : items[i]? = none)
    (hE : ∀ h' e, Heap.ExtBut it s.heap h' → (∃ o, h'.get? e = some o ∧ o.cls = .type "StopIteration") → E (.ref e) { s with heap := h' }) :
    wpAny (model prog w) A (Builtin.SmallTypes.nextOf (.ref it)) Q E s := by
  obtain ⟨o, ho, hc, hd⟩ := id hit
  obtain ⟨ol, hol, _, nl, hdl⟩ := ht
  unfold Builtin.SmallTypes.nextOf
  refine wpAny_bind (wpAny_callSpecial?_slot (name := Str.ofString "__next__") hit.typeIs F.slot_tuple_iterator_next
    (wpAny_call_entry F.slot_tuple_iterator_next hit.typeIs F.entry_tuple_iterator_next ?_ (F.args_tuple_iterator_next_1 _)))
  show wpAny _ _ (field (.ref it) 0 >>= _) _ _ s
  refine wpAny_bind (wpAny_field ho hd (x := .ref t) rfl ?_)
  show wpAny _ _ (if (Value.ref t == Value.none) = true then _ else _) _ _ s
  rw [if_neg (show ¬ ((Value.ref t == Value.none) = true) from Bool.false_ne_true)]
  show wpAny _ _ (field (.ref it) 1 >>= _) _ _ s
  refine wpAny_bind (wpAny_field ho hd (x := .int i 0) rfl ?_)
  show wpAny _ _ (seqItems? (.ref t) >>= _) _ _ s
  refine wpAny_bind (wpAny_seqItems hol hdl ?_)
  simp only [Int.toNat_natCast, hx]
  refine wpAny_bind (wpAny_rule (wpAny_bind (wpAny_setField ho hd (by simp) ?_)))
  show wpAny _ _ (newExc (.type "StopIteration") [] >>= _) _ _ _
  refine wpAny_bind ?_
  simp only [newExc, newTuple]
  refine wpAny_bind (wpAny_newObj_type ?_ (by size_fits))
  refine wpAny_bind (m := firstArgMember _ _) (wpAny_of_eq (a := Value.none) (by first | rfl | (simp only [firstArgMember]; rfl)) ?_)
  refine wpAny_newObj_type ?_ (by size_fits)
  simp only [raiseNew]
  refine wpAny_bind (wpAny_handled ?_)
  first | rw [show A.in1.handled = none from hh] | rw [hh]
  refine wpAny_bind (wpAny_pure (wpAny_throw ?_))
  exact hE _ _ (((Heap.SameBut.update ..).extBut.push _).push _) ⟨_, Heap.get?_push_size _ rfl, rfl⟩

/-- the state of a map over a tuple, i things told -/
structure MapAt (h : Heap) (c b a ax : Addr) (f : Value) (vs : List Value) (Inv : Heap → Prop) (i : Nat) : Prop where
  cc : h.get? c = some (mapObj b f)
  bb : h.get? b = some (tup [.ref a])
  aa : h.IsTupleIter a ax i
  xx : h.get? ax = some (tup vs)
  inv : Inv h
def CallsTo (prog : Program) (w : World) (A : Around) (f : Value) (vs : List Value) (P : Nat → Value → Prop) (Inv : Heap → Prop) : Prop :=
  ∀ i x (s : Shared) (Q E : Value → Shared → Prop), vs[i]? = some x → Inv s.heap → (∀ v h' tk', P i v → (∀ b o, s.heap.get? b = some o → h'.get? b = some o) → Q v { s with heap := h', toks := tk' }) → wpAny (model prog w) A (call f [x]) Q E s

theorem map_next_item {c b a ax : Addr} {f : Value} {vs : List Value} {Inv : Heap → Prop} {P : Nat → Value → Prop} {i : Nat} {Q : Option Value → Shared → Prop}
    (C : CallsTo prog w A.in1 f vs P Inv) (hc : c ≠ a) (hb : b ≠ a) (hx : ax ≠ a) (hI : ∀ h h', Inv h → (∀ b o, b ≠ a → h.get? b = some o → h'.get? b = some o) → Inv h') (hi : i < vs.length) (M : MapAt s.heap c b a ax f vs Inv i)
    (hQ : ∀ v h' tk', P i v → MapAt h' c b a ax f vs Inv (i + 1) → (∀ b o, b ≠ a → s.heap.get? b = some o → h'.get? b = some o) → Q (some v) { s with heap := h', toks := tk' }) :
    wpAny (model prog w) A (pyNext (.ref c)) Q E s := by
  have hT : s.TypeIs (.ref c) "map" := ⟨_, M.cc, rfl⟩
  unfold pyNext
  refine wpAny_bind (wpAny_attempt (wpAny_callSpecial?_slot (name := Str.ofString "__next__") hT slot_map_next
    (wpAny_call_entry slot_map_next hT entry_map_next ?_ (args_map_next_1 _))))
  show wpAny _ _ (field (.ref c) 0 >>= _) _ _ _
  refine wpAny_bind (wpAny_field M.cc rfl (x := .ref b) rfl ?_)
  show wpAny _ _ (seqItems? (.ref b) >>= _) _ _ _
  refine wpAny_bind (wpAny_seqItems M.bb rfl ?_)
  simp only [List.forIn_toArray, List.forIn_cons, List.forIn_nil]
  refine wpAny_bind (wpAny_bind (wpAny_bind (wpAny_holding ?_)))
  refine wpAny_nextOf_tuple_item M.aa ⟨_, M.xx, rfl, 0, rfl⟩ (x := vs[i]) (by simp [hi]) fun h₁ hit₁ hs₁ => ?_
  refine wpAny_pure (wpAny_pure ?_)
  have hc₁ : h₁.get? c = some (mapObj b f) := hs₁.extBut _ _ hc M.cc
  refine wpAny_bind (wpAny_field hc₁ rfl (x := f) rfl ?_)
  refine wpAny_bind (wpAny_holding ?_)
  show wpAny _ _ (call f [vs[i]]) _ _ _
  refine C i vs[i] _ _ _ (by simp [hi]) (hI _ _ M.inv fun b o n e => hs₁.extBut b o n e) fun v h' tk' hP hk => ?_
  refine wpAny_bind (wpAny_letGo ?_)
  refine wpAny_pure ⟨v, rfl, wpAny_pure (hQ v h' tk' hP ⟨hk _ _ hc₁, hk _ _ (hs₁.extBut _ _ hb M.bb), ?_, hk _ _ (hs₁.extBut _ _ hx M.xx), hI _ _ M.inv fun b o n e => hk _ _ (hs₁.extBut b o n e)⟩ fun b o n e => hk _ _ (hs₁.extBut b o n e))⟩
  obtain ⟨o, ho, r⟩ := hit₁
  exact ⟨o, hk _ _ ho, r⟩

theorem map_next_end {c b a ax : Addr} {f : Value} {vs : List Value} {Inv : Heap → Prop} {Q : Option Value → Shared → Prop} (hh : A.handled = none)
    (M : MapAt s.heap c b a ax f vs Inv vs.length) (hQ : ∀ h' , (∀ b o, b ≠ a → s.heap.get? b = some o → h'.get? b = some o) → Q none { s with heap := h' }) :
    wpAny (model prog w) A (pyNext (.ref c)) Q E s := by
  have hT : s.TypeIs (.ref c) "map" := ⟨_, M.cc, rfl⟩
  unfold pyNext
  refine wpAny_bind (wpAny_attempt (wpAny_callSpecial?_slot (name := Str.ofString "__next__") hT slot_map_next
    (wpAny_call_entry slot_map_next hT entry_map_next ?_ (args_map_next_1 _))))
  show wpAny _ _ (field (.ref c) 0 >>= _) _ _ _
  refine wpAny_bind (wpAny_field M.cc rfl (x := .ref b) rfl ?_)
  show wpAny _ _ (seqItems? (.ref b) >>= _) _ _ _
  refine wpAny_bind (wpAny_seqItems M.bb rfl ?_)
  simp only [List.forIn_toArray, List.forIn_cons, List.forIn_nil]
  refine wpAny_bind (wpAny_bind (wpAny_bind (wpAny_holding ?_)))
  refine wpAny_nextOf_tuple_end hh M.aa ⟨_, M.xx, rfl, 0, rfl⟩ (by simp) fun h' x he' hx' => ?_
  obtain ⟨o, ho, hc⟩ := hx'
  refine wpAny_bind (wpAny_isInstance (T := "StopIteration") (b := true) ⟨o, ho, hc⟩ isSubtype_stop ?_)
  exact wpAny_pure (hQ _ fun b o n e => he' b o n e)

theorem map_walks {c b a ax : Addr} {f : Value} {vs : List Value} {Inv : Heap → Prop} {P : Nat → Value → Prop} {fp : List Addr} (hh : A.handled = none)
    (C : CallsTo prog w A.in1 f vs P Inv) (hc : c ≠ a) (hb : b ≠ a) (hx : ax ≠ a) (hI : ∀ h h', Inv h → (∀ b o, b ≠ a → h.get? b = some o → h'.get? b = some o) → Inv h')
    (hF : ∀ h h', Inv h → (∀ b ∈ fp, ∀ o, h.get? b = some o → h'.get? b = some o) → Inv h') :
    Walks prog w A c (c :: b :: a :: ax :: fp) [a] vs.length P (fun i h => MapAt h c b a ax f vs Inv i) where
  sub := fun b hb => by rw [List.mem_singleton.mp hb]; exact .tail _ (.tail _ (.head _))
  frame := fun i h h' M hk => ⟨hk _ (.head _) _ M.cc, hk _ (.tail _ (.head _)) _ M.bb, let ⟨o, ho, r⟩ := M.aa; ⟨o, hk _ (.tail _ (.tail _ (.head _))) _ ho, r⟩, hk _ (.tail _ (.tail _ (.tail _ (.head _)))) _ M.xx, hF _ _ M.inv fun b hb => hk b (.tail _ (.tail _ (.tail _ (.tail _ hb))))⟩
  item := fun i s Q E hi M hQ => map_next_item C hc hb hx hI hi M fun v h' tk' hP M' hk => hQ v h' tk' hP M' fun b o n => hk b o fun e => n (e ▸ .head _)
  done := fun s Q E M hQ => map_next_end hh M fun h' hk => hQ h' s.toks fun b o n => hk b o fun e => n (e ▸ .head _)
  self := fun i s Q E M hQ => wpAny_pyIter_map M.cc hQ

theorem wpAny_collect_map {I : Addr} {fp wr : List Addr} {G : Array GenState → Array GenState → Prop} {n : Nat} {P : Nat → Value → Prop} {St : Nat → Shared → Prop} {Q : List Value → Shared → Prop} (W : WalksS prog w A.in1 I fp wr G n P St) (hT : ∀ i s, St i s → s.TypeIs (.ref I) "map") (hst : St 0 s) (hfp : ∀ b ∈ fp, b < s.heap.objs.size) (hI : I ∈ fp)
    (hQ : ∀ s' acc, Moved wr G s s' → ItemsOf P acc n → Q acc.toList s') (hn : n ≤ sizeLine := by size_fits) : wpAny (model prog w) A (collect (.ref I)) Q E s := by
  have hSf : s.heap.objs.size ∉ fp := fun hm => Nat.lt_irrefl _ (hfp _ hm)
  have hSI : s.heap.objs.size ≠ I := fun e => hSf (e ▸ hI)
  unfold collect
  refine wpAny_bind (wpAny_runValue (codeAny_builtin F.entry_proto_collect ?_))
  rw [Around.under_plainId F.plain_proto_collect _]
  show wpAny _ A.in1 (newList [] >>= fun l => again (.builtin "list.__iadd__" ⟨[l, .ref I], []⟩)) _ _ s
  refine wpAny_bind (wpAny_newObj_type ?_)
  refine wpAny_pure ⟨plainId_quiet F.plain_list_iadd _, codeAny_builtin F.entry_list_iadd ?_⟩
  rw [Around.under_plainId F.plain_list_iadd _]
  have hst₁ := W.frame 0 s (s.heap.push { cls := .type "list", data := .seq ([] : List Value).toArray }) s.toks hst (Nat.le_refl _) fun b _ o e => Heap.get?_push_of_some _ e
  show wpAny _ A.in1 (Builtin.List.listExtendWith (.ref s.heap.objs.size) (.ref I) (.ref s.heap.objs.size)) _ _ _
  unfold Builtin.List.listExtendWith
  refine wpAny_bind (wpAny_typeOf (hT 0 _ hst₁) ?_)
  have h1 : Builtin.List.listSameRef (.ref s.heap.objs.size) (.ref I) = false := by simp [Builtin.List.listSameRef, hSI]
  have h2 : (Value.type "map" == Value.type "list") = false := by decide
  have h3 : (Value.type "map" == Value.type "tuple") = false := by decide
  simp only [h1, h2, h3, Bool.or_false, Bool.false_eq_true, if_false]
  refine wpAny_bind (W.self 0 _ _ _ hst₁ ?_)
  refine wpAny_bind (wpAny_holding ?_)
  unfold Builtin.List.listLengthHint
  refine wpAny_bind (wpAny_specialOf (hT 0 _ hst₁) map_no_len ?_)
  show wpAny _ A.in1 (specialOf (Value.ref I) (Str.ofString "__length_hint__") >>= _) _ _ _
  refine wpAny_bind (wpAny_specialOf (hT 0 _ hst₁) map_no_hint ?_)
  refine wpAny_pure ?_
  show wpAny _ A.in1 (rule "list.extend.makes-room" >>= fun _ => Builtin.List.listTouch (.ref s.heap.objs.size) >>= fun _ =>
    again (.builtin "list.extend.loop" ⟨[.ref s.heap.objs.size, .ref I, .ref s.heap.objs.size], []⟩)) _ _ _
  refine wpAny_bind (wpAny_rule ?_)
  have hS₁ : (s.heap.push { cls := .type "list", data := .seq ([] : List Value).toArray }).get? s.heap.objs.size = some { cls := .type "list", data := .seq ([] : List Value).toArray } := Heap.get?_push_size _ rfl
  refine wpAny_bind ?_
  show wpAny _ A.in1 (updateSeq s.heap.objs.size (·.push .none) >>= fun _ => updateSeq s.heap.objs.size (·.pop)) _ _ _
  refine wpAny_bind (wpAny_updateSeq hS₁ rfl ?_)
  have hS₂ := Heap.get?_update_self (Obj.mapSeq (·.push Value.none)) hS₁ rfl
  refine wpAny_updateSeq hS₂ rfl ?_
  have hS₃ := Heap.get?_update_self (Obj.mapSeq (·.pop)) hS₂ rfl
  have oth : ∀ b o, b ≠ s.heap.objs.size → (s.heap.push { cls := .type "list", data := .seq ([] : List Value).toArray }).get? b = some o →
      (((s.heap.push { cls := .type "list", data := .seq ([] : List Value).toArray }).update s.heap.objs.size (Obj.mapSeq (·.push Value.none))).update s.heap.objs.size (Obj.mapSeq (·.pop))).get? b = some o :=
    fun b o hb e => (Heap.get?_update_other _ _ (Ne.symm hb)).trans ((Heap.get?_update_other _ _ (Ne.symm hb)).trans e)
  refine wpAny_pure ⟨plainId_quiet F.plain_extend_loop _, codeAny_extend_loopS W hn _ hSf _ n 0 _ _ _ rfl (Nat.zero_le _)
    (W.frame 0 ({ s with heap := s.heap.push { cls := .type "list", data := .seq ([] : List Value).toArray } } : Shared) _ s.toks hst₁ (Nat.le_refl _) fun b hb o e => oth b o (fun h => hSf (h ▸ hb)) e) hS₃ (ItemsOf.nil P) fun s' acc' c' hm hS' hacc => ?_⟩
  show wpAny _ A (load s.heap.objs.size >>= _) _ _ s'
  refine wpAny_bind (wpAny_load hS' ?_)
  refine wpAny_pure (hQ s' acc' (Moved.drop_new (o := { cls := .type "list", data := .seq ([] : List Value).toArray }) (tk := s.toks) (Moved.trans W.gtrans ((Moved.refl W.grefl).then_heap (by first | exact Nat.le_refl _ | exact Nat.le_succ _ | omega) fun b o hb e => ?_) hm) (Nat.le_refl _)) hacc)
  exact oth b o (fun h => hb (h ▸ List.mem_cons_self)) e

theorem code_tuple_new_map {I : Addr} {fp wr : List Addr} {G : Array GenState → Array GenState → Prop} {n : Nat} {P : Nat → Value → Prop} {St : Nat → Shared → Prop} {Q₁ : Value → Shared → Prop} (W : WalksS prog w A.in1.in1 I fp wr G n P St) (hT : ∀ i s, St i s → s.TypeIs (.ref I) "map") (hst : St 0 s) (hfp : ∀ b ∈ fp, b < s.heap.objs.size) (hI : I ∈ fp)
    (h : ∀ s' acc, Moved wr G s s' → ItemsOf P acc n → Q₁ (.ref s'.heap.objs.size) { s' with heap := s'.heap.push { cls := .type "tuple", data := .seq acc } }) (hsz : n ≤ sizeLine := by size_fits) :
    codeAny (model prog w) A (.call (.builtin "tuple.__new__") ⟨[.type "tuple", .ref I], []⟩) (wants Q₁ E) s := by
  refine codeAny_of_tree ?_
  show wpAny _ A.in1 (do checkBuiltinCall "tuple.__new__" ⟨[.type "tuple", .ref I], []⟩; again (.builtin "tuple.__new__" ⟨[.type "tuple", .ref I], []⟩)) _ _ s
  refine wpAny_bind (wpAny_of_eq (F.newCall_tuple_1 _) (wpAny_pure ⟨plainId_quiet F.plain_tuple_new _, codeAny_builtin F.entry_tuple_new ?_⟩))
  rw [Around.under_plainId F.plain_tuple_new _]
  have hsub := sub_tuple_self
  have hinit := init_tuple_lookup
  have hmh := madeHere_tuple
  have hTI := hT 0 s hst
  wp_walk using wpAny_typeOf hTI, wpAny_collect_map (hn := hsz) W hT hst hfp hI
  intro s' acc hm hacc
  show wpAny _ _ (Builtin.Tuple.tupleExact acc.toList.toArray >>= fun v => ret v) _ _ _
  unfold Builtin.Tuple.tupleExact
  refine wpAny_bind (wpAny_newObj_type ?_ (by show acc.toList.toArray.size ≤ sizeLine; simp only [Array.toArray_toList]; rw [hacc.1]; exact hsz))
  refine wpAny_pure ?_
  have e : acc.toList.toArray = acc := by simp
  rw [e]
  exact h s' acc hm hacc

theorem call_tuple_map {I : Addr} {fp wr : List Addr} {G : Array GenState → Array GenState → Prop} {n : Nat} {P : Nat → Value → Prop} {St : Nat → Shared → Prop} {Q : Value → Shared → Prop} (W : WalksS prog w A.in1.in1.in1 I fp wr G n P St) (hT : ∀ i s, St i s → s.TypeIs (.ref I) "map") (hst : St 0 s) (hfp : ∀ b ∈ fp, b < s.heap.objs.size) (hI : I ∈ fp)
    (hQ : ∀ s' acc, Moved wr G s s' → ItemsOf P acc n → Q (.ref s'.heap.objs.size) { s' with heap := s'.heap.push { cls := .type "tuple", data := .seq acc } }) (hsz : n ≤ sizeLine := by size_fits) :
    wpAny (model prog w) A (call (.type "tuple") [.ref I]) Q E s := by
  refine callType_codes (Q₁ := fun obj s₁ => s₁.TypeIs obj "tuple" ∧ Q obj s₁) F.called_tuple (F.typeCall_tuple_1 _) F.entry_object_init
    (code_tuple_new_map (hsz := hsz) W hT hst hfp hI fun s' acc hm hacc => ⟨⟨_, Heap.get?_push_size _ rfl, rfl⟩, hQ s' acc hm hacc⟩) fun obj s₁ h₁ => ?_
  exact ⟨h₁.1, F.args_object_init_2 obj _, object_init_meets F.called_tuple.init.lookup F.called_tuple.made (by decide) prog w A.in1 _ s₁ ⟨h₁.1, rfl, h₁.2⟩⟩
end
end
section
set_option maxHeartbeats 800000
section
variable {prog : Program} {w : World} {A : Around} {E : Value → Shared → Prop} {s : Shared} {h₀ : Heap} {L : Addr} {m : PySem.Str → Option Value} {news : List (Addr × Obj)}
def MapNew (h₀ : Heap) (L : Addr) (news : List (Addr × Obj)) (h : Heap) (c : Addr) (f : Value) (ax : Addr) : Prop :=
  ∃ b a, h.get? c = some (mapObj b f) ∧ h.get? b = some (tup [.ref a]) ∧ h.IsTupleIter a ax 0 ∧ c ≠ a ∧ b ≠ a ∧ a ≠ L ∧ h₀.get? a = none ∧ ∀ p ∈ news, p.1 ≠ a
theorem call_map_K {f : Value} {ax : Addr} {vs : List Value} {Q : Value → Shared → Prop} (F : Fr h₀ L s.heap m) (N : News h₀ L s.heap news) (hm : (ax, tup vs) ∈ news)
    (h : ∀ c h', Fr h₀ L h' m → News h₀ L h' news → MapNew h₀ L news h' c f ax → Q (.ref c) { s with heap := h' }) :
    wpAny (model prog w) A (call (.type "map") [f, .ref ax]) Q E s := by
  refine call_map_2 (N _ hm).1 (h _ _ (((F.push _).push _).push _) (((N.pushKeep _).pushKeep _).pushKeep _) ?_)
  have hz1 : (s.heap.push (itObj ax)).objs.size = s.heap.objs.size + 1 := Heap.size_push ..
  have hz2 : ((s.heap.push (itObj ax)).push (tup [.ref s.heap.objs.size])).objs.size = s.heap.objs.size + 2 := by rw [Heap.size_push, hz1]
  refine ⟨s.heap.objs.size + 1, s.heap.objs.size, by rw [← hz2]; exact Heap.get?_push_size _ rfl, Heap.get?_push_of_some _ (by rw [← hz1]; exact Heap.get?_push_size _ rfl), ⟨_, Heap.get?_push_of_some _ (Heap.get?_push_of_some _ (Heap.get?_push_size _ rfl)), rfl, rfl⟩, Nat.ne_of_gt (Nat.lt_add_of_pos_right (Nat.succ_pos 1)), Nat.ne_of_gt (Nat.lt_succ_self _), Nat.ne_of_gt F.ns.lt, ?_, fun p hp => Nat.ne_of_lt (Heap.lt_size (N p hp).1)⟩
  cases q : h₀.get? s.heap.objs.size with
  | none => rfl
  | some o => exact absurd (Heap.lt_size (F.keep _ _ q)) (Nat.lt_irrefl _)
theorem mapNew_walks {f : Value} {ax c : Addr} {vs : List Value} {P : Nat → Value → Prop} (hh : A.handled = none) (F : Fr h₀ L s.heap m) (N : News h₀ L s.heap news) (M : MapNew h₀ L news s.heap c f ax) (hm : (ax, tup vs) ∈ news)
    (C : CallsTo prog w A.in1 f vs P (fun h => Fr h₀ L h m)) :
    ∃ fp a St, Walks prog w A c fp [a] vs.length P St ∧ St 0 s.heap ∧ (∀ b ∈ fp, b < s.heap.objs.size) ∧ c ∈ fp ∧ (∀ i h, St i h → ∃ b, h.get? c = some (mapObj b f)) ∧ a ≠ L ∧ h₀.get? a = none ∧ ∀ p ∈ news, p.1 ≠ a := by
  obtain ⟨b, a, hc, hb, ha, nc, nb, nL, n0, nn⟩ := M
  refine ⟨c :: b :: a :: ax :: L :: List.range h₀.objs.size, a, _, map_walks (Inv := fun h => Fr h₀ L h m) hh C nc nb (nn _ hm) (fun h h' I k => ⟨I.ns.at' fun o e => k _ o (Ne.symm nL) e, fun b o e => k b o (fun q => ?_) (I.keep b o e), I.above⟩)
    (fun h h' I k => ⟨I.ns.at' fun o e => k _ (.head _) o e, fun b o e => k b (.tail _ (List.mem_range.mpr (Heap.lt_size e))) o (I.keep b o e), I.above⟩), ⟨hc, hb, ha, (N _ hm).1, F⟩, fun x hx => ?_, .head _, fun i h M => ⟨_, M.cc⟩, nL, n0, nn⟩
  · rw [q, n0] at e; cases e
  · rcases List.mem_cons.mp hx with rfl | hx
    · exact Heap.lt_size hc
    rcases List.mem_cons.mp hx with rfl | hx
    · exact Heap.lt_size hb
    rcases List.mem_cons.mp hx with rfl | hx
    · obtain ⟨o, ho, _⟩ := ha; exact Heap.lt_size ho
    rcases List.mem_cons.mp hx with rfl | hx
    · exact Heap.lt_size (N _ hm).1
    rcases List.mem_cons.mp hx with rfl | hx
    · exact F.ns.lt
    · exact Nat.lt_trans (Nat.lt_of_lt_of_le (List.mem_range.mp hx) F.above) F.ns.lt
theorem call_tuple_map_K {f : Value} {ax c : Addr} {vs : List Value} {P : Nat → Value → Prop} {Q : Value → Shared → Prop} (hh : A.handled = none) (F : Fr h₀ L s.heap m) (N : News h₀ L s.heap news) (M : MapNew h₀ L news s.heap c f ax) (hm : (ax, tup vs) ∈ news)
    (C : CallsTo prog w A.in1.in1.in1.in1 f vs P (fun h => Fr h₀ L h m)) (hsz : vs.length ≤ sizeLine)
    (h : ∀ D ys h' tk', ys.length = vs.length → (∀ j v, ys[j]? = some v → P j v) → Fr h₀ L h' m → News h₀ L h' ((D, tup ys) :: news) → (∀ p ∈ news, p.1 < D) → Q (.ref D) { s with heap := h', toks := tk' }) :
    wpAny (model prog w) A (call (.type "tuple") [.ref c]) Q E s := by
  obtain ⟨fp, a, St, W, st, hfp, hI, hT, nL, n0, nn⟩ := mapNew_walks (A := A.in1.in1.in1) (s := s) hh F N M hm C
  refine call_tuple_map (hsz := hsz) W.toS (fun i s st => let ⟨b, e⟩ := hT i _ st; ⟨_, e, rfl⟩) st hfp hI fun s' acc hm' hacc => ?_
  obtain ⟨h', g', d', tk', os'⟩ := s'
  obtain ⟨k, rfl, rfl, rfl, _⟩ := hm'
  have F' : Fr h₀ L h' m := ⟨F.ns.at' fun o e => k _ o (fun q => nL (List.mem_singleton.mp q).symm) e, fun b o e => k b o (fun q => by rw [List.mem_singleton.mp q, n0] at e; cases e) (F.keep b o e), F.above⟩
  have N' : News h₀ L h' news := fun p hp => ⟨k _ _ (fun q => nn p hp (List.mem_singleton.mp q)) (N p hp).1, (N p hp).2⟩
  refine h h'.objs.size acc.toList _ tk' (by simpa using hacc.1) (fun j v e => hacc.2 j v (by simpa using e)) (F'.push _) ?_ fun p hp => Heap.lt_size (N' p hp).1
  have e : acc.toList.toArray = acc := by simp
  have := News.push F' N' { cls := .type "tuple", data := .seq acc } rfl
  unfold tup
  rw [e]
  exact this
theorem call_max_map_K {f : Value} {ax c : Addr} {vs : List Value} {val : Nat → Int} {Q : Value → Shared → Prop} (hh : A.handled = none) (F : Fr h₀ L s.heap m) (N : News h₀ L s.heap news) (M : MapNew h₀ L news s.heap c f ax) (hm : (ax, tup vs) ∈ news)
    (C : CallsTo prog w A.in1.in1 f vs (fun i v => ∃ t, v = .int (val i) t) (fun h => Fr h₀ L h m)) (hn : 0 < vs.length)
    (h : ∀ t h' tk', Fr h₀ L h' m → News h₀ L h' news → Q (.int (val (argBest (fun i j => decide (val i > val j)) (vs.length - 1))) t) { s with heap := h', toks := tk' }) :
    wpAny (model prog w) A (call (.builtin "max") [.ref c]) Q E s := by
  obtain ⟨fp, a, St, W, st, hfp, hI, hT, nL, n0, nn⟩ := mapNew_walks (A := A.in1) (s := s) hh F N M hm C
  have M' := M
  obtain ⟨b', a', hc', _⟩ := M'
  refine call_max_walk (wpAny_pyIter_map hc' ⟨c, fp, [a], vs.length, _, St, _, rfl, W, st, hfp, hn, CmpOf.ints_gt val (fun i v e => e), fun v h' tk' hP k => ?_⟩)
  obtain ⟨t, rfl⟩ := hP
  refine h t h' tk' ⟨F.ns.at' fun o e => k _ o (fun q => nL (List.mem_singleton.mp q).symm) e, fun b o e => k b o (fun q => by rw [List.mem_singleton.mp q, n0] at e; cases e) (F.keep b o e), F.above⟩ fun p hp => ⟨k _ _ (fun q => nn p hp (List.mem_singleton.mp q)) (N p hp).1, (N p hp).2⟩
theorem callsTo_len {vs : List Value} {Inv : Heap → Prop} {val : Nat → Int} (h : ∀ i x, vs[i]? = some x → ∃ y t, x = .str y t ∧ (y.length : Int) = val i ∧ y.length ≤ 100000) : CallsTo prog w A (.builtin "len") vs (fun i v => ∃ t, v = .int (val i) t) Inv := by
  intro i x s Q E hx _ hQ
  obtain ⟨y, t, rfl, e, l⟩ := h i x hx
  exact P.len_str (by omega) (by rw [e]; exact hQ _ _ _ ⟨_, rfl⟩ fun _ _ e => e)
end
end
section
set_option maxHeartbeats 800000
def parseGo : List Nat → List Nat
  | [] => []
  | [c] => if c = 34 then [] else [c]
  | c :: c' :: r => if c = 34 then (if c' = 34 then 34 :: parseGo r else []) else c :: parseGo (c' :: r)
theorem parseGo_other {c : Nat} {r : List Nat} (h : ¬ c = 34) : parseGo (c :: r) = c :: parseGo r := by
  cases r with
  | nil => simp [parseGo, h]
  | cons d r => rw [parseGo, if_neg h]
theorem parseGo_qq {r : List Nat} : parseGo (34 :: 34 :: r) = 34 :: parseGo r := by simp [parseGo]
theorem parseGo_qx {c : Nat} {r : List Nat} (h : ¬ c = 34) : parseGo (34 :: c :: r) = [] := by simp [parseGo, h]
theorem parseGo_q : parseGo [34] = [] := by simp [parseGo]
def parseL (l : List Nat) : List Nat := if (l.drop 3).take 2 = [32, 34] then parseGo (l.drop 5) else []
theorem quote_tl : tl (PySem.Str.ofString "\"") = [34] := by decide +kernel
theorem item_len {x : PySem.Str} {i : Int} : (Txt.item x i).length = 1 := rfl
section
variable {x d : PySem.Str} {i : Int} {R : List Nat}
theorem parse_start : 5 ≤ (5 : Int) ∧ ((PySem.Str.ofString "").length : Int) ≤ 5 ∧ (5 : Int) ≤ 3000 ∧ (PySem.Str.ofString "").cps.toList ++ parseGo (x.cps.toList.drop (5 : Int).toNat) = parseGo (x.cps.toList.drop 5) := by
  refine ⟨by decide, by decide +kernel, by decide, ?_⟩
  have : tl (PySem.Str.ofString "") = [] := by decide +kernel
  show tl (PySem.Str.ofString "") ++ _ = _
  rw [this]; rfl
theorem parse_one (h5 : 5 ≤ i) (hd : (d.length : Int) ≤ i) (hi : i < x.length) (hx : x.length ≤ 1000) (he : d.cps.toList ++ parseGo (x.cps.toList.drop i.toNat) = R) (hq : (Txt.item x i == PySem.Str.ofString "\"") = false) :
    5 ≤ i + 1 ∧ ((d ++ Txt.item x i).length : Int) ≤ i + 1 ∧ i + 1 ≤ 3000 ∧ (d ++ Txt.item x i).cps.toList ++ parseGo (x.cps.toList.drop (i + 1).toNat) = R := by
  rw [beq_tl_f, quote_tl, item_at (by omega) hi] at hq
  have hn : i.toNat < (tl x).length := by rw [len_tl]; omega
  have hq' : ¬ (tl x).getD i.toNat 0 = 34 := by intro e; rw [e] at hq; exact hq rfl
  refine ⟨by omega, ?_, by omega, ?_⟩
  · rw [PySem.Str.length_append, item_len]; omega
  · rw [← he]
    show tl (d ++ Txt.item x i) ++ parseGo ((tl x).drop (i + 1).toNat) = tl d ++ parseGo ((tl x).drop i.toNat)
    rw [tl_append, item_at (by omega) hi, drop_at hn, parseGo_other hq', show (i + 1).toNat = i.toNat + 1 by omega, List.append_assoc]
    rfl
theorem parse_two (h5 : 5 ≤ i) (hd : (d.length : Int) ≤ i) (hi : i < x.length) (hx : x.length ≤ 1000) (he : d.cps.toList ++ parseGo (x.cps.toList.drop i.toNat) = R) (hq : (Txt.item x i == PySem.Str.ofString "\"") = true)
    (h2 : ¬ (x.length : Int) ≤ i + 1) (hq2 : (Txt.item x (i + 1) != PySem.Str.ofString "\"") = false) :
    5 ≤ i + 1 + 1 ∧ ((d ++ Txt.item x i).length : Int) ≤ i + 1 + 1 ∧ i + 1 + 1 ≤ 3000 ∧ (d ++ Txt.item x i).cps.toList ++ parseGo (x.cps.toList.drop (i + 1 + 1).toNat) = R := by
  rw [beq_tl, quote_tl, item_at (by omega) hi] at hq
  rw [bne_tl_f, quote_tl, item_at (by omega) (by omega)] at hq2
  have hn : i.toNat < (tl x).length := by rw [len_tl]; omega
  have hn2 : i.toNat + 1 < (tl x).length := by rw [len_tl]; omega
  have e1 : (tl x).getD i.toNat 0 = 34 := List.head_eq_of_cons_eq hq
  have e2 : (tl x).getD (i + 1).toNat 0 = 34 := List.head_eq_of_cons_eq hq2
  rw [show (i + 1).toNat = i.toNat + 1 by omega] at e2
  refine ⟨by omega, ?_, by omega, ?_⟩
  · rw [PySem.Str.length_append, item_len]; omega
  · rw [← he]
    show tl (d ++ Txt.item x i) ++ parseGo ((tl x).drop (i + 1 + 1).toNat) = tl d ++ parseGo ((tl x).drop i.toNat)
    rw [tl_append, item_at (by omega) hi, drop_at hn, drop_at hn2, e1, e2, show (i + 1 + 1).toNat = i.toNat + 1 + 1 by omega, List.append_assoc, parseGo_qq]
    rfl
theorem parse_brk0 (h5 : 5 ≤ i) (hi : i < x.length) (he : d.cps.toList ++ parseGo (x.cps.toList.drop i.toNat) = R) (hq : (Txt.item x i == PySem.Str.ofString "\"") = true) (h2 : (x.length : Int) ≤ i + 1) : tl d = R := by
  rw [beq_tl, quote_tl, item_at (by omega) hi] at hq
  have hn : i.toNat < (tl x).length := by rw [len_tl]; omega
  have e1 : (tl x).getD i.toNat 0 = 34 := List.head_eq_of_cons_eq hq
  rw [← he]
  show tl d = tl d ++ parseGo ((tl x).drop i.toNat)
  rw [drop_at hn, e1, List.drop_eq_nil_of_le (by rw [len_tl]; omega)]
  simp [parseGo]
theorem parse_brk1 (h5 : 5 ≤ i) (hi : i < x.length) (he : d.cps.toList ++ parseGo (x.cps.toList.drop i.toNat) = R) (hq : (Txt.item x i == PySem.Str.ofString "\"") = true) (h2 : ¬ (x.length : Int) ≤ i + 1)
    (hq2 : (Txt.item x (i + 1) != PySem.Str.ofString "\"") = true) : tl d = R := by
  rw [beq_tl, quote_tl, item_at (by omega) hi] at hq
  rw [bne_tl, quote_tl, item_at (by omega) (by omega)] at hq2
  have hn : i.toNat < (tl x).length := by rw [len_tl]; omega
  have hn2 : i.toNat + 1 < (tl x).length := by rw [len_tl]; omega
  have e1 : (tl x).getD i.toNat 0 = 34 := List.head_eq_of_cons_eq hq
  rw [show (i + 1).toNat = i.toNat + 1 by omega] at hq2
  have e2 : ¬ (tl x).getD (i.toNat + 1) 0 = 34 := by intro e; rw [e] at hq2; exact hq2 rfl
  rw [← he]
  show tl d = tl d ++ parseGo ((tl x).drop i.toNat)
  rw [drop_at hn, drop_at hn2, e1]
  generalize (tl x).getD (i.toNat + 1) 0 = c at e2
  rw [parseGo_qx e2, List.append_nil]
theorem parse_out (h5 : 5 ≤ i) (he : d.cps.toList ++ parseGo (x.cps.toList.drop i.toNat) = R) (h2 : ¬ i < (x.length : Int)) : tl d = R := by
  rw [← he]
  show tl d = tl d ++ parseGo ((tl x).drop i.toNat)
  rw [List.drop_eq_nil_of_le (by rw [len_tl]; omega)]
  simp [parseGo]
theorem s257_tl : tl (PySem.Str.ofString "257") = [50, 53, 55] := by decide +kernel
theorem sq_tl : tl (PySem.Str.ofString " \"") = [32, 34] := by decide +kernel
theorem parse_257 (h : (tl x).take 3 = [50, 53, 55]) : ¬ (Txt.slice x none (some 3) != PySem.Str.ofString "257") = true := by
  rw [bne_tl, s257_tl, tl_slice_to (by decide)]
  exact fun e => e h
theorem parse_no (h5 : 5 ≤ x.length) (h : (Txt.slice x (some 3) (some 5) != PySem.Str.ofString " \"") = true) : [] = parseL (tl x) := by
  rw [bne_tl, sq_tl, tl_slice (by decide) (by decide) (by omega)] at h
  exact (if_neg h).symm
theorem parse_yes (h5 : 5 ≤ x.length) (h : (Txt.slice x (some 3) (some 5) != PySem.Str.ofString " \"") = false) : parseGo ((tl x).drop 5) = parseL (tl x) := by
  rw [bne_tl_f, sq_tl, tl_slice (by decide) (by decide) (by omega)] at h
  exact (if_pos h).symm
end

theorem parse_spec {w : World} {x : PySem.Str} {t : Tok} (hx : x.length ≤ 1000) (h5 : 5 ≤ x.length) (h257 : (tl x).take 3 = [50, 53, 55]) : Con 2 w 101 [.str x t] [] (IsS (parseL (tl x))) := by
  k_with_none
  k_with "execs cons" => (k_fold; walk_at "execs cons")
  k_with "exec If" => (k_fold; walk_at "exec If")
  k_with "isTrue Compare" => (k_fold; walk_at "isTrue Compare")
  k_with "isTrue BoolOp" => (k_fold; walk_at "isTrue BoolOp")
  k_with "eval Compare" => (k_fold; walk_at "eval Compare")
  k_with "eval BinOp" => (k_fold; walk_at "eval BinOp")
  k_with "eval Call" => (k_fold; walk_at "eval Call")
  k_with "callWith" => (k_fold; walk_at "callWith")
  k_with "eval IfExp" => (k_fold; walk_at "eval IfExp")
  k_with "CompRestT" => (k_fold; walk_at "CompRestT")
  k_with "CompRest" => (k_fold; walk_at "CompRest")
  k_with "CompEnd" => (k_fold; walk_at "CompEnd")
  k_with "eval ListComp" => (k_fold; walk_at "eval ListComp")
  k_with "eval List" => (k_fold; walk_at "eval List")
  refine con_of ?_
  intro mg mb dp un gd env outer A₀ base h₀ L m s Q E B F
  k_fill
  intro X N T hf hk hd hu ret
  refine wpAny_call ?_
  k_dflt (refine' enter_plain ?k1 ?k2 ?k3 ?k4 ?k5 ?kA ?kF ?kK ?k6 ?k7 ?k8 ?k9 ?kB ?_ ?c2 ?c3 ?c4 ?c5; (case kA => exact rfl); (case kF => assumption); (case kK => assumption); (case k1 => k_asm); (case k2 => k_asm); (case k3 => k_asm); (case k4 => k_asm); (case k5 => k_asm); (case k6 => k_is); (case k7 => k_is); (case k8 => ktr_room); (case k9 => exact BindsTo.of_eq rfl); (case c5 => decide); (case kB => exact locs rfl); (case c2 => exact rfl); (case c3 => exact rfl); (case c4 => exact rfl); k_whole; intro g' L' h' FG' F' N' B' X' T' st l1 z1; (try k_lt l1); (try dsimp only); (try k_fold))
  k_with "exec While Compare cons nil" => k_while_given ["resp"] (fun resp _ i dirname => 5 ≤ i ∧ (dirname.length : Int) ≤ i ∧ i ≤ 3000 ∧ dirname.cps.toList ++ parseGo (resp.cps.toList.drop i.toNat) = parseGo (resp.cps.toList.drop 5)) (fun resp _ i dirname => resp.length + 1 - i.toNat) "i" "dirname"
  k_with "state" => (first | exact parse_start | exact parse_one (by assumption) (by assumption) (by assumption) hx (by assumption) (by assumption) | exact parse_two (by assumption) (by assumption) (by assumption) hx (by assumption) (by assumption) (by assumption) (by assumption))
  k_steps
  · exact absurd (by assumption) (parse_257 h257)
  · exact ret _ _ _ _ _ _ (isS_of (parse_no h5 (by assumption))) (by assumption) (by assumption) st (by assumption)
  · exact ret _ _ _ _ _ _ (isS_of ((parse_brk0 (by assumption) (by assumption) (by assumption) (by assumption) (by assumption)).trans (parse_yes h5 (by assumption)))) (by assumption) (by assumption) st (by assumption)
  · exact ret _ _ _ _ _ _ (isS_of ((parse_brk1 (by assumption) (by assumption) (by assumption) (by assumption) (by assumption) (by assumption)).trans (parse_yes h5 (by assumption)))) (by assumption) (by assumption) st (by assumption)
  · exact ret _ _ _ _ _ _ (isS_of ((parse_out (by assumption) (by assumption) (by assumption)).trans (parse_yes h5 (by assumption)))) (by assumption) (by assumption) st (by assumption)
end
section
set_option maxHeartbeats 800000
def wordG (c : Int) (x : PySem.Str) (k : Int) : PySem.Str := if Int.fmod (Int.fdiv (Int.fdiv c 4) (2 ^ k.toNat)) 2 = 0 then PySem.Str.ofString "\"" else x
def wordL (c : Int) (l : List Nat) : List Nat := ((List.range (Int.fmod c 4 + 1).toNat).map fun k => if Int.fmod (Int.fdiv (Int.fdiv c 4) (2 ^ k)) 2 = 0 then [34] else l).flatten
theorem wordG_len {c : Int} {x : PySem.Str} {k : Int} (h : x.length = 1) : (wordG c x k).length = 1 := by
  unfold wordG
  split
  · decide +kernel
  · exact h
theorem wordG_0 {c : Int} {x : PySem.Str} {k : Int} (h : Int.fmod (Int.fdiv (Int.fdiv c 4) (2 ^ k.toNat)) 2 = 0) : wordG c x k = PySem.Str.ofString "\"" := if_pos h
theorem wordG_1 {c : Int} {x : PySem.Str} {k : Int} (h : Int.fmod (Int.fdiv (Int.fdiv c 4) (2 ^ k.toNat)) 2 ≠ 0) : wordG c x k = x := if_neg h
theorem tl_join0 : ∀ l : List PySem.Str, tl (PySem.Str.join (PySem.Str.ofString "") l) = (l.map tl).flatten
  | [] => rfl
  | [x] => by simp [PySem.Str.join]
  | x :: y :: r => by
    have e : tl (PySem.Str.ofString "") = [] := by decide +kernel
    show tl (x ++ PySem.Str.ofString "" ++ PySem.Str.join (PySem.Str.ofString "") (y :: r)) = _
    rw [tl_append, tl_append, e, tl_join0 (y :: r)]
    simp
theorem tl_join (l : List PySem.Str) : tl (Txt.join (PySem.Str.ofString "") l) = (l.map tl).flatten := by
  rw [show Txt.join (PySem.Str.ofString "") l = PySem.Str.join (PySem.Str.ofString "") l from beq_iff_eq.mp (join_closes rfl), tl_join0]
theorem quote_tl2 : tl (PySem.Str.ofString "\"") = [34] := by decide +kernel
theorem word_end {c : Int} {x : PySem.Str} : tl (Txt.join (PySem.Str.ofString "") ((rangeKs 0 (Int.fmod c 4 + 1 - 0).toNat).map (wordG c x))) = wordL c (tl x) := by
  rw [tl_join, List.map_map]
  unfold wordL rangeKs
  rw [List.map_map, show Int.fmod c 4 + 1 - 0 = Int.fmod c 4 + 1 by omega]
  congr 1
  apply List.map_congr_left
  intro k _
  simp only [Function.comp, wordG]
  rw [show (0 + (k : Int)).toNat = k by omega]
  split
  · exact quote_tl2
  · rfl
theorem word_spec {w : World} {x : PySem.Str} {t t1 : Tok} {c : Int} (hx : x.length = 1) : Con 2 w 106 [.int c t1, .str x t] [] (IsS (wordL c (tl x))) := by
  k_with_none
  k_with "execs cons" => (k_fold; walk_at "execs cons")
  k_with "exec If" => (k_fold; walk_at "exec If")
  k_with "isTrue Compare" => (k_fold; walk_at "isTrue Compare")
  k_with "isTrue BoolOp" => (k_fold; walk_at "isTrue BoolOp")
  k_with "eval Compare" => (k_fold; walk_at "eval Compare")
  k_with "eval BinOp" => (k_fold; walk_at "eval BinOp")
  k_with "eval Call" => (k_fold; walk_at "eval Call")
  k_with "callWith" => (k_fold; walk_at "callWith")
  k_with "eval IfExp" => (k_fold; walk_at "eval IfExp")
  k_with "CompRestT" => (k_fold; walk_at "CompRestT")
  k_with "CompRest" => (k_fold; walk_at "CompRest")
  k_with "CompEnd" => (k_fold; walk_at "CompEnd")
  k_with "eval ListComp" => (k_fold; walk_at "eval ListComp")
  k_with "eval List" => (k_fold; walk_at "eval List")
  refine con_of ?_
  intro mg mb dp un gd env outer A₀ base h₀ L m s Q E B F
  k_fill
  intro X N T hf hk hd hu ret
  refine wpAny_call ?_
  k_dflt (refine' enter_cells ?k1 ?k2 ?k3 ?k4 ?k5 ?kA ?kF ?kK ?k6 ?k7 ?k8 ?k9 ?kB ?kD ?_ ?c2 ?c3 ?c4; (case kA => exact rfl); (case kF => assumption); (case kK => assumption); (case k1 => k_asm); (case k2 => k_asm); (case k3 => k_asm); (case k4 => k_asm); (case k5 => k_asm); (case k6 => k_is); (case k7 => k_is); (case k8 => ktr_room); (case k9 => exact BindsTo.of_eq rfl); (case kB => exact rfl); (case kD => decide +kernel); (case c2 => exact rfl); (case c3 => exact rfl); (case c4 => exact rfl); k_whole; intro g' L' h' tk' cells' FG' F' N' Y' B' X' T' st l1 z1; (try k_lt l1); k_cells Y'; (try simp only [List.cons_append, List.nil_append] at N'); (try dsimp only); (try k_fold))
  k_with "CompSrc" => (k_here; (try k_fmods); k_dflt (refine LCg.CompSrc.range (by rfl) (by k_asm) (by k_asm) (by assumption) (by first | exact small_one (by kcf_bnd) (by kcf_bnd) (by kcf_bnd) (by kcf_bnd) | decide) (by first | exact rangeSize_nat _ _ | rfl) (by (rw [PySem.sizeLine_eq]; omega)) ?_; intro g'; (refine' kct_range (wordG c x) (fun k' t' I' oI' C' oC' D' m' ys' h' tk' E' hlo' hhi' hC' hx' F' N' off' ne' => ?_) ?_); (all_goals (try (simp only [LCg.Off3, and_true] at off'))); (all_goals (try ((show KPfMark → _); intro hMark')))))
  k_with "call builtin:str.join" => (refine KT.join_1 (by first | assumption | is_list | exact News.isList (by k_asm) (by k_mem)) (by assumption) (fun a ha => wordG_len hx) (by rw [rangeKs_length]; omega) ?_; intro t8 k8 hl8)
  k_steps
  exact ret _ _ _ _ _ _ (isS_of word_end) (by assumption) (fun _ h => nomatch h) st (by assumption)
end
section
set_option maxHeartbeats 800000
def growF (x y : List Nat) : Nat → List Nat → Int → List Nat
  | 0, row, _ => row
  | n + 1, row, c => if row.length < x.length + y.length then growF x y n (row ++ (if Int.fmod c 2 = 0 then x else y)) (Int.fdiv c 2) else row
def GrowP (x y : PySem.Str) (c₀ : Int) (row : PySem.Str) (c : Int) : Prop := row.length ≤ 12 ∧ ∃ n : Nat, x.length + y.length ≤ row.length + n ∧ growF (tl x) (tl y) n (tl row) c = growF (tl x) (tl y) 8 (tl x) c₀
section
variable {x y row : PySem.Str} {c c₀ : Int}
theorem grow_start (hx : x.length ≤ 4) (hy : y.length ≤ 4) : GrowP x y c x c := ⟨by omega, 8, by omega, rfl⟩
theorem grow_step {z : PySem.Str} (hx : x.length ≤ 4) (hy : y.length ≤ 4) (hz : z.length ≤ 4) (hz1 : 1 ≤ z.length) (h : GrowP x y c₀ row c) (hc : (row.length : Int) < (x.length : Int) + (y.length : Int)) (hp : tl z = if Int.fmod c 2 = 0 then tl x else tl y) : GrowP x y c₀ (row ++ z) (Int.fdiv c 2) := by
  obtain ⟨h1, n, hn, he⟩ := h
  cases n with
  | zero => omega
  | succ n =>
    refine ⟨by rw [PySem.Str.length_append]; omega, n, by rw [PySem.Str.length_append]; omega, ?_⟩
    rw [← he, tl_append, growF, if_pos (by simp only [len_tl]; omega), hp]
theorem grow_0 (hx : x.length ≤ 4) (hy : y.length ≤ 4) (hx1 : 1 ≤ x.length) (h : GrowP x y c₀ row c) (hc : (row.length : Int) < (x.length : Int) + (y.length : Int)) (hp : Int.fmod c 2 = 0) : GrowP x y c₀ (row ++ x) (Int.fdiv c 2) :=
  grow_step hx hy hx hx1 h hc (by rw [if_pos hp])
theorem grow_1 (hx : x.length ≤ 4) (hy : y.length ≤ 4) (hy1 : 1 ≤ y.length) (h : GrowP x y c₀ row c) (hc : (row.length : Int) < (x.length : Int) + (y.length : Int)) (hp : Int.fmod c 2 = 1) : GrowP x y c₀ (row ++ y) (Int.fdiv c 2) :=
  grow_step hx hy hy hy1 h hc (by rw [if_neg (by omega)])
theorem grow_end (h : GrowP x y c₀ row c) (hc : ¬ (row.length : Int) < (x.length : Int) + (y.length : Int)) : tl row = growF (tl x) (tl y) 8 (tl x) c₀ := by
  obtain ⟨h1, n, hn, he⟩ := h
  rw [← he]
  cases n with
  | zero => rfl
  | succ n => rw [growF, if_neg (by simp only [len_tl]; omega)]
theorem grow_meas {z : PySem.Str} (hz1 : 1 ≤ z.length) (hc : (row.length : Int) < (x.length : Int) + (y.length : Int)) : x.length + y.length - (row ++ z).length < x.length + y.length - row.length := by
  rw [PySem.Str.length_append]; omega
theorem grow_both (h : GrowP x y c₀ row c) : row.length ≤ 12 ∧ GrowP x y c₀ row c := ⟨h.1, h⟩
end

theorem grown_spec {w : World} {x y : PySem.Str} {t t1 t2 : Tok} {c : Int} (hx : x.length ≤ 4) (hy : y.length ≤ 4) (hx1 : 1 ≤ x.length) (hy1 : 1 ≤ y.length) : Con 2 w 113 [.str x t, .str y t1, .int c t2] [] (IsS (growF (tl x) (tl y) 8 (tl x) c)) := by
  k_with_none
  k_with "execs cons" => (k_fold; walk_at "execs cons")
  k_with "exec If" => (k_fold; walk_at "exec If")
  k_with "isTrue Compare" => (k_fold; walk_at "isTrue Compare")
  k_with "isTrue BoolOp" => (k_fold; walk_at "isTrue BoolOp")
  k_with "eval Compare" => (k_fold; walk_at "eval Compare")
  k_with "eval BinOp" => (k_fold; walk_at "eval BinOp")
  k_with "eval Call" => (k_fold; walk_at "eval Call")
  k_with "callWith" => (k_fold; walk_at "callWith")
  k_with "eval IfExp" => (k_fold; walk_at "eval IfExp")
  k_with "CompRestT" => (k_fold; walk_at "CompRestT")
  k_with "CompRest" => (k_fold; walk_at "CompRest")
  k_with "CompEnd" => (k_fold; walk_at "CompEnd")
  k_with "eval ListComp" => (k_fold; walk_at "eval ListComp")
  k_with "eval List" => (k_fold; walk_at "eval List")
  refine con_of ?_
  intro mg mb dp un gd env outer A₀ base h₀ L m s Q E B F
  k_fill
  intro X N T hf hk hd hu ret
  refine wpAny_call ?_
  k_dflt (refine' enter_plain ?k1 ?k2 ?k3 ?k4 ?k5 ?kA ?kF ?kK ?k6 ?k7 ?k8 ?k9 ?kB ?_ ?c2 ?c3 ?c4 ?c5; (case kA => exact rfl); (case kF => assumption); (case kK => assumption); (case k1 => k_asm); (case k2 => k_asm); (case k3 => k_asm); (case k4 => k_asm); (case k5 => k_asm); (case k6 => k_is); (case k7 => k_is); (case k8 => ktr_room); (case k9 => exact BindsTo.of_eq rfl); (case c5 => decide); (case kB => exact locs rfl); (case c2 => exact rfl); (case c3 => exact rfl); (case c4 => exact rfl); k_whole; intro g' L' h' FG' F' N' B' X' T' st l1 z1; (try k_lt l1); (try dsimp only); (try k_fold))
  k_with "exec While Compare cons nil" => k_while_given ["first", "second", "cell!"] (fun first second c₀ _ row cell => row.length ≤ 12 ∧ GrowP first second c₀ row cell) (fun first second c₀ _ row cell => first.length + second.length - row.length) "row" "cell"
  k_with "state" => (first | exact grow_both (grow_start hx hy) | exact grow_both (grow_0 hx hy hx1 (by assumption) (by assumption) (by assumption)) | exact grow_both (grow_1 hx hy hy1 (by assumption) (by assumption) (by assumption)))
  k_with "measure" => (first | exact grow_meas hx1 (by assumption) | exact grow_meas hy1 (by assumption))
  k_steps
  exact ret _ _ _ _ _ _ (isS_of (grow_end (by assumption) (by assumption))) (by assumption) (fun _ h => nomatch h) st (by assumption)
end
section
set_option maxHeartbeats 800000
def lcp : List Nat → List Nat → List Nat
  | a :: r, b :: s => if a = b then a :: lcp r s else []
  | _, _ => []
theorem lcp_nil_left (l : List Nat) : lcp [] l = [] := rfl
theorem lcp_nil_right (l : List Nat) : lcp l [] = [] := by cases l <;> rfl
theorem lcp_cons_eq {a : Nat} {r s : List Nat} : lcp (a :: r) (a :: s) = a :: lcp r s := by simp [lcp]
theorem lcp_cons_ne {a b : Nat} {r s : List Nat} (h : ¬ a = b) : lcp (a :: r) (b :: s) = [] := by simp [lcp, h]
section
variable {x y : PySem.Str} {c : Int}
theorem common_start : 0 ≤ (0 : Int) ∧ (0 : Int) ≤ 1000 ∧ x.cps.toList.take (0 : Int).toNat ++ lcp (x.cps.toList.drop (0 : Int).toNat) (y.cps.toList.drop (0 : Int).toNat) = lcp x.cps.toList y.cps.toList := by
  refine ⟨by decide, by decide, ?_⟩
  simp
theorem min_lt {a b : Nat} (h : c < if (b : Int) < (a : Int) then (b : Int) else (a : Int)) : c < a ∧ c < b := by
  split at h <;> omega
theorem min_ge {a b : Nat} (h : ¬ c < if (b : Int) < (a : Int) then (b : Int) else (a : Int)) : (a : Int) ≤ c ∨ (b : Int) ≤ c := by
  split at h <;> omega
theorem common_turn (hx : x.length ≤ 1000) (h0 : 0 ≤ c) (he : x.cps.toList.take c.toNat ++ lcp (x.cps.toList.drop c.toNat) (y.cps.toList.drop c.toNat) = lcp x.cps.toList y.cps.toList)
    (hc : c < if (y.length : Int) < (x.length : Int) then (y.length : Int) else (x.length : Int)) (hq : (Txt.item x c == Txt.item y c) = true) :
    0 ≤ c + 1 ∧ c + 1 ≤ 1000 ∧ x.cps.toList.take (c + 1).toNat ++ lcp (x.cps.toList.drop (c + 1).toNat) (y.cps.toList.drop (c + 1).toNat) = lcp x.cps.toList y.cps.toList := by
  obtain ⟨h1, h2⟩ := min_lt hc
  rw [beq_tl, item_at h0 h1, item_at h0 h2] at hq
  have hq := List.head_eq_of_cons_eq hq
  have n1 : c.toNat < (tl x).length := by rw [len_tl]; omega
  have n2 : c.toNat < (tl y).length := by rw [len_tl]; omega
  refine ⟨by omega, by omega, ?_⟩
  rw [← he]
  show (tl x).take (c + 1).toNat ++ lcp ((tl x).drop (c + 1).toNat) ((tl y).drop (c + 1).toNat) = (tl x).take c.toNat ++ lcp ((tl x).drop c.toNat) ((tl y).drop c.toNat)
  rw [show (c + 1).toNat = c.toNat + 1 by omega, drop_at n1, drop_at n2, hq, lcp_cons_eq, ← hq, take_at n1, List.append_assoc]
  rfl
theorem common_differ (h0 : 0 ≤ c) (he : x.cps.toList.take c.toNat ++ lcp (x.cps.toList.drop c.toNat) (y.cps.toList.drop c.toNat) = lcp x.cps.toList y.cps.toList)
    (hc : c < if (y.length : Int) < (x.length : Int) then (y.length : Int) else (x.length : Int)) (hq : (Txt.item x c == Txt.item y c) = false) : tl (Txt.slice x none (some c)) = lcp (tl x) (tl y) := by
  obtain ⟨h1, h2⟩ := min_lt hc
  rw [beq_tl_f, item_at h0 h1, item_at h0 h2] at hq
  have hq : ¬ (tl x).getD c.toNat 0 = (tl y).getD c.toNat 0 := fun e => hq (by rw [e])
  have n1 : c.toNat < (tl x).length := by rw [len_tl]; omega
  have n2 : c.toNat < (tl y).length := by rw [len_tl]; omega
  rw [tl_slice_to h0]
  refine Eq.trans ?_ he
  show (tl x).take c.toNat = (tl x).take c.toNat ++ lcp ((tl x).drop c.toNat) ((tl y).drop c.toNat)
  rw [drop_at n1, drop_at n2, lcp_cons_ne hq, List.append_nil]
theorem common_end (h0 : 0 ≤ c) (he : x.cps.toList.take c.toNat ++ lcp (x.cps.toList.drop c.toNat) (y.cps.toList.drop c.toNat) = lcp x.cps.toList y.cps.toList)
    (hc : ¬ c < if (y.length : Int) < (x.length : Int) then (y.length : Int) else (x.length : Int)) : tl (Txt.slice x none (some c)) = lcp (tl x) (tl y) := by
  rw [tl_slice_to h0]
  refine Eq.trans ?_ he
  show (tl x).take c.toNat = (tl x).take c.toNat ++ lcp ((tl x).drop c.toNat) ((tl y).drop c.toNat)
  rcases min_ge hc with h | h
  · rw [List.drop_eq_nil_of_le (as := tl x) (by rw [len_tl]; omega), lcp_nil_left, List.append_nil]
  · rw [List.drop_eq_nil_of_le (as := tl y) (by rw [len_tl]; omega), lcp_nil_right, List.append_nil]
theorem common_meas (h0 : 0 ≤ c) (hc : c < if (y.length : Int) < (x.length : Int) then (y.length : Int) else (x.length : Int)) : x.length + 1 - (c + 1).toNat < x.length + 1 - c.toNat := by
  obtain ⟨h1, h2⟩ := min_lt hc
  omega
end

theorem common_spec {w : World} {x y : PySem.Str} {t t1 : Tok} (hx : x.length ≤ 1000) (hy : y.length ≤ 1000) : Con 2 w 120 [.str x t, .str y t1] [] (IsS (lcp (tl x) (tl y))) := by
  k_with_none
  refine con_of ?_
  intro mg mb dp un gd env outer A₀ base h₀ L m s Q E B F
  k_fill
  intro X N T hf hk hd hu ret
  refine wpAny_call ?_
  k_dflt (refine' enter_plain ?k1 ?k2 ?k3 ?k4 ?k5 ?kA ?kF ?kK ?k6 ?k7 ?k8 ?k9 ?kB ?_ ?c2 ?c3 ?c4 ?c5; (case kA => exact rfl); (case kF => assumption); (case kK => assumption); (case k1 => k_asm); (case k2 => k_asm); (case k3 => k_asm); (case k4 => k_asm); (case k5 => k_asm); (case k6 => k_is); (case k7 => k_is); (case k8 => ktr_room); (case k9 => exact BindsTo.of_eq rfl); (case c5 => decide); (case kB => exact locs rfl); (case c2 => exact rfl); (case c3 => exact rfl); (case c4 => exact rfl); k_whole; intro g' L' h' FG' F' N' B' X' T' st l1 z1; (try k_lt l1); (try dsimp only); (try k_fold))
  k_with "exec While BoolOp cons nil" => k_while_given ["one", "other"] (fun one other _ count => 0 ≤ count ∧ count ≤ 1000 ∧ one.cps.toList.take count.toNat ++ lcp (one.cps.toList.drop count.toNat) (other.cps.toList.drop count.toNat) = lcp one.cps.toList other.cps.toList) (fun one other _ count => one.length + 1 - count.toNat) "count"
  k_with "state" => (first | exact common_start | exact common_turn hx (by assumption) (by assumption) (by assumption) (by assumption))
  k_with "measure" => exact common_meas (by assumption) (by assumption)
  k_steps
  · exact ret _ _ _ _ _ _ (isS_of (common_differ (by assumption) (by assumption) (by assumption) (by assumption))) (by assumption) (by assumption) st (by assumption)
  · exact ret _ _ _ _ _ _ (isS_of (common_end (by assumption) (by assumption) (by assumption))) (by assumption) (by assumption) st (by assumption)
end
section
set_option maxHeartbeats 800000
theorem apo_tl : tl (PySem.Str.ofString "'") = [39] := by decide +kernel
theorem nil_tl : tl (PySem.Str.ofString "") = [] := by decide +kernel
theorem quoted_tl (x : PySem.Str) : tl (PySem.Str.ofString "'" ++ x ++ PySem.Str.ofString "'") = quoted (tl x) := by
  rw [tl_append, tl_append, apo_tl]
  rfl
theorem chars_tl (n : Int) : tl (PySem.Str.ofString "[" ++ PySem.Str.ofString (toString n) ++ PySem.Str.ofString " chars]") = chars n := by
  rw [tl_append, tl_append]
  rfl
section
variable {Y : PySem.Str} {p q : Int}
theorem short_1 (h1 : 80 < q) (h2 : q - p < 58) (hl : 5 ≤ Y.length) : tl (PySem.Str.ofString "" ++ (Txt.slice Y (some 0) (some 5) ++ (PySem.Str.ofString "[" ++ PySem.Str.ofString (toString (q - 63 - 5)) ++ PySem.Str.ofString " chars]")) ++ Txt.slice Y (some (q - 63)) none) = shortW (tl Y) p q := by
  unfold shortW
  rw [if_pos h1, if_pos h2, tl_append, tl_append, tl_append, chars_tl, nil_tl, tl_slice_from (by omega), tl_slice (by omega) (by omega) (by omega)]
  rfl
theorem short_2 (h1 : 80 < q) (h2 : ¬ q - p < 58) (h3 : 12 < p - 5 - 5) (h4 : 12 < (Y.length : Int) - 5 - (p + 41)) :
    tl (PySem.Str.ofString "" ++ (Txt.slice Y (some 0) (some 5) ++ (PySem.Str.ofString "[" ++ PySem.Str.ofString (toString (p - 5 - 5)) ++ PySem.Str.ofString " chars]")) ++ (Txt.slice Y (some (p - 5)) (some (p + 41)) ++ (PySem.Str.ofString "[" ++ PySem.Str.ofString (toString ((Y.length : Int) - 5 - (p + 41))) ++ PySem.Str.ofString " chars]")) ++ Txt.slice Y (some ((Y.length : Int) - 5)) none) = shortW (tl Y) p q := by
  unfold shortW
  rw [len_tl, if_pos h1, if_neg h2, if_pos h3, if_pos h4]
  simp only [tl_append, chars, nil_tl, List.nil_append]
  rw [tl_slice_from (by omega), tl_slice (by omega) (by omega) (by omega), tl_slice (by omega) (by omega) (by omega)]
  rw [show (p + 41 - (p - 5)).toNat = 46 by omega, show ((Y.length : Int) - 5).toNat = Y.length - 5 by omega]
  rfl
theorem short_3 (h1 : 80 < q) (h2 : ¬ q - p < 58) (h3 : 12 < p - 5 - 5) (h4 : ¬ 12 < (Y.length : Int) - 5 - (p + 41)) (hl : 5 ≤ Y.length) :
    tl (PySem.Str.ofString "" ++ (Txt.slice Y (some 0) (some 5) ++ (PySem.Str.ofString "[" ++ PySem.Str.ofString (toString (p - 5 - 5)) ++ PySem.Str.ofString " chars]")) ++ Txt.slice Y (some (p - 5)) none) = shortW (tl Y) p q := by
  unfold shortW
  rw [len_tl, if_pos h1, if_neg h2, if_pos h3, if_neg h4, tl_append, tl_append, tl_append, chars_tl, nil_tl, tl_slice_from (by omega), tl_slice (by omega) (by omega) (by omega)]
  rfl
theorem short_4 (hp : 6 ≤ p) (h1 : 80 < q) (h2 : ¬ q - p < 58) (h3 : ¬ 12 < p - 5 - 5) (h4 : 12 < (Y.length : Int) - 5 - (p + 41)) :
    tl (PySem.Str.ofString "" ++ (Txt.slice Y (some 0) (some (p + 41)) ++ (PySem.Str.ofString "[" ++ PySem.Str.ofString (toString ((Y.length : Int) - 5 - (p + 41))) ++ PySem.Str.ofString " chars]")) ++ Txt.slice Y (some ((Y.length : Int) - 5)) none) = shortW (tl Y) p q := by
  unfold shortW
  rw [len_tl, if_pos h1, if_neg h2, if_neg h3, if_pos h4, tl_append, tl_append, tl_append, chars_tl, nil_tl, tl_slice_from (by omega), tl_slice (by omega) (by omega) (by omega)]
  rw [show ((Y.length : Int) - 5).toNat = Y.length - 5 by omega, show p + 41 - 0 = p + 41 by omega]
  rfl
theorem short_5 (h1 : 80 < q) (h2 : ¬ q - p < 58) (h3 : ¬ 12 < p - 5 - 5) (h4 : ¬ 12 < (Y.length : Int) - 5 - (p + 41)) : tl (PySem.Str.ofString "" ++ Txt.slice Y (some 0) none) = shortW (tl Y) p q := by
  unfold shortW
  rw [len_tl, if_pos h1, if_neg h2, if_neg h3, if_neg h4, tl_append, nil_tl, tl_slice_from (by omega)]
  rfl
theorem short_6 (h1 : ¬ 80 < q) : tl (PySem.Str.ofString "" ++ Txt.slice Y (some 0) none) = shortW (tl Y) p q := by
  unfold shortW
  rw [if_neg h1, tl_append, nil_tl, tl_slice_from (by omega)]
  rfl
end
theorem short_to {x : PySem.Str} {p q : Int} {l : List Nat} (h : l = shortW (tl (PySem.Str.ofString "'" ++ x ++ PySem.Str.ofString "'")) p q) : l = shortL (tl x) p q := by
  rw [h, quoted_tl]; rfl
theorem short_spec {w : World} {x : PySem.Str} {t t1 t2 : Tok} {p q : Int} (hx : x.length ≤ 1000) (hp : 6 ≤ p) (hp1 : p ≤ (x.length : Int) + 1) (hq : 0 ≤ q) (hq1 : q ≤ 1000) : Con 2 w 127 [.str x t, .int p t1, .int q t2] [] (IsS (shortL (tl x) p q)) := by
  k_with_none
  k_with "execs cons" => (k_fold; walk_at "execs cons")
  k_with "exec If" => (k_fold; walk_at "exec If")
  k_with "isTrue Compare" => (k_fold; walk_at "isTrue Compare")
  k_with "isTrue BoolOp" => (k_fold; walk_at "isTrue BoolOp")
  k_with "eval Compare" => (k_fold; walk_at "eval Compare")
  k_with "eval BinOp" => (k_fold; walk_at "eval BinOp")
  k_with "eval Call" => (k_fold; walk_at "eval Call")
  k_with "callWith" => (k_fold; walk_at "callWith")
  k_with "eval IfExp" => (k_fold; walk_at "eval IfExp")
  k_with "CompRestT" => (k_fold; walk_at "CompRestT")
  k_with "CompRest" => (k_fold; walk_at "CompRest")
  k_with "CompEnd" => (k_fold; walk_at "CompEnd")
  k_with "eval ListComp" => (k_fold; walk_at "eval ListComp")
  k_with "eval List" => (k_fold; walk_at "eval List")
  k_with "binaryOp Mod str int" => (((with_reducible show wpAny _ _ (binaryOp Operator.Mod (Value.str (PySem.Str.ofString "[%d chars]") _) (Value.int _ _)) _ _ _); refine mod_chars (by omega) (by omega) ?_; intro _ _))
  refine con_of ?_
  intro mg mb dp un gd env outer A₀ base h₀ L m s Q E B F
  k_fill
  intro X N T hf hk hd hu ret
  refine wpAny_call ?_
  k_dflt (refine' enter_plain ?k1 ?k2 ?k3 ?k4 ?k5 ?kA ?kF ?kK ?k6 ?k7 ?k8 ?k9 ?kB ?_ ?c2 ?c3 ?c4 ?c5; (case kA => exact rfl); (case kF => assumption); (case kK => assumption); (case k1 => k_asm); (case k2 => k_asm); (case k3 => k_asm); (case k4 => k_asm); (case k5 => k_asm); (case k6 => k_is); (case k7 => k_is); (case k8 => ktr_room); (case k9 => exact BindsTo.of_eq rfl); (case c5 => decide); (case kB => exact locs rfl); (case c2 => exact rfl); (case c3 => exact rfl); (case c4 => exact rfl); k_whole; intro g' L' h' FG' F' N' B' X' T' st l1 z1; (try k_lt l1); (try dsimp only); (try k_fold))
  have q1 : (PySem.Str.ofString "'").length = 1 := by decide +kernel
  have q2 : 5 ≤ (PySem.Str.ofString "'" ++ x ++ PySem.Str.ofString "'").length := by rw [PySem.Str.length_append, PySem.Str.length_append, q1]; omega
  k_steps
  · exact ret _ _ _ _ _ _ (isS_of (short_to (short_1 (by assumption) (by assumption) q2))) (by assumption) (fun _ h => nomatch h) st (by assumption)
  · exact ret _ _ _ _ _ _ (isS_of (short_to (short_2 (by assumption) (by assumption) (by assumption) (by assumption)))) (by assumption) (fun _ h => nomatch h) st (by assumption)
  · exact ret _ _ _ _ _ _ (isS_of (short_to (short_3 (by assumption) (by assumption) (by assumption) (by assumption) q2))) (by assumption) (fun _ h => nomatch h) st (by assumption)
  · exact ret _ _ _ _ _ _ (isS_of (short_to (short_4 hp (by assumption) (by assumption) (by assumption) (by assumption)))) (by assumption) (fun _ h => nomatch h) st (by assumption)
  · exact ret _ _ _ _ _ _ (isS_of (short_to (short_5 (by assumption) (by assumption) (by assumption) (by assumption)))) (by assumption) (fun _ h => nomatch h) st (by assumption)
  · exact ret _ _ _ _ _ _ (isS_of (short_to (short_6 (by assumption)))) (by assumption) (fun _ h => nomatch h) st (by assumption)
end
section
set_option maxHeartbeats 800000
theorem repr_all : ((List.range 127).all fun c => !fineB c || decide (Builtin.Str.reprChar 39 c = [c])) = true := by decide +kernel
theorem repr_one {c : Nat} (h : fineB c = true) : Builtin.Str.reprChar 39 c = [c] := by
  have hc : c < 127 := by
    simp only [fineB, Bool.and_eq_true, decide_eq_true_eq] at h
    omega
  have := List.all_eq_true.mp repr_all c (List.mem_range.mpr hc)
  rw [h] at this
  simpa using this
theorem repr_fold : ∀ (l : List Nat) (acc : Array Nat), Fine l → (l.foldl (fun out c => out ++ (Builtin.Str.reprChar 39 c).toArray) acc).toList = acc.toList ++ l
  | [], acc, _ => by simp
  | c :: r, acc, h => by
    rw [List.foldl_cons, repr_fold r _ (fun d hd => h d (.tail _ hd)), repr_one (h c (.head _))]
    simp
theorem repr_text {x : PySem.Str} (h : Fine (tl x)) : reprText x = S (quoted (tl x)) := by
  have hq : reprQuote x = 39 := by
    unfold reprQuote
    have : x.cps.contains 39 = false := by
      rw [← Bool.not_eq_true]
      intro hc
      have h39 := h 39 (by simpa [tl] using hc)
      exact absurd h39 (by decide)
    rw [this]
    rfl
  apply str_eq
  rw [tl_S]
  unfold reprText
  rw [hq, ← Array.foldl_toList]
  show (((tl x).foldl (fun out c => out ++ (Builtin.Str.reprChar 39 c).toArray) #[39]).push 39).toList = _
  rw [Array.toList_push, repr_fold _ _ h]
  rfl
section
variable {prog : Program} {w : World} {A : Around} {E : Value → Shared → Prop} {s : Shared} {t : Tok} {Q : Value → Shared → Prop} {x : PySem.Str}
theorem repr_fine (hf : Fine (tl x)) (hx : x.length ≤ 1000) (h : ∀ t' k, Q (.str (S (quoted (tl x))) t') { s with toks := k }) : wpAny (model prog w) A (call (.builtin "repr") [.str x t]) Q E s := by
  refine P.repr_of_str ?_ ?_
  · rw [repr_text hf]; exact h _ _
  · rw [repr_text hf, len_S, sizeLine_eq]
    show (39 :: (tl x ++ [39])).length ≤ _
    simp only [List.length_cons, List.length_append, List.length_nil, len_tl]
    omega
end
theorem repr_spec {w : World} {x : PySem.Str} {t : Tok} (hx : x.length ≤ 1000) (hf : Fine (tl x)) : Con 2 w 69 [.str x t] [] (IsS (quoted (tl x))) := by
  k_with_none
  k_with "execs cons" => (k_fold; walk_at "execs cons")
  k_with "exec If" => (k_fold; walk_at "exec If")
  k_with "isTrue Compare" => (k_fold; walk_at "isTrue Compare")
  k_with "isTrue BoolOp" => (k_fold; walk_at "isTrue BoolOp")
  k_with "eval Compare" => (k_fold; walk_at "eval Compare")
  k_with "eval BinOp" => (k_fold; walk_at "eval BinOp")
  k_with "eval Call" => (k_fold; walk_at "eval Call")
  k_with "callWith" => (k_fold; walk_at "callWith")
  k_with "eval IfExp" => (k_fold; walk_at "eval IfExp")
  k_with "CompRestT" => (k_fold; walk_at "CompRestT")
  k_with "CompRest" => (k_fold; walk_at "CompRest")
  k_with "CompEnd" => (k_fold; walk_at "CompEnd")
  k_with "eval ListComp" => (k_fold; walk_at "eval ListComp")
  k_with "eval List" => (k_fold; walk_at "eval List")
  k_with "call builtin:repr" => (((with_reducible show wpAny _ _ (call (Value.builtin "repr") [Value.str _ _]) _ _ _); refine repr_fine (by assumption) (by assumption) ?_; intro t9 k9))
  refine con_of ?_
  intro mg mb dp un gd env outer A₀ base h₀ L m s Q E B F
  k_fill
  intro X N T hf hk hd hu ret
  refine wpAny_call ?_
  k_dflt (refine' enter_plain ?k1 ?k2 ?k3 ?k4 ?k5 ?kA ?kF ?kK ?k6 ?k7 ?k8 ?k9 ?kB ?_ ?c2 ?c3 ?c4 ?c5; (case kA => exact rfl); (case kF => assumption); (case kK => assumption); (case k1 => k_asm); (case k2 => k_asm); (case k3 => k_asm); (case k4 => k_asm); (case k5 => k_asm); (case k6 => k_is); (case k7 => k_is); (case k8 => ktr_room); (case k9 => (refine' kp_binds ?kx ?ke; (case kx => k_in); (case ke => exact fun _ => rfl))); (case c5 => decide); (case kB => exact locs rfl); (case c2 => exact rfl); (case c3 => exact rfl); (case c4 => exact rfl); k_whole; intro g' L' h' FG' F' N' B' X' T' st l1 z1; (try k_lt l1); (try dsimp only); (try k_fold))
  k_steps
  exact ret _ _ _ _ _ _ ⟨_, rfl⟩ (by assumption) (fun _ h => nomatch h) st (by assumption)
end
section
set_option maxHeartbeats 800000
theorem nil_tl0 : tl (PySem.Str.ofString "") = [] := by decide +kernel

theorem kind_spec {w : World} {x y: PySem.Str} {t t1: Tok}  : Con 2 w 35 [.str y t1, .str x t] [] (IsS []) := by
  k_with_none
  k_with "execs cons" => (k_fold; walk_at "execs cons")
  k_with "exec If" => (k_fold; walk_at "exec If")
  k_with "isTrue Compare" => (k_fold; walk_at "isTrue Compare")
  k_with "isTrue BoolOp" => (k_fold; walk_at "isTrue BoolOp")
  k_with "eval Compare" => (k_fold; walk_at "eval Compare")
  k_with "eval BinOp" => (k_fold; walk_at "eval BinOp")
  k_with "eval Call" => (k_fold; walk_at "eval Call")
  k_with "callWith" => (k_fold; walk_at "callWith")
  k_with "eval IfExp" => (k_fold; walk_at "eval IfExp")
  k_with "CompRestT" => (k_fold; walk_at "CompRestT")
  k_with "CompRest" => (k_fold; walk_at "CompRest")
  k_with "CompEnd" => (k_fold; walk_at "CompEnd")
  k_with "eval ListComp" => (k_fold; walk_at "eval ListComp")
  k_with "eval List" => (k_fold; walk_at "eval List")
  refine con_of ?_
  intro mg mb dp un gd env outer A₀ base h₀ L m s Q E B F
  k_fill
  intro X N T hf hk hd hu ret
  refine wpAny_call ?_
  k_dflt (refine' enter_plain ?k1 ?k2 ?k3 ?k4 ?k5 ?kA ?kF ?kK ?k6 ?k7 ?k8 ?k9 ?kB ?_ ?c2 ?c3 ?c4 ?c5; (case kA => exact rfl); (case kF => assumption); (case kK => assumption); (case k1 => k_asm); (case k2 => k_asm); (case k3 => k_asm); (case k4 => k_asm); (case k5 => k_asm); (case k6 => k_is); (case k7 => k_is); (case k8 => ktr_room); (case k9 => exact BindsTo.of_eq rfl); (case c5 => decide); (case kB => exact locs rfl); (case c2 => exact rfl); (case c3 => exact rfl); (case c4 => exact rfl); k_whole; intro g' L' h' FG' F' N' B' X' T' st l1 z1; (try k_lt l1); (try dsimp only); (try k_fold))
  k_steps
  exact ret _ _ _ _ _ _ (isS_of nil_tl0) (by assumption) (by assumption) st (by assumption)

theorem fspath_spec {w : World} {x y: PySem.Str} {t t1: Tok}  : Con 4 w 42 [.str y t1, .str x t] [] (fun v => v = .str x t) := by
  k_with_none
  k_with "execs cons" => (k_fold; walk_at "execs cons")
  k_with "exec If" => (k_fold; walk_at "exec If")
  k_with "isTrue Compare" => (k_fold; walk_at "isTrue Compare")
  k_with "isTrue BoolOp" => (k_fold; walk_at "isTrue BoolOp")
  k_with "eval Compare" => (k_fold; walk_at "eval Compare")
  k_with "eval BinOp" => (k_fold; walk_at "eval BinOp")
  k_with "eval Call" => (k_fold; walk_at "eval Call")
  k_with "callWith" => (k_fold; walk_at "callWith")
  k_with "eval IfExp" => (k_fold; walk_at "eval IfExp")
  k_with "CompRestT" => (k_fold; walk_at "CompRestT")
  k_with "CompRest" => (k_fold; walk_at "CompRest")
  k_with "CompEnd" => (k_fold; walk_at "CompEnd")
  k_with "eval ListComp" => (k_fold; walk_at "eval ListComp")
  k_with "eval List" => (k_fold; walk_at "eval List")
  k_with "call ref" => ((k_here; (with_reducible show wpAny _ _ (call (Value.ref 35) [Value.str _ _, Value.str _ _]) _ _ _); k_dflt (refine' con_use ?k1 ?k2 ?k3 ?k4 ?k5 ?k6 kind_spec ?k7 ?k8 ?k9 ?_; (case k1 => k_asm); (case k2 => k_asm); (case k3 => k_asm); (case k4 => k_asm); (case k5 => k_asm); (case k6 => first | exact rfl | assumption); (case k7 => kcj_all); (case k8 => ktr_room); (case k9 => ktr_units)); intro v9 hq' tkq' hR9 Fq' Nq'; (obtain ⟨t9, e9⟩ := hR9); subst e9; (try dsimp only)))
  refine con_of ?_
  intro mg mb dp un gd env outer A₀ base h₀ L m s Q E B F
  k_fill
  intro X N T hf hk hd hu ret
  refine wpAny_call ?_
  k_dflt (refine' enter_plain ?k1 ?k2 ?k3 ?k4 ?k5 ?kA ?kF ?kK ?k6 ?k7 ?k8 ?k9 ?kB ?_ ?c2 ?c3 ?c4 ?c5; (case kA => exact rfl); (case kF => assumption); (case kK => assumption); (case k1 => k_asm); (case k2 => k_asm); (case k3 => k_asm); (case k4 => k_asm); (case k5 => k_asm); (case k6 => k_is); (case k7 => k_is); (case k8 => ktr_room); (case k9 => exact BindsTo.of_eq rfl); (case c5 => decide); (case kB => exact locs rfl); (case c2 => exact rfl); (case c3 => exact rfl); (case c4 => exact rfl); k_whole; intro g' L' h' FG' F' N' B' X' T' st l1 z1; (try k_lt l1); (try dsimp only); (try k_fold))
  k_steps
  exact ret _ _ _ _ _ _ rfl (by assumption) (by assumption) st (by assumption)
end
section
set_option maxHeartbeats 800000
theorem prefix_spec {w : World} {x y z : PySem.Str} {p : List Nat} {ka kb kc : Nat} {t1 t2 t3 : Tok} {l : Addr} (hx : At p ka (tl x)) (hy : At p kb (tl y)) (hz : At p kc (tl z)) (hab : ka ≠ kb) (hac : ka ≠ kc) (hbc : kb ≠ kc) (lx : x.length ≤ 1000) (ly : y.length ≤ 1000) (lz : z.length ≤ 1000) : Con 2 w 49 [.ref l] [(l, tup [.str x t1, .str y t2, .str z t3])] (IsS p) := by
  k_with_none
  k_with "execs cons" => (k_fold; walk_at "execs cons")
  k_with "exec If" => (k_fold; walk_at "exec If")
  k_with "isTrue Compare" => (k_fold; walk_at "isTrue Compare")
  k_with "isTrue BoolOp" => (k_fold; walk_at "isTrue BoolOp")
  k_with "eval Compare" => (k_fold; walk_at "eval Compare")
  k_with "eval BinOp" => (k_fold; walk_at "eval BinOp")
  k_with "eval Call" => (k_fold; walk_at "eval Call")
  k_with "callWith" => (k_fold; walk_at "callWith")
  k_with "eval IfExp" => (k_fold; walk_at "eval IfExp")
  k_with "CompRestT" => (k_fold; walk_at "CompRestT")
  k_with "CompRest" => (k_fold; walk_at "CompRest")
  k_with "CompEnd" => (k_fold; walk_at "CompEnd")
  k_with "eval ListComp" => (k_fold; walk_at "eval ListComp")
  k_with "eval List" => (k_fold; walk_at "eval List")
  k_with "PairPost" => ((dsimp only [PairPost]))
  refine con_of ?_
  intro mg mb dp un gd env outer A₀ base h₀ L m s Q E B F
  k_fill
  intro X N T hf hk hd hu ret
  refine wpAny_call ?_
  k_dflt (refine' enter_plain ?k1 ?k2 ?k3 ?k4 ?k5 ?kA ?kF ?kK ?k6 ?k7 ?k8 ?k9 ?kB ?_ ?c2 ?c3 ?c4 ?c5; (case kA => exact rfl); (case kF => assumption); (case kK => assumption); (case k1 => k_asm); (case k2 => k_asm); (case k3 => k_asm); (case k4 => k_asm); (case k5 => k_asm); (case k6 => k_is); (case k7 => k_is); (case k8 => ktr_room); (case k9 => exact BindsTo.of_eq rfl); (case c5 => decide); (case kB => exact locs rfl); (case c2 => exact rfl); (case c3 => exact rfl); (case c4 => exact rfl); k_whole; intro g' L' h' FG' F' N' B' X' T' st l1 z1; (try k_lt l1); (try dsimp only); (try k_fold))
  k_with "call builtin:min" => (k_dflt (refine' min3 (by with_unfolding_all rfl) ?F ?N ?m hx hy hz hab hac hbc lx ly lz ?_; (case F => k_asm); (case N => k_asm); (case m => k_mem)); intro u1 t1' h' tk' lu1 hu1 F' N')
  k_with "call builtin:max" => (k_dflt (refine' max3 (by with_unfolding_all rfl) ?F ?N ?m hx hy hz hab hac hbc lx ly lz ?_; (case F => k_asm); (case N => k_asm); (case m => k_mem)); intro u2 t2' h' tk' lu2 hu2 F' N'; have al2 := at_len hu2)
  k_with "pyIter ref" => (refine pair_word (fun i => i ≤ p.length) (by assumption) (Nat.zero_le _) (fun i9 a9 t9 t9' h9 tk9 own9 ha9 hP9 F' N' => ?_) (fun hP => (pf_done hu1 hP).elim))
  k_with "PairEnd" => (refine ⟨_, _, _, rfl, by assumption, by assumption, fun y h1 h2 => (if_neg h2).trans (if_neg h1), pf_next hu1 hu2 (by omega) ha9 hP9 (by assumption)⟩)
  k_steps
  exact ret _ _ _ _ _ _ (isS_of (pf_ret hu1 hu2 ha9 hP9 (by assumption))) (by assumption) (by rename News h₀ L _ (own9 ++ _) => nn9; exact fun q hq => nn9 q (List.mem_append_right _ hq)) st (by assumption)
end
section
set_option maxHeartbeats 800000
theorem shorten_yes {x : PySem.Str} {p q : Int} (hp : 0 ≤ p) (hq : 0 ≤ q) (h : 12 < (x.length : Int) - p - q) :
    tl (Txt.slice x none (some p) ++ PySem.Str.ofString "[" ++ PySem.Str.ofString (toString ((x.length : Int) - p - q)) ++ PySem.Str.ofString " chars]" ++ Txt.slice x (some ((x.length : Int) - q)) none) = shortenL (tl x) p q := by
  unfold shortenL
  rw [len_tl, if_pos h, tl_append, tl_append, tl_append, tl_append, tl_slice_to hp, tl_slice_from (by omega), show ((x.length : Int) - q).toNat = x.length - q.toNat by omega]
  simp only [chars, List.append_assoc]
theorem shorten_no {x : PySem.Str} {p q : Int} (h : ¬ 12 < (x.length : Int) - p - q) : tl x = shortenL (tl x) p q := by
  unfold shortenL
  rw [len_tl, if_neg h]
theorem shorten_spec {w : World} {x : PySem.Str} {t t1 t2 : Tok} {p q : Int} (hx : x.length ≤ 1000) (hp : 0 ≤ p) (hq : 0 ≤ q) : Con 2 w 28 [.str x t, .int p t1, .int q t2] [] (IsS (shortenL (tl x) p q)) := by
  k_with_none
  k_with "execs cons" => (k_fold; walk_at "execs cons")
  k_with "exec If" => (k_fold; walk_at "exec If")
  k_with "isTrue Compare" => (k_fold; walk_at "isTrue Compare")
  k_with "isTrue BoolOp" => (k_fold; walk_at "isTrue BoolOp")
  k_with "eval Compare" => (k_fold; walk_at "eval Compare")
  k_with "eval BinOp" => (k_fold; walk_at "eval BinOp")
  k_with "eval Call" => (k_fold; walk_at "eval Call")
  k_with "callWith" => (k_fold; walk_at "callWith")
  k_with "eval IfExp" => (k_fold; walk_at "eval IfExp")
  k_with "CompRestT" => (k_fold; walk_at "CompRestT")
  k_with "CompRest" => (k_fold; walk_at "CompRest")
  k_with "CompEnd" => (k_fold; walk_at "CompEnd")
  k_with "eval ListComp" => (k_fold; walk_at "eval ListComp")
  k_with "eval List" => (k_fold; walk_at "eval List")
  k_with "binaryOp Mod str ref" => ((k_here; (with_reducible show wpAny _ _ (binaryOp Operator.Mod (Value.str (PySem.Str.ofString "%s[%d chars]%s") _) (Value.ref _)) _ _ _); k_dflt (refine' mod_skip ?hx ?hy ?h0 ?h1 ?kptN ?kptb ?_; (case kptN => k_asm); (case kptb => k_mem)); (case hx => omega); (case hy => omega); (case h0 => omega); (case h1 => omega); intro _ _))
  refine con_of ?_
  intro mg mb dp un gd env outer A₀ base h₀ L m s Q E B F
  k_fill
  intro X N T hf hk hd hu ret
  refine wpAny_call ?_
  k_dflt (refine' enter_plain ?k1 ?k2 ?k3 ?k4 ?k5 ?kA ?kF ?kK ?k6 ?k7 ?k8 ?k9 ?kB ?_ ?c2 ?c3 ?c4 ?c5; (case kA => exact rfl); (case kF => assumption); (case kK => assumption); (case k1 => k_asm); (case k2 => k_asm); (case k3 => k_asm); (case k4 => k_asm); (case k5 => k_asm); (case k6 => k_is); (case k7 => k_is); (case k8 => ktr_room); (case k9 => exact BindsTo.of_eq rfl); (case c5 => decide); (case kB => exact locs rfl); (case c2 => exact rfl); (case c3 => exact rfl); (case c4 => exact rfl); k_whole; intro g' L' h' FG' F' N' B' X' T' st l1 z1; (try k_lt l1); (try dsimp only); (try k_fold))
  k_steps
  · exact ret _ _ _ _ _ _ (isS_of (shorten_yes hp hq (by assumption))) (by assumption) (fun _ h => nomatch h) st (by assumption)
  · exact ret _ _ _ _ _ _ (isS_of (shorten_no (by assumption))) (by assumption) (fun _ h => nomatch h) st (by assumption)
end
section
set_option maxHeartbeats 800000
local macro_rules | `(tactic| lcg_src) => `(tactic| k_mem)
theorem commonprefix_spec {w : World} {x y z : PySem.Str} {p : List Nat} {ka kb kc : Nat} {t1 t2 t3 : Tok} {l : Addr} (hx : At p ka (tl x)) (hy : At p kb (tl y)) (hz : At p kc (tl z)) (hab : ka ≠ kb) (hac : ka ≠ kc) (hbc : kb ≠ kc) (lx : x.length ≤ 1000) (ly : y.length ≤ 1000) (lz : z.length ≤ 1000) : Con 6 w 54 [.ref l] [(l, tup [.str x t1, .str y t2, .str z t3])] (IsS p) := by
  k_with_none
  k_with "execs cons" => (k_fold; walk_at "execs cons")
  k_with "exec If" => (k_fold; walk_at "exec If")
  k_with "isTrue Compare" => (k_fold; walk_at "isTrue Compare")
  k_with "isTrue BoolOp" => (k_fold; walk_at "isTrue BoolOp")
  k_with "eval Compare" => (k_fold; walk_at "eval Compare")
  k_with "eval BinOp" => (k_fold; walk_at "eval BinOp")
  k_with "eval Call" => (k_fold; walk_at "eval Call")
  k_with "callWith" => (k_fold; walk_at "callWith")
  k_with "eval IfExp" => (k_fold; walk_at "eval IfExp")
  k_with "CompRestT" => (k_fold; walk_at "CompRestT")
  k_with "CompRest" => (k_fold; walk_at "CompRest")
  k_with "CompEnd" => (k_fold; walk_at "CompEnd")
  k_with "eval ListComp" => (k_fold; walk_at "eval ListComp")
  k_with "eval List" => (k_fold; walk_at "eval List")
  k_with "eval ListComp" => ((k_here; k_dflt (refine ListComp_tup (_F₀ := by k_asm) (by with_unfolding_all rfl) (by decide) (by rfl) (by decide) (by rfl) ?_)))
  k_with "TupSrc" => ((k_here; k_dflt (refine TupSrc.ledger (by rfl) (by k_asm) (by k_asm) (by k_mem) (by first | size_fits | exact Nat.le_of_ble_eq_true rfl) ?_; intro gq'; lcg_lit)))
  refine con_of ?_
  intro mg mb dp un gd env outer A₀ base h₀ L m s Q E B F
  k_fill
  intro X N T hf hk hd hu ret
  refine wpAny_call ?_
  k_dflt (refine' enter_plain ?k1 ?k2 ?k3 ?k4 ?k5 ?kA ?kF ?kK ?k6 ?k7 ?k8 ?k9 ?kB ?_ ?c2 ?c3 ?c4 ?c5; (case kA => exact rfl); (case kF => assumption); (case kK => assumption); (case k1 => k_asm); (case k2 => k_asm); (case k3 => k_asm); (case k4 => k_asm); (case k5 => k_asm); (case k6 => k_is); (case k7 => k_is); (case k8 => ktr_room); (case k9 => exact BindsTo.of_eq rfl); (case c5 => decide); (case kB => exact locs rfl); (case c2 => exact rfl); (case c3 => exact rfl); (case c4 => exact rfl); k_whole; intro g' L' h' FG' F' N' B' X' T' st l1 z1; (try k_lt l1); (try dsimp only); (try k_fold))
  k_with "call ref" => (k_here; (with_reducible show wpAny _ _ (call (Value.ref 35) [Value.str _ _, Value.str _ _]) _ _ _); k_dflt (refine' con_use ?k1 ?k2 ?k3 ?k4 ?k5 ?k6 kind_spec ?k7 ?k8 ?k9 ?_; (case k1 => k_asm); (case k2 => k_asm); (case k3 => k_asm); (case k4 => k_asm); (case k5 => k_asm); (case k6 => first | exact rfl | assumption); (case k7 => kcj_all); (case k8 => ktr_room); (case k9 => ktr_units)); intro v9 h' tk' hR9 F' N'; (obtain ⟨t9, e9⟩ := hR9); subst e9; (try dsimp only))
  k_with "call ref" => (k_here; (with_reducible show wpAny _ _ (call (Value.ref 42) [Value.str _ _, Value.str _ _]) _ _ _); k_dflt (refine' con_use ?k1 ?k2 ?k3 ?k4 ?k5 ?k6 fspath_spec ?k7 ?k8 ?k9 ?_; (case k1 => k_asm); (case k2 => k_asm); (case k3 => k_asm); (case k4 => k_asm); (case k5 => k_asm); (case k6 => first | exact rfl | assumption); (case k7 => kcj_all); (case k8 => ktr_room); (case k9 => ktr_units)); intro v9 h' tk' hR9 F' N'; subst hR9; (try dsimp only))
  k_with "call ref" => (k_here; (with_reducible show wpAny _ _ (call (Value.ref 49) [Value.ref _]) _ _ _); k_dflt (refine' con_use ?k1 ?k2 ?k3 ?k4 ?k5 ?k6 (prefix_spec hx hy hz hab hac hbc lx ly lz) ?k7 ?k8 ?k9 ?_; (case k1 => k_asm); (case k2 => k_asm); (case k3 => k_asm); (case k4 => k_asm); (case k5 => k_asm); (case k6 => first | exact rfl | assumption); (case k7 => kcj_all); (case k8 => ktr_room); (case k9 => ktr_units)); intro v9 h' tk' hR9 F' N'; (obtain ⟨t9, e9⟩ := hR9); subst e9; (try dsimp only))
  k_steps
  exact ret _ _ _ _ _ _ ⟨_, rfl⟩ (by assumption) (by (refine' cb_drop ?cbN ?cbS; (case cbN => assumption); (case cbS => kcj_all))) st (by assumption)
end
section
set_option maxHeartbeats 800000
theorem callsTo_of_con {k n : Nat} {w : World} {f : Addr} {vs : List Value} {R : Nat → Value → Prop} {mg mb : PySem.Str → Option Value} {dp un : Nat} {gd : Option (List Code)} {env : Env} {outer : List Env} {A₀ : Around} {base h₀ : Heap} {L : Addr} {m : PySem.Str → Option Value}
    (B : Below A₀ base outer h₀) (X : (hd.heap_1 w.params).In h₀) (T : TopRead hd.view_1 LO mg mb h₀) (hk : env.scope.kind = .function) (H : ∀ i x, vs[i]? = some x → Con k w f [x] [] (R i)) (hd : dp + k < recursionLimit) (hu : un + n + 20 * k < cLine) (hf : env.frame = some L := by rfl) :
    CallsTo PySem.Challenge.rw_tv0008_01.row.prog w (genTop dp (un + n) gd env outer) (.ref f) vs R (fun h => Fr h₀ L h m) :=
  fun i x s Q E hx F hQ => H i x hx mg mb dp (un + n) gd env outer A₀ base h₀ L m s Q E B F X News.nil T hf hk hd hu fun v h' tk' hR hk' => hQ v h' tk' hR hk'
def QP (qs : List (List Nat)) (i : Nat) (v : Value) : Prop := ∃ q, qs[i]? = some q ∧ IsS (quoted q) v
theorem three_repr {w : World} {x y z : PySem.Str} {t1 t2 t3 : Tok} (lx : x.length ≤ 900) (ly : y.length ≤ 900) (lz : z.length ≤ 900) (fx : Fine (tl x)) (fy : Fine (tl y)) (fz : Fine (tl z)) :
    ∀ i v, [Value.str x t1, .str y t2, .str z t3][i]? = some v → Con 2 w 69 [v] [] (QP [tl x, tl y, tl z] i) := by
  intro i v hv
  have up : ∀ {y : PySem.Str} {t : Tok} {i : Nat}, y.length ≤ 900 → Fine (tl y) → [tl x, tl y, tl z][i]? = some (tl y) → True := fun _ _ _ => trivial
  have key : ∀ {y' : PySem.Str} {t : Tok}, y'.length ≤ 900 → Fine (tl y') → [tl x, tl y, tl z][i]? = some (tl y') → Con 2 w 69 [.str y' t] [] (QP [tl x, tl y, tl z] i) := by
    intro y' t l f e mg mb dp un gd env outer A₀ base h₀ L m s Q E B F X N T hf hk hd hu hQ
    exact repr_spec (by omega) f mg mb dp un gd env outer A₀ base h₀ L m s Q E B F X N T hf hk hd hu fun v h' tk' hR hk' => hQ v h' tk' ⟨_, e, hR⟩ hk'
  match i, hv with
  | 0, hv => cases hv; exact key lx fx rfl
  | 1, hv => cases hv; exact key ly fy rfl
  | 2, hv => cases hv; exact key lz fz rfl
theorem len3_of {α : Type} {ys : List α} (e : ys.length = 3) : ∃ u v r, ys = [u, v, r] := by
  rcases ys with _ | ⟨u, _ | ⟨v, _ | ⟨r, _ | ⟨_, _⟩⟩⟩⟩
  · cases e
  · cases e
  · cases e
  · exact ⟨_, _, _, rfl⟩
  · simp only [List.length_cons] at e; omega
theorem three_of {ys : List Value} {a b c : List Nat} (e : ys.length = 3) (h : ∀ j v, ys[j]? = some v → QP [a, b, c] j v) : ∃ t1 t2 t3, ys = [.str (S (quoted a)) t1, .str (S (quoted b)) t2, .str (S (quoted c)) t3] := by
  obtain ⟨u, v, r, rfl⟩ := len3_of e
  obtain ⟨q, hq, t1, rfl⟩ := h 0 u rfl
  cases hq
  obtain ⟨q, hq, t2, rfl⟩ := h 1 v rfl
  cases hq
  obtain ⟨q, hq, t3, rfl⟩ := h 2 r rfl
  cases hq
  exact ⟨t1, t2, t3, rfl⟩
def len3 (x y z : PySem.Str) (i : Nat) : Int := match i with | 0 => x.length | 1 => y.length | _ => z.length
theorem three_len {x y z : PySem.Str} {t1 t2 t3 : Tok} (lx : x.length ≤ 1000) (ly : y.length ≤ 1000) (lz : z.length ≤ 1000) :
    ∀ i v, [Value.str x t1, .str y t2, .str z t3][i]? = some v → ∃ y' t, v = .str y' t ∧ (y'.length : Int) = len3 x y z i ∧ y'.length ≤ 100000 := by
  intro i v hv
  match i, hv with
  | 0, hv => cases hv; exact ⟨_, _, rfl, rfl, by omega⟩
  | 1, hv => cases hv; exact ⟨_, _, rfl, rfl, by omega⟩
  | 2, hv => cases hv; exact ⟨_, _, rfl, rfl, by omega⟩
theorem three_max {x y z : PySem.Str} : len3 x y z (argBest (fun i j => decide (len3 x y z i > len3 x y z j)) 2) = ((max (max x.length y.length) z.length : Nat) : Int) := by
  generalize hb : (fun i j => decide (len3 x y z i > len3 x y z j)) = bt
  have e1 : argBest bt 1 = if bt 1 0 = true then 1 else 0 := rfl
  have e2 : argBest bt 2 = if bt 2 (argBest bt 1) = true then 2 else argBest bt 1 := rfl
  have b10 : (bt 1 0 = true) ↔ ((y.length : Int) > x.length) := by rw [← hb]; exact decide_eq_true_iff
  have b20 : (bt 2 0 = true) ↔ ((z.length : Int) > x.length) := by rw [← hb]; exact decide_eq_true_iff
  have b21 : (bt 2 1 = true) ↔ ((z.length : Int) > y.length) := by rw [← hb]; exact decide_eq_true_iff
  rw [e2, e1]
  by_cases h1 : bt 1 0 = true
  · rw [if_pos h1]
    rw [b10] at h1
    by_cases h2 : bt 2 1 = true
    · rw [if_pos h2]; rw [b21] at h2
      show (z.length : Int) = _
      omega
    · rw [if_neg h2]; rw [b21] at h2
      show (y.length : Int) = _
      omega
  · rw [if_neg h1]
    rw [b10] at h1
    by_cases h2 : bt 2 0 = true
    · rw [if_pos h2]; rw [b20] at h2
      show (z.length : Int) = _
      omega
    · rw [if_neg h2]; rw [b20] at h2
      show (x.length : Int) = _
      omega
theorem call_max3_K {prog : Program} {w : World} {A : Around} {E : Value → Shared → Prop} {s : Shared} {h₀ : Heap} {L : Addr} {m : PySem.Str → Option Value} {news : List (Addr × Obj)} {ax c : Addr} {x y z : PySem.Str} {t1 t2 t3 : Tok} {Q : Value → Shared → Prop} (lx : x.length ≤ 1000) (ly : y.length ≤ 1000) (lz : z.length ≤ 1000) (hh : A.handled = none) (F : Fr h₀ L s.heap m) (N : News h₀ L s.heap news) (M : MapNew h₀ L news s.heap c (.builtin "len") ax) (hm : (ax, tup [.str x t1, .str y t2, .str z t3]) ∈ news)
    (h : ∀ t h' tk', Fr h₀ L h' m → News h₀ L h' news → Q (.int ((max (max x.length y.length) z.length : Nat) : Int) t) { s with heap := h', toks := tk' }) :
    wpAny (model prog w) A (call (.builtin "max") [.ref c]) Q E s := by
  refine call_max_map_K (val := len3 x y z) hh F N M hm (callsTo_len (three_len lx ly lz)) (Nat.succ_pos 2) fun t h' tk' F' N' => ?_
  have := h t h' tk' F' N'
  rw [← three_max] at this
  exact this
theorem quoted_len (x : PySem.Str) : (S (quoted (tl x))).length = x.length + 2 := by
  rw [len_S, ← len_tl]; simp [quoted]
end
section
open PySem.Sem (wp)
set_option maxHeartbeats 800000
abbrev allP : Nat → Bool := fun _ => true
theorem passing_all (n : Nat) : passing allP n 0 = List.range n := by simp [passing]
section
variable {prog : Program} {w : World} {A : Around}
/-- the turns of a generator expression, at the very around of its frame -/
def TurnsAt (prog : Program) (w : World) (A1 : Around) (cenv : Env) (x : PySem.Str) (elt : Expr) (fp wr : List Addr) (P : Nat → Value → Prop) (F : Nat → Value → Prop) (href : Heap) : Prop :=
  ∀ E' i v (s₂ : Shared) (mm : PySem.Str → Option Value), P i v → s₂.heap.Ns cenv.locals (fun y => if y = x then some v else mm y) → (∀ b ∈ fp, b ∉ wr → ∀ o, href.get? b = some o → s₂.heap.get? b = some o) →
    wpAny (model prog w) A1 (eval elt cenv) (fun y s₃ => F i y ∧ Keeps s₂ s₃) E' s₂
theorem over_loop {elt iter : Expr} {x : PySem.Str} {px : Pos} {scope : Scope} {pos : Pos} {it : Value} {cenv : Env} : A.over (.compLoop (.GeneratorExp elt [⟨.Name x px, iter, [], 0⟩] scope pos) 0 it .none cenv) [] = A.deeper cenv := rfl

theorem seg_loop {elt iter : Expr} {x : PySem.Str} {px : Pos} {scope : Scope} {pos : Pos} {I : Addr} {fp wr : List Addr} {n₀ : Nat} {P : Nat → Value → Prop} {St₀ : Nat → Heap → Prop} {cenv : Env}
    (hh : A.handled = none) (W₀ : ∀ A' : Around, A'.handled = none → Walks prog w A' I fp wr n₀ P St₀) (F : Nat → Value → Prop) (href : Heap)
    (hx : cenv.kindOf x = some .local) (hp : (cenv.scope.kind == .class || (cenv.scope.kind == .module && cenv.locals != cenv.globals)) = false)
    (hco : cenv.scope.isCoroutine = false) (hCf : cenv.locals ∉ fp) (hq : TurnsAt prog w (A.deeper cenv) cenv x elt fp wr P F href) :
    ∀ (k i : Nat) (s₀ s : Shared) (m : PySem.Str → Option Value), n₀ - i = k → i ≤ n₀ → St₀ i s.heap → s.heap.Ns cenv.locals m → GenSince cenv.locals wr s₀ s →
      (∀ b ∈ fp, b ∉ wr → ∀ o, href.get? b = some o → s.heap.get? b = some o) →
      Seg (model prog w) A (fun n s₀ r s₁ => r = .ok .next ∧ (n = 0 ∧ GenSince cenv.locals wr s₀ s₁)) (genProto cenv.locals fp wr allP n₀ F) (passing allP n₀ i).length s₀
        (.compLoop (.GeneratorExp elt [⟨.Name x px, iter, [], 0⟩] scope pos) 0 (.ref I) .none cenv)
        ((model prog w).den (.compLoop (.GeneratorExp elt [⟨.Name x px, iter, [], 0⟩] scope pos) 0 (.ref I) .none cenv)) [] s := by
  have hh' : (A.over (.compLoop (.GeneratorExp elt [⟨.Name x px, iter, [], 0⟩] scope pos) 0 (.ref I) .none cenv) []).handled = none := hh
  have hCw : cenv.locals ∉ wr := fun h => hCf ((W₀ A hh).sub _ h)
  intro k
  induction k with
  | zero =>
    intro i s₀ s m hk hi hst hn hsince hkp
    have hin : i = n₀ := by omega
    subst hin
    show Seg _ A _ _ _ s₀ _ ((compTurn (.GeneratorExp elt [⟨.Name x px, iter, [], 0⟩] scope pos) 0 (.ref I) .none cenv).onRaise (leaving cenv)) [] s
    rw [compTurn_gen, Sem.onRaise_eq_wrap]
    refine seg_bind_wrap (wpAny_standAt ?_)
    refine seg_bind_wrap ((W₀ _ hh').done s _ _ hst fun h' tk hk' => ?_)
    exact seg_end (.ok .next) ⟨rfl, by rw [passing_end]; rfl, hsince.step fun b o _ hw e => hk' b o hw e⟩
  | succ k ih =>
    intro i s₀ s m hk hi hst hn hsince hkp
    have hlt : i < n₀ := by omega
    show Seg _ A _ _ _ s₀ _ ((compTurn (.GeneratorExp elt [⟨.Name x px, iter, [], 0⟩] scope pos) 0 (.ref I) .none cenv).onRaise (leaving cenv)) [] s
    rw [compTurn_gen, Sem.onRaise_eq_wrap]
    refine seg_bind_wrap (wpAny_standAt ?_)
    refine seg_bind_wrap ((W₀ _ hh').item i s _ _ hlt hst fun v h₁ tk₁ hPv hst₁ hk₁ => ?_)
    refine seg_bind_wrap (wpAny_of_eq (rfl : letOwnedTupleGo (.Name x px) (.ref I) v = pure ()) ?_)
    refine seg_bind_wrap (wpAny_assign_Name (wpAny_storeName_local hx (hn.at' fun o e => hk₁ _ o hCw e) (fun h₂ hn₂ hs₂ => ?_) hp))
    have up₂ : ∀ b o, b ≠ cenv.locals → b ∉ wr → s.heap.get? b = some o → h₂.get? b = some o := fun b o hbC hbw e => hs₂.extBut b o hbC (hk₁ b o hbw e)
    have hst₂ : St₀ (i + 1) h₂ := (W₀ A hh).frame _ _ _ hst₁ fun b hb o e => hs₂.extBut b o (fun h => hCf (h ▸ hb)) e
    have hkp₂ : ∀ b ∈ fp, b ∉ wr → ∀ o, href.get? b = some o → h₂.get? b = some o := fun b hb hbw o e => up₂ b o (fun h => hCf (h ▸ hb)) hbw (hkp b hb hbw o e)
    have hsince₂ : GenSince cenv.locals wr s₀ { s with heap := h₂, toks := tk₁ + 1 } := hsince.step fun b o hbC hbw e => up₂ b o hbC hbw e
    refine seg_bind_wrap (wpAny_pure ?_)
    have hpz : allP i = true := rfl
    rw [passing_true hlt hpz, List.length_cons]
    simp only [if_true]
    have hy : ∀ v, yieldOut cenv v = yieldValue v := fun v => by simp only [yieldOut, hco, Bool.false_eq_true, if_false]
    simp only [hy]
    rw [Sem.bind_eq_wrap', Sem.bind_eq_wrap', Sem.wrap_wrap, Sem.wrap_wrap]
    refine seg_wrap (wpAny_mono (hq _ i v _ _ hPv hn₂ hkp₂) (fun y s₄ h₄ => ?_) fun _ _ e => e)
    obtain ⟨hFy, h₄, tk₄, rfl, hk₄⟩ := h₄
    refine seg_at (seg_yield rfl rfl rfl ⟨⟨i, passing_here hlt hpz, hFy⟩, hsince.step fun b o hbC hbw e => hk₄ b o (up₂ b o hbC hbw e), fun s'' hal => ?_⟩)
    refine seg_again rfl (ih (i + 1) s'' s'' _ (by omega) hlt ((W₀ A hh).frame _ _ _ hst₂ fun b hb o e => hal b (List.mem_cons_of_mem _ hb) o (hk₄ b o e))
      ((hn₂.keeps hk₄).at' fun o e => hal _ (List.mem_cons_self ..) o e) (GenSince.refl _ _ _) fun b hb hbw o e => hal b (List.mem_cons_of_mem _ hb) o (hk₄ b o (hkp₂ b hb hbw o e)))

theorem seg_start {elt iter : Expr} {x : PySem.Str} {px : Pos} {scope : Scope} {pos : Pos} {I : Addr} {fp wr : List Addr} {n₀ : Nat} {P : Nat → Value → Prop} {St₀ : Nat → Heap → Prop} {cenv : Env}
    (hh : A.handled = none) (W₀ : ∀ A' : Around, A'.handled = none → Walks prog w A' I fp wr n₀ P St₀) (F : Nat → Value → Prop) (href : Heap)
    (hx : cenv.kindOf x = some .local) (hp : (cenv.scope.kind == .class || (cenv.scope.kind == .module && cenv.locals != cenv.globals)) = false)
    (hco : cenv.scope.isCoroutine = false) (hCf : cenv.locals ∉ fp) (hq : TurnsAt prog w (A.deeper cenv) cenv x elt fp wr P F href)
    (s₀ s : Shared) (m : PySem.Str → Option Value) (hst : St₀ 0 s.heap) (hn : s.heap.Ns cenv.locals m) (hsince : GenSince cenv.locals wr s₀ s)
    (hkp : ∀ b ∈ fp, b ∉ wr → ∀ o, href.get? b = some o → s.heap.get? b = some o) :
    Seg (model prog w) A (fun n s₀ r s₁ => r = .ok .next ∧ (n = 0 ∧ GenSince cenv.locals wr s₀ s₁)) (genProto cenv.locals fp wr allP n₀ F) (passing allP n₀ 0).length s₀
      (.compStart (.GeneratorExp elt [⟨.Name x px, iter, [], 0⟩] scope pos) 0 (.ref I) .none cenv)
      ((model prog w).den (.compStart (.GeneratorExp elt [⟨.Name x px, iter, [], 0⟩] scope pos) 0 (.ref I) .none cenv)) [] s := by
  have hh' : (A.over (.compStart (.GeneratorExp elt [⟨.Name x px, iter, [], 0⟩] scope pos) 0 (.ref I) .none cenv) []).handled = none := hh
  have loop := seg_loop (iter := iter) (px := px) (scope := scope) (pos := pos) hh W₀ F href hx hp hco hCf hq n₀ 0 s₀ s m (Nat.sub_zero _) (Nat.zero_le _) hst hn hsince hkp
  show Seg _ A _ _ _ s₀ _ ((compStart (.GeneratorExp elt [⟨.Name x px, iter, [], 0⟩] scope pos) 0 (.ref I) .none cenv).onRaise (leaving cenv)) [] s
  unfold compStart
  rw [Sem.onRaise_eq_wrap]
  show Seg _ A _ _ _ s₀ _ ((ask >>= _).wrap _ _ _ _) [] s
  refine seg_bind_wrap (wpAny_askSetting ?_)
  split
  · exact seg_again rfl loop
  · first
      | exact seg_bind_wrap (wpAny_rule (seg_bind_wrap (wpAny_standAt (seg_bind_wrap ((W₀ _ hh').self 0 s _ _ hst (seg_again rfl loop))))))
      | (refine seg_bind_wrap (wpAny_rule ?_); show Seg _ A _ _ _ s₀ _ ((standAt iter.pos >>= _).wrap _ _ _ _) [] s; exact seg_bind_wrap (wpAny_standAt (seg_bind_wrap ((W₀ _ hh').self 0 s _ _ hst (seg_again rfl loop)))))

theorem gen_fresh {elt iter : Expr} {x : PySem.Str} {px : Pos} {scope : Scope} {pos : Pos} {I a : Addr} {g : Nat} {fp wr : List Addr} {n₀ : Nat} {P : Nat → Value → Prop} {St₀ : Nat → Heap → Prop} {cenv : Env}
    (hh : A.handled = none) (W₀ : ∀ A' : Around, A'.handled = none → Walks prog w A' I fp wr n₀ P St₀) (F : Nat → Value → Prop)
    (hx : cenv.kindOf x = some .local) (hp : (cenv.scope.kind == .class || (cenv.scope.kind == .module && cenv.locals != cenv.globals)) = false)
    (hco : cenv.scope.isCoroutine = false) (hCf : cenv.locals ∉ fp) {s : Shared} {m : PySem.Str → Option Value} (hq : TurnsAt prog w (A.in1.deeper cenv) cenv x elt fp wr P F s.heap)
    (hg : s.heap.IsGen a g) (hgs : s.gens[g]? = some (.fresh (.compStart (.GeneratorExp elt [⟨.Name x px, iter, [], 0⟩] scope pos) 0 (.ref I) .none cenv)))
    (hst : St₀ 0 s.heap) (hn : s.heap.Ns cenv.locals m) (hl : s.heap.NoLimit) : GenAt prog w A a g cenv.locals fp wr allP n₀ F 0 s :=
  ⟨hg, hl, _, hgs, fun s'' hal => ⟨rfl, seg_start (A := A.in1) hh W₀ F s.heap hx hp hco hCf hq s'' s'' m ((W₀ A hh).frame _ _ _ hst fun b hb o e => hal b (List.mem_cons_of_mem _ hb) o e)
    (hn.at' fun o e => hal _ (List.mem_cons_self ..) o e) (GenSince.refl _ _ _) fun b hb _ o e => hal b (List.mem_cons_of_mem _ hb) o e⟩⟩
end
end
section
set_option maxHeartbeats 800000
/-- the table of the code objects made, as it may stand -/
def TabOk (op : Obj) : Prop := ∃ ps, op = tabObj ps ∧ TriplesOk ps.toList
def codeTab (K : Frag) (c P : Addr) : Bool := match K.lookup c with
  | some ⟨.type "code", _, .fields vs, _⟩ => (match vs.getD 11 .none with | .ref p => p == P | _ => false) && (match vs.getD 18 .none with | .str .. => true | _ => false) && (match vs.getD 7 .none with | .int .. => true | _ => false) && (match vs.getD 9 .none with | .bool .. => true | _ => false) && (match vs.getD 10 .none with | .int .. => true | _ => false) && !(c == P)
  | _ => false
theorem isCode_of {K : Frag} {h₀ h : Heap} {c P : Addr} {op : Obj} (X : K.In h₀) (k : ∀ b o, h₀.get? b = some o → h.get? b = some o) (hP : h.get? P = some op) (T : TabOk op) (e : codeTab K c P = true) : ∃ ps, h.IsCode c P ps ∧ h.TableAt c P ps := by
  obtain ⟨ps, rfl, ht⟩ := T
  unfold codeTab at e
  split at e
  · rename_i d' vs sl ho
    simp only [Bool.and_eq_true, Bool.not_eq_true', beq_eq_false_iff_ne] at e
    obtain ⟨⟨⟨⟨⟨e1, e2⟩, e3⟩, e4⟩, e5⟩, e6⟩ := e
    have hc := k _ _ (X _ _ ho)
    cases q1 : vs.getD 11 .none <;> rw [q1] at e1 <;> first | contradiction | skip
    cases q2 : vs.getD 18 .none <;> rw [q2] at e2 <;> first | contradiction | skip
    cases q3 : vs.getD 7 .none <;> rw [q3] at e3 <;> first | contradiction | skip
    cases q4 : vs.getD 9 .none <;> rw [q4] at e4 <;> first | contradiction | skip
    cases q5 : vs.getD 10 .none <;> rw [q5] at e5 <;> first | contradiction | skip
    have e1' := eq_of_beq e1
    subst e1'
    have q1' : vs[11]? = some (vs.getD 11 .none) := by
      rw [Array.getD_eq_getD_getElem?] at q1 ⊢
      cases z : vs[11]? with
      | none => rw [z] at q1; cases q1
      | some x => rfl
    rw [q1] at q1'
    exact ⟨ps, ⟨_, vs, _, _, _, _, _, _, _, _, hc, rfl, q1, q2, q3, q4, q5, hP, rfl, ht, e6⟩, ⟨⟨_, vs, hc, rfl, rfl, q1'⟩, hP⟩⟩
  · contradiction
theorem genexpr_T {M : Model} {A : Around} {E : Value → Shared → Prop} {s : Shared} {env : Env} {c P : Addr} {ps : Array Value} {pos : Pos} {qualname : PySem.Str} {scope : Scope} {Q : Value → Shared → Prop} (hc : env.code = .ref c) (hok : s.heap.IsCode c P ps) (htab : s.heap.TableAt c P ps)
    (hQ : ∀ code h' tk op', Heap.ExtBut P s.heap h' → h'.get? P = some op' → TabOk op' → Q code { s with heap := h', toks := tk }) : wpAny M A (genexprCode env pos qualname scope) Q E s := by
  have trip : ∀ {h : Heap} {ps : Array Value}, h.IsCode c P ps → h.TableAt c P ps → TriplesOk ps.toList := fun x y => by
    obtain ⟨_, _, _, _, _, _, _, _, _, op, _, _, _, _, _, _, _, b, d, t, _⟩ := x
    exact t
  cases hnf : codeAmong pos ps.toList with
  | none => exact wpAny_genexprCodeX hc hok htab hnf fun c' h' tk hx _ _ hok' _ ht _ => hQ _ _ _ _ hx ht.2 ⟨_, rfl, trip hok' ht⟩
  | some c' => exact wpAny_genexprCode_hit hc hok hnf (hQ c' s.heap s.toks _ (fun _ _ _ e => e) htab.2 ⟨_, rfl, trip hok htab⟩)
def GenRdy (prog : Program) (w : World) (A : Around) (h₀ : Heap) (L : Addr) (news : List (Addr × Obj)) (a : Addr) (n : Nat) (F : Nat → Value → Prop) (s : Shared) : Prop :=
  ∃ fp wr G St, WalksS prog w A a fp wr G n F St ∧ St 0 s ∧ (∀ i s, St i s → s.TypeIs (.ref a) "generator") ∧ (∀ b ∈ fp, b < s.heap.objs.size) ∧ a ∈ fp ∧ L ∉ wr ∧ (∀ b ∈ wr, h₀.get? b = none) ∧ (∀ p ∈ news, p.1 ∉ wr) ∧ ∀ a b, G a b → AllBare a → AllBare b
theorem walksS_range {prog : Program} {w : World} {A : Around} {I : Addr} {fp wr : List Addr} {G : Array GenState → Array GenState → Prop} {n : Nat} {F : Nat → Value → Prop} {St : Nat → Shared → Prop}
    (W : WalksS prog w A I fp wr G (passing allP n 0).length (fun j y => ∃ i, (passing allP n 0)[j]? = some i ∧ F i y) St) : WalksS prog w A I fp wr G n F St := by
  rw [passing_all, List.length_range] at W
  refine { W with item := fun i s Q E hi st hQ => W.item i s Q E hi st fun v s' hP => hQ v s' ?_ }
  obtain ⟨j, hj, hF⟩ := hP
  have hj' : i < (List.range n).length := by rw [List.length_range]; exact hi
  rw [List.getElem?_eq_getElem hj', List.getElem_range] at hj
  cases hj
  exact hF
section
variable {prog : Program} {w : World} {A A₀ : Around} {E : Value → Shared → Prop} {s : Shared} {base h₀ : Heap} {L : Addr} {m : PySem.Str → Option Value} {env : Env} {outer : List Env} {K : Frag} {p : Program} {loose : List PySem.Str} {mg mb : PySem.Str → Option Value}
def GenSrc (prog : Program) (w : World) (A : Around) (base h₀ : Heap) (L : Addr) (m : PySem.Str → Option Value) (env : Env) (outer : List Env) (K : Frag) (p : Program) (loose : List PySem.Str) (mg mb : PySem.Str → Option Value) (elt : Expr) (x : PySem.Str) (scope : Scope) (cl : List (PySem.Str × Addr)) (Q : Value → Shared → Prop) (xv : Value) (s₁ : Shared) : Prop :=
  ∃ ax vs news rest c P op A₀ bm ob, ∃ F : Nat → Value → Prop, xv = .ref ax ∧ Below A₀ base outer h₀ ∧ Fr h₀ L s₁.heap m ∧ News h₀ L s₁.heap news ∧ (ax, tup vs) ∈ rest ∧ (P, op) ∈ news ∧ TabOk op ∧ K.In h₀ ∧ codeTab K c P = true ∧ env.code = .ref c ∧ TopRead p loose mg mb h₀ ∧ BMod h₀ env.globals mg bm ob ∧
    (∀ q ∈ rest, q ∈ news) ∧ (∀ q ∈ rest, q.1 ≠ P) ∧
    (∀ g C code s₂ v (mm : PySem.Str → Option Value) E' i, vs[i]? = some v → Fr g C s₂.heap (fun y => if y = x then some v else mm y) → News g C s₂.heap rest → K.In g → TopRead p loose mg mb g → Below A base (env :: outer) g →
      wpAny (model prog w) (A.in1.in1.in1.in1.deeper (genEnv scope cl C code builtinsNs env)) (eval elt (genEnv scope cl C code builtinsNs env)) (fun y s₃ => F i y ∧ Keeps s₂ s₃) E' s₂) ∧
    ∀ a op' h' tk' g', TabOk op' → Fr h₀ L h' m → News h₀ L h' ((P, op') :: rest) → (∀ b o, b ≠ P → s₁.heap.get? b = some o → h'.get? b = some o) → GenRdy prog w A.in1.in1.in1 h₀ L ((P, op') :: rest) a vs.length F { s₁ with heap := h', toks := tk', gens := g' } → (AllBare s₁.gens → AllBare g') → Q (.ref a) { s₁ with heap := h', toks := tk', gens := g' }

theorem gen_K {elt iter : Expr} {x : PySem.Str} {px : Pos} {scope : Scope} {cl : List (PySem.Str × Addr)} {pos : Pos} {Q : Value → Shared → Prop}
    (hA : A.frames = some (env :: outer)) (hh : A.handled = none) (hf : env.frame = some L) (hke : env.scope.kind = .function)
    (hco : scope.isCoroutine = false) (hclos : closureFor scope env = pure cl) (hcell : ∀ y ∈ scope.names, y.2 ≠ .cell) (h0 : scope.names.lookup (".0" : PySem.Str) = some NameKind.local)
    (hx : scope.names.lookup x = some .local) (hkind : scope.kind = .function) (hroom : A.depth < recursionLimit)
    (h : wpAny (model prog w) A (eval iter env) (GenSrc prog w A base h₀ L m env outer K p loose mg mb elt x scope cl Q) E s)
    (hs : ∀ x, genFold iter env x = pure x) :
    wpAny (model prog w) A (eval (.GeneratorExp elt [⟨.Name x px, iter, [], 0⟩] scope pos) env) Q E s := by
  refine wpAny_GeneratorExp_make hco hclos hcell h0 hkind hroom (wpAny_mono h (fun xv s₁ h₁ => ?_) fun _ _ e => e) hs
  obtain ⟨ax, vs, news, rest, c, P, op, A₀, bm, ob, F, rfl, B, F₁, N₁, hax, hP, hT, X, hct, hcode, T, BM, hr, hrP, turns, fin⟩ := h₁
  have hl : s₁.heap.IsTuple ax vs.toArray := ⟨_, (N₁ _ (hr _ hax)).1, rfl, 0, rfl⟩
  refine wpAny_pyIter_tuple hl ?_
  have up : ∀ b o, s₁.heap.get? b = some o → (s₁.heap.push { cls := .type "tuple_iterator", data := .fields #[.ref ax, .int 0 0] }).get? b = some o := fun b o e => Heap.get?_push_of_some _ e
  have F₂ := F₁.keeps up
  have N₂ := N₁.grown up
  have hz2 : (s₁.heap.push { cls := .type "tuple_iterator", data := .fields #[.ref ax, .int 0 0] }).objs.size = s₁.heap.objs.size + 1 := Heap.size_push ..
  have hI2 : (s₁.heap.push { cls := .type "tuple_iterator", data := .fields #[.ref ax, .int 0 0] }).IsTupleIter s₁.heap.objs.size ax 0 := ⟨_, Heap.get?_push_size _ rfl, rfl, rfl⟩
  generalize (s₁.heap.push { cls := .type "tuple_iterator", data := .fields #[.ref ax, .int 0 0] }) = H₂ at up F₂ N₂ hz2 hI2 ⊢
  refine ⟨T.nolimit.keeps F₂.keep, ?_⟩
  obtain ⟨ps, hc, htab⟩ := isCode_of (h := H₂) X F₂.keep (N₂ _ hP).1 hT hct
  refine genexpr_T hcode hc htab fun code H₃ tk₃ op' hx₃ hP' hT' => ?_
  have nP : ∀ b o, h₀.get? b = some o → b ≠ P := fun b o e q => by rw [q, (N₁ _ hP).2.2] at e; cases e
  have k₃ : ∀ b o, h₀.get? b = some o → H₃.get? b = some o := fun b o e => hx₃ _ _ (nP _ _ e) (F₂.keep _ _ e)
  refine wpAny_builtinsFor (BM.ns.keeps k₃) BM.name BM.ne (k₃ _ _ BM.obj) BM.cls BM.dict BM.data ?_
  intro H₄ hn₄ hs₄
  have hz₄ : H₄.objs.size = H₃.objs.size + 1 := by rw [hs₄.1, Heap.size_push]
  have k₄ : ∀ b o, H₃.get? b = some o → H₄.get? b = some o := fun b o e => hs₄.extBut b o (Nat.ne_of_lt (Heap.lt_size e)) (Heap.get?_push_of_some _ e)
  have F₃ : Fr h₀ L H₃ m := ⟨F₂.ns.at' fun o e => hx₃ _ _ (Ne.symm (N₁ _ hP).2.1) e, k₃, F₂.above⟩
  have ltI : ∀ q ∈ news, q.1 < s₁.heap.objs.size := fun q hq => Heap.lt_size (N₁ q hq).1
  have hPI : s₁.heap.objs.size ≠ P := Nat.ne_of_gt (ltI _ hP)
  obtain ⟨oI, hoI, cI, dI⟩ := hI2
  have hoI₃ := hx₃ _ _ hPI hoI
  have hI0 : h₀.get? s₁.heap.objs.size = none := by
    cases q : h₀.get? s₁.heap.objs.size with
    | none => rfl
    | some o => exact absurd (Heap.lt_size (F₁.keep _ _ q)) (Nat.lt_irrefl _)
  have hIL : s₁.heap.objs.size ≠ L := Nat.ne_of_gt F₁.ns.lt
  have Nr : News h₀ L H₃ rest := fun q hq => ⟨hx₃ _ _ (hrP q hq) (N₂ q (hr q hq)).1, (N₁ q (hr q hq)).2⟩
  have NI : News h₀ L H₃ ((s₁.heap.objs.size, oI) :: rest) := fun q hq => by
    rcases List.mem_cons.mp hq with rfl | hq
    · exact ⟨hoI₃, hIL, hI0⟩
    · exact Nr q hq
  have NP : News h₀ L H₃ ((P, op') :: rest) := fun q hq => by
    rcases List.mem_cons.mp hq with rfl | hq
    · exact ⟨hP', (N₁ _ hP).2⟩
    · exact Nr q hq
  obtain ⟨FG, BG, st, _⟩ := groundX (s := { s₁ with heap := H₃ }) (R := fun _ _ => True) B F₃ NI hA hf hke
  have hclt : s₁.heap.objs.size < H₃.objs.size := Heap.lt_size hoI₃
  generalize hg₅ : (Obj.mk (Value.type "generator") none (Data.fields #[.int s₁.gens.size 0, .str "<genexpr>" (tk₃ + 1), .str (env.qual ++ "<genexpr>") (tk₃ + 1 + 1)]) #[] : Obj) = gO
  have hz₅ : (H₄.push gO).objs.size = H₄.objs.size + 1 := Heap.size_push ..
  have k₅ : ∀ b o, H₃.get? b = some o → (H₄.push gO).get? b = some o := fun b o e => Heap.get?_push_of_some _ (k₄ b o e)
  have hgen : (H₄.push gO).get? H₄.objs.size = some gO := Heap.get?_push_size _ (by rw [← hg₅]; rfl)
  have isg : (H₄.push gO).IsGen H₄.objs.size s₁.gens.size := ⟨gO, _, _, hgen, by rw [← hg₅], by rw [← hg₅], by rw [← hg₅]⟩
  have hhA : A.in1.in1.in1.handled = none := hh
  have hsub : ∀ b ∈ [s₁.heap.objs.size], b ∈ List.range H₃.objs.size := fun b hb => by rw [List.mem_singleton.mp hb]; exact List.mem_range.mpr hclt
  have haxI : ax ≠ s₁.heap.objs.size := Nat.ne_of_lt (ltI _ (hr _ hax))
  have hax₃ : H₃.IsTuple ax vs.toArray := ⟨_, (Nr _ hax).1, rfl, 0, rfl⟩
  have W₀ : ∀ A' : Around, A'.handled = none → Walks prog w A' s₁.heap.objs.size (List.range H₃.objs.size) [s₁.heap.objs.size] vs.toArray.size (fun i v => vs.toArray[i]? = some v) (fun i h => h.IsTupleIter s₁.heap.objs.size ax i ∧ h.IsTuple ax vs.toArray) :=
    fun A' hA' => (Walks.tuple hA' _ _ haxI vs.toArray).mono_fp fun b hb => by
      rcases List.mem_cons.mp hb with rfl | hb
      · exact List.mem_range.mpr hclt
      · rw [List.mem_singleton.mp hb]; exact List.mem_range.mpr (Heap.lt_size (Nr _ hax).1)
  have hnl : H₃.NoLimit := T.nolimit.keeps k₃
  obtain ⟨mcs, hns₀, _⟩ := id T.nolimit
  have hcs₀ : ∃ o, h₀.get? cStatics = some o := let ⟨o, _, _, ho, _⟩ := hns₀; ⟨o, ho⟩
  obtain ⟨ocs, hcs₀⟩ := hcs₀
  have hcs : cStatics < H₃.objs.size := Heap.lt_size (k₃ _ _ hcs₀)
  have hcw : cStatics ∉ [s₁.heap.objs.size] := fun q => by rw [List.mem_singleton.mp q, hI0] at hcs₀; cases hcs₀
  have turnsA : TurnsAt prog w (A.in1.in1.in1.in1.deeper (genEnv scope cl H₃.objs.size code builtinsNs env)) (genEnv scope cl H₃.objs.size code builtinsNs env) x elt (List.range H₃.objs.size) [s₁.heap.objs.size] (fun i v => vs.toArray[i]? = some v) F (H₄.push gO) := by
    intro E' i v s₂ mm hv hns hkp
    have kg : ∀ b o, (hideAll H₃ (((s₁.heap.objs.size, oI) :: rest).map (·.1))).get? b = some o → s₂.heap.get? b = some o := fun b o e => by
      have e' := of_hideAll _ e
      refine hkp b (List.mem_range.mpr (Heap.lt_size e')) (fun q => ?_) o (k₅ _ _ e')
      rw [hideAll_none _ (by rw [List.mem_singleton.mp q]; exact .head _)] at e
      cases e
    refine turns _ H₃.objs.size code s₂ v mm E' i (by simpa using hv) ⟨hns, kg, Nat.le_of_eq (hideAll_size _ _)⟩ (fun q hq => ?_) (X.keeps st) (T.keeps st) BG
    have ltq : q.1 < H₃.objs.size := Heap.lt_size (Nr q hq).1
    exact ⟨hkp _ (List.mem_range.mpr ltq) (fun e => Nat.lt_irrefl _ (Nat.lt_of_lt_of_eq (ltI q (hr q hq)) (List.mem_singleton.mp e).symm)) _ (k₅ _ _ (Nr q hq).1), Nat.ne_of_lt ltq, hideAll_none _ (List.mem_map_of_mem (.tail _ hq))⟩
  have fresh := gen_fresh (prog := prog) (w := w) (A := A.in1.in1.in1) (elt := elt) (iter := iter) (x := x) (px := px) (scope := scope) (pos := pos) (I := s₁.heap.objs.size) (a := H₄.objs.size) (g := s₁.gens.size)
    (cenv := genEnv scope cl H₃.objs.size code builtinsNs env) (s := { s₁ with heap := H₄.push gO, toks := tk₃ + 1 + 1 + 1, gens := s₁.gens.push (.fresh (.compStart (.GeneratorExp elt [⟨.Name x px, iter, [], 0⟩] scope pos) 0 (.ref s₁.heap.objs.size) .none (genEnv scope cl H₃.objs.size code builtinsNs env))) })
    (m := fun y => if y = ".0" then some (.ref s₁.heap.objs.size) else none)
    hhA W₀ F hx (by simp [genEnv, hkind]) hco (fun hm => Nat.lt_irrefl _ (List.mem_range.mp hm)) turnsA isg (Array.getElem?_push_size ..) ⟨⟨oI, k₅ _ _ hoI₃, cI, dI⟩, ⟨_, k₅ _ _ (Nr _ hax).1, rfl, 0, rfl⟩⟩ (hn₄.push _) (hnl.keeps k₅)
  have haC : H₄.objs.size ≠ H₃.objs.size := by rw [hz₄]; exact Nat.succ_ne_self _
  have haf : H₄.objs.size ∉ List.range H₃.objs.size := fun hm => by have := List.mem_range.mp hm; rw [hz₄] at this; exact absurd this (by omega)
  have WS := WalksS.genexpQ (prog := prog) (w := w) (A := A.in1.in1.in1) hhA H₄.objs.size s₁.gens.size H₃.objs.size (List.range H₃.objs.size) [s₁.heap.objs.size] allP vs.toArray.size F haC haf hsub hroom (List.mem_range.mpr hcs) (Nat.ne_of_lt hcs) hcw
  have WS' := walksS_range WS
  have e0 : vs.toArray.size = vs.length := List.size_toArray
  rw [e0] at WS' fresh
  refine fin H₄.objs.size op' (H₄.push gO) _ _ hT' ⟨F₃.ns.at' fun o e => k₅ _ _ e, fun b o e => k₅ _ _ (k₃ b o e), F₃.above⟩ (NP.grown k₅) (fun b o n e => k₅ _ _ (hx₃ _ _ n (up _ _ e))) ⟨_, _, _, _, WS', fresh, fun i s st => st.1.typeIs, fun b hb => ?_, .head _, ?_, fun b hb => ?_, fun q hq => ?_, fun _ _ x ha => GenOnlyQ.bare x ha⟩ fun ha => AllBare.push ha rfl
  · show b < (H₄.push gO).objs.size
    rw [hz₅, hz₄]
    rcases List.mem_cons.mp hb with rfl | hb
    · rw [hz₄]; exact Nat.lt_succ_self _
    · rcases List.mem_cons.mp hb with rfl | hb
      · exact Nat.lt_succ_of_lt (Nat.lt_succ_self _)
      · exact Nat.lt_succ_of_lt (Nat.lt_succ_of_lt (List.mem_range.mp hb))
  · intro q
    rcases List.mem_cons.mp q with q | q
    · exact Nat.lt_irrefl _ (Nat.lt_of_lt_of_eq F₃.ns.lt q.symm)
    · exact hIL (List.mem_singleton.mp q).symm
  · rcases List.mem_cons.mp hb with rfl | hb
    · cases q : h₀.get? H₃.objs.size with
      | none => rfl
      | some o => exact absurd (Heap.lt_size (k₃ _ _ q)) (Nat.lt_irrefl _)
    · rw [List.mem_singleton.mp hb]; exact hI0
  · have lt3 := Heap.lt_size (NP q hq).1
    intro z
    rcases List.mem_cons.mp z with z | z
    · exact Nat.lt_irrefl _ (Nat.lt_of_lt_of_eq lt3 z.symm)
    · rcases List.mem_cons.mp hq with rfl | hq
      · exact hPI (List.mem_singleton.mp z).symm
      · exact Nat.lt_irrefl _ (Nat.lt_of_lt_of_eq (ltI q (hr q hq)) (List.mem_singleton.mp z).symm)
theorem call_tuple_gen_K {a : Addr} {n : Nat} {P : Nat → Value → Prop} {news : List (Addr × Obj)} {Q : Value → Shared → Prop} (F : Fr h₀ L s.heap m) (N : News h₀ L s.heap news) (R : GenRdy prog w A.in1.in1.in1 h₀ L news a n P s) (hn : n ≤ sizeLine)
    (h : ∀ D ys h' tk' g', ys.length = n → (∀ j v, ys[j]? = some v → P j v) → Fr h₀ L h' m → News h₀ L h' ((D, tup ys) :: news) → (∀ p ∈ news, p.1 < D) → (AllBare s.gens → AllBare g') → Q (.ref D) { s with heap := h', toks := tk', gens := g' }) :
    wpAny (model prog w) A (call (.type "tuple") [.ref a]) Q E s := by
  obtain ⟨fp, wr, G, St, W, st, hT, hfp, ha, nL, n0, nn, hGb⟩ := R
  refine call_tuple_gen (hsz := hn) W hT st hfp ha fun s' acc hm' hacc => ?_
  obtain ⟨h', g', d', tk', os'⟩ := s'
  obtain ⟨k, hG, rfl, rfl, _⟩ := hm'
  have F' : Fr h₀ L h' m := ⟨F.ns.at' fun o e => k _ o nL e, fun b o e => k b o (fun q => by rw [n0 _ q] at e; cases e) (F.keep b o e), F.above⟩
  have N' : News h₀ L h' news := fun p hp => ⟨k _ _ (nn p hp) (N p hp).1, (N p hp).2⟩
  refine h h'.objs.size acc.toList _ tk' g' (by simpa using hacc.1) (fun j v e => hacc.2 j v (by simpa using e)) (F'.push _) ?_ (fun p hp => Heap.lt_size (N' p hp).1) (fun z => hGb _ _ hG z)
  have e : acc.toList.toArray = acc := by simp
  have := News.push F' N' { cls := .type "tuple", data := .seq acc } rfl
  unfold tup
  rw [e]
  exact this
end
end
section
set_option maxHeartbeats 800000
section
variable {k : Nat} {w : World} {f : Addr} {vs : List Value} {given : List (Addr × Obj)} {R : List Value → Prop} {mg mb : PySem.Str → Option Value} {dp un : Nat} {gd : Option (List Code)} {env : Env} {outer : List Env} {A₀ : Around} {base h₀ : Heap} {L : Addr} {m : PySem.Str → Option Value} {s : Shared} {news rest : List (Addr × Obj)} {Q E : Value → Shared → Prop}
/-- a contract of a def that may make code objects of generator expressions: the table at 56 changes -/
def ConG (k : Nat) (w : World) (f : Addr) (vs : List Value) (R : List Value → Prop) : Prop :=
  ∀ (mg mb : PySem.Str → Option Value) (dp un : Nat) (gd : Option (List Code)) (env : Env) (outer : List Env) (A₀ : Around) (base h₀ : Heap) (L : Addr) (m : PySem.Str → Option Value) (s : Shared) (Q E : Value → Shared → Prop) (op : Obj) (bm : Addr) (ob : Obj),
    Below A₀ base outer h₀ → Fr h₀ L s.heap m → (hd.heap_1 w.params).In h₀ → News h₀ L s.heap [(56, op)] → TabOk op → BMod h₀ mainGlobals mg bm ob → TopRead hd.view_1 LO mg mb h₀ → env.frame = some L → env.scope.kind = .function → dp + k < recursionLimit → un + 20 * k < cLine →
    (∀ D rs op' h' tk' g', R rs → TabOk op' → (∀ b o, b ≠ 56 → s.heap.get? b = some o → h'.get? b = some o) → h'.get? 56 = some op' → h'.get? D = some (tup rs) → s.heap.objs.size ≤ D → (AllBare s.gens → AllBare g') → Q (.ref D) { s with heap := h', toks := tk', gens := g' }) →
    wpAny (model PySem.Challenge.rw_tv0008_01.row.prog w) (genTop dp un gd env outer) (call (.ref f) vs) Q E s
theorem conG_of
    (H : ∀ (mg mb : PySem.Str → Option Value) (dp un : Nat) (gd : Option (List Code)) (env : Env) (outer : List Env) (A₀ : Around) (base h₀ : Heap) (L : Addr) (m : PySem.Str → Option Value) (s : Shared) (Q E : Value → Shared → Prop) (op : Obj) (bm : Addr) (ob : Obj),
      Below A₀ base outer h₀ → Fr h₀ L s.heap m → (hd.heap_1 w.params).In h₀ → News h₀ L s.heap [(56, op)] → TabOk op → (∀ g, TopRead hd.view_1 LO mg mb g → Kept s.heap [(56, op)] g → BMod g mainGlobals mg bm ob) → TopRead hd.view_1 LO mg mb h₀ → env.frame = some L → env.scope.kind = .function → dp + k < recursionLimit → un + 20 * k < cLine →
      (∀ D rs op' g L' m' h' tk' g', R rs → TabOk op' → Fr h₀ L h' m → News h₀ L h' [(D, tup rs), (56, op')] → Kept s.heap [(56, op)] g → Fr g L' h' m' → s.heap.objs.size ≤ L' → L' < D → (AllBare s.gens → AllBare g') → Q (.ref D) { s with heap := h', toks := tk', gens := g' }) →
      wpAny (model PySem.Challenge.rw_tv0008_01.row.prog w) (genTop dp un gd env outer) (call (.ref f) vs) Q E s) : ConG k w f vs R := by
  intro mg mb dp un gd env outer A₀ base h₀ L m s Q E op bm ob B F X N TO BM T hf hk hd hu ret
  refine H mg mb dp un gd env outer A₀ base h₀ L m s Q E op bm ob B F X N TO (fun g Tg kg => ?_) T hf hk hd hu ?_
  · refine ⟨Tg.g, BM.name, BM.ne, kg _ _ (F.keep _ _ BM.obj) (fun q => ?_), BM.cls, BM.dict, BM.data⟩
    have e := BM.obj
    rw [List.mem_singleton.mp q, (N _ (.head _)).2.2] at e
    cases e
  · intro D rs op' g L' m' h' tk' g' hR hT _ kN st F' z1 z2 hb
    refine ret D rs op' h' tk' g' hR hT (fun b o n e => F'.keep _ _ (st b o e fun q => n (List.mem_singleton.mp q))) (kN _ (.tail _ (.head _))).1 (kN _ (.head _)).1 (Nat.le_trans z1 (Nat.le_of_lt z2)) hb
end
inductive SplitL {α : Type} : List α → List α → α → Prop
  | last {e : α} : SplitL [e] [] e
  | cons {a e : α} {l r : List α} : SplitL l r e → SplitL (a :: l) (a :: r) e
theorem SplitL.sub {α : Type} {l r : List α} {e : α} (h : SplitL l r e) : (∀ q ∈ r, q ∈ l) ∧ e ∈ l := by
  induction h with
  | last => exact ⟨(fun _ h => nomatch h), .head _⟩
  | cons _ ih => 
    refine ⟨fun q hq => ?_, .tail _ ih.2⟩
    rcases List.mem_cons.mp hq with rfl | hq
    · exact .head _
    · exact .tail _ (ih.1 q hq)
section
variable {prog : Program} {w : World} {A A₀ : Around} {E : Value → Shared → Prop} {s : Shared} {base h₀ : Heap} {L : Addr} {m : PySem.Str → Option Value} {env : Env} {outer : List Env} {K : Frag} {p : Program} {loose : List PySem.Str} {mg mb : PySem.Str → Option Value}
theorem gen_KK {elt iter : Expr} {x : PySem.Str} {px : Pos} {scope : Scope} {cl : List (PySem.Str × Addr)} {pos : Pos} {Q : Value → Shared → Prop}
    (_B : Below A₀ base outer h₀) (_F : Fr h₀ L s.heap m) (_X : K.In h₀) (_T : TopRead p loose mg mb h₀)
    (hA : A.frames = some (env :: outer)) (hh : A.handled = none) (hf : env.frame = some L) (hke : env.scope.kind = .function)
    (hco : scope.isCoroutine = false) (hclos : closureFor scope env = pure cl) (hcell : ∀ y ∈ scope.names, y.2 ≠ .cell) (h0 : scope.names.lookup (".0" : PySem.Str) = some NameKind.local)
    (hx : scope.names.lookup x = some .local) (hkind : scope.kind = .function) (hroom : A.depth < recursionLimit) (hs : ∀ x, genFold iter env x = pure x)
    (h : wpAny (model prog w) A (eval iter env) (GenSrc prog w A base h₀ L m env outer K p loose mg mb elt x scope cl Q) E s) :
    wpAny (model prog w) A (eval (.GeneratorExp elt [⟨.Name x px, iter, [], 0⟩] scope pos) env) Q E s := gen_K hA hh hf hke hco hclos hcell h0 hx hkind hroom h hs
theorem GenSrc.ledger {elt : Expr} {x : PySem.Str} {scope : Scope} {cl : List (PySem.Str × Addr)} {Q : Value → Shared → Prop} {s₁ : Shared} {ax c P : Addr} {vs : List Value} {news rest : List (Addr × Obj)} {op : Obj} {bm : Addr} {ob : Obj} (F : Nat → Value → Prop) (B : Below A₀ base outer h₀) (F₁ : Fr h₀ L s₁.heap m) (N₁ : News h₀ L s₁.heap news)
    (hS : SplitL news rest (P, op)) (hax : (ax, tup vs) ∈ rest) (hT : TabOk op) (X : K.In h₀) (hcode : env.code = .ref c) (hct : codeTab K c P = true) (T : TopRead p loose mg mb h₀) (BM : BMod h₀ env.globals mg bm ob) (hrP : ∀ q ∈ rest, q.1 ≠ P)
    (turns : ∀ g C code s₂ v (mm : PySem.Str → Option Value) E' i, vs[i]? = some v → Fr g C s₂.heap (fun y => if y = x then some v else mm y) → News g C s₂.heap rest → K.In g → TopRead p loose mg mb g → Below A base (env :: outer) g →
      wpAny (model prog w) (A.in1.in1.in1.in1.deeper (genEnv scope cl C code builtinsNs env)) (eval elt (genEnv scope cl C code builtinsNs env)) (fun y s₃ => F i y ∧ Keeps s₂ s₃) E' s₂)
    (fin : ∀ a op' h' tk' g', TabOk op' → Fr h₀ L h' m → News h₀ L h' ((P, op') :: rest) → (∀ b o, b ≠ P → s₁.heap.get? b = some o → h'.get? b = some o) → GenRdy prog w A.in1.in1.in1 h₀ L ((P, op') :: rest) a vs.length F { s₁ with heap := h', toks := tk', gens := g' } → (AllBare s₁.gens → AllBare g') → Q (.ref a) { s₁ with heap := h', toks := tk', gens := g' }) :
    GenSrc prog w A base h₀ L m env outer K p loose mg mb elt x scope cl Q (.ref ax) s₁ :=
  ⟨ax, vs, news, rest, c, P, op, A₀, bm, ob, F, rfl, B, F₁, N₁, hax, hS.sub.2, hT, X, hct, hcode, T, BM, hS.sub.1, hrP, turns, fin⟩
theorem gname_F {x : PySem.Str} {pos : Pos} {c : Addr} {v : Value} {scope : Scope} {cl : List (PySem.Str × Addr)} {C : Addr} {code : Value} {news : List (Addr × Obj)} {o : Obj} {Q : Value → Shared → Prop} (N : News h₀ L s.heap news) (hc : cl.lookup x = some c) (hm : (c, o) ∈ news) (hd : o.data = .cell (some v)) (h : Q v s)
    (hk : scope.kind = .function) (hl : (genEnv scope cl C code builtinsNs env).kindOf x = some .free) (hb : (x == ("__debug__" : PySem.Str)) = false)
    (hn : (x == ("__classdict__" : PySem.Str)) = false) :
    wpAny (model prog w) A (eval (.Name x pos) (genEnv scope cl C code builtinsNs env)) Q E s := ldFreeG hc ⟨o, N.get hm, hd⟩ h hk hl hb hn
end
theorem con_useK {k : Nat} {w : World} {f : Addr} {vs : List Value} {given : List (Addr × Obj)} {R : Value → Prop} {mg mb : PySem.Str → Option Value} {dp un : Nat} {gd : Option (List Code)} {env : Env} {outer : List Env} {A₀ : Around} {base h₀ : Heap} {L : Addr} {m : PySem.Str → Option Value} {s : Shared} {news : List (Addr × Obj)} {Q E : Value → Shared → Prop}
    (B : Below A₀ base outer h₀) (F : Fr h₀ L s.heap m) (X : (hd.heap_1 w.params).In h₀) (N : News h₀ L s.heap news) (T : TopRead hd.view_1 LO mg mb h₀) (hk : env.scope.kind = .function) (C : Con k w f vs given R) (hs : ∀ p ∈ given, p ∈ news) (hd : dp + k < recursionLimit) (hu : un + 20 * k < cLine)
    (h : ∀ v h' tk', R v → Fr h₀ L h' m → News h₀ L h' news → (∀ b o, s.heap.get? b = some o → h'.get? b = some o) → Q v { s with heap := h', toks := tk' }) (hf : env.frame = some L := by rfl) :
    wpAny (model PySem.Challenge.rw_tv0008_01.row.prog w) (genTop dp un gd env outer) (call (.ref f) vs) Q E s :=
  C mg mb dp un gd env outer A₀ base h₀ L m s Q E B F X (fun p hp => N p (hs p hp)) T hf hk hd hu fun v h' tk' hR hk' => h v h' tk' hR (F.keeps hk') (N.grown hk') hk'
theorem csr_0 {w : List Nat} {p q : Int} (h : q ≤ 80) : quoted w = shortL w p q := by
  unfold shortL shortW
  rw [if_neg (by omega)]
theorem csr_1 {px x : PySem.Str} {w : List Nat} {k : Nat} {q : Int} (tpx : tl px = 39 :: tl x) (lpx : px.length = x.length + 1) (hw : At (39 :: tl x) k (quoted w)) (hx : 5 ≤ x.length) (h1 : ¬ q ≤ 80) (ha : 5 < 80 - (q - px.length + 5 + 12)) :
    shortenL (tl px) 5 (80 - (q - px.length + 5 + 12)) ++ (quoted w).drop px.length = shortL w (x.length + 1) q := by
  have l : (tl px).length = px.length := len_tl px
  have e := at_split hw
  rw [← tpx, l] at e
  have j := join_1 (p := tl px) (r := (quoted w).drop px.length) (q := q) (by omega) (by omega) (by omega)
  rw [← e, l] at j
  rw [show 80 - (q - (px.length : Int) + 5 + 12) = 63 - (q - px.length) by omega, j]
  unfold shortL
  rw [lpx]
  rfl
theorem csr_2 {px x : PySem.Str} {w : List Nat} {k : Nat} {q : Int} (tpx : tl px = 39 :: tl x) (lpx : px.length = x.length + 1) (hw : At (39 :: tl x) k (quoted w)) (hx : 5 ≤ x.length) (h1 : ¬ q ≤ 80) (ha : ¬ 5 < 80 - (q - px.length + 5 + 12)) :
    shortenL (tl px) 5 5 ++ shortenL ((quoted w).drop px.length) 41 5 = shortL w (x.length + 1) q := by
  have l : (tl px).length = px.length := len_tl px
  have e := at_split hw
  rw [← tpx, l] at e
  have j := join_2 (p := tl px) (r := (quoted w).drop px.length) (q := q) (by omega) (by omega) (by omega)
  rw [← e, l] at j
  rw [j]
  unfold shortL
  rw [lpx]
  rfl
theorem slice_keep {prog : Program} {w : World} {A : Around} {E : Value → Shared → Prop} {s : Shared} {value slice : Expr} {x : PySem.Str} {t : Tok} {h₀ : Heap} {L : Addr} {m : PySem.Str → Option Value} {news : List (Addr × Obj)} {Q : Value → Shared → Prop} {i : Int} {ui : Tok} (hF : Fr h₀ L s.heap m) (hN : News h₀ L s.heap news)
    (h : ∀ h' t' k, Fr h₀ L h' m → News h₀ L h' news → (∀ b o, s.heap.get? b = some o → h'.get? b = some o) → Q (.str (Txt.slice x (some i) none) t') { s with heap := h', toks := k })
    (hs : subscripted slice false (.str x t) (.ref s.heap.objs.size) = operate [.ref s.heap.objs.size, .str x t] (getItem (.str x t) (.ref s.heap.objs.size)) := by with_unfolding_all rfl)
    (ht : ∀ r, letTemporaryGo value (.str x t) r = pure () := by intro _; with_unfolding_all rfl) (hsz : x.length ≤ sizeLine := by size_fits) :
    wpAny (model prog w) A (subscriptTail value slice (.str x t) (.ref s.heap.objs.size)) Q E { s with heap := s.heap.push { cls := .type "slice", data := .fields #[.int i ui, .none, .none] } } :=
  tail_of_ItemOn (SBH.sliceItem_sn (P := fun h => Fr h₀ L h m ∧ News h₀ L h news ∧ ∀ b o, s.heap.get? b = some o → h.get? b = some o) (fun _ _ q => ⟨q.1.push _, q.2.1.pushKeep _, fun b o e => Heap.get?_push_of_some _ (q.2.2 b o e)⟩) ⟨hF, hN, fun _ _ e => e⟩ (fun h' t' k q => h h' t' k q.1 q.2.1 q.2.2) hsz) hs ht
theorem ne_nil {P : Addr} : ∀ q ∈ ([] : List (Addr × Obj)), q.1 ≠ P := fun _ h => nomatch h
theorem ne_cons {P a : Addr} {o : Obj} {r : List (Addr × Obj)} (h : a ≠ P) (hr : ∀ q ∈ r, q.1 ≠ P) : ∀ q ∈ (a, o) :: r, q.1 ≠ P := fun q hq => by
  rcases List.mem_cons.mp hq with rfl | hq
  · exact h
  · exact hr q hq
theorem csr_r0 {x y z : List Nat} {p q : Int} {u1 u2 u3 : Tok} (h : q ≤ 80) : ∃ v1 v2 v3, [Value.str (S (quoted x)) u1, .str (S (quoted y)) u2, .str (S (quoted z)) u3] = [.str (S (shortL x p q)) v1, .str (S (shortL y p q)) v2, .str (S (shortL z p q)) v3] :=
  ⟨u1, u2, u3, by rw [← csr_0 h, ← csr_0 h, ← csr_0 h]⟩
theorem csr_r1 {px x y z : PySem.Str} {kb kc : Nat} {q : Int} {u1 u2 u3 : Tok} (tpx : tl px = 39 :: tl x) (lpx : px.length = x.length + 1) (hy : At (tl x) kb (tl y)) (hz : At (tl x) kc (tl z)) (hx : 5 ≤ x.length) (h1 : ¬ q ≤ 80) (ha : 5 < 80 - (q - px.length + 5 + 12)) :
    ∃ v1 v2 v3, [Value.str (S (shortenL (tl px) 5 (80 - (q - px.length + 5 + 12)) ++ (quoted (tl x)).drop px.length)) u1, .str (S (shortenL (tl px) 5 (80 - (q - px.length + 5 + 12)) ++ (quoted (tl y)).drop px.length)) u2, .str (S (shortenL (tl px) 5 (80 - (q - px.length + 5 + 12)) ++ (quoted (tl z)).drop px.length)) u3] = [.str (S (shortL (tl x) (x.length + 1) q)) v1, .str (S (shortL (tl y) (x.length + 1) q)) v2, .str (S (shortL (tl z) (x.length + 1) q)) v3] :=
  ⟨u1, u2, u3, by rw [csr_1 tpx lpx (At_end _) hx h1 ha, csr_1 tpx lpx (At_in hy) hx h1 ha, csr_1 tpx lpx (At_in hz) hx h1 ha]⟩
theorem csr_r2 {px x y z : PySem.Str} {kb kc : Nat} {q : Int} {u1 u2 u3 : Tok} (tpx : tl px = 39 :: tl x) (lpx : px.length = x.length + 1) (hy : At (tl x) kb (tl y)) (hz : At (tl x) kc (tl z)) (hx : 5 ≤ x.length) (h1 : ¬ q ≤ 80) (ha : ¬ 5 < 80 - (q - px.length + 5 + 12)) :
    ∃ v1 v2 v3, [Value.str (S (shortenL (tl px) 5 5 ++ shortenL ((quoted (tl x)).drop px.length) 41 5)) u1, .str (S (shortenL (tl px) 5 5 ++ shortenL ((quoted (tl y)).drop px.length) 41 5)) u2, .str (S (shortenL (tl px) 5 5 ++ shortenL ((quoted (tl z)).drop px.length) 41 5)) u3] = [.str (S (shortL (tl x) (x.length + 1) q)) v1, .str (S (shortL (tl y) (x.length + 1) q)) v2, .str (S (shortL (tl z) (x.length + 1) q)) v3] :=
  ⟨u1, u2, u3, by rw [csr_2 tpx lpx (At_end _) hx h1 ha, csr_2 tpx lpx (At_in hy) hx h1 ha, csr_2 tpx lpx (At_in hz) hx h1 ha]⟩
def QF (f : List Nat → List Nat) (qs : List (List Nat)) (i : Nat) (v : Value) : Prop := ∃ q, qs[i]? = some q ∧ IsS (f q) v
theorem qf_three {f : List Nat → List Nat} {ys : List Value} {a b c : List Nat} (e : ys.length = 3) (h : ∀ j v, ys[j]? = some v → QF f [a, b, c] j v) : ∃ t1 t2 t3, ys = [.str (S (f a)) t1, .str (S (f b)) t2, .str (S (f c)) t3] := by
  obtain ⟨u, v, r, rfl⟩ := len3_of e
  obtain ⟨q, hq, t1, rfl⟩ := h 0 u rfl
  cases hq
  obtain ⟨q, hq, t2, rfl⟩ := h 1 v rfl
  cases hq
  obtain ⟨q, hq, t3, rfl⟩ := h 2 r rfl
  cases hq
  exact ⟨t1, t2, t3, rfl⟩
theorem qf_item {x y z : PySem.Str} {u1 u2 u3 : Tok} (lx : x.length ≤ 900) (ly : y.length ≤ 900) (lz : z.length ≤ 900) {i : Nat} {v : Value} (h : [Value.str (S (quoted (tl x))) u1, .str (S (quoted (tl y))) u2, .str (S (quoted (tl z))) u3][i]? = some v) :
    ∃ e t, v = .str e t ∧ [quoted (tl x), quoted (tl y), quoted (tl z)][i]? = some (tl e) ∧ e.length ≤ 902 := by
  match i, h with
  | 0, h => cases h; exact ⟨_, _, rfl, by rw [tl_S]; rfl, by rw [quoted_len]; omega⟩
  | 1, h => cases h; exact ⟨_, _, rfl, by rw [tl_S]; rfl, by rw [quoted_len]; omega⟩
  | 2, h => cases h; exact ⟨_, _, rfl, by rw [tl_S]; rfl, by rw [quoted_len]; omega⟩
end
section
set_option maxHeartbeats 800000
theorem csr_spec {w : World} {x y z : PySem.Str} {t1 t2 t3 : Tok} (hx5 : 5 ≤ x.length) (lx : x.length ≤ 900) (ly : y.length ≤ 900) (lz : z.length ≤ 900) (fx : Fine (tl x)) (fy : Fine (tl y)) (fz : Fine (tl z)) {kb kc : Nat} (hy : At (tl x) kb (tl y)) (hz : At (tl x) kc (tl z)) (hbc : kb ≠ kc) : ConG 9 w 61 [.str x t1, .str y t2, .str z t3] (fun rs => ∃ v1 v2 v3, rs = [.str (S (shortL (tl x) (x.length + 1) ((max (max (x.length + 2) (y.length + 2)) (z.length + 2) : Nat) : Int))) v1, .str (S (shortL (tl y) (x.length + 1) ((max (max (x.length + 2) (y.length + 2)) (z.length + 2) : Nat) : Int))) v2, .str (S (shortL (tl z) (x.length + 1) ((max (max (x.length + 2) (y.length + 2)) (z.length + 2) : Nat) : Int))) v3]) := by
  k_with_none
  k_with "execs cons" => (k_fold; walk_at "execs cons")
  k_with "exec If" => (k_fold; walk_at "exec If")
  k_with "isTrue Compare" => (k_fold; walk_at "isTrue Compare")
  k_with "isTrue BoolOp" => (k_fold; walk_at "isTrue BoolOp")
  k_with "eval Compare" => (k_fold; walk_at "eval Compare")
  k_with "eval BinOp" => (k_fold; walk_at "eval BinOp")
  k_with "eval Call" => (k_fold; walk_at "eval Call")
  k_with "callWith" => (k_fold; walk_at "callWith")
  k_with "eval IfExp" => (k_fold; walk_at "eval IfExp")
  k_with "CompRestT" => (k_fold; walk_at "CompRestT")
  k_with "CompRest" => (k_fold; walk_at "CompRest")
  k_with "CompEnd" => (k_fold; walk_at "CompEnd")
  k_with "eval ListComp" => (k_fold; walk_at "eval ListComp")
  k_with "eval List" => (k_fold; walk_at "eval List")
  k_with "eval Name" => ((k_here; (with_reducible show wpAny _ _ (eval (Expr.Name _ _) (genEnv _ _ _ _ _ _)) _ _ _); k_dflt (first | (refine' ldVarG ?F ?v ?_ ?a ?b; (case F => k_asm); (case a => rfl); (case b => rfl); (case v => rfl)) | (refine' gname_F ?N ?c ?m ?d ?_ ?a ?b ?e ?f; (case a => rfl); (case b => rfl); (case e => rfl); (case f => rfl); (case N => k_asm); (case c => rfl); (case m => k_mem); (case d => k_asm)) | (refine' nameG_K ?F ?X ?T ?e ?_ ?k4 ?k5 ?k6 ?k7; (case k4 => rfl); (case k5 => rfl); (case k6 => rfl); (case k7 => decide); (case F => k_asm); (case X => k_asm); (case T => k_asm); (case e => k_is)))))
  refine conG_of ?_
  intro mg mb dp un gd env outer A₀ base h₀ L m s Q E op bm ob B F
  k_fill
  intro X N TO BMk T hf hk hd hu ret
  refine wpAny_call ?_
  k_dflt (refine' enter_star ?k1 ?k2 ?k3 ?k4 ?k5 ?kA ?kF ?kK ?k6 ?k7 ?k8 ?kP ?kG ?kB ?kD ?_ ?c2 ?c3 ?c4; (case kA => exact rfl); (case kF => assumption); (case kK => assumption); (case k1 => k_asm); (case k2 => k_asm); (case k3 => k_asm); (case k4 => k_asm); (case k5 => k_asm); (case k6 => k_is); (case k7 => k_is); (case k8 => ktr_room); (case kP => exact rfl); (case kG => exact fun _ => rfl); (case kB => exact fun _ => rfl); (case kD => decide +kernel); (case c2 => exact rfl); (case c3 => exact rfl); (case c4 => exact rfl); k_whole; intro D' g' L' h' tk' cells' lD FG' F' N' Y' B' X' T' st l1 z1; (try k_lt l1); k_cells Y'; (try simp only [List.cons_append, List.nil_append, List.map_nil, List.length_nil, List.drop_zero] at N'); (try dsimp only); (try k_fold))
  k_with "call type:map" => (k_here; (with_reducible show wpAny _ _ (call (Value.type "map") [_, Value.ref _]) _ _ _); k_dflt (refine' call_map_K ?k1 ?k2 ?k3 ?_; (case k1 => k_asm); (case k2 => k_asm); (case k3 => k_mem)); intro c' h' F' N' M')
  k_with "call type:tuple" => (k_here; (with_reducible show wpAny _ _ (call (Value.type "tuple") [Value.ref _]) _ _ _); first
    | (k_dflt (refine' call_tuple_map_K ?k0 ?k1 ?k2 ?kM ?k3 ?kC ?kz ?_; (case k0 => exact rfl); (case k1 => k_asm); (case k2 => k_asm); (case kM => assumption); (case k3 => k_mem); (case kC => exact callsTo_of_con (by k_asm) (by k_asm) (by k_asm) (by first | exact rfl | assumption) (three_repr lx ly lz fx fy fz) (by ktr_room) (by ktr_units)); (case kz => exact Nat.le_of_ble_eq_true rfl)); intro D' ys' h' tk' e1' e2' F' N' l1; (obtain ⟨u1, u2, u3, e3'⟩ := three_of e1' e2'); subst e3'; (try k_lt l1); (try clear e1' e2'))
    | (k_dflt (refine' call_tuple_gen_K ?k1 ?k2 ?kR ?kz ?_; (case kR => assumption); (case k1 => k_asm); (case k2 => k_asm); (case kz => exact Nat.le_of_ble_eq_true rfl)); intro D' ys' h' tk' gg' e1' e2' F' N' l1 hbB; (obtain ⟨u4, u5, u6, e3'⟩ := qf_three e1' e2'); subst e3'; (try k_lt l1); (try clear e1' e2')))
  k_with "call builtin:max" => (k_here; (with_reducible show wpAny _ _ (call (Value.builtin "max") [Value.ref _]) _ _ _); k_dflt (refine' call_max3_K ?q1 ?q2 ?q3 ?k0 ?k1 ?k2 ?kM ?k3 ?_; (case k0 => exact rfl); (case k1 => k_asm); (case k2 => k_asm); (case kM => assumption); (case k3 => k_mem); (case q1 => (rw [quoted_len]; omega)); (case q2 => (rw [quoted_len]; omega)); (case q3 => (rw [quoted_len]; omega))); intro t' h' tk' F' N'; (try simp only [quoted_len]))
  k_with "eval GeneratorExp" => (k_here; k_dflt (refine' gen_KK ?gB ?gF ?gX ?gT ?hA ?hh ?hf ?hke ?hco ?hclos ?hcell ?h0 ?hx ?hkind ?hroom ?hs ?_; (case gB => k_asm); (case gF => k_asm); (case gX => k_asm); (case gT => k_asm); (case hA => exact rfl); (case hh => exact rfl); (case hf => exact rfl); (case hke => exact rfl); (case hco => exact rfl); (case hclos => with_unfolding_all rfl); (case hcell => decide); (case h0 => exact rfl); (case hx => exact rfl); (case hkind => exact rfl); (case hroom => ktr_room); (case hs => (intro _; with_unfolding_all rfl))))
  k_with "subscriptTail Name Slice str ref" => (k_here; (with_reducible show wpAny _ _ (subscriptTail _ (Expr.Slice (some _) none none _) (Value.str _ _) _) _ _ _); (with_reducible rename Fr _ _ _ _ => F8); (with_reducible rename News _ _ _ _ => N8); (refine slice_keep (hsz := ?hsz) (s := ⟨_, _, _, _, _⟩) F8 N8 ?_); (case hsz => size_fits); intro h8 t8 k8 F' N' kk8)
  k_with "GenSrc" => (k_here; first | focus ((have ha9 : 5 < (80 - (((max (max (x.length + 2) (y.length + 2)) (z.length + 2) : Nat) : Int) - (px.length : Int) + 5 + 12)) := by with_reducible assumption); k_dflt (refine' GenSrc.ledger (QF (fun q => shortenL (tl px) 5 (80 - (((max (max (x.length + 2) (y.length + 2)) (z.length + 2) : Nat) : Int) - (px.length : Int) + 5 + 12)) ++ q.drop px.length) [quoted (tl x), quoted (tl y), quoted (tl z)]) ?k1 ?k2 ?k3 ?kS ?kA ?kO ?kX ?kc ?kt ?kT ?kM ?kr ?_ ?_; (case k1 => k_asm); (case k2 => k_asm); (case k3 => k_asm); (case kS => first | exact .last | exact (.cons .last) | exact (.cons (.cons .last)) | exact (.cons (.cons (.cons .last))) | exact (.cons (.cons (.cons (.cons .last)))) | exact (.cons (.cons (.cons (.cons (.cons .last))))) | exact (.cons (.cons (.cons (.cons (.cons (.cons .last)))))) | exact (.cons (.cons (.cons (.cons (.cons (.cons (.cons .last))))))) | exact (.cons (.cons (.cons (.cons (.cons (.cons (.cons (.cons .last))))))))); (case kA => k_mem); (case kO => assumption); (case kX => k_asm); (case kc => exact rfl); (case kt => with_unfolding_all rfl); (case kT => k_asm); (case kM => exact BMk _ (by k_asm) (by assumption)); (case kr => (repeat' (first | exact ne_nil | refine' ne_cons ?_ ?_)); all_goals k_ne)); (all_goals first | (intro g' C' code' s2' v' mm' E' i' hv' Fg' Ng' Xg' Tg' Bg'; (obtain ⟨e', te', ev', hq', le'⟩ := qf_item lx ly lz hv'); subst ev'; have tsx0 := tsx) | (intro a' op' h' tk' gg' hT' F' N' kk' R' hbA))) | focus ((have ha9 : ¬ 5 < (80 - (((max (max (x.length + 2) (y.length + 2)) (z.length + 2) : Nat) : Int) - (px.length : Int) + 5 + 12)) := by with_reducible assumption); k_dflt (refine' GenSrc.ledger (QF (fun q => shortenL (tl px) 5 5 ++ shortenL (q.drop px.length) 41 5) [quoted (tl x), quoted (tl y), quoted (tl z)]) ?k1 ?k2 ?k3 ?kS ?kA ?kO ?kX ?kc ?kt ?kT ?kM ?kr ?_ ?_; (case k1 => k_asm); (case k2 => k_asm); (case k3 => k_asm); (case kS => first | exact .last | exact (.cons .last) | exact (.cons (.cons .last)) | exact (.cons (.cons (.cons .last))) | exact (.cons (.cons (.cons (.cons .last)))) | exact (.cons (.cons (.cons (.cons (.cons .last))))) | exact (.cons (.cons (.cons (.cons (.cons (.cons .last)))))) | exact (.cons (.cons (.cons (.cons (.cons (.cons (.cons .last))))))) | exact (.cons (.cons (.cons (.cons (.cons (.cons (.cons (.cons .last))))))))); (case kA => k_mem); (case kO => assumption); (case kX => k_asm); (case kc => exact rfl); (case kt => with_unfolding_all rfl); (case kT => k_asm); (case kM => exact BMk _ (by k_asm) (by assumption)); (case kr => (repeat' (first | exact ne_nil | refine' ne_cons ?_ ?_)); all_goals k_ne)); (all_goals first | (intro g' C' code' s2' v' mm' E' i' hv' Fg' Ng' Xg' Tg' Bg'; (obtain ⟨e', te', ev', hq', le'⟩ := qf_item lx ly lz hv'); subst ev'; have tsx0 := tsx) | (intro a' op' h' tk' gg' hT' F' N' kk' R' hbA))))
  have qx : At (39 :: tl x) 39 (tl (S (quoted (tl x)))) := by rw [tl_S]; exact At_end _
  have qy : At (39 :: tl x) kb (tl (S (quoted (tl y)))) := by rw [tl_S]; exact At_in hy
  have qz : At (39 :: tl x) kc (tl (S (quoted (tl z)))) := by rw [tl_S]; exact At_in hz
  have n1 : 39 ≠ kb := At_fine fy hy
  have n2 : 39 ≠ kc := At_fine fz hz
  have m1 : (S (quoted (tl x))).length ≤ 1000 := by rw [quoted_len]; omega
  have m2 : (S (quoted (tl y))).length ≤ 1000 := by rw [quoted_len]; omega
  have m3 : (S (quoted (tl z))).length ≤ 1000 := by rw [quoted_len]; omega
  have lD9 : @LT.lt Nat instLTNat 56 D' := lD _ (.head _)
  k_with "call ref" => (k_here; (with_reducible show wpAny _ _ (call (Value.ref 54) [Value.ref _]) _ _ _); k_dflt (refine' con_use ?k1 ?k2 ?k3 ?k4 ?k5 ?k6 (commonprefix_spec qx qy qz n1 n2 hbc m1 m2 m3) ?k7 ?k8 ?k9 ?_; (case k1 => k_asm); (case k2 => k_asm); (case k3 => k_asm); (case k4 => k_asm); (case k5 => k_asm); (case k6 => first | exact rfl | assumption); (case k7 => kcj_all); (case k8 => ktr_room); (case k9 => ktr_units)); intro v9 h' tk' hR9 F' N'; (obtain ⟨px, t9, tpx, lpx, e9⟩ := px_of hR9); subst e9; (try dsimp only))
  k_with "call ref" => (k_here; (with_reducible show wpAny _ _ (call (Value.ref 28) [Value.str _ _, Value.int _ _, Value.int _ _]) _ _ _); k_dflt (refine' con_useK ?k1 ?k2 ?k3 ?k4 ?k5 ?k6 (shorten_spec ?s1 ?s2 ?s3) ?k7 ?k8 ?k9 ?_; (case k1 => k_asm); (case k2 => k_asm); (case k3 => k_asm); (case k4 => k_asm); (case k5 => k_asm); (case k6 => first | exact rfl | assumption); (case s1 => first | omega | exact slice_from_len (by omega) (by omega)); (case s2 => omega); (case s3 => omega); (case k7 => kcj_all); (case k8 => ktr_room); (case k9 => ktr_units)); intro v9 h' tk' hR9 F' N' kk9; (obtain ⟨sx, t9, tsx, lsx, e9⟩ := sh_of (by omega) (by omega) (by first | (rw [len_tl]; omega) | (rw [len_tl]; exact slice_from_len (by omega) (by omega))) hR9); subst e9; (try dsimp only))
  k_steps
  · exact ret D' [.str (S (quoted (tl x))) u1, .str (S (quoted (tl y))) u2, .str (S (quoted (tl z))) u3] op g' L' _ _ _ _ (csr_r0 (by assumption)) TO (by assumption) (by (refine' cb_drop ?cbN ?cbS; (case cbN => assumption); (case cbS => kcj_all))) st (by assumption) z1 (show @LT.lt Nat instLTNat L' D' by omega) (fun z => z)
  · exact ⟨tl e', hq', isS_of (by rw [tl_append, tsx0, tl_slice_from (by omega)]; rfl)⟩
  · exact ⟨_, _, rfl, kk8⟩
  · exact ret D' [.str (S (shortenL (tl px) 5 (80 - (((max (max (x.length + 2) (y.length + 2)) (z.length + 2) : Nat) : Int) - (px.length : Int) + 5 + 12)) ++ (quoted (tl x)).drop px.length)) u4, .str (S (shortenL (tl px) 5 (80 - (((max (max (x.length + 2) (y.length + 2)) (z.length + 2) : Nat) : Int) - (px.length : Int) + 5 + 12)) ++ (quoted (tl y)).drop px.length)) u5, .str (S (shortenL (tl px) 5 (80 - (((max (max (x.length + 2) (y.length + 2)) (z.length + 2) : Nat) : Int) - (px.length : Int) + 5 + 12)) ++ (quoted (tl z)).drop px.length)) u6] op' g' L' _ _ _ _ (csr_r1 tpx lpx hy hz hx5 (by assumption) (by assumption)) hT' (by assumption) (by (refine' cb_drop ?cbN ?cbS; (case cbN => assumption); (case cbS => kcj_all))) st (by assumption) z1 (show @LT.lt Nat instLTNat L' D' by omega) (fun z => hbB (hbA z))
  · exact ⟨tl e', hq', isS_of (by rw [tl_append, tsx0, tsx, tl_slice_from (by omega)]; rfl)⟩
  · exact ⟨_, _, rfl, fun b o e => kk9 b o (kk8 b o e)⟩
  · exact ret D' [.str (S (shortenL (tl px) 5 5 ++ shortenL ((quoted (tl x)).drop px.length) 41 5)) u4, .str (S (shortenL (tl px) 5 5 ++ shortenL ((quoted (tl y)).drop px.length) 41 5)) u5, .str (S (shortenL (tl px) 5 5 ++ shortenL ((quoted (tl z)).drop px.length) 41 5)) u6] op' g' L' _ _ _ _ (csr_r2 tpx lpx hy hz hx5 (by assumption) (by assumption)) hT' (by assumption) (by (refine' cb_drop ?cbN ?cbS; (case cbN => assumption); (case cbS => kcj_all))) st (by assumption) z1 (show @LT.lt Nat instLTNat L' D' by omega) (fun z => hbB (hbA z))
end
section
set_option maxHeartbeats 800000
abbrev dbl : List Nat → List Nat := StrLaws.dbl 34
theorem dbl_nil : dbl [] = [] := rfl
theorem dbl_q (l : List Nat) : dbl (34 :: l) = 34 :: 34 :: dbl l := by
  show (if 34 = 34 then _ else _) = _
  rw [if_pos rfl]
theorem dbl_n {c : Nat} (h : c ≠ 34) (l : List Nat) : dbl (c :: l) = c :: dbl l := by
  show (if c = 34 then _ else _) = _
  rw [if_neg h]
theorem dbl_len : ∀ l : List Nat, (dbl l).length ≤ 2 * l.length
  | [] => Nat.le_refl _
  | c :: l => by
    have ih := dbl_len l
    by_cases h : c = 34
    · rw [h, dbl_q]; simp only [List.length_cons]; omega
    · rw [dbl_n h]; simp only [List.length_cons]; omega
theorem qq1 : PySem.Str.ofString "\"" = ⟨#[34]⟩ := by apply str_eq; decide +kernel
theorem qq2 : PySem.Str.ofString "\"\"" = ⟨#[34, 34]⟩ := by apply str_eq; decide +kernel
section
variable {prog : Program} {w : World} {A : Around} {E : Value → Shared → Prop} {s : Shared} {x : PySem.Str} {t u v : Tok} {Q : Value → Shared → Prop}
theorem replace_q (hu : u ≠ 0) (hv : v ≠ 0) (huv : u ≠ v) (hx : x.length ≤ 1000)
    (hq : ∀ r t' k, tl r = dbl (tl x) → r.length ≤ 2 * x.length → Q (.str r t') { s with toks := k }) :
    wpAny (model prog w) A (call (.builtin "str.replace") [.str x t, .str (PySem.Str.ofString "\"") u, .str (PySem.Str.ofString "\"\"") v]) Q E s := by
  refine SC.replaceW hu hv huv (by decide +kernel) (by omega) (by decide +kernel) fun t' k => ?_
  have e : tl (Txt.replace x (PySem.Str.ofString "\"") (PySem.Str.ofString "\"\"")) = dbl (tl x) := by
    rw [qq1, qq2]; exact StrLaws.replace_double x 34
  refine hq _ _ _ e ?_
  rw [← len_tl, e, ← len_tl]
  exact dbl_len _
end
end
section
set_option maxHeartbeats 800000
def rep (n : List Nat) (d m : Nat) : List Nat := 50 :: 53 :: 55 :: 32 :: 34 :: (dbl n ++ 34 :: 32 :: 105 :: 115 :: 32 :: 34 :: d :: 34 :: 32 :: List.replicate m 120)
theorem rep_len {n : List Nat} {d m : Nat} : (rep n d m).length = (dbl n).length + 14 + m := by
  simp only [rep, List.length_cons, List.length_append, List.length_replicate]; omega
theorem dbl_ge : ∀ l : List Nat, l.length ≤ (dbl l).length
  | [] => Nat.le_refl _
  | c :: l => by
    have ih := dbl_ge l
    by_cases h : c = 34
    · rw [h, dbl_q]; simp only [List.length_cons]; omega
    · rw [dbl_n h]; simp only [List.length_cons]; omega
/-- the two lists part at a sign -/
def Dv (a b : List Nat) : Prop := ∃ kb kc, kb ≠ kc ∧ At (lcp a b) kb a ∧ At (lcp a b) kc b
theorem dv_ne {a b : Nat} {r s : List Nat} (h : a ≠ b) : Dv (a :: r) (b :: s) := by
  refine ⟨a, b, h, ?_, ?_⟩ <;> rw [lcp_cons_ne h]
  · exact ⟨r, rfl⟩
  · exact ⟨s, rfl⟩
theorem dv_cons {a : Nat} {r s : List Nat} (h : Dv r s) : Dv (a :: r) (a :: s) := by
  obtain ⟨kb, kc, hn, ⟨u, hu⟩, ⟨v, hv⟩⟩ := h
  refine ⟨kb, kc, hn, ?_, ?_⟩ <;> rw [lcp_cons_eq]
  · exact ⟨u, by rw [List.cons_append, ← hu]⟩
  · exact ⟨v, by rw [List.cons_append, ← hv]⟩
theorem two {R R' : List Nat} (hR : Dv R R') : ∀ n n' : List Nat,
    Dv (dbl n ++ 34 :: 32 :: R) (dbl n' ++ 34 :: 32 :: R') ∧ parseGo (lcp (dbl n ++ 34 :: 32 :: R) (dbl n' ++ 34 :: 32 :: R')) = lcp n n'
  | [], [] => by
    refine ⟨dv_cons (dv_cons hR), ?_⟩
    show parseGo (lcp (34 :: 32 :: R) (34 :: 32 :: R')) = _
    rw [lcp_cons_eq, lcp_cons_eq, parseGo_qx (by decide)]; rfl
  | [], c :: s => by
    by_cases h : c = 34
    · rw [h, dbl_q]
      refine ⟨dv_cons (dv_ne (by decide)), ?_⟩
      show parseGo (lcp (34 :: 32 :: R) (34 :: 34 :: _)) = _
      rw [lcp_cons_eq, lcp_cons_ne (by decide), parseGo_q]; rfl
    · rw [dbl_n h]
      have h' : (34 : Nat) ≠ c := fun e => h e.symm
      refine ⟨dv_ne h', ?_⟩
      show parseGo (lcp (34 :: 32 :: R) (c :: _)) = _
      rw [lcp_cons_ne h']; rfl
  | c :: s, [] => by
    by_cases h : c = 34
    · rw [h, dbl_q]
      refine ⟨dv_cons (dv_ne (by decide)), ?_⟩
      show parseGo (lcp (34 :: 34 :: _) (34 :: 32 :: R')) = _
      rw [lcp_cons_eq, lcp_cons_ne (by decide), parseGo_q]; rfl
    · rw [dbl_n h]
      refine ⟨dv_ne h, ?_⟩
      show parseGo (lcp (c :: _) (34 :: 32 :: R')) = _
      rw [lcp_cons_ne h]; rfl
  | c :: s, c' :: s' => by
    obtain ⟨i1, i2⟩ := two hR s s'
    by_cases e : c = c'
    · subst e
      by_cases h : c = 34
      · subst h
        rw [dbl_q, dbl_q, lcp_cons_eq]
        refine ⟨dv_cons (dv_cons i1), ?_⟩
        show parseGo (lcp (34 :: 34 :: _) (34 :: 34 :: _)) = _
        rw [lcp_cons_eq, lcp_cons_eq, parseGo_qq]
        exact congrArg _ i2
      · rw [dbl_n h, dbl_n h, lcp_cons_eq]
        refine ⟨dv_cons i1, ?_⟩
        show parseGo (lcp (c :: _) (c :: _)) = _
        rw [lcp_cons_eq, parseGo_other h]
        exact congrArg _ i2
    · rw [lcp_cons_ne e]
      by_cases h : c = 34
      · subst h
        rw [dbl_q, dbl_n (fun q => e q.symm)]
        refine ⟨dv_ne e, ?_⟩
        show parseGo (lcp (34 :: _) (c' :: _)) = _
        rw [lcp_cons_ne e]; rfl
      · rw [dbl_n h]
        by_cases h' : c' = 34
        · subst h'
          rw [dbl_q]
          refine ⟨dv_ne e, ?_⟩
          show parseGo (lcp (c :: _) (34 :: _)) = _
          rw [lcp_cons_ne e]; rfl
        · rw [dbl_n h']
          refine ⟨dv_ne e, ?_⟩
          show parseGo (lcp (c :: _) (c' :: _)) = _
          rw [lcp_cons_ne e]; rfl
theorem whole {R : List Nat} : ∀ n : List Nat, parseGo (dbl n ++ 34 :: 32 :: R) = n
  | [] => parseGo_qx (by decide)
  | c :: s => by
    have i := whole (R := R) s
    by_cases h : c = 34
    · subst h
      rw [dbl_q]
      show parseGo (34 :: 34 :: _) = _
      rw [parseGo_qq]; exact congrArg _ i
    · rw [dbl_n h]
      show parseGo (c :: _) = _
      rw [parseGo_other h]; exact congrArg _ i
section
variable {n n' : List Nat} {d d' m : Nat}
theorem rep_dv (h : d ≠ d') : Dv (rep n d m) (rep n' d' m) :=
  dv_cons (dv_cons (dv_cons (dv_cons (dv_cons (two (dv_cons (dv_cons (dv_cons (dv_cons (dv_ne h))))) n n').1))))
theorem rep_lcp : lcp (rep n d m) (rep n' d' m) = 50 :: 53 :: 55 :: 32 :: 34 :: lcp (dbl n ++ 34 :: 32 :: 105 :: 115 :: 32 :: 34 :: d :: 34 :: 32 :: List.replicate m 120) (dbl n' ++ 34 :: 32 :: 105 :: 115 :: 32 :: 34 :: d' :: 34 :: 32 :: List.replicate m 120) := by
  simp only [rep, lcp_cons_eq]
theorem rep_parse (h : d ≠ d') : parseL (lcp (rep n d m) (rep n' d' m)) = lcp n n' := by
  rw [rep_lcp]
  unfold parseL
  rw [if_pos (by simp)]
  simp only [List.drop_succ_cons, List.drop_zero]
  exact (two (dv_cons (dv_cons (dv_cons (dv_cons (dv_ne h))))) n n').2
end
theorem lcp_len : ∀ a b : List Nat, (lcp a b).length ≤ a.length ∧ (lcp a b).length ≤ b.length
  | [], b => by simp [lcp_nil_left]
  | a :: r, [] => by simp [lcp_nil_right]
  | a :: r, b :: s => by
    have ih := lcp_len r s
    by_cases h : a = b
    · subst h; rw [lcp_cons_eq]; simp only [List.length_cons]; omega
    · rw [lcp_cons_ne h]; simp
theorem lcp_mem {P : Nat → Prop} : ∀ a b : List Nat, (∀ c ∈ a, P c) → ∀ c ∈ lcp a b, P c
  | [], b, h => by rw [lcp_nil_left]; exact fun c hc => nomatch hc
  | a :: r, [], h => by rw [lcp_nil_right]; exact fun c hc => nomatch hc
  | a :: r, b :: s, h => by
    by_cases e : a = b
    · subst e; rw [lcp_cons_eq]
      intro c hc
      rcases List.mem_cons.mp hc with rfl | hc
      · exact h _ (List.mem_cons_self ..)
      · exact lcp_mem r s (fun c hc => h c (List.mem_cons_of_mem _ hc)) c hc
    · rw [lcp_cons_ne e]; exact fun c hc => nomatch hc
theorem fine_dbl : ∀ n : List Nat, Fine n → Fine (dbl n)
  | [], h => h
  | c :: s, h => by
    have ih := fine_dbl s fun c hc => h c (List.mem_cons_of_mem _ hc)
    have hc := h c (List.mem_cons_self ..)
    by_cases e : c = 34
    · subst e; rw [dbl_q]; intro k hk
      rcases List.mem_cons.mp hk with rfl | hk
      · exact hc
      · rcases List.mem_cons.mp hk with rfl | hk
        · exact hc
        · exact ih k hk
    · rw [dbl_n e]; intro k hk
      rcases List.mem_cons.mp hk with rfl | hk
      · exact hc
      · exact ih k hk
theorem fine_cons {c : Nat} {l : List Nat} (h : fineB c = true) (hl : Fine l) : Fine (c :: l) := fun k hk => by
  rcases List.mem_cons.mp hk with rfl | hk
  · exact h
  · exact hl k hk
theorem fine_app {a b : List Nat} (ha : Fine a) (hb : Fine b) : Fine (a ++ b) := fun k hk => by
  rcases List.mem_append.mp hk with hk | hk
  · exact ha k hk
  · exact hb k hk
theorem fine_rep {n : List Nat} {d m : Nat} (h : Fine n) (hd : fineB d = true) : Fine (rep n d m) := by
  unfold rep
  repeat' (first | exact hd | refine fine_cons ?_ ?_ | refine fine_app (fine_dbl _ h) ?_ | decide)
  intro k hk
  rw [List.eq_of_mem_replicate hk]; decide
/-- what is shown of a reply -/
theorem shown_cases {n : List Nat} {d m : Nat} {p q : Int} (hp : 6 ≤ p) (hn : (dbl n).length ≤ 38) (hm : 1 ≤ m) :
    (∃ r, shortL (rep n d m) p q = 39 :: 50 :: 53 :: 55 :: 32 :: 91 :: r) ∨ (∃ r, shortL (rep n d m) p q = 39 :: 50 :: 53 :: 55 :: 32 :: 34 :: (dbl n ++ 34 :: 32 :: r)) := by
  have hc : ∀ k : Int, ∃ r, chars k = 91 :: r := fun k => ⟨tl (PySem.Str.ofString (toString k)) ++ tl (PySem.Str.ofString " chars]"), rfl⟩
  have W : ∃ r, quoted (rep n d m) = 39 :: 50 :: 53 :: 55 :: 32 :: 34 :: (dbl n ++ 34 :: 32 :: r) := ⟨_, by simp only [quoted, rep, List.cons_append, List.append_assoc]; rfl⟩
  unfold shortL shortW
  by_cases h1 : 80 < q
  · rw [if_pos h1]
    by_cases h2 : q - p < 58
    · rw [if_pos h2]
      obtain ⟨r, hr⟩ := hc (q - 63 - 5)
      rw [hr]
      exact .inl ⟨_, by simp only [quoted, rep, List.cons_append, List.take_succ_cons, List.take_zero, List.nil_append]; rfl⟩
    · rw [if_neg h2]
      by_cases h3 : 12 < p - 5 - 5
      · rw [if_pos h3]
        obtain ⟨r, hr⟩ := hc (p - 5 - 5)
        rw [hr]
        split
        · exact .inl ⟨_, by simp only [quoted, rep, List.cons_append, List.take_succ_cons, List.take_zero, List.nil_append]; rfl⟩
        · exact .inl ⟨_, by simp only [quoted, rep, List.cons_append, List.take_succ_cons, List.take_zero, List.nil_append]; rfl⟩
      · rw [if_neg h3]
        split
        · obtain ⟨r, hr⟩ := W
          rw [hr]
          generalize chars _ = C
          generalize List.drop _ _ = D
          refine .inr ⟨r.take ((p + 41).toNat - (dbl n).length - 8) ++ (C ++ D), ?_⟩
          obtain ⟨k, hk⟩ : ∃ k, (p + 41).toNat = k + (dbl n).length + 8 := ⟨(p + 41).toNat - (dbl n).length - 8, by omega⟩
          rw [hk, show k + (dbl n).length + 8 - (dbl n).length - 8 = k by omega, show k + (dbl n).length + 8 = (k + (dbl n).length + 2) + 1 + 1 + 1 + 1 + 1 + 1 by omega]
          simp only [List.take_succ_cons, List.cons_append, List.append_assoc]
          rw [List.take_append, List.take_of_length_le (by omega), show k + (dbl n).length + 2 - (dbl n).length = k + 1 + 1 by omega]
          simp only [List.take_succ_cons, List.cons_append, List.append_assoc]
        · exact .inr W
  · rw [if_neg h1]
    exact .inr W
theorem shown_parse {n : List Nat} {d m : Nat} {p q : Int} (hp : 6 ≤ p) (hn : (dbl n).length ≤ 38) (hm : 1 ≤ m) :
    parseL ((shortL (rep n d m) p q).drop 1) = if (shortL (rep n d m) p q).getD 5 0 = 34 then n else [] := by
  rcases shown_cases (n := n) (d := d) (m := m) (p := p) (q := q) hp hn hm with ⟨r, e⟩ | ⟨r, e⟩
  · rw [e, if_neg (by simp)]
    unfold parseL
    rw [if_neg (by simp)]
  · rw [e, if_pos (by simp)]
    unfold parseL
    rw [if_pos (by simp)]
    simp only [List.drop_succ_cons, List.drop_zero]
    exact whole n
theorem shown_head {n : List Nat} {d m : Nat} {p q : Int} (hp : 6 ≤ p) (hn : (dbl n).length ≤ 38) (hm : 1 ≤ m) :
    ∃ k r, shortL (rep n d m) p q = 39 :: 50 :: 53 :: 55 :: 32 :: k :: r := by
  rcases shown_cases (n := n) (d := d) (m := m) (p := p) (q := q) hp hn hm with ⟨r, e⟩ | ⟨r, e⟩
  · exact ⟨_, _, e⟩
  · exact ⟨_, _, e⟩
end
section
set_option maxHeartbeats 800000
theorem lit_a : tl (PySem.Str.ofString "257 \"") = [50, 53, 55, 32, 34] := by decide +kernel
theorem lit_b : tl (PySem.Str.ofString "\" is \"") = [34, 32, 105, 115, 32, 34] := by decide +kernel
theorem lit_c : tl (PySem.Str.ofString "\" ") = [34, 32] := by decide +kernel
theorem lit_x : PySem.Str.ofString "x" = ⟨#[120]⟩ := by apply str_eq; decide +kernel
theorem lit_d {n k : Int} (hn : n = 0 ∨ n = 2) (hk : k = 0 ∨ k = 1) : tl (PySem.Str.ofString (toString (n + k))) = [48 + (n + k).toNat] := by
  rcases hn with rfl | rfl <;> rcases hk with rfl | rfl <;> decide +kernel
theorem rep_tl {r : PySem.Str} {l : List Nat} {n k many : Int} (hr : tl r = dbl l) (hn : n = 0 ∨ n = 2) (hk : k = 0 ∨ k = 1) :
    tl (PySem.Str.ofString "257 \"" ++ r ++ PySem.Str.ofString "\" is \"" ++ PySem.Str.ofString (toString (n + k)) ++ PySem.Str.ofString "\" " ++ Txt.mul (PySem.Str.ofString "x") many) = rep l (48 + (n + k).toNat) many.toNat := by
  have em : tl (Txt.mul (PySem.Str.ofString "x") many) = List.replicate many.toNat 120 := by rw [lit_x]; exact mul_one_list 120 many
  simp only [tl_append, lit_a, lit_b, lit_c, lit_d hn hk, hr, em, rep, List.cons_append, List.nil_append, List.append_assoc]
section
variable {prog : Program} {w : World} {A : Around} {E : Value → Shared → Prop} {s : Shared} {r : PySem.Str} {t u v : Tok} {Q : Value → Shared → Prop}
theorem add_rep {l : List Nat} {n k many : Int} (hr : tl r = dbl l) (hl : (dbl l).length ≤ 38) (hn : n = 0 ∨ n = 2) (hk : k = 0 ∨ k = 1) (hm : many = 40 ∨ many = 80)
    (h : ∀ r0 t' k', tl r0 = rep l (48 + (n + k).toNat) many.toNat → r0.length ≤ 132 ∧ 54 ≤ r0.length → Q (.str r0 t') { s with toks := k' }) :
    wpAny (model prog w) A (binaryOp .Add (.str (PySem.Str.ofString "257 \"" ++ r ++ PySem.Str.ofString "\" is \"" ++ PySem.Str.ofString (toString (n + k)) ++ PySem.Str.ofString "\" ") t) (.str (Txt.mul (PySem.Str.ofString "x") many) u)) Q E s := by
  have e := rep_tl (many := many) hr hn hk
  have L : (PySem.Str.ofString "257 \"" ++ r ++ PySem.Str.ofString "\" is \"" ++ PySem.Str.ofString (toString (n + k)) ++ PySem.Str.ofString "\" " ++ Txt.mul (PySem.Str.ofString "x") many).length = (dbl l).length + 14 + many.toNat := by rw [← len_tl, e, rep_len]
  have L' := L
  rw [PySem.Str.length_append] at L'
  refine KXadd.add (K := 1000) (L := 1000) (by omega) (by omega) (by omega) fun t' k' _ => ?_
  exact h _ _ _ e ⟨by omega, by omega⟩
end
/-- what both replies begin with -/
theorem begin_of {x y r0 r1 : PySem.Str} {n k k' m : Int} {v : Value} (e0 : tl r0 = rep (tl x) (48 + (n + k).toNat) m.toNat) (e1 : tl r1 = rep (tl y) (48 + (n + k').toNat) m.toNat) (fx : Fine (tl x)) (fy : Fine (tl y)) (hn : n = 0 ∨ n = 2) (hk : k = 0) (hk' : k' = 1) (h : IsS (lcp (tl r0) (tl r1)) v) :
    ∃ b t kb kc, v = .str b t ∧ parseL (tl b) = lcp (tl x) (tl y) ∧ (tl b).take 3 = [50, 53, 55] ∧ (5 ≤ b.length ∧ b.length ≤ r0.length ∧ b.length ≤ r1.length) ∧ At (tl b) kb (tl r0) ∧ At (tl b) kc (tl r1) ∧ kb ≠ kc ∧ Fine (tl b) ∧ Fine (tl r0) ∧ Fine (tl r1) := by
  obtain ⟨t, rfl⟩ := h
  have hd : 48 + (n + k).toNat ≠ 48 + (n + k').toNat := by omega
  have f0 : Fine (tl r0) := by
    rw [e0]; refine fine_rep fx ?_
    rcases hn with rfl | rfl <;> subst hk <;> decide
  have f1 : Fine (tl r1) := by
    rw [e1]; refine fine_rep fy ?_
    rcases hn with rfl | rfl <;> subst hk' <;> decide
  obtain ⟨kb, kc, h1, h2, h3⟩ := rep_dv (n := tl x) (n' := tl y) (m := m.toNat) hd
  rw [← e0, ← e1] at h2 h3
  have hp := rep_parse (n := tl x) (n' := tl y) (m := m.toNat) hd
  have hq := rep_lcp (n := tl x) (n' := tl y) (m := m.toNat) (d := 48 + (n + k).toNat) (d' := 48 + (n + k').toNat)
  rw [← e0, ← e1] at hp hq
  refine ⟨_, t, kb, kc, rfl, ?_⟩
  rw [tl_S]
  refine ⟨hp, by rw [hq]; rfl, ⟨?_, ?_, ?_⟩, h2, h3, h1, lcp_mem _ _ f0, f0, f1⟩
  · rw [len_S, hq]; simp
  · rw [len_S, ← len_tl r0]; exact (lcp_len _ _).1
  · rw [len_S, ← len_tl r1]; exact (lcp_len _ _).2
theorem nameG_B {M : Model} {A : Around} {E : Value → Shared → Prop} {s : Shared} {K : Frag} {h₀ : Heap} {L : Addr} {m mg mb : PySem.Str → Option Value} {env : Env} {p : Program} {loose : List PySem.Str} {x : PySem.Str} {pos : Pos} {v : Value} {Q : Value → Shared → Prop} (F : Fr h₀ L s.heap m) (X : K.In h₀) (T : TopRead p loose mg mb h₀)
    (e : nsIn K mainGlobals x = some none) (hv : bootBuiltins x = some v) (hn : x ≠ "__name__") (h : Q v s) (hg : env.globals = mainGlobals) (hb : env.builtins = builtinsNs) (hk : env.scope.kind = .function) (hx : env.kindOf x = some .globalImplicit) (hd : (x == ("__debug__" : PySem.Str)) = false) :
    wpAny M A (eval (.Name x pos) env) Q E s :=
  Calls.Name_function_global hk hx (Calls.loadGlobal_builtin (env := env) (by rw [hg]; exact T.g.keeps F.keep) (mg_none_of X T.g e) (by rw [hb]; exact T.b.keeps F.keep) ((T.builtins x hn).trans hv) h) hd
theorem cut_le {w c : List Nat} {a b k : Nat} (hc : c.length ≤ k) (ab : a ≤ b) : (w.take a ++ c ++ w.drop b).length ≤ w.length + k := by
  simp only [List.length_append, List.length_take, List.length_drop]
  omega
theorem shortW_len {w : List Nat} {p q : Int} (hw : w.length ≤ 1000) (h0 : 0 ≤ p) (hp : p ≤ 2000) (hq : q ≤ 2000) : (shortW w p q).length ≤ w.length + 92 := by
  unfold shortW
  by_cases h1 : 80 < q
  · rw [if_pos h1]
    by_cases h2 : q - p < 58
    · rw [if_pos h2]
      have c := chars_len (n := q - 63 - 5) (by omega) (by omega)
      exact Nat.le_trans (cut_le c (by omega)) (Nat.add_le_add_left (by decide) _)
    · rw [if_neg h2]
      by_cases h3 : 12 < p - 5 - 5
      · have c := chars_len (n := p - 5 - 5) (by omega) (by omega)
        rw [if_pos h3]
        by_cases h4 : 12 < (w.length : Int) - 5 - (p + 41)
        · have c' := chars_len (n := (w.length : Int) - 5 - (p + 41)) (by omega) (by omega)
          rw [if_pos h4]
          rw [List.append_assoc (w.take 5)]
          refine Nat.le_trans (cut_le (k := 86) ?_ (by omega)) (Nat.add_le_add_left (by decide) _)
          simp only [List.length_append, List.length_take]
          omega
        · rw [if_neg h4]
          exact Nat.le_trans (cut_le c (by omega)) (Nat.add_le_add_left (by decide) _)
      · rw [if_neg h3]
        by_cases h4 : 12 < (w.length : Int) - 5 - (p + 41)
        · have c' := chars_len (n := (w.length : Int) - 5 - (p + 41)) (by omega) (by omega)
          rw [if_pos h4]
          exact Nat.le_trans (cut_le c' (by omega)) (Nat.add_le_add_left (by decide) _)
        · rw [if_neg h4]; exact Nat.le_add_right _ _
  · rw [if_neg h1]; exact Nat.le_add_right _ _
def Ok (l : List Nat) : Prop := ∀ c ∈ l, c < 0x110000
theorem ok_app {a b : List Nat} (ha : Ok a) (hb : Ok b) : Ok (a ++ b) := fun c hc => (List.mem_append.mp hc).elim (ha c) (hb c)
theorem ok_take {a : List Nat} {n : Nat} (ha : Ok a) : Ok (a.take n) := fun c hc => ha c (List.mem_of_mem_take hc)
theorem ok_drop {a : List Nat} {n : Nat} (ha : Ok a) : Ok (a.drop n) := fun c hc => ha c (List.mem_of_mem_drop hc)
theorem ok_of (x : String) : Ok (tl (PySem.Str.ofString x)) := by
  intro c hc
  have e : tl (PySem.Str.ofString x) = x.toList.map Char.toNat := signs_ofString x
  rw [e] at hc
  obtain ⟨k, _, rfl⟩ := List.mem_map.mp hc
  rcases k.valid with h | ⟨_, h⟩
  · exact Nat.lt_trans h (by decide)
  · exact h
theorem ok_chars (n : Int) : Ok (chars n) := ok_app (ok_app (ok_of _) (ok_of _)) (ok_of _)
theorem ok_shortW {w : List Nat} {p q : Int} (h : Ok w) : Ok (shortW w p q) := by
  unfold shortW
  repeat' (first | exact h | exact ok_chars _ | refine ok_app ?_ ?_ | refine ok_take ?_ | refine ok_drop ?_ | split)
theorem ok_fine {l : List Nat} (h : Fine l) : Ok l := fun c hc => by
  have := h c hc
  simp only [fineB, Bool.and_eq_true, decide_eq_true_eq] at this
  omega
theorem ok_shortL {l : List Nat} {p q : Int} (h : Fine l) : Ok (shortL l p q) := by
  refine ok_shortW fun c hc => ?_
  rcases List.mem_cons.mp hc with rfl | hc
  · decide
  · rcases List.mem_append.mp hc with hc | hc
    · exact ok_fine h c hc
    · rw [List.mem_singleton.mp hc]; decide
theorem strOk_of {x : PySem.Str} (h : Ok (tl x)) : PyData.strOk x = true := by
  unfold PyData.strOk
  rw [Array.all_eq_true_iff_forall_mem]
  intro c hc
  exact decide_eq_true (h c (Array.mem_toList_iff.mpr hc))
/-- the three showings, under names -/
theorem csr_names {x y z : PySem.Str} {Q : Int} {rs : List Value} (hx : x.length ≤ 132) (hy : y.length ≤ 132) (hz : z.length ≤ 132) (hQ : Q ≤ 2000) (fx : Fine (tl x)) (fy : Fine (tl y)) (fz : Fine (tl z)) (h : ∃ v1 v2 v3, rs = [.str (S (shortL (tl x) (x.length + 1) Q)) v1, .str (S (shortL (tl y) (x.length + 1) Q)) v2, .str (S (shortL (tl z) (x.length + 1) Q)) v3]) :
    ∃ a b c v1 v2 v3, rs = [.str a v1, .str b v2, .str c v3] ∧ (tl a = shortL (tl x) (x.length + 1) Q ∧ a.length ≤ 300) ∧ (tl b = shortL (tl y) (x.length + 1) Q ∧ b.length ≤ 300) ∧ (tl c = shortL (tl z) (x.length + 1) Q ∧ c.length ≤ 300) ∧ (PyData.strOk a = true ∧ PyData.strOk b = true ∧ PyData.strOk c = true) := by
  obtain ⟨v1, v2, v3, rfl⟩ := h
  have key : ∀ u : PySem.Str, u.length ≤ 132 → tl (S (shortL (tl u) (x.length + 1) Q)) = shortL (tl u) (x.length + 1) Q ∧ (S (shortL (tl u) (x.length + 1) Q)).length ≤ 300 := fun u hu => by
    refine ⟨tl_S _, ?_⟩
    rw [len_S]
    have e : (quoted (tl u)).length = u.length + 2 := by rw [← len_tl u]; simp [quoted]
    have := shortW_len (w := quoted (tl u)) (p := (x.length : Int) + 1) (q := Q) (by omega) (by omega) (by omega) hQ
    unfold shortL; omega
  have ok : ∀ u : PySem.Str, Fine (tl u) → PyData.strOk (S (shortL (tl u) (x.length + 1) Q)) = true := fun u hu => strOk_of (by rw [tl_S]; exact ok_shortL hu)
  exact ⟨_, _, _, v1, v2, v3, rfl, key x hx, key y hy, key z hz, ok x fx, ok y fy, ok z fz⟩
section
variable {prog : Program} {w : World} {A : Around} {E : Value → Shared → Prop} {s : Shared} {h₀ : Heap} {L a b : Addr} {news : List (Addr × Obj)} {oa ob : Obj} {x y z : PySem.Str} {u1 u2 u3 v1 v2 v3 : Tok} {ka kb : Nat} {Q : Value → Shared → Prop}
theorem ne_tup3 (N : News h₀ L s.heap news) (ma : (a, oa) ∈ news) (mb : (b, ob) ∈ news) (ca : oa.cls = .type "tuple") (da : oa.data = .seq #[.str x u1, .str y u2, .str z u3] ka) (cb : ob.cls = .type "tuple") (db : ob.data = .seq #[.str x v1, .str y v2, .str z v3] kb)
    (ok : PyData.strOk x = true ∧ PyData.strOk y = true ∧ PyData.strOk z = true) (hu : A.units + 64 < cLine) (h : Q (.bool false) s) : wpAny (model prog w) A (compareOp .NotEq (.ref a) (.ref b)) Q E s := by
  obtain ⟨o1, o2, o3⟩ := ok
  have sh : SeqAt.shaped (.tuple [.str x, .str y, .str z]) = true := by
    unfold SeqAt.shaped
    rw [Bool.and_eq_true]
    refine ⟨?_, decide_eq_true ?_⟩
    · simp only [PyData.canLay0, PyData.canLayAll0, o1, o2, o3, Bool.and_self]
    · simp only [PyData.depth, PyData.depthAll]; decide
  refine ne_dataH (da := .tuple [.str x, .str y, .str z]) (db := .tuple [.str x, .str y, .str z]) (reads_tuple_at (N.get ma) ca da (.cons (.str _ _) (.cons (.str _ _) (.cons (.str _ _) .nil)))) (reads_tuple_at (N.get mb) cb db (.cons (.str _ _) (.cons (.str _ _) (.cons (.str _ _) .nil)))) sh sh hu ?_
  have e : PyData.eqv (.tuple [.str x, .str y, .str z]) (.tuple [.str x, .str y, .str z]) = true := by simp [PyData.eqv, PyData.eqvAll]
  rw [e]
  exact h
end
theorem short_same {sh : PySem.Str} {l : List Nat} {p p' q q' : Int} {v : Value} (h : IsS (shortL l p q) v) (e : tl sh = shortL l p' q') (ep : p = p') (eq : q = q') : ∃ t, v = .str sh t := by
  obtain ⟨t, rfl⟩ := h
  subst ep eq
  exact ⟨t, by rw [← e, S_tl]⟩
section
variable {sh r x pv : PySem.Str} {d m : Nat} {p q : Int}
theorem shown_len (es : tl sh = shortL (tl r) p q) (er : tl r = rep (tl x) d m) (hp : 6 ≤ p) (hn : (dbl (tl x)).length ≤ 38) (hm : 1 ≤ m) : 6 ≤ sh.length := by
  obtain ⟨k, l, e⟩ := shown_head (n := tl x) (d := d) (m := m) (q := q) hp hn hm
  rw [← len_tl, es, er, e]
  simp
theorem shown_first (es : tl sh = shortL (tl r) p q) (er : tl r = rep (tl x) d m) (hp : 6 ≤ p) (hn : (dbl (tl x)).length ≤ 38) (hm : 1 ≤ m) :
    5 ≤ (Txt.slice sh (some 1) none).length ∧ (tl (Txt.slice sh (some 1) none)).take 3 = [50, 53, 55] ∧ parseL (tl (Txt.slice sh (some 1) none)) = if (tl sh).getD 5 0 = 34 then tl x else [] := by
  obtain ⟨k, l, e⟩ := shown_head (n := tl x) (d := d) (m := m) (q := q) hp hn hm
  have e1 : tl (Txt.slice sh (some 1) none) = (shortL (rep (tl x) d m) p q).drop 1 := by rw [tl_slice_from (by decide), es, er]; rfl
  rw [← len_tl, e1]
  refine ⟨by rw [e]; simp, by rw [e]; simp, ?_⟩
  rw [es, er]
  exact shown_parse hp hn hm
theorem pv_yes (ep : tl pv = if (tl sh).getD 5 0 = 34 then tl x else []) (hl : 6 ≤ sh.length) (h : (Txt.item sh 5 == PySem.Str.ofString "\"") = true) : x = pv := by
  rw [beq_tl, quote_tl, item_at (by decide) (by omega)] at h
  have h' : (tl sh).getD 5 0 = 34 := List.head_eq_of_cons_eq h
  rw [if_pos h'] at ep
  exact str_eq ep.symm
theorem pv_no (ep : tl pv = if (tl sh).getD 5 0 = 34 then tl x else []) (hl : 6 ≤ sh.length) (h : (Txt.item sh 5 == PySem.Str.ofString "\"") = false) : PySem.Str.ofString "" = pv := by
  rw [beq_tl_f, quote_tl, item_at (by decide) (by omega)] at h
  have h' : ¬ (tl sh).getD 5 0 = 34 := fun q => h (congrArg (fun c => [c]) q)
  rw [if_neg h'] at ep
  apply str_eq
  rw [ep]; decide +kernel
theorem parse_is {v : Value} {l l' : List Nat} (h : IsS (parseL l) v) (e : parseL l = l') : ∃ pv t, v = .str pv t ∧ tl pv = l' := by
  obtain ⟨t, rfl⟩ := h
  exact ⟨_, t, rfl, by rw [tl_S, e]⟩
theorem lit_257h : tl (PySem.Str.ofString "257-") = [50, 53, 55, 45] := by decide +kernel
theorem hyphen (hl : r.length ≤ 132 ∧ 54 ≤ r.length) : ((PySem.Str.ofString "257-" ++ Txt.slice (Txt.slice r (some 3) none) (some 1) none).length ≤ 1000 ∧ 5 ≤ (PySem.Str.ofString "257-" ++ Txt.slice (Txt.slice r (some 3) none) (some 1) none).length) ∧ (tl (PySem.Str.ofString "257-" ++ Txt.slice (Txt.slice r (some 3) none) (some 1) none)).take 3 = [50, 53, 55] ∧ parseL (tl (PySem.Str.ofString "257-" ++ Txt.slice (Txt.slice r (some 3) none) (some 1) none)) = [] := by
  rw [← len_tl, tl_append, lit_257h]
  have hL : (tl (Txt.slice (Txt.slice r (some 3) none) (some 1) none)).length = r.length - 3 - 1 := by
    rw [tl_slice_from (by decide), tl_slice_from (by decide), List.length_drop, List.length_drop, len_tl]
    rfl
  refine ⟨by rw [List.length_append, hL]; simp only [List.length_cons, List.length_nil]; omega, by simp, ?_⟩
  unfold parseL
  rw [if_neg]
  simp
theorem hyphen_is {v : Value} {l : List Nat} (h : IsS (parseL l) v) (e : parseL l = []) : ∃ t, v = .str (PySem.Str.ofString "") t := by
  obtain ⟨t, rfl⟩ := h
  rw [e]
  exact ⟨t, congrArg (Value.str · t) (str_eq (by rw [tl_S]; decide +kernel))⟩
end
theorem ifexp_join {M : Model} {A : Around} {E : Value → Shared → Prop} {s : Shared} {pv : PySem.Str} {t : Sem Value} {Q : Value → Shared → Prop} (h1 : wpAny M A t (fun v s' => (∃ u, v = .str pv u) ∧ ∃ k, s' = { s with toks := k }) E s) (h2 : ∀ u k, Q (.str pv u) { s with toks := k }) : wpAny M A t Q E s :=
  wpAny_mono h1 (fun v s' ⟨⟨u, e⟩, k, e'⟩ => by subst e e'; exact h2 u k) fun _ _ h => h
theorem news4 {h₀ h : Heap} {L : Addr} {a b c d : Addr × Obj} {r : List (Addr × Obj)} (N : News h₀ L h (a :: b :: c :: d :: r)) : News h₀ L h r := fun q hq => N q (.tail _ (.tail _ (.tail _ (.tail _ hq))))
inductive SplitA {α : Type} : List α → List α → α → Prop
  | here {e : α} {l : List α} : SplitA (e :: l) l e
  | cons {a e : α} {l r : List α} : SplitA l r e → SplitA (a :: l) (a :: r) e
theorem SplitA.sub {α : Type} {l r : List α} {e : α} (h : SplitA l r e) : (∀ q ∈ r, q ∈ l) ∧ e ∈ l := by
  induction h with
  | here => exact ⟨fun q hq => .tail _ hq, .head _⟩
  | cons _ ih => 
    refine ⟨fun q hq => ?_, .tail _ ih.2⟩
    rcases List.mem_cons.mp hq with rfl | hq
    · exact .head _
    · exact .tail _ (ih.1 q hq)
section
variable {k : Nat} {w : World} {f : Addr} {vs : List Value} {R : List Value → Prop} {mg mb : PySem.Str → Option Value} {dp un : Nat} {gd : Option (List Code)} {env : Env} {outer : List Env} {A₀ : Around} {base h₀ : Heap} {L : Addr} {m : PySem.Str → Option Value} {s : Shared} {news rest : List (Addr × Obj)} {Q E : Value → Shared → Prop}
end
end
section
set_option maxHeartbeats 800000
/-- a contract of a def that raises an exception of an own class -/
def ConR (k : Nat) (w : World) (f : Addr) (vs : List Value) (C : Addr) (as : List Value) : Prop :=
  ∀ (mg mb : PySem.Str → Option Value) (dp un : Nat) (gd : Option (List Code)) (env : Env) (outer : List Env) (A₀ : Around) (base h₀ : Heap) (L : Addr) (m : PySem.Str → Option Value) (s : Shared) (Q E : Value → Shared → Prop),
    Below A₀ base outer h₀ → Fr h₀ L s.heap m → (hd.heap_1 w.params).In h₀ → News h₀ L s.heap [] → TopRead hd.view_1 LO mg mb h₀ → env.frame = some L → env.scope.kind = .function → dp + k < recursionLimit → un + 20 * k < cLine →
    (∀ e t g h' tk', Fr h₀ L g m → Kept s.heap [] g → RaisedS base g (env :: outer) e (.ref C) t as [] h' → g.UpToSlots h' → E (.ref e) { s with heap := h', toks := tk' }) →
    wpAny (model PySem.Challenge.rw_tv0008_01.row.prog w) (genTop dp un gd env outer) (call (.ref f) vs) Q E s
end
section
set_option maxHeartbeats 4000000
theorem refuse_spec {w : World} {x : PySem.Str} {t : Tok} (hx : x.length ≤ 1000) (hne : (Txt.slice x none (some 3) != PySem.Str.ofString "257") = true) : ConR 4 w 101 [.str x t] 92 [.str x t] := by
  k_with_none
  intro mg mb dp un gd env outer A₀ base h₀ L m s Q E B F
  k_fill
  intro X N T hf hk hd hu ret
  refine wpAny_call ?_
  k_dflt (refine' enter_plain ?k1 ?k2 ?k3 ?k4 ?k5 ?kA ?kF ?kK ?k6 ?k7 ?k8 ?k9 ?kB ?_ ?c2 ?c3 ?c4 ?c5; (case kA => exact rfl); (case kF => assumption); (case kK => assumption); (case k1 => k_asm); (case k2 => k_asm); (case k3 => k_asm); (case k4 => k_asm); (case k5 => k_asm); (case k6 => k_is); (case k7 => k_is); (case k8 => ktr_room); (case k9 => exact BindsTo.of_eq rfl); (case c5 => decide); (case kB => exact locs rfl); (case c2 => exact rfl); (case c3 => exact rfl); (case c4 => exact rfl); k_whole; intro g' L' h' FG' F' N' B' X' T' st l1 z1; (try k_lt l1); (try dsimp only); (try k_fold))
  k_with "leaving ref" => (k_here; (refine' leave_raiseS ?k1 ?k0 ?k2 ?k3 ?_; (case k0 => first | assumption | exact Heap.MadeExc.of (by assumption)); (case k2 => assumption); (case k1 => assumption); (case k3 => k_asm); k_whole; intro h' t' S' R' U'; (try dsimp only at S' R' U' ⊢)))
  k_steps
  exact ret _ _ _ _ _ FG' st S' U'
end
section
open PySem PySem.W PyProof.Rows PySem.Calls
set_option maxHeartbeats 800000
section
variable {prog : Program} {w : World} {A₀ : Around} {E : Value → Shared → Prop} {s' : Shared} {base g g₀ G B h₅ : Heap} {outer : List Env} {env : Env} {L b e t C : Addr} {m : PySem.Str → Option Value}
  {vs : List Value} {n : PySem.Str} {b₀ : Stmt} {suite : List Stmt} {pos np : Pos} {rest : List ExceptHandler} {Q : Flow → Shared → Prop} {news : List (Addr × Obj)} {KF : Frag}
  {p : Program} {loose : List PySem.Str} {mg mb : PySem.Str → Option Value} {x : PySem.Str}
theorem mem_C (hf : env.frame = some L) (hm : b ∈ (env :: outer).filterMap (·.frame)) : b = L ∨ b ∈ outer.filterMap (·.frame) := by
  rw [List.filterMap_cons, hf] at hm
  exact List.mem_cons.mp hm
theorem ground_C (K : Below A₀ base outer g) (F : Fr g L G m) (hf : env.frame = some L) (hBG : ∀ b o, G.get? b = some o → b ∉ (env :: outer).filterMap (·.frame) → B.get? b = some o) (hBh : B.StaysIn h₅) (hsm : G.UpToSlots h₅) :
    ∃ g', KtsTurn (outer.filterMap (·.frame)) g g' ∧ Fr g' L h₅ m ∧ Below A₀ base outer g' := by
  have there : ∀ b ∈ outer.filterMap (·.frame), ∃ o, g.get? b = some o := fun b hb => by
    obtain ⟨_, o, ho, _⟩ := K.frames.mem hb
    exact ⟨o, ho⟩
  have stays : ∀ b o, g.get? b = some o → b ∉ outer.filterMap (·.frame) → h₅.get? b = some o := fun b o eo nm => by
    refine hBh b o (hBG b o (F.keep b o eo) fun hm => ?_)
    rcases mem_C hf hm with z | z
    · rw [z, kts_self F] at eo; cases eo
    · exact nm z
  have slot : ∀ b o, g.get? b = some o → b ∈ outer.filterMap (·.frame) → ∃ sl, h₅.get? b = some { o with slots := sl } := fun b o eo hm => by
    obtain ⟨_, o', ho', hd⟩ := K.frames.mem hm
    rw [eo] at ho'
    cases ho'
    exact hsm b o (F.keep b o eo) hd
  obtain ⟨T, S⟩ := kts_turn_at there stays slot
  have up : ∀ b o, g.get? b = some o → (∀ vs, o.data ≠ .fields vs) → ∃ o', (ktsHeap h₅ (outer.filterMap (·.frame)) g).get? b = some o' ∧ o'.data = o.data := fun b o eo _ => by
    obtain ⟨sl, hs⟩ := T.up eo
    exact ⟨_, hs, rfl⟩
  refine ⟨_, T, ⟨hsm.ns F.ns, S, by rw [T.size]; exact F.above⟩, ⟨K.stack, fun b o eo => T.other b o (K.stays b o eo) fun hm => ?_, K.frames.of_keeps up⟩⟩
  rw [(K.frames.mem hm).1] at eo
  cases eo
theorem caught_C (R : RaisedS base G (env :: outer) e (.ref C) t vs [] s'.heap) (F : Fr g L G m) (NG : News g L G news) (K : Below A₀ base outer g) (hsm : G.UpToSlots s'.heap) (XB : KF.In base) (TB : TopRead p loose mg mb base)
    (D : KtsDicts (outer.filterMap (·.frame)) g) (T0 : KtsTurn (outer.filterMap (·.frame)) g₀ g) (hf : env.frame = some L)
    (ex : nsIn KF mainGlobals x = some (some (.ref C))) (q : ktsIn KF C "BaseException" = true)
    (k : ∀ h' g' news₂ tk, KtsTurn (outer.filterMap (·.frame)) g₀ g' → Fr g' L h' (fun y => if y = n then some (.ref e) else m y) → News g' L h' news₂ → Got news₂ e t (.ref C) vs → News g' L h' news → Below A₀ base outer g' → KF.In g' → TopRead p loose mg mb g' → KtsDicts (outer.filterMap (·.frame)) g' →
      wpAny (model prog w) ((A₀.deeper env).mark (some (.ref e))) (execs (b₀ :: suite) env)
        (fun f s₄ => wpAny (model prog w) (A₀.deeper env) (do bindName env n .none; unbindBehindTheSuite env n pos) (fun _ s₅ => Q f s₅) E s₄)
        (AsSuiteRaised (model prog w) ((A₀.deeper env).mark (some (.ref e))) env n pos (notedBy (model prog w) ((A₀.deeper env).mark (some (.ref e))) env (cameBackBy (model prog w) (A₀.deeper env) env E)))
        { s' with heap := h', toks := tk })
    (hloc : env.locals = L) (hg : env.globals = mainGlobals) (hk : env.scope.kind = .function) (hlo : env.kindOf n = some .local) (hx : env.kindOf x = some .globalImplicit) (hd : (x == ("__debug__" : PySem.Str)) = false) :
    wpAny (model prog w) (A₀.deeper env) (noteFrame (.ref e) env)
      (fun _ s₂ => wpAny (model prog w) (A₀.deeper env) (setFlight (.ref e) none) (fun _ s₃ =>
        wpAny (model prog w) (A₀.deeper env) (handleBy (.ref e) env (.ExceptHandler (some (.Name x np)) (some n) (b₀ :: suite) pos :: rest)) Q E s₃) E s₂) E s' := by
  obtain ⟨⟨B, hB, hBG, _, hfl, hnew⟩, htup⟩ := R
  have hL : B.get? L = none := by
    obtain ⟨_, ⟨L', _, hf', hn', _⟩, _⟩ := hfl.2.2.1
    rw [hf] at hf'
    obtain rfl : L = L' := Option.some.inj hf'
    exact hn'
  have hl : ∀ q ∈ news, B.get? q.1 = some q.2 := fun q hq => by
    refine hBG _ _ (NG q hq).1 fun hm => ?_
    rcases mem_C hf hm with z | z
    · exact (NG q hq).2.1 z
    · obtain ⟨_, o, ho, _⟩ := K.frames.mem z
      rw [(NG q hq).2.2] at ho; cases ho
  have fresh : ∀ {b : Addr}, B.get? b = none → (∀ o, g.get? b = some o → b ∈ outer.filterMap (·.frame) → False) → g.get? b = none := fun {b} hb hn => by
    cases q : g.get? b with
    | none => rfl
    | some o =>
      by_cases hm : b ∈ outer.filterMap (·.frame)
      · exact (hn o q hm).elim
      · have := hBG b o (F.keep b o q) fun hm' => by
          rcases mem_C hf hm' with z | z
          · rw [z, kts_self F] at q; cases q
          · exact hm z
        rw [hb] at this; cases this
  refine wpAny_looks_onW (Around.frames_deeper K.stack) hf hfl fun h₄ hheld₄ hsm₄ => ?_
  refine wpAny_landsW hheld₄ fun h₅ hheld hsm₅' => ?_
  have hsm₅ := hsm₄.trans hsm₅'
  obtain ⟨g₅, T₅, F₅, K₅⟩ := ground_C K F hf hBG hheld.1 (hsm.trans hsm₅)
  have X₅ : KF.In g₅ := XB.keeps K₅.stays
  have P₅ : TopRead p loose mg mb g₅ := TB.keeps K₅.stays
  obtain ⟨ob, hob, hobc⟩ := hheld.there
  obtain ⟨nm, q', N, bs, bm, hdct, sn, sub, ab, col, dd, k0, k1, k2, k3, k5, newId, hC, hbase, hbT⟩ := kts_cls X₅ q
  have hC₅ := F₅.keep _ _ hC
  refine wpAny_handleBy_cons (codeAny_handlers_test (nameG_K F₅ X₅ P₅ ex ?_ hg hk hx hd)) (by intro q; cases q)
  refine wpAny_excMatches_sub_self hC₅ hob hobc hbase (codeAny_handlers_suite_as ?_)
  refine lands_againW hheld fun h₆ hfl₆ hsm₆ => ?_
  have hsm₇ := (hsm.trans hsm₅).trans hsm₆
  obtain ⟨g₆, T₆, F₆, K₆⟩ := ground_C K F hf hBG hfl₆.1 hsm₇
  obtain ⟨oe, ws, hoe, hoec, hoed, hoe0⟩ := hfl₆.first
  obtain ⟨ot, nt, hot, hotc, hotd⟩ := (htup.of_slots hsm₅).of_slots hsm₆
  have ne₆ : g₆.get? e = none := T₆.none_ _ (fresh hfl₆.2.1 fun o ho m => by
    obtain ⟨_, o', ho', hd'⟩ := K.frames.mem m
    rw [ho] at ho'
    cases ho'
    obtain ⟨sl, hs⟩ := hsm₇ _ _ (F.keep _ _ ho) hd'
    rw [hoe] at hs
    cases hs
    exact hd' _ hoed)
  have nt₆ : g₆.get? t = none := T₆.none_ _ (fresh hnew fun o ho m => by
    obtain ⟨o', es, n', ho', hd'⟩ := D _ m
    rw [ho] at ho'
    cases ho'
    obtain ⟨sl, hs⟩ := hsm₇ _ _ (F.keep _ _ ho) (fun vs q => by rw [hd'] at q; cases q)
    rw [hot] at hs
    cases hs
    exact absurd (hd'.symm.trans hotd) (by intro z; cases z))
  have N₆ := News.more F₆ (News.more F₆ News.nil hot (fun es n q => by rw [hotd] at q; cases q) nt₆) hoe (fun es n q => by rw [hoed] at q; cases q) ne₆
  have Nl : News g₆ L h₆ news := fun q hq => ⟨hfl₆.1 _ _ (hl q hq), (NG q hq).2.1, T₆.none_ _ (NG q hq).2.2⟩
  subst hloc
  refine wpAny_storeName_local hlo F₆.ns (fun h₇ hn hs => ?_) (by rw [hk]; rfl)
  exact k h₇ g₆ _ _ (T0.trans T₆) (F₆.set hn hs) (News.set N₆ hs) ⟨oe, ot, ws, nt, .head _, .tail _ (.head _), hoec, hoed, hoe0, hotc, hotd⟩ (News.set Nl hs) K₆ (XB.keeps K₆.stays) (TB.keeps K₆.stays) (D.turn T₆)
end

def LeaveC (R : Result → Shared → Prop) (v : Value) (s' : Shared) : Prop := R (.ok (.ret v)) s'
section
variable {prog : Program} {w : World} {A₀ A : Around} {s : Shared} {base h₀ : Heap} {outer : List Env} {L : Addr} {m : PySem.Str → Option Value} {env : Env} {given : List (Addr × Obj)} {K : Frag} {p : Program} {loose : List PySem.Str} {mg mb : PySem.Str → Option Value}
  {R : Result → Shared → Prop} {name qual : PySem.Str} {params : Arguments} {body : List Stmt} {scope : Scope} {dV kV doc pm cdv ct oc : Value} {an od : Option Addr} {osl : Array (Option Value)} {f : Addr} {args : Args} {binds : List (PySem.Str × Value)}
/-- the new frame of a def with cells, once its parameters are known -/
theorem frame_cellsC {E : Value → Shared → Prop} (B : Below A₀ base outer h₀) (F : Fr h₀ L s.heap m) (X₀ : K.In h₀) (N : News h₀ L s.heap given) (T : TopRead p loose mg mb h₀) (hA : A.frames = some (env :: outer)) (hf : env.frame = some L) (hke : env.scope.kind = .function)
    (hkind : (binds.all fun y => scope.names.lookup y.1 == some .local || scope.names.lookup y.1 == some .cell) = true)
    (hnd : ((cellsFrom 0 scope.names []).map (·.1)).Nodup)
    (h : ∀ g L' h₁ tk cells, Fr h₀ L g m → Fr g L' h₁ (bindL (envOfC qual scope L' f cdv).kindOf binds fun _ => none) → News g L' h₁ (cells ++ given) →
      CellsAre (bindC (envOfC qual scope L' f cdv).kindOf binds fun _ => none) (cellsFrom (L' + 1) scope.names []) cells → Below A base (env :: outer) g → K.In g → TopRead p loose mg mb g → Kept s.heap given g → (∀ p ∈ given, p.1 < L') → s.heap.objs.size ≤ L' →
      wpAny (model prog w) (A.deeper (envOfC qual scope L' f cdv)) (execs body (envOfC qual scope L' f cdv))
        (fun fl s' => LeaveC R (match fl with | .ret v => v | _ => .none) s')
        (fun e s' => wpAny (model prog w) (A.deeper (envOfC qual scope L' f cdv)) (leaving (envOfC qual scope L' f cdv) e) (fun _ s'' => R (.error e) s'') (fun e' s'' => R (.error e') s'') s')
        { s with heap := h₁, toks := tk })
    (hk : scope.kind = .function) :
    wpAny (model prog w) A.in1 (newFunctionEnv scope mainGlobals [] binds (qual ++ ".<locals>.") (some f) cdv none builtinsNs) (fun env' s₂ => s₂.heap.NoLimit ∧ codeAny (model prog w) A (.func body env') R s₂) E s := by
  obtain ⟨FG, BG, st, _⟩ := groundX (R := R) B F N hA hf hke
  refine wpAny_newFunctionEnv_cells hk (kindsX hkind _) fun env' he s' x => ?_
  subst he
  refine ⟨(T.nolimit.keeps F.keep).keeps x.toInCall.keep, codeAny_func ?_⟩
  obtain ⟨h₁, tk, rfl, _⟩ := x.done
  have hk₁ := x.toInCall.keep
  obtain ⟨cells, NC, Y⟩ := Cl.news (h₀ := s.heap) (Nat.le_refl _) fun n c hm => ⟨x.cell n c (lookup_of_mem_nodup (cellsFrom_names scope.names 0 (s.heap.objs.size + 1) [] [] rfl ▸ hnd) hm), x.above n c hm⟩
  refine wpAny_mono (h _ s.heap.objs.size h₁ tk cells FG ⟨x.toInCall.ns, fun b o e => hk₁ b o (of_hideAll _ e), Nat.le_of_eq (hideAll_size _ _)⟩ (fun p hp => ?_) Y BG (X₀.keeps st) (T.keeps st) (fun b o e n => hideAll_get _ e n) (fun p hp => Heap.lt_size (N p hp).1) (Nat.le_refl _)) (fun fl s' hl => hl) fun _ _ y => y
  rcases List.mem_append.mp hp with hp | hp
  · refine ⟨(NC p hp).1, (NC p hp).2.1, ?_⟩
    cases q : (hideAll s.heap (given.map (·.1))).get? p.1 with
    | none => rfl
    | some o => have := of_hideAll _ q; rw [(NC p hp).2.2] at this; cases this
  · exact ⟨hk₁ _ _ (N p hp).1, Nat.ne_of_lt (Heap.lt_size (N p hp).1), hideAll_none _ (List.mem_map_of_mem hp)⟩

/-- into a def with cells -/
theorem enter_cellsC (B : Below A₀ base outer h₀) (F : Fr h₀ L s.heap m) (X₀ : K.In h₀) (N : News h₀ L s.heap given) (T : TopRead p loose mg mb h₀) (hA : A.frames = some (env :: outer)) (hf : env.frame = some L) (hke : env.scope.kind = .function)
    (ho : K.lookup f = some ⟨oc, od, .func (fnOf name qual params body scope dV kV doc pm an cdv ct), osl⟩) (hcd : codeIn K cdv qual = true) (hroom : A.depth < recursionLimit)
    (hbind : BindsTo s (fnOf name qual params body scope dV kV doc pm an cdv ct) args binds)
    (hkind : (binds.all fun y => scope.names.lookup y.1 == some .local || scope.names.lookup y.1 == some .cell) = true)
    (hnd : ((cellsFrom 0 scope.names []).map (·.1)).Nodup)
    (h : ∀ g L' h₁ tk cells, Fr h₀ L g m → Fr g L' h₁ (bindL (envOfC qual scope L' f cdv).kindOf binds fun _ => none) → News g L' h₁ (cells ++ given) →
      CellsAre (bindC (envOfC qual scope L' f cdv).kindOf binds fun _ => none) (cellsFrom (L' + 1) scope.names []) cells → Below A base (env :: outer) g → K.In g → TopRead p loose mg mb g → Kept s.heap given g → (∀ p ∈ given, p.1 < L') → s.heap.objs.size ≤ L' →
      wpAny (model prog w) (A.deeper (envOfC qual scope L' f cdv)) (execs body (envOfC qual scope L' f cdv))
        (fun fl s' => LeaveC R (match fl with | .ret v => v | _ => .none) s')
        (fun e s' => wpAny (model prog w) (A.deeper (envOfC qual scope L' f cdv)) (leaving (envOfC qual scope L' f cdv) e) (fun _ s'' => R (.error e) s'') (fun e' s'' => R (.error e') s'') s')
        { s with heap := h₁, toks := tk })
    (hco : scope.isCoroutine = false) (hgen : scope.isGenerator = false) (hk : scope.kind = .function) : codeAny (model prog w) A (.call (.ref f) args) R s := by
  refine codeAny_call_function (fd := fnOf name qual params body scope dV kV doc pm an cdv ct) (body := body) hroom ((X₀.keeps F.keep) _ _ ho) rfl hco hgen rfl (codeRec_of (X₀.keeps F.keep) hcd) (hbind _ _ _ _ ?_)
  exact frame_cellsC B F X₀ N T hA hf hke hkind hnd h hk
end
theorem name_goes_C {M : Model} {A : Around} {E : Value → Shared → Prop} {s : Shared} {h₀ : Heap} {env : Env} {L : Addr} {m : PySem.Str → Option Value} {news : List (Addr × Obj)} {n : PySem.Str} {pos : Pos} {Q : Unit → Shared → Prop} (F : Fr h₀ L s.heap m) (N : News h₀ L s.heap news)
    (h : ∀ h' v, Fr h₀ L h' (fun x => if x = n then v else m x) → News h₀ L h' news → Q () { s with heap := h', toks := s.toks + 1 })
    (hloc : env.locals = L) (hk : env.scope.kind = .function) (hl : env.kindOf n = some .local) :
    wpAny M A (do bindName env n .none; unbindBehindTheSuite env n pos) Q E s := by
  subst hloc
  exact wpAny_nameGoes_keeps hl F.ns (by rw [hk]; rfl) fun h' v hn hs => h h' v (F.set hn hs) (N.set hs)
section
variable {k : Nat} {w : World} {f : Addr} {vs as : List Value} {C : Addr} {given : List (Addr × Obj)} {R : Value → Prop} {mg mb : PySem.Str → Option Value} {dp un : Nat} {gd : Option (List Code)} {env : Env} {outer : List Env} {A₀ : Around} {base h₀ : Heap} {L : Addr} {m : PySem.Str → Option Value} {s : Shared} {news rest : List (Addr × Obj)} {Q E : Value → Shared → Prop}
/-- a contract of a def, called from the law itself, that catches exceptions and makes code objects of generator expressions -/
def ConW (k : Nat) (w : World) (f : Addr) (vs : List Value) (given : List (Addr × Obj)) (R : Value → Prop) : Prop :=
  ∀ (mg mb : PySem.Str → Option Value) (dp un : Nat) (gd : Option (List Code)) (env : Env) (A₀ : Around) (h₀ : Heap) (L : Addr) (m : PySem.Str → Option Value) (s : Shared) (Q E : Value → Shared → Prop) (op : Obj) (bm : Addr) (ob : Obj),
    Below A₀ h₀ [] h₀ → Fr h₀ L s.heap m → (hd.heap_1 w.params).In h₀ → News h₀ L s.heap (given ++ [(56, op)]) → TabOk op → BMod h₀ mainGlobals mg bm ob → TopRead hd.view_1 LO mg mb h₀ → env.frame = some L → env.scope.kind = .function → dp + k < recursionLimit → un + 20 * k < cLine →
    (∀ v op' h' tk' g', R v → TabOk op' → (∀ b o, b ≠ 56 → b ∉ given.map (·.1) → b ≠ L → s.heap.get? b = some o → h'.get? b = some o) → (∀ o, s.heap.get? L = some o → ∃ sl, h'.get? L = some { o with slots := sl }) → h'.get? 56 = some op' → (AllBare s.gens → AllBare g') → Q v { s with heap := h', toks := tk', gens := g' }) →
    wpAny (model PySem.Challenge.rw_tv0008_01.row.prog w) (genTop dp un gd env []) (call (.ref f) vs) Q E s
theorem conW_use {op : Obj} {bm : Addr} {ob : Obj} (B : Below A₀ h₀ [] h₀) (F : Fr h₀ L s.heap m) (X : (hd.heap_1 w.params).In h₀) (N : News h₀ L s.heap news) (hP : (56, op) ∈ news) (TO : TabOk op) (BM : BMod h₀ mainGlobals mg bm ob) (T : TopRead hd.view_1 LO mg mb h₀) (hk : env.scope.kind = .function) (C : ConW k w f vs given R) (hg : ∀ q ∈ given, q ∈ news) (hr : ∀ q ∈ rest, q ∈ news) (hrP : ∀ q ∈ rest, q.1 ≠ 56) (hrG : ∀ q ∈ rest, q.1 ∉ given.map (·.1)) (hd : dp + k < recursionLimit) (hu : un + 20 * k < cLine)
    (h : ∀ v op' h' tk' g', R v → TabOk op' → Fr h₀ L h' m → News h₀ L h' ((56, op') :: rest) → (AllBare s.gens → AllBare g') → Q v { s with heap := h', toks := tk', gens := g' }) (hf : env.frame = some L := by rfl) :
    wpAny (model PySem.Challenge.rw_tv0008_01.row.prog w) (genTop dp un gd env []) (call (.ref f) vs) Q E s := by
  have sub : ∀ q ∈ given ++ [(56, op)], q ∈ news := fun q hq => by
    rcases List.mem_append.mp hq with hq | hq
    · exact hg q hq
    · rw [List.mem_singleton.mp hq]; exact hP
  refine C mg mb dp un gd env A₀ h₀ L m s Q E op bm ob B F X (fun q hq => N _ (sub q hq)) TO BM T hf hk hd hu fun v op' h' tk' g' hR hT kk kL hp hb => ?_
  have n56 : ∀ b o, h₀.get? b = some o → b ≠ 56 := fun b o e q => by rw [q, (N _ hP).2.2] at e; cases e
  have nG : ∀ b o, h₀.get? b = some o → b ∉ given.map (·.1) := fun b o e q => by
    obtain ⟨p, hp, e'⟩ := List.mem_map.mp q
    rw [← e', (N _ (hg p hp)).2.2] at e; cases e
  have nL : ∀ b o, h₀.get? b = some o → b ≠ L := fun b o e q => by rw [q, kts_self F] at e; cases e
  have ns : h'.Ns L m := by
    obtain ⟨oL, es, ep, hL, hLd, hLk, hLf⟩ := F.ns
    obtain ⟨sl, hs⟩ := kL _ hL
    exact ⟨_, es, ep, hs, hLd, hLk, hLf⟩
  refine h v op' h' tk' g' hR hT ⟨ns, fun b o e => kk b o (n56 b o e) (nG b o e) (nL b o e) (F.keep b o e), F.above⟩ (fun q hq => ?_) hb
  rcases List.mem_cons.mp hq with rfl | hq
  · exact ⟨hp, (N _ hP).2⟩
  · exact ⟨kk _ _ (hrP q hq) (hrG q hq) (N q (hr q hq)).2.1 (N q (hr q hq)).1, (N q (hr q hq)).2⟩
end
section
variable {sh r x : PySem.Str} {d m : Nat} {p q : Int}
theorem ne257 {a : Nat} {l : List Nat} (e : tl x = a :: l) (h : (a :: l).take 3 ≠ [50, 53, 55]) : (Txt.slice x none (some 3) != PySem.Str.ofString "257") = true := by
  rw [bne_tl, tl_slice_to (by decide), s257_tl, e]
  exact h
theorem ne_shown (es : tl sh = shortL (tl r) p q) (er : tl r = rep (tl x) d m) (hp : 6 ≤ p) (hn : (dbl (tl x)).length ≤ 38) (hm : 1 ≤ m) : (Txt.slice sh none (some 3) != PySem.Str.ofString "257") = true := by
  obtain ⟨k, l, e⟩ := shown_head (n := tl x) (d := d) (m := m) (q := q) hp hn hm
  refine ne257 (es.trans (by rw [er, e])) (by simp)
theorem lit_157 : tl (PySem.Str.ofString "157") = [49, 53, 55] := by decide +kernel
theorem lit_247 : tl (PySem.Str.ofString "247") = [50, 52, 55] := by decide +kernel
theorem lit_250 : tl (PySem.Str.ofString "250") = [50, 53, 48] := by decide +kernel
theorem ne_157 : (Txt.slice (PySem.Str.ofString "157" ++ x) none (some 3) != PySem.Str.ofString "257") = true := ne257 (a := 49) (l := 53 :: 55 :: tl x) (by rw [tl_append, lit_157]; rfl) (by simp)
theorem ne_247 : (Txt.slice (PySem.Str.ofString "247" ++ x) none (some 3) != PySem.Str.ofString "257") = true := ne257 (a := 50) (l := 52 :: 55 :: tl x) (by rw [tl_append, lit_247]; rfl) (by simp)
theorem ne_250 : (Txt.slice (PySem.Str.ofString "250" ++ x) none (some 3) != PySem.Str.ofString "257") = true := ne257 (a := 50) (l := 53 :: 48 :: tl x) (by rw [tl_append, lit_250]; rfl) (by simp)
theorem lit_len : (PySem.Str.ofString "157").length = 3 ∧ (PySem.Str.ofString "247").length = 3 ∧ (PySem.Str.ofString "250").length = 3 := by
  refine ⟨?_, ?_, ?_⟩
  · rw [← len_tl, lit_157]; rfl
  · rw [← len_tl, lit_247]; rfl
  · rw [← len_tl, lit_250]; rfl
theorem code_len {c : PySem.Str} (hc : c.length = 3) (hl : r.length ≤ 132 ∧ 54 ≤ r.length) : (c ++ Txt.slice r (some 3) none).length ≤ 1000 := by
  have := slice_from_len (x := r) (i := 3) (by decide) (by omega)
  have h2 : (Txt.slice r (some 3) none).length ≤ 132 := by
    rw [← len_tl, tl_slice_from (by decide), List.length_drop, len_tl]; omega
  rw [PySem.Str.length_append, hc]; omega
end
end
section
open PySem PySem.W PyProof.Rows PySem.Calls
set_option maxHeartbeats 800000
section
variable {prog : Program} {w : World} {A : Around} {E : Value → Shared → Prop} {s : Shared} {e t0 C N : Addr} {o : Obj} {vs : Array Value} {x : PySem.Str} {tk : Tok} {nm q : PySem.Str}
  {bs bm : List Value} {hdct : Bool} {sn : List PySem.Str} {sub : List Value} {ab : Bool} {col : Option Bool} {dd : Option Addr} {k0 k1 k2 k3 k5 : Option Value} {newId : String}
theorem bexcStr_own {Q : Fin → Shared → Prop} (ho : s.heap.get? e = some o) (hd : o.data = .fields vs) (h0 : vs[0]? = some (.ref t0)) (ht : s.heap.TupAt t0 [.str x tk]) (hq : Q (.done (.ret (.str x tk))) s) :
    wpAny (model prog w) A (Builtin.«BaseException.__str__» ⟨[.ref e], []⟩) Q E s := by
  have key : ∀ {A : Around} {M : Model} {E : Value → Shared → Prop} {Q : Value × List Value → Shared → Prop}, Q (.ref t0, [.str x tk]) s → wpAny M A (Builtin.BaseException.bexcArgs (.ref e)) Q E s := by
    intro A M E Q hq
    obtain ⟨ot, k, hto, _, htd⟩ := ht
    unfold Builtin.BaseException.bexcArgs
    refine wpAny_bind (wpAny_field ho hd h0 (wpAny_bind (wpAny_seqItems hto htd ?_)))
    show wpAny M A (pure (Value.ref t0, [Value.str x tk].toArray.toList)) Q E s
    exact wpAny_pure hq
  unfold Builtin.«BaseException.__str__»
  repeat (first | with_reducible refine key ?_ | wp_step)
  exact hq
theorem checkStr_own {M : Model} {Q : Unit → Shared → Prop} (hC : s.heap.get? C = some (excClassObj nm q C N bs bm hdct sn sub ab col dd k0 k1 k2 k3 k5 newId)) (hB : bm.contains (.type "BaseException") = true)
    (hx : s.heap.get? e = some o) (hc : o.cls = .ref C) (hq : Q () s) : wpAny M A (checkBuiltinCall "BaseException.__str__" ⟨[.ref e], []⟩) Q E s := by
  have hk : builtinKind "BaseException.__str__" = some .slot := by decide +kernel
  have hsplit : splitId "BaseException.__str__" = some ("BaseException", "__str__") := by decide +kernel
  have hcB : (Value.ref C :: bm).contains (.type "BaseException") = true := by rw [List.contains_cons, hB]; simp
  have ha := F.args_bexc_str (.ref e)
  obtain ⟨h, g, d, t, os⟩ := s
  simp only [checkBuiltinCall, hk, hsplit]
  refine wpAny_bind ?_
  · unfold isInstance
    repeat (first | (with_reducible refine wpAny_loadPart_at hx ?_; rw [hc]) | (with_reducible refine wpAny_isSubtype_exc hC ?_; rw [hcB]) | wp_step)
    exact hq
theorem callStr_own {Q : Value → Shared → Prop} (hC : s.heap.get? C = some (excClassObj nm q C N bs bm hdct sn sub ab col dd k0 k1 k2 k3 k5 newId)) (hB : bm.contains (.type "BaseException") = true)
    (hx : s.heap.get? e = some o) (hc : o.cls = .ref C) (hd : o.data = .fields vs) (h0 : vs[0]? = some (.ref t0)) (ht : s.heap.TupAt t0 [.str x tk]) (hq : Q (.str x tk) s) :
    wpAny (model prog w) A (call (.builtin "BaseException.__str__") [.ref e]) Q E s :=
  wpAny_call (codeAny_call_builtin PySem.F.excStr_Exception.str.plain PySem.F.entry_bexc_str (checkStr_own hC hB hx hc (bexcStr_own hx hd h0 ht hq)))
theorem special_own {Q : Option Value → Shared → Prop} (LT : Looks (model prog w) s.heap (typeLookup (.ref C) "__str__") (some (.builtin "BaseException.__str__"))) (hC : s.heap.get? C = some (excClassObj nm q C N bs bm hdct sn sub ab col dd k0 k1 k2 k3 k5 newId)) (hB : bm.contains (.type "BaseException") = true)
    (hx : s.heap.get? e = some o) (hc : o.cls = .ref C) (hd : o.data = .fields vs) (h0 : vs[0]? = some (.ref t0)) (ht : s.heap.TupAt t0 [.str x tk]) (hq : Q (some (.str x tk)) s) :
    wpAny (model prog w) A (callSpecial? (.ref e) "__str__") Q E s := by
  have LS : Looks (model prog w) s.heap (specialOf (.ref e) "__str__") (some (.builtin "BaseException.__str__")) := (Looks.ld hx).andThen (by rw [hc]; exact LT)
  unfold callSpecial?
  refine wpAny_bind (LS.here ?_)
  refine wpAny_holding ?_
  rw [PySem.F.excStr_Exception.str.bind]
  refine wpAny_bind (wpAny_pure ?_)
  exact wpAny_bind (callStr_own hC hB hx hc hd h0 ht (wpAny_pure hq))
theorem strOf_own (hu : A.units < cLine) {Q : Value → Shared → Prop} (LT : Looks (model prog w) s.heap (typeLookup (.ref C) "__str__") (some (.builtin "BaseException.__str__"))) (hC : s.heap.get? C = some (excClassObj nm q C N bs bm hdct sn sub ab col dd k0 k1 k2 k3 k5 newId)) (hB : bm.contains (.type "BaseException") = true)
    (hx : s.heap.get? e = some o) (hc : o.cls = .ref C) (hd : o.data = .fields vs) (h0 : vs[0]? = some (.ref t0)) (ht : s.heap.TupAt t0 [.str x tk]) (hq : Q (.str x tk) s) :
    wpAny (model prog w) A (Builtin.Str.strOf (.ref e)) Q E s := by
  unfold Builtin.Str.strOf
  repeat (first | with_reducible refine wpAny_cRoomFor hu ?_ | with_reducible refine special_own LT hC hB hx hc hd h0 ht ?_ | wp_step)
  exact hq
theorem str_of_own (hu : A.units + 2 < cLine) {Q : Value → Shared → Prop} (LT : ∀ M, Looks M s.heap (typeLookup (.ref C) "__str__") (some (.builtin "BaseException.__str__"))) (hC : s.heap.get? C = some (excClassObj nm q C N bs bm hdct sn sub ab col dd k0 k1 k2 k3 k5 newId)) (hB : bm.contains (.type "BaseException") = true)
    (hx : s.heap.get? e = some o) (hc : o.cls = .ref C) (hd : o.data = .fields vs) (h0 : vs[0]? = some (.ref t0)) (ht : s.heap.TupAt t0 [.str x tk]) (hq : Q (.str x tk) s) :
    wpAny (model prog w) A (call (.type "str") [.ref e]) Q E s :=
  callType_new PySem.F.called_str (by decide) (PySem.F.typeCall_str_1 _) (PySem.F.newCall_str_1 _) (fun obj => PySem.F.args_object_init_2 obj _) PySem.F.entry_str_new
    (meets_str_new (S := fun A' R s' => A'.units + 1 < cLine ∧ (∀ M, Looks M s'.heap (typeLookup (.ref C) "__str__") (some (.builtin "BaseException.__str__"))) ∧ s'.heap.get? C = some (excClassObj nm q C N bs bm hdct sn sub ab col dd k0 k1 k2 k3 k5 newId) ∧ s'.heap.get? e = some o ∧ s'.heap.TupAt t0 [.str x tk] ∧ R (.ok (.ret (.str x tk))) s')
      fun _ _ A' _ _ h => strOf_own (A := A'.in1) h.1 (h.2.1 _) h.2.2.1 hB h.2.2.2.1 hc hd h0 h.2.2.2.2.1 h.2.2.2.2.2)
    ⟨(show A.units + 1 + 1 < cLine from hu), LT, hC, hx, ht, typeIs_str _ _ _, hq⟩
theorem str_own {KF : Frag} {h₀ : Heap} {L t : Addr} {m : PySem.Str → Option Value} {news : List (Addr × Obj)} {Q : Value → Shared → Prop} (X : KF.In h₀) (F : Fr h₀ L s.heap m) (Nw : News h₀ L s.heap news) (G : Got news e t (.ref C) [.str x tk])
    (fs : findIn KF (.ref C) "__str__" = some (some (.builtin "BaseException.__str__"))) (cl : ktsIn KF C "BaseException" = true) (hu : A.units + 2 < cLine) (hq : Q (.str x tk) s) : wpAny (model prog w) A (call (.type "str") [.ref e]) Q E s := by
  obtain ⟨oe, ot, ws, nt, h1, h2, hc, hd, h0, h4, h5⟩ := G
  have X' : KF.In s.heap := X.keeps F.keep
  obtain ⟨nm, q', N, bs, bm, hdct, sn, sub, ab, col, dd, k0, k1, k2, k3, k5, newId, hC, hbase, _⟩ := kts_cls X' cl
  exact str_of_own hu (fun M => looks_findIn X' fs) hC hbase (Nw _ h1).1 hc hd h0 ⟨ot, nt, (Nw _ h2).1, h4, h5⟩ hq
end
end
section
open PySem PySem.W PyProof.Rows PySem.Calls
set_option maxHeartbeats 800000
/-- gM is the caller's ground g' without the caller's frame L, which the callee's ledger holds -/
structure Grd (h₀ gM : Heap) (L : Addr) (m : PySem.Str → Option Value) (g' : Heap) (o0 : Obj) : Prop where
  FG : Fr h₀ L g' m
  at' : g'.get? L = some o0
  low : ∀ b o, gM.get? b = some o → b ≠ L ∧ g'.get? b = some o
  high : ∀ b o, b ≠ L → g'.get? b = some o → gM.get? b = some o
  none_ : gM.get? L = none
  size : gM.objs.size = g'.objs.size
def SlotOf (o0 oL : Obj) : Prop := ∃ sl, oL = { o0 with slots := sl }
theorem slot_ns {h h' : Heap} {L : Addr} {m : PySem.Str → Option Value} {o0 oL : Obj} (n : h.Ns L m) (e : h.get? L = some o0) (S : SlotOf o0 oL) (e' : h'.get? L = some oL) : h'.Ns L m := by
  obtain ⟨sl, rfl⟩ := S
  obtain ⟨o, es, ep, ho, hd, r⟩ := n
  rw [e] at ho; cases ho
  exact ⟨_, es, ep, e', hd, r⟩
section
variable {h₀ gM g' h h₁ : Heap} {L L' : Addr} {m m' m₁ : PySem.Str → Option Value} {o0 oL : Obj} {news given : List (Addr × Obj)} {A A₀ : Around} {env envT : Env} {K : Frag} {p : Program} {loose : List PySem.Str} {mg mb : PySem.Str → Option Value} {s : Shared}
theorem hideL (F0 : Fr h₀ L s.heap m) (N0 : News h₀ L s.heap given) (FG : Fr h₀ L g' m) (st : Kept s.heap given g') (F' : Fr g' L' h₁ m₁) (N' : News g' L' h₁ news) (X : K.In h₀) (T : TopRead p loose mg mb h₀) :
    ∃ gM o0, s.heap.get? L = some o0 ∧ Grd h₀ gM L m g' o0 ∧ SlotOf o0 o0 ∧ Fr gM L' h₁ m₁ ∧ News gM L' h₁ ((L, o0) :: news) ∧ K.In gM ∧ TopRead p loose mg mb gM ∧ (∀ q ∈ news, q.1 ≠ L) ∧ @LT.lt Nat instLTNat L L' := by
  obtain ⟨o0, es, ep, ho, _⟩ := F0.ns
  have nL : L ∉ given.map (·.1) := fun q => by
    obtain ⟨p, hp, e⟩ := List.mem_map.mp q
    exact (N0 p hp).2.1 e
  have hg := st _ _ ho nL
  have low : ∀ b o, (hideAll g' [L]).get? b = some o → b ≠ L ∧ g'.get? b = some o := fun b o e => by
    refine ⟨fun q => ?_, of_hideAll _ e⟩
    rw [q, hideAll_none [L] (.head _)] at e; cases e
  have high : ∀ b o, b ≠ L → g'.get? b = some o → (hideAll g' [L]).get? b = some o := fun b o n e => hideAll_get _ e fun q => n (List.mem_singleton.mp q)
  have nn : ∀ b, g'.get? b = none → (hideAll g' [L]).get? b = none := fun b e => by
    cases q : (hideAll g' [L]).get? b with
    | none => rfl
    | some o => rw [(low b o q).2] at e; cases e
  have up : ∀ b o, h₀.get? b = some o → (hideAll g' [L]).get? b = some o := fun b o e => high b o (fun q => by rw [q, kts_self F0] at e; cases e) (FG.keep b o e)
  have neL : L ≠ L' := fun q => by have := kts_self F'; rw [← q, hg] at this; cases this
  refine ⟨hideAll g' [L], o0, ho, ⟨FG, hg, low, high, hideAll_none _ (.head _), hideAll_size _ _⟩, ⟨o0.slots, rfl⟩, ⟨F'.ns, fun b o e => F'.keep b o (low b o e).2, by rw [hideAll_size]; exact F'.above⟩, fun q hq => ?_, X.keeps up, T.keeps up, fun q hq e => ?_, Nat.lt_of_lt_of_le (Heap.lt_size hg) F'.above⟩
  · rcases List.mem_cons.mp hq with rfl | hq
    · exact ⟨F'.keep _ _ hg, neL, hideAll_none _ (.head _)⟩
    · exact ⟨(N' q hq).1, (N' q hq).2.1, nn _ (N' q hq).2.2⟩
  · have := (N' q hq).2.2
    rw [e, hg] at this; cases this
/-- the true ground for a call -/
theorem ground2 (B : Below A₀ h₀ [] h₀) (hA : A.frames = some [env]) (hf : env.frame = some L) (hk : env.scope.kind = .function) (G : Grd h₀ gM L m g' o0) (F : Fr gM L' h m') (N : News gM L' h news) (hm : (L, oL) ∈ news) (S : SlotOf o0 oL) :
    ∃ gF, (∀ b o, gM.get? b = some o → gF.get? b = some o) ∧ gF.get? L = some oL ∧ (∀ b o, gF.get? b = some o → b ≠ L → gM.get? b = some o) ∧ Fr gF L' h m' ∧ Below A h₀ [env] gF ∧ KtsDicts ([env].filterMap (·.frame)) gF := by
  have hfr : oL.isFreed = false := (Heap.get?_some_iff.mp (N _ hm).1).2
  have atL : (g'.update L fun _ => oL).get? L = some oL := Heap.get?_update_self (fun _ => oL) G.at' hfr
  have other : ∀ b, b ≠ L → (g'.update L fun _ => oL).get? b = g'.get? b := fun b n => Heap.get?_update_other _ _ (fun q => n q.symm)
  have up : ∀ b o, gM.get? b = some o → (g'.update L fun _ => oL).get? b = some o := fun b o e => by rw [other b (G.low b o e).1]; exact (G.low b o e).2
  have keepF : ∀ b o, (g'.update L fun _ => oL).get? b = some o → h.get? b = some o := fun b o e => by
    by_cases q : b = L
    · rw [q, atL] at e; cases e; rw [q]; exact (N _ hm).1
    · rw [other b q] at e; exact F.keep b o (G.high b o q e)
  have FL : Fr h₀ L (g'.update L fun _ => oL) m := ⟨slot_ns G.FG.ns G.at' S atL, fun b o e => by
    have hb : b ≠ L := fun q => by rw [q, kts_self G.FG] at e; cases e
    rw [other b hb]; exact G.FG.keep b o e, G.FG.above⟩
  have BP := pushX B FL hf hk
  refine ⟨g'.update L fun _ => oL, up, atL, fun b o e n => ?_, ⟨F.ns, keepF, by rw [Heap.size_after_update, ← G.size]; exact F.above⟩, ⟨hA, BP.stays, BP.frames⟩, fun b hb => ?_⟩
  · rw [other b n] at e; exact G.high b o n e
  · have fr : [env].filterMap (·.frame) = [L] := by simp [hf]
    rw [fr] at hb
    rw [List.mem_singleton.mp hb]
    obtain ⟨o, es, ep, ho, hd', _⟩ := FL.ns
    exact ⟨o, es, ep, ho, hd'⟩
end
section
variable {k : Nat} {w : World} {f C : Addr} {vs as : List Value} {R : Value → Prop} {RG : List Value → Prop} {mg mb : PySem.Str → Option Value} {dp un : Nat} {gd : Option (List Code)} {env envT : Env} {A₀ A₁ : Around} {h₀ gM g' : Heap} {L L' e t : Addr} {m m' : PySem.Str → Option Value} {s s' : Shared} {news rest mid : List (Addr × Obj)} {Q E : Value → Shared → Prop} {o0 oL op ob : Obj} {bm : Addr}
theorem con_use2 (F : Fr gM L' s.heap m') (X : (hd.heap_1 w.params).In gM) (N : News gM L' s.heap news) (T : TopRead hd.view_1 LO mg mb gM) (hk : envT.scope.kind = .function) (Cn : Con k w f vs [] R) (G : Grd h₀ gM L m g' o0) (S : SlotOf o0 oL) (hm : (L, oL) ∈ news) (B : Below A₀ h₀ [] h₀) (hfL : env.frame = some L) (hkL : env.scope.kind = .function) (hd : dp + k < recursionLimit) (hu : un + 20 * k < cLine)
    (h : ∀ v h' tk', R v → Fr gM L' h' m' → News gM L' h' news → Q v { s with heap := h', toks := tk' }) (hf : envT.frame = some L' := by rfl) :
    wpAny (model PySem.Challenge.rw_tv0008_01.row.prog w) (genTop dp un gd envT [env]) (call (.ref f) vs) Q E s := by
  obtain ⟨gF, up, _, _, FF, BF, _⟩ := ground2 (A := genTop 0 0 none env []) B rfl hfL hkL G F N hm S
  exact Cn mg mb dp un gd envT [env] _ h₀ gF L' m' s Q E BF FF (X.keeps up) News.nil (T.keeps up) hf hk hd hu fun v h' tk' hR hk' => h v h' tk' hR (F.keeps hk') (N.grown hk')
theorem conG_useS2 (F : Fr gM L' s.heap m') (X : (hd.heap_1 w.params).In gM) (N : News gM L' s.heap news) (T : TopRead hd.view_1 LO mg mb gM) (hk : envT.scope.kind = .function) (Cn : ConG k w f vs RG) (G : Grd h₀ gM L m g' o0) (S : SlotOf o0 oL) (hm : (L, oL) ∈ news) (B : Below A₀ h₀ [] h₀) (hfL : env.frame = some L) (hkL : env.scope.kind = .function)
    (hS : SplitA news rest (56, op)) (n56 : L ≠ 56) (TO : TabOk op) (BM : BMod h₀ mainGlobals mg bm ob) (hrP : ∀ q ∈ rest, q.1 ≠ 56) (hd : dp + k < recursionLimit) (hu : un + 20 * k < cLine)
    (h : ∀ D rs op' h' tk' g', RG rs → TabOk op' → Fr gM L' h' m' → News gM L' h' ((D, tup rs) :: (56, op') :: rest) → (∀ q ∈ news, q.1 < D) → (AllBare s.gens → AllBare g') → Q (.ref D) { s with heap := h', toks := tk', gens := g' }) (hf : envT.frame = some L' := by rfl) :
    wpAny (model PySem.Challenge.rw_tv0008_01.row.prog w) (genTop dp un gd envT [env]) (call (.ref f) vs) Q E s := by
  obtain ⟨gF, up, _, down, FF, BF, _⟩ := ground2 (A := genTop 0 0 none env []) B rfl hfL hkL G F N hm S
  have lowM : ∀ b o, h₀.get? b = some o → gM.get? b = some o := fun b o e => G.high b o (fun q => by rw [q, kts_self G.FG] at e; cases e) (G.FG.keep b o e)
  have N1 : News gF L' s.heap [(56, op)] := fun q hq => by
    rw [List.mem_singleton.mp hq]
    have n := N _ hS.sub.2
    refine ⟨n.1, n.2.1, ?_⟩
    cases z : gF.get? 56 with
    | none => rfl
    | some o => have := down _ _ z (Ne.symm n56); rw [n.2.2] at this; cases this
  refine Cn mg mb dp un gd envT [env] _ h₀ gF L' m' s Q E op bm ob BF FF (X.keeps up) N1 TO ((BM.keeps lowM).keeps up) (T.keeps up) hf hk hd hu fun D rs op' h' tk' gg' hR hT kk hp hD hz hb => ?_
  have g56 : ∀ b o, gM.get? b = some o → b ≠ 56 := fun b o e q => by rw [q, (N _ hS.sub.2).2.2] at e; cases e
  refine h D rs op' h' tk' gg' hR hT ⟨F.ns.at' fun o e => kk _ o (Ne.symm (N _ hS.sub.2).2.1) e, fun b o e => kk b o (g56 b o e) (F.keep b o e), F.above⟩ (fun q hq => ?_) (fun q hq => Nat.lt_of_lt_of_le (Heap.lt_size (N q hq).1) hz) hb
  rcases List.mem_cons.mp hq with rfl | hq
  · refine ⟨hD, fun e => Nat.lt_irrefl L' (Nat.lt_of_lt_of_le F.ns.lt (e ▸ hz)), ?_⟩
    cases z : gM.get? D with
    | none => rfl
    | some o => exact absurd (Heap.lt_size (F.keep _ _ z)) (Nat.not_lt.mpr hz)
  rcases List.mem_cons.mp hq with rfl | hq
  · exact ⟨hp, (N _ hS.sub.2).2⟩
  · exact ⟨kk _ _ (hrP q hq) (N q (hS.sub.1 q hq)).1, (N q (hS.sub.1 q hq)).2⟩
def Flown (h₀ gM : Heap) (L L' : Addr) (m' : PySem.Str → Option Value) (env envT : Env) (oL : Obj) (news : List (Addr × Obj)) (C : Addr) (as : List Value) (e t : Addr) (h' : Heap) : Prop :=
  gM.objs.size ≤ L' ∧ ∃ Gh gF, (∀ b o, gM.get? b = some o → gF.get? b = some o) ∧ gF.get? L = some oL ∧ (∀ b o, gF.get? b = some o → b ≠ L → gM.get? b = some o) ∧ Fr gF L' Gh m' ∧ News gM L' Gh news ∧ (∀ A₁ : Around, A₁.frames = some [env] → Below A₁ h₀ [env] gF) ∧ KtsDicts ([env].filterMap (·.frame)) gF ∧ RaisedS h₀ Gh (envT :: [env]) e (.ref C) t as [] h' ∧ Gh.UpToSlots h'
theorem conR_use2 (F : Fr gM L' s.heap m') (X : (hd.heap_1 w.params).In gM) (N : News gM L' s.heap news) (T : TopRead hd.view_1 LO mg mb gM) (hk : envT.scope.kind = .function) (Cn : ConR k w f vs C as) (G : Grd h₀ gM L m g' o0) (S : SlotOf o0 oL) (hm : (L, oL) ∈ news) (B : Below A₀ h₀ [] h₀) (hfL : env.frame = some L) (hkL : env.scope.kind = .function) (hd : dp + k < recursionLimit) (hu : un + 20 * k < cLine)
    (h : ∀ e t h' tk', Flown h₀ gM L L' m' env envT oL news C as e t h' → E (.ref e) { s with heap := h', toks := tk' }) (hf : envT.frame = some L' := by rfl) :
    wpAny (model PySem.Challenge.rw_tv0008_01.row.prog w) (genTop dp un gd envT [env]) (call (.ref f) vs) Q E s := by
  obtain ⟨gF, up, atL, down, FF, BF, DF⟩ := ground2 (A := genTop 0 0 none env []) B rfl hfL hkL G F N hm S
  exact Cn mg mb dp un gd envT [env] _ h₀ gF L' m' s Q E BF FF (X.keeps up) News.nil (T.keeps up) hf hk hd hu fun e t Gh h' tk' Fg kg R U => h e t h' tk' ⟨F.above, Gh, gF, up, atL, down, Fg, N.grown (fun b o eo => kg b o eo (fun q => nomatch q)), fun A₁ hA => ⟨hA, BF.stays, BF.frames⟩, DF, R, U⟩
variable {prog : Program} {KF : Frag} {p : Program} {loose : List PySem.Str} {x n : PySem.Str} {b₀ : Stmt} {suite : List Stmt} {pos np : Pos} {hs : List ExceptHandler} {QF : Flow → Shared → Prop} {EF : Value → Shared → Prop}
theorem caught_C2 (FL : Flown h₀ gM L L' m' env envT oL news C as e t s'.heap) (S : SlotOf o0 oL) (hS : SplitA news rest (L, oL)) (hrL : ∀ q ∈ rest, q.1 ≠ L) (X : KF.In h₀) (T : TopRead p loose mg mb h₀) (hA : A₁.frames = some [env]) (hfL : env.frame = some L) (hf : envT.frame = some L')
    (ex : nsIn KF mainGlobals x = some (some (.ref C))) (q : ktsIn KF C "BaseException" = true)
    (k : ∀ h' news₂ tk oL', SlotOf o0 oL' → Fr gM L' h' (fun y => if y = n then some (.ref e) else m' y) → News gM L' h' news₂ → Got news₂ e t (.ref C) as → News gM L' h' ((L, oL') :: rest) →
      wpAny (model prog w) ((A₁.deeper envT).mark (some (.ref e))) (execs (b₀ :: suite) envT)
        (fun f s₄ => wpAny (model prog w) (A₁.deeper envT) (do bindName envT n .none; unbindBehindTheSuite envT n pos) (fun _ s₅ => QF f s₅) EF s₄)
        (AsSuiteRaised (model prog w) ((A₁.deeper envT).mark (some (.ref e))) envT n pos (notedBy (model prog w) ((A₁.deeper envT).mark (some (.ref e))) envT (cameBackBy (model prog w) (A₁.deeper envT) envT EF)))
        { s' with heap := h', toks := tk })
    (hloc : envT.locals = L') (hg : envT.globals = mainGlobals) (hk : envT.scope.kind = .function) (hlo : envT.kindOf n = some .local) (hx : envT.kindOf x = some .globalImplicit) (hd : (x == ("__debug__" : PySem.Str)) = false) :
    wpAny (model prog w) (A₁.deeper envT) (noteFrame (.ref e) envT)
      (fun _ s₂ => wpAny (model prog w) (A₁.deeper envT) (setFlight (.ref e) none) (fun _ s₃ =>
        wpAny (model prog w) (A₁.deeper envT) (handleBy (.ref e) envT (.ExceptHandler (some (.Name x np)) (some n) (b₀ :: suite) pos :: hs)) QF EF s₃) EF s₂) EF s' := by
  obtain ⟨hz, Gh, gF, up, atL, down, FF, NG, BF, DF, RS, U⟩ := FL
  have fr : [env].filterMap (·.frame) = [L] := by simp [hfL]
  have NF : News gF L' Gh rest := fun q hq => by
    have n := NG _ (hS.sub.1 q hq)
    refine ⟨n.1, n.2.1, ?_⟩
    cases z : gF.get? q.1 with
    | none => rfl
    | some o => have := down _ _ z (hrL q hq); rw [n.2.2] at this; cases this
  refine caught_C RS FF NF (BF A₁ hA) U X T DF KtsTurn.refl hf ex q (fun h' g₂ news₂ tk KT F₂ N₂ Gt N' _ _ _ _ => ?_) hloc hg hk hlo hx hd
  rw [fr] at KT
  have lowM : ∀ b o, gM.get? b = some o → g₂.get? b = some o := fun b o e => KT.other b o (up b o e) fun q => by
    rw [List.mem_singleton.mp q] at e
    have := (NG _ hS.sub.2).2.2
    rw [this] at e; cases e
  have noneM : ∀ b, g₂.get? b = none → gM.get? b = none := fun b e => by
    cases z : gM.get? b with
    | none => rfl
    | some o => rw [lowM b o z] at e; cases e
  obtain ⟨sl, hsl⟩ := KT.frame L oL atL (.head _)
  obtain ⟨sl0, rfl⟩ := S
  refine k h' news₂ tk _ ⟨sl, rfl⟩ ⟨F₂.ns, fun b o e => F₂.keep b o (lowM b o e), hz⟩ (fun q hq => ⟨(N₂ q hq).1, (N₂ q hq).2.1, noneM _ (N₂ q hq).2.2⟩) Gt fun q hq => ?_
  rcases List.mem_cons.mp hq with rfl | hq
  · exact ⟨F₂.keep _ _ hsl, (NG _ hS.sub.2).2⟩
  · exact ⟨(N' q hq).1, (N' q hq).2.1, noneM _ (N' q hq).2.2⟩
end
section
variable {k : Nat} {w : World} {f : Addr} {vs : List Value} {given : List (Addr × Obj)} {R : Value → Prop}
theorem conW_of2
    (H : ∀ (mg mb : PySem.Str → Option Value) (dp un : Nat) (gd : Option (List Code)) (env : Env) (A₀ : Around) (h₀ : Heap) (L : Addr) (m : PySem.Str → Option Value) (s : Shared) (Q E : Value → Shared → Prop) (op : Obj) (bm : Addr) (ob : Obj),
      Below A₀ h₀ [] h₀ → Fr h₀ L s.heap m → (hd.heap_1 w.params).In h₀ → News h₀ L s.heap (given ++ [(56, op)]) → TabOk op → BMod h₀ mainGlobals mg bm ob → TopRead hd.view_1 LO mg mb h₀ → env.frame = some L → env.scope.kind = .function → dp + k < recursionLimit → un + 20 * k < cLine →
      (∀ v op' g gM o0 oL L' m' h' tk' g', R v → TabOk op' → Kept s.heap (given ++ [(56, op)]) g → Grd h₀ gM L m g o0 → s.heap.get? L = some o0 → SlotOf o0 oL → Fr gM L' h' m' → News gM L' h' [(56, op'), (L, oL)] → (AllBare s.gens → AllBare g') → Q v { s with heap := h', toks := tk', gens := g' }) →
      wpAny (model PySem.Challenge.rw_tv0008_01.row.prog w) (genTop dp un gd env []) (call (.ref f) vs) Q E s) : ConW k w f vs given R := by
  intro mg mb dp un gd env A₀ h₀ L m s Q E op bm ob B F X N TO BM T hf hk hd hu ret
  refine H mg mb dp un gd env A₀ h₀ L m s Q E op bm ob B F X N TO BM T hf hk hd hu ?_
  intro v op' g gM o0 oL L' m' h' tk' g' hR hT st G e0 S F' N' hb
  have nin : ∀ b : Addr, b ≠ 56 → b ∉ given.map (·.1) → b ∉ (given ++ [((56 : Addr), op)]).map (fun p => p.1) := fun b n n' q => by
    rw [List.map_append] at q
    rcases List.mem_append.mp q with q | q
    · exact n' q
    · exact n (List.mem_singleton.mp q)
  refine ret v op' h' tk' g' hR hT (fun b o n n' nL e => F'.keep _ _ (G.high b o nL (st b o e (nin b n n')))) (fun o e => ?_) (N' _ (.head _)).1 hb
  rw [e0] at e
  cases e
  obtain ⟨sl, rfl⟩ := S
  exact ⟨sl, (N' _ (.tail _ (.head _))).1⟩
theorem low_56 {h₀ h : Heap} {L : Addr} {m : PySem.Str → Option Value} (X : (hd.heap_1 w.params).In h₀) (F : Fr h₀ L h m) : @LT.lt Nat instLTNat 56 L := by
  have e : ∃ o, (hd.heap_1 w.params).lookup 61 = some o := ⟨_, by with_unfolding_all rfl⟩
  obtain ⟨o, ho⟩ := e
  exact Nat.lt_of_lt_of_le (Nat.lt_trans (by decide) (Heap.lt_size (X _ _ ho))) F.above
end
theorem unrEnd_S {h₀ h' : Heap} {L I : Addr} {it : Obj} {P : (PySem.Str → Option Value) → List (Addr × Obj) → Prop} {s₁ : Shared} {tk : Nat} {m' : PySem.Str → Option Value} {all rest : List (Addr × Obj)} (F : Fr h₀ L h' m') (N : News h₀ L h' all) (hS : SplitA all rest (I, it)) (off : ∀ p ∈ rest, p.1 ≠ I) (r : P m' rest) :
    UnrEnd h₀ L s₁ I it P { s₁ with heap := h', toks := tk } :=
  UnrEnd.intro F N rest (fun p hp => by
    rcases List.mem_cons.mp hp with rfl | hp
    · exact hS.sub.2
    · exact hS.sub.1 p hp) off r
theorem ne_same {prog : Program} {w : World} {A : Around} {E : Value → Shared → Prop} {s : Shared} {x : PySem.Str} {t u : Tok} {Q : Value → Shared → Prop} (h : Q (.bool false) s) : wpAny (model prog w) A (compareOp .NotEq (.str x t) (.str x u)) Q E s := by
  refine ne_str ?_
  rw [bne_self_eq_false]
  exact h
end
section
set_option maxHeartbeats 40000000
theorem told_spec {w : World} {x y : PySem.Str} {t1 t2 t3 t4 : Tok} {nl : Addr} {nn : Nat} {number many : Int} (lx : (dbl (tl x)).length ≤ 38) (ly : (dbl (tl y)).length ≤ 38) (fx : Fine (tl x)) (fy : Fine (tl y)) (hn : number = 0 ∨ number = 2) (hm : many = 40 ∨ many = 80) (hnl : @LT.lt Nat instLTNat 56 nl) : ConW 12 w 132 [.ref nl, .int number t3, .int many t4] [(nl, { cls := .type "list", data := .seq #[.str x t1, .str y t2] nn })] (IsS (lcp (tl x) (tl y))) := by
  k_with_none
  k_with "execs cons" => (k_fold; walk_at "execs cons")
  k_with "exec If" => (k_fold; walk_at "exec If")
  k_with "eval Name" => ((k_here; (with_reducible show wpAny _ _ (eval (Expr.Name _ _) (genEnv _ _ _ _ _ _)) _ _ _); k_dflt (first | (refine' ldVarG ?F ?v ?_ ?a ?b; (case F => k_asm); (case a => rfl); (case b => rfl); (case v => rfl)) | (refine' gname_F ?N ?c ?m ?d ?_ ?a ?b ?e ?f; (case a => rfl); (case b => rfl); (case e => rfl); (case f => rfl); (case N => k_asm); (case c => rfl); (case m => k_mem); (case d => k_asm)) | (refine' nameG_K ?F ?X ?T ?e ?_ ?k4 ?k5 ?k6 ?k7; (case k4 => rfl); (case k5 => rfl); (case k6 => rfl); (case k7 => decide); (case F => k_asm); (case X => k_asm); (case T => k_asm); (case e => k_is)))))
  k_with "call builtin:str.replace" => ((k_here; (refine' replace_q ?_ ?_ ?_ ?_ ?_); (all_goals first | (intro r9 t9 k9 e9 l9) | omega | (show @Ne Nat _ _; omega))))
  k_with "subscriptTail Name Constant ref int" => ((k_here; (with_reducible show wpAny _ _ (subscriptTail _ _ (Value.ref _) (Value.int _ _)) _ _ _); kim_at))
  k_with "subscriptTail Name Name ref int" => ((k_here; (with_reducible show wpAny _ _ (subscriptTail _ _ (Value.ref _) (Value.int _ _)) _ _ _); kim_at))
  k_with "subscriptTail Name BinOp ref int" => ((k_here; (with_reducible show wpAny _ _ (subscriptTail _ _ (Value.ref _) (Value.int _ _)) _ _ _); kim_at))
  k_with "eval Name" => ((k_here; (with_reducible show wpAny _ _ (eval (Expr.Name (PySem.Str.ofString "len") _) (compEnvC _ _ _ _)) _ _ _); k_dflt (refine' nameG_B ?F ?X ?T ?e ?v ?n ?_ ?k4 ?k8 ?k5 ?k6 ?k7; (case k4 => rfl); (case k8 => rfl); (case k5 => rfl); (case k6 => rfl); (case k7 => decide); (case F => k_asm); (case X => k_asm); (case T => k_asm); (case e => k_is); (case v => boot_by_name); (case n => decide); k_whole)))
  k_with "CompRest" => (((repeat ((with_reducible rename (_ ≠ _ ∧ _) => c9); clear c9)); (repeat ((with_reducible rename ((_ ≠ _ ∧ _) ∧ _) => c9); clear c9)); (with_unfolding_all first | (refine LCg.CompRest.succ ?_; intro vq' Iq' oIq' Cq' oCq' Dq' mq' hq' tkq' Eq' hvq' hCq' hxq' Fq' Nq' offq' neq'; (first | lcg_open hvq' | (obtain ⟨t9q', hv9q'⟩ := hvq'; subst hv9q')); (try simp only [LCg.Off3, and_true] at offq')) | refine LCg.CompRest.zero ?_)))
  k_with "pyIter ref" => (((with_reducible show wpAny _ _ (pyIter (Value.ref _)) (fun it s₂ => LoopAtV _ _ _ _ _ _ _ _ _ it s₂) _ _); k_listUnr))
  k_with "exec Try" => ((k_here; (refine wpAny_Try_except ?_)))
  k_with "LeaveC" => ((unfold LeaveC; (try dsimp only)))
  k_with "subscriptTail Subscript Name Name Constant ref int" => ((k_here; (with_reducible show wpAny _ _ (subscriptTail _ _ (Value.ref _) (Value.int _ _)) _ _ _); kim_at))
  k_with "mem cons" => ((first | exact .head _ | exact (.tail _ (.head _)) | exact (.tail _ (.tail _ (.head _))) | exact (.tail _ (.tail _ (.tail _ (.head _)))) | exact (.tail _ (.tail _ (.tail _ (.tail _ (.head _))))) | exact (.tail _ (.tail _ (.tail _ (.tail _ (.tail _ (.head _)))))) | exact (.tail _ (.tail _ (.tail _ (.tail _ (.tail _ (.tail _ (.head _))))))) | exact (.tail _ (.tail _ (.tail _ (.tail _ (.tail _ (.tail _ (.tail _ (.head _)))))))) | exact (.tail _ (.tail _ (.tail _ (.tail _ (.tail _ (.tail _ (.tail _ (.tail _ (.head _))))))))) | exact (.tail _ (.tail _ (.tail _ (.tail _ (.tail _ (.tail _ (.tail _ (.tail _ (.tail _ (.head _)))))))))) | exact (.tail _ (.tail _ (.tail _ (.tail _ (.tail _ (.tail _ (.tail _ (.tail _ (.tail _ (.tail _ (.head _))))))))))) | exact (.tail _ (.tail _ (.tail _ (.tail _ (.tail _ (.tail _ (.tail _ (.tail _ (.tail _ (.tail _ (.tail _ (.head _)))))))))))) | exact (.tail _ (.tail _ (.tail _ (.tail _ (.tail _ (.tail _ (.tail _ (.tail _ (.tail _ (.tail _ (.tail _ (.tail _ (.head _))))))))))))) | exact (.tail _ (.tail _ (.tail _ (.tail _ (.tail _ (.tail _ (.tail _ (.tail _ (.tail _ (.tail _ (.tail _ (.tail _ (.tail _ (.head _)))))))))))))) | exact (.tail _ (.tail _ (.tail _ (.tail _ (.tail _ (.tail _ (.tail _ (.tail _ (.tail _ (.tail _ (.tail _ (.tail _ (.tail _ (.tail _ (.head _))))))))))))))) | exact (.tail _ (.tail _ (.tail _ (.tail _ (.tail _ (.tail _ (.tail _ (.tail _ (.tail _ (.tail _ (.tail _ (.tail _ (.tail _ (.tail _ (.tail _ (.head _))))))))))))))))))
  refine conW_of2 ?_
  intro mg mb dp un gd env A₀ h₀ L m s Q E op bm ob B F
  k_fill
  intro X N TO BM T hf hk hd hu ret
  try simp only [List.cons_append, List.nil_append] at N
  refine wpAny_call ?_
  k_dflt (refine' enter_cellsC ?k1 ?k2 ?k3 ?k4 ?k5 ?kA ?kF ?kK ?k6 ?k7 ?k8 ?k9 ?kB ?kD ?_ ?c2 ?c3 ?c4; (case kA => exact rfl); (case kF => assumption); (case kK => assumption); (case k1 => k_asm); (case k2 => k_asm); (case k3 => k_asm); (case k4 => k_asm); (case k5 => k_asm); (case k6 => k_is); (case k7 => k_is); (case k8 => ktr_room); (case k9 => exact BindsTo.of_eq rfl); (case kB => exact rfl); (case kD => decide +kernel); (case c2 => exact rfl); (case c3 => exact rfl); (case c4 => exact rfl); k_whole; intro g' L' h' tk' cells' FG' F' N' Y' B' X' T' st l1 z1; (try k_lt l1); k_cells Y'; (try simp only [List.cons_append, List.nil_append] at N'); (try dsimp only); (try k_fold))
  obtain ⟨gM, o0, hL0, GR, SL0, FM, NM, XM, TM, neL, ltL⟩ := hideL F N FG' st F' N' X T
  clear F' N' B' X' T'
  have hL56 : @LT.lt Nat instLTNat 56 L := low_56 X F
  have hnlL : @Ne Nat nl L := (N _ (.head _)).2.1
  have hm1 : 1 ≤ many.toNat := by omega
  have dx : (dbl (tl x)).length ≤ 38 := lx
  have lx40 : x.length ≤ 38 := by have := dbl_ge (tl x); rw [len_tl] at this; omega
  have ly40 : y.length ≤ 38 := by have := dbl_ge (tl y); rw [len_tl] at this; omega
  k_with "compareOp NotEq ref ref" => (k_here; k_dflt (refine' ne_tup3 ?N ?ma ?mb ?ca ?da ?cb ?db ?ok ?hu ?_; (case N => k_asm); (case ma => k_mem); (case mb => k_mem); (case ca => exact rfl); (case cb => exact rfl); (case da => exact rfl); (case db => exact rfl); (case ok => assumption); (case hu => ktr_units); k_whole); (repeat ((with_reducible rename (_ ≠ _ ∧ _) => c9); clear c9)); (repeat ((with_reducible rename ((_ ≠ _ ∧ _) ∧ _) => c9); clear c9)); (with_reducible rename News _ _ _ (_ :: _ :: _ :: _ :: _) => N8); (have N9 := news4 N8); clear N8)
  k_with "binaryOp Add str str" => (k_here; (with_reducible refine' add_rep ?a1 ?a2 ?a3 ?a4 ?a5 ?_); (case a1 => with_reducible assumption); (case a2 => with_reducible assumption); (case a3 => with_reducible assumption); (case a4 => first | exact .inl rfl | exact .inr rfl); (case a5 => with_reducible assumption); intro r0 t9 k9 er0 lr0; (repeat ((with_reducible rename (_ ≤ PySem.Str.length (_ ++ _) ∧ PySem.Str.length (_ ++ _) ≤ _) => a8); clear a8)))
  k_with "call ref" => (k_here; (with_reducible show wpAny _ _ (call (Value.ref 120) [Value.str _ _, Value.str _ _]) _ _ _); k_dflt (refine' con_use2 ?k1 ?k2 ?k3 ?k4 ?k5 (common_spec (by omega) (by omega)) ?kg ?ks ?km B hf hk ?k8 ?k9 ?_; (case k1 => k_asm); (case k3 => k_asm); (case k2 => k_asm); (case k4 => k_asm); (case k5 => exact rfl); (case km => first | exact .head _ | exact (.tail _ (.head _)) | exact (.tail _ (.tail _ (.head _))) | exact (.tail _ (.tail _ (.tail _ (.head _)))) | exact (.tail _ (.tail _ (.tail _ (.tail _ (.head _))))) | exact (.tail _ (.tail _ (.tail _ (.tail _ (.tail _ (.head _)))))) | exact (.tail _ (.tail _ (.tail _ (.tail _ (.tail _ (.tail _ (.head _))))))) | exact (.tail _ (.tail _ (.tail _ (.tail _ (.tail _ (.tail _ (.tail _ (.head _)))))))) | exact (.tail _ (.tail _ (.tail _ (.tail _ (.tail _ (.tail _ (.tail _ (.tail _ (.head _))))))))) | exact (.tail _ (.tail _ (.tail _ (.tail _ (.tail _ (.tail _ (.tail _ (.tail _ (.tail _ (.head _)))))))))) | exact (.tail _ (.tail _ (.tail _ (.tail _ (.tail _ (.tail _ (.tail _ (.tail _ (.tail _ (.tail _ (.head _))))))))))) | exact (.tail _ (.tail _ (.tail _ (.tail _ (.tail _ (.tail _ (.tail _ (.tail _ (.tail _ (.tail _ (.tail _ (.head _)))))))))))) | exact (.tail _ (.tail _ (.tail _ (.tail _ (.tail _ (.tail _ (.tail _ (.tail _ (.tail _ (.tail _ (.tail _ (.tail _ (.head _))))))))))))) | exact (.tail _ (.tail _ (.tail _ (.tail _ (.tail _ (.tail _ (.tail _ (.tail _ (.tail _ (.tail _ (.tail _ (.tail _ (.tail _ (.head _)))))))))))))) | exact (.tail _ (.tail _ (.tail _ (.tail _ (.tail _ (.tail _ (.tail _ (.tail _ (.tail _ (.tail _ (.tail _ (.tail _ (.tail _ (.tail _ (.head _))))))))))))))) | exact (.tail _ (.tail _ (.tail _ (.tail _ (.tail _ (.tail _ (.tail _ (.tail _ (.tail _ (.tail _ (.tail _ (.tail _ (.tail _ (.tail _ (.tail _ (.head _))))))))))))))))); (case ks => assumption); (case kg => assumption); (case k8 => ktr_room); (case k9 => ktr_units)); intro v9 h' tk' hR9 F' N'; (obtain ⟨bg, tb, kb, kc, e9, pb, h3, lb, ab, ac, nbc, fb, fr0, fr1⟩ := begin_of (by with_reducible assumption) (by with_reducible assumption) fx fy hn rfl rfl hR9); subst e9; clear hR9; (try dsimp only))
  k_with "call ref" => (k_here; (with_reducible show wpAny _ _ (call (Value.ref 61) [Value.str _ _, Value.str _ _, Value.str _ _]) _ _ _); k_dflt (refine' conG_useS2 ?k1 ?k2 ?k3 ?k4 ?k5 (csr_spec (by omega) (by omega) (by omega) (by omega) fb fr0 fr1 ab ac nbc) ?kg ?ks ?km B hf hk ?kS (Nat.ne_of_gt hL56) ?kO BM ?kr ?k8 ?k9 ?_; (case k1 => k_asm); (case k3 => k_asm); (case k2 => k_asm); (case k4 => k_asm); (case k5 => exact rfl); (case km => first | exact .head _ | exact (.tail _ (.head _)) | exact (.tail _ (.tail _ (.head _))) | exact (.tail _ (.tail _ (.tail _ (.head _)))) | exact (.tail _ (.tail _ (.tail _ (.tail _ (.head _))))) | exact (.tail _ (.tail _ (.tail _ (.tail _ (.tail _ (.head _)))))) | exact (.tail _ (.tail _ (.tail _ (.tail _ (.tail _ (.tail _ (.head _))))))) | exact (.tail _ (.tail _ (.tail _ (.tail _ (.tail _ (.tail _ (.tail _ (.head _)))))))) | exact (.tail _ (.tail _ (.tail _ (.tail _ (.tail _ (.tail _ (.tail _ (.tail _ (.head _))))))))) | exact (.tail _ (.tail _ (.tail _ (.tail _ (.tail _ (.tail _ (.tail _ (.tail _ (.tail _ (.head _)))))))))) | exact (.tail _ (.tail _ (.tail _ (.tail _ (.tail _ (.tail _ (.tail _ (.tail _ (.tail _ (.tail _ (.head _))))))))))) | exact (.tail _ (.tail _ (.tail _ (.tail _ (.tail _ (.tail _ (.tail _ (.tail _ (.tail _ (.tail _ (.tail _ (.head _)))))))))))) | exact (.tail _ (.tail _ (.tail _ (.tail _ (.tail _ (.tail _ (.tail _ (.tail _ (.tail _ (.tail _ (.tail _ (.tail _ (.head _))))))))))))) | exact (.tail _ (.tail _ (.tail _ (.tail _ (.tail _ (.tail _ (.tail _ (.tail _ (.tail _ (.tail _ (.tail _ (.tail _ (.tail _ (.head _)))))))))))))) | exact (.tail _ (.tail _ (.tail _ (.tail _ (.tail _ (.tail _ (.tail _ (.tail _ (.tail _ (.tail _ (.tail _ (.tail _ (.tail _ (.tail _ (.head _))))))))))))))) | exact (.tail _ (.tail _ (.tail _ (.tail _ (.tail _ (.tail _ (.tail _ (.tail _ (.tail _ (.tail _ (.tail _ (.tail _ (.tail _ (.tail _ (.tail _ (.head _))))))))))))))))); (case ks => assumption); (case kg => assumption); (case kS => first | exact .here | exact (.cons .here) | exact (.cons (.cons .here)) | exact (.cons (.cons (.cons .here))) | exact (.cons (.cons (.cons (.cons .here)))) | exact (.cons (.cons (.cons (.cons (.cons .here))))) | exact (.cons (.cons (.cons (.cons (.cons (.cons .here)))))) | exact (.cons (.cons (.cons (.cons (.cons (.cons (.cons .here))))))) | exact (.cons (.cons (.cons (.cons (.cons (.cons (.cons (.cons .here)))))))) | exact (.cons (.cons (.cons (.cons (.cons (.cons (.cons (.cons (.cons .here))))))))) | exact (.cons (.cons (.cons (.cons (.cons (.cons (.cons (.cons (.cons (.cons .here)))))))))) | exact (.cons (.cons (.cons (.cons (.cons (.cons (.cons (.cons (.cons (.cons (.cons .here))))))))))) | exact (.cons (.cons (.cons (.cons (.cons (.cons (.cons (.cons (.cons (.cons (.cons (.cons .here)))))))))))) | exact (.cons (.cons (.cons (.cons (.cons (.cons (.cons (.cons (.cons (.cons (.cons (.cons (.cons .here))))))))))))) | exact (.cons (.cons (.cons (.cons (.cons (.cons (.cons (.cons (.cons (.cons (.cons (.cons (.cons (.cons .here)))))))))))))) | exact (.cons (.cons (.cons (.cons (.cons (.cons (.cons (.cons (.cons (.cons (.cons (.cons (.cons (.cons (.cons .here)))))))))))))))); (case kO => assumption); (case kr => ((repeat' (first | exact ne_nil | refine' ne_cons ?_ ?_)); all_goals k_ne)); (case k8 => ktr_room); (case k9 => ktr_units)); intro D9 rs9 op' h' tk' gg' hR9 TO' F' N' l9 hbG; (obtain ⟨sh0, sh1, sh2, v1, v2, v3, e9, ⟨es0, ls0⟩, ⟨es1, ls1⟩, ⟨es2, ls2⟩, ok9⟩ := csr_names (by omega) (by omega) (by omega) (by omega) fb fr0 fr1 hR9); subst e9; clear hR9; (have gl1 := shown_len es1 (by with_reducible assumption) (by omega) lx hm1); (have gl2 := shown_len es2 (by with_reducible assumption) (by omega) ly hm1); (try k_lt l9); (try dsimp only))
  k_with "call ref" => (k_here; (with_reducible show wpAny _ _ (call (Value.ref 127) [Value.str _ _, Value.int _ _, Value.int _ _]) _ _ _); k_dflt (refine' con_use2 ?k1 ?k2 ?k3 ?k4 ?k5 (short_spec (by omega) (by omega) (by omega) (by omega) (by omega)) ?kg ?ks ?km B hf hk ?k8 ?k9 ?_; (case k1 => k_asm); (case k3 => k_asm); (case k2 => k_asm); (case k4 => k_asm); (case k5 => exact rfl); (case km => first | exact .head _ | exact (.tail _ (.head _)) | exact (.tail _ (.tail _ (.head _))) | exact (.tail _ (.tail _ (.tail _ (.head _)))) | exact (.tail _ (.tail _ (.tail _ (.tail _ (.head _))))) | exact (.tail _ (.tail _ (.tail _ (.tail _ (.tail _ (.head _)))))) | exact (.tail _ (.tail _ (.tail _ (.tail _ (.tail _ (.tail _ (.head _))))))) | exact (.tail _ (.tail _ (.tail _ (.tail _ (.tail _ (.tail _ (.tail _ (.head _)))))))) | exact (.tail _ (.tail _ (.tail _ (.tail _ (.tail _ (.tail _ (.tail _ (.tail _ (.head _))))))))) | exact (.tail _ (.tail _ (.tail _ (.tail _ (.tail _ (.tail _ (.tail _ (.tail _ (.tail _ (.head _)))))))))) | exact (.tail _ (.tail _ (.tail _ (.tail _ (.tail _ (.tail _ (.tail _ (.tail _ (.tail _ (.tail _ (.head _))))))))))) | exact (.tail _ (.tail _ (.tail _ (.tail _ (.tail _ (.tail _ (.tail _ (.tail _ (.tail _ (.tail _ (.tail _ (.head _)))))))))))) | exact (.tail _ (.tail _ (.tail _ (.tail _ (.tail _ (.tail _ (.tail _ (.tail _ (.tail _ (.tail _ (.tail _ (.tail _ (.head _))))))))))))) | exact (.tail _ (.tail _ (.tail _ (.tail _ (.tail _ (.tail _ (.tail _ (.tail _ (.tail _ (.tail _ (.tail _ (.tail _ (.tail _ (.head _)))))))))))))) | exact (.tail _ (.tail _ (.tail _ (.tail _ (.tail _ (.tail _ (.tail _ (.tail _ (.tail _ (.tail _ (.tail _ (.tail _ (.tail _ (.tail _ (.head _))))))))))))))) | exact (.tail _ (.tail _ (.tail _ (.tail _ (.tail _ (.tail _ (.tail _ (.tail _ (.tail _ (.tail _ (.tail _ (.tail _ (.tail _ (.tail _ (.tail _ (.head _))))))))))))))))); (case ks => assumption); (case kg => assumption); (case k8 => ktr_room); (case k9 => ktr_units)); intro v9 h' tk' hR9 F' N'; (first | (obtain ⟨t9, e9⟩ := short_same hR9 es0 rfl (by omega)) | (obtain ⟨t9, e9⟩ := short_same hR9 es1 rfl (by omega)) | (obtain ⟨t9, e9⟩ := short_same hR9 es2 rfl (by omega))); subst e9; clear hR9; (try dsimp only))
  k_with "call ref" => (k_here; (with_reducible show wpAny _ _ (call (Value.ref 101) [Value.str sh1 _]) _ _ _); k_dflt (refine' conR_use2 ?k1 ?k2 ?k3 ?k4 ?k5 (refuse_spec ?s1 ?s2) ?kg ?ks ?km B hf hk ?k8 ?k9 ?_; (case k1 => k_asm); (case k3 => k_asm); (case k2 => k_asm); (case k4 => k_asm); (case k5 => exact rfl); (case km => first | exact .head _ | exact (.tail _ (.head _)) | exact (.tail _ (.tail _ (.head _))) | exact (.tail _ (.tail _ (.tail _ (.head _)))) | exact (.tail _ (.tail _ (.tail _ (.tail _ (.head _))))) | exact (.tail _ (.tail _ (.tail _ (.tail _ (.tail _ (.head _)))))) | exact (.tail _ (.tail _ (.tail _ (.tail _ (.tail _ (.tail _ (.head _))))))) | exact (.tail _ (.tail _ (.tail _ (.tail _ (.tail _ (.tail _ (.tail _ (.head _)))))))) | exact (.tail _ (.tail _ (.tail _ (.tail _ (.tail _ (.tail _ (.tail _ (.tail _ (.head _))))))))) | exact (.tail _ (.tail _ (.tail _ (.tail _ (.tail _ (.tail _ (.tail _ (.tail _ (.tail _ (.head _)))))))))) | exact (.tail _ (.tail _ (.tail _ (.tail _ (.tail _ (.tail _ (.tail _ (.tail _ (.tail _ (.tail _ (.head _))))))))))) | exact (.tail _ (.tail _ (.tail _ (.tail _ (.tail _ (.tail _ (.tail _ (.tail _ (.tail _ (.tail _ (.tail _ (.head _)))))))))))) | exact (.tail _ (.tail _ (.tail _ (.tail _ (.tail _ (.tail _ (.tail _ (.tail _ (.tail _ (.tail _ (.tail _ (.tail _ (.head _))))))))))))) | exact (.tail _ (.tail _ (.tail _ (.tail _ (.tail _ (.tail _ (.tail _ (.tail _ (.tail _ (.tail _ (.tail _ (.tail _ (.tail _ (.head _)))))))))))))) | exact (.tail _ (.tail _ (.tail _ (.tail _ (.tail _ (.tail _ (.tail _ (.tail _ (.tail _ (.tail _ (.tail _ (.tail _ (.tail _ (.tail _ (.head _))))))))))))))) | exact (.tail _ (.tail _ (.tail _ (.tail _ (.tail _ (.tail _ (.tail _ (.tail _ (.tail _ (.tail _ (.tail _ (.tail _ (.tail _ (.tail _ (.tail _ (.head _))))))))))))))))); (case ks => assumption); (case kg => assumption); (case s1 => first | omega | (with_reducible exact code_len (by first | exact lit_len.1 | exact lit_len.2.1 | exact lit_len.2.2) (by with_reducible assumption))); (case s2 => exact ne_shown es1 (by with_reducible assumption) (by omega) lx hm1); (case k8 => ktr_room); (case k9 => ktr_units)); intro e9 t9 h9 tk9 FL9; skip; (try dsimp only))
  k_with "call ref" => (k_here; (with_reducible show wpAny _ _ (call (Value.ref 101) [Value.str sh2 _]) _ _ _); k_dflt (refine' conR_use2 ?k1 ?k2 ?k3 ?k4 ?k5 (refuse_spec ?s1 ?s2) ?kg ?ks ?km B hf hk ?k8 ?k9 ?_; (case k1 => k_asm); (case k3 => k_asm); (case k2 => k_asm); (case k4 => k_asm); (case k5 => exact rfl); (case km => first | exact .head _ | exact (.tail _ (.head _)) | exact (.tail _ (.tail _ (.head _))) | exact (.tail _ (.tail _ (.tail _ (.head _)))) | exact (.tail _ (.tail _ (.tail _ (.tail _ (.head _))))) | exact (.tail _ (.tail _ (.tail _ (.tail _ (.tail _ (.head _)))))) | exact (.tail _ (.tail _ (.tail _ (.tail _ (.tail _ (.tail _ (.head _))))))) | exact (.tail _ (.tail _ (.tail _ (.tail _ (.tail _ (.tail _ (.tail _ (.head _)))))))) | exact (.tail _ (.tail _ (.tail _ (.tail _ (.tail _ (.tail _ (.tail _ (.tail _ (.head _))))))))) | exact (.tail _ (.tail _ (.tail _ (.tail _ (.tail _ (.tail _ (.tail _ (.tail _ (.tail _ (.head _)))))))))) | exact (.tail _ (.tail _ (.tail _ (.tail _ (.tail _ (.tail _ (.tail _ (.tail _ (.tail _ (.tail _ (.head _))))))))))) | exact (.tail _ (.tail _ (.tail _ (.tail _ (.tail _ (.tail _ (.tail _ (.tail _ (.tail _ (.tail _ (.tail _ (.head _)))))))))))) | exact (.tail _ (.tail _ (.tail _ (.tail _ (.tail _ (.tail _ (.tail _ (.tail _ (.tail _ (.tail _ (.tail _ (.tail _ (.head _))))))))))))) | exact (.tail _ (.tail _ (.tail _ (.tail _ (.tail _ (.tail _ (.tail _ (.tail _ (.tail _ (.tail _ (.tail _ (.tail _ (.tail _ (.head _)))))))))))))) | exact (.tail _ (.tail _ (.tail _ (.tail _ (.tail _ (.tail _ (.tail _ (.tail _ (.tail _ (.tail _ (.tail _ (.tail _ (.tail _ (.tail _ (.head _))))))))))))))) | exact (.tail _ (.tail _ (.tail _ (.tail _ (.tail _ (.tail _ (.tail _ (.tail _ (.tail _ (.tail _ (.tail _ (.tail _ (.tail _ (.tail _ (.tail _ (.head _))))))))))))))))); (case ks => assumption); (case kg => assumption); (case s1 => first | omega | (with_reducible exact code_len (by first | exact lit_len.1 | exact lit_len.2.1 | exact lit_len.2.2) (by with_reducible assumption))); (case s2 => exact ne_shown es2 (by with_reducible assumption) (by omega) ly hm1); (case k8 => ktr_room); (case k9 => ktr_units)); intro e9 t9 h9 tk9 FL9; skip; (try dsimp only))
  k_with "call ref" => (k_here; (with_reducible show wpAny _ _ (call (Value.ref 101) [Value.str (PySem.Str.ofString "157" ++ _) _]) _ _ _); k_dflt (refine' conR_use2 ?k1 ?k2 ?k3 ?k4 ?k5 (refuse_spec ?s1 ?s2) ?kg ?ks ?km B hf hk ?k8 ?k9 ?_; (case k1 => k_asm); (case k3 => k_asm); (case k2 => k_asm); (case k4 => k_asm); (case k5 => exact rfl); (case km => first | exact .head _ | exact (.tail _ (.head _)) | exact (.tail _ (.tail _ (.head _))) | exact (.tail _ (.tail _ (.tail _ (.head _)))) | exact (.tail _ (.tail _ (.tail _ (.tail _ (.head _))))) | exact (.tail _ (.tail _ (.tail _ (.tail _ (.tail _ (.head _)))))) | exact (.tail _ (.tail _ (.tail _ (.tail _ (.tail _ (.tail _ (.head _))))))) | exact (.tail _ (.tail _ (.tail _ (.tail _ (.tail _ (.tail _ (.tail _ (.head _)))))))) | exact (.tail _ (.tail _ (.tail _ (.tail _ (.tail _ (.tail _ (.tail _ (.tail _ (.head _))))))))) | exact (.tail _ (.tail _ (.tail _ (.tail _ (.tail _ (.tail _ (.tail _ (.tail _ (.tail _ (.head _)))))))))) | exact (.tail _ (.tail _ (.tail _ (.tail _ (.tail _ (.tail _ (.tail _ (.tail _ (.tail _ (.tail _ (.head _))))))))))) | exact (.tail _ (.tail _ (.tail _ (.tail _ (.tail _ (.tail _ (.tail _ (.tail _ (.tail _ (.tail _ (.tail _ (.head _)))))))))))) | exact (.tail _ (.tail _ (.tail _ (.tail _ (.tail _ (.tail _ (.tail _ (.tail _ (.tail _ (.tail _ (.tail _ (.tail _ (.head _))))))))))))) | exact (.tail _ (.tail _ (.tail _ (.tail _ (.tail _ (.tail _ (.tail _ (.tail _ (.tail _ (.tail _ (.tail _ (.tail _ (.tail _ (.head _)))))))))))))) | exact (.tail _ (.tail _ (.tail _ (.tail _ (.tail _ (.tail _ (.tail _ (.tail _ (.tail _ (.tail _ (.tail _ (.tail _ (.tail _ (.tail _ (.head _))))))))))))))) | exact (.tail _ (.tail _ (.tail _ (.tail _ (.tail _ (.tail _ (.tail _ (.tail _ (.tail _ (.tail _ (.tail _ (.tail _ (.tail _ (.tail _ (.tail _ (.head _))))))))))))))))); (case ks => assumption); (case kg => assumption); (case s1 => first | omega | (with_reducible exact code_len (by first | exact lit_len.1 | exact lit_len.2.1 | exact lit_len.2.2) (by with_reducible assumption))); (case s2 => exact ne_157); (case k8 => ktr_room); (case k9 => ktr_units)); intro e9 t9 h9 tk9 FL9; skip; (try dsimp only))
  k_with "call ref" => (k_here; (with_reducible show wpAny _ _ (call (Value.ref 101) [Value.str (PySem.Str.ofString "247" ++ _) _]) _ _ _); k_dflt (refine' conR_use2 ?k1 ?k2 ?k3 ?k4 ?k5 (refuse_spec ?s1 ?s2) ?kg ?ks ?km B hf hk ?k8 ?k9 ?_; (case k1 => k_asm); (case k3 => k_asm); (case k2 => k_asm); (case k4 => k_asm); (case k5 => exact rfl); (case km => first | exact .head _ | exact (.tail _ (.head _)) | exact (.tail _ (.tail _ (.head _))) | exact (.tail _ (.tail _ (.tail _ (.head _)))) | exact (.tail _ (.tail _ (.tail _ (.tail _ (.head _))))) | exact (.tail _ (.tail _ (.tail _ (.tail _ (.tail _ (.head _)))))) | exact (.tail _ (.tail _ (.tail _ (.tail _ (.tail _ (.tail _ (.head _))))))) | exact (.tail _ (.tail _ (.tail _ (.tail _ (.tail _ (.tail _ (.tail _ (.head _)))))))) | exact (.tail _ (.tail _ (.tail _ (.tail _ (.tail _ (.tail _ (.tail _ (.tail _ (.head _))))))))) | exact (.tail _ (.tail _ (.tail _ (.tail _ (.tail _ (.tail _ (.tail _ (.tail _ (.tail _ (.head _)))))))))) | exact (.tail _ (.tail _ (.tail _ (.tail _ (.tail _ (.tail _ (.tail _ (.tail _ (.tail _ (.tail _ (.head _))))))))))) | exact (.tail _ (.tail _ (.tail _ (.tail _ (.tail _ (.tail _ (.tail _ (.tail _ (.tail _ (.tail _ (.tail _ (.head _)))))))))))) | exact (.tail _ (.tail _ (.tail _ (.tail _ (.tail _ (.tail _ (.tail _ (.tail _ (.tail _ (.tail _ (.tail _ (.tail _ (.head _))))))))))))) | exact (.tail _ (.tail _ (.tail _ (.tail _ (.tail _ (.tail _ (.tail _ (.tail _ (.tail _ (.tail _ (.tail _ (.tail _ (.tail _ (.head _)))))))))))))) | exact (.tail _ (.tail _ (.tail _ (.tail _ (.tail _ (.tail _ (.tail _ (.tail _ (.tail _ (.tail _ (.tail _ (.tail _ (.tail _ (.tail _ (.head _))))))))))))))) | exact (.tail _ (.tail _ (.tail _ (.tail _ (.tail _ (.tail _ (.tail _ (.tail _ (.tail _ (.tail _ (.tail _ (.tail _ (.tail _ (.tail _ (.tail _ (.head _))))))))))))))))); (case ks => assumption); (case kg => assumption); (case s1 => first | omega | (with_reducible exact code_len (by first | exact lit_len.1 | exact lit_len.2.1 | exact lit_len.2.2) (by with_reducible assumption))); (case s2 => exact ne_247); (case k8 => ktr_room); (case k9 => ktr_units)); intro e9 t9 h9 tk9 FL9; skip; (try dsimp only))
  k_with "call ref" => (k_here; (with_reducible show wpAny _ _ (call (Value.ref 101) [Value.str (PySem.Str.ofString "250" ++ _) _]) _ _ _); k_dflt (refine' conR_use2 ?k1 ?k2 ?k3 ?k4 ?k5 (refuse_spec ?s1 ?s2) ?kg ?ks ?km B hf hk ?k8 ?k9 ?_; (case k1 => k_asm); (case k3 => k_asm); (case k2 => k_asm); (case k4 => k_asm); (case k5 => exact rfl); (case km => first | exact .head _ | exact (.tail _ (.head _)) | exact (.tail _ (.tail _ (.head _))) | exact (.tail _ (.tail _ (.tail _ (.head _)))) | exact (.tail _ (.tail _ (.tail _ (.tail _ (.head _))))) | exact (.tail _ (.tail _ (.tail _ (.tail _ (.tail _ (.head _)))))) | exact (.tail _ (.tail _ (.tail _ (.tail _ (.tail _ (.tail _ (.head _))))))) | exact (.tail _ (.tail _ (.tail _ (.tail _ (.tail _ (.tail _ (.tail _ (.head _)))))))) | exact (.tail _ (.tail _ (.tail _ (.tail _ (.tail _ (.tail _ (.tail _ (.tail _ (.head _))))))))) | exact (.tail _ (.tail _ (.tail _ (.tail _ (.tail _ (.tail _ (.tail _ (.tail _ (.tail _ (.head _)))))))))) | exact (.tail _ (.tail _ (.tail _ (.tail _ (.tail _ (.tail _ (.tail _ (.tail _ (.tail _ (.tail _ (.head _))))))))))) | exact (.tail _ (.tail _ (.tail _ (.tail _ (.tail _ (.tail _ (.tail _ (.tail _ (.tail _ (.tail _ (.tail _ (.head _)))))))))))) | exact (.tail _ (.tail _ (.tail _ (.tail _ (.tail _ (.tail _ (.tail _ (.tail _ (.tail _ (.tail _ (.tail _ (.tail _ (.head _))))))))))))) | exact (.tail _ (.tail _ (.tail _ (.tail _ (.tail _ (.tail _ (.tail _ (.tail _ (.tail _ (.tail _ (.tail _ (.tail _ (.tail _ (.head _)))))))))))))) | exact (.tail _ (.tail _ (.tail _ (.tail _ (.tail _ (.tail _ (.tail _ (.tail _ (.tail _ (.tail _ (.tail _ (.tail _ (.tail _ (.tail _ (.head _))))))))))))))) | exact (.tail _ (.tail _ (.tail _ (.tail _ (.tail _ (.tail _ (.tail _ (.tail _ (.tail _ (.tail _ (.tail _ (.tail _ (.tail _ (.tail _ (.tail _ (.head _))))))))))))))))); (case ks => assumption); (case kg => assumption); (case s1 => first | omega | (with_reducible exact code_len (by first | exact lit_len.1 | exact lit_len.2.1 | exact lit_len.2.2) (by with_reducible assumption))); (case s2 => exact ne_250); (case k8 => ktr_room); (case k9 => ktr_units)); intro e9 t9 h9 tk9 FL9; skip; (try dsimp only))
  k_with "noteFrame ref" => (k_here; k_dflt (refine' caught_C2 FL9 ?S ?hS ?hrL X T ?hA hf ?hfT ?ex ?q ?_ ?h1 ?h2 ?h3 ?h4 ?h5 ?h6; (case hA => rfl); (case hfT => rfl); (case h1 => rfl); (case h2 => rfl); (case h3 => rfl); (case h4 => rfl); (case h5 => rfl); (case h6 => decide); (case hS => first | exact .here | exact (.cons .here) | exact (.cons (.cons .here)) | exact (.cons (.cons (.cons .here))) | exact (.cons (.cons (.cons (.cons .here)))) | exact (.cons (.cons (.cons (.cons (.cons .here))))) | exact (.cons (.cons (.cons (.cons (.cons (.cons .here)))))) | exact (.cons (.cons (.cons (.cons (.cons (.cons (.cons .here))))))) | exact (.cons (.cons (.cons (.cons (.cons (.cons (.cons (.cons .here)))))))) | exact (.cons (.cons (.cons (.cons (.cons (.cons (.cons (.cons (.cons .here))))))))) | exact (.cons (.cons (.cons (.cons (.cons (.cons (.cons (.cons (.cons (.cons .here)))))))))) | exact (.cons (.cons (.cons (.cons (.cons (.cons (.cons (.cons (.cons (.cons (.cons .here))))))))))) | exact (.cons (.cons (.cons (.cons (.cons (.cons (.cons (.cons (.cons (.cons (.cons (.cons .here)))))))))))) | exact (.cons (.cons (.cons (.cons (.cons (.cons (.cons (.cons (.cons (.cons (.cons (.cons (.cons .here))))))))))))) | exact (.cons (.cons (.cons (.cons (.cons (.cons (.cons (.cons (.cons (.cons (.cons (.cons (.cons (.cons .here)))))))))))))) | exact (.cons (.cons (.cons (.cons (.cons (.cons (.cons (.cons (.cons (.cons (.cons (.cons (.cons (.cons (.cons .here)))))))))))))))); (case S => assumption); (case hrL => ((repeat' (first | exact ne_nil | refine' ne_cons ?_ ?_)); all_goals k_ne)); (case ex => k_is); (case q => kts_isx)); intro h' n₂ tk' oL' SL' F' N₂ G' N'; (try dsimp only))
  k_with "UnrEnd" => (k_here; k_dflt (refine' unrEnd_S ?F ?N ?hS ?off ?_; (case F => k_asm); (case N => k_asm); (case hS => first | exact .here | exact (.cons .here) | exact (.cons (.cons .here)) | exact (.cons (.cons (.cons .here))) | exact (.cons (.cons (.cons (.cons .here)))) | exact (.cons (.cons (.cons (.cons (.cons .here))))) | exact (.cons (.cons (.cons (.cons (.cons (.cons .here)))))) | exact (.cons (.cons (.cons (.cons (.cons (.cons (.cons .here))))))) | exact (.cons (.cons (.cons (.cons (.cons (.cons (.cons (.cons .here)))))))) | exact (.cons (.cons (.cons (.cons (.cons (.cons (.cons (.cons (.cons .here))))))))) | exact (.cons (.cons (.cons (.cons (.cons (.cons (.cons (.cons (.cons (.cons .here)))))))))) | exact (.cons (.cons (.cons (.cons (.cons (.cons (.cons (.cons (.cons (.cons (.cons .here))))))))))) | exact (.cons (.cons (.cons (.cons (.cons (.cons (.cons (.cons (.cons (.cons (.cons (.cons .here)))))))))))) | exact (.cons (.cons (.cons (.cons (.cons (.cons (.cons (.cons (.cons (.cons (.cons (.cons (.cons .here))))))))))))) | exact (.cons (.cons (.cons (.cons (.cons (.cons (.cons (.cons (.cons (.cons (.cons (.cons (.cons (.cons .here)))))))))))))) | exact (.cons (.cons (.cons (.cons (.cons (.cons (.cons (.cons (.cons (.cons (.cons (.cons (.cons (.cons (.cons .here)))))))))))))))); (case off => ((repeat' (first | exact ne_nil | refine' ne_cons ?_ ?_)); all_goals k_ne))); first | (refine' ⟨?mm, ?_⟩; (case mm => first | exact .head _ | exact (.tail _ (.head _)) | exact (.tail _ (.tail _ (.head _))) | exact (.tail _ (.tail _ (.tail _ (.head _)))) | exact (.tail _ (.tail _ (.tail _ (.tail _ (.head _))))) | exact (.tail _ (.tail _ (.tail _ (.tail _ (.tail _ (.head _)))))) | exact (.tail _ (.tail _ (.tail _ (.tail _ (.tail _ (.tail _ (.head _))))))) | exact (.tail _ (.tail _ (.tail _ (.tail _ (.tail _ (.tail _ (.tail _ (.head _)))))))) | exact (.tail _ (.tail _ (.tail _ (.tail _ (.tail _ (.tail _ (.tail _ (.tail _ (.head _))))))))) | exact (.tail _ (.tail _ (.tail _ (.tail _ (.tail _ (.tail _ (.tail _ (.tail _ (.tail _ (.head _)))))))))) | exact (.tail _ (.tail _ (.tail _ (.tail _ (.tail _ (.tail _ (.tail _ (.tail _ (.tail _ (.tail _ (.head _))))))))))) | exact (.tail _ (.tail _ (.tail _ (.tail _ (.tail _ (.tail _ (.tail _ (.tail _ (.tail _ (.tail _ (.tail _ (.head _)))))))))))) | exact (.tail _ (.tail _ (.tail _ (.tail _ (.tail _ (.tail _ (.tail _ (.tail _ (.tail _ (.tail _ (.tail _ (.tail _ (.head _))))))))))))) | exact (.tail _ (.tail _ (.tail _ (.tail _ (.tail _ (.tail _ (.tail _ (.tail _ (.tail _ (.tail _ (.tail _ (.tail _ (.tail _ (.head _)))))))))))))) | exact (.tail _ (.tail _ (.tail _ (.tail _ (.tail _ (.tail _ (.tail _ (.tail _ (.tail _ (.tail _ (.tail _ (.tail _ (.tail _ (.tail _ (.head _))))))))))))))) | exact (.tail _ (.tail _ (.tail _ (.tail _ (.tail _ (.tail _ (.tail _ (.tail _ (.tail _ (.tail _ (.tail _ (.tail _ (.tail _ (.tail _ (.tail _ (.head _)))))))))))))))))) | skip)
  k_with "call type:str" => (k_here; (with_reducible show wpAny _ _ (call (Value.type "str") [Value.ref _]) _ _ _); k_dflt (refine' str_own ?X ?F ?N ?G ?fs ?cl ?hu ?_; (case G => with_reducible assumption); (case N => with_reducible assumption); (case F => k_asm); (case X => k_asm); (case fs => k_is); (case cl => kts_isx); (case hu => first | ktr_units | units_room | k_room); k_whole))
  k_with "compareOp NotEq str str" => (k_here; (with_reducible refine ne_same ?_))
  k_with "Exists" => (first | exact ⟨_, congrArg (fun z => Value.str z _) (pv_yes ep gl1 (by with_reducible assumption))⟩ | exact ⟨_, congrArg (fun z => Value.str z _) (pv_no ep gl1 (by with_reducible assumption))⟩ | exact ⟨_, congrArg (fun z => Value.str z _) (pv_yes ep gl2 (by with_reducible assumption))⟩ | exact ⟨_, congrArg (fun z => Value.str z _) (pv_no ep gl2 (by with_reducible assumption))⟩ | exact ⟨_, rfl⟩)
  k_with "bind" => (k_here; k_dflt (refine' name_goes_C ?F ?N ?_ ?h1 ?h2 ?h3; (case F => k_asm); (case N => k_asm); (case h1 => rfl); (case h2 => rfl); (case h3 => rfl)); intro h' v' F' N')
  k_with "call ref" => (k_here; (with_reducible show wpAny _ _ (call (Value.ref 101) [Value.str (Txt.slice sh1 (some 1) none) _]) _ _ _); (have hs9 := shown_first es1 (by with_reducible assumption) (by omega) lx hm1); k_dflt (refine' con_use2 ?k1 ?k2 ?k3 ?k4 ?k5 (parse_spec (by omega) hs9.1 hs9.2.1) ?kg ?ks ?km B hf hk ?k8 ?k9 ?_; (case k1 => k_asm); (case k3 => k_asm); (case k2 => k_asm); (case k4 => k_asm); (case k5 => exact rfl); (case km => first | exact .head _ | exact (.tail _ (.head _)) | exact (.tail _ (.tail _ (.head _))) | exact (.tail _ (.tail _ (.tail _ (.head _)))) | exact (.tail _ (.tail _ (.tail _ (.tail _ (.head _))))) | exact (.tail _ (.tail _ (.tail _ (.tail _ (.tail _ (.head _)))))) | exact (.tail _ (.tail _ (.tail _ (.tail _ (.tail _ (.tail _ (.head _))))))) | exact (.tail _ (.tail _ (.tail _ (.tail _ (.tail _ (.tail _ (.tail _ (.head _)))))))) | exact (.tail _ (.tail _ (.tail _ (.tail _ (.tail _ (.tail _ (.tail _ (.tail _ (.head _))))))))) | exact (.tail _ (.tail _ (.tail _ (.tail _ (.tail _ (.tail _ (.tail _ (.tail _ (.tail _ (.head _)))))))))) | exact (.tail _ (.tail _ (.tail _ (.tail _ (.tail _ (.tail _ (.tail _ (.tail _ (.tail _ (.tail _ (.head _))))))))))) | exact (.tail _ (.tail _ (.tail _ (.tail _ (.tail _ (.tail _ (.tail _ (.tail _ (.tail _ (.tail _ (.tail _ (.head _)))))))))))) | exact (.tail _ (.tail _ (.tail _ (.tail _ (.tail _ (.tail _ (.tail _ (.tail _ (.tail _ (.tail _ (.tail _ (.tail _ (.head _))))))))))))) | exact (.tail _ (.tail _ (.tail _ (.tail _ (.tail _ (.tail _ (.tail _ (.tail _ (.tail _ (.tail _ (.tail _ (.tail _ (.tail _ (.head _)))))))))))))) | exact (.tail _ (.tail _ (.tail _ (.tail _ (.tail _ (.tail _ (.tail _ (.tail _ (.tail _ (.tail _ (.tail _ (.tail _ (.tail _ (.tail _ (.head _))))))))))))))) | exact (.tail _ (.tail _ (.tail _ (.tail _ (.tail _ (.tail _ (.tail _ (.tail _ (.tail _ (.tail _ (.tail _ (.tail _ (.tail _ (.tail _ (.tail _ (.head _))))))))))))))))); (case ks => assumption); (case kg => assumption); (case k8 => ktr_room); (case k9 => ktr_units)); intro v9 h' tk' hR9 F' N'; (obtain ⟨pv, t9, e9, ep⟩ := parse_is hR9 hs9.2.2); subst e9; clear hR9 hs9; (try dsimp only))
  k_with "call ref" => (k_here; (with_reducible show wpAny _ _ (call (Value.ref 101) [Value.str (Txt.slice sh2 (some 1) none) _]) _ _ _); (have hs9 := shown_first es2 (by with_reducible assumption) (by omega) ly hm1); k_dflt (refine' con_use2 ?k1 ?k2 ?k3 ?k4 ?k5 (parse_spec (by omega) hs9.1 hs9.2.1) ?kg ?ks ?km B hf hk ?k8 ?k9 ?_; (case k1 => k_asm); (case k3 => k_asm); (case k2 => k_asm); (case k4 => k_asm); (case k5 => exact rfl); (case km => first | exact .head _ | exact (.tail _ (.head _)) | exact (.tail _ (.tail _ (.head _))) | exact (.tail _ (.tail _ (.tail _ (.head _)))) | exact (.tail _ (.tail _ (.tail _ (.tail _ (.head _))))) | exact (.tail _ (.tail _ (.tail _ (.tail _ (.tail _ (.head _)))))) | exact (.tail _ (.tail _ (.tail _ (.tail _ (.tail _ (.tail _ (.head _))))))) | exact (.tail _ (.tail _ (.tail _ (.tail _ (.tail _ (.tail _ (.tail _ (.head _)))))))) | exact (.tail _ (.tail _ (.tail _ (.tail _ (.tail _ (.tail _ (.tail _ (.tail _ (.head _))))))))) | exact (.tail _ (.tail _ (.tail _ (.tail _ (.tail _ (.tail _ (.tail _ (.tail _ (.tail _ (.head _)))))))))) | exact (.tail _ (.tail _ (.tail _ (.tail _ (.tail _ (.tail _ (.tail _ (.tail _ (.tail _ (.tail _ (.head _))))))))))) | exact (.tail _ (.tail _ (.tail _ (.tail _ (.tail _ (.tail _ (.tail _ (.tail _ (.tail _ (.tail _ (.tail _ (.head _)))))))))))) | exact (.tail _ (.tail _ (.tail _ (.tail _ (.tail _ (.tail _ (.tail _ (.tail _ (.tail _ (.tail _ (.tail _ (.tail _ (.head _))))))))))))) | exact (.tail _ (.tail _ (.tail _ (.tail _ (.tail _ (.tail _ (.tail _ (.tail _ (.tail _ (.tail _ (.tail _ (.tail _ (.tail _ (.head _)))))))))))))) | exact (.tail _ (.tail _ (.tail _ (.tail _ (.tail _ (.tail _ (.tail _ (.tail _ (.tail _ (.tail _ (.tail _ (.tail _ (.tail _ (.tail _ (.head _))))))))))))))) | exact (.tail _ (.tail _ (.tail _ (.tail _ (.tail _ (.tail _ (.tail _ (.tail _ (.tail _ (.tail _ (.tail _ (.tail _ (.tail _ (.tail _ (.tail _ (.head _))))))))))))))))); (case ks => assumption); (case kg => assumption); (case k8 => ktr_room); (case k9 => ktr_units)); intro v9 h' tk' hR9 F' N'; (obtain ⟨pv, t9, e9, ep⟩ := parse_is hR9 hs9.2.2); subst e9; clear hR9 hs9; (try dsimp only))
  k_with "call ref" => (k_here; (with_reducible show wpAny _ _ (call (Value.ref 101) [Value.str (PySem.Str.ofString "257-" ++ _) _]) _ _ _); k_dflt (refine' con_use2 ?k1 ?k2 ?k3 ?k4 ?k5 (parse_spec ?s1 ?s2 ?s3) ?kg ?ks ?km B hf hk ?k8 ?k9 ?_; (case k1 => k_asm); (case k3 => k_asm); (case k2 => k_asm); (case k4 => k_asm); (case k5 => exact rfl); (case km => first | exact .head _ | exact (.tail _ (.head _)) | exact (.tail _ (.tail _ (.head _))) | exact (.tail _ (.tail _ (.tail _ (.head _)))) | exact (.tail _ (.tail _ (.tail _ (.tail _ (.head _))))) | exact (.tail _ (.tail _ (.tail _ (.tail _ (.tail _ (.head _)))))) | exact (.tail _ (.tail _ (.tail _ (.tail _ (.tail _ (.tail _ (.head _))))))) | exact (.tail _ (.tail _ (.tail _ (.tail _ (.tail _ (.tail _ (.tail _ (.head _)))))))) | exact (.tail _ (.tail _ (.tail _ (.tail _ (.tail _ (.tail _ (.tail _ (.tail _ (.head _))))))))) | exact (.tail _ (.tail _ (.tail _ (.tail _ (.tail _ (.tail _ (.tail _ (.tail _ (.tail _ (.head _)))))))))) | exact (.tail _ (.tail _ (.tail _ (.tail _ (.tail _ (.tail _ (.tail _ (.tail _ (.tail _ (.tail _ (.head _))))))))))) | exact (.tail _ (.tail _ (.tail _ (.tail _ (.tail _ (.tail _ (.tail _ (.tail _ (.tail _ (.tail _ (.tail _ (.head _)))))))))))) | exact (.tail _ (.tail _ (.tail _ (.tail _ (.tail _ (.tail _ (.tail _ (.tail _ (.tail _ (.tail _ (.tail _ (.tail _ (.head _))))))))))))) | exact (.tail _ (.tail _ (.tail _ (.tail _ (.tail _ (.tail _ (.tail _ (.tail _ (.tail _ (.tail _ (.tail _ (.tail _ (.tail _ (.head _)))))))))))))) | exact (.tail _ (.tail _ (.tail _ (.tail _ (.tail _ (.tail _ (.tail _ (.tail _ (.tail _ (.tail _ (.tail _ (.tail _ (.tail _ (.tail _ (.head _))))))))))))))) | exact (.tail _ (.tail _ (.tail _ (.tail _ (.tail _ (.tail _ (.tail _ (.tail _ (.tail _ (.tail _ (.tail _ (.tail _ (.tail _ (.tail _ (.tail _ (.head _))))))))))))))))); (case ks => assumption); (case kg => assumption); (case s1 => with_reducible exact (hyphen (by with_reducible assumption)).1.1); (case s2 => with_reducible exact (hyphen (by with_reducible assumption)).1.2); (case s3 => with_reducible exact (hyphen (by with_reducible assumption)).2.1); (case k8 => ktr_room); (case k9 => ktr_units)); intro v9 h' tk' hR9 F' N'; (obtain ⟨t9, e9⟩ := hyphen_is hR9 (hyphen (by with_reducible assumption)).2.2); subst e9; clear hR9; (try dsimp only))
  k_with "call ref" => (k_here; (with_reducible show wpAny _ _ (call (Value.ref 101) [Value.str bg _]) _ _ _); k_dflt (refine' con_use2 ?k1 ?k2 ?k3 ?k4 ?k5 (parse_spec (by omega) (by omega) h3) ?kg ?ks ?km B hf hk ?k8 ?k9 ?_; (case k1 => k_asm); (case k3 => k_asm); (case k2 => k_asm); (case k4 => k_asm); (case k5 => exact rfl); (case km => first | exact .head _ | exact (.tail _ (.head _)) | exact (.tail _ (.tail _ (.head _))) | exact (.tail _ (.tail _ (.tail _ (.head _)))) | exact (.tail _ (.tail _ (.tail _ (.tail _ (.head _))))) | exact (.tail _ (.tail _ (.tail _ (.tail _ (.tail _ (.head _)))))) | exact (.tail _ (.tail _ (.tail _ (.tail _ (.tail _ (.tail _ (.head _))))))) | exact (.tail _ (.tail _ (.tail _ (.tail _ (.tail _ (.tail _ (.tail _ (.head _)))))))) | exact (.tail _ (.tail _ (.tail _ (.tail _ (.tail _ (.tail _ (.tail _ (.tail _ (.head _))))))))) | exact (.tail _ (.tail _ (.tail _ (.tail _ (.tail _ (.tail _ (.tail _ (.tail _ (.tail _ (.head _)))))))))) | exact (.tail _ (.tail _ (.tail _ (.tail _ (.tail _ (.tail _ (.tail _ (.tail _ (.tail _ (.tail _ (.head _))))))))))) | exact (.tail _ (.tail _ (.tail _ (.tail _ (.tail _ (.tail _ (.tail _ (.tail _ (.tail _ (.tail _ (.tail _ (.head _)))))))))))) | exact (.tail _ (.tail _ (.tail _ (.tail _ (.tail _ (.tail _ (.tail _ (.tail _ (.tail _ (.tail _ (.tail _ (.tail _ (.head _))))))))))))) | exact (.tail _ (.tail _ (.tail _ (.tail _ (.tail _ (.tail _ (.tail _ (.tail _ (.tail _ (.tail _ (.tail _ (.tail _ (.tail _ (.head _)))))))))))))) | exact (.tail _ (.tail _ (.tail _ (.tail _ (.tail _ (.tail _ (.tail _ (.tail _ (.tail _ (.tail _ (.tail _ (.tail _ (.tail _ (.tail _ (.head _))))))))))))))) | exact (.tail _ (.tail _ (.tail _ (.tail _ (.tail _ (.tail _ (.tail _ (.tail _ (.tail _ (.tail _ (.tail _ (.tail _ (.tail _ (.tail _ (.tail _ (.head _))))))))))))))))); (case ks => assumption); (case kg => assumption); (case k8 => ktr_room); (case k9 => ktr_units)); intro v9 h' tk' hR9 F' N'; (obtain ⟨pv, t9, e9, ep⟩ := parse_is hR9 pb); subst e9; clear hR9; (try dsimp only))
  k_with "eval IfExp" => (k_here; (refine' ifexp_join (pv := pv) (IfExp_ ?_) ?_); (all_goals first | (intro u9 k9) | skip))
  k_steps
  exact ret _ op' _ _ _ oL' _ _ _ _ _ (isS_of ep) TO' st GR hL0 SL' (by k_asm) (by refine' cb_drop ?cbN ?cbS; (case cbN => assumption); (case cbS => kcj_all)) hbG
end
section
set_option maxHeartbeats 800000
section
variable {prog : Program} {w : World} {A : Around} {E : Value → Shared → Prop} {s : Shared} {h₀ : Heap} {L c : Addr} {m : PySem.Str → Option Value} {news : List (Addr × Obj)} {vs : List Value} {ns : List Int} {lo hi st : Option Int} {Q : Value → Shared → Prop}
theorem ints_mem : ∀ {vs : List Value} {ns : List Int}, IntsAre vs ns → ∀ v ∈ vs, ∃ n t, v = .int n t
  | _, _, .nil, _, h => nomatch h
  | _, _, .cons n t r, v, h => by
    rcases List.mem_cons.mp h with rfl | h
    · exact ⟨n, t, rfl⟩
    · exact ints_mem r v h
theorem ints_pick (hI : IntsAre vs ns) : AllInts (slicePick vs.toArray lo hi st) := by
  intro v hv
  unfold slicePick at hv
  obtain ⟨j, _, e⟩ := List.mem_filterMap.mp (List.mem_toArray.mp hv)
  rw [List.getElem?_toArray] at e
  exact ints_mem hI v (List.mem_of_getElem? e)
theorem sum_pick (hh : A.handled = none) (F : Fr h₀ L s.heap m) (N : News h₀ L s.heap ((c, ({ cls := .type "list", data := .seq (slicePick vs.toArray lo hi st) } : Obj)) :: news)) (hI : IntsAre vs ns)
    (h : ∀ n t h' tk, Fr h₀ L h' m → News h₀ L h' news → Q (.int n t) { s with heap := h', toks := tk }) :
    wpAny (model prog w) A (call (.builtin "sum") [.ref c]) Q E s := by
  have hl : s.heap.IsList c (slicePick vs.toArray lo hi st) := ⟨_, (N _ (.head _)).1, rfl, 0, rfl⟩
  obtain ⟨xs, hx⟩ := (ints_pick (lo := lo) (hi := hi) (st := st) hI).items
  rw [hx] at hl
  exact sum_intListG hh hl fun h' tk t' hk => h _ t' h' tk (F.keeps hk) (News.grown (fun q hq => N q (.tail _ hq)) hk)
theorem add_any {a b : Int} {t u : Tok} (h : ∀ c t' k, Q (.int c t') { s with toks := k }) : wpAny (model prog w) A (binaryOp .Add (.int a t) (.int b u)) Q E s :=
  add_int (h _ _ _)
theorem lit_slash : tl (PySem.Str.ofString "/") = [47] := by decide +kernel
theorem lit_dd : tl (Txt.mul (PySem.Str.ofString "d ") 8) = [100, 32, 100, 32, 100, 32, 100, 32, 100, 32, 100, 32, 100, 32, 100, 32] := by decide +kernel
theorem path_add {t u : Tok} {z : Int} (h : ∀ p t' k', p.length ≤ 16 → (34 ∉ tl p) → Fine (tl p) → Q (.str p t') { s with toks := k' }) :
    wpAny (model prog w) A (binaryOp .Add (.str (PySem.Str.ofString "/") t) (.str (Txt.slice (Txt.mul (PySem.Str.ofString "d ") 8) none (some (Int.fmod z 16))) u)) Q E s := by
  have h0 : 0 ≤ Int.fmod z 16 := Int.fmod_nonneg_of_pos _ (by decide)
  have h1 : Int.fmod z 16 < 16 := Int.fmod_lt_of_pos _ (by decide)
  have e := tl_slice_to (x := Txt.mul (PySem.Str.ofString "d ") 8) h0
  have lS : (Txt.slice (Txt.mul (PySem.Str.ofString "d ") 8) none (some (Int.fmod z 16))).length ≤ 15 := by
    rw [← len_tl, e, List.length_take]; omega
  have l1 : (PySem.Str.ofString "/").length = 1 := by rw [← len_tl, lit_slash]; rfl
  have mem : ∀ c ∈ tl (PySem.Str.ofString "/" ++ Txt.slice (Txt.mul (PySem.Str.ofString "d ") 8) none (some (Int.fmod z 16))), c = 47 ∨ c = 100 ∨ c = 32 := by
    intro c hc
    rw [tl_append, lit_slash, e, lit_dd] at hc
    rcases List.mem_append.mp hc with hc | hc
    · exact .inl (List.mem_singleton.mp hc)
    · have := List.mem_of_mem_take hc
      simp only [List.mem_cons, List.not_mem_nil, or_false] at this
      omega
  refine KXadd.add (K := 1) (L := 15) (by omega) lS (by decide) fun t' k' hl => ?_
  refine h _ _ _ (by omega) (fun hc => ?_) fun c hc => ?_
  · rcases mem _ hc with h | h | h <;> cases h
  · rcases mem _ hc with rfl | rfl | rfl <;> decide
end
end
section
set_option maxHeartbeats 4000000
def wd (k : Nat) (bs : List Bool) : List Nat := bs.map fun b => if b then k else 34
theorem wd_len (k : Nat) (bs : List Bool) : (wd k bs).length = bs.length := by simp [wd]
theorem wd_app (k : Nat) (a b : List Bool) : wd k (a ++ b) = wd k a ++ wd k b := by simp [wd]
theorem wd_cons (k : Nat) (b : Bool) (r : List Bool) : wd k (b :: r) = (if b then k else 34) :: wd k r := rfl
theorem wd_inj {k : Nat} (hk : k ≠ 34) : ∀ {a b : List Bool}, wd k a = wd k b → a = b
  | [], [], _ => rfl
  | [], b :: r, h => by cases h
  | a :: r, [], h => by cases h
  | a :: r, b :: s, h => by
    rw [wd_cons, wd_cons] at h
    injection h with h1 h2
    rw [wd_inj hk h2]
    congr 1
    cases a <;> cases b <;> simp_all
def lcpB : List Bool → List Bool → List Bool
  | a :: r, b :: s => if a = b then a :: lcpB r s else []
  | _, _ => []
theorem lcp_wd {k : Nat} (hk : k ≠ 34) : ∀ a b : List Bool, lcp (wd k a) (wd k b) = wd k (lcpB a b)
  | [], b => rfl
  | a :: r, [] => rfl
  | a :: r, b :: s => by
    rw [wd_cons, wd_cons]
    by_cases h : a = b
    · subst h
      rw [lcp_cons_eq, lcp_wd hk r s]
      simp only [lcpB, if_true]
      rfl
    · have h' : ¬ (if a then k else 34) = (if b then k else 34) := by
        cases a <;> cases b <;> simp_all
        exact fun q => hk q.symm
      rw [lcp_cons_ne h']
      simp only [lcpB, if_neg h]
      rfl
theorem lcp_app : ∀ p a b : List Nat, lcp (p ++ a) (p ++ b) = p ++ lcp a b
  | [], _, _ => rfl
  | c :: p, a, b => by
    show lcp (c :: (p ++ a)) (c :: (p ++ b)) = _
    rw [lcp_cons_eq, lcp_app p a b]; rfl
/-- the words -/
theorem wordL_wd {c : Int} {k : Nat} : ∃ bs : List Bool, wordL c [k] = wd k bs ∧ 1 ≤ bs.length ∧ bs.length ≤ 4 := by
  refine ⟨(List.range (Int.fmod c 4 + 1).toNat).map fun j => !decide (Int.fmod (Int.fdiv (Int.fdiv c 4) (2 ^ j)) 2 = 0), ?_, ?_, ?_⟩
  · unfold wordL wd
    rw [List.map_map]
    generalize List.range (Int.fmod c 4 + 1).toNat = l
    induction l with
    | nil => rfl
    | cons j l ih =>
      rw [List.map_cons, List.flatten_cons, ih, List.map_cons]
      by_cases h : Int.fmod (Int.fdiv (Int.fdiv c 4) (2 ^ j)) 2 = 0 <;> simp [h]
  · have h0 : 0 ≤ Int.fmod c 4 := Int.fmod_nonneg_of_pos _ (by decide)
    rw [List.length_map, List.length_range]; omega
  · have h1 : Int.fmod c 4 < 4 := Int.fmod_lt_of_pos _ (by decide)
    rw [List.length_map, List.length_range]; omega
/-- the grown rows -/
def growB (f s : List Bool) : Nat → List Bool → List (List Bool)
  | 0, row => [row]
  | n + 1, row => if row.length < f.length + s.length then growB f s n (row ++ f) ++ growB f s n (row ++ s) else [row]
theorem growF_wd {k : Nat} {f s : List Bool} : ∀ (n : Nat) (row : List Bool) (c : Int), ∃ g ∈ growB f s n row, growF (wd k f) (wd k s) n (wd k row) c = wd k g
  | 0, row, c => ⟨row, .head _, rfl⟩
  | n + 1, row, c => by
    unfold growF growB
    rw [wd_len, wd_len, wd_len]
    by_cases h : row.length < f.length + s.length
    · rw [if_pos h, if_pos h]
      by_cases q : Int.fmod c 2 = 0
      · obtain ⟨g, hg, e⟩ := growF_wd (k := k) (f := f) (s := s) n (row ++ f) (Int.fdiv c 2)
        rw [if_pos q, ← wd_app]
        exact ⟨g, List.mem_append_left _ hg, e⟩
      · obtain ⟨g, hg, e⟩ := growF_wd (k := k) (f := f) (s := s) n (row ++ s) (Int.fdiv c 2)
        rw [if_neg q, ← wd_app]
        exact ⟨g, List.mem_append_right _ hg, e⟩
    · rw [if_neg h, if_neg h]
      exact ⟨row, .head _, rfl⟩
theorem growB_len {f s : List Bool} (hf : f.length ≤ 4) (hs : s.length ≤ 4) : ∀ (n : Nat) (row : List Bool), row.length ≤ 11 → ∀ g ∈ growB f s n row, g.length ≤ 11
  | 0, row, h, g, hg => by rw [List.mem_singleton.mp hg]; exact h
  | n + 1, row, h, g, hg => by
    unfold growB at hg
    by_cases q : row.length < f.length + s.length
    · rw [if_pos q] at hg
      rcases List.mem_append.mp hg with hg | hg
      · exact growB_len hf hs n _ (by rw [List.length_append]; omega) g hg
      · exact growB_len hf hs n _ (by rw [List.length_append]; omega) g hg
    · rw [if_neg q] at hg
      rw [List.mem_singleton.mp hg]; exact h
/-- how many signs both lengths are multiples of -/
def stepB (n m : Nat) : Nat := if n % 4 = 0 ∧ m % 4 = 0 then 4 else if n % 3 = 0 ∧ m % 3 = 0 then 3 else if n % 2 = 0 ∧ m % 2 = 0 then 2 else 1
def repB (l : List Bool) : Nat → List Bool
  | 0 => []
  | n + 1 => l ++ repB l n
def lawB (f s one other : List Bool) : Bool :=
  if repB ((f ++ s).take (stepB f.length s.length)) ((f ++ s).length / stepB f.length s.length) = f ++ s then
    lcpB (f ++ s) (s ++ f) == f ++ s && lcpB one other == (if one.length < other.length then one else other)
  else lcpB one other == lcpB (f ++ s) (s ++ f)
def wordsB : Nat → List (List Bool)
  | 0 => [[]]
  | n + 1 => (wordsB n).map (false :: ·) ++ (wordsB n).map (true :: ·)
theorem mem_words : ∀ l : List Bool, l ∈ wordsB l.length
  | [] => .head _
  | false :: r => List.mem_append_left _ (List.mem_map_of_mem (mem_words r))
  | true :: r => List.mem_append_right _ (List.mem_map_of_mem (mem_words r))
def allB (n m : Nat) : Bool := (wordsB n).all fun f => (wordsB m).all fun s => (growB f s 8 f).all fun one => (growB s f 8 s).all fun other => lawB f s one other
theorem all_11 : allB 1 1 = true := by decide +kernel
theorem all_12 : allB 1 2 = true := by decide +kernel
theorem all_13 : allB 1 3 = true := by decide +kernel
theorem all_14 : allB 1 4 = true := by decide +kernel
theorem all_21 : allB 2 1 = true := by decide +kernel
theorem all_22 : allB 2 2 = true := by decide +kernel
theorem all_23 : allB 2 3 = true := by decide +kernel
theorem all_24 : allB 2 4 = true := by decide +kernel
theorem all_31 : allB 3 1 = true := by decide +kernel
theorem all_32 : allB 3 2 = true := by decide +kernel
theorem all_33 : allB 3 3 = true := by decide +kernel
theorem all_34 : allB 3 4 = true := by decide +kernel
theorem all_41 : allB 4 1 = true := by decide +kernel
theorem all_42 : allB 4 2 = true := by decide +kernel
theorem all_43 : allB 4 3 = true := by decide +kernel
theorem all_44 : allB 4 4 = true := by decide +kernel
theorem law_all {f s one other : List Bool} (hf : 1 ≤ f.length ∧ f.length ≤ 4) (hs : 1 ≤ s.length ∧ s.length ≤ 4) (h1 : one ∈ growB f s 8 f) (h2 : other ∈ growB s f 8 s) : lawB f s one other = true := by
  have key : allB f.length s.length = true := by
    rcases (show f.length = 1 ∨ f.length = 2 ∨ f.length = 3 ∨ f.length = 4 by omega) with e | e | e | e <;>
    rcases (show s.length = 1 ∨ s.length = 2 ∨ s.length = 3 ∨ s.length = 4 by omega) with e' | e' | e' | e' <;> rw [e, e']
    · exact all_11
    · exact all_12
    · exact all_13
    · exact all_14
    · exact all_21
    · exact all_22
    · exact all_23
    · exact all_24
    · exact all_31
    · exact all_32
    · exact all_33
    · exact all_34
    · exact all_41
    · exact all_42
    · exact all_43
    · exact all_44
  unfold allB at key
  exact List.all_eq_true.mp (List.all_eq_true.mp (List.all_eq_true.mp (List.all_eq_true.mp key f (mem_words f)) s (mem_words s)) one h1) other h2
end
section
set_option maxHeartbeats 4000000
theorem ns_hide {h : Heap} {a b : Addr} {m : PySem.Str → Option Value} {op : Obj} {ps : Array Value} (hn : h.Ns a m) (hp : h.get? b = some op) (hd : op.data = .fields ps) : (hideAll h [b]).Ns a m := by
  obtain ⟨o, es, ep, ho, hod, r⟩ := hn
  refine ⟨o, es, ep, hideAll_get _ ho fun q => ?_, hod, r⟩
  rw [List.mem_singleton.mp q, hp] at ho
  cases ho
  rw [hd] at hod
  cases hod
theorem topRead_hide {p : Program} {loose : List PySem.Str} {mg mb : PySem.Str → Option Value} {h : Heap} {b : Addr} {op : Obj} {ps : Array Value} (T : TopRead p loose mg mb h) (hp : h.get? b = some op) (hd : op.data = .fields ps) : TopRead p loose mg mb (hideAll h [b]) := by
  obtain ⟨mc, h1, h2⟩ := T.nolimit
  exact ⟨ns_hide T.g hp hd, ns_hide T.b hp hd, ⟨mc, ns_hide h1 hp hd, h2⟩, T.builtins, T.free⟩
def funCode (K : Frag) (f c : Addr) : Bool := match K.lookup f with
  | some ⟨_, _, .func fd, _⟩ => fd.code == .ref c
  | _ => false
/-- where the table of a def's code objects stands -/
theorem table_at {K : Frag} {p : Program} {loose : List PySem.Str} {mean : ExcName → Option Value} {mg mb : PySem.Str → Option Value} {h : Heap} {x : PySem.Str} {f c P : Addr} (X : K.In h) (T : Top p loose mean mg mb h)
    (hx : ∃ d ∈ recsOf p, d.name = x) (e : nsIn K mainGlobals x = some (some (.ref f))) (e1 : funCode K f c = true) (e2 : codeTab K c P = true) : h.get? P = some (tabObj #[]) ∧ isCodeTable h P := by
  obtain ⟨d, hd, rfl⟩ := hx
  obtain ⟨a, o, fd, c', P', m1, m2, m3, m4, m5, m8⟩ := T.tab d hd
  have m6 := mg_of X T.g e
  rw [m1] at m6
  cases m6
  unfold funCode at e1
  split at e1
  · rename_i c0 d0 fd0 s0 ho
    have := X _ _ ho
    rw [m2] at this
    cases this
    cases m3
    have e1' := eq_of_beq e1
    rw [m4] at e1'
    cases e1'
    have m7 := m5
    obtain ⟨o, vs, file, tf, flags, tg, inF, text, tt, op, k1, k2, k3, k4, k5, k6, k7, k8, k9, k10, k11⟩ := m5
    unfold codeTab at e2
    split at e2
    · rename_i d1 vs1 s1 ho1
      have := X _ _ ho1
      rw [k1] at this
      cases this
      cases k2
      simp only [Bool.and_eq_true] at e2
      have e3 := e2.1.1.1.1.1
      rw [k3] at e3
      have := eq_of_beq e3
      subst this
      exact ⟨m8.2, m8.isCodeTable⟩
    · cases e2
  · cases e1
theorem in_hide {K : Frag} {h : Heap} {b : Addr} (X : K.In h) (e : K.lookup b = none) : K.In (hideAll h [b]) := fun a o ho => hideAll_get _ (X a o ho) fun q => by
  rw [List.mem_singleton.mp q, e] at ho; cases ho
section
variable {k : Nat} {w : World} {f : Addr} {vs : List Value} {given : List (Addr × Obj)} {R : Value → Prop} {mg mb : PySem.Str → Option Value} {dp un : Nat} {gd : Option (List Code)} {env : Env} {A₀ : Around} {h₀ : Heap} {L : Addr} {m : PySem.Str → Option Value} {s : Shared} {news rest : List (Addr × Obj)} {Q E : Value → Shared → Prop} {mean : ExcName → Option Value}
theorem conW_first {bm : Addr} {ob : Obj} (B : Below A₀ h₀ [] h₀) (F : Fr h₀ L s.heap m) (X : (hd.heap_1 w.params).In h₀) (N : News h₀ L s.heap news) (T : Top hd.view_1 LO mean mg mb h₀) (BM : BMod h₀ mainGlobals mg bm ob) (hk : env.scope.kind = .function)
    (hx : ∃ d ∈ recsOf hd.view_1, d.name = PySem.Str.ofString "_common_shorten_repr") (e0 : nsIn (hd.heap_1 w.params) mainGlobals (PySem.Str.ofString "_common_shorten_repr") = some (some (.ref 61))) (e1 : funCode (hd.heap_1 w.params) 61 60 = true) (e2 : codeTab (hd.heap_1 w.params) 60 56 = true) (e3 : (hd.heap_1 w.params).lookup 56 = none)
    (C : ConW k w f vs given R) (hg : ∀ q ∈ given, q ∈ news) (hr : ∀ q ∈ rest, q ∈ news) (hrG : ∀ q ∈ rest, q.1 ∉ given.map (·.1)) (hd : dp + k < recursionLimit) (hu : un + 20 * k < cLine)
    (h : ∀ v g op' h' tk' g', R v → TabOk op' → Fr g L h' m → News g L h' ((56, op') :: rest) → Below A₀ g [] g → (Mine.hd.heap_1 w.params).In g → TopRead Mine.hd.view_1 LO mg mb g → BMod g mainGlobals mg bm ob → (∀ q ∈ rest, q.1 ≠ 56) → (∀ b o, b ≠ 56 → h₀.get? b = some o → g.get? b = some o) → (h₀.get? 56 = some (tabObj #[]) ∧ isCodeTable h₀ 56) → (AllBare s.gens → AllBare g') → Q v { s with heap := h', toks := tk', gens := g' }) (hf : env.frame = some L := by rfl) :
    wpAny (model PySem.Challenge.rw_tv0008_01.row.prog w) (genTop dp un gd env []) (call (.ref f) vs) Q E s := by
  obtain ⟨hp, _⟩ := table_at X T hx e0 e1 e2
  have hT : TabOk (tabObj #[]) := ⟨_, rfl, trivial⟩
  have hpd : (tabObj #[]).data = .fields #[] := rfl
  generalize ho : tabObj #[] = op at hp hT hpd
  have TR := topRead_hide (topRead_of T) hp hpd
  have n56 : ∀ q ∈ news, q.1 ≠ 56 := fun q hq e => by
    have := (N q hq).2.2
    rw [e, hp] at this; cases this
  have hL : (56 : Addr) ≠ L := fun e => by
    have := kts_self F
    rw [← e, hp] at this; cases this
  have Fg : Fr (hideAll h₀ [56]) L s.heap m := ⟨F.ns, fun b o e => F.keep b o (of_hideAll _ e), by rw [hideAll_size]; exact F.above⟩
  have Ng : News (hideAll h₀ [56]) L s.heap ((56, op) :: news) := fun q hq => by
    rcases List.mem_cons.mp hq with rfl | hq
    · exact ⟨F.keep _ _ hp, hL, hideAll_none _ (.head _)⟩
    · refine ⟨(N q hq).1, (N q hq).2.1, ?_⟩
      cases z : (hideAll h₀ [56]).get? q.1 with
      | none => rfl
      | some o => have := of_hideAll _ z; rw [(N q hq).2.2] at this; cases this
  have BMg : BMod (hideAll h₀ [56]) mainGlobals mg bm ob := by
    refine ⟨TR.g, BM.name, BM.ne, hideAll_get _ BM.obj fun q => ?_, BM.cls, BM.dict, BM.data⟩
    have e := BM.obj
    rw [List.mem_singleton.mp q, hp] at e
    cases e
    have := BM.data
    rw [hpd] at this; cases this
  have Xg := in_hide X e3
  have Bg : Below A₀ (hideAll h₀ [56]) [] (hideAll h₀ [56]) := ⟨B.stack, fun _ _ e => e, trivial⟩
  exact conW_use Bg Fg Xg Ng (.head _) hT BMg TR hk C (fun q hq => .tail _ (hg q hq)) (fun q hq => .tail _ (hr q hq)) (fun q hq => n56 q (hr q hq)) hrG hd hu (fun v op' h' tk' g' hR hT' F' N' hb => h v _ op' h' tk' g' hR hT' F' N' Bg Xg TR BMg (fun q hq => n56 q (hr q hq)) (fun b o n e => hideAll_get _ e fun q => n (List.mem_singleton.mp q)) (table_at X T hx e0 e1 e2) hb) hf
end
theorem rec_there : ∃ d ∈ recsOf hd.view_1, d.name = PySem.Str.ofString "_common_shorten_repr" := by decide +kernel
theorem size_56 {w : World} {h : Heap} (X : (hd.heap_1 w.params).In h) : @LT.lt Nat instLTNat 56 h.objs.size := by
  have e : ∃ o, (hd.heap_1 w.params).lookup 61 = some o := ⟨_, by with_unfolding_all rfl⟩
  obtain ⟨o, ho⟩ := e
  exact Nat.lt_trans (by decide) (Heap.lt_size (X _ _ ho))
section
variable {prog : Program} {w : World} {A : Around} {E : Value → Shared → Prop} {s : Shared} {Q : Value → Shared → Prop}
theorem chr_any {z : Int} {t : Tok} (h : ∀ (x : PySem.Str) (k : Nat) t' k', tl x = [k] → 97 ≤ k ∧ k ≤ 122 → x.length = 1 → Q (.str x t') { s with toks := k' }) : wpAny (model prog w) A (call (.builtin "chr") [.int (97 + Int.fmod z 26) t]) Q E s := by
  have h0 : 0 ≤ Int.fmod z 26 := Int.fmod_nonneg_of_pos _ (by decide)
  have h1 : Int.fmod z 26 < 26 := Int.fmod_lt_of_pos _ (by decide)
  exact chr_of_range (by omega) (by omega) (h _ (97 + Int.fmod z 26).toNat _ _ rfl (by omega) rfl)
end
theorem word_is {c : Int} {x : PySem.Str} {k : Nat} {v : Value} (h : IsS (wordL c (tl x)) v) (hx : tl x = [k]) : ∃ (bs : List Bool) (f : PySem.Str) (t : Tok), v = .str f t ∧ tl f = wd k bs ∧ (1 ≤ bs.length ∧ bs.length ≤ 4) ∧ f.length = bs.length := by
  obtain ⟨t, rfl⟩ := h
  rw [hx]
  obtain ⟨bs, e, h1, h2⟩ := wordL_wd (c := c) (k := k)
  exact ⟨bs, _, t, rfl, by rw [tl_S, e], ⟨h1, h2⟩, by rw [len_S, e, wd_len]⟩
theorem grown_is {x y : PySem.Str} {k : Nat} {f g : List Bool} {c : Int} {v : Value} (h : IsS (growF (tl x) (tl y) 8 (tl x) c) v) (ex : tl x = wd k f) (ey : tl y = wd k g) (hf : 1 ≤ f.length ∧ f.length ≤ 4) (hg : 1 ≤ g.length ∧ g.length ≤ 4) :
    ∃ (r : List Bool) (o : PySem.Str) (t : Tok), v = .str o t ∧ tl o = wd k r ∧ r ∈ growB f g 8 f ∧ o.length = r.length ∧ o.length ≤ 11 := by
  obtain ⟨t, rfl⟩ := h
  rw [ex, ey]
  obtain ⟨r, hr, e⟩ := growF_wd (k := k) (f := f) (s := g) 8 f c
  have hl := growB_len hf.2 hg.2 8 f (by omega) r hr
  exact ⟨r, _, t, rfl, by rw [tl_S, e], hr, by rw [len_S, e, wd_len], by rw [len_S, e, wd_len]; exact hl⟩
theorem fine_wd {k : Nat} {b : List Bool} (hk : 97 ≤ k ∧ k ≤ 122) : Fine (wd k b) := by
  intro c hc
  obtain ⟨b, _, rfl⟩ := List.mem_map.mp hc
  cases b
  · exact (by decide : fineB 34 = true)
  · simp only [fineB, Bool.and_eq_true, Bool.not_eq_true', decide_eq_true_eq, decide_eq_false_iff_not, if_true]
    omega
theorem fine_str {a b : PySem.Str} (ha : Fine (tl a)) (hb : Fine (tl b)) : Fine (tl (a ++ b)) := by rw [tl_append]; exact fine_app ha hb
theorem fine_of {a : PySem.Str} {k : Nat} {b : List Bool} (e : tl a = wd k b) (hk : 97 ≤ k ∧ k ≤ 122) : Fine (tl a) := by rw [e]; exact fine_wd hk
theorem bound_1 {a b : PySem.Str} (ha : a.length ≤ 4) (hb : b.length ≤ 4) : (dbl (tl (a ++ b))).length ≤ 38 := by
  have := dbl_len (tl (a ++ b))
  rw [len_tl, PySem.Str.length_append] at this; omega
theorem bound_2 {p b : PySem.Str} (hp : p.length ≤ 16) (hq : 34 ∉ tl p) (hb : b.length ≤ 11) : (dbl (tl (p ++ b))).length ≤ 38 := by
  have e : dbl (tl (p ++ b)) = tl p ++ dbl (tl b) := by
    rw [tl_append]
    show StrLaws.dbl 34 (tl p ++ tl b) = _
    rw [StrLaws.dbl_append, StrLaws.dbl_free 34 _ hq]
  have := dbl_len (tl b)
  rw [e, List.length_append, len_tl]
  rw [len_tl] at this; omega
theorem many_1 (c : Int) : 40 + Int.fmod c 2 * 40 = 40 ∨ 40 + Int.fmod c 2 * 40 = 80 := by
  have h0 : 0 ≤ Int.fmod c 2 := Int.fmod_nonneg_of_pos _ (by decide)
  have h1 : Int.fmod c 2 < 2 := Int.fmod_lt_of_pos _ (by decide)
  omega
theorem many_2 (c : Int) : 120 - (40 + Int.fmod c 2 * 40) = 40 ∨ 120 - (40 + Int.fmod c 2 * 40) = 80 := by
  rcases many_1 c with h | h <;> omega
theorem isS_name {l : List Nat} {v : Value} (h : IsS l v) : ∃ (x : PySem.Str) (t : Tok), v = .str x t ∧ tl x = l := by
  obtain ⟨t, rfl⟩ := h
  exact ⟨_, t, rfl, tl_S _⟩
section
variable {k : Nat} {w : World} {f nl : Addr} {o : Obj} {vs : List Value} {R : Value → Prop} {mg mb : PySem.Str → Option Value} {dp un : Nat} {gd : Option (List Code)} {env : Env} {A₀ : Around} {h₀ : Heap} {L : Addr} {m : PySem.Str → Option Value} {s : Shared} {news mid rest : List (Addr × Obj)} {Q E : Value → Shared → Prop} {mean : ExcName → Option Value}
theorem conW_firstS {bm : Addr} {ob : Obj} (B : Below A₀ h₀ [] h₀) (F : Fr h₀ L s.heap m) (X : (hd.heap_1 w.params).In h₀) (N : News h₀ L s.heap news) (T : Top hd.view_1 LO mean mg mb h₀) (BM : BMod h₀ mainGlobals mg bm ob) (hk : env.scope.kind = .function)
    (e0 : nsIn (hd.heap_1 w.params) mainGlobals (PySem.Str.ofString "_common_shorten_repr") = some (some (.ref 61))) (e1 : funCode (hd.heap_1 w.params) 61 60 = true) (e2 : codeTab (hd.heap_1 w.params) 60 56 = true) (e3 : (hd.heap_1 w.params).lookup 56 = none)
    (hS : SplitA news rest (nl, o)) (C : ConW k w f vs [(nl, o)] R) (hrG : ∀ q ∈ rest, q.1 ≠ nl) (hd : dp + k < recursionLimit) (hu : un + 20 * k < cLine)
    (h : ∀ v g op' h' tk' g', R v → TabOk op' → Fr g L h' m → News g L h' ((56, op') :: rest) → Below A₀ g [] g → (Mine.hd.heap_1 w.params).In g → TopRead Mine.hd.view_1 LO mg mb g → BMod g mainGlobals mg bm ob → (∀ q ∈ rest, q.1 ≠ 56) → (∀ b o, b ≠ 56 → h₀.get? b = some o → g.get? b = some o) → (h₀.get? 56 = some (tabObj #[]) ∧ isCodeTable h₀ 56) → (AllBare s.gens → AllBare g') → Q v { s with heap := h', toks := tk', gens := g' }) (hf : env.frame = some L := by rfl) :
    wpAny (model PySem.Challenge.rw_tv0008_01.row.prog w) (genTop dp un gd env []) (call (.ref f) vs) Q E s :=
  conW_first B F X N T BM hk rec_there e0 e1 e2 e3 C (fun q hq => by rw [List.mem_singleton.mp hq]; exact hS.sub.2) hS.sub.1 (fun q hq e => hrG q hq (List.mem_singleton.mp e)) hd hu h hf
theorem conW_useS {op : Obj} {bm : Addr} {ob : Obj} (B : Below A₀ h₀ [] h₀) (F : Fr h₀ L s.heap m) (X : (hd.heap_1 w.params).In h₀) (N : News h₀ L s.heap news) (T : TopRead hd.view_1 LO mg mb h₀) (hk : env.scope.kind = .function)
    (hP : SplitA news mid (56, op)) (hS : SplitA mid rest (nl, o)) (TO : TabOk op) (BM : BMod h₀ mainGlobals mg bm ob) (C : ConW k w f vs [(nl, o)] R) (hrP : ∀ q ∈ rest, q.1 ≠ 56) (hrG : ∀ q ∈ rest, q.1 ≠ nl) (hd : dp + k < recursionLimit) (hu : un + 20 * k < cLine)
    (h : ∀ v op' h' tk' g', R v → TabOk op' → Fr h₀ L h' m → News h₀ L h' ((56, op') :: rest) → (AllBare s.gens → AllBare g') → Q v { s with heap := h', toks := tk', gens := g' }) (hf : env.frame = some L := by rfl) :
    wpAny (model PySem.Challenge.rw_tv0008_01.row.prog w) (genTop dp un gd env []) (call (.ref f) vs) Q E s :=
  conW_use B F X N hP.sub.2 TO BM T hk C (fun q hq => by rw [List.mem_singleton.mp hq]; exact hP.sub.1 _ hS.sub.2) (fun q hq => hP.sub.1 _ (hS.sub.1 q hq)) hrP (fun q hq e => hrG q hq (List.mem_singleton.mp e)) hd hu h hf
end
structure JMark : Prop
def StepEnd (g : Heap) (L : Addr) (m : PySem.Str → Option Value) (news : List (Addr × Obj)) (s : Shared) (n : Nat) (v : Value) (s' : Shared) : Prop :=
  ∃ h' tk t, s' = { s with heap := h', toks := tk } ∧ v = .int n t ∧ Fr g L h' m ∧ News g L h' news
section
variable {M : Model} {A : Around} {E : Value → Shared → Prop} {s : Shared} {g : Heap} {L : Addr} {m : PySem.Str → Option Value} {news all : List (Addr × Obj)} {t : Sem Value} {Q : Value → Shared → Prop} {n : Nat}
theorem eval_step (F : Fr g L s.heap m) (N : News g L s.heap news) (n : Nat) (h1 : JMark → wpAny M A t (StepEnd g L m news s n) E s) (h2 : ∀ h' tk u, Fr g L h' m → News g L h' news → Q (.int n u) { s with heap := h', toks := tk }) : wpAny M A t Q E s :=
  wpAny_mono (h1 ⟨⟩) (fun v s' ⟨h', tk, u, e, e', F', N'⟩ => by subst e e'; exact h2 h' tk u F' N') fun _ _ h => h
theorem step_end {h' : Heap} {tk : Nat} {k : Int} {u : Tok} (F' : Fr g L h' m) (N' : News g L h' all) (hs : ∀ q ∈ news, q ∈ all) (e : k = n) : StepEnd g L m news s n (.int k u) { s with heap := h', toks := tk } :=
  ⟨h', tk, u, rfl, by rw [e], F', fun q hq => N' q (hs q hq)⟩
end
theorem st4 {n m : Nat} (hn : 1 ≤ n ∧ n ≤ 4) (hm : 1 ≤ m ∧ m ≤ 4) (h0 : Int.fmod ((n : Nat) : Int) (1 + (((0 + 1 + 1 + 1 : Nat)) : Int)) = 0) (h1 : Int.fmod ((m : Nat) : Int) (1 + (((0 + 1 + 1 + 1 : Nat)) : Int)) = 0) : stepB n m = 4 := by
  rcases (show n = 1 ∨ n = 2 ∨ n = 3 ∨ n = 4 by omega) with rfl | rfl | rfl | rfl <;> rcases (show m = 1 ∨ m = 2 ∨ m = 3 ∨ m = 4 by omega) with rfl | rfl | rfl | rfl <;> first | rfl | exact absurd h0 (by decide) | exact absurd h1 (by decide) | exact absurd (by decide) h0 | exact absurd (by decide) h1
theorem st3 {n m : Nat} (hn : 1 ≤ n ∧ n ≤ 4) (hm : 1 ≤ m ∧ m ≤ 4) (h0 : Int.fmod ((n : Nat) : Int) (1 + (((0 + 1 + 1 : Nat)) : Int)) = 0) (h1 : Int.fmod ((m : Nat) : Int) (1 + (((0 + 1 + 1 : Nat)) : Int)) = 0) : stepB n m = 3 := by
  rcases (show n = 1 ∨ n = 2 ∨ n = 3 ∨ n = 4 by omega) with rfl | rfl | rfl | rfl <;> rcases (show m = 1 ∨ m = 2 ∨ m = 3 ∨ m = 4 by omega) with rfl | rfl | rfl | rfl <;> first | rfl | exact absurd h0 (by decide) | exact absurd h1 (by decide) | exact absurd (by decide) h0 | exact absurd (by decide) h1
theorem st2a {n m : Nat} (hn : 1 ≤ n ∧ n ≤ 4) (hm : 1 ≤ m ∧ m ≤ 4) (h0 : Int.fmod ((n : Nat) : Int) (1 + (((0 + 1 : Nat)) : Int)) = 0) (h1 : Int.fmod ((m : Nat) : Int) (1 + (((0 + 1 : Nat)) : Int)) = 0) (h2 : Int.fmod ((n : Nat) : Int) (1 + (((0 + 1 + 1 + 1 : Nat)) : Int)) ≠ 0) : stepB n m = 2 := by
  rcases (show n = 1 ∨ n = 2 ∨ n = 3 ∨ n = 4 by omega) with rfl | rfl | rfl | rfl <;> rcases (show m = 1 ∨ m = 2 ∨ m = 3 ∨ m = 4 by omega) with rfl | rfl | rfl | rfl <;> first | rfl | exact absurd h0 (by decide) | exact absurd h1 (by decide) | exact absurd h2 (by decide) | exact absurd (by decide) h0 | exact absurd (by decide) h1 | exact absurd (by decide) h2
theorem st2b {n m : Nat} (hn : 1 ≤ n ∧ n ≤ 4) (hm : 1 ≤ m ∧ m ≤ 4) (h0 : Int.fmod ((n : Nat) : Int) (1 + (((0 + 1 : Nat)) : Int)) = 0) (h1 : Int.fmod ((m : Nat) : Int) (1 + (((0 + 1 : Nat)) : Int)) = 0) (h2 : Int.fmod ((m : Nat) : Int) (1 + (((0 + 1 + 1 + 1 : Nat)) : Int)) ≠ 0) : stepB n m = 2 := by
  rcases (show n = 1 ∨ n = 2 ∨ n = 3 ∨ n = 4 by omega) with rfl | rfl | rfl | rfl <;> rcases (show m = 1 ∨ m = 2 ∨ m = 3 ∨ m = 4 by omega) with rfl | rfl | rfl | rfl <;> first | rfl | exact absurd h0 (by decide) | exact absurd h1 (by decide) | exact absurd h2 (by decide) | exact absurd (by decide) h0 | exact absurd (by decide) h1 | exact absurd (by decide) h2
theorem st1nn {n m : Nat} (hn : 1 ≤ n ∧ n ≤ 4) (hm : 1 ≤ m ∧ m ≤ 4) (h0 : Int.fmod ((n : Nat) : Int) (1 + (((0 + 1 : Nat)) : Int)) ≠ 0) (h1 : Int.fmod ((n : Nat) : Int) (1 + (((0 + 1 + 1 : Nat)) : Int)) ≠ 0) : stepB n m = 1 := by
  rcases (show n = 1 ∨ n = 2 ∨ n = 3 ∨ n = 4 by omega) with rfl | rfl | rfl | rfl <;> rcases (show m = 1 ∨ m = 2 ∨ m = 3 ∨ m = 4 by omega) with rfl | rfl | rfl | rfl <;> first | rfl | exact absurd h0 (by decide) | exact absurd h1 (by decide) | exact absurd (by decide) h0 | exact absurd (by decide) h1
theorem st1nm {n m : Nat} (hn : 1 ≤ n ∧ n ≤ 4) (hm : 1 ≤ m ∧ m ≤ 4) (h0 : Int.fmod ((n : Nat) : Int) (1 + (((0 + 1 : Nat)) : Int)) ≠ 0) (h1 : Int.fmod ((m : Nat) : Int) (1 + (((0 + 1 + 1 : Nat)) : Int)) ≠ 0) : stepB n m = 1 := by
  rcases (show n = 1 ∨ n = 2 ∨ n = 3 ∨ n = 4 by omega) with rfl | rfl | rfl | rfl <;> rcases (show m = 1 ∨ m = 2 ∨ m = 3 ∨ m = 4 by omega) with rfl | rfl | rfl | rfl <;> first | rfl | exact absurd h0 (by decide) | exact absurd h1 (by decide) | exact absurd (by decide) h0 | exact absurd (by decide) h1
theorem st1mn {n m : Nat} (hn : 1 ≤ n ∧ n ≤ 4) (hm : 1 ≤ m ∧ m ≤ 4) (h0 : Int.fmod ((m : Nat) : Int) (1 + (((0 + 1 : Nat)) : Int)) ≠ 0) (h1 : Int.fmod ((n : Nat) : Int) (1 + (((0 + 1 + 1 : Nat)) : Int)) ≠ 0) : stepB n m = 1 := by
  rcases (show n = 1 ∨ n = 2 ∨ n = 3 ∨ n = 4 by omega) with rfl | rfl | rfl | rfl <;> rcases (show m = 1 ∨ m = 2 ∨ m = 3 ∨ m = 4 by omega) with rfl | rfl | rfl | rfl <;> first | rfl | exact absurd h0 (by decide) | exact absurd h1 (by decide) | exact absurd (by decide) h0 | exact absurd (by decide) h1
theorem st1mm {n m : Nat} (hn : 1 ≤ n ∧ n ≤ 4) (hm : 1 ≤ m ∧ m ≤ 4) (h0 : Int.fmod ((m : Nat) : Int) (1 + (((0 + 1 : Nat)) : Int)) ≠ 0) (h1 : Int.fmod ((m : Nat) : Int) (1 + (((0 + 1 + 1 : Nat)) : Int)) ≠ 0) : stepB n m = 1 := by
  rcases (show n = 1 ∨ n = 2 ∨ n = 3 ∨ n = 4 by omega) with rfl | rfl | rfl | rfl <;> rcases (show m = 1 ∨ m = 2 ∨ m = 3 ∨ m = 4 by omega) with rfl | rfl | rfl | rfl <;> first | rfl | exact absurd h0 (by decide) | exact absurd h1 (by decide) | exact absurd (by decide) h0 | exact absurd (by decide) h1
theorem stepB_14 (n m : Nat) : 1 ≤ stepB n m ∧ stepB n m ≤ 4 := by
  unfold stepB
  repeat (split <;> try decide)
theorem no1 {n : Nat} (hn : 1 ≤ n ∧ n ≤ 4) (h0 : Int.fmod ((n : Nat) : Int) (1 + (((0 : Nat)) : Int)) ≠ 0) : False := by
  rcases (show n = 1 ∨ n = 2 ∨ n = 3 ∨ n = 4 by omega) with rfl | rfl | rfl | rfl <;> first | exact absurd h0 (by decide) | exact absurd (by decide) h0
theorem no23 {n : Nat} (hn : 1 ≤ n ∧ n ≤ 4) (h0 : Int.fmod ((n : Nat) : Int) (1 + (((0 + 1 : Nat)) : Int)) = 0) (h1 : Int.fmod ((n : Nat) : Int) (1 + (((0 + 1 + 1 : Nat)) : Int)) = 0) : False := by
  rcases (show n = 1 ∨ n = 2 ∨ n = 3 ∨ n = 4 by omega) with rfl | rfl | rfl | rfl <;> first | exact absurd h0 (by decide) | exact absurd h1 (by decide) | exact absurd (by decide) h0 | exact absurd (by decide) h1
theorem no24 {n : Nat} (hn : 1 ≤ n ∧ n ≤ 4) (h0 : Int.fmod ((n : Nat) : Int) (1 + (((0 + 1 : Nat)) : Int)) ≠ 0) (h1 : Int.fmod ((n : Nat) : Int) (1 + (((0 + 1 + 1 + 1 : Nat)) : Int)) = 0) : False := by
  rcases (show n = 1 ∨ n = 2 ∨ n = 3 ∨ n = 4 by omega) with rfl | rfl | rfl | rfl <;> first | exact absurd h0 (by decide) | exact absurd h1 (by decide) | exact absurd (by decide) h0 | exact absurd (by decide) h1
theorem no34 {n : Nat} (hn : 1 ≤ n ∧ n ≤ 4) (h0 : Int.fmod ((n : Nat) : Int) (1 + (((0 + 1 + 1 : Nat)) : Int)) = 0) (h1 : Int.fmod ((n : Nat) : Int) (1 + (((0 + 1 + 1 + 1 : Nat)) : Int)) = 0) : False := by
  rcases (show n = 1 ∨ n = 2 ∨ n = 3 ∨ n = 4 by omega) with rfl | rfl | rfl | rfl <;> first | exact absurd h0 (by decide) | exact absurd h1 (by decide) | exact absurd (by decide) h0 | exact absurd (by decide) h1
section
variable {prog : Program} {w : World} {A : Around} {E : Value → Shared → Prop} {s : Shared} {Q : Value → Shared → Prop}
theorem div_sn {a : Int} {sn : Nat} {t u : Tok} (h : 1 ≤ sn ∧ sn ≤ 4) (hq : ∀ t' k, Q (.int (a.fdiv sn) t') { s with toks := k }) : wpAny (model prog w) A (binaryOp .FloorDiv (.int a t) (.int (sn : Int) u)) Q E s :=
  floordiv_int (by omega) (hq _ _) (Or.inl (PyProof.noPylong_small (by omega)))
theorem mul_sn {x : PySem.Str} {c : Nat} {sn : Nat} {t u : Tok} (h : 1 ≤ sn ∧ sn ≤ 4) (hx : x.length ≤ 100) (hc : c ≤ 100) (hq : ∀ t' k, Q (.str (Txt.mul x ((c : Int).fdiv sn)) t') { s with toks := k }) : wpAny (model prog w) A (binaryOp .Mult (.str x t) (.int ((c : Int).fdiv sn) u)) Q E s := by
  have h0 : 0 ≤ (c : Int).fdiv sn ∧ (c : Int).fdiv sn ≤ 100 := by
    rw [Int.fdiv_eq_ediv_of_nonneg _ (by omega)]
    refine ⟨Int.ediv_nonneg (by omega) (by omega), ?_⟩
    have := Int.ediv_le_self (a := (c : Int)) (sn : Int) (by omega)
    omega
  generalize (c : Int).fdiv sn = n at h0 hq
  refine SB.mul ⟨?_, fun h1 _ => ?_, fun h1 _ => ?_⟩ hq
  · rw [Bool.or_eq_false_iff]
    exact ⟨decide_eq_false (by omega), decide_eq_false (by omega)⟩
  · have e : (101 : Int) ≤ (2 ^ 63 - 1) / n := (Int.le_ediv_iff_mul_le (by omega)).mpr (by omega)
    omega
  · have h2 : x.length * n.toNat ≤ 100 * 100 := Nat.mul_le_mul hx (by omega)
    unfold Builtin.Str.tooLong sizeLine
    exact decide_eq_false (by omega)
end
theorem slice_le {x : PySem.Str} {n : Nat} (h : x.length ≤ 100) : (Txt.slice x none (some (n : Int))).length ≤ 100 := by
  rw [← len_tl, tl_slice_to (by omega), List.length_take, len_tl]; omega
def LawEnd (c : ClaimW) (cl : PySem.Str → Option Addr) (mean : ExcName → Option Value) (args : List WData) (s₁ : Shared) (res : Result) (s' : Shared) : Prop := GoodWG c cl mean args s₁ res s'
theorem LawEnd.out {c : ClaimW} {cl : PySem.Str → Option Addr} {mean : ExcName → Option Value} {args : List WData} {s₁ s' : Shared} {res : Result} (h : LawEnd c cl mean args s₁ res s') : GoodWG c cl mean args s₁ res s' := h
theorem law_end {c : ClaimW} {cl : PySem.Str → Option Addr} {mean : ExcName → Option Value} {args : List WData} {s₁ : Shared} {g h' : Heap} {L : Addr} {m : PySem.Str → Option Value} {rest : List (Addr × Obj)} {op : Obj} {gens : Array GenState} {d : Drawn} {t : Nat}
    (F : Fr g L h' m) (N : News g L h' ((56, op) :: rest)) (hg : ∀ b o, b ≠ 56 → s₁.heap.get? b = some o → g.get? b = some o) (ht : s₁.heap.get? 56 = some (tabObj #[]) ∧ isCodeTable s₁.heap 56) (TO : TabOk op) (hr : ∀ cls, c.raises args cls = false) (hp : c.post args (.bool true) args = true) (hb : AllBare gens) :
    LawEnd c cl mean args s₁ (.ok (.ret (.bool true))) ⟨h', gens, d, t, s₁.os⟩ := by
  unfold LawEnd
  obtain ⟨ps, rfl, _⟩ := TO
  have h56 := (N _ (.head _)).1
  refine ⟨.inl ⟨_, _, [], rfl, hr, ReadsW.bool true, hp, fun _ => ⟨List.nodup_nil, fun _ hm => (nomatch hm)⟩⟩, ⟨fun b o e => ?_, fun b o e => ?_⟩, rfl, hb⟩
  · by_cases q : b = 56
    · subst q
      rw [ht.1] at e
      cases e
      exact .inr (.inl ⟨ht.2, rfl, #[], ps, rfl, by rw [Array.empty_append]; exact h56⟩)
    · exact .inl (F.keep _ _ (hg b o q e))
  · by_cases q : b = 56
    · subst q; exact ⟨_, h56⟩
    · exact ⟨o, F.keep _ _ (hg b o q e)⟩
theorem law_raises (args : List WData) (cls) : PySem.Challenge.rw_tv0008_01.row.claim.raises args cls = false := rfl
theorem law_post (ns : List Int) : PySem.Challenge.rw_tv0008_01.row.claim.post [ofPy (PyData.list (ns.map PyData.int))] (.bool true) [ofPy (PyData.list (ns.map PyData.int))] = true := by wrow_post
end
section
set_option maxHeartbeats 4000000
def repN (l : List Nat) : Nat → List Nat
  | 0 => []
  | n + 1 => l ++ repN l n
theorem fold_rep (a : Array Nat) : ∀ (k : Nat) (acc : Array Nat), ((List.replicate k a).foldl (· ++ ·) acc).toList = acc.toList ++ repN a.toList k
  | 0, acc => by simp [repN]
  | k + 1, acc => by
    rw [List.replicate_succ, List.foldl_cons, fold_rep a k]
    simp [repN]
theorem repN_nil : ∀ n, repN [] n = []
  | 0 => rfl
  | n + 1 => by rw [repN, repN_nil n]; rfl
theorem tl_mul (x : PySem.Str) (n : Int) : tl (Txt.mul x n) = repN (tl x) n.toNat := by
  unfold Txt.mul
  by_cases h1 : n < 1
  · rw [if_pos h1, show n.toNat = 0 by omega]; rfl
  · rw [if_neg h1]
    by_cases h2 : n = 1
    · subst h2
      rw [if_pos (by simp)]
      show tl x = tl x ++ []
      rw [List.append_nil]
    · by_cases h3 : x.length = 0
      · have e : tl x = [] := List.eq_nil_of_length_eq_zero (by rw [len_tl, h3])
        rw [if_pos (by simp [h3]), e, repN_nil]
      · rw [if_neg (by simp [h2, h3])]
        show ((List.replicate n.toNat x.cps).foldl (· ++ ·) #[]).toList = _
        rw [fold_rep]; rfl
theorem rep_wd (k : Nat) (b : List Bool) : ∀ n, repN (wd k b) n = wd k (repB b n)
  | 0 => rfl
  | n + 1 => by rw [repN, rep_wd k b n, ← wd_app]; rfl
theorem wd_take (k : Nat) (b : List Bool) (n : Nat) : (wd k b).take n = wd k (b.take n) := by simp [wd, List.map_take]
theorem law_str {fs1 fs2 o1 o2 p ts tr : PySem.Str} {b1 b2 g1 g2 : List Bool} {k sn : Nat} (hk : 97 ≤ k ∧ k ≤ 122) (e1 : tl fs1 = wd k b1) (e2 : tl fs2 = wd k b2) (l1 : 1 ≤ b1.length ∧ b1.length ≤ 4) (l2 : 1 ≤ b2.length ∧ b2.length ≤ 4) (f1 : fs1.length = b1.length) (f2 : fs2.length = b2.length)
    (eo1 : tl o1 = wd k g1) (h1 : g1 ∈ growB b1 b2 8 b1) (lo1 : o1.length = g1.length) (eo2 : tl o2 = wd k g2) (h2 : g2 ∈ growB b2 b1 8 b2) (lo2 : o2.length = g2.length) (et : tl ts = lcp (tl (fs1 ++ fs2)) (tl (fs2 ++ fs1))) (er : tl tr = lcp (tl (p ++ o1)) (tl (p ++ o2))) (hs : stepB fs1.length fs2.length = sn) :
    ((Txt.mul (Txt.slice (fs1 ++ fs2) none (some (sn : Int))) ((((fs1 ++ fs2).length : Nat) : Int).fdiv sn) == fs1 ++ fs2) = true → ts = fs1 ++ fs2 ∧ tr = p ++ (if o1.length < o2.length then o1 else o2)) ∧
    ((Txt.mul (Txt.slice (fs1 ++ fs2) none (some (sn : Int))) ((((fs1 ++ fs2).length : Nat) : Int).fdiv sn) == fs1 ++ fs2) = false → tr = p ++ ts) := by
  have k34 : k ≠ 34 := by omega
  have L := law_all l1 l2 h1 h2
  have hst := stepB_14 fs1.length fs2.length
  have eb : tl (fs1 ++ fs2) = wd k (b1 ++ b2) := by rw [tl_append, e1, e2, wd_app]
  have eb' : tl (fs2 ++ fs1) = wd k (b2 ++ b1) := by rw [tl_append, e1, e2, wd_app]
  have et' : tl ts = wd k (lcpB (b1 ++ b2) (b2 ++ b1)) := by rw [et, eb, eb', lcp_wd k34]
  have er' : tl tr = tl p ++ wd k (lcpB g1 g2) := by rw [er, tl_append, tl_append, eo1, eo2, lcp_app, lcp_wd k34]
  have hn : (fs1 ++ fs2).length = (b1 ++ b2).length := by rw [PySem.Str.length_append, List.length_append, f1, f2]
  have em : tl (Txt.mul (Txt.slice (fs1 ++ fs2) none (some (sn : Int))) ((((fs1 ++ fs2).length : Nat) : Int).fdiv sn)) = wd k (repB ((b1 ++ b2).take (stepB b1.length b2.length)) ((b1 ++ b2).length / stepB b1.length b2.length)) := by
    rw [tl_mul, tl_slice_to (by omega), eb, wd_take, rep_wd, hn, ← hs, f1, f2]
    rw [Int.fdiv_eq_ediv_of_nonneg _ (by omega)]
    rfl
  unfold lawB at L
  refine ⟨fun h => ?_, fun h => ?_⟩
  · rw [beq_tl, em, eb] at h
    rw [if_pos (wd_inj k34 h)] at L
    simp only [Bool.and_eq_true, beq_iff_eq] at L
    refine ⟨str_eq (by rw [et', L.1, eb]), str_eq ?_⟩
    rw [er', L.2, tl_append, lo1, lo2]
    by_cases q : g1.length < g2.length
    · rw [if_pos q, if_pos q, eo1]
    · rw [if_neg q, if_neg q, eo2]
  · rw [beq_tl_f, em, eb] at h
    rw [if_neg (fun q => h (by rw [q]))] at L
    have L := eq_of_beq L
    exact str_eq (by rw [er', L, tl_append, et'])
theorem eq_known {prog : Program} {w : World} {A : Around} {E : Value → Shared → Prop} {s : Shared} {x y : PySem.Str} {t u : Tok} {Q : Value → Shared → Prop} (e : x = y) (h : Q (.bool true) s) : wpAny (model prog w) A (compareOp .Eq (.str x t) (.str y u)) Q E s := by
  subst e
  refine eq_str ?_
  rw [beq_self_eq_true]
  exact h
theorem lcp_str_len {a b ts : PySem.Str} (et : tl ts = lcp (tl a) (tl b)) : ts.length ≤ a.length := by
  rw [← len_tl, et, ← len_tl a]; exact (lcp_len _ _).1
theorem pick_1 {p a b tr : PySem.Str} (h : tr = p ++ (if a.length < b.length then a else b)) (q : (a.length : Int) < b.length) : tr = p ++ a := by
  rw [h, if_pos (by omega)]
theorem pick_2 {p a b tr : PySem.Str} (h : tr = p ++ (if a.length < b.length then a else b)) (q : ¬ (a.length : Int) < b.length) : tr = p ++ b := by
  rw [h, if_neg (by omega)]
end
end Mine
open Mine
set_option maxHeartbeats 40000000

theorem PySem.Challenge.cw_tv0008_01_holds : PySem.Challenge.rw_tv0008_01.Holds := by
  k_with_none
  k_with "execs cons" => (k_fold; walk_at "execs cons")
  k_with "exec If" => (k_fold; walk_at "exec If")
  k_with "isTrue Compare" => (k_fold; walk_at "isTrue Compare")
  k_with "isTrue BoolOp" => (k_fold; walk_at "isTrue BoolOp")
  k_with "eval Compare" => (k_fold; walk_at "eval Compare")
  k_with "eval BinOp" => (k_fold; walk_at "eval BinOp")
  k_with "eval Call" => (k_fold; walk_at "eval Call")
  k_with "callWith" => (k_fold; walk_at "callWith")
  k_with "eval IfExp" => (k_fold; walk_at "eval IfExp")
  k_with "CompRestT" => (k_fold; walk_at "CompRestT")
  k_with "CompRest" => (k_fold; walk_at "CompRest")
  k_with "CompEnd" => (k_fold; walk_at "CompEnd")
  k_with "eval ListComp" => (k_fold; walk_at "eval ListComp")
  k_with "eval List" => (k_fold; walk_at "eval List")
  k_with "eval Name" => ((k_here; (with_reducible show wpAny _ _ (eval (Expr.Name (PySem.Str.ofString "len") _) (compEnvC _ _ _ _)) _ _ _); k_dflt (refine' nameG_B ?Fw0 ?Xw0 ?Tw0 ?ew0 ?vw0 ?nw0 ?_ ?k4w0 ?k8w0 ?k5w0 ?k6w0 ?k7w0; (case k4w0 => rfl); (case k8w0 => rfl); (case k5w0 => rfl); (case k6w0 => rfl); (case k7w0 => decide); (case Fw0 => k_asm); (case Xw0 => k_asm); (case Tw0 => k_asm); (case ew0 => k_is); (case vw0 => boot_by_name); (case nw0 => decide); k_whole)))
  k_with "CompSrcT" => ((k_here; k_dflt (refine LCt.CompSrcT.range (n := 4) (by rfl) (by k_asm) (by k_asm) (by assumption) (by first | decide | rfl) (by first | rfl | decide) (by first | size_fits | exact Nat.le_of_ble_eq_true rfl) ?_; intro gq')))
  k_with "CompRestT" => (((repeat ((with_reducible rename (_ ≠ _ ∧ _) => c9); clear c9)); (repeat ((with_reducible rename ((_ ≠ _ ∧ _) ∧ _) => c9); clear c9)); (with_unfolding_all first | (refine LCt.CompRestT.succ ?_; intro vq' Iq' oIq' Cq' oCq' Dq' mq' hq' tkq' Eq' hvq' hCq' hxq' Fq' Nq' offq' neq'; (first | lcg_open hvq' | (obtain ⟨t9q', hv9q'⟩ := hvq'; subst hv9q')); (try simp only [LCg.Off3, and_true] at offq')) | refine LCt.CompRestT.zero ?_)))
  k_with "eval ListComp" => ((k_here; lct_look; lcg_calm; k_dflt (refine LCt.ListComp_T (F₀ := by k_asm) (by with_unfolding_all rfl) (by decide) (by rfl) (by decide) (by rfl) ?_); k_dflt lct_toSrc))
  k_with "call ref cons nil" => (k_extra "call ref")
  k_with "call ref cons" => (k_extra "call ref")
  k_with "CompRest" => (((repeat ((with_reducible rename (_ ≠ _ ∧ _) => c9); clear c9)); (repeat ((with_reducible rename ((_ ≠ _ ∧ _) ∧ _) => c9); clear c9)); (with_unfolding_all first | (refine LCg.CompRest.succ ?_; intro vq' Iq' oIq' Cq' oCq' Dq' mq' hq' tkq' Eq' hvq' hCq' hxq' Fq' Nq' offq' neq'; (first | lcg_open hvq' | (obtain ⟨t9q', hv9q'⟩ := hvq'; subst hv9q')); (try simp only [LCg.Off3, and_true] at offq')) | refine LCg.CompRest.zero ?_)))
  k_with "CompSrc" => (k_here; k_dflt (refine LCg.CompSrc.range (by rfl) (by k_asm) (by k_asm) (by assumption) (by first | decide | rfl) (by first | rfl | decide) (by first | size_fits | exact Nat.le_of_ble_eq_true rfl) ?_; intro g'; lcg_lit))
  k_with "call builtin:sum" => (k_here; (with_reducible show wpAny _ _ (call (Value.builtin "sum") [Value.ref _]) _ _ _); k_dflt (refine' sum_pick ?hh ?F ?N ?hI ?_; (case hh => exact rfl); (case F => k_asm); (case N => k_asm); (case hI => assumption)); intro n' t' h' tk' F' N')
  k_with "binaryOp Add str str" => (k_here; (with_reducible refine path_add ?_); intro pt t9 k9 lp qp fp)
  k_with "binaryOp Add int int" => (k_here; (with_reducible show wpAny _ _ (binaryOp Operator.Add (Value.int (List.getD _ _ _) _) (Value.int _ _)) _ _ _); (refine add_any ?_); intro c9 t9 k9)
  k_with "call builtin:chr" => (k_here; (with_reducible refine chr_any ?_); intro lt kl t9 k9 elt hkl llt; (have h56 := size_56 (h := _) (by k_asm)))
  k_with "call ref" => (k_here; (with_reducible show wpAny _ _ (call (Value.ref 106) [Value.int (List.getD _ (Int.toNat 1) _) _, Value.str _ _]) _ _ _); k_dflt (refine' con_use ?k1 ?k2 ?k3 ?k4 ?k5 ?k6 (word_spec llt) ?k7 ?k8 ?k9 ?_; (case k1 => k_asm); (case k2 => k_asm); (case k3 => k_asm); (case k4 => k_asm); (case k5 => k_asm); (case k6 => first | exact rfl | assumption); (case k7 => kcj_all); (case k8 => ktr_room); (case k9 => ktr_units)); intro v9 h' tk' hR9 F' N'; (obtain ⟨bs1, fs1, t9, e9, efs1, lbs1, lfs1⟩ := word_is hR9 elt); subst e9; clear hR9; (have fnf1 := fine_of efs1 hkl); (try dsimp only))
  k_with "call ref" => (k_here; (with_reducible show wpAny _ _ (call (Value.ref 106) [Value.int (List.getD _ (Int.toNat 2) _) _, Value.str _ _]) _ _ _); k_dflt (refine' con_use ?k1 ?k2 ?k3 ?k4 ?k5 ?k6 (word_spec llt) ?k7 ?k8 ?k9 ?_; (case k1 => k_asm); (case k2 => k_asm); (case k3 => k_asm); (case k4 => k_asm); (case k5 => k_asm); (case k6 => first | exact rfl | assumption); (case k7 => kcj_all); (case k8 => ktr_room); (case k9 => ktr_units)); intro v9 h' tk' hR9 F' N'; (obtain ⟨bs2, fs2, t9, e9, efs2, lbs2, lfs2⟩ := word_is hR9 elt); subst e9; clear hR9; (have fnf2 := fine_of efs2 hkl); (try dsimp only))
  k_with "call ref" => (k_here; (with_reducible show wpAny _ _ (call (Value.ref 113) [Value.str fs1 _, Value.str fs2 _, Value.int _ _]) _ _ _); k_dflt (refine' con_use ?k1 ?k2 ?k3 ?k4 ?k5 ?k6 (grown_spec (by omega) (by omega) (by omega) (by omega)) ?k7 ?k8 ?k9 ?_; (case k1 => k_asm); (case k2 => k_asm); (case k3 => k_asm); (case k4 => k_asm); (case k5 => k_asm); (case k6 => first | exact rfl | assumption); (case k7 => kcj_all); (case k8 => ktr_room); (case k9 => ktr_units)); intro v9 h' tk' hR9 F' N'; (obtain ⟨gr1, og1, t9, e9, egr1, hgr1, lgr1, lgo1⟩ := grown_is hR9 efs1 efs2 lbs1 lbs2); subst e9; clear hR9; (have fng1 := fine_of egr1 hkl); (try dsimp only))
  k_with "call ref" => (k_here; (with_reducible show wpAny _ _ (call (Value.ref 113) [Value.str fs2 _, Value.str fs1 _, Value.int _ _]) _ _ _); k_dflt (refine' con_use ?k1 ?k2 ?k3 ?k4 ?k5 ?k6 (grown_spec (by omega) (by omega) (by omega) (by omega)) ?k7 ?k8 ?k9 ?_; (case k1 => k_asm); (case k2 => k_asm); (case k3 => k_asm); (case k4 => k_asm); (case k5 => k_asm); (case k6 => first | exact rfl | assumption); (case k7 => kcj_all); (case k8 => ktr_room); (case k9 => ktr_units)); intro v9 h' tk' hR9 F' N'; (obtain ⟨gr2, og2, t9, e9, egr2, hgr2, lgr2, lgo2⟩ := grown_is hR9 efs2 efs1 lbs2 lbs1); subst e9; clear hR9; (have fng2 := fine_of egr2 hkl); (try dsimp only))
  k_with "eval Call Name cons nil" => (k_here; (with_reducible show wpAny _ _ (eval (Expr.Call (Expr.Name (PySem.Str.ofString "max") _) _ _ _) _) _ _ _); (fail_if_success (with_reducible rename JMark => jm9)); (with_reducible rename Fr _ _ _ _ => F8); (with_reducible rename News _ _ _ _ => N8); (have lf1 : 1 ≤ fs1.length ∧ fs1.length ≤ 4 := by omega); (have lf2 : 1 ≤ fs2.length ∧ fs2.length ≤ 4 := by omega); (refine' eval_step F8 N8 (stepB fs1.length fs2.length) ?_ ?_); (all_goals first | (intro h' tk' u' F' N'; (have hs14 := stepB_14 fs1.length fs2.length); generalize hsn : stepB fs1.length fs2.length = sn at *; (repeat ((with_reducible rename (_ ≠ _ ∧ _) => c9); clear c9)); (obtain ⟨hy, hno⟩ := law_str hkl efs1 efs2 lbs1 lbs2 lfs1 lfs2 egr1 hgr1 lgr1 egr2 hgr2 lgr2 ets etr hsn)) | intro jm))
  k_with "binaryOp FloorDiv int int" => (k_here; (with_reducible refine div_sn hs14 ?_); intro t9 k9)
  k_with "binaryOp Mult str int" => (k_here; (with_reducible refine' mul_sn hs14 ?h1 ?h2 ?_); (case h1 => exact slice_le (by omega)); (case h2 => omega); intro t9 k9)
  k_with "compareOp Eq str str" => (k_here; (first | (with_reducible refine eq_known (hy (by with_reducible assumption)).1 ?_) | (with_reducible refine eq_known (hno (by with_reducible assumption)) ?_) | (with_reducible refine eq_known rfl ?_) | (with_reducible refine eq_known (pick_1 (hy (by with_reducible assumption)).2 (by omega)) ?_) | (with_reducible refine eq_known (pick_2 (hy (by with_reducible assumption)).2 (by omega)) ?_)); (try ((try k_unfold); (try dsimp only); (with_reducible show LawEnd _ _ _ _ _ _ _); (refine' law_end ?F ?N hg9 ht9 TO9 (law_raises _) (law_post _) (hb2 (hb1 (AllBare.of_eq ?hg))); (case F => k_asm); (case N => k_asm); (case hg => assumption)))))
  k_with "call ref" => (k_here; (with_reducible show wpAny _ _ (call (Value.ref 120) [Value.str (fs1 ++ fs2) _, Value.str (fs2 ++ fs1) _]) _ _ _); k_dflt (refine' con_use ?k1 ?k2 ?k3 ?k4 ?k5 ?k6 (common_spec (by omega) (by omega)) ?k7 ?k8 ?k9 ?_; (case k1 => k_asm); (case k2 => k_asm); (case k3 => k_asm); (case k4 => k_asm); (case k5 => k_asm); (case k6 => first | exact rfl | assumption); (case k7 => kcj_all); (case k8 => ktr_room); (case k9 => ktr_units)); intro v9 h' tk' hR9 F' N'; (obtain ⟨tc, t9, e9, etc⟩ := isS_name hR9); subst e9; clear hR9; (have e8 : tc = ts := str_eq (etc.trans ets.symm)); subst e8; (try dsimp only))
  k_with "StepEnd" => (refine' step_end ?F ?N ?hs ?_; (case F => k_asm); (case N => k_asm); (case hs => kcj_all); (first | exact (no1 lf1 (by assumption)).elim | exact (no1 lf2 (by assumption)).elim | exact (no23 lf1 (by assumption) (by assumption)).elim | exact (no23 lf2 (by assumption) (by assumption)).elim | exact (no24 lf1 (by assumption) (by assumption)).elim | exact (no24 lf2 (by assumption) (by assumption)).elim | exact (no34 lf1 (by assumption) (by assumption)).elim | exact (no34 lf2 (by assumption) (by assumption)).elim | (rw [st4 lf1 lf2 (by assumption) (by assumption)]; omega) | (rw [st3 lf1 lf2 (by assumption) (by assumption)]; omega) | (rw [st2a lf1 lf2 (by assumption) (by assumption) (by assumption)]; omega) | (rw [st2b lf1 lf2 (by assumption) (by assumption) (by assumption)]; omega) | (rw [st1nn lf1 lf2 (by assumption) (by assumption)]; omega) | (rw [st1nm lf1 lf2 (by assumption) (by assumption)]; omega) | (rw [st1mn lf1 lf2 (by assumption) (by assumption)]; omega) | (rw [st1mm lf1 lf2 (by assumption) (by assumption)]; omega) | skip))
  k_with "call ref" => (k_here; (with_reducible show wpAny _ _ (call (Value.ref 132) [Value.ref _, Value.int 0 _, Value.int _ _]) _ _ _); k_dflt (refine' conW_firstS ?k1 ?k2 ?k3 ?k4 ?k5 ?kM ?k6 ?e0 ?e1 ?e2 ?e3 ?hS (told_spec ?t1 ?t2 ?t3 ?t4 ?t5 ?t6 ?t7) ?kG ?k8 ?k9 ?_; (case k1 => k_asm); (case k2 => k_asm); (case k3 => k_asm); (case k4 => k_asm); (case k5 => assumption); (case kM => assumption); (case k6 => first | exact rfl | assumption); (case e0 => k_is); (case e1 => with_unfolding_all rfl); (case e2 => with_unfolding_all rfl); (case e3 => with_unfolding_all rfl); (case hS => first | exact .here | exact (.cons .here) | exact (.cons (.cons .here)) | exact (.cons (.cons (.cons .here))) | exact (.cons (.cons (.cons (.cons .here)))) | exact (.cons (.cons (.cons (.cons (.cons .here))))) | exact (.cons (.cons (.cons (.cons (.cons (.cons .here))))))); (case t1 => first | exact bound_1 (by omega) (by omega) | exact bound_2 lp qp (by omega)); (case t2 => first | exact bound_1 (by omega) (by omega) | exact bound_2 lp qp (by omega)); (case t3 => exact fine_str (by with_reducible assumption) (by with_reducible assumption)); (case t4 => exact fine_str (by with_reducible assumption) (by with_reducible assumption)); (case t5 => first | exact .inl rfl | exact .inr rfl); (case t6 => first | exact many_1 _ | exact many_2 _); (case t7 => (show @LT.lt Nat instLTNat _ _; omega)); (case kG => ((repeat' (first | exact ne_nil | refine' ne_cons ?_ ?_)); all_goals k_ne)); (case k8 => ktr_room); (case k9 => ktr_units)); intro v9 g9 op9 h' tk' gg' hR9 TO9 F' N' B9 X9 T9 M9 kP9 hg9 ht9 hb1; (obtain ⟨ts, t9, e9, ets⟩ := isS_name hR9); subst e9; clear hR9; (have lts := lcp_str_len ets); (try dsimp only))
  k_with "call ref" => (k_here; (with_reducible show wpAny _ _ (call (Value.ref 132) [Value.ref _, Value.int 2 _, Value.int _ _]) _ _ _); k_dflt (refine' conW_useS ?k1 ?k2 ?k3 ?k4 ?k5 ?k6 ?hP ?hS ?kO ?kM (told_spec ?t1 ?t2 ?t3 ?t4 ?t5 ?t6 ?t7) ?kQ ?kG ?k8 ?k9 ?_; (case k1 => k_asm); (case k2 => k_asm); (case k3 => k_asm); (case k4 => k_asm); (case k5 => k_asm); (case k6 => first | exact rfl | assumption); (case hP => first | exact .here | exact (.cons .here) | exact (.cons (.cons .here)) | exact (.cons (.cons (.cons .here))) | exact (.cons (.cons (.cons (.cons .here)))) | exact (.cons (.cons (.cons (.cons (.cons .here))))) | exact (.cons (.cons (.cons (.cons (.cons (.cons .here))))))); (case hS => first | exact .here | exact (.cons .here) | exact (.cons (.cons .here)) | exact (.cons (.cons (.cons .here))) | exact (.cons (.cons (.cons (.cons .here)))) | exact (.cons (.cons (.cons (.cons (.cons .here))))) | exact (.cons (.cons (.cons (.cons (.cons (.cons .here))))))); (case kO => assumption); (case kM => assumption); (case t1 => first | exact bound_1 (by omega) (by omega) | exact bound_2 lp qp (by omega)); (case t2 => first | exact bound_1 (by omega) (by omega) | exact bound_2 lp qp (by omega)); (case t3 => exact fine_str (by with_reducible assumption) (by with_reducible assumption)); (case t4 => exact fine_str (by with_reducible assumption) (by with_reducible assumption)); (case t5 => first | exact .inl rfl | exact .inr rfl); (case t6 => first | exact many_1 _ | exact many_2 _); (case t7 => (show @LT.lt Nat instLTNat _ _; omega)); (case kQ => ((repeat' (first | exact ne_nil | refine' ne_cons ?_ ?_)); all_goals first | k_ne | (exact kP9 (_, _) (by first | exact .head _ | exact (.tail _ (.head _)) | exact (.tail _ (.tail _ (.head _))) | exact (.tail _ (.tail _ (.tail _ (.head _)))) | exact (.tail _ (.tail _ (.tail _ (.tail _ (.head _))))) | exact (.tail _ (.tail _ (.tail _ (.tail _ (.tail _ (.head _)))))) | exact (.tail _ (.tail _ (.tail _ (.tail _ (.tail _ (.tail _ (.head _))))))) | exact (.tail _ (.tail _ (.tail _ (.tail _ (.tail _ (.tail _ (.tail _ (.head _)))))))) | exact (.tail _ (.tail _ (.tail _ (.tail _ (.tail _ (.tail _ (.tail _ (.tail _ (.head _))))))))) | exact (.tail _ (.tail _ (.tail _ (.tail _ (.tail _ (.tail _ (.tail _ (.tail _ (.tail _ (.head _)))))))))) | exact (.tail _ (.tail _ (.tail _ (.tail _ (.tail _ (.tail _ (.tail _ (.tail _ (.tail _ (.tail _ (.head _))))))))))) | exact (.tail _ (.tail _ (.tail _ (.tail _ (.tail _ (.tail _ (.tail _ (.tail _ (.tail _ (.tail _ (.tail _ (.head _)))))))))))) | exact (.tail _ (.tail _ (.tail _ (.tail _ (.tail _ (.tail _ (.tail _ (.tail _ (.tail _ (.tail _ (.tail _ (.tail _ (.head _))))))))))))) | exact (.tail _ (.tail _ (.tail _ (.tail _ (.tail _ (.tail _ (.tail _ (.tail _ (.tail _ (.tail _ (.tail _ (.tail _ (.tail _ (.head _)))))))))))))) | exact (.tail _ (.tail _ (.tail _ (.tail _ (.tail _ (.tail _ (.tail _ (.tail _ (.tail _ (.tail _ (.tail _ (.tail _ (.tail _ (.tail _ (.head _))))))))))))))) | exact (.tail _ (.tail _ (.tail _ (.tail _ (.tail _ (.tail _ (.tail _ (.tail _ (.tail _ (.tail _ (.tail _ (.tail _ (.tail _ (.tail _ (.tail _ (.head _)))))))))))))))))))); (case kG => ((repeat' (first | exact ne_nil | refine' ne_cons ?_ ?_)); all_goals k_ne)); (case k8 => ktr_room); (case k9 => ktr_units)); intro v9 op9 h' tk' gg' hR9 TO9 F' N' hb2; (obtain ⟨tr, t9, e9, etr⟩ := isS_name hR9); subst e9; clear hR9; (try dsimp only))
  exact hd (by
    k_fill
    intro w s₀ s₁ mg mb G Y fa o pm cd doc dV kV ho hd9 hcd hD hmg hg args vals as hpre hlay hrd hwl hlo
    have KX := kIn_of Y
    have X := (Ground.X G).1
    have V := (Ground.X G).2
    refine Ground.open G ?_
    intro T B D TE TW
    try (refine guard_noD D (by decide +kernel) ?_; clear D)
    obtain ⟨_, _, M⟩ := bmod_of_top T
    have TA := at_of_top T
    try (obtain ⟨_, _, he, B0⟩ := based_of_top T rfl hmg ho hd9; have he' : cd = _ := he; subst he'; clear he)
    clear hmg
    wrow_args hpre hlay hrd hwl hlo
    all_goals (
      first | refine callC_kw (enter_call ?_) | refine enter_call ?_ | refine callC_kw (enter_callW ?_) | refine enter_callW ?_ | w_how
      w_top on
      refine codeAny_mono ?_ (fun _ _ g => LawEnd.out g)
      have K0 := below_caller (Top.heap T)
      w_call any ho hd9 hcd hD T F
      clear hd9 TA
      k_drop
      skip)
    (all_goals try k_fold)
    k_steps)

