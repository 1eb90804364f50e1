import PyProof.Rows.All
import Wide.All
import OpenK.AllK
import Wide.FinOn
import Lean
import PySem.Challenge.RW_xl0016_01
open PySem PySem.W PySem.Calls PySem.Spec PyProof.Rows
set_option Elab.async false
set_option maxRecDepth 100000
set_option maxHeartbeats 40000000
set_option linter.unusedVariables false
set_option rowWalk.seconds 0
namespace Mine
abbrev keepX (l : List Stmt) : List Stmt := (((l.eraseIdx 10).eraseIdx 6).eraseIdx 3).eraseIdx 1
def viewX : PySem.Program := { PySem.Challenge.pw_xl0016_01 with main := { PySem.Challenge.pw_xl0016_01.main with body := keepX PySem.Challenge.pw_xl0016_01.main.body } }
noncomputable def plusX (K : Params → Frag) (P : Params) : Frag := K P ++ [(129, { cls := .none, dict := none, data := .fields #[], slots := #[] })]
theorem plusX_eq {K : Params → Frag} {as : List Addr} (e : ∀ P, as = (K P).map (·.1)) (P : Params) : as ++ [129] = (plusX K P).map (·.1) := by
  rw [e P]
  simp [plusX]
noncomputable abbrev hookX (K : Params → Frag) (as : List Addr) (e : ∀ P, as = (K P).map (·.1)) : Hook := kHook (plusX K) (as ++ [129]) (plusX_eq e)
/-- the two runs of the top apart -/
theorem left_two {p q : PySem.Program} {loose : List Str} {Xt : Shared → Bool} {α : Type} {Yf : Shared → α} {Ya : World → α} {N : Nat} {g0 : Bool} (row : String)
    (h1 : ∀ w : World, (fencedOpening treeTable p w N).map (fun s₀ => (topFrom treeTable p (w.withFollow row false) N s₀).map (fun s => (openSeen q loose (importedModules p.main.body) Xt g0 s, Yf s))) = some (some (openGood q loose, Ya (w.withFollow row false))))
    (h2 : ∀ w : World, (fencedOpening treeTable p w N).map (fun s₀ => (topFrom treeTable p (w.withFollow row true) N s₀).map (fun s => (openSeen q loose (importedModules p.main.body) Xt g0 s, Yf s))) = some (some (openGood q loose, Ya (w.withFollow row true)))) :
    LeftO p q loose Xt Yf Ya N g0 := LeftO.of_split row fun w => by
  obtain ⟨s₀, a, b⟩ := Option.map_eq_some_iff.mp (h1 w)
  obtain ⟨s₁, a', b'⟩ := Option.map_eq_some_iff.mp (h2 w)
  rw [a] at a'
  cases a'
  rw [a, Option.map_some, b, b']
theorem said : OpenLaw.wellSaid PySem.Challenge.rw_xl0016_01 = true := by kernel_rfl
theorem and_three {A B C D : Prop} (f : A → B → C → D) (h : A ∧ B ∧ C) : D := f h.1 h.2.1 h.2.2
local macro_rules | `(tactic| o_head (kHook $k $a $e)) => `(tactic| (
  refine and_three (fun hl1 hl2 hcc => PySem.W.holds_open (q := viewX) (loose := [Str.ofString "Whitespace", Str.ofString "_Accumulator"]) (Xt := fun s => xlAt viewX [] s && recOk (RowW.records (OpenRow.toRowW (OpenLaw.row PySem.Challenge.rw_xl0016_01))) s) (XP := XL viewX []) (Yf := Hook.obs (hookX $k $a $e)) (Ya := Hook.val (hookX $k $a $e)) (YP := Hook.says (hookX $k $a $e)) (N := 2848) (left_two "special-get-raises" hl1 hl2) (Hook.of (hookX $k $a $e)) (Hook.keeps (hookX $k $a $e)) (fun s e => xl_of s (Bool.and_eq_true_iff.mp e).1) XL.keeps (by rfl) (by rfl) (by rfl) (fun s e => recFacts_of (Bool.and_eq_true_iff.mp e).2) (by rfl) (row_said Mine.said) (by decide +kernel) ⟨rfl, rfl, rfl, rfl, rfl, by decide +kernel⟩ ?hw hcc) ?hc))
local macro_rules | `(tactic| o_law) => `(tactic| refine holds_law said fun said => ?_)
open_top hd for PySem.Challenge.rw_xl0016_01
abbrev partA {A B C D : Prop} (_ : A ∧ B ∧ C → D) : Prop := A
abbrev partB {A B C D : Prop} (_ : A ∧ B ∧ C → D) : Prop := B
abbrev partC {A B C D : Prop} (_ : A ∧ B ∧ C → D) : Prop := C
theorem left1 : partA hd := by
  intro w
  kernel_rfl
theorem left2 : partB hd := by
  intro w
  kernel_rfl
theorem hdW : partC hd → PySem.Challenge.rw_xl0016_01.Holds := fun h => hd ⟨left1, left2, h⟩
local macro_rules | `(tactic| walk_at $s:str) => `(tactic| k_extra $s)
local macro_rules | `(tactic| omega) => `(tactic| first | ((repeat (with_reducible rename _ ≠ _ => hne9; clear hne9)); (repeat (with_reducible rename _ ≠ _ ∧ _ => hne9; clear hne9)); (repeat (with_reducible rename (_ ≠ _ ∧ _) ∧ _ => hne9; clear hne9)); lia) | omega (splitDisjunctions := true))
section
theorem rowsA1_0 : True := by
  w_top off
  k_with_none
  trivial

/-- what a call leaves: new objects `tl`, all older objects but `need` as they were -/
def LeaveC (g : Heap) (need : List (Addr × Obj)) (s : Shared) (Post : List (Addr × Obj) → Value → Prop) (v : Value) (s' : Shared) : Prop :=
  ∃ L' m' tl h' tk', s' = { s with heap := h', toks := tk' } ∧ Fr g L' h' m' ∧ News g L' h' tl ∧ Post tl v

def Con (k : Nat) (w : World) (mean : ExcName → Option Value) (mg mb : Str → Option Value) (f : Addr) (vs : List Value) (need : List (Addr × Obj)) (Post : List (Addr × Obj) → Value → Prop) : Prop :=
  ∀ (dp un : Nat) (gd : Option (List Code)) (cn : Str) (cs : Scope) (a : Addr) (ccd : Value) (cl : List (Str × Addr)) (outer : List Env) (A₀ : Around) (base h₀ : Heap) (L : Addr) (m : Str → Option Value) (s : Shared) (Q E : Value → Shared → Prop),
    Below A₀ base outer h₀ → Fr h₀ L s.heap m → (Mine.hd.heap_1 w.params).In h₀ → News h₀ L s.heap need →
    Top Mine.viewX (looseW Mine.viewX [Str.ofString "Whitespace", Str.ofString "_Accumulator"]) mean mg mb h₀ → cs.kind = .function →
    dp + k < recursionLimit → un + 8 * k < cLine →
    (∀ r tl h' tk', Fr h₀ L h' m → News h₀ L h' tl → (∀ b o, s.heap.get? b = some o → b ∉ need.map (·.1) → h'.get? b = some o) → (∀ p ∈ tl, p.1 ∉ need.map (·.1) → s.heap.get? p.1 = none) → Post tl r → Q r { s with heap := h', toks := tk' }) →
    wpAny (model PySem.Challenge.rw_xl0016_01.row.prog w) (ktrTop dp un gd cn cs L a ccd cl outer) (call (.ref f) vs) Q E s

section
variable {prog : Program} {w : World} {A₀ A : Around} {s : Shared} {base h₀ : Heap} {outer : List Env} {L : Addr} {m : Str → Option Value} {env : Env} {need : List (Addr × Obj)} {K : Frag} {p : Program} {loose : List Str} {mean : ExcName → Option Value} {mg mb : Str → Option Value}
  {Q E : Value → Shared → Prop} {R : Result → Shared → Prop} {Post : List (Addr × Obj) → Value → Prop}
  {name qual : Str} {params : Arguments} {body : List Stmt} {scope : Scope} {dV kV doc pm cdv ct oc : Value} {an od : Option Addr} {osl : Array (Option Value)} {f : Addr} {args : Args} {binds : List (Str × Value)}

theorem con_back (B : Below A₀ base outer h₀) (F : Fr h₀ L s.heap m) (N : News h₀ L s.heap need)
    (hret : ∀ r tl h' tk', Fr h₀ L h' m → News h₀ L h' tl → (∀ b o, s.heap.get? b = some o → b ∉ need.map (·.1) → h'.get? b = some o) → (∀ p ∈ tl, p.1 ∉ need.map (·.1) → s.heap.get? p.1 = none) → Post tl r → Q r { s with heap := h', toks := tk' })
    {v : Value} {s' : Shared} (hl : LeaveC (hideAll s.heap (need.map (·.1))) need s Post v s') : Q v s' := by
  obtain ⟨L', m', tl, h', tk', rfl, F', N', hp⟩ := hl
  have nm : ∀ b o, h₀.get? b = some o → b ∉ need.map (·.1) := fun b o e q => by
    obtain ⟨p, hp, rfl⟩ := List.mem_map.mp q
    rw [(N p hp).2.2] at e; cases e
  have st : h₀.StaysIn (hideAll s.heap (need.map (·.1))) := fun b o e => hideAll_get _ (F.keep b o e) (nm b o e)
  obtain ⟨oL, es, ep, hL, hLd, hLk, hLf⟩ := F.ns
  have nL : L ∉ need.map (·.1) := fun q => by
    obtain ⟨p, hp, e⟩ := List.mem_map.mp q
    exact (N p hp).2.1 e
  have hLg := hideAll_get (need.map (·.1)) hL nL
  refine hret v tl h' tk' ⟨⟨oL, es, ep, F'.keep L oL hLg, hLd, hLk, hLf⟩, fun b o e => F'.keep b o (st b o e), F.above⟩ (fun p hp => ⟨(N' p hp).1, fun q => ?_, ?_⟩) (fun b o e hb => F'.keep b o (hideAll_get _ e hb)) (fun p hp hn => ?_) hp
  · have := (N' p hp).2.2; rw [q, hLg] at this; cases this
  · cases q : h₀.get? p.1 with
    | none => rfl
    | some o => have := (N' p hp).2.2; rw [st _ _ q] at this; cases this
  · cases q : s.heap.get? p.1 with
    | none => rfl
    | some o => have := (N' p hp).2.2; rw [hideAll_get _ q hn] at this; cases this

theorem con_def (B : Below A₀ base outer h₀) (F : Fr h₀ L s.heap m) (X₀ : K.In h₀) (N : News h₀ L s.heap need) (T : Top p loose mean mg mb h₀) (hA : A.frames = some (env :: outer)) (hf : env.frame = some L) (hke : env.scope.kind = .function)
    (ho : K.lookup f = some ⟨oc, od, .func (fnOf name qual params body scope dV kV doc pm an cdv ct), osl⟩) (hcd : codeIn K cdv qual = true) (hroom : A.depth < recursionLimit)
    (hbind : BindsTo s (fnOf name qual params body scope dV kV doc pm an cdv ct) args binds) (hloc : ∀ y ∈ binds, scope.names.lookup y.1 = some .local)
    (hret : ∀ v s', LeaveC (hideAll s.heap (need.map (·.1))) need s Post v s' → R (.ok (.ret v)) s')
    (h : ∀ g L' h₁, (∀ b o, s.heap.get? b = some o → b ∉ need.map (·.1) → g.get? b = some o) → Fr g L' h₁ (fun y => binds.reverse.lookup y) → News g L' h₁ need → Below A base (env :: outer) g → K.In g → Top p loose mean mg mb g → (∀ p ∈ need, p.1 < L') →
      wpAny (model prog w) (A.deeper (envOf qual scope L' f cdv)) (execs body (envOf qual scope L' f cdv))
        (fun fl s' => LeaveC g need s Post (match fl with | .ret v => v | _ => .none) s')
        (fun _ _ => False)
        { s with heap := h₁, toks := s.toks + binds.length })
    (hco : scope.isCoroutine = false) (hgen : scope.isGenerator = false) (hk : scope.kind = .function)
    (hcell : ∀ x ∈ scope.names, x.2 ≠ .cell) :
    codeAny (model prog w) A (.call (.ref f) args) R s := by
  obtain ⟨FG, BG, st, lv⟩ := groundX (R := fun _ _ => True) B F N hA hf hke
  refine codeAny_call_def (fd := fnOf name qual params body scope dV kV doc pm an cdv ct) (body := body) (binds := binds) hroom ((X₀.keeps F.keep) _ _ ho) rfl (T.nolimit.keeps F.keep) (codeRec_of (X₀.keeps F.keep) hcd) rfl hbind hcell hloc (fun h₁ hns hk₁ => ?_) hco hgen hk
  exact wpAny_mono (h _ s.heap.objs.size h₁ (fun b o e hb => hideAll_get _ e hb) ⟨hns, fun b o e => hk₁ b o (of_hideAll _ e), Nat.le_of_eq (hideAll_size _ _)⟩
    (fun p hp => ⟨hk₁ _ _ (N p hp).1, Nat.ne_of_lt (Heap.lt_size (N p hp).1), hideAll_none _ (List.mem_map_of_mem hp)⟩) BG (X₀.keeps st) (T.keeps st) (fun p hp => Heap.lt_size (N p hp).1)) (fun fl s' hl => hret _ _ hl) fun _ _ y => y.elim

theorem con_defC (B : Below A₀ base outer h₀) (F : Fr h₀ L s.heap m) (X₀ : K.In h₀) (N : News h₀ L s.heap need) (T : Top p loose mean mg mb h₀) (hA : A.frames = some (env :: outer)) (hf : env.frame = some L) (hke : env.scope.kind = .function)
    (ho : K.lookup f = some ⟨oc, od, .func (fnOf name qual params body scope dV kV doc pm an cdv ct), osl⟩) (hcd : codeIn K cdv qual = true) (hroom : A.depth < recursionLimit)
    (hbind : BindsTo s (fnOf name qual params body scope dV kV doc pm an cdv ct) args binds) (hkind : (binds.all fun y => scope.names.lookup y.1 == some .local || scope.names.lookup y.1 == some .cell) = true)
    (hnd : ((cellsFrom 0 scope.names []).map (·.1)).Nodup)
    (hret : ∀ v s', LeaveC (hideAll s.heap (need.map (·.1))) need s Post v s' → R (.ok (.ret v)) s')
    (h : ∀ g L' h₁ tk cells, (∀ b o, s.heap.get? b = some o → b ∉ need.map (·.1) → g.get? b = some o) → Fr g L' h₁ (bindL (envOfC qual scope L' f cdv).kindOf binds fun _ => none) → News g L' h₁ (cells ++ need) →
      CellsAre (bindC (envOfC qual scope L' f cdv).kindOf binds fun _ => none) (cellsFrom (L' + 1) scope.names []) cells → Below A base (env :: outer) g → K.In g → Top p loose mean mg mb g → (∀ p ∈ need, p.1 < L') →
      wpAny (model prog w) (A.deeper (envOfC qual scope L' f cdv)) (execs body (envOfC qual scope L' f cdv))
        (fun fl s' => LeaveC g need s Post (match fl with | .ret v => v | _ => .none) s')
        (fun _ _ => False)
        { s with heap := h₁, toks := tk })
    (hco : scope.isCoroutine = false) (hgen : scope.isGenerator = false) (hk : scope.kind = .function) :
    codeAny (model prog w) A (.call (.ref f) args) R s := by
  obtain ⟨FG, BG, st, lv⟩ := groundX (R := fun _ _ => True) B F N hA hf hke
  refine codeAny_call_function hroom ((X₀.keeps F.keep) _ _ ho) rfl hco hgen rfl (codeRec_of (X₀.keeps F.keep) hcd) (hbind _ _ _ _ ?_)
  refine wpAny_newFunctionEnv_cells hk (kindsX hkind _) fun env' he s' x => ?_
  subst he
  refine ⟨(T.nolimit.keeps F.keep).keeps x.toInCall.keep, codeAny_func ?_⟩
  obtain ⟨h₁, tk, rfl, _⟩ := x.done
  have hk₁ := x.toInCall.keep
  obtain ⟨cells, NC, Y⟩ := Cl.news (h₀ := s.heap) (Nat.le_refl _) fun n c hm => ⟨x.cell n c (lookup_of_mem_nodup (cellsFrom_names scope.names 0 (s.heap.objs.size + 1) [] [] rfl ▸ hnd) hm), x.above n c hm⟩
  refine wpAny_mono (h _ s.heap.objs.size h₁ tk cells (fun b o e hb => hideAll_get _ e hb) ⟨x.toInCall.ns, fun b o e => hk₁ b o (of_hideAll _ e), Nat.le_of_eq (hideAll_size _ _)⟩ (fun p hp => ?_) Y BG (X₀.keeps st) (T.keeps st) (fun p hp => Heap.lt_size (N p hp).1)) (fun fl s' hl => hret _ _ hl) fun _ _ y => y.elim
  rcases List.mem_append.mp hp with hp | hp
  · refine ⟨(NC p hp).1, (NC p hp).2.1, ?_⟩
    cases q : (hideAll s.heap (need.map (·.1))).get? p.1 with
    | none => rfl
    | some o => have := of_hideAll _ q; rw [(NC p hp).2.2] at this; cases this
  · exact ⟨hk₁ _ _ (N p hp).1, Nat.ne_of_lt (Heap.lt_size (N p hp).1), hideAll_none _ (List.mem_map_of_mem hp)⟩

/-- the making of an object of an own class: its __init__ by con_def -/
theorem con_cls {C fI : Addr} {pos : List Value} {bindsX : Addr → List (Str × Value)} (B : Below A₀ base outer h₀) (F : Fr h₀ L s.heap m) (X₀ : K.In h₀) (T : Top p loose mean mg mb h₀) (hA : A.frames = some (env :: outer)) (hf : env.frame = some L) (hke : env.scope.kind = .function)
    (hm : makesIn K C = true) (hi : findIn K (.ref C) "__init__" = some (some (.ref fI))) (hfn : isFn K (.ref fI) = true)
    (ho : K.lookup fI = some ⟨oc, od, .func (fnOf name qual params body scope dV kV doc pm an cdv ct), osl⟩) (hcd : codeIn K cdv qual = true) (hroom : (A.under (.builtin "type.__call__" ⟨.ref C :: pos, []⟩)).depth < recursionLimit)
    (hbind : ∀ x s', BindsTo s' (fnOf name qual params body scope dV kV doc pm an cdv ct) ⟨.ref x :: pos, []⟩ (bindsX x)) (hloc : ∀ x, ∀ y ∈ bindsX x, scope.names.lookup y.1 = some .local)
    (hret : ∀ r tl h' tk', Fr h₀ L h' m → News h₀ L h' tl → (∀ b o, s.heap.get? b = some o → h'.get? b = some o) → (∀ p ∈ tl, s.heap.get? p.1 = none) → Post tl r → Q r { s with heap := h', toks := tk' })
    (h : ∀ x dx g L' h₁ tk, dx < x → Fr g L' h₁ (fun y => (bindsX x).reverse.lookup y) → News g L' h₁ [(x, instObj C dx), (dx, dictOf [] 0)] → Below (A.under (.builtin "type.__call__" ⟨.ref C :: pos, []⟩)) base (env :: outer) g → K.In g → Top p loose mean mg mb g → x < L' →
      wpAny (model prog w) ((A.under (.builtin "type.__call__" ⟨.ref C :: pos, []⟩)).deeper (envOf qual scope L' fI cdv)) (execs body (envOf qual scope L' fI cdv))
        (fun fl s' => LeaveC g [(x, instObj C dx), (dx, dictOf [] 0)] s (fun tl v => v = .none ∧ Post tl (.ref x)) (match fl with | .ret v => v | _ => .none) s')
        (fun _ _ => False)
        { s with heap := h₁, toks := tk })
    (hco : scope.isCoroutine = false) (hgen : scope.isGenerator = false) (hk : scope.kind = .function)
    (hcell : ∀ x ∈ scope.names, x.2 ≠ .cell) :
    codeAny (model prog w) A (.call (.ref C) ⟨pos, []⟩) (fun r s' => match r with | .ok (.ret v) => Q v s' | .ok _ => False | .error e => E e s') s := by
  obtain ⟨hh, g, d, t, os⟩ := s
  have X : K.In hh := X₀.keeps F.keep
  refine make_core (makes_of X hm) (looks_findIn X hi) (fun self => bind_fn X self (beq_iff_eq.mp hfn)) (.inl rfl) ?_
  have F1 : Fr h₀ L ((hh.push emptyDict).push (instObj C hh.objs.size)) m := (F.push _).push _
  have N1 : News h₀ L ((hh.push emptyDict).push (instObj C hh.objs.size)) [(hh.objs.size + 1, instObj C hh.objs.size), (hh.objs.size, dictOf [] 0)] := by
    have := ((News.nil (h₀ := h₀) (L := L) (h := hh)).push F emptyDict).push (F.push _) (instObj C hh.objs.size)
    rwa [Heap.size_push] at this
  have up : ∀ b o, hh.get? b = some o → ((hh.push emptyDict).push (instObj C hh.objs.size)).get? b = some o := fun b o e => Heap.get?_push_of_some _ (Heap.get?_push_of_some _ e)
  have B1 : Below A₀ base outer h₀ := B
  refine con_def (Post := fun tl v => v = .none ∧ Post tl (.ref (hh.objs.size + 1))) (binds := bindsX (hh.objs.size + 1)) B1 F1 X₀ N1 T (A := A.under (.builtin "type.__call__" ⟨.ref C :: pos, []⟩)) (env := env) (by rw [← hA]; rfl) hf hke ho hcd hroom (hbind _ _) (hloc _) ?_ ?_ hco hgen hk hcell
  · intro v s' hl
    have hlim : ∀ b o, hh.get? b = some o → b ∉ [hh.objs.size + 1, hh.objs.size] := fun b o e hm => by
      have hlt : b < hh.objs.size := Heap.lt_size e
      simp only [List.mem_cons, List.not_mem_nil, or_false] at hm
      rcases hm with hm | hm
      · exact absurd hlt (by rw [hm]; exact Nat.not_lt.mpr (Nat.le_succ _))
      · exact absurd hlt (by rw [hm]; exact Nat.lt_irrefl _)
    refine con_back (Q := fun v s' => InitBack _ _ (.ok (.ret v)) s') B1 F1 N1 (fun r tl h' tk' F' N' k fr hp => ?_) hl
    obtain ⟨rfl, hp⟩ := hp
    refine ⟨rfl, hret _ tl h' tk' F' N' (fun b o e => k b o (up b o e) (hlim b o e)) (fun p hp => ?_) hp⟩
    cases q : hh.get? p.1 with
    | none => rfl
    | some o => have := fr p hp (hlim _ _ q); rw [up _ _ q] at this; cases this
  · intro g' L' h₁ _ F' N' B' X' T' l'
    have l2 := l' _ List.mem_cons_self
    exact wpAny_mono (h _ _ g' L' h₁ _ (Nat.lt_succ_self _) F' N' B' X' T' l2) (fun fl s' hl => by
      obtain ⟨L', m', tl, h', tk', e, r⟩ := hl
      exact ⟨L', m', tl, h', tk', e, r⟩) fun _ _ x => x
theorem con_nil (hret : ∀ r tl h' tk', Fr h₀ L h' m → News h₀ L h' tl → (∀ b o, s.heap.get? b = some o → b ∉ ([] : List (Addr × Obj)).map (·.1) → h'.get? b = some o) → (∀ p ∈ tl, p.1 ∉ ([] : List (Addr × Obj)).map (·.1) → s.heap.get? p.1 = none) → Post tl r → Q r { s with heap := h', toks := tk' }) :
    ∀ r tl h' tk', Fr h₀ L h' m → News h₀ L h' tl → (∀ b o, s.heap.get? b = some o → h'.get? b = some o) → (∀ p ∈ tl, s.heap.get? p.1 = none) → Post tl r → Q r { s with heap := h', toks := tk' } :=
  fun r tl h' tk' F N k fr p => hret r tl h' tk' F N (fun b o e _ => k b o e) (fun p hp _ => fr p hp) p
/-- a contract that gives its needs back as they were -/
def ConK (k : Nat) (w : World) (mean : ExcName → Option Value) (mg mb : Str → Option Value) (f : Addr) (vs : List Value) (need : List (Addr × Obj)) (Post : List (Addr × Obj) → Value → Prop) : Prop :=
  Con k w mean mg mb f vs need (fun tl r => ∃ tl', tl = tl' ++ need ∧ Post tl' r)
theorem con_use {vs : List Value} {led : List (Addr × Obj)} {k : Nat} (C : Con k w mean mg mb f vs need Post) {dp un : Nat} {gd : Option (List Code)} {cn : Str} {cs : Scope} {a : Addr} {ccd : Value} {cl : List (Str × Addr)}
    (hA : A = ktrTop dp un gd cn cs L a ccd cl outer) (B : Below A₀ base outer h₀) (F : Fr h₀ L s.heap m) (X : (Mine.hd.heap_1 w.params).In h₀) (N : News h₀ L s.heap led) (hsub : ∀ p ∈ need, p ∈ led)
    (T : Top Mine.viewX (looseW Mine.viewX [Str.ofString "Whitespace", Str.ofString "_Accumulator"]) mean mg mb h₀) (hk : cs.kind = .function) (hd : dp + k < recursionLimit) (hu : un + 8 * k < cLine) (led' : List (Addr × Obj))
    (hsub' : ∀ p ∈ led', p ∈ led) (hoff : ∀ p ∈ led', ∀ q ∈ need, @Ne Nat p.1 q.1)
    (hret : ∀ r tl h' tk', Fr h₀ L h' m → News h₀ L h' (tl ++ led') → (∀ p ∈ tl, p.1 ∉ need.map (·.1) → ∀ q ∈ led, @Ne Nat p.1 q.1) → Post tl r → Q r { s with heap := h', toks := tk' }) :
    wpAny (model PySem.Challenge.rw_xl0016_01.row.prog w) A (call (.ref f) vs) Q E s := by
  subst hA
  refine C dp un gd cn cs a ccd cl outer A₀ base h₀ L m s Q E B F X (fun p hp => N p (hsub p hp)) T hk hd hu (fun r tl h' tk' F' N' kp fr p => hret r tl h' tk' F' (fun q hq => ?_) (fun p hp hn q hq e => ?_) p)
  · rcases List.mem_append.mp hq with hq | hq
    · exact N' q hq
    · exact ⟨kp _ _ (N q (hsub' q hq)).1 (fun hm => by obtain ⟨z, hz, e⟩ := List.mem_map.mp hm; exact hoff q hq z hz e.symm), (N q (hsub' q hq)).2⟩
  · have := fr p hp hn
    rw [show p.1 = q.1 from e, (N q hq).1] at this
    cases this
theorem con_useK {vs : List Value} {led : List (Addr × Obj)} {k : Nat} (C : ConK k w mean mg mb f vs need Post) {dp un : Nat} {gd : Option (List Code)} {cn : Str} {cs : Scope} {a : Addr} {ccd : Value} {cl : List (Str × Addr)}
    (hA : A = ktrTop dp un gd cn cs L a ccd cl outer) (B : Below A₀ base outer h₀) (F : Fr h₀ L s.heap m) (X : (Mine.hd.heap_1 w.params).In h₀) (N : News h₀ L s.heap led) (hsub : ∀ p ∈ need, p ∈ led)
    (T : Top Mine.viewX (looseW Mine.viewX [Str.ofString "Whitespace", Str.ofString "_Accumulator"]) mean mg mb h₀) (hk : cs.kind = .function) (hd : dp + k < recursionLimit) (hu : un + 8 * k < cLine)
    (hret : ∀ r tl h' tk', Fr h₀ L h' m → News h₀ L h' (tl ++ led) → (∀ p ∈ tl, p ∉ need → ∀ q ∈ led, @Ne Nat p.1 q.1) → Post tl r → Q r { s with heap := h', toks := tk' }) :
    wpAny (model PySem.Challenge.rw_xl0016_01.row.prog w) A (call (.ref f) vs) Q E s := by
  subst hA
  refine C dp un gd cn cs a ccd cl outer A₀ base h₀ L m s Q E B F X (fun p hp => N p (hsub p hp)) T hk hd hu ?_
  rintro r _ h' tk' F' N' kp fr ⟨tl, rfl, p⟩
  refine hret r tl h' tk' F' (fun q hq => ?_) (fun p hp hn q hq e => ?_) p
  · rcases List.mem_append.mp hq with hq | hq
    · exact N' q (List.mem_append_left _ hq)
    · by_cases hn : q.1 ∈ need.map (·.1)
      · obtain ⟨p, hp, e⟩ := List.mem_map.mp hn
        have e1 := (N p (hsub p hp)).1
        have e2 := (N q hq).1
        rw [e, e2] at e1
        have e3 : q = p := Prod.ext e.symm (Option.some.inj e1)
        rw [e3]
        exact N' p (List.mem_append_right _ hp)
      · exact ⟨kp _ _ (N q hq).1 hn, (N q hq).2⟩
  · have hp' := N' p (List.mem_append_left _ hp)
    by_cases hm : p.1 ∈ need.map (·.1)
    · obtain ⟨z, hz, ez⟩ := List.mem_map.mp hm
      have hz' := N' z (List.mem_append_right _ hz)
      have : some z.2 = some p.2 := by rw [← hz'.1, ez, hp'.1]
      exact hn (by rw [show p = z from Prod.ext ez.symm (Option.some.inj this).symm]; exact hz)
    · have := fr p (List.mem_append_left _ hp) hm
      rw [show p.1 = q.1 from e, (N q hq).1] at this
      cases this
end
theorem pick {G : Heap} {L : Addr} {h : Heap} {l l' : List (Addr × Obj)} (N : News G L h l) (ix : List Nat) (e : ix.filterMap (fun i => l[i]?) = l') : News G L h l' := by
  subst e
  intro p hp
  obtain ⟨i, _, hi⟩ := List.mem_filterMap.mp hp
  exact N p (List.mem_of_getElem? hi)
section
variable {α β : Type} {prog : Program} {w : World} {A : Around} {E : Value → Shared → Prop} {s : Shared}
theorem abs1 {c : Sem α} {P : α → Shared → Prop} (h : ∀ X : α → Shared → Prop, (∀ f s, P f s → X f s) → wpAny (model prog w) A c X E s) : wpAny (model prog w) A c P E s := h P fun _ _ h => h
theorem abs2 {c : Sem α} {d : Sem β} {P : β → Shared → Prop} (h : ∀ X : β → Shared → Prop, (∀ f s, P f s → X f s) → wpAny (model prog w) A c (fun _ s₂ => wpAny (model prog w) A d X E s₂) E s) :
    wpAny (model prog w) A c (fun _ s₂ => wpAny (model prog w) A d P E s₂) E s := h P fun _ _ h => h
theorem abs3 {c : Sem Bool} {d : Sem β} {P : β → Shared → Prop} {R : Shared → Prop} (h : ∀ (X : β → Shared → Prop) (Y : Shared → Prop), (∀ f s, P f s → X f s) → (∀ s, R s → Y s) → wpAny (model prog w) A c (fun b s₂ => if b = true then wpAny (model prog w) A d X E s₂ else Y s₂) E s) :
    wpAny (model prog w) A c (fun b s₂ => if b = true then wpAny (model prog w) A d P E s₂ else R s₂) E s := h P R (fun _ _ h => h) fun _ h => h
end
theorem st_tok {α : Type} {M : Model} {A : Around} {E : Value → Shared → Prop} {c : Sem α} {Q : α → Shared → Prop} {s0 : Shared} {T : Nat} (f : ∀ k, wpAny M A c Q E { s0 with toks := k }) : wpAny M A c Q E { s0 with toks := T } := f T
theorem st_tokG {α : Type} {M : Model} {A : Around} {E : Value → Shared → Prop} {c : Sem α} {Q : α → Shared → Prop} {s0 : Shared} {H : Heap} {T : Nat} (f : ∀ k, wpAny M A c Q E { s0 with heap := H, toks := k }) : wpAny M A c Q E { s0 with heap := H, toks := T } := f T
end
section
theorem rowsA2_0 : True := by
  w_top off
  k_with_none
  trivial
/-- a text by its signs -/
def S (l : List Nat) : Str := ⟨l.toArray⟩
def sp (n : Nat) : List Nat := List.replicate n 32
theorem S_len (l : List Nat) : (S l).length = l.length := by simp [S, Str.length]
theorem S_inj {a b : List Nat} (h : S a = S b) : a = b := by
  have := congrArg (fun x : Str => x.cps.toList) h
  simpa [S] using this
theorem S_app (a b : List Nat) : S a ++ S b = S (a ++ b) := by
  apply Str.ext'
  simp [S, Str.cps_append]
theorem S_blank : Str.ofString " " = S [32] := by decide +kernel
theorem S_tab : Str.ofString "\t" = S [9] := by decide +kernel
theorem S_nil : Str.ofString "" = S [] := by decide +kernel
theorem S_x : Str.ofString "x" = S [120] := by decide +kernel
theorem mul_S (n : Int) : Txt.mul (Str.ofString " ") n = S (sp n.toNat) := by
  apply Str.ext'
  have := mul_one_list 32 n
  rw [S_blank]
  apply Array.ext'
  rw [show (S [32]) = ⟨#[32]⟩ from rfl, this]
  simp [S, sp]
theorem join_S : ∀ l : List (List Nat), Txt.join (S []) (l.map S) = S l.flatten := by
  intro l
  cases l with
  | nil => rfl
  | cons a r =>
    show Str.mk _ = _
    have : ∀ (r : List (List Nat)) (acc : List Nat), (r.map S).foldl (fun acc p => acc ++ (S []).cps ++ p.cps) acc.toArray = (acc ++ r.flatten).toArray := by
      intro r
      induction r with
      | nil => intro acc; simp
      | cons b r ih =>
        intro acc
        simp only [List.map_cons, List.foldl_cons, List.flatten_cons]
        have e : acc.toArray ++ (S []).cps ++ (S b).cps = (acc ++ b).toArray := by simp [S]
        rw [e, ih, List.append_assoc]
    have h := this r a
    simp only [List.map_cons, List.drop_succ_cons, List.drop_zero, List.headD_cons, List.flatten_cons]
    simp only [S] at h ⊢
    exact congrArg Str.mk h
section
variable {prog : Program} {w : World} {A : Around} {E : Value → Shared → Prop} {s : Shared} {t u : Tok} {Q : Value → Shared → Prop}
theorem r_mul {n : Int} (h1 : n ≤ 1000) (h0 : 0 ≤ n) (h : ∀ t' k, Q (.str (S (sp n.toNat)) t') { s with toks := k }) : wpAny (model prog w) A (binaryOp .Mult (.str (Str.ofString " ") t) (.int n u)) Q E s := by
  refine SB.mul (mulOk_of 1 1000 (by decide +kernel) h1 (by omega) (by decide) (by decide)) fun t' k => ?_
  rw [mul_S]
  exact h t' k
theorem r_add {a b : List Nat} {x y : Str} (hx : x = S a) (hy : y = S b) (hl : a.length + b.length ≤ 10000) (h : ∀ t' k, Q (.str (S (a ++ b)) t') { s with toks := k }) : wpAny (model prog w) A (binaryOp .Add (.str x t) (.str y u)) Q E s := by
  subst hx hy
  refine PyProof.Rows.add_str (fun t' tk => ?_) (by rw [S_len, S_len, sizeLine_eq]; omega)
  rw [S_app]
  exact h t' tk
theorem strsAre_map : ∀ (ls : List (List Nat × Tok)), StrsAre (ls.map fun p => Value.str (S p.1) p.2) ((ls.map (·.1)).map S)
  | [] => .nil
  | p :: r => .cons _ _ (strsAre_map r)
theorem r_join {D : Addr} {items : Array Value} {ls : List (List Nat × Tok)} (hl : s.heap.IsList D items) (hi : items.toList = ls.map fun p => Value.str (S p.1) p.2) (hw : (ls.map (·.1.length)).sum + ls.length ≤ 10000)
    (h : ∀ t' k, Q (.str (S (ls.map (·.1)).flatten) t') { s with toks := k }) : wpAny (model prog w) A (call (.builtin "str.join") [.str (Str.ofString "") t, .ref D]) Q E s := by
  refine join_listW (ys := (ls.map (·.1)).map S) hl (hi ▸ strsAre_map ls) (by decide +kernel) ?_ fun t' k => ?_
  · have e : (((ls.map (·.1)).map S).map (·.length)) = ls.map (·.1.length) := by
      simp [List.map_map, Function.comp_def, S_len]
    rw [e]
    simp only [List.length_map]
    omega
  · rw [S_nil, join_S]
    exact h t' k
end
theorem fmod_lit (k : Int) : k.fmod 2 = k % 2 := Int.fmod_eq_emod_of_nonneg k (by decide)
end
section
theorem rowsA3_0 : True := by
  w_top off
  k_with_none
  trivial
/-- the end of a turn of a loop over an iterator of one object -/
def TEnd {σ : Type} (h₀ : Heap) (L : Addr) (x : Str) (m₀ : Str → Option Value) (Led : σ → List (Addr × Obj)) (ps : σ → List (Str × Value)) (Inv : σ → Prop) (I : Addr) (oI : Obj) (s₁ : Shared) (Q : Flow → Shared → Prop) (f : Flow) (s₂ : Shared) : Prop :=
  match f with
  | .ret v => Q (.ret v) s₂
  | .brk => Q .next s₂
  | _ => ∃ c h' tk' m', s₂ = { s₁ with heap := h', toks := tk' } ∧ Fr h₀ L h' m' ∧ News h₀ L h' ((I, oI) :: Led c) ∧ (∀ p ∈ Led c, p.1 ≠ I) ∧ (∀ p ∈ ps c, m' p.1 = some p.2) ∧ (∀ z, z ≠ x → (∀ p ∈ ps c, z ≠ p.1) → m' z = m₀ z) ∧ Inv c

theorem kstB_of {m₀ m₁ : Str → Option Value} {ps : List (Str × Value)} {x : Str} (h1 : ∀ p ∈ ps, m₁ p.1 = some p.2) (h2 : ∀ z, z ≠ x → (∀ p ∈ ps, z ≠ p.1) → m₁ z = m₀ z) (u : Option Value) :
    (fun y => if y = x then u else m₁ y) = fun y => if y = x then u else kstB m₀ ps y := by
  funext y
  by_cases hy : y = x
  · rw [if_pos hy, if_pos hy]
  · rw [if_neg hy, if_neg hy]
    exact (kstB_eq h1 fun hn => (h2 y hy hn).symm).symm
section
variable {prog : Program} {w : World} {A : Around} {E : Value → Shared → Prop} {s : Shared} {env : Env} {h₀ : Heap} {x : Str} {body : List Stmt} {Q : Flow → Shared → Prop}
theorem loop_one {σ : Type} {I : Addr} {n : Nat} {P : Nat → Value → Prop} {St : Nat → Heap → Prop} {m₀ : Str → Option Value} (Led : σ → List (Addr × Obj)) (ps : σ → List (Str × Value)) (Inv : Nat → σ → Prop) (c₀ : σ)
    (W : Walks prog w A I [I] [I] n P St) (hLI : env.locals ≠ I) (hI : h₀.get? I = none) (hSt : ∀ i h, St i h → ∃ o, h.get? I = some o) (hst : St 0 s.heap)
    (F : Fr h₀ env.locals s.heap m₀) (N : News h₀ env.locals s.heap (Led c₀)) (hoff : ∀ p ∈ Led c₀, p.1 ≠ I) (hk : ∀ p ∈ ps c₀, m₀ p.1 = some p.2) (hi : Inv 0 c₀)
    (turn : ∀ i c v oI h tk, i < n → P i v → Inv i c → (∀ p ∈ Led c, p.1 ≠ I) → Fr h₀ env.locals h (fun y => if y = x then some v else kstB m₀ (ps c) y) → News h₀ env.locals h ((I, oI) :: Led c) →
      wpAny (model prog w) A (execs body env) (TEnd h₀ env.locals x m₀ Led ps (Inv (i + 1)) I oI { s with heap := h, toks := tk } Q) E { s with heap := h, toks := tk })
    (done : ∀ c (u : Option Value) h tk, Inv n c → Fr h₀ env.locals h (fun y => if y = x then u else kstB m₀ (ps c) y) → News h₀ env.locals h (Led c) → Q .next { s with heap := h, toks := tk }) :
    LoopAtV prog w A h₀ env x body Q E (.ref I) s := by
  let J : Nat → (Str → Option Value) → List (Addr × Obj) → Prop := fun i m nw => ∃ c, nw = Led c ∧ (∀ p ∈ ps c, m p.1 = some p.2) ∧ (∀ z, z ≠ x → (∀ p ∈ ps c, z ≠ p.1) → m z = m₀ z) ∧ Inv i c
  refine ⟨I, [I], [I], n, P, St, m₀, Led c₀, J, rfl, W, ?_, ?_, ?_, hst, F, N, ⟨c₀, rfl, hk, fun _ _ _ => rfl, hi⟩, ?_, ?_⟩
  · intro hm; exact hLI (List.mem_singleton.mp hm)
  · intro b hb; rw [List.mem_singleton.mp hb]; exact hI
  · intro p hp hm; exact hoff p hp (List.mem_singleton.mp hm)
  · rintro i v m₁ news₁ s₁ own ⟨hh, tk, rfl⟩ hin hP ⟨c, rfl, h1, h2, hi'⟩ hof hown hget hall hst' F₁ N₁
    obtain ⟨oI, heI⟩ := hSt _ _ hst'
    have hof' : ∀ p ∈ Led c, p.1 ≠ I := fun p hp e => hof p hp (List.mem_singleton.mpr e)
    have N₂ : News h₀ env.locals hh ((I, oI) :: Led c) := fun p hp => by
      rcases List.mem_cons.mp hp with rfl | hp
      · exact N₁ _ (List.mem_append_left _ (hall I (List.mem_singleton.mpr rfl) hI _ heI))
      · exact N₁ _ (List.mem_append_right _ hp)
    rw [kstB_of h1 h2] at F₁
    refine wpAny_mono (turn i c v oI hh tk hin hP hi' hof' F₁ N₂) (fun f s₂ t => ?_) fun _ _ e => e
    have ownI : ∀ p ∈ own, p = (I, oI) := fun p hp => by
      have e1 := List.mem_singleton.mp (hown p hp)
      have e2 := hget p hp
      rw [e1, heI] at e2
      exact Prod.ext e1 (Option.some.inj e2).symm
    have fin : (∃ c h' tk' m', s₂ = { s with heap := h', toks := tk' } ∧ Fr h₀ env.locals h' m' ∧ News h₀ env.locals h' ((I, oI) :: Led c) ∧ (∀ p ∈ Led c, p.1 ≠ I) ∧ (∀ p ∈ ps c, m' p.1 = some p.2) ∧ (∀ z, z ≠ x → (∀ p ∈ ps c, z ≠ p.1) → m' z = m₀ z) ∧ Inv (i + 1) c) →
        LoopStepU h₀ env.locals [I] own (J (i + 1)) { s with heap := hh, toks := tk } .next s₂ := by
      rintro ⟨c', h', tk', m', rfl, F', N', o', k1, k2, iv⟩
      refine ⟨rfl, h', tk', m', Led c', rfl, F', fun p hp => ?_, fun p hp hm => o' p hp (List.mem_singleton.mp hm), c', rfl, k1, k2, iv⟩
      rcases List.mem_append.mp hp with hp | hp
      · rw [ownI p hp]; exact N' _ (List.mem_cons_self)
      · exact N' _ (List.mem_cons_of_mem _ hp)
    cases f with
    | ret v => exact .ret t
    | brk => exact .brk t
    | next => exact .next (fin t)
    | cont => exact .cont (fin t)
  · rintro h' tk m' news' F' N' _ ⟨c, rfl, h1, h2, iv⟩
    have e := kstB_of h1 h2 (m' x)
    refine done c (m' x) h' tk iv ?_ N'
    rw [← e]
    have : (fun y => if y = x then m' x else m' y) = m' := by
      funext y
      by_cases hy : y = x
      · rw [if_pos hy, hy]
      · rw [if_neg hy]
    rw [this]
    exact F'
theorem loop_str {σ : Type} {cs : List Nat} {t : Tok} {m₀ : Str → Option Value} (Led : σ → List (Addr × Obj)) (ps : σ → List (Str × Value)) (Inv : Nat → σ → Prop) (c₀ : σ) (hasc : cs.all (· < 128) = true)
    (hh : A.handled = none)
    (F : Fr h₀ env.locals s.heap m₀) (N : News h₀ env.locals s.heap (Led c₀)) (hk : ∀ p ∈ ps c₀, m₀ p.1 = some p.2) (hi : Inv 0 c₀)
    (turn : ∀ I i c n u oI h tk, cs[i]? = some n → Inv i c → (∀ p ∈ Led c, p.1 ≠ I) → Fr h₀ env.locals h (fun y => if y = x then some (.str (S [n]) u) else kstB m₀ (ps c) y) → News h₀ env.locals h ((I, oI) :: Led c) →
      wpAny (model prog w) A (execs body env) (TEnd h₀ env.locals x m₀ Led ps (Inv (i + 1)) I oI { s with heap := h, toks := tk } Q) E { s with heap := h, toks := tk })
    (done : ∀ c (u : Option Value) h tk, Inv cs.length c → Fr h₀ env.locals h (fun y => if y = x then u else kstB m₀ (ps c) y) → News h₀ env.locals h (Led c) → Q .next { s with heap := h, toks := tk }) :
    wpAny (model prog w) A (pyIter (.str (S cs) t)) (fun it s₂ => LoopAtV prog w A h₀ env x body Q E it s₂) E s := by
  refine wpAny_pyIter_ascii (by simpa [S] using hasc) ?_
  have hsz : (S cs).cps.size = cs.length := by simp [S]
  refine loop_one (I := s.heap.objs.size) (n := (S cs).cps.size) Led ps Inv c₀ (Walks.strAscii hh _ (S cs) t) (Nat.ne_of_lt F.ns.lt) (next_is_new F) (fun i h st => let ⟨o, ho, _⟩ := st; ⟨o, ho⟩) ⟨_, Heap.get?_push_size _ rfl, rfl, rfl⟩ (F.push _)
    (fun p hp => ⟨Heap.get?_push_of_some _ (N p hp).1, (N p hp).2⟩) (fun p hp => Nat.ne_of_lt (Heap.lt_size (N p hp).1)) hk hi ?_ ?_
  · rintro i c v oI h tk hin ⟨n, u, hn, rfl⟩ iv off F' N'
    exact turn _ i c n u oI h tk (by simpa [S] using hn) iv off F' N'
  · intro c u h tk iv F' N'
    rw [hsz] at iv
    exact done c u h tk iv F' N'
theorem loop_range {σ : Type} {r : Addr} {a b : Int} {t₀ u₀ v₀ : Tok} {n : Nat} {m₀ : Str → Option Value} (Led : σ → List (Addr × Obj)) (ps : σ → List (Str × Value)) (Inv : Nat → σ → Prop) (c₀ : σ)
    (hh : A.handled = none) (hr : IsRange s.heap r a b 1 t₀ u₀ v₀) (hsmall : Builtin.Range.small a b 1 = true) (hn : Builtin.Range.rangeSize a b 1 = (n : Int))
    (F : Fr h₀ env.locals s.heap m₀) (N : News h₀ env.locals s.heap (Led c₀)) (hk : ∀ p ∈ ps c₀, m₀ p.1 = some p.2) (hi : Inv 0 c₀)
    (turn : ∀ I i c u oI h tk, i < n → Inv i c → (∀ p ∈ Led c, p.1 ≠ I) → Fr h₀ env.locals h (fun y => if y = x then some (.int (a + (i : Int)) u) else kstB m₀ (ps c) y) → News h₀ env.locals h ((I, oI) :: Led c) →
      wpAny (model prog w) A (execs body env) (TEnd h₀ env.locals x m₀ Led ps (Inv (i + 1)) I oI { s with heap := h, toks := tk } Q) E { s with heap := h, toks := tk })
    (done : ∀ c (u : Option Value) h tk, Inv n c → Fr h₀ env.locals h (fun y => if y = x then u else kstB m₀ (ps c) y) → News h₀ env.locals h (Led c) → Q .next { s with heap := h, toks := tk }) :
    wpAny (model prog w) A (pyIter (.ref r)) (fun it s₂ => LoopAtV prog w A h₀ env x body Q E it s₂) E s := by
  refine wpAny_pyIter_range hr hsmall ?_
  refine loop_one (I := s.heap.objs.size) (n := n) Led ps Inv c₀ (Walks.range hh _ a 1 n) (Nat.ne_of_lt F.ns.lt) (next_is_new F) (fun i h st => ⟨_, st⟩) (by show IsRangeIter _ _ _ _ _; rw [hn]; simpa using Heap.get?_push_size _ rfl) (F.push _)
    (fun p hp => ⟨Heap.get?_push_of_some _ (N p hp).1, (N p hp).2⟩) (fun p hp => Nat.ne_of_lt (Heap.lt_size (N p hp).1)) hk hi ?_ ?_
  · rintro i c v oI h tk hin ⟨u, rfl⟩ iv off F' N'
    have e1 : a + (i : Int) * 1 = a + (i : Int) := by omega
    rw [e1] at F'
    exact turn _ i c u oI h tk hin iv off F' N'
  · exact done
end
section
variable {prog : Program} {w : World} {A : Around} {E : Value → Shared → Prop} {s : Shared} {h₀ : Heap} {L : Addr} {m : Str → Option Value} {news : List (Addr × Obj)}
theorem r_tuple {l : Addr} {vs : List Value} {n : Nat} {Q : Value → Shared → Prop} (F : Fr h₀ L s.heap m) (N : News h₀ L s.heap news) (hm : (l, W.listOf vs.toArray n) ∈ news)
    (h : ∀ D h', Fr h₀ L h' m → News h₀ L h' ((D, { cls := .type "tuple", data := .seq vs.toArray }) :: news) → (∀ p ∈ news, p.1 < D) → Q (.ref D) { s with heap := h' })
    (hsz : vs.length ≤ sizeLine) : wpAny (model prog w) A (call (.type "tuple") [.ref l]) Q E s := by
  have hl : s.heap.IsList l vs.toArray := News.isList N hm
  refine call_tuple_list hl (fun h' hk => ?_) (by rw [List.size_toArray]; exact hsz)
  have F' : Fr h₀ L h' m := F.keeps hk
  have N' : News h₀ L h' news := fun p hp => ⟨hk _ _ (N p hp).1, (N p hp).2⟩
  exact h _ _ (F'.push _) (N'.push F' _) fun p hp => Heap.lt_size (N' p hp).1
end
section
variable {prog : Program} {w : World} {A : Around} {E : Value → Shared → Prop} {s : Shared} {h₀ : Heap} {L : Addr} {m : Str → Option Value} {news : List (Addr × Obj)}
theorem r_len_tupI {l : Addr} {vs : List Value} {ns : List Int} {n : Nat} {Q : Value → Shared → Prop} (N : News h₀ L s.heap news) (hm : (l, ({ cls := .type "tuple", data := .seq vs.toArray n } : Obj)) ∈ news) (hi : IntsAre vs ns) (hf : ns.length < 2 ^ 62)
    (h : ∀ t tk, Q (.int ns.length t) { s with toks := tk }) : wpAny (model prog w) A (call (.builtin "len") [.ref l]) Q E s := by
  have hl : vs.length = ns.length := hi.length
  refine len_tuple (items := vs.toArray) ⟨_, (N _ hm).1, rfl, _, rfl⟩ (by rw [List.size_toArray, hl]; omega) ?_
  rw [List.size_toArray, hl]
  exact h _ _
theorem r_item_tupI {l : Addr} {vs : List Value} {ns : List Int} {n : Nat} {k : Int} {u : Tok} {value slice : Expr} {Q : Value → Shared → Prop} (N : News h₀ L s.heap news) (hm : (l, ({ cls := .type "tuple", data := .seq vs.toArray n } : Obj)) ∈ news) (hi : IntsAre vs ns)
    (h0 : 0 ≤ k) (h1 : k < ns.length) (h2 : ns.length < 2 ^ 62) (h : ∀ t, Q (.int (ns.getD k.toNat 0) t) s)
    (hs : subscripted slice false (.ref l) (.int k u) = operate [.ref l, .int k u] (getItem (.ref l) (.int k u))) :
    wpAny (model prog w) A (subscriptTail value slice (.ref l) (.int k u)) Q E s := by
  have hl : vs.length = ns.length := hi.length
  have hlt : k.toNat < ns.length := by omega
  obtain ⟨t, ht⟩ := hi.get k.toNat ns[k.toNat] (by simp [hlt])
  refine item_tupleT (l := vs) (j := k.toNat) ⟨_, (N _ hm).1, rfl, _, rfl⟩ (by omega) (by omega) (seqIndex_of h0 (by omega)) ht ?_ hs
  have := h t
  rwa [List.getD_eq_getElem?_getD, List.getElem?_eq_getElem hlt] at this
end
/-- a goal laid aside: the walk stops at it -/
def Hold (P : Prop) : Prop := P
theorem Hold.of {P : Prop} (h : Hold P) : P := h
theorem Hold.on {P : Prop} (h : P) : Hold P := h
/-- one int name that a range's loop turns -/
def IEnd (h₀ : Heap) (L : Addr) (x y : Str) (m₀ : Str → Option Value) (R : List (Addr × Obj)) (J : Int → Prop) (I : Addr) (oI : Obj) (s₁ : Shared) (Q : Flow → Shared → Prop) (f : Flow) (s₂ : Shared) : Prop :=
  TEnd h₀ L x m₀ (fun _ : Int × Tok => R) (fun c => [(y, .int c.1 c.2)]) (fun c => J c.1) I oI s₁ Q f s₂
theorem IEnd.intro {h₀ : Heap} {L : Addr} {x y : Str} {m₀ m' : Str → Option Value} {R : List (Addr × Obj)} {J : Int → Prop} {I : Addr} {oI : Obj} {s₁ : Shared} {Q : Flow → Shared → Prop} {h' : Heap} {tk' : Nat} {v : Int} {t : Tok}
    (F : Fr h₀ L h' m') (hy : m' y = some (.int v t)) (hrest : ∀ z, z ≠ x → z ≠ y → m' z = m₀ z) (N : News h₀ L h' ((I, oI) :: R)) (hRI : ∀ p ∈ R, p.1 ≠ I) (iv : J v) :
    IEnd h₀ L x y m₀ R J I oI s₁ Q .next { s₁ with heap := h', toks := tk' } := by
  refine ⟨(v, t), h', tk', m', rfl, F, N, hRI, ?_, ?_, iv⟩
  · intro p hp
    rw [List.mem_singleton.mp hp]
    exact hy
  · intro z hz hp
    exact hrest z hz (hp _ List.mem_cons_self)
section
variable {prog : Program} {w : World} {A : Around} {E : Value → Shared → Prop} {s : Shared} {env : Env} {h₀ : Heap} {x : Str} {body : List Stmt} {Q : Flow → Shared → Prop}
theorem loop_rangeI (y : Str) {r : Addr} {a b : Int} {t₀ u₀ v₀ ty : Tok} {m₀ : Str → Option Value} {R : List (Addr × Obj)} (J : Nat → Int → Prop) {c₀ : Int}
    (hh : A.handled = none) (hr : IsRange s.heap r a b 1 t₀ u₀ v₀) (hsmall : Builtin.Range.small a b 1 = true)
    (F : Fr h₀ env.locals s.heap m₀) (N : News h₀ env.locals s.heap R) (hy : m₀ y = some (.int c₀ ty)) (hi : J 0 c₀)
    (turn : ∀ I i v ty u oI h tk, i < (b - a).toNat → J i v → (∀ p ∈ R, p.1 ≠ I) → Fr h₀ env.locals h (fun z => if z = x then some (.int (a + (i : Int)) u) else if z = y then some (.int v ty) else m₀ z) → News h₀ env.locals h ((I, oI) :: R) →
      wpAny (model prog w) A (execs body env) (IEnd h₀ env.locals x y m₀ R (J (i + 1)) I oI { s with heap := h, toks := tk } Q) E { s with heap := h, toks := tk })
    (done : ∀ v ty (u : Option Value) h tk, J (b - a).toNat v → Fr h₀ env.locals h (fun z => if z = x then u else if z = y then some (.int v ty) else m₀ z) → News h₀ env.locals h R → Q .next { s with heap := h, toks := tk }) :
    wpAny (model prog w) A (pyIter (.ref r)) (fun it s₂ => LoopAtV prog w A h₀ env x body Q E it s₂) E s := by
  refine loop_range (m₀ := m₀) (fun _ : Int × Tok => R) (fun c => [(y, .int c.1 c.2)]) (fun i c => J i c.1) (c₀, ty) hh hr hsmall (rangeSize_nat a b) F N ?_ hi ?_ ?_
  · intro p hp
    rw [List.mem_singleton.mp hp]
    exact hy
  · rintro I i ⟨v, ty⟩ u oI h tk hin iv off F' N'
    exact turn I i v ty u oI h tk hin iv off F' N'
  · rintro ⟨v, ty⟩ u h tk iv F' N'
    exact done v ty u h tk iv F' N'
end
end
section
theorem rowsA4_0 : True := by
  w_top off
  k_with_none
  trivial
abbrev tup3 (x y z : Int) (t1 t2 t3 : Tok) : Obj := { cls := .type "tuple", data := .seq #[.int x t1, .int y t2, .int z t3] 0 }
/-- one sign of Whitespace's loop over (b, n, nt, count) -/
def wsStep (c : Int × Int × Int × List Int) (k : Nat) : Int × Int × Int × List Int :=
  if k = 32 then (c.1 + 1, c.2.1 + 1, c.2.2.1, c.2.2.2)
  else
    let ns := if (c.2.2.2.length : Int) ≤ c.1 then c.2.2.2 ++ (List.replicate (c.1 - (c.2.2.2.length : Int) + 1).toNat [(0 : Int)]).flatten else c.2.2.2
    (0, c.2.1 + 1, c.2.2.1 + 1, ns.set c.1.toNat (ns.getD c.1.toNat 0 + 1))
def wsRun (cs : List Nat) : Int × Int × Int × List Int := cs.foldl wsStep (0, 0, 0, [])
theorem wsRun_snoc {cs : List Nat} {i k : Nat} (h : cs[i]? = some k) : wsRun (cs.take (i + 1)) = wsStep (wsRun (cs.take i)) k := by
  unfold wsRun
  rw [List.take_add_one, h]
  simp [List.foldl_append]
structure WS where
  b : Int
  n : Int
  nt : Int
  tb : Tok
  tn : Tok
  tnt : Tok
  l : Addr
  vs : List Value
  ns : List Int
  ep : Nat
abbrev wsPs (c : WS) : List (Str × Value) := [(Str.ofString "b", .int c.b c.tb), (Str.ofString "n", .int c.n c.tn), (Str.ofString "nt", .int c.nt c.tnt), (Str.ofString "count", .ref c.l)]
def wsInv (R : List (Addr × Obj)) (cs : List Nat) (i : Nat) (c : WS) : Prop := wsRun (cs.take i) = (c.b, c.n, c.nt, c.ns) ∧ IntsAre c.vs c.ns ∧ 0 ≤ c.b ∧ c.b ≤ i ∧ c.ns.length ≤ i + 1 ∧ (∀ k ∈ c.ns, 0 ≤ k ∧ k ≤ i) ∧ 0 ≤ c.nt ∧ c.nt ≤ i ∧ 0 ≤ c.n ∧ c.n ≤ i ∧ i ≤ cs.length ∧ ∀ p ∈ R, p.1 < c.l
theorem ws_blank {R : List (Addr × Obj)} {cs : List Nat} {i : Nat} {b n nt : Int} {tb tn tnt tb' tn' : Tok} {l : Addr} {vs : List Value} {ns : List Int} {ep : Nat} (h : wsInv R cs i ⟨b, n, nt, tb, tn, tnt, l, vs, ns, ep⟩) (hk : cs[i]? = some 32) :
    wsInv R cs (i + 1) ⟨b + 1, n + 1, nt, tb', tn', tnt, l, vs, ns, ep⟩ := by
  obtain ⟨h1, h2, h3, h4, h5, h6, h7, h8, h9, h10, h11, h12⟩ := h
  dsimp only at h1 h2 h3 h4 h5 h6 h7 h8 h9 h10 h12
  have hlt := (List.getElem?_eq_some_iff.mp hk).1
  refine ⟨by rw [wsRun_snoc hk, h1]; rfl, h2, ?_, ?_, ?_, ?_, h7, ?_, ?_, ?_, hlt, h12⟩ <;> dsimp only
  · omega
  · omega
  · omega
  · intro k hk'; have := h6 k hk'; omega
  · omega
  · omega
  · omega
theorem ws_tab {R : List (Addr × Obj)} {cs : List Nat} {i : Nat} {b n nt : Int} {tb tn tnt tb' tn' tnt' : Tok} {l l' : Addr} {vs vs' : List Value} {ns ms : List Int} {ep ep' : Nat} (h : wsInv R cs i ⟨b, n, nt, tb, tn, tnt, l, vs, ns, ep⟩) (hk : cs[i]? = some 9)
    (hl' : ∀ p ∈ R, p.1 < l') (hms : ms = if (ns.length : Int) ≤ b then ns ++ (List.replicate (b - (ns.length : Int) + 1).toNat [(0 : Int)]).flatten else ns) (hvs : IntsAre vs' (ms.set b.toNat (ms.getD b.toNat 0 + 1))) :
    wsInv R cs (i + 1) ⟨0, n + 1, nt + 1, tb', tn', tnt', l', vs', ms.set b.toNat (ms.getD b.toNat 0 + 1), ep'⟩ := by
  obtain ⟨h1, h2, h3, h4, h5, h6, h7, h8, h9, h10, h11, h12⟩ := h
  dsimp only at h1 h2 h3 h4 h5 h6 h7 h8 h9 h10 h12
  have hlt := (List.getElem?_eq_some_iff.mp hk).1
  have hm6 : ∀ k ∈ ms, 0 ≤ k ∧ k ≤ (i : Int) := by
    intro k hk'
    subst hms
    split at hk'
    · rcases List.mem_append.mp hk' with hk' | hk'
      · exact h6 k hk'
      · have : k = 0 := by
          obtain ⟨l, hl, hkl⟩ := List.mem_flatten.mp hk'
          rw [(List.mem_replicate.mp hl).2] at hkl
          exact List.mem_singleton.mp hkl
        omega
    · exact h6 k hk'
  have hfl : ∀ k : Nat, (List.replicate k [(0 : Int)]).flatten.length = k := by
    intro k
    induction k with
    | zero => rfl
    | succ k ih => rw [List.replicate_succ, List.flatten_cons, List.length_append, ih]; simp; omega
  have hml : ms.length ≤ i + 1 := by
    subst hms
    split
    · rw [List.length_append, hfl]; omega
    · omega
  have hg : ∀ j : Nat, 0 ≤ ms.getD j 0 ∧ ms.getD j 0 ≤ (i : Int) := by
    intro j
    rw [List.getD_eq_getElem?_getD]
    cases hj : ms[j]? with
    | none => simp
    | some z => exact hm6 z (List.mem_of_getElem? hj)
  refine ⟨?_, hvs, ?_, ?_, ?_, ?_, ?_, ?_, ?_, ?_, hlt, hl'⟩ <;> dsimp only
  · rw [wsRun_snoc hk, h1]
    subst hms
    rfl
  · omega
  · omega
  · rw [List.length_set]; omega
  · intro k hk'
    rcases List.mem_or_eq_of_mem_set hk' with hk' | rfl
    · have := hm6 k hk'; omega
    · have := hg b.toNat; omega
  · omega
  · omega
  · omega
  · omega
section
variable {prog : Program} {w : World} {A : Around} {E : Value → Shared → Prop} {s : Shared} {env : Env} {h₀ : Heap} {x : Str} {body : List Stmt} {Q : Flow → Shared → Prop}
def WEnd (h₀ : Heap) (L : Addr) (x : Str) (m₀ : Str → Option Value) (R : List (Addr × Obj)) (cs : List Nat) (i : Nat) (I : Addr) (oI : Obj) (s₁ : Shared) (Q : Flow → Shared → Prop) (f : Flow) (s₂ : Shared) : Prop :=
  TEnd h₀ L x m₀ (fun c : WS => (c.l, W.listOf c.vs.toArray c.ep) :: R) wsPs (wsInv R cs i) I oI s₁ Q f s₂
theorem WEnd.intro {L : Addr} {m₀ m' : Str → Option Value} {R : List (Addr × Obj)} {cs : List Nat} {i : Nat} {I : Addr} {oI : Obj} {s₁ : Shared} {h' : Heap} {tk' : Nat} {b n nt : Int} {tb tn tnt : Tok} {l : Addr} {vs : List Value} {ns : List Int} {ep : Nat}
    (F : Fr h₀ L h' m') (hb : m' (Str.ofString "b") = some (.int b tb)) (hn : m' (Str.ofString "n") = some (.int n tn)) (hnt : m' (Str.ofString "nt") = some (.int nt tnt)) (hl : m' (Str.ofString "count") = some (.ref l))
    (hrest : ∀ z, z ≠ x → z ≠ Str.ofString "b" → z ≠ Str.ofString "n" → z ≠ Str.ofString "nt" → z ≠ Str.ofString "count" → m' z = m₀ z)
    (N : News h₀ L h' ((I, oI) :: (l, W.listOf vs.toArray ep) :: R)) (hlI : l ≠ I) (hRI : ∀ p ∈ R, p.1 ≠ I) (iv : wsInv R cs i ⟨b, n, nt, tb, tn, tnt, l, vs, ns, ep⟩) :
    WEnd h₀ L x m₀ R cs i I oI s₁ Q .next { s₁ with heap := h', toks := tk' } := by
  refine ⟨⟨b, n, nt, tb, tn, tnt, l, vs, ns, ep⟩, h', tk', m', rfl, F, N, ?_, ?_, ?_, iv⟩
  · intro p hp
    rcases List.mem_cons.mp hp with rfl | hp
    · exact hlI
    · exact hRI p hp
  · intro p hp
    simp only [List.mem_cons, List.not_mem_nil, or_false] at hp
    rcases hp with rfl | rfl | rfl | rfl <;> assumption
  · intro z hz hp
    refine hrest z hz ?_ ?_ ?_ ?_
    · exact hp _ (List.mem_cons_self)
    · exact hp _ (List.mem_cons_of_mem _ List.mem_cons_self)
    · exact hp _ (List.mem_cons_of_mem _ (List.mem_cons_of_mem _ List.mem_cons_self))
    · exact hp _ (List.mem_cons_of_mem _ (List.mem_cons_of_mem _ (List.mem_cons_of_mem _ List.mem_cons_self)))
theorem ws_loop {cs : List Nat} {t : Tok} {m₀ : Str → Option Value} {l : Addr} {tb tn tnt : Tok} {R : List (Addr × Obj)} (hasc : cs.all (fun n => n == 32 || n == 9) = true) (hh : A.handled = none)
    (F : Fr h₀ env.locals s.heap m₀) (N : News h₀ env.locals s.heap ((l, W.listOf (#[] : Array Value) 0) :: R)) (hb : m₀ (Str.ofString "b") = some (.int 0 tb)) (hn : m₀ (Str.ofString "n") = some (.int 0 tn)) (hnt : m₀ (Str.ofString "nt") = some (.int 0 tnt)) (hl : m₀ (Str.ofString "count") = some (.ref l))
    (hR : AllLt l R)
    (turn : ∀ I i (b n nt : Int) (tb tn tnt : Tok) (l : Addr) (vs : List Value) (ns : List Int) (ep : Nat) k u oI h tk, (k = 32 ∨ k = 9) → cs[i]? = some k → wsInv R cs i ⟨b, n, nt, tb, tn, tnt, l, vs, ns, ep⟩ → l ≠ I → (∀ p ∈ R, p.1 ≠ I) →
      Fr h₀ env.locals h (fun y => if y = x then some (.str (S [k]) u) else if y = Str.ofString "b" then some (.int b tb) else if y = Str.ofString "n" then some (.int n tn) else if y = Str.ofString "nt" then some (.int nt tnt) else if y = Str.ofString "count" then some (.ref l) else m₀ y) →
      News h₀ env.locals h ((I, oI) :: (l, W.listOf vs.toArray ep) :: R) →
      wpAny (model prog w) A (execs body env) (WEnd h₀ env.locals x m₀ R cs (i + 1) I oI { s with heap := h, toks := tk } Q) E { s with heap := h, toks := tk })
    (done : ∀ (b n nt : Int) (tb tn tnt : Tok) (l : Addr) (vs : List Value) (ns : List Int) (ep : Nat) (u : Option Value) h tk, wsInv R cs cs.length ⟨b, n, nt, tb, tn, tnt, l, vs, ns, ep⟩ →
      Fr h₀ env.locals h (fun y => if y = x then u else if y = Str.ofString "b" then some (.int b tb) else if y = Str.ofString "n" then some (.int n tn) else if y = Str.ofString "nt" then some (.int nt tnt) else if y = Str.ofString "count" then some (.ref l) else m₀ y) →
      News h₀ env.locals h ((l, W.listOf vs.toArray ep) :: R) → Q .next { s with heap := h, toks := tk }) :
    wpAny (model prog w) A (pyIter (.str (S cs) t)) (fun it s₂ => LoopAtV prog w A h₀ env x body Q E it s₂) E s := by
  refine loop_str (cs := cs) (m₀ := m₀) (fun c : WS => (c.l, W.listOf c.vs.toArray c.ep) :: R) wsPs (wsInv R cs) ⟨0, 0, 0, tb, tn, tnt, l, [], [], 0⟩ ?_ hh F N ?_ ?_ ?_ ?_
  · refine List.all_eq_true.mpr fun k hk => ?_
    have := List.all_eq_true.mp hasc k hk
    simp only [Bool.or_eq_true, beq_iff_eq] at this
    rcases this with rfl | rfl <;> rfl
  · intro p hp
    simp only [List.mem_cons, List.not_mem_nil, or_false] at hp
    rcases hp with rfl | rfl | rfl | rfl <;> assumption
  · refine ⟨by simp [wsRun], .nil, ?_⟩
    simpa using fun a b h => ktn_ltOf hR (a, b) h
  · rintro I i ⟨b, n, nt, tb, tn, tnt, l, vs, ns, ep⟩ k u oI h tk hk iv off F' N'
    refine turn I i b n nt tb tn tnt l vs ns ep k u oI h tk ?_ hk iv (off _ List.mem_cons_self) (fun p hp => off p (List.mem_cons_of_mem _ hp)) F' N'
    have := List.all_eq_true.mp hasc k (List.mem_of_getElem? hk)
    simpa using this
  · rintro ⟨b, n, nt, tb, tn, tnt, l, vs, ns, ep⟩ u h tk iv F' N'
    exact done b n nt tb tn tnt l vs ns ep u h tk iv F' N'
end
abbrev ent (w : World) (name : String) (t : Tok) (v : Value) : DictEntry := ⟨PyData.keyHash w.params (Str.ofString name), .str (Str.ofString name) t, v⟩
inductive WsPost (w : World) (cs : List Nat) : List (Addr × Obj) → Value → Prop
  | intro {x d nm ct : Addr} {k1 k2 k3 k4 k5 t1 t2 t3 tb : Tok} {b n nt : Int} {vs : List Value} {ns : List Int} {sm : Value}
    (h1 : wsRun cs = (b, n, nt, ns)) (h2 : IntsAre vs ns) (h3 : ns.length ≤ cs.length + 1) (h4 : 0 ≤ b) (h5 : b ≤ cs.length) (h6 : 0 ≤ nt) (h7 : nt ≤ cs.length) (h8 : ∀ k ∈ ns, 0 ≤ k ∧ k ≤ (cs.length : Int)) :
    WsPost w cs [(x, instObj 83 d), (d, dictOf [ent w "raw" k1 (.str (S cs) t1), ent w "n" k2 (.int n t2), ent w "nt" k3 (.int nt t3), ent w "norm" k4 (.ref nm), ent w "is_simple" k5 sm] 5),
      (nm, ({ cls := .type "tuple", data := .seq #[.ref ct, .int b tb] } : Obj)), (ct, ({ cls := .type "tuple", data := .seq vs.toArray } : Obj))] (.ref x)
theorem LeaveC.intro {g : Heap} {need : List (Addr × Obj)} {s : Shared} {Post : List (Addr × Obj) → Value → Prop} {v : Value} {L' : Addr} {m' : Str → Option Value} {h' : Heap} {tk' : Nat} (tl : List (Addr × Obj)) (F : Fr g L' h' m') (N : News g L' h' tl) (p : Post tl v) :
    LeaveC g need s Post v { s with heap := h', toks := tk' } := ⟨L', m', tl, h', tk', rfl, F, N, p⟩
theorem wsInv.dest {R : List (Addr × Obj)} {cs : List Nat} {i : Nat} {b n nt : Int} {tb tn tnt : Tok} {l : Addr} {vs : List Value} {ns : List Int} {ep : Nat} {G : Prop} (h : wsInv R cs i ⟨b, n, nt, tb, tn, tnt, l, vs, ns, ep⟩)
    (k : wsRun (cs.take i) = (b, n, nt, ns) → IntsAre vs ns → 0 ≤ b → b ≤ i → ns.length ≤ i + 1 → (∀ k ∈ ns, 0 ≤ k ∧ k ≤ (i : Int)) → 0 ≤ nt → nt ≤ i → 0 ≤ n → n ≤ i → i ≤ cs.length → (∀ p ∈ R, p.1 < l) → G) : G :=
  let ⟨h1, h2, h3, h4, h5, h6, h7, h8, h9, h10, h11, h12⟩ := h
  k h1 h2 h3 h4 h5 h6 h7 h8 h9 h10 h11 h12
end
section
local macro_rules | `(tactic| k_room) => `(tactic| ktr_room)
theorem rowsA5_0 : True := by
  w_top off
  k_with_none
  k_with "c.enter" => ((first
      | (refine' con_def ?k1q9 ?k2q9 ?k3q9 ?k4q9 ?k5q9 ?kAq9 ?kFq9 ?kKq9 ?k6q9 ?k7q9 ?k8q9 ?k9q9 ?kBq9 ?kRq9 ?_ ?c2q9 ?c3q9 ?c4q9 ?c5q9; (case kAq9 => exact rfl); (case kFq9 => exact rfl); (case kKq9 => assumption); (case k1q9 => k_asm); (case k2q9 => k_asm); (case k3q9 => k_asm); (case k4q9 => k_asm); (case k5q9 => k_asm); (case k6q9 => k_is); (case k7q9 => k_is); (case k8q9 => ktr_room); (case k9q9 => first | exact BindsTo.of_eq rfl | exact binds_K (by k_in) rfl (by k_is) rfl rfl rfl); (case c5q9 => decide); (case kBq9 => exact locs rfl); (case c2q9 => exact rfl); (case c3q9 => exact rfl); (case c4q9 => exact rfl); (case kRq9 => walk_at "c.ret"); k_whole; intro _ _ _ _ _ N'q9 _ _ _ l1q9; (try k_lt l1q9); (try (revert l1q9; intro _)); (try dsimp only); (try k_fold))
      | (refine' con_defC ?k1q9 ?k2q9 ?k3q9 ?k4q9 ?k5q9 ?kAq9 ?kFq9 ?kKq9 ?k6q9 ?k7q9 ?k8q9 ?k9q9 ?kBq9 ?kDq9 ?kRq9 ?_ ?c2q9 ?c3q9 ?c4q9; (case kAq9 => exact rfl); (case kFq9 => exact rfl); (case kKq9 => assumption); (case k1q9 => k_asm); (case k2q9 => k_asm); (case k3q9 => k_asm); (case k4q9 => k_asm); (case k5q9 => k_asm); (case k6q9 => k_is); (case k7q9 => k_is); (case k8q9 => ktr_room); (case k9q9 => first | exact BindsTo.of_eq rfl | exact binds_K (by k_in) rfl (by k_is) rfl rfl rfl); (case kBq9 => exact rfl); (case kDq9 => decide +kernel); (case c2q9 => exact rfl); (case c3q9 => exact rfl); (case c4q9 => exact rfl); (case kRq9 => walk_at "c.ret"); k_whole; intro _ _ _ _ _ _ _ N'q9 Y'q9 _ _ _ l1q9; (try k_lt l1q9); (try (revert l1q9; intro _)); k_cells Y'q9; (try simp only [List.cons_append, List.nil_append] at N'q9); (try dsimp only); (try k_fold))))
  k_with "c.ret" => ((intro _ _ hl9q9; exact con_back (by assumption) (by assumption) (by assumption) (by assumption) hl9q9))
  k_with "c.start" => ((unfold Con; k_fill; intro _ _ _ _ _ _ _ _ _ _ _ _ _ _ _ _ _ Bq9 Fq9 Xq9 Nq9 Tq9 _ _ _ hretq9; refine wpAny_call ?_; k_dflt walk_at "c.enter"; clear hretq9 Nq9 Fq9 Bq9 Xq9 Tq9))
  k_with "c.startCls" => ((unfold Con; k_fill; intro _ _ _ _ _ _ _ _ _ _ _ _ _ _ _ _ _ Bq9 Fq9 Xq9 Nq9 Tq9 _ _ _ hretq9; refine wpAny_call ?_; k_dflt walk_at "c.enterCls"; clear hretq9 Nq9 Fq9 Bq9 Xq9 Tq9))
  k_with "c.enterCls" => ((refine' con_cls ?k1q9 ?k2q9 ?k3q9 ?k5q9 ?kAq9 ?kFq9 ?kKq9 ?m1q9 ?m2q9 ?m3q9 ?k6q9 ?k7q9 ?k8q9 ?k9q9 ?kBq9 ?kRq9 ?_ ?c2q9 ?c3q9 ?c4q9 ?c5q9; (case kAq9 => exact rfl); (case kFq9 => exact rfl); (case kKq9 => assumption); (case k1q9 => k_asm); (case k2q9 => k_asm); (case k3q9 => k_asm); (case k5q9 => k_asm); (case m1q9 => k_is); (case m2q9 => k_is); (case m3q9 => k_is); (case k6q9 => k_is); (case k7q9 => k_is); (case k8q9 => ktr_room); (case k9q9 => intro _ _; exact BindsTo.of_eq rfl); (case c5q9 => decide); (case kBq9 => intro _; exact locs rfl); (case c2q9 => exact rfl); (case c3q9 => exact rfl); (case c4q9 => exact rfl); (case kRq9 => exact con_nil (by assumption)); k_whole; intro _ _ _ _ _ _ l0'q9 _ _ _ _ _ l1q9; (try k_lt2 l0'q9); (try (revert l0'q9; intro _)); (try k_lt2 l1q9); (try (revert l1q9; intro _)); (try dsimp only); (try k_fold)))
  k_with "CompSrc" => ((k_here; k_dflt (refine LCg.CompSrc.range (by rfl) (by k_asm) (by k_asm) (by assumption) (by first | decide | rfl) (by first | rfl | decide) (by first | size_fits | exact Nat.le_of_ble_eq_true rfl) ?_; intro _; lcg_lit)))
  k_with "binaryOp Mult str int" => ((k_here; (refine' r_mul ?haq9 ?hbq9 ?_); (case haq9 => ((try simp only [fmod_lit]); omega)); (case hbq9 => ((try simp only [fmod_lit]); omega)); intro _ _))
  k_with "binaryOp Add str str" => ((k_here; (refine' r_add ?haq9 ?hbq9 ?hcq9 ?_); (case haq9 => first | with_reducible exact S_tab | with_reducible exact S_blank | with_reducible rfl); (case hbq9 => first | with_reducible exact S_tab | with_reducible exact S_blank | with_reducible rfl); (case hcq9 => (simp [sp]; omega)); intro _ _))
  k_with "call builtin:str.join" => ((k_here; (first
      | refine' r_join (ls := [(_, _)]) ?hlq9 ?hiq9 ?hwq9 ?_; (case hlq9 => exact News.isList (by k_asm) (by k_mem)); (case hiq9 => exact rfl)
      | refine' r_join (ls := [(_, _), (_, _)]) ?hlq9 ?hiq9 ?hwq9 ?_; (case hlq9 => exact News.isList (by k_asm) (by k_mem)); (case hiq9 => exact rfl)
      | refine' r_join (ls := [(_, _), (_, _), (_, _)]) ?hlq9 ?hiq9 ?hwq9 ?_; (case hlq9 => exact News.isList (by k_asm) (by k_mem)); (case hiq9 => exact rfl)); (case hwq9 => (simp [sp, fmod_lit]; omega)); intro _ _; (try dsimp only)))
  k_with "call type:tuple" => ((k_here; k_dflt (refine' r_tuple ?Fq9 ?Nq9 ?mq9 ?_ ?zq9; (case Fq9 => k_asm); (case Nq9 => k_asm); (case mq9 => k_mem); (case zq9 => (have hc9 := sizeLine_eq; (have hI9 := IntsAre.length (by assumption)); omega)); k_whole); intro _ _ _ _ l1q9; (try k_lt l1q9); (try (revert l1q9; intro _))))
  k_with "call builtin:len" => ((k_here; (with_reducible show wpAny _ _ (call (Value.builtin "len") [Value.ref _]) _ _ _); k_dflt (refine' r_len_tupI ?Nq9 ?mq9 ?iq9 ?fq9 ?_; (case Nq9 => k_asm); (case mq9 => k_mem); (case iq9 => with_reducible assumption); (case fq9 => omega); k_whole); intro _ _))
  k_with "subscriptTail" => ((k_here; (with_reducible show wpAny _ _ (subscriptTail _ _ (Value.ref _) (Value.int _ _)) _ _ _); k_dflt (refine' r_item_tupI ?Nq9 ?mq9 ?iq9 ?aq9 ?bq9 ?cq9 ?_ ?eq9; (case Nq9 => k_asm); (case mq9 => k_mem); (case iq9 => with_reducible assumption); (case aq9 => omega); (case bq9 => omega); (case cq9 => omega); (case eq9 => with_unfolding_all rfl); k_whole); intro _))
  k_with "pyIter ref" => ((k_here; (with_reducible show wpAny _ _ (pyIter (Value.ref _)) (fun it s₂ => LoopAtV _ _ _ _ _ _ _ _ _ it s₂) _ _); refine Hold.of ?_))
  trivial
theorem ws_con (w : World) (mean : ExcName → Option Value) (mg mb : Str → Option Value) (cs : List Nat) (t0 : Tok) (hasc : cs.all (fun n => n == 32 || n == 9) = true) (hlen : cs.length ≤ 100) :
    Con 20 w mean mg mb 83 [.str (S cs) t0] [] (WsPost w cs) := by
  walk_at "c.startCls"
  refine abs1 ?_
  intro X8 hX8
  k_steps
  with_reducible rename Fr _ _ _ _ => lF
  with_reducible rename News _ _ _ _ => lN
  with_unfolding_all refine' ws_loop hasc (by rfl) lF lN (by rfl) (by rfl) (by rfl) (by rfl) ?hR ?turn ?done
  · simp only [AllLt, and_true]; omega
  · intro I i b n nt tb tn tnt l vs ns ep k u oI h tk hk hki iv hlI hRI F' N'
    clear lF lN
    refine abs1 ?_
    intro X9 hX9
    refine wsInv.dest iv ?_
    intro hrun hI hb0 hbi hlen hks hnt0 hnti hn0 hni hic hRl
    k_lt hRl
    replace hlI := neN hlI
    have hfit : ns.length < 2 ^ 62 := by omega
    rcases hk with rfl | rfl
    · k_steps
      all_goals (
        refine hX9 _ _ ?_
        refine' WEnd.intro ?F ?b ?n ?nt ?l ?rest ?N ?lI hRI ?iv
        (case F => k_asm)
        (case b => rfl)
        (case n => rfl)
        (case nt => rfl)
        (case l => rfl)
        (case rest => (intro z h1 h2 h3 h4 h5; simp only [h1, h2, h3, h4, h5, if_false]))
        (case N => (refine' cb_drop ?A ?B; (case A => k_asm); (case B => lcg_sub)))
        (case lI => k_ne)
        (case iv => exact ws_blank iv hki))
    · k_steps
      all_goals (
        refine hX9 _ _ ?_
        refine' WEnd.intro ?F ?b ?n ?nt ?l ?rest ?N ?lI hRI ?iv
        (case F => k_asm)
        (case b => rfl)
        (case n => rfl)
        (case nt => rfl)
        (case l => rfl)
        (case rest => (intro z h1 h2 h3 h4 h5; simp only [h1, h2, h3, h4, h5, if_false]))
        (case N => (refine' cb_drop ?A ?B; (case A => k_asm); (case B => lcg_sub)))
        (case lI => k_ne)
        (case iv => (refine' ws_tab iv hki ?p1 ?p2 ?p3; (case p3 => assumption); (case p2 => first | exact (if_pos (by assumption)).symm | exact (if_neg (by assumption)).symm); (case p1 => (refine ktn_ltOf ?_; simp only [AllLt, and_true]; omega)))))
  · intro b n nt tb tn tnt l vs ns ep u h tk iv F' N'
    clear lF lN
    refine wsInv.dest iv ?_
    intro hrun hI hb0 hbi hlen hks hnt0 hnti hn0 hni hic hRl
    k_lt hRl
    have hfit : ns.length < 2 ^ 62 := by omega
    k_steps
    rw [List.take_length] at hrun
    refine hX8 _ _ ?_
    refine' LeaveC.intro ?tl ?F ?N ⟨rfl, WsPost.intro hrun hI hlen hb0 hbi hnt0 hnti hks⟩
    (case F => k_asm)
    (case N => (refine' cb_drop ?A ?B; (case A => k_asm); (case B => lcg_sub)))
end
section
theorem fdiv_le_self {a b : Int} (ha : 0 ≤ a) (hb : 1 ≤ b) : a.fdiv b ≤ a := by
  rw [Int.fdiv_eq_ediv_of_nonneg _ (by omega)]
  exact Int.ediv_le_self _ ha
def ilRun (sz : Int) (ns : List Int) : Nat → Int
  | 0 => 0
  | i + 1 => ilRun sz ns i + Int.fdiv (sz + (i : Int)) sz * ns.getD (sz + (i : Int)).toNat 0
def ilevel (sz : Int) (c : Int × Int × Int × List Int) : Int := c.1 + sz * (ilRun sz c.2.2.2 ((c.2.2.2.length : Int) - sz).toNat + c.2.2.1)
local macro_rules | `(tactic| k_room) => `(tactic| ktr_room)
theorem rowsA6_0 : True := by
  w_top off
  k_with_none
  k_with "c.enter" => ((first
      | (refine' con_def ?k1q9 ?k2q9 ?k3q9 ?k4q9 ?k5q9 ?kAq9 ?kFq9 ?kKq9 ?k6q9 ?k7q9 ?k8q9 ?k9q9 ?kBq9 ?kRq9 ?_ ?c2q9 ?c3q9 ?c4q9 ?c5q9; (case kAq9 => exact rfl); (case kFq9 => exact rfl); (case kKq9 => assumption); (case k1q9 => k_asm); (case k2q9 => k_asm); (case k3q9 => k_asm); (case k4q9 => k_asm); (case k5q9 => k_asm); (case k6q9 => k_is); (case k7q9 => k_is); (case k8q9 => ktr_room); (case k9q9 => first | exact BindsTo.of_eq rfl | exact binds_K (by k_in) rfl (by k_is) rfl rfl rfl); (case c5q9 => decide); (case kBq9 => exact locs rfl); (case c2q9 => exact rfl); (case c3q9 => exact rfl); (case c4q9 => exact rfl); (case kRq9 => walk_at "c.ret"); k_whole; intro _ _ _ _ _ N'q9 _ _ _ l1q9; (try k_lt l1q9); (try (revert l1q9; intro _)); (try dsimp only); (try k_fold))
      | (refine' con_defC ?k1q9 ?k2q9 ?k3q9 ?k4q9 ?k5q9 ?kAq9 ?kFq9 ?kKq9 ?k6q9 ?k7q9 ?k8q9 ?k9q9 ?kBq9 ?kDq9 ?kRq9 ?_ ?c2q9 ?c3q9 ?c4q9; (case kAq9 => exact rfl); (case kFq9 => exact rfl); (case kKq9 => assumption); (case k1q9 => k_asm); (case k2q9 => k_asm); (case k3q9 => k_asm); (case k4q9 => k_asm); (case k5q9 => k_asm); (case k6q9 => k_is); (case k7q9 => k_is); (case k8q9 => ktr_room); (case k9q9 => first | exact BindsTo.of_eq rfl | exact binds_K (by k_in) rfl (by k_is) rfl rfl rfl); (case kBq9 => exact rfl); (case kDq9 => decide +kernel); (case c2q9 => exact rfl); (case c3q9 => exact rfl); (case c4q9 => exact rfl); (case kRq9 => walk_at "c.ret"); k_whole; intro _ _ _ _ _ _ _ N'q9 Y'q9 _ _ _ l1q9; (try k_lt l1q9); (try (revert l1q9; intro _)); k_cells Y'q9; (try simp only [List.cons_append, List.nil_append] at N'q9); (try dsimp only); (try k_fold))))
  k_with "c.ret" => ((intro _ _ hl9q9; exact con_back (by assumption) (by assumption) (by assumption) (by assumption) hl9q9))
  k_with "c.start" => ((unfold Con; k_fill; intro _ _ _ _ _ _ _ _ _ _ _ _ _ _ _ _ _ Bq9 Fq9 Xq9 Nq9 Tq9 _ _ _ hretq9; refine wpAny_call ?_; k_dflt walk_at "c.enter"; clear hretq9 Nq9 Fq9 Bq9 Xq9 Tq9))
  k_with "c.startCls" => ((unfold Con; k_fill; intro _ _ _ _ _ _ _ _ _ _ _ _ _ _ _ _ _ Bq9 Fq9 Xq9 Nq9 Tq9 _ _ _ hretq9; refine wpAny_call ?_; k_dflt walk_at "c.enterCls"; clear hretq9 Nq9 Fq9 Bq9 Xq9 Tq9))
  k_with "c.enterCls" => ((refine' con_cls ?k1q9 ?k2q9 ?k3q9 ?k5q9 ?kAq9 ?kFq9 ?kKq9 ?m1q9 ?m2q9 ?m3q9 ?k6q9 ?k7q9 ?k8q9 ?k9q9 ?kBq9 ?kRq9 ?_ ?c2q9 ?c3q9 ?c4q9 ?c5q9; (case kAq9 => exact rfl); (case kFq9 => exact rfl); (case kKq9 => assumption); (case k1q9 => k_asm); (case k2q9 => k_asm); (case k3q9 => k_asm); (case k5q9 => k_asm); (case m1q9 => k_is); (case m2q9 => k_is); (case m3q9 => k_is); (case k6q9 => k_is); (case k7q9 => k_is); (case k8q9 => ktr_room); (case k9q9 => intro _ _; exact BindsTo.of_eq rfl); (case c5q9 => decide); (case kBq9 => intro _; exact locs rfl); (case c2q9 => exact rfl); (case c3q9 => exact rfl); (case c4q9 => exact rfl); (case kRq9 => exact con_nil (by assumption)); k_whole; intro _ _ _ _ _ _ l0'q9 _ _ _ _ _ l1q9; (try k_lt2 l0'q9); (try (revert l0'q9; intro _)); (try k_lt2 l1q9); (try (revert l1q9; intro _)); (try dsimp only); (try k_fold)))
  k_with "CompSrc" => ((k_here; k_dflt (refine LCg.CompSrc.range (by rfl) (by k_asm) (by k_asm) (by assumption) (by first | decide | rfl) (by first | rfl | decide) (by first | size_fits | exact Nat.le_of_ble_eq_true rfl) ?_; intro _; lcg_lit)))
  k_with "binaryOp Mult str int" => ((k_here; (refine' r_mul ?haq9 ?hbq9 ?_); (case haq9 => ((try simp only [fmod_lit]); omega)); (case hbq9 => ((try simp only [fmod_lit]); omega)); intro _ _))
  k_with "binaryOp Add str str" => ((k_here; (refine' r_add ?haq9 ?hbq9 ?hcq9 ?_); (case haq9 => first | with_reducible exact S_tab | with_reducible exact S_blank | with_reducible rfl); (case hbq9 => first | with_reducible exact S_tab | with_reducible exact S_blank | with_reducible rfl); (case hcq9 => (simp [sp]; omega)); intro _ _))
  k_with "call builtin:str.join" => ((k_here; (first
      | refine' r_join (ls := [(_, _)]) ?hlq9 ?hiq9 ?hwq9 ?_; (case hlq9 => exact News.isList (by k_asm) (by k_mem)); (case hiq9 => exact rfl)
      | refine' r_join (ls := [(_, _), (_, _)]) ?hlq9 ?hiq9 ?hwq9 ?_; (case hlq9 => exact News.isList (by k_asm) (by k_mem)); (case hiq9 => exact rfl)
      | refine' r_join (ls := [(_, _), (_, _), (_, _)]) ?hlq9 ?hiq9 ?hwq9 ?_; (case hlq9 => exact News.isList (by k_asm) (by k_mem)); (case hiq9 => exact rfl)); (case hwq9 => (simp [sp, fmod_lit]; omega)); intro _ _; (try dsimp only)))
  k_with "call type:tuple" => ((k_here; k_dflt (refine' r_tuple ?Fq9 ?Nq9 ?mq9 ?_ ?zq9; (case Fq9 => k_asm); (case Nq9 => k_asm); (case mq9 => k_mem); (case zq9 => (have hc9 := sizeLine_eq; (have hI9 := IntsAre.length (by assumption)); omega)); k_whole); intro _ _ _ _ l1q9; (try k_lt l1q9); (try (revert l1q9; intro _))))
  k_with "call builtin:len" => ((k_here; (with_reducible show wpAny _ _ (call (Value.builtin "len") [Value.ref _]) _ _ _); k_dflt (refine' r_len_tupI ?Nq9 ?mq9 ?iq9 ?fq9 ?_; (case Nq9 => k_asm); (case mq9 => k_mem); (case iq9 => with_reducible assumption); (case fq9 => omega); k_whole); intro _ _))
  k_with "subscriptTail" => ((k_here; (with_reducible show wpAny _ _ (subscriptTail _ _ (Value.ref _) (Value.int _ _)) _ _ _); k_dflt (refine' r_item_tupI ?Nq9 ?mq9 ?iq9 ?aq9 ?bq9 ?cq9 ?_ ?eq9; (case Nq9 => k_asm); (case mq9 => k_mem); (case iq9 => with_reducible assumption); (case aq9 => omega); (case bq9 => omega); (case cq9 => omega); (case eq9 => with_unfolding_all rfl); k_whole); intro _))
  k_with "pyIter ref" => ((k_here; (with_reducible show wpAny _ _ (pyIter (Value.ref _)) (fun it s₂ => LoopAtV _ _ _ _ _ _ _ _ _ it s₂) _ _); refine Hold.of ?_))
  trivial
theorem il_con (w : World) (mean : ExcName → Option Value) (mg mb : Str → Option Value) (sz b n nt : Int) (t0 t2 t3 tb k1 k2 k3 k4 k5 : Tok) (rv sm : Value) (x d nm ct : Addr) (vs : List Value) (ns : List Int) (hsz : 1 ≤ sz ∧ sz ≤ 4)
    (hI : IntsAre vs ns) (hlen : ns.length ≤ 101) (hb : 0 ≤ b ∧ b ≤ 100) (hnt : 0 ≤ nt ∧ nt ≤ 100) (hks : ∀ k ∈ ns, 0 ≤ k ∧ k ≤ 100) :
    Con 20 w mean mg mb 52 [.ref x, .int sz t0] [(x, instObj 83 d), (d, dictOf [ent w "raw" k1 rv, ent w "n" k2 (.int n t2), ent w "nt" k3 (.int nt t3), ent w "norm" k4 (.ref nm), ent w "is_simple" k5 sm] 5),
      (nm, ({ cls := .type "tuple", data := .seq #[.ref ct, .int b tb] } : Obj)), (ct, ({ cls := .type "tuple", data := .seq vs.toArray } : Obj))] (fun tl r => tl = [] ∧ ∃ tk, r = .int (ilevel sz (b, n, nt, ns)) tk) := by
  have hfit : ns.length < 2 ^ 62 := by omega
  walk_at "c.start"
  refine abs1 ?_
  intro X8 hX8
  k_steps
  k_sweep
  with_reducible rename IsRange _ _ _ _ _ _ _ _ => lR
  with_reducible rename Fr _ _ _ _ => lF
  with_reducible rename News _ _ _ _ => lN
  refine Hold.on ?_
  with_unfolding_all refine' loop_rangeI (Str.ofString "il") (fun i v => v = ilRun sz ns i) (by rfl) lR ?hsm lF lN (by rfl) ?hi ?turn ?done
  · exact small_one (by omega) (by omega) (by omega) (by omega)
  · rfl
  · intro I i v ty u oI h tk hi hv hRI F' N'
    clear lF lN lR
    refine abs1 ?_
    intro X9 hX9
    subst hv
    have hq0 : 0 ≤ (sz + (i : Int)).fdiv sz := Int.fdiv_nonneg (by omega) (by omega)
    have hq1 : (sz + (i : Int)).fdiv sz ≤ sz + (i : Int) := fdiv_le_self (by omega) (by omega)
    have hq : Builtin.Int.intBits ((sz + (i : Int)).fdiv sz) ≤ 64 := intBits_le_64 (by omega) (by omega)
    k_steps
    all_goals (
      refine hX9 _ _ ?_
      refine' IEnd.intro ?F ?y ?rest ?N hRI ?iv
      (case F => k_asm)
      (case y => rfl)
      (case rest => (intro z h1 h2; simp only [h1, h2, if_false]))
      (case N => (refine' cb_drop ?A ?B; (case A => k_asm); (case B => lcg_sub)))
      (case iv => rfl))
  · intro v ty u h tk hv F' N'
    clear lF lN lR
    subst hv
    k_steps
    refine hX8 _ _ ?_
    refine' LeaveC.intro [] ?F ?N ⟨rfl, _, rfl⟩
    (case F => k_asm)
    (case N => (refine' cb_drop ?A ?B; (case A => k_asm); (case B => lcg_sub)))
end
section
theorem rowsA6b_0 : True := by
  w_top off
  k_with_none
  trivial
abbrev cellO : Obj := { cls := .type "cell", data := .cell none }
def cellsLed : Nat → List (Str × NameKind) → List (Addr × Obj)
  | _, [] => []
  | n, (_, kind) :: r => if kind == .cell then (n, cellO) :: cellsLed (n + 1) r else cellsLed n r
theorem cellsLed_get : ∀ (names : List (Str × NameKind)) (h : Heap), ∀ p ∈ cellsLed h.objs.size names, (pushCells h names).get? p.1 = some p.2 ∧ h.objs.size ≤ p.1
  | [], _, _, hp => nomatch hp
  | (_, kind) :: r, h, p, hp => by
    unfold cellsLed at hp
    unfold pushCells
    split at hp
    · rename_i hk
      rw [if_pos hk]
      rcases List.mem_cons.mp hp with rfl | hp
      · exact ⟨pushCells_keeps _ _ _ _ (Heap.get?_push_size _ rfl), Nat.le_refl _⟩
      · rw [← Heap.size_push h cellO] at hp
        obtain ⟨h1, h2⟩ := cellsLed_get r _ p hp
        rw [Heap.size_push] at h2
        exact ⟨h1, Nat.le_of_succ_le h2⟩
    · rename_i hk
      rw [if_neg hk]
      exact cellsLed_get r h p hp
section
variable {prog : Program} {w : World} {A : Around} {E : Value → Shared → Prop} {s : Shared} {h₀ : Heap} {L : Addr} {m : Str → Option Value} {env : Env} {Q : Value → Shared → Prop} {news : List (Addr × Obj)}
theorem compEnv_make {M : Model} {scope : Scope} {cl : List (Str × Addr)} {R : Env → Shared → Prop}
    (h : ∀ cenv : Env, cenv = { scope := scope, locals := s.heap.objs.size, globals := env.globals, cells := cellsFrom (s.heap.objs.size + 1) scope.names cl, qual := env.qual, func := none, code := env.code, frame := env.frame, builtins := env.builtins } →
      R cenv { s with heap := pushCells (s.heap.push { cls := .type "dict", data := .dict #[] }) scope.names }) :
    wpAny M A (newFunctionEnv scope env.globals cl [] env.qual none .none (some env)) R E s := by
  simp only [newFunctionEnv, Option.isSome_some, if_true]
  refine wpAny_bind (wpAny_alloc ?_)
  refine wpAny_bind (wpAny_layCells _ (fun name kind cells => by cases hkc : kind == NameKind.cell <;> simp [hkc]) _ _ _ _ ?_)
  rw [show ({ s with heap := s.heap.push { cls := .type "dict", data := .dict #[] } } : Shared).heap.objs.size = s.heap.objs.size + 1 from Heap.size_push ..]
  simp only [List.forIn_nil]
  exact wpAny_bind (wpAny_pure (wpAny_pure (h _ rfl)))
theorem comp_run {elt target iter : Expr} {ifs : List Expr} {scope : Scope} {cl : List (Str × Addr)} {pos : Pos} {I : Addr} (F : Fr h₀ L s.heap m) (N : News h₀ L s.heap news)
    (hself : ∀ (h : Heap) (Q : Value → Shared → Prop) (E : Value → Shared → Prop), (∀ b o, s.heap.get? b = some o → h.get? b = some o) → Q (.ref I) { s with heap := h } → wpAny (model prog w) A (pyIter (.ref I)) Q E { s with heap := h })
    (h : ∀ D C h₁ oC m₂, D = s.heap.objs.size → (∀ b o, s.heap.get? b = some o → h₁.get? b = some o) → LCg.NsObj oC m₂ → @LT.lt Nat _ D C → (∀ p ∈ news, @LT.lt Nat _ p.1 D) → (∀ p ∈ cellsLed (C + 1) scope.names, @LT.lt Nat _ C p.1) → Fr h₀ L h₁ m → News h₀ L h₁ ((C, oC) :: (D, LCg.lst []) :: (cellsLed (C + 1) scope.names ++ news)) →
      codeAny (model prog w) A (.compLoop (.ListComp elt [⟨target, iter, ifs, 0⟩] scope pos) 0 (.ref I) (.ref D) (compEnvC scope (cellsFrom (C + 1) scope.names cl) C env)) (compPost (model prog w) A E none Q (.ref D) C) { s with heap := h₁ }) :
    wpAny (model prog w) A (newList []) (fun acc s₃ => wpAny (model prog w) A (newFunctionEnv scope env.globals cl [] env.qual none .none (some env)) (fun cenv s₄ =>
      codeAny (model prog w) A (.compStart (.ListComp elt [⟨target, iter, ifs, 0⟩] scope pos) 0 (.ref I) acc { cenv with scope := relabel scope env }) (compPost (model prog w) A E none Q acc cenv.locals) s₄) E s₃) E s := by
  refine wpAny_newObj_type (compEnv_make fun cenv hc => ?_)
  subst hc
  dsimp only
  generalize hH2 : s.heap.push { cls := .type "list", dict := none, data := .seq ([] : List Value).toArray } = H2
  have hC : H2.objs.size = s.heap.objs.size + 1 := by rw [← hH2, Heap.size_push]
  have hH3 : (H2.push { cls := .type "dict", data := .dict #[] }).objs.size = H2.objs.size + 1 := Heap.size_push ..
  have up2 : ∀ b o, s.heap.get? b = some o → H2.get? b = some o := fun b o e => hH2 ▸ Heap.get?_push_of_some _ e
  have up3 : ∀ b o, H2.get? b = some o → (pushCells (H2.push { cls := .type "dict", data := .dict #[] }) scope.names).get? b = some o := fun b o e => pushCells_keeps _ _ b o (Heap.get?_push_of_some _ e)
  have hD : H2.get? s.heap.objs.size = some (LCg.lst []) := hH2 ▸ Heap.get?_push_size _ rfl
  have hns := (Heap.Ns.new H2 (.type "dict")).keeps (pushCells_keeps scope.names _)
  obtain ⟨oC, heC, hoC⟩ := LCg.ns_obj hns
  have fresh₀ : ∀ a, s.heap.objs.size ≤ a → h₀.get? a = none := fun a ha => by
    cases e : h₀.get? a with
    | none => rfl
    | some o' => exact absurd (Heap.lt_size (F.keep a o' e)) (Nat.not_lt.mpr ha)
  have hLlt : L < s.heap.objs.size := F.ns.lt
  have hle : ∀ a, s.heap.objs.size ≤ a → a ≠ L := fun a ha e => absurd hLlt (Nat.not_lt.mpr (e ▸ ha))
  have main := h s.heap.objs.size H2.objs.size (pushCells (H2.push { cls := .type "dict", data := .dict #[] }) scope.names) oC _ rfl (fun b o e => up3 b o (up2 b o e)) hoC (by rw [hC]; exact Nat.lt_succ_self _) (fun p hp => Heap.lt_size (N p hp).1)
    (fun p hp => by rw [← hH3] at hp; exact Nat.lt_of_lt_of_le (by rw [hH3]; exact Nat.lt_succ_self _) (cellsLed_get _ _ p hp).2) (F.keeps fun b o e => up3 b o (up2 b o e)) (fun p hp => by
      rcases List.mem_cons.mp hp with rfl | hp
      · exact ⟨heC, hle _ (by rw [hC]; exact Nat.le_succ _), fresh₀ _ (by rw [hC]; exact Nat.le_succ _)⟩
      rcases List.mem_cons.mp hp with rfl | hp
      · exact ⟨up3 _ _ hD, hle _ (Nat.le_refl _), fresh₀ _ (Nat.le_refl _)⟩
      rcases List.mem_append.mp hp with hp | hp
      · rw [← hH3] at hp
        obtain ⟨z1, z2⟩ := cellsLed_get _ _ p hp
        have z3 : s.heap.objs.size ≤ p.1 := Nat.le_trans (by rw [hH3, hC]; exact Nat.le_succ_of_le (Nat.le_succ _)) z2
        exact ⟨z1, hle _ z3, fresh₀ _ z3⟩
      · exact ⟨up3 _ _ (up2 _ _ (N p hp).1), (N p hp).2⟩)
  exact codeAny_compStart_list main (hself _ _ _ (fun b o e => up3 b o (up2 b o e)) main)
def CDone {σ : Type} (h₀ : Heap) (L : Addr) (m : Str → Option Value) (s : Shared) (G : Array GenState → Prop) (C D : Addr) (ysOf : σ → List Value) (Q : Value → Shared → Prop) (c : σ) (s₁ : Shared) : Prop :=
  ∃ h' tk gs oC m₂ nw, s₁ = { s with heap := h', toks := tk, gens := gs } ∧ LCg.NsObj oC m₂ ∧ G gs ∧ Fr h₀ L h' m ∧ News h₀ L h' ((C, oC) :: (D, LCg.lst (ysOf c)) :: nw) ∧ (∀ p ∈ nw, @Ne Nat p.1 C) ∧
    ∀ h'', Fr h₀ L h'' m → News h₀ L h'' ((D, LCg.lst (ysOf c)) :: nw) → Q (.ref D) { s with heap := h'', toks := tk, gens := gs }
def CTurn {σ : Type} (h₀ : Heap) (L : Addr) (m : Str → Option Value) (s : Shared) (G : Array GenState → Prop) (C D : Addr) (Led : σ → List (Addr × Obj)) (ysOf : σ → List Value) (J : σ → Prop) (μ : σ → Nat) (c : σ) (y : Option Value) (s₁ : Shared) : Prop :=
  ∃ c' h' tk gs oC m₂, s₁ = { s with heap := h', toks := tk, gens := gs } ∧ LCg.NsObj oC m₂ ∧ G gs ∧ Fr h₀ L h' m ∧ News h₀ L h' ((C, oC) :: (D, LCg.lst (ysOf c)) :: Led c') ∧ (∀ p ∈ Led c', @Ne Nat p.1 C ∧ @Ne Nat p.1 D) ∧ ysOf c' = ysOf c ++ y.toList ∧ (ysOf c').length ≤ 1000 ∧ J c' ∧ μ c' < μ c
theorem comp_loop {σ : Type} (G : Array GenState → Prop) (hG : G s.gens) {elt target iter : Expr} {ifs : List Expr} {scope : Scope} {pos : Pos} {it : Value} {C D : Addr} {cenv : Env} (Led : σ → List (Addr × Obj)) (ysOf : σ → List Value) (J : σ → Prop) (μ : σ → Nat) (c₀ : σ)
    {oC : Obj} {m₂ : Str → Option Value} (hC : LCg.NsObj oC m₂) (hCD : @Ne Nat C D) (F : Fr h₀ L s.heap m) (N : News h₀ L s.heap ((C, oC) :: (D, LCg.lst (ysOf c₀)) :: Led c₀)) (hoff : ∀ p ∈ Led c₀, @Ne Nat p.1 C ∧ @Ne Nat p.1 D) (hl : (ysOf c₀).length ≤ 1000) (hi : J c₀)
    (turn : ∀ c h tk gs oC m₂ (E' : Value → Shared → Prop), J c → LCg.NsObj oC m₂ → G gs → Fr h₀ L h m → News h₀ L h ((C, oC) :: (D, LCg.lst (ysOf c)) :: Led c) → (∀ p ∈ Led c, @Ne Nat p.1 C ∧ @Ne Nat p.1 D) →
      wpAny (model prog w) A (pyNext it) (fun r s₁ => match r with
        | none => CDone h₀ L m s G C D ysOf Q c s₁
        | some v => wpAny (model prog w) A (assign target cenv v) (fun _ s₂ =>
          wpAny (model prog w) A (forIn ifs true fun c r => if r = true then do let ok ← isTrue c cenv (eval c cenv); pure (ForInStep.yield ok) else pure (ForInStep.yield r)) (fun ok s₃ =>
            if ok = true then wpAny (model prog w) A (eval elt cenv) (fun y s₄ => CTurn h₀ L m s G C D Led ysOf J μ c (some y) s₄) E' s₃ else CTurn h₀ L m s G C D Led ysOf J μ c none s₃) E' s₂) E' s₁) E' { s with heap := h, toks := tk, gens := gs })
    (ht : ∀ v, letOwnedTupleGo target it v = pure () := by intro _; rfl) :
    codeAny (model prog w) A (.compLoop (.ListComp elt [⟨target, iter, ifs, 0⟩] scope pos) 0 it (.ref D) cenv) (compPost (model prog w) A E none Q (.ref D) C) s := by
  refine codeAny_compLoop_tests (fun k s' => ∃ c h tk gs oC m₂, s' = { s with heap := h, toks := tk, gens := gs } ∧ μ c = k ∧ J c ∧ LCg.NsObj oC m₂ ∧ G gs ∧ Fr h₀ L h m ∧ News h₀ L h ((C, oC) :: (D, LCg.lst (ysOf c)) :: Led c) ∧ (∀ p ∈ Led c, @Ne Nat p.1 C ∧ @Ne Nat p.1 D) ∧ (ysOf c).length ≤ 1000) ?_ (μ c₀)
    ⟨c₀, s.heap, s.toks, s.gens, oC, m₂, rfl, rfl, hi, hC, hG, F, N, hoff, hl⟩ ht
  rintro k s' ⟨c, h, tk, gs, oC, m₂, rfl, rfl, hj, hC', hg, F', N', hof', hl'⟩
  refine wpAny_mono (turn c h tk gs oC m₂ _ hj hC' hg F' N' hof') (fun r s₁ h₁ => ?_) fun _ _ e => e
  cases r with
  | none =>
    obtain ⟨h', tk', gs', oC', m', nw, rfl, hC₁, hg₁, F₁, N₁, hof₁, fin⟩ := h₁
    have zC := N₁ _ List.mem_cons_self
    refine ⟨m', hC₁.ns zC.1, fun h'' hs => fin h'' (F₁.change hs zC.2.1 zC.2.2) (fun p hp => ?_)⟩
    refine ⟨hs.extBut _ _ ?_ (N₁ p (List.mem_cons_of_mem _ hp)).1, (N₁ p (List.mem_cons_of_mem _ hp)).2⟩
    rcases List.mem_cons.mp hp with rfl | hp
    · exact Ne.symm hCD
    · exact hof₁ p hp
  | some v =>
    refine wpAny_mono h₁ (fun _ s₂ h₂ => wpAny_mono h₂ (fun ok s₃ h₃ => ?_) fun _ _ e => e) fun _ _ e => e
    cases ok with
    | false =>
      simp only [Bool.false_eq_true, if_false] at h₃ ⊢
      obtain ⟨c', h', tk', gs', oC', m', rfl, hC₁, hg₁, F₁, N₁, hof₁, hy, hl₁, hj₁, hμ⟩ := h₃
      simp only [Option.toList, List.append_nil] at hy
      exact ⟨μ c', hμ, c', h', tk', gs', oC', m', rfl, rfl, hj₁, hC₁, hg₁, F₁, hy ▸ N₁, hof₁, hl₁⟩
    | true =>
      simp only [if_true] at h₃ ⊢
      refine wpAny_mono h₃ (fun y s₄ h₄ => ?_) fun _ _ e => e
      obtain ⟨c', h', tk', gs', oC', m', rfl, hC₁, hg₁, F₁, N₁, hof₁, hy, hl₁, hj₁, hμ⟩ := h₄
      have zC := N₁ _ List.mem_cons_self
      have zD := N₁ _ (List.mem_cons_of_mem _ List.mem_cons_self)
      refine append_at (hsz := by show (ysOf c).toArray.size ≤ sizeLine; rw [List.size_toArray, sizeLine_eq]; rw [hy] at hl₁; simp at hl₁; omega) zD.1 fun h₅ hs₅ hD₅ => ?_
      refine ⟨μ c', hμ, c', h₅, tk', gs', oC', m', rfl, rfl, hj₁, hC₁, hg₁, F₁.change hs₅ zD.2.1 zD.2.2, fun p hp => ?_, hof₁, hl₁⟩
      rcases List.mem_cons.mp hp with rfl | hp
      · exact ⟨hs₅.extBut _ _ hCD zC.1, zC.2⟩
      rcases List.mem_cons.mp hp with rfl | hp
      · rw [hy]
        exact ⟨hD₅.trans (congrArg some (LCg.lst_snoc (ysOf c) y)), zD.2⟩
      · have z := N₁ p (List.mem_cons_of_mem _ (List.mem_cons_of_mem _ hp))
        exact ⟨hs₅.extBut _ _ (hof₁ p hp).2 z.1, z.2⟩
/-- a range's iterator -/
abbrev rIt (x left : Int) : Obj := { cls := .type "range_iterator", dict := none, data := .fields #[rawInt x, rawInt left, rawInt 1], slots := #[] }
/-- what a turn of a comp over a range leaves -/
def RTurn {σ : Type} (h₀ : Heap) (L : Addr) (m : Str → Option Value) (s : Shared) (G : Array GenState → Prop) (I C D : Addr) (oI : Obj) (Led : σ → List (Addr × Obj)) (ysOf : σ → List Value) (J : σ → Prop) (c : σ) (y : Option Value) (s₁ : Shared) : Prop :=
  ∃ c' h' tk gs oC m₂, s₁ = { s with heap := h', toks := tk, gens := gs } ∧ LCg.NsObj oC m₂ ∧ G gs ∧ Fr h₀ L h' m ∧ News h₀ L h' ((I, oI) :: (C, oC) :: (D, LCg.lst (ysOf c)) :: Led c') ∧ (∀ p ∈ Led c', @Ne Nat p.1 C ∧ @Ne Nat p.1 D ∧ @Ne Nat p.1 I) ∧ ysOf c' = ysOf c ++ y.toList ∧ J c'
/-- the comp's loop over a range -/
theorem comp_range {σ : Type} (G : Array GenState → Prop) (hG : G s.gens) {elt target iter : Expr} {ifs : List Expr} {scope : Scope} {pos : Pos} {I C D : Addr} {a : Int} {n : Nat} {cenv : Env} (Led : σ → List (Addr × Obj)) (ysOf : σ → List Value) (J : Nat → σ → Prop) (c₀ : σ)
    (hh : A.handled = none) (hIC : @Ne Nat I C) (hID : @Ne Nat I D)
    {oC : Obj} {m₂ : Str → Option Value} (hC : LCg.NsObj oC m₂) (hCD : @Ne Nat C D) (F : Fr h₀ L s.heap m) (N : News h₀ L s.heap ((I, rIt a n) :: (C, oC) :: (D, LCg.lst (ysOf c₀)) :: Led c₀)) (hoff : ∀ p ∈ Led c₀, @Ne Nat p.1 C ∧ @Ne Nat p.1 D ∧ @Ne Nat p.1 I) (hl : (ysOf c₀).length + n ≤ 1000) (hi : J 0 c₀)
    (turn : ∀ i c h tk gs oI oC m₂ u (E' : Value → Shared → Prop), i < n → J i c → LCg.NsObj oC m₂ → G gs → Fr h₀ L h m → News h₀ L h ((I, oI) :: (C, oC) :: (D, LCg.lst (ysOf c)) :: Led c) → (∀ p ∈ Led c, @Ne Nat p.1 C ∧ @Ne Nat p.1 D ∧ @Ne Nat p.1 I) →
      wpAny (model prog w) A (assign target cenv (.int (a + (i : Int)) u)) (fun _ s₂ =>
          wpAny (model prog w) A (forIn ifs true fun c r => if r = true then do let ok ← isTrue c cenv (eval c cenv); pure (ForInStep.yield ok) else pure (ForInStep.yield r)) (fun ok s₃ =>
            if ok = true then wpAny (model prog w) A (eval elt cenv) (fun y s₄ => RTurn h₀ L m s G I C D oI Led ysOf (J (i + 1)) c (some y) s₄) E' s₃
            else RTurn h₀ L m s G I C D oI Led ysOf (J (i + 1)) c none s₃) E' s₂) E' { s with heap := h, toks := tk, gens := gs })
    (done : ∀ c h tk gs, J n c → G gs → Fr h₀ L h m → News h₀ L h ((D, LCg.lst (ysOf c)) :: Led c) → (∀ p ∈ Led c, @Ne Nat p.1 D) → Q (.ref D) { s with heap := h, toks := tk, gens := gs })
    (ht : ∀ it v, letOwnedTupleGo target it v = pure () := by intro _ _; rfl) :
    codeAny (model prog w) A (.compLoop (.ListComp elt [⟨target, iter, ifs, 0⟩] scope pos) 0 (.ref I) (.ref D) cenv) (compPost (model prog w) A E none Q (.ref D) C) s := by
  have sw : ∀ {h : Heap} {x1 x2 x3 : Addr × Obj} {l : List (Addr × Obj)}, News h₀ L h (x1 :: x2 :: x3 :: l) → News h₀ L h (x2 :: x3 :: x1 :: l) := fun N p hp => N p (by
    simp only [List.mem_cons] at hp ⊢
    rcases hp with h | h | h | h
    · exact .inr (.inl h)
    · exact .inr (.inr (.inl h))
    · exact .inl h
    · exact .inr (.inr (.inr h)))
  have sw' : ∀ {h : Heap} {x1 x2 x3 : Addr × Obj} {l : List (Addr × Obj)}, News h₀ L h (x2 :: x3 :: x1 :: l) → News h₀ L h (x1 :: x2 :: x3 :: l) := fun N => sw (sw N)
  refine comp_loop (σ := Nat × σ) G hG (fun c => (I, rIt (a + (c.1 : Int)) ((n : Int) - (c.1 : Int))) :: Led c.2) (fun c => ysOf c.2) (fun c => c.1 ≤ n ∧ (∀ p ∈ Led c.2, @Ne Nat p.1 I) ∧ (ysOf c.2).length + (n - c.1) ≤ 1000 ∧ J c.1 c.2) (fun c => n - c.1) (0, c₀) hC hCD F ?_ ?_ (by show (ysOf c₀).length ≤ 1000; omega) ⟨Nat.zero_le _, (fun p hp => (hoff p hp).2.2), (by show (ysOf c₀).length + (n - 0) ≤ 1000; omega), hi⟩ ?_ (fun v => ht _ v)
  · refine sw ?_
    show News h₀ L s.heap ((I, rIt (a + ((0 : Nat) : Int)) ((n : Int) - ((0 : Nat) : Int))) :: _)
    rw [show a + ((0 : Nat) : Int) = a by omega, show (n : Int) - ((0 : Nat) : Int) = n by omega]
    exact N
  · intro p hp
    rcases List.mem_cons.mp hp with rfl | hp
    · exact ⟨hIC, hID⟩
    · exact ⟨(hoff p hp).1, (hoff p hp).2.1⟩
  · rintro ⟨i, c⟩ h tk gs oC' m' E' ⟨hin, hoI, hl', hj⟩ hC' hg F' N' hof'
    dsimp only at hin hoI hl' hj N' hof' ⊢
    have zI := N' (I, _) (List.mem_cons_of_mem _ (List.mem_cons_of_mem _ List.mem_cons_self))
    have hof2 : ∀ p ∈ Led c, @Ne Nat p.1 C ∧ @Ne Nat p.1 D ∧ @Ne Nat p.1 I := fun p hp => ⟨(hof' p (List.mem_cons_of_mem _ hp)).1, (hof' p (List.mem_cons_of_mem _ hp)).2, hoI p hp⟩
    by_cases hlt : i < n
    · refine wpAny_pyNext_range_item zI.1 (by omega) fun h' hit' hs' => ?_
      have F₁ := F'.change hs' zI.2.1 zI.2.2
      have N₁ : News h₀ L h' ((I, rIt (a + ((i + 1 : Nat) : Int)) ((n : Int) - ((i + 1 : Nat) : Int))) :: (C, oC') :: (D, LCg.lst (ysOf c)) :: Led c) := fun p hp => by
        rcases List.mem_cons.mp hp with rfl | hp
        · rw [show a + ((i + 1 : Nat) : Int) = a + (i : Int) + 1 by push_cast; omega, show (n : Int) - ((i + 1 : Nat) : Int) = (n : Int) - (i : Int) - 1 by push_cast; omega]
          exact ⟨hit', zI.2⟩
        · have z := sw' N' p (List.mem_cons_of_mem _ hp)
          refine ⟨hs'.extBut _ _ ?_ z.1, z.2⟩
          rcases List.mem_cons.mp hp with rfl | hp
          · exact Ne.symm hIC
          rcases List.mem_cons.mp hp with rfl | hp
          · exact Ne.symm hID
          · exact hoI p hp
      have fin : ∀ y s₁, RTurn h₀ L m s G I C D (rIt (a + ((i + 1 : Nat) : Int)) ((n : Int) - ((i + 1 : Nat) : Int))) Led ysOf (J (i + 1)) c y s₁ → CTurn h₀ L m s G C D (fun c : Nat × σ => (I, rIt (a + (c.1 : Int)) ((n : Int) - (c.1 : Int))) :: Led c.2) (fun c => ysOf c.2) (fun c => c.1 ≤ n ∧ (∀ p ∈ Led c.2, @Ne Nat p.1 I) ∧ (ysOf c.2).length + (n - c.1) ≤ 1000 ∧ J c.1 c.2) (fun c => n - c.1) (i, c) y s₁ := by
        rintro y s₁ ⟨c', h'', tk'', gs'', oC'', m'', rfl, hC₂, hg₂, F₂, N₂, hof₂, hy, hj₂⟩
        have hyl : (ysOf c').length ≤ (ysOf c).length + 1 := by
          rw [hy, List.length_append]
          cases y <;> simp
        refine ⟨(i + 1, c'), h'', tk'', gs'', oC'', m'', rfl, hC₂, hg₂, F₂, sw N₂, fun p hp => ?_, hy, (by show (ysOf c').length ≤ 1000; omega), ⟨hlt, (fun p hp => (hof₂ p hp).2.2), (by show (ysOf c').length + (n - (i + 1)) ≤ 1000; omega), hj₂⟩, (by show n - (i + 1) < n - i; omega)⟩
        rcases List.mem_cons.mp hp with rfl | hp
        · exact ⟨hIC, hID⟩
        · exact ⟨(hof₂ p hp).1, (hof₂ p hp).2.1⟩
      refine wpAny_mono (turn i c h' _ gs _ oC' m' _ E' hlt hj hC' hg F₁ N₁ hof2) (fun _ s₂ h₂ => wpAny_mono h₂ (fun ok s₃ h₃ => ?_) fun _ _ e => e) fun _ _ e => e
      cases ok with
      | true =>
        simp only [if_true] at h₃ ⊢
        exact wpAny_mono h₃ (fun y s₄ h₄ => fin _ _ h₄) fun _ _ e => e
      | false =>
        simp only [Bool.false_eq_true, if_false] at h₃ ⊢
        exact fin _ _ h₃
    · obtain rfl : i = n := by omega
      refine wpAny_pyNext_range_end hh zI.1 (by omega) fun h' he' => ?_
      refine ⟨h', tk, gs, oC', m', Led c, rfl, hC', hg, ⟨F'.ns.at' fun o e => he' _ o (Ne.symm zI.2.1) e, fun b o e => he' b o (fun q => by rw [q, zI.2.2] at e; cases e) (F'.keep b o e), F'.above⟩, fun p hp => ?_, fun p hp => (hof2 p hp).1, fun h'' F'' N'' => done c h'' tk gs hj hg F'' N'' fun p hp => (hof2 p hp).2.1⟩
      have hp' : p ∈ (C, oC') :: (D, LCg.lst (ysOf c)) :: (I, rIt (a + (i : Int)) ((i : Int) - (i : Int))) :: Led c := by
        simp only [List.mem_cons] at hp ⊢
        rcases hp with h | h | h
        · exact .inl h
        · exact .inr (.inl h)
        · exact .inr (.inr (.inr h))
      have z := N' p hp'
      refine ⟨he' _ _ ?_ z.1, z.2⟩
      rcases List.mem_cons.mp hp with rfl | hp
      · exact Ne.symm hIC
      rcases List.mem_cons.mp hp with rfl | hp
      · exact Ne.symm hID
      · exact hoI p hp
theorem ListComp_X {elt target iter : Expr} {ifs : List Expr} {scope : Scope} {cl : List (Str × Addr)} {pos : Pos}
    (hclos : closureFor scope env = pure cl) (hkind : scope.kind = .function) (hnames : ∀ y ∈ scope.names, y.2 = .local → scope.names.lookup y.1 = some .local)
    (h : wpAny (model prog w) A (eval iter env) (fun xv s₁ => wpAny (model prog w) A (pyIter xv) (fun it s₂ => wpAny (model prog w) A (newList []) (fun acc s₃ => wpAny (model prog w) A (newFunctionEnv scope env.globals cl [] env.qual none .none (some env)) (fun cenv s₄ =>
      codeAny (model prog w) A (.compStart (.ListComp elt [⟨target, iter, ifs, 0⟩] scope pos) 0 it acc { cenv with scope := relabel scope env }) (compPost (model prog w) A E none Q acc cenv.locals) s₄) E s₃) E s₂) E s₁) E s)
    (hs : ∀ x, foldedSetIterable iter env x = pure x) :
    wpAny (model prog w) A (eval (.ListComp elt [⟨target, iter, ifs, 0⟩] scope pos) env) Q E s := by
  rw [eval_ListComp]
  exact wpAny_comprehension_free (use := none) rfl hs hclos hkind hnames h
theorem listcomp_range {σ : Type} (G : Array GenState → Prop) (hG : G s.gens) {elt target iter : Expr} {ifs : List Expr} {scope : Scope} {cl : List (Str × Addr)} {pos : Pos} {r : Addr} {a b : Int} {t₀ u₀ v₀ : Tok} (Led : Addr → σ → List (Addr × Obj)) (ysOf : σ → List Value) (J : Addr → Nat → σ → Prop) (c₀ : Addr → σ)
    (hh : A.handled = none) (hr : IsRange s.heap r a b 1 t₀ u₀ v₀) (hsmall : Builtin.Range.small a b 1 = true) (hn : (b - a).toNat ≤ 1000) (F : Fr h₀ L s.heap m) (N : News h₀ L s.heap news)
    (hLed : ∀ C, Led C (c₀ C) = cellsLed (C + 1) scope.names ++ news) (hy : ∀ C, ysOf (c₀ C) = []) (hi : ∀ C, J C 0 (c₀ C))
    (turn : ∀ I C D, (∀ p ∈ news, @LT.lt Nat _ p.1 I) → @LT.lt Nat _ I D → @LT.lt Nat _ D C → ∀ i c h tk gs oI oC m₂ u (E' : Value → Shared → Prop), i < (b - a).toNat → J C i c → LCg.NsObj oC m₂ → G gs → Fr h₀ L h m → News h₀ L h ((I, oI) :: (C, oC) :: (D, LCg.lst (ysOf c)) :: Led C c) → (∀ p ∈ Led C c, @Ne Nat p.1 C ∧ @Ne Nat p.1 D ∧ @Ne Nat p.1 I) →
      wpAny (model prog w) A (assign target (compEnvC scope (cellsFrom (C + 1) scope.names cl) C env) (.int (a + (i : Int)) u)) (fun _ s₂ =>
          wpAny (model prog w) A (forIn ifs true fun c r => if r = true then do let ok ← isTrue c (compEnvC scope (cellsFrom (C + 1) scope.names cl) C env) (eval c (compEnvC scope (cellsFrom (C + 1) scope.names cl) C env)); pure (ForInStep.yield ok) else pure (ForInStep.yield r)) (fun ok s₃ =>
            if ok = true then wpAny (model prog w) A (eval elt (compEnvC scope (cellsFrom (C + 1) scope.names cl) C env)) (fun y s₄ => RTurn h₀ L m s G I C D oI (Led C) ysOf (J C (i + 1)) c (some y) s₄) E' s₃
            else RTurn h₀ L m s G I C D oI (Led C) ysOf (J C (i + 1)) c none s₃) E' s₂) E' { s with heap := h, toks := tk, gens := gs })
    (done : ∀ C D c h tk gs, J C (b - a).toNat c → (∀ p ∈ news, @LT.lt Nat _ p.1 D) → G gs → Fr h₀ L h m → News h₀ L h ((D, LCg.lst (ysOf c)) :: Led C c) → (∀ p ∈ Led C c, @Ne Nat p.1 D) → Q (.ref D) { s with heap := h, toks := tk, gens := gs })
    (ht : ∀ it v, letOwnedTupleGo target it v = pure () := by intro _ _; rfl) :
    wpAny (model prog w) A (pyIter (.ref r)) (fun it s₂ => wpAny (model prog w) A (newList []) (fun acc s₃ => wpAny (model prog w) A (newFunctionEnv scope env.globals cl [] env.qual none .none (some env)) (fun cenv s₄ =>
      codeAny (model prog w) A (.compStart (.ListComp elt [⟨target, iter, ifs, 0⟩] scope pos) 0 it acc { cenv with scope := relabel scope env }) (compPost (model prog w) A E none Q acc cenv.locals) s₄) E s₃) E s₂) E s := by
  refine wpAny_pyIter_range hr hsmall ?_
  have hlt : ∀ p ∈ news, @LT.lt Nat _ p.1 s.heap.objs.size := fun p hp => Heap.lt_size (N p hp).1
  have hst : (s.heap.push (rIt a (b - a).toNat)).get? s.heap.objs.size = some (rIt a (b - a).toNat) := Heap.get?_push_size _ rfl
  rw [rangeSize_nat a b]
  have N1 := N.push F (rIt a (b - a).toNat)
  refine comp_run (I := s.heap.objs.size) (F.push _) N1 (fun h Q E hk q => wpAny_pyIter_rangeiter (hk _ _ hst) q) fun D C h₁ oC m₂ _ _ hC hDC hnD hcC F₁ N₁ => ?_
  have hID : @LT.lt Nat _ s.heap.objs.size D := hnD _ List.mem_cons_self
  have hx : ∀ p ∈ Led C (c₀ C), @Ne Nat p.1 C ∧ @Ne Nat p.1 D ∧ @Ne Nat p.1 s.heap.objs.size := fun p hp => by
    rw [hLed] at hp
    rcases List.mem_append.mp hp with hp | hp
    · have h1 := hcC p hp
      exact ⟨Ne.symm (Nat.ne_of_lt h1), Ne.symm (Nat.ne_of_lt (Nat.lt_trans hDC h1)), Ne.symm (Nat.ne_of_lt (Nat.lt_trans hID (Nat.lt_trans hDC h1)))⟩
    · have h1 := hlt p hp
      exact ⟨Nat.ne_of_lt (Nat.lt_trans h1 (Nat.lt_trans hID hDC)), Nat.ne_of_lt (Nat.lt_trans h1 hID), Nat.ne_of_lt h1⟩
  have res := comp_range G hG (Q := Q) (E := E) (s := { s with heap := h₁ }) (elt := elt) (target := target) (iter := iter) (ifs := ifs) (scope := scope) (pos := pos) (cenv := compEnvC scope (cellsFrom (C + 1) scope.names cl) C env) (n := (b - a).toNat) (a := a) (Led C) ysOf (J C) (c₀ C) hh (Nat.ne_of_lt (Nat.lt_trans hID hDC)) (Nat.ne_of_lt hID) hC (Ne.symm (Nat.ne_of_lt hDC)) F₁ (fun p hp => by
    rw [hy, hLed] at hp
    simp only [List.mem_cons, List.mem_append] at hp
    refine N₁ p ?_
    simp only [List.mem_cons, List.mem_append]
    rcases hp with h | h | h | h | h
    · exact .inr (.inr (.inr (.inl h)))
    · exact .inl h
    · exact .inr (.inl h)
    · exact .inr (.inr (.inl h))
    · exact .inr (.inr (.inr (.inr h)))) hx (by rw [hy]; simpa using hn) (hi C) (turn s.heap.objs.size C D hlt hID hDC) (fun c h tk gs hj hg F' N' ho => done C D c h tk gs hj (fun p hp => Nat.lt_trans (hlt p hp) hID) hg F' N' ho) ht
  exact res
/-- what a turn of a comp over a range whose name is a cell leaves -/
def CellTurn (h₀ : Heap) (L : Addr) (m : Str → Option Value) (s : Shared) (I C D : Addr) (oI : Obj) (ys : List Value) (news : List (Addr × Obj)) (J : List Value → Prop) (y : Option Value) (s₄ : Shared) : Prop :=
  ∃ h' tk o' oC' m', s₄ = { s with heap := h', toks := tk } ∧ LCg.NsObj oC' m' ∧ Fr h₀ L h' m ∧ News h₀ L h' ((C + 1, o') :: (I, oI) :: (C, oC') :: (D, LCg.lst ys) :: news) ∧ (∃ vv, o'.data = .cell vv) ∧ J (ys ++ y.toList)
/-- a comp over a range whose name is a cell -/
theorem listcomp_cell {elt target iter : Expr} {ifs : List Expr} {scope : Scope} {cl : List (Str × Addr)} {pos : Pos} {r : Addr} {a b : Int} {t₀ u₀ v₀ : Tok} (J : Nat → List Value → Prop)
    (hh : A.handled = none) (hr : IsRange s.heap r a b 1 t₀ u₀ v₀) (hsmall : Builtin.Range.small a b 1 = true) (hn : (b - a).toNat ≤ 1000) (F : Fr h₀ L s.heap m) (N : News h₀ L s.heap news)
    (hcells : ∀ n, cellsLed n scope.names = [(n, cellO)]) (hi : J 0 [])
    (turn : ∀ I C D, (∀ p ∈ news, @LT.lt Nat _ p.1 I) → @LT.lt Nat _ I D → @LT.lt Nat _ D C → ∀ i ys o vv h tk oI oC m₂ u (E' : Value → Shared → Prop), i < (b - a).toNat → J i ys → o.data = .cell vv → LCg.NsObj oC m₂ → Fr h₀ L h m → News h₀ L h ((C + 1, o) :: (I, oI) :: (C, oC) :: (D, LCg.lst ys) :: news) →
      wpAny (model prog w) A (assign target (compEnvC scope (cellsFrom (C + 1) scope.names cl) C env) (.int (a + (i : Int)) u)) (fun _ s₂ =>
          wpAny (model prog w) A (forIn ifs true fun c r => if r = true then do let ok ← isTrue c (compEnvC scope (cellsFrom (C + 1) scope.names cl) C env) (eval c (compEnvC scope (cellsFrom (C + 1) scope.names cl) C env)); pure (ForInStep.yield ok) else pure (ForInStep.yield r)) (fun ok s₃ =>
            if ok = true then wpAny (model prog w) A (eval elt (compEnvC scope (cellsFrom (C + 1) scope.names cl) C env)) (fun y s₄ => CellTurn h₀ L m s I C D oI ys news (J (i + 1)) (some y) s₄) E' s₃
            else CellTurn h₀ L m s I C D oI ys news (J (i + 1)) none s₃) E' s₂) E' { s with heap := h, toks := tk })
    (done : ∀ D ys h tk, J (b - a).toNat ys → (∀ p ∈ news, @LT.lt Nat _ p.1 D) → Fr h₀ L h m → News h₀ L h ((D, LCg.lst ys) :: news) → Q (.ref D) { s with heap := h, toks := tk })
    (ht : ∀ it v, letOwnedTupleGo target it v = pure () := by intro _ _; rfl) :
    wpAny (model prog w) A (pyIter (.ref r)) (fun it s₂ => wpAny (model prog w) A (newList []) (fun acc s₃ => wpAny (model prog w) A (newFunctionEnv scope env.globals cl [] env.qual none .none (some env)) (fun cenv s₄ =>
      codeAny (model prog w) A (.compStart (.ListComp elt [⟨target, iter, ifs, 0⟩] scope pos) 0 it acc { cenv with scope := relabel scope env }) (compPost (model prog w) A E none Q acc cenv.locals) s₄) E s₃) E s₂) E s := by
  have sw : ∀ {h : Heap} {x1 x2 x3 x4 : Addr × Obj}, News h₀ L h (x1 :: x2 :: x3 :: x4 :: news) → News h₀ L h (x2 :: x3 :: x4 :: x1 :: news) := fun N p hp => N p (by
    simp only [List.mem_cons] at hp ⊢
    rcases hp with h | h | h | h | h
    · exact .inr (.inl h)
    · exact .inr (.inr (.inl h))
    · exact .inr (.inr (.inr (.inl h)))
    · exact .inl h
    · exact .inr (.inr (.inr (.inr h))))
  have sw' : ∀ {h : Heap} {x1 x2 x3 x4 : Addr × Obj}, News h₀ L h (x2 :: x3 :: x4 :: x1 :: news) → News h₀ L h (x1 :: x2 :: x3 :: x4 :: news) := fun N => sw (sw (sw N))
  refine listcomp_range (· = s.gens) rfl (fun C (c : List Value × Obj) => (C + 1, c.2) :: news) (fun c => c.1) (fun C i c => J i c.1 ∧ ∃ vv, c.2.data = .cell vv) (fun C => ([], cellO)) hh hr hsmall hn F N (fun C => by rw [hcells]; rfl) (fun C => rfl) (fun C => ⟨hi, _, rfl⟩) ?_ ?_ ht
  · rintro I C D hnI hID hDC i ⟨ys, o⟩ h tk gs oI oC m₂ u E' hin ⟨hj, vv, ho⟩ hC rfl F' N' hof
    have off : ∀ p ∈ news, @Ne Nat p.1 C ∧ @Ne Nat p.1 D ∧ @Ne Nat p.1 I := fun p hp => hof p (List.mem_cons_of_mem _ hp)
    have offC := hof (C + 1, o) List.mem_cons_self
    have fin : ∀ y s₄, CellTurn h₀ L m s I C D oI ys news (J (i + 1)) y s₄ →
        RTurn h₀ L m s (· = s.gens) I C D oI (fun c : List Value × Obj => (C + 1, c.2) :: news) (fun c => c.1) (fun c => J (i + 1) c.1 ∧ ∃ vv, c.2.data = .cell vv) (ys, o) y s₄ := by
      rintro y s₄ ⟨h', tk', o', oC', m', rfl, hC', F'', N'', hv, hj'⟩
      refine ⟨(ys ++ y.toList, o'), h', tk', _, oC', m', rfl, hC', rfl, F'', sw N'', fun p hp => ?_, rfl, hj', hv⟩
      rcases List.mem_cons.mp hp with rfl | hp
      · exact offC
      · exact off p hp
    refine wpAny_mono (turn I C D hnI hID hDC i ys o vv h tk oI oC m₂ u E' hin hj ho hC F' (sw' N')) (fun _ s₂ h₂ => wpAny_mono h₂ (fun ok s₃ h₃ => ?_) fun _ _ e => e) fun _ _ e => e
    cases ok with
    | true =>
      simp only [if_true] at h₃ ⊢
      exact wpAny_mono h₃ (fun y s₄ h₄ => fin (some y) s₄ h₄) fun _ _ e => e
    | false =>
      simp only [Bool.false_eq_true, if_false] at h₃ ⊢
      exact fin none s₃ h₃
  · rintro C D ⟨ys, o⟩ h tk gs ⟨hj, _⟩ hnD rfl F' N' hof
    exact done D ys h tk hj hnD F' fun p hp => N' p (by
      simp only [List.mem_cons] at hp ⊢
      rcases hp with h | h
      · exact .inl h
      · exact .inr (.inr h))
end
/-- the name of a comp's turn -/
theorem comp_name {prog : Program} {w : World} {A : Around} {E : Value → Shared → Prop} {s : Shared} {h₀ : Heap} {L I C D : Addr} {m m₂ : Str → Option Value} {oI oC oD : Obj} {nw : List (Addr × Obj)} {env : Env} {x : Str} {pos : Pos} {v : Value} {Q : Unit → Shared → Prop}
    (hC : LCg.NsObj oC m₂) (F : Fr h₀ L s.heap m) (N : News h₀ L s.heap ((I, oI) :: (C, oC) :: (D, oD) :: nw)) (hIC : @Ne Nat I C) (hDC : @Ne Nat D C) (off : ∀ p ∈ nw, @Ne Nat p.1 C) (hl : env.kindOf x = some .local) (hL : env.locals = C)
    (hp : (env.scope.kind == .class || (env.scope.kind == .module && env.locals != env.globals)) = false)
    (h : ∀ h' oC' m', LCg.NsObj oC' m' → m' x = some v → Fr h₀ L h' m → News h₀ L h' ((I, oI) :: (C, oC') :: (D, oD) :: nw) → Q () { s with heap := h', toks := s.toks + 1 }) :
    wpAny (model prog w) A (assign (.Name x pos) env v) Q E s := by
  subst hL
  have zC := N _ (List.mem_cons_of_mem _ List.mem_cons_self)
  refine wpAny_assign_Name (wpAny_storeName_local hl (hC.ns zC.1) (fun h' hn hs => ?_) hp)
  obtain ⟨oC', heC, hoC⟩ := LCg.ns_obj hn
  refine h h' oC' _ hoC (if_pos rfl) (F.change hs zC.2.1 zC.2.2) fun p hp => ?_
  have old : p.1 ≠ env.locals → p ∈ (I, oI) :: (env.locals, oC) :: (D, oD) :: nw → h'.get? p.1 = some p.2 ∧ @Ne Nat p.1 L ∧ h₀.get? p.1 = none := fun hne hm => ⟨hs.extBut _ _ hne (N p hm).1, (N p hm).2⟩
  rcases List.mem_cons.mp hp with rfl | hp
  · exact old hIC List.mem_cons_self
  rcases List.mem_cons.mp hp with rfl | hp
  · exact ⟨heC, zC.2⟩
  rcases List.mem_cons.mp hp with rfl | hp
  · exact old hDC (List.mem_cons_of_mem _ (List.mem_cons_of_mem _ List.mem_cons_self))
  · exact old (off p hp) (List.mem_cons_of_mem _ (List.mem_cons_of_mem _ (List.mem_cons_of_mem _ hp)))
end
section
/-- what a limit is: the lead's column -/
def limLead (runs : Nat) (more x : Int) : List Nat := ((List.range runs).map fun k : Nat => sp (x - ((0 : Int) + (k : Int)).fmod 2).toNat ++ [9]).flatten ++ sp more.toNat
def limitV (sz : Int) (runs : Nat) (more x : Int) : Int := ilevel sz (wsRun (limLead runs more x))
theorem limitV_of {sz : Int} {runs : Nat} {more x b n nt : Int} {ns : List Int} {cs : List Nat} (hr : wsRun cs = (b, n, nt, ns)) (hc : cs = limLead runs more x) : ilevel sz (b, n, nt, ns) = limitV sz runs more x := by
  subst hc
  rw [limitV, hr]
section
variable {w : World} {A₀ A : Around} {s : Shared} {base h₀ : Heap} {outer : List Env} {L : Addr} {m : Str → Option Value} {need : List (Addr × Obj)} {mean : ExcName → Option Value} {mg mb : Str → Option Value}
  {Q E : Value → Shared → Prop} {Post : List (Addr × Obj) → Value → Prop} {f : Addr}
/-- a call that takes the ledger's front and gives its own -/
theorem con_useF {vs : List Value} {led' : List (Addr × Obj)} {k : Nat} (C : Con k w mean mg mb f vs need Post) {dp un : Nat} {gd : Option (List Code)} {cn : Str} {cs : Scope} {a : Addr} {ccd : Value} {cl : List (Str × Addr)}
    (hA : A = ktrTop dp un gd cn cs L a ccd cl outer) (B : Below A₀ base outer h₀) (F : Fr h₀ L s.heap m) (X : (Mine.hd.heap_1 w.params).In h₀) (N : News h₀ L s.heap (need ++ led'))
    (T : Top Mine.viewX (looseW Mine.viewX [Str.ofString "Whitespace", Str.ofString "_Accumulator"]) mean mg mb h₀) (hk : cs.kind = .function) (hd : dp + k < recursionLimit) (hu : un + 8 * k < cLine)
    (hoff : ∀ p ∈ led', ∀ q ∈ need, @Ne Nat p.1 q.1)
    (hret : ∀ r tl h' tk', Fr h₀ L h' m → News h₀ L h' (tl ++ led') → (∀ p ∈ tl, p.1 ∉ need.map (·.1) → ∀ q ∈ need ++ led', @Ne Nat p.1 q.1) → Post tl r → Q r { s with heap := h', toks := tk' }) :
    wpAny (model PySem.Challenge.rw_xl0016_01.row.prog w) A (call (.ref f) vs) Q E s :=
  con_use C hA B F X N (fun _ hp => List.mem_append_left _ hp) T hk hd hu led' (fun _ hp => List.mem_append_right _ hp) hoff hret
end
local macro_rules | `(tactic| k_room) => `(tactic| ktr_room)
theorem rowsA7_0 : True := by
  w_top off
  k_with_none
  k_with "c.enter" => ((first
      | (refine' con_def ?k1q9 ?k2q9 ?k3q9 ?k4q9 ?k5q9 ?kAq9 ?kFq9 ?kKq9 ?k6q9 ?k7q9 ?k8q9 ?k9q9 ?kBq9 ?kRq9 ?_ ?c2q9 ?c3q9 ?c4q9 ?c5q9; (case kAq9 => exact rfl); (case kFq9 => exact rfl); (case kKq9 => assumption); (case k1q9 => k_asm); (case k2q9 => k_asm); (case k3q9 => k_asm); (case k4q9 => k_asm); (case k5q9 => k_asm); (case k6q9 => k_is); (case k7q9 => k_is); (case k8q9 => ktr_room); (case k9q9 => first | exact BindsTo.of_eq rfl | exact binds_K (by k_in) rfl (by k_is) rfl rfl rfl); (case c5q9 => decide); (case kBq9 => exact locs rfl); (case c2q9 => exact rfl); (case c3q9 => exact rfl); (case c4q9 => exact rfl); (case kRq9 => walk_at "c.ret"); k_whole; intro _ _ _ _ _ N'q9 _ _ _ l1q9; (try k_lt l1q9); (try (revert l1q9; intro _)); (try dsimp only); (try k_fold))
      | (refine' con_defC ?k1q9 ?k2q9 ?k3q9 ?k4q9 ?k5q9 ?kAq9 ?kFq9 ?kKq9 ?k6q9 ?k7q9 ?k8q9 ?k9q9 ?kBq9 ?kDq9 ?kRq9 ?_ ?c2q9 ?c3q9 ?c4q9; (case kAq9 => exact rfl); (case kFq9 => exact rfl); (case kKq9 => assumption); (case k1q9 => k_asm); (case k2q9 => k_asm); (case k3q9 => k_asm); (case k4q9 => k_asm); (case k5q9 => k_asm); (case k6q9 => k_is); (case k7q9 => k_is); (case k8q9 => ktr_room); (case k9q9 => first | exact BindsTo.of_eq rfl | exact binds_K (by k_in) rfl (by k_is) rfl rfl rfl); (case kBq9 => exact rfl); (case kDq9 => decide +kernel); (case c2q9 => exact rfl); (case c3q9 => exact rfl); (case c4q9 => exact rfl); (case kRq9 => walk_at "c.ret"); k_whole; intro _ _ _ _ _ _ _ N'q9 Y'q9 _ _ _ l1q9; (try k_lt l1q9); (try (revert l1q9; intro _)); k_cells Y'q9; (try simp only [List.cons_append, List.nil_append] at N'q9); (try dsimp only); (try k_fold))))
  k_with "c.ret" => ((intro _ _ hl9q9; exact con_back (by assumption) (by assumption) (by assumption) (by assumption) hl9q9))
  k_with "c.start" => ((unfold Con; k_fill; intro _ _ _ _ _ _ _ _ _ _ _ _ _ _ _ _ _ Bq9 Fq9 Xq9 Nq9 Tq9 _ _ _ hretq9; refine wpAny_call ?_; k_dflt walk_at "c.enter"; clear hretq9 Nq9 Fq9 Bq9 Xq9 Tq9))
  k_with "c.startCls" => ((unfold Con; k_fill; intro _ _ _ _ _ _ _ _ _ _ _ _ _ _ _ _ _ Bq9 Fq9 Xq9 Nq9 Tq9 _ _ _ hretq9; refine wpAny_call ?_; k_dflt walk_at "c.enterCls"; clear hretq9 Nq9 Fq9 Bq9 Xq9 Tq9))
  k_with "c.enterCls" => ((refine' con_cls ?k1q9 ?k2q9 ?k3q9 ?k5q9 ?kAq9 ?kFq9 ?kKq9 ?m1q9 ?m2q9 ?m3q9 ?k6q9 ?k7q9 ?k8q9 ?k9q9 ?kBq9 ?kRq9 ?_ ?c2q9 ?c3q9 ?c4q9 ?c5q9; (case kAq9 => exact rfl); (case kFq9 => exact rfl); (case kKq9 => assumption); (case k1q9 => k_asm); (case k2q9 => k_asm); (case k3q9 => k_asm); (case k5q9 => k_asm); (case m1q9 => k_is); (case m2q9 => k_is); (case m3q9 => k_is); (case k6q9 => k_is); (case k7q9 => k_is); (case k8q9 => ktr_room); (case k9q9 => intro _ _; exact BindsTo.of_eq rfl); (case c5q9 => decide); (case kBq9 => intro _; exact locs rfl); (case c2q9 => exact rfl); (case c3q9 => exact rfl); (case c4q9 => exact rfl); (case kRq9 => exact con_nil (by assumption)); k_whole; intro _ _ _ _ _ _ l0'q9 _ _ _ _ _ l1q9; (try k_lt2 l0'q9); (try (revert l0'q9; intro _)); (try k_lt2 l1q9); (try (revert l1q9; intro _)); (try dsimp only); (try k_fold)))
  k_with "CompSrc" => ((k_here; k_dflt (refine LCg.CompSrc.range (by rfl) (by k_asm) (by k_asm) (by assumption) (by first | decide | rfl) (by first | rfl | decide) (by first | size_fits | exact Nat.le_of_ble_eq_true rfl) ?_; intro _; lcg_lit)))
  k_with "binaryOp Mult str int" => ((k_here; (refine' r_mul ?haq9 ?hbq9 ?_); (case haq9 => ((try simp only [fmod_lit]); omega)); (case hbq9 => ((try simp only [fmod_lit]); omega)); intro _ _))
  k_with "binaryOp Add str str" => ((k_here; (refine' r_add ?haq9 ?hbq9 ?hcq9 ?_); (case haq9 => first | with_reducible exact S_tab | with_reducible exact S_blank | with_reducible rfl); (case hbq9 => first | with_reducible exact S_tab | with_reducible exact S_blank | with_reducible rfl); (case hcq9 => (simp [sp]; omega)); intro _ _))
  k_with "call builtin:str.join" => ((k_here; (first
      | refine' r_join (ls := [(_, _)]) ?hlq9 ?hiq9 ?hwq9 ?_; (case hlq9 => exact News.isList (by k_asm) (by k_mem)); (case hiq9 => exact rfl)
      | refine' r_join (ls := [(_, _), (_, _)]) ?hlq9 ?hiq9 ?hwq9 ?_; (case hlq9 => exact News.isList (by k_asm) (by k_mem)); (case hiq9 => exact rfl)
      | refine' r_join (ls := [(_, _), (_, _), (_, _)]) ?hlq9 ?hiq9 ?hwq9 ?_; (case hlq9 => exact News.isList (by k_asm) (by k_mem)); (case hiq9 => exact rfl)); (case hwq9 => (simp [sp, fmod_lit]; omega)); intro _ _; (try dsimp only)))
  k_with "call type:tuple" => ((k_here; k_dflt (refine' r_tuple ?Fq9 ?Nq9 ?mq9 ?_ ?zq9; (case Fq9 => k_asm); (case Nq9 => k_asm); (case mq9 => k_mem); (case zq9 => (have hc9 := sizeLine_eq; (have hI9 := IntsAre.length (by assumption)); omega)); k_whole); intro _ _ _ _ l1q9; (try k_lt l1q9); (try (revert l1q9; intro _))))
  k_with "call builtin:len" => ((k_here; (with_reducible show wpAny _ _ (call (Value.builtin "len") [Value.ref _]) _ _ _); k_dflt (refine' r_len_tupI ?Nq9 ?mq9 ?iq9 ?fq9 ?_; (case Nq9 => k_asm); (case mq9 => k_mem); (case iq9 => with_reducible assumption); (case fq9 => omega); k_whole); intro _ _))
  k_with "subscriptTail" => ((k_here; (with_reducible show wpAny _ _ (subscriptTail _ _ (Value.ref _) (Value.int _ _)) _ _ _); k_dflt (refine' r_item_tupI ?Nq9 ?mq9 ?iq9 ?aq9 ?bq9 ?cq9 ?_ ?eq9; (case Nq9 => k_asm); (case mq9 => k_mem); (case iq9 => with_reducible assumption); (case aq9 => omega); (case bq9 => omega); (case cq9 => omega); (case eq9 => with_unfolding_all rfl); k_whole); intro _))
  k_with "pyIter ref" => ((k_here; (with_reducible show wpAny _ _ (pyIter (Value.ref _)) (fun it s₂ => LoopAtV _ _ _ _ _ _ _ _ _ it s₂) _ _); refine Hold.of ?_))
  k_with "call ref" => ((k_here; (with_reducible show wpAny _ _ (call (Value.ref _) _) _ _ _); k_whole; refine Hold.of ?_))
  k_with "eval ListComp" => ((k_here; (with_reducible show wpAny _ _ (eval (Expr.ListComp _ _ _ _) _) _ _ _); k_whole; refine Hold.of ?_))
  k_with "pyIter ref" => ((k_here; (with_reducible show wpAny _ _ (pyIter (Value.ref _)) (fun it s₂ => wpAny _ _ (newList []) _ _ _) _ _); k_whole; refine Hold.of ?_))
  k_with "call builtin:str.join" => ((k_here; k_whole; refine Hold.of ?_))
  trivial
theorem limit_con (w : World) (mean : ExcName → Option Value) (mg mb : Str → Option Value) (sz runs more x : Int) (r : Addr) (t0 t1 t2 t3 : Tok)
    (hsz : 1 ≤ sz ∧ sz ≤ 4) (hruns : runs = 1 ∨ runs = 2 ∨ runs = 3) (hmore : 0 ≤ more ∧ more ≤ 2) (hx : 1 ≤ x ∧ x ≤ 20) :
    ConK 30 w mean mg mb 190 [.int x t0, .ref r] [(r, tup3 sz runs more t1 t2 t3)] (fun tl v => tl = [] ∧ ∃ tk, v = .int (limitV sz runs.toNat more x) tk) := by
  unfold ConK
  walk_at "c.start"
  refine abs1 ?_
  intro X8 hX8
  k_steps
  refine Hold.on ?_
  with_reducible rename Fr _ _ _ _ => lF
  with_reducible rename News _ _ _ _ => lN
  rename_i dp un gd cn cs a ccd cl outer A₀ base h₀ Lc mc s Q E hk hd hu g L1 h1 tk1 gk B X T l1 o1 d1 hA1 hA2 hA3 hA4
  have hrun1 : 1 ≤ runs ∧ runs ≤ 3 := by omega
  refine ListComp_X (cl := [(Str.ofString "taken", L1 + 1)]) (by rfl) (by rfl) (by decide) ?_ (by intro _; with_unfolding_all rfl)
  k_steps
  refine Hold.on ?_
  with_reducible rename IsRange _ _ _ _ _ _ _ _ => lR
  with_reducible rename Fr _ _ _ _ => lF
  with_reducible rename News _ _ _ _ => lN
  refine listcomp_range (· = s.gens) (by rfl) (fun _ (c : List (List Nat × Tok)) => [(L1 + 1, o1), (r, tup3 sz runs more t1 t2 t3)]) (fun c => c.map fun p => Value.str (S p.1) p.2) (fun _ i c => c.map (·.1) = (List.range i).map fun k : Nat => sp (x - ((0 : Int) + (k : Int)).fmod 2).toNat ++ [9]) (fun _ => []) (by rfl) lR (small_one (by omega) (by omega) (by omega) (by omega)) (by omega) lF lN (fun C => rfl) (fun C => rfl) (fun C => rfl) ?_ ?_
  · rintro I C D hnI hID hDC i ys h9 tk9 gs9 oI oC m9 u9 E9 hi9 hys hC9 rfl F9 N9 off9
    dsimp only at hys N9 off9 ⊢
    clear lF lN
    refine comp_name hC9 F9 N9 (Nat.ne_of_lt (Nat.lt_trans hID hDC)) (Nat.ne_of_lt hDC) (fun p hp => (off9 p hp).1) (by rfl) (by rfl) (by rfl) ?_
    intro h8 oC8 m8 hC8 hx8 F8 N8
    clear F9 N9 hC9
    refine wpAny_tests_nil ?_
    simp only [if_true]
    have hm0 : 0 ≤ (i : Int).fmod 2 ∧ (i : Int).fmod 2 ≤ 1 := by rw [fmod_lit]; omega
    have hm1 : 0 ≤ ((0 : Int) + (i : Int)).fmod 2 ∧ ((0 : Int) + (i : Int)).fmod 2 ≤ 1 := by rw [fmod_lit]; omega
    k_steps
    with_reducible rename Fr _ _ _ _ => kF
    with_reducible rename News _ _ _ _ => kN
    refine ⟨ys ++ [(_, _)], _, _, _, oC8, m8, rfl, hC8, rfl, kF, kN, off9, by simp only [List.map_append, List.map_cons, List.map_nil, Option.toList]; rfl, ?_⟩
    dsimp only
    rw [List.map_append, List.range_succ, List.map_append, hys]
    rfl
  rintro C D ys h9 tk9 gs9 hys hnD rfl F9 N9 off9
  dsimp only at hys N9 off9 ⊢
  clear lF lN off9
  rw [show (runs - 0).toNat = runs.toNat by omega] at hys
  generalize hfl : (ys.map (·.1)).flatten = fl
  have hflE : fl ++ sp more.toNat = limLead runs.toNat more x := by rw [← hfl, hys]; rfl
  have hysum : (ys.map (·.1.length)).sum + ys.length ≤ 100 ∧ fl.length ≤ 70 ∧ fl.all (fun n => n == 32 || n == 9) = true := by
    have e1 : ys.map (·.1.length) = (ys.map (·.1)).map List.length := by rw [List.map_map]; rfl
    have e2 : ys.length = (ys.map (·.1)).length := by rw [List.length_map]
    rw [e1, e2, ← hfl, hys]
    rcases hruns with rfl | rfl | rfl
    · simp [sp, fmod_lit]; omega
    · simp [sp, fmod_lit, List.range_succ]; omega
    · simp [sp, fmod_lit, List.range_succ]; omega
  k_steps
  refine Hold.on ?_
  refine r_join (ls := ys) (News.isList (by k_asm) List.mem_cons_self) (by simp) (by omega) ?_
  rw [hfl]
  intro t5 tk5
  dsimp only
  k_steps
  refine Hold.on ?_
  have hcl : (fl ++ sp more.toNat).length ≤ 75 := by rw [List.length_append]; simp [sp]; omega
  have hca : (fl ++ sp more.toNat).all (fun n => n == 32 || n == 9) = true := by
    rw [List.all_append, hysum.2.2]
    simp [sp]
  rw [hflE] at hcl hca ⊢
  clear hflE hysum hfl hys
  generalize hcs : limLead runs.toNat more x = cs at hcl hca ⊢
  refine' con_use (ws_con w mean mg mb cs _ hca (by omega)) ?A ?B ?F ?X ?N ?sub ?T ?hk ?hd ?hu _ (fun p hp => hp) ?off ?_
  (case A => exact rfl)
  (case B => assumption)
  (case F => k_asm)
  (case X => assumption)
  (case N => k_asm)
  (case T => assumption)
  (case hk => first | rfl | assumption)
  (case sub => (intro p hp; cases hp))
  (case off => (intro p hp q hq; cases hq))
  (case hd => ktr_room)
  (case hu => ktr_room)
  intro r9 tl9 h' tk' F' N' off9 p9
  cases p9 with
  | @intro x' d' nm' ct' k1 k2 k3 k4 k5 u1 u2 u3 ub b n nt vs ns sm hrun hI hl1 hb0 hb1 hnt0 hnt1 hks =>
    simp only [List.cons_append, List.nil_append] at N'
    simp only [List.map_nil, List.not_mem_nil, not_false_eq_true, forall_const, List.mem_cons, forall_eq_or_imp, or_false, forall_eq] at off9
    k_steps
    refine Hold.on ?_
    refine' con_useF (il_con w mean mg mb sz b n nt _ _ _ _ _ _ _ _ _ _ _ _ _ _ _ vs ns hsz hI (by omega) ⟨hb0, by omega⟩ ⟨hnt0, by omega⟩ (fun k hk => ⟨(hks k hk).1, by have := (hks k hk).2; omega⟩)) ?A2 ?B2 ?F2 ?X2 ?N2 ?T2 ?hk2 ?hd2 ?hu2 ?off2 ?_
    (case A2 => exact rfl)
    (case B2 => assumption)
    (case F2 => k_asm)
    (case X2 => assumption)
    (case N2 => k_asm)
    (case T2 => assumption)
    (case hk2 => first | rfl | assumption)
    (case off2 => (simp only [List.mem_cons, List.not_mem_nil, forall_eq_or_imp, or_false, forall_eq]; exact ⟨⟨Ne.symm off9.1.1, Ne.symm off9.2.1.1, Ne.symm off9.2.2.1.1, Ne.symm off9.2.2.2.1⟩, ⟨Ne.symm off9.1.2.1, Ne.symm off9.2.1.2.1, Ne.symm off9.2.2.1.2.1, Ne.symm off9.2.2.2.2.1⟩, Ne.symm off9.1.2.2, Ne.symm off9.2.1.2.2, Ne.symm off9.2.2.1.2.2, Ne.symm off9.2.2.2.2.2⟩))
    (case hd2 => ktr_room)
    (case hu2 => ktr_room)
    rintro r8 tl8 h8 tk8 F8 N8 - ⟨rfl, tk7, rfl⟩
    refine hX8 _ _ ?_
    refine' LeaveC.intro [(r, tup3 _ _ _ _ _ _)] F8 ?N3 ⟨[], rfl, rfl, tk7, congrArg (fun z => Value.int z tk7) (limitV_of hrun hcs.symm)⟩
    (case N3 => (refine' cb_drop ?A4 ?B4; (case A4 => exact N8); (case B4 => lcg_sub)))
end
section
theorem rowsA8_0 : True := by
  w_top off
  k_with_none
  trivial
/-- an object of a class that derives from list -/
abbrev lobj (C d : Addr) (items : Array Value) (n : Nat) : Obj := { cls := .ref C, dict := some d, data := .seq items n }
section
variable {prog : Program} {w : World} {A : Around} {E : Value → Shared → Prop} {s : Shared} {K : Frag} {x d C : Addr} {items : Array Value} {n : Nat} {v : Value}
theorem sub_check {M : Model} {id owner nm : String} {self : Value} {rest : List Value} {Q : Unit → Shared → Prop}
    (hs : splitId id = some (owner, nm)) (hk : builtinKind id = some .slot ∨ builtinKind id = some .method)
    (hi : Looks M s.heap (isInstance self (.type owner)) true) (ha : argsOk id ⟨self :: rest, []⟩) (q : Q () s) : wpAny M A (checkBuiltinCall id ⟨self :: rest, []⟩) Q E s := by
  rcases hk with hk | hk <;>
    (simp only [checkBuiltinCall, hk, hs]
     refine wpAny_bind (hi.here ?_)
     simp only [Bool.not_true, Bool.false_eq_true, if_false]
     cases hsig : Manifest.signature? id with
     | none => exact wpAny_pure q
     | some sig =>
       simp only [argsOk, hsig] at ha
       have h2 : Bind.checkArgs id sig ⟨self :: rest, []⟩ = pure () := ha
       show wpAny M A (Bind.checkArgs id sig ⟨self :: rest, []⟩) Q E s
       rw [h2]; exact wpAny_pure q)
theorem sub_call {id owner nm : String} {b : Builtin} {self : Value} {rest : List Value} {Q : Value → Shared → Prop}
    (hs : splitId id = some (owner, nm)) (hk : builtinKind id = some .slot ∨ builtinKind id = some .method) (hq : plainId id = true) (hb : entryFor table id = some b)
    (hi : Looks (model prog w) s.heap (isInstance self (.type owner)) true) (ha : argsOk id ⟨self :: rest, []⟩)
    (hc : wpAny (model prog w) A.in1 (b ⟨self :: rest, []⟩) (fun fin s' => ∃ v, fin = .done (.ret v) ∧ Q v s') E s) :
    wpAny (model prog w) A (call (.builtin id) (self :: rest)) Q E s := by
  refine wpAny_call (codeAny_call_builtin hq hb (sub_check hs hk hi ha (wpAny_mono hc (fun fin s' h' => ?_) fun _ _ h' => h')))
  obtain ⟨v, rfl, hv⟩ := h'; exact hv
theorem lsub_type (hx : s.heap.get? x = some (lobj C d items n)) : Looks (model prog w) s.heap (typeOf (.ref x)) (.ref C) := (Looks.ld hx).andThen .now
theorem lsub_is (X : K.In s.heap) (hx : s.heap.get? x = some (lobj C d items n)) (hl : subIn K (.ref C) (.type "list") = some true) : Looks (model prog w) s.heap (isInstance (.ref x) (.type "list")) true :=
  (lsub_type hx).andThen (looks_subIn X hl)
theorem mapSeq_pushC (C d : Addr) (its : Array Value) (n : Nat) (v : Value) : Obj.mapSeq (·.push v) (lobj C d its n) = lobj C d (its.push v) (n + 1) := by simp [Obj.mapSeq]
theorem lsub_append {Q : Value → Shared → Prop} (X : K.In s.heap) (hx : s.heap.get? x = some (lobj C d items n)) (hl : subIn K (.ref C) (.type "list") = some true)
    (h : ∀ h', Heap.SameBut x s.heap h' → h'.get? x = some (lobj C d (items.push v) (n + 1)) → Q .none { s with heap := h' }) (hsz : items.size ≤ sizeLine) :
    wpAny (model prog w) A (call (.builtin "list.append") [.ref x, v]) Q E s := by
  refine sub_call (owner := "list") (nm := "append") (by decide +kernel) (.inr (by decide +kernel)) (by decide +kernel) entry_list_append (lsub_is X hx hl) (args_list_append _ _) ?_
  show wpAny _ _ (updateSeq x (·.push v) >>= fun _ => ret .none) _ _ s
  refine wpAny_bind ?_
  refine wpAny_updateSeq hx rfl (wpAny_pure ⟨.none, rfl, h _ (Heap.SameBut.update ..) ?_⟩)
  rw [Heap.get?_update_self _ hx (by rw [mapSeq_pushC]; rfl), mapSeq_pushC]
theorem lsub_len {Q : Value → Shared → Prop} (X : K.In s.heap) (hx : s.heap.get? x = some (lobj C d items n)) (hl : subIn K (.ref C) (.type "list") = some true)
    (h : Q (.int items.size s.toks) { s with toks := s.toks + 1 }) :
    wpAny (model prog w) A (call (.builtin "list.__len__") [.ref x]) Q E s := by
  refine sub_call (owner := "list") (nm := "__len__") (by decide +kernel) (.inl (by decide +kernel)) (by decide +kernel) entry_list_len (lsub_is X hx hl) (args_list_len _) ?_
  show wpAny _ _ (seqSize x >>= _) _ _ s
  unfold seqSize
  repeat wp_step
  exact ⟨_, rfl, h⟩
theorem lsub_init {Q : Value → Shared → Prop} (X : K.In s.heap) (hx : s.heap.get? x = some (lobj C d #[] n)) (hl : subIn K (.ref C) (.type "list") = some true)
    (h : ∀ h' n', Heap.SameBut x s.heap h' → h'.get? x = some (lobj C d #[] n') → Q .none { s with heap := h' }) :
    wpAny (model prog w) A (call (.builtin "list.__init__") [.ref x]) Q E s := by
  refine sub_call (owner := "list") (nm := "__init__") (by decide +kernel) (.inl (by decide +kernel)) (by decide +kernel) PySem.F.entry_list_init (lsub_is X hx hl) (PySem.F.args_list_init_1 _) ?_
  show wpAny _ _ (Builtin.List.listItems (.ref x) >>= _) _ _ s
  unfold Builtin.List.listItems
  refine wpAny_bind (wpAny_bind (wpAny_seqItems hx rfl (wpAny_pure ?_)))
  show wpAny _ _ (updateSeq x (fun _ => #[]) >>= _) _ _ s
  refine wpAny_bind ?_
  refine wpAny_updateSeq hx rfl (wpAny_bind (wpAny_letGo (wpAny_pure ⟨.none, rfl, h _ _ (Heap.SameBut.update ..) (Heap.get?_update_self _ hx (by rfl))⟩)))
theorem lsub_special {name : Str} {id : String} {args : List Value} {kw : List (Str × Value)} {Q : Option Value → Shared → Prop} (X : K.In s.heap) (hx : s.heap.get? x = some (lobj C d items n))
    (hf : findIn K (.ref C) name = some (some (.builtin id))) (hb : ∀ self, bindSpecial (.builtin id) self = pure (.builtin id, [self]))
    (hc : wpAny (model prog w) A (call (.builtin id) (.ref x :: args) kw) (fun v => Q (some v)) E s) : wpAny (model prog w) A (callSpecial? (.ref x) name args kw) Q E s := by
  simp only [callSpecial?]
  refine wpAny_bind (wpAny_bind ((lsub_type hx).here ((looks_findIn X hf).here ?_)))
  simp only [hb]
  exact wpAny_holding (wpAny_bind (wpAny_pure (wpAny_bind (wpAny_mono hc (fun v s' h' => wpAny_pure h') fun _ _ h' => h'))))
theorem lsub_key {k : Value} {name : Str} {Q : Value → Shared → Prop} (X : K.In s.heap) (hx : s.heap.get? x = some (lobj C d items n)) (hn : noSeq K C = true) (h : Q k s) :
    wpAny (model prog w) A (sequenceKey (.ref x) k name) Q E s := by
  unfold sequenceKey
  refine wpAny_bind ((lsub_type hx).here ?_)
  refine wpAny_bind ((anyM_none X hn).here ?_)
  rw [if_pos (show (!false) = true from rfl)]
  exact wpAny_pure h
theorem lsub_slice {sl : Addr} {vl vu vs : Value} {lo hi st : Option Int} {Q : Value → Shared → Prop} (X : K.In s.heap) (hx : s.heap.get? x = some (lobj C d items n)) (hl : subIn K (.ref C) (.type "list") = some true)
    (hs : s.heap.IsSliceOf sl vl vu vs) (pl : IsPart vl lo) (pu : IsPart vu hi) (ps : IsPart vs st) (h0 : st ≠ some 0)
    (h : Q (.ref s.heap.objs.size) { s with heap := s.heap.push { cls := .type "list", data := .seq (slicePick items lo hi st) } })
    (hsz : items.size ≤ sizeLine) : wpAny (model prog w) A (call (.builtin "list.__getitem__") [.ref x, .ref sl]) Q E s := by
  obtain ⟨os, hos, hcs, hds⟩ := id hs
  have hTs : s.TypeIs (.ref sl) "slice" := ⟨os, hos, hcs⟩
  refine sub_call (owner := "list") (nm := "__getitem__") (by decide +kernel) (.inr (by decide +kernel)) (by decide +kernel) entry_list_getitem (lsub_is X hx hl) (args_list_getitem _ _) ?_
  show wpAny _ _ (Builtin.List.listSubscript? (.ref sl) >>= _) _ _ s
  refine wpAny_bind ?_
  unfold Builtin.List.listSubscript?
  refine wpAny_bind (wpAny_specialOf hTs slice_no_index ?_)
  simp only [Option.isNone_none, if_true]
  refine wpAny_pure ?_
  show wpAny _ _ (typeOf (.ref sl) >>= _) _ _ s
  refine wpAny_bind (wpAny_typeOf hTs ?_)
  rw [if_neg (by decide)]
  rw [listSliceParts_eq]
  have hstep : ¬ ((rawPart st == rawInt 0) = true) := by
    cases st with
    | none => exact Bool.false_ne_true
    | some c =>
      intro hh
      have : c = 0 := by simpa [rawPart, rawInt] using hh
      exact h0 (by rw [this])
  refine wpAny_bind (wpAny_bind (wpAny_field hos hds (x := vs) rfl (wpAny_bind (wpAny_listPart ps ?_))))
  rw [if_neg hstep]
  refine wpAny_bind (wpAny_field hos hds (x := vl) rfl (wpAny_bind (wpAny_listPart pl ?_)))
  refine wpAny_bind (wpAny_field hos hds (x := vu) rfl (wpAny_bind (wpAny_listPart pu (wpAny_pure ?_))))
  refine wpAny_bind (m := Builtin.List.listItems (.ref x)) ?_
  unfold Builtin.List.listItems
  refine wpAny_bind (wpAny_seqItems hx rfl (wpAny_pure ?_))
  refine wpAny_bind (wpAny_of_eq (sliceIndices_raw lo hi st items.size h0) ?_)
  exact wpAny_bind (wpAny_newObj_type (wpAny_pure ⟨_, rfl, h⟩) (Nat.le_trans (slicePick_size_le items lo hi st) hsz))
/-- self[lo:hi] = another list -/
theorem lsub_store {y sl : Addr} {vl vu : Value} {lo hi : Option Int} {its : Array Value} {Q : Value → Shared → Prop} (X : K.In s.heap) (hx : s.heap.get? x = some (lobj C d items n)) (hl : subIn K (.ref C) (.type "list") = some true)
    (hy : s.heap.IsList y its) (hxy : x ≠ y) (hs : s.heap.IsSliceOf sl vl vu .none) (pl : IsPart vl lo) (pu : IsPart vu hi)
    (h : ∀ h' n' , Heap.SameBut x s.heap h' → h'.get? x = some (lobj C d (items.extract 0 (sliceBounds lo hi none items.size).1.toNat ++ its ++ items.extract (max (sliceBounds lo hi none items.size).1 (sliceBounds lo hi none items.size).2.1).toNat items.size) n') → Q .none { s with heap := h' })
    (hsz : items.size + its.size ≤ 10000) : wpAny (model prog w) A (call (.builtin "list.__setitem__") [.ref x, .ref sl, .ref y]) Q E s := by
  obtain ⟨os, hos, hcs, hds⟩ := id hs
  obtain ⟨oy, hoy, hcy, ny, hdy⟩ := id hy
  have hTs : s.TypeIs (.ref sl) "slice" := ⟨os, hos, hcs⟩
  refine sub_call (owner := "list") (nm := "__setitem__") (by decide +kernel) (.inl (by decide +kernel)) (by decide +kernel) entry_list_setitem (lsub_is X hx hl) (args_list_setitem _ _ _) ?_
  show wpAny _ _ (Builtin.List.listSubscript? (.ref sl) >>= _) _ _ s
  refine wpAny_bind ?_
  unfold Builtin.List.listSubscript?
  refine wpAny_bind (wpAny_specialOf hTs slice_no_index ?_)
  simp only [Option.isNone_none, if_true]
  refine wpAny_pure ?_
  show wpAny _ _ (typeOf (.ref sl) >>= _) _ _ s
  refine wpAny_bind (wpAny_typeOf hTs ?_)
  rw [if_neg (by decide)]
  rw [listSliceParts_eq]
  refine wpAny_bind (wpAny_bind (wpAny_field hos hds (x := .none) rfl (wpAny_bind (wpAny_listPart .none ?_))))
  rw [if_neg (by decide)]
  refine wpAny_bind (wpAny_field hos hds (x := vl) rfl (wpAny_bind (wpAny_listPart pl ?_)))
  refine wpAny_bind (wpAny_field hos hds (x := vu) rfl (wpAny_bind (wpAny_listPart pu (wpAny_pure ?_))))
  dsimp only
  have hne : Builtin.List.listSameRef (.ref x) (.ref y) = false := by simp [Builtin.List.listSameRef, hxy]
  rw [hne]
  simp only [Bool.false_eq_true, if_false]
  unfold Builtin.List.listAllItems
  refine wpAny_bind (wpAny_bind (wpAny_typeOf hy.typeIs ?_))
  rw [if_pos (by decide)]
  unfold Builtin.List.listItems
  refine wpAny_bind (wpAny_seqItems hoy hdy (wpAny_pure ?_))
  refine wpAny_bind (wpAny_bind (wpAny_seqItems hx rfl (wpAny_pure ?_)))
  refine wpAny_bind (wpAny_of_eq (sliceIndices_raw lo hi none items.size (by simp)) ?_)
  have h1 : ((sliceBounds lo hi none items.size).2.2 == 1) = true := rfl
  have h2 : Builtin.List.listTooLong (items.size + its.size) = false := by
    have := sizeLine_eq
    simp only [Builtin.List.listTooLong, decide_eq_false_iff_not]; omega
  rw [if_pos h1]
  refine wpAny_bind (wpAny_rule ?_)
  rw [h2]
  simp only [Bool.false_eq_true, if_false]
  show wpAny _ _ (updateSeq x _ >>= _) _ _ s
  refine wpAny_bind ?_
  refine wpAny_updateSeq hx rfl (wpAny_bind (wpAny_letGo (wpAny_pure ⟨.none, rfl, h _ _ (Heap.SameBut.update ..) (Heap.get?_update_self _ hx (by rfl))⟩))) ?_ ?_
  · rw [sizeLine_eq]; omega
  · rw [sizeLine_eq]
    simp only [Array.size_append, Array.size_extract]
    omega
theorem lsub_sub {value slice : Expr} {i : Value} {id : String} {ops : List Value} {Q : Value → Shared → Prop} (X : K.In s.heap) (hx : s.heap.get? x = some (lobj C d items n)) (hf : findIn K (.ref C) "__getitem__" = some (some (.builtin id)))
    (h : wpAny (model prog w) A (getItem (.ref x) i) Q E s) (hs : subscripted slice false (.ref x) i = operate ops (getItem (.ref x) i)) (ht : ∀ r, letTemporaryGo value (.ref x) r = pure ()) :
    wpAny (model prog w) A (subscriptTail value slice (.ref x) i) Q E s := by
  unfold subscriptTail
  refine wpAny_bind ?_
  unfold getitemInPython
  refine wpAny_bind (wpAny_bind ((lsub_type hx).here ((looks_findIn X hf).here ?_)))
  refine wpAny_pure ?_
  refine wpAny_bind ?_
  rw [hs]
  exact wpAny_operating (wpAny_mono h (fun r s₃ h₃ => wpAny_bind (wpAny_of_eq (ht r) (wpAny_pure h₃))) fun _ _ x => x)
theorem lsub_getMethod {dx : Obj} {f : Value} {name : Str} {ga : String} {pl : Sem Bool} {Q : Value × List Value → Shared → Prop} (X : K.In s.heap) (hx : s.heap.get? x = some (lobj C d items n)) (hd : s.heap.get? d = some dx)
    (hga : findIn K (.ref C) "__getattribute__" = some (some (.builtin ga))) (hc : (Manifest.canonical ga != "object.__getattribute__") = false) (hgt : findIn K (.ref C) "__getattr__" = some none)
    (hf : findIn K (.ref C) name = some (some f)) (htf : typeIn K f = some (.type "function") ∨ typeIn K f = some (.type "method_descriptor")) (hl : lookIn name dx = some none)
    (h : Q (f, [.ref x]) s) : wpAny (model prog w) A (getMethod (.ref x) name pl) Q E s := by
  unfold getMethod specialOf
  refine wpAny_bind (wpAny_bind ((lsub_type hx).here ((looks_findIn X hga).here ?_)))
  dsimp only
  rw [hc]
  simp only [Bool.false_eq_true, if_false]
  refine wpAny_bind (wpAny_bind ((lsub_type hx).here ((looks_findIn X hgt).here ?_)))
  simp only [Option.isSome_none, Bool.false_eq_true, if_false]
  refine wpAny_bind (wpAny_bind ((lsub_type hx).here ((looks_findIn X hf).here ?_)))
  have fin : wpAny (model prog w) A (loadPart x (some headPart)) (fun a s' => wpAny (model prog w) A (nsGet d name) (fun a s' => a = none ∧ s' = s) E s') E s := by
    refine wpAny_loadPart hx ?_
    unfold nsGet
    refine wpAny_bind (wpAny_loadPart hd ?_)
    rw [nsLook_of hl]
    exact wpAny_pure ⟨rfl, rfl⟩
  dsimp only
  rcases htf with htf | htf <;>
    (refine wpAny_bind ((looks_typeIn X htf).here ?_)
     rw [if_neg (by decide)]
     refine wpAny_bind (wpAny_loadPart hx ?_)
     dsimp only
     unfold nsGet
     refine wpAny_bind (wpAny_bind (wpAny_loadPart hd ?_))
     rw [nsLook_of hl]
     refine wpAny_pure ?_
     simp only [Option.isSome_none, Bool.false_eq_true, if_false]
     exact wpAny_bind (wpAny_rule (wpAny_pure h)))
theorem lsub_getAttr {od : Obj} {name : Str} {expr : Bool} {Q : Value → Shared → Prop} (X : K.In s.heap) (hx : s.heap.get? x = some (lobj C d items n)) (hd : s.heap.get? d = some od)
    (hga : findIn K (.ref C) "__getattribute__" = some (some (.builtin "list.__getattribute__"))) (hgt : findIn K (.ref C) "__getattr__" = some none) (hl : subIn K (.ref C) (.type "list") = some true)
    (hf : findObj K C (some od) name = some (.value v)) (hh : handedIn v = true) (h : Q v { s with toks := s.toks + 1 }) : wpAny (model prog w) A (getAttr (.ref x) name expr) Q E s := by
  have I : InstAt s.heap x (lobj C d items n) C (some od) := ⟨hx, rfl, rfl, hd⟩
  have L1 := looks_find (M := model prog w) X I hf
  have T := lsub_type (prog := prog) (w := w) hx
  have S := lsub_is (prog := prog) (w := w) X hx hl
  have Lg := looks_findIn (M := model prog w) X hga
  have Lt := looks_findIn (M := model prog w) X hgt
  obtain ⟨hp, g, dr, t, os⟩ := s
  unfold getAttr getAttrBy
  refine wpAny_bind (wpAny_mkText (wpAny_holding (wpAny_bind (T.at (wpAny_bind (Lg.at ?_))))))
  show wpAny _ _ (getAttrByItsOwn _ _ _ _ _ _) _ _ _
  unfold getAttrByItsOwn
  refine wpAny_bind (m := hookBefore (.ref C)) (Lt.at ?_)
  refine wpAny_bind (wpAny_attempt (wpAny_holding ?_))
  show wpAny _ _ (callGetattribute _ _ _ _) _ _ _
  unfold callGetattribute
  rw [show (expr && onTheHeap (.builtin "list.__getattribute__")) = false from by cases expr <;> rfl]
  simp only [Bool.false_eq_true, if_false]
  unfold boundAndCalled
  refine wpAny_bind (wpAny_of_eq (PySem.F.slot_list_getattribute.bind _) ?_)
  refine sub_call (owner := "list") (nm := "__getattribute__") (by decide +kernel) (.inl (by decide +kernel)) (by decide +kernel) am_entry_list_getattribute S (by unfold argsOk; kernel_rfl) ?_
  unfold Builtin.«object.__getattribute__»
  refine wpAny_bind (wpAny_pure (wpAny_bind (wpAny_pure (wpAny_bind (T.at (wpAny_bind (L1.at ?_)))))))
  refine wpAny_pure ⟨v, rfl, ?_⟩
  show wpAny _ _ (handedOut v) _ _ _
  rw [handedOut_of hh]; exact wpAny_pure h
end
end
section
theorem rowsA9_0 : True := by
  w_top off
  k_with_none
  trivial
theorem slot_wd_get : Slot "wrapper_descriptor" "__get__" "wrapper_descriptor.__get__" := .of (owner := "wrapper_descriptor") (n := "__get__") (by rw [typeLookup_type, builtinLookup_eq_fast]; kernel_rfl) (by decide +kernel) (by decide +kernel) (by decide +kernel)
  (by first | exact .inl (by decide +kernel) | exact .inr (by decide +kernel)) (by rw [isSubtype_type]; kernel_rfl)
theorem entry_wd_get : entryFor table "wrapper_descriptor.__get__" = some Builtin.«wrapper_descriptor.__get__» := entryFor_of_tree (by kernel_rfl)
theorem args_wd_get (a b c : Value) : argsOk "wrapper_descriptor.__get__" ⟨[a, b, c], []⟩ := by unfold argsOk; kernel_rfl
abbrev mwObj (id : String) (x : Addr) : Obj := { cls := .type "method-wrapper", dict := none, data := .fields #[.builtin id, .ref x], slots := #[] }
section
variable {prog : Program} {w : World} {A : Around} {E : Value → Shared → Prop} {h : Heap} {g : Array GenState} {dr : Drawn} {t : Nat} {os : OsState}
theorem sup_get {id : String} {x C d : Addr} {items : Array Value} {n : Nat} {Cv : Value} {Q : Fin → Shared → Prop} (hid : id = "list.__len__" ∨ id = "list.__init__") (hx : h.get? x = some (lobj C d items n)) (hs : Looks (model prog w) h (isSubtype (.ref C) (.type "list")) true)
    (hq : Q (.done (.ret (.ref h.objs.size))) ⟨h.push (mwObj id x), g, dr, t, os⟩) :
    wpAny (model prog w) A (Builtin.«wrapper_descriptor.__get__» ⟨[.builtin id, .ref x, Cv], []⟩) Q E ⟨h, g, dr, t, os⟩ := by
  have he1 : ".".intercalate ("list.__len__".cutAt '.').dropLast = "list" := by decide +kernel
  have he2 : ".".intercalate ("list.__init__".cutAt '.').dropLast = "list" := by decide +kernel
  unfold Builtin.«wrapper_descriptor.__get__»
  rcases hid with rfl | rfl <;>
    (repeat (first | (with_reducible refine wpAny_loadPart_at hx ?_) | (with_reducible refine Looks.at hs ?_) | (simp only [he1, he2]; with_reducible refine Looks.at hs ?_) | (unfold newFields; with_reducible refine wpAny_newObj_type ?_ (by size_fits)) | (with_reducible refine wpAny_newObj_type ?_ (by size_fits)) | wp_step)
     exact hq)
theorem sup_ga {id : String} {so D x C d : Addr} {items : Array Value} {n : Nat} {l₀ l : List Value} {K : Frag} {name : Str} {tk : Tok} {Q : Fin → Shared → Prop} (hid : id = "list.__len__" ∨ id = "list.__init__")
    (hso : h.get? so = some (ks_superObj D x C)) (hno : Looks (model prog w) h (opaqueClassAbove (.ref C)) none)
    (hC : Looks (model prog w) h (mroOf (.ref C)) l₀) (hl : (l₀.dropWhile (· != .ref D)).drop 1 = l) (X : K.In h)
    (hf : alongIn K name l = some (some (.builtin id))) (hx : h.get? x = some (lobj C d items n)) (hs : Looks (model prog w) h (isSubtype (.ref C) (.type "list")) true) (hxC : x ≠ C) (hn : (name == ("__class__" : Str)) = false)
    (hq : Q (.done (.ret (.ref h.objs.size))) ⟨h.push (mwObj id x), g, dr, t, os⟩) :
    wpAny (model prog w) A (Builtin.«super.__getattribute__» ⟨[.ref so, .str name tk], []⟩) Q E ⟨h, g, dr, t, os⟩ := by
  have hlk := slot_wd_get.lookup
  have hne : (Value.ref x == Value.ref C) = false := by simp [hxC]
  have hT : ∀ s : Shared, s.TypeIs (.builtin id) "wrapper_descriptor" := by
    intro s
    rcases hid with rfl | rfl <;> (show builtinType _ = _; rw [builtinType_eq_fast]; kernel_rfl)
  have hdt : (ks_superObj D x C).data = .fields #[.ref D, .ref x, .ref C] := rfl
  have f0 : (#[.ref D, .ref x, .ref C] : Array Value)[0]? = some (.ref D) := rfl
  have f1 : (#[.ref D, .ref x, .ref C] : Array Value)[1]? = some (.ref x) := rfl
  have f2 : (#[.ref D, .ref x, .ref C] : Array Value)[2]? = some (.ref C) := rfl
  unfold Builtin.«super.__getattribute__»
  repeat (first
    | (with_reducible refine wpAny_field hso hdt f0 ?_) | (with_reducible refine wpAny_field hso hdt f1 ?_) | (with_reducible refine wpAny_field hso hdt f2 ?_)
    | (with_reducible refine ks_wpAny_notOpaque hno ?_)
    | (with_reducible refine Looks.at hC ?_; rw [hl])
    | (refine ks_forIn_along X (fun _ _ => rfl) rfl ?_ hf)
    | (with_reducible refine wpAny_typeOf (hT _) ?_)
    | (with_reducible refine wpAny_call_entry slot_wd_get (hT _) entry_wd_get ?_ (args_wd_get _ _ _))
    | (with_reducible refine sup_get hid hx hs ?_)
    | (with_reducible refine ⟨_, rfl, ?_⟩)
    | (simp only [hn, hne, Bool.or_false, Bool.false_eq_true, if_false])
    | wp_step
    | dsimp only)
  all_goals exact hq
theorem sup_getMethod {id : String} {so D x C d : Addr} {items : Array Value} {n : Nat} {l₀ l : List Value} {K : Frag} {name : Str} {pl : Sem Bool} {Q : Value × List Value → Shared → Prop} (hid : id = "list.__len__" ∨ id = "list.__init__")
    (hso : h.get? so = some (ks_superObj D x C)) (hno : Looks (model prog w) h (opaqueClassAbove (.ref C)) none)
    (hC : Looks (model prog w) h (mroOf (.ref C)) l₀) (hl : (l₀.dropWhile (· != .ref D)).drop 1 = l) (X : K.In h)
    (hf : alongIn K name l = some (some (.builtin id))) (hx : h.get? x = some (lobj C d items n)) (hs : Looks (model prog w) h (isSubtype (.ref C) (.type "list")) true) (hxC : x ≠ C) (hn : (name == ("__class__" : Str)) = false)
    (hq : Q (.ref h.objs.size, []) ⟨h.push (mwObj id x), g, dr, t + 1, os⟩) :
    wpAny (model prog w) A (getMethod (.ref so) name pl) Q E ⟨h, g, dr, t, os⟩ := by
  have hlk := PySem.F.ks_slot_super_ga.lookup
  have hcan := PySem.F.ks_canon_super_ga
  have hT : ∀ t', (⟨h, g, dr, t', os⟩ : Shared).TypeIs (.ref so) "super" := fun _ => ⟨_, hso, rfl⟩
  unfold getMethod
  refine wpAny_bind (wpAny_specialOf (hT _) hlk ?_)
  show wpAny _ _ (if (Manifest.canonical "super.__getattribute__" != "object.__getattribute__") = true then _ else _) _ _ _
  rw [if_pos hcan]
  unfold getAttr getAttrBy
  refine wpAny_bind (wpAny_bind (wpAny_mkText (wpAny_holding (wpAny_bind (wpAny_typeOf (hT _) (wpAny_bind (wpAny_of_eq hlk ?_)))))))
  show wpAny _ _ (getAttrByItsOwn (.ref so) (.str name t) (.type "super") (.builtin "super.__getattribute__") true false) _ _ _
  unfold getAttrByItsOwn hookBefore callGetattribute boundAndCalled
  refine wpAny_bind (wpAny_of_eq (show (if onTheHeap (.type "super") then typeLookup (.type "super") "__getattr__" else pure none) = pure none from rfl) ?_)
  refine wpAny_bind (wpAny_attempt (wpAny_holding ?_))
  show wpAny _ _ (bindSpecial (.builtin "super.__getattribute__") (.ref so) >>= _) _ _ _
  refine wpAny_bind (wpAny_of_eq (PySem.F.ks_slot_super_ga.bind _) ?_)
  refine wpAny_mono (Q := fun v s' => v = .ref h.objs.size ∧ s' = ⟨h.push (mwObj id x), g, dr, t + 1, os⟩) (E := fun _ _ => False)
    (wpAny_call_entry PySem.F.ks_slot_super_ga (hT _) PySem.F.ks_entry_super_ga (sup_ga hid hso hno hC hl X hf hx hs hxC hn ⟨_, rfl, rfl, rfl⟩) (PySem.F.ks_gaArgs_super _ _)) (fun v s' hv => ?_) fun _ _ z => z.elim
  obtain ⟨rfl, rfl⟩ := hv
  exact wpAny_pure (wpAny_pure hq)
end
section
variable {prog : Program} {w : World} {A : Around} {E : Value → Shared → Prop} {s : Shared} {K : Frag} {x d C : Addr} {items : Array Value} {n : Nat} {v : Value}
theorem mw_callWith {M : Model} {pos : Pos} {u : Addr} {id : String} {env : Env} {Q : Value → Shared → Prop} (hu : s.heap.get? u = some (mwObj id x)) (h : wpAny M A (call (.ref u) []) Q E s) :
    wpAny M A (callWith pos (.ref u) [] (backTo pos (starEach [] env)) []) Q E s := by
  unfold callWith
  refine wpAny_bind (wpAny_holding (wpAny_mono (Q := fun a s' => a = ⟨[], []⟩ ∧ s' = s) (E := E) ?_ (fun a s' ha => ?_) fun _ _ e => e))
  · exact wpAny_of_eq (a := ⟨[], []⟩) (by rfl) ⟨rfl, rfl⟩
  · obtain ⟨rfl, rfl⟩ := ha
    refine wpAny_bind (wpAny_standAt ?_)
    refine wpAny_bind (m := keeperOf (.ref u)) ?_
    unfold keeperOf
    refine wpAny_bind (wpAny_load hu ?_)
    refine wpAny_pure (a := Keeper.machine) ?_
    exact wpAny_bind (wpAny_mono h (fun r s₂ hr => wpAny_bind (wpAny_holding (wpAny_point (wpAny_pure hr)))) fun _ _ x => x)
theorem mw_check (x : Value) (id : String) (hid : id = "list.__len__" ∨ id = "list.__init__") : checkBoundCall id ⟨[x], []⟩ = pure () := by
  rcases hid with rfl | rfl <;> kernel_rfl
theorem mw_call {u : Addr} {id : String} {b : Builtin} {Q : Value → Shared → Prop} (hid : id = "list.__len__" ∨ id = "list.__init__") (hu : s.heap.get? u = some (mwObj id x))
    (hb : entryFor table id = some b)
    (hc : wpAny (model prog w) A.in1 (b ⟨[.ref x], []⟩) (fun fin s' => ∃ v, fin = .done (.ret v) ∧ Q v s') E s) : wpAny (model prog w) A (call (.ref u) []) Q E s := by
  refine wpAny_call (codeAny_of_tree ?_)
  show wpAny _ A.in1 (callAny (.ref u) _) _ _ _
  unfold callAny
  refine wpAny_bind (wpAny_load hu ?_)
  have hq : plainId id = true := by rcases hid with rfl | rfl <;> decide +kernel
  show wpAny _ _ (checkBoundCall id ⟨[.ref x], []⟩ >>= fun _ => again (.builtin id ⟨[.ref x], []⟩)) _ _ _
  refine wpAny_bind (wpAny_of_eq (mw_check _ _ hid) (wpAny_pure ⟨plainId_quiet hq _, codeAny_builtin hb ?_⟩))
  rw [Around.under_plainId hq _]
  exact wpAny_mono hc (fun fin s' h => by obtain ⟨v, rfl, h⟩ := h; exact h) fun _ _ e => e
end
end
section
theorem rowsA10_0 : True := by
  w_top off
  k_with_none
  trivial
section
variable {prog : Program} {w : World} {A : Around} {E : Value → Shared → Prop} {s : Shared} {K : Frag} {x d C L so u : Addr} {h₀ : Heap} {m : Str → Option Value} {news : List (Addr × Obj)} {items : Array Value} {n : Nat} {v : Value} {g : Obj → List (Addr × Obj)}
theorem accInst {h : Heap} {od : Obj} (N : News h₀ L h news) (h1 : (x, lobj C d items n) ∈ news) (h2 : (d, od) ∈ news) : InstAt h x (lobj C d items n) C (some od) := ⟨(N _ h1).1, rfl, rfl, (N _ h2).1⟩
theorem acc_set {o o' : Obj} {h' : Heap} (F : Fr h₀ L s.heap m) (N : News h₀ L s.heap news) (U : UpdF x o news g) (hs : Heap.SameBut x s.heap h') (ho : h'.get? x = some o') : Fr h₀ L h' m ∧ News h₀ L h' (g o') := by
  obtain ⟨pre, post, rfl, hg, a, b⟩ := U.split
  have z := N (x, o) (List.mem_append.mpr (.inr (.head _)))
  exact ⟨F.change hs z.2.1 z.2.2, hg o' ▸ news_set N a b hs ho⟩
theorem UpdF.get {o : Obj} {h : Heap} (N : News h₀ L h news) (U : UpdF x o news g) : h.get? x = some o := by
  obtain ⟨pre, post, rfl, hg, a, b⟩ := U.split
  exact (N (x, o) (List.mem_append.mpr (.inr (.head _)))).1
theorem acc_method {od : Obj} {f : Value} {name : Str} {ga : String} {pl : Sem Bool} {Q : Value × List Value → Shared → Prop} (F : Fr h₀ L s.heap m) (X₀ : K.In h₀) (N : News h₀ L s.heap news) (hm : (x, lobj C d items n) ∈ news) (hd : (d, od) ∈ news)
    (hga : findIn K (.ref C) "__getattribute__" = some (some (.builtin ga))) (hc : (Manifest.canonical ga != "object.__getattribute__") = false) (hgt : findIn K (.ref C) "__getattr__" = some none)
    (hf : findIn K (.ref C) name = some (some f)) (htf : typeIn K f = some (.type "function") ∨ typeIn K f = some (.type "method_descriptor")) (hl : lookIn name od = some none)
    (h : Q (f, [.ref x]) s) : wpAny (model prog w) A (getMethod (.ref x) name pl) Q E s :=
  lsub_getMethod (X₀.keeps F.keep) (N _ hm).1 (N _ hd).1 hga hc hgt hf htf hl h
theorem acc_getAttr {es : List DictEntry} {k : Nat} {name : Str} {expr : Bool} {attr : Option Value} {Q : Value → Shared → Prop} (F : Fr h₀ L s.heap m) (X₀ : K.In h₀) (N : News h₀ L s.heap news) (hm : (x, lobj C d items n) ∈ news) (hd : (d, dictOf es k) ∈ news)
    (hga : findIn K (.ref C) "__getattribute__" = some (some (.builtin "list.__getattribute__"))) (hgt : findIn K (.ref C) "__getattr__" = some none) (hl : subIn K (.ref C) (.type "list") = some true) (hh : hasDictIn K C = true)
    (ha : findIn K (.ref C) name = some attr) (hn : noGet K attr = true) (hg : getL name es = some (some v)) (hv : handedIn v = true) (h : Q v { s with toks := s.toks + 1 }) : wpAny (model prog w) A (getAttr (.ref x) name expr) Q E s :=
  lsub_getAttr (X₀.keeps F.keep) (N _ hm).1 (N _ hd).1 hga hgt hl (findObj_own hh ha hn hg) hv h
theorem acc_append {Q : Value → Shared → Prop} (F : Fr h₀ L s.heap m) (X₀ : K.In h₀) (N : News h₀ L s.heap news) (U : UpdF x (lobj C d items n) news g) (hl : subIn K (.ref C) (.type "list") = some true) (hsz : items.size ≤ 10000)
    (h : ∀ h' n', Fr h₀ L h' m → News h₀ L h' (g (lobj C d (items.push v) n')) → Q .none { s with heap := h' }) :
    wpAny (model prog w) A (call (.builtin "list.append") [.ref x, v]) Q E s :=
  lsub_append (X₀.keeps F.keep) (UpdF.get N U) hl (fun h' hs ho => let ⟨F', N'⟩ := acc_set F N U hs ho; h h' _ F' N') (by rw [sizeLine_eq]; omega)
theorem acc_slice {value slice : Expr} {vl vu : Value} {lo hi : Option Int} {Q : Value → Shared → Prop} (F : Fr h₀ L s.heap m) (X₀ : K.In h₀) (N : News h₀ L s.heap news) (hm : (x, lobj C d items n) ∈ news) (hl : subIn K (.ref C) (.type "list") = some true)
    (hn : noSeq K C = true) (hf : findIn K (.ref C) "__getitem__" = some (some (.builtin "list.__getitem__"))) (pl : IsPart vl lo) (pu : IsPart vu hi) (hsz : items.size ≤ 10000)
    (h : ∀ D h', Fr h₀ L h' m → News h₀ L h' ((D, W.listOf (slicePick items lo hi none) 0) :: news) → (∀ p ∈ news, p.1 < D) → Q (.ref D) { s with heap := h' })
    (hs : subscripted slice false (.ref x) (.ref s.heap.objs.size) = operate [.ref s.heap.objs.size, .ref x] (getItem (.ref x) (.ref s.heap.objs.size)))
    (ht : ∀ r, letTemporaryGo value (.ref x) r = pure ()) :
    wpAny (model prog w) A (subscriptTail value slice (.ref x) (.ref s.heap.objs.size)) Q E { s with heap := s.heap.push { cls := .type "slice", data := .fields #[vl, vu, .none] } } := by
  have X : K.In (s.heap.push { cls := .type "slice", data := .fields #[vl, vu, .none] }) := X₀.keeps (F.push _).keep
  have hx : (s.heap.push { cls := .type "slice", data := .fields #[vl, vu, .none] }).get? x = some (lobj C d items n) := Heap.get?_push_of_some _ (N _ hm).1
  refine lsub_sub (s := { s with heap := s.heap.push { cls := .type "slice", data := .fields #[vl, vu, .none] } }) X hx hf ?_ hs ht
  unfold getItem
  refine wpAny_holding (wpAny_bind ?_)
  refine lsub_key X hx hn ?_
  refine wpAny_bind (lsub_special X hx hf slot_list_getitem.bind ?_)
  refine lsub_slice X hx hl (Heap.IsSliceOf.new ..) pl pu .none (by simp) (wpAny_pure ?_) (by rw [sizeLine_eq]; omega)
  have F1 := F.push { cls := .type "slice", data := .fields #[vl, vu, .none] }
  have N1 := News.push F1 (N.grown fun _ _ e => Heap.get?_push_of_some _ e) (W.listOf (slicePick items lo hi none) 0)
  exact h _ _ (F1.push _) N1 fun p hp => by
    show p.1 < (s.heap.push _).objs.size
    rw [Heap.size_push]
    exact Nat.lt_succ_of_lt (Heap.lt_size (N p hp).1)
theorem acc_store {y : Addr} {vl vu : Value} {lo hi : Option Int} {its : Array Value} {k : Nat} {Q : Unit → Shared → Prop} (F : Fr h₀ L s.heap m) (X₀ : K.In h₀) (N : News h₀ L s.heap news) (U : UpdF x (lobj C d items n) news g) (hl : subIn K (.ref C) (.type "list") = some true)
    (hn : noSeq K C = true) (hf : findIn K (.ref C) "__setitem__" = some (some (.builtin "list.__setitem__"))) (hy : (y, W.listOf its k) ∈ news) (hxy : x ≠ y) (pl : IsPart vl lo) (pu : IsPart vu hi) (hsz : items.size + its.size ≤ 10000)
    (h : ∀ h' n', Fr h₀ L h' m → News h₀ L h' (g (lobj C d (items.extract 0 (sliceBounds lo hi none items.size).1.toNat ++ its ++ items.extract (max (sliceBounds lo hi none items.size).1 (sliceBounds lo hi none items.size).2.1).toNat items.size) n')) → Q () { s with heap := h' }) :
    wpAny (model prog w) A (setItem (.ref x) (.ref s.heap.objs.size) (.ref y)) Q E { s with heap := s.heap.push { cls := .type "slice", data := .fields #[vl, vu, .none] } } := by
  have up : ∀ b o, s.heap.get? b = some o → (s.heap.push { cls := .type "slice", data := .fields #[vl, vu, .none] }).get? b = some o := fun b o e => Heap.get?_push_of_some _ e
  have X : K.In (s.heap.push { cls := .type "slice", data := .fields #[vl, vu, .none] }) := X₀.keeps (F.push _).keep
  have hx := up _ _ (UpdF.get N U)
  unfold setItem
  refine wpAny_holding (wpAny_bind ?_)
  refine lsub_key (s := { s with heap := s.heap.push { cls := .type "slice", data := .fields #[vl, vu, .none] } }) X hx hn ?_
  refine wpAny_bind (lsub_special X hx hf slot_list_setitem.bind ?_)
  refine lsub_store (y := y) (its := its) X hx hl ⟨_, up _ _ (N _ hy).1, rfl, _, rfl⟩ hxy (Heap.IsSliceOf.new ..) pl pu (fun h' n' hs ho => wpAny_pure ?_) hsz
  obtain ⟨F', N'⟩ := acc_set (s := { s with heap := s.heap.push { cls := .type "slice", data := .fields #[vl, vu, .none] } }) (F.push _) (N.grown up) U hs ho
  exact h h' n' F' N'
theorem acc_super {id : String} {D : Addr} {name : Str} {pl : Sem Bool} {Q : Value × List Value → Shared → Prop} (hid : id = "list.__len__" ∨ id = "list.__init__") (F : Fr h₀ L s.heap m) (X₀ : K.In h₀) (N : News h₀ L s.heap news) (hso : (so, ks_superObj D x C) ∈ news) (hm : (x, lobj C d items n) ∈ news)
    (ho : nsIn K cStatics "thirdparty.any" = some none) (hf : ks_superIn K C D name = some (some (.builtin id))) (hl : subIn K (.ref C) (.type "list") = some true) (hn : (name == ("__class__" : Str)) = false)
    (h : ∀ q h', Fr h₀ L h' m → News h₀ L h' ((q, mwObj id x) :: news) → (∀ p ∈ news, p.1 < q) → Q (.ref q, []) { s with heap := h', toks := s.toks + 1 }) : wpAny (model prog w) A (getMethod (.ref so) name pl) Q E s := by
  have X : K.In s.heap := X₀.keeps F.keep
  have hx := (N _ hm).1
  obtain ⟨hh, gs, dr, t, os⟩ := s
  cases hc : clsIn K C with
  | none => unfold ks_superIn at hf; rw [hc] at hf; cases hf
  | some cd =>
    unfold ks_superIn at hf
    rw [hc] at hf
    have hxC : x ≠ C := by
      rintro rfl
      unfold clsIn at hc
      split at hc
      · rename_i c d cd' sl ho
        have e := X _ _ ho
        rw [hx] at e
        cases e
      · cases hc
    refine sup_getMethod hid (N _ hso).1 (looks_opaque X ho) (l₀ := cd.mro) ?_ rfl X hf hx (looks_subIn X hl) hxC hn ?_
    · exact fun A Q E s k q => wpAny_bind ((looks_clsIn X hc) A _ E s k (wpAny_pure q))
    · obtain ⟨F', N', l'⟩ := ks_newsPush (s := ⟨hh, gs, dr, t, os⟩) (o := mwObj id x) F N rfl (Heap.get?_push_at rfl rfl) (fun b o e => Heap.get?_push_of_some _ e)
      exact h _ _ F' N' l'
theorem acc_mwWith {M : Model} {pos : Pos} {id : String} {env : Env} {Q : Value → Shared → Prop} (N : News h₀ L s.heap news) (hu : (u, mwObj id x) ∈ news) (h : wpAny M A (call (.ref u) []) Q E s) :
    wpAny M A (callWith pos (.ref u) [] (backTo pos (starEach [] env)) []) Q E s := mw_callWith (N _ hu).1 h
theorem acc_mwLen {Q : Value → Shared → Prop} (F : Fr h₀ L s.heap m) (X₀ : K.In h₀) (N : News h₀ L s.heap news) (hu : (u, mwObj "list.__len__" x) ∈ news) (hm : (x, lobj C d items n) ∈ news)
    (h : ∀ t k, Q (.int items.size t) { s with toks := k }) : wpAny (model prog w) A (call (.ref u) []) Q E s := by
  have hx := (N _ hm).1
  refine mw_call (.inl rfl) (N _ hu).1 entry_list_len ?_
  show wpAny _ _ (seqSize x >>= _) _ _ s
  unfold seqSize
  repeat wp_step
  exact ⟨_, rfl, h _ _⟩
theorem acc_mwInit {Q : Value → Shared → Prop} (F : Fr h₀ L s.heap m) (X₀ : K.In h₀) (N : News h₀ L s.heap news) (hu : (u, mwObj "list.__init__" x) ∈ news) (U : UpdF x (lobj C d #[] n) news g)
    (h : ∀ h' n', Fr h₀ L h' m → News h₀ L h' (g (lobj C d #[] n')) → Q .none { s with heap := h' }) : wpAny (model prog w) A (call (.ref u) []) Q E s := by
  have hx := UpdF.get N U
  refine mw_call (.inr rfl) (N _ hu).1 PySem.F.entry_list_init ?_
  show wpAny _ _ (Builtin.List.listItems (.ref x) >>= _) _ _ s
  unfold Builtin.List.listItems
  refine wpAny_bind (wpAny_bind (wpAny_seqItems hx rfl (wpAny_pure ?_)))
  show wpAny _ _ (updateSeq x (fun _ => #[]) >>= _) _ _ s
  refine wpAny_bind ?_
  refine wpAny_updateSeq hx rfl (wpAny_bind (wpAny_letGo (wpAny_pure ⟨.none, rfl, ?_⟩)))
  obtain ⟨F', N'⟩ := acc_set (o' := Obj.mapSeq (fun _ => #[]) (lobj C d #[] n)) F N U (Heap.SameBut.update s.heap x (Obj.mapSeq fun _ => #[])) (Heap.get?_update_self _ hx (by rfl))
  exact h _ _ F' N'
end
section
open Builtin Builtin.ObjectAttr
variable {prog : Program} {w : World} {A : Around} {E : Value → Shared → Prop} {s : Shared} {K : Frag} {x d C L so u : Addr} {h₀ : Heap} {m : Str → Option Value} {news : List (Addr × Obj)} {items : Array Value} {n : Nat} {v : Value} {g : Obj → List (Addr × Obj)}
theorem refuse_list (self : Value) (C : Addr) : refuseLoop self "__setattr__" [.ref C, .type "list", .type "object"] = pure () := by
  rw [refuseLoop_ref]
  kernel_rfl
theorem acc_storeDict {name : Str} {tk : Tok} {es es' : List DictEntry} {k k' : Nat} {Q : Fin → Shared → Prop} (F : Fr h₀ L s.heap m) (N : News h₀ L s.heap news) (U : UpdF d (dictOf es k) news g)
    (hl : (getL name es).isSome = true) (e : (putL name (PyData.keyHash w.params name) (.str name s.toks) v es, putN name es k) = (es', k')) (hz : es'.length ≤ 100)
    (h : ∀ h', Fr h₀ L h' m → News h₀ L h' (g (dictOf es' k')) → Q (.done (.ret .none)) { s with heap := h', toks := s.toks + 1 }) :
    wpAny (model prog w) A (storeInDict d (.str name tk) name v) Q E s := by
  obtain ⟨pre, post, rfl, hg, a, b⟩ := U.split
  have D := (N (d, dictOf es k) (List.mem_append.mpr (.inr (.head _)))).1
  obtain ⟨e1, e2⟩ := Prod.mk.inj e
  have ep : Obj.putName name (PyData.keyHash w.params name) (.str name s.toks) v (dictOf es k) = dictOf es' k' := by rw [putName_dict, e1, e2]
  obtain ⟨U1, U2⟩ := news_upd (f := Obj.putName name (PyData.keyHash w.params name) (.str name s.toks) v) F N a b ep rfl
  have D' := (U2 (d, dictOf es' k') (List.mem_append.mpr (.inr (.head _)))).1
  unfold storeInDict newKeyGuard nsSet
  refine wpAny_bind (wpAny_pure (wpAny_bind ?_))
  refine wpAny_bind (wpAny_bind (wpAny_askSetting (wpAny_pure (wpAny_bind (wpAny_mkText (wpAny_bind (wpAny_loadPart D ?_)))))))
  have c : (!es.toArray.any (·.key.isStr name) && es.toArray.any (·.refKey)) = false := by
    rw [List.any_toArray, List.any_toArray]
    unfold getL at hl
    cases q : es.find? (·.key.isStr name) with
    | some en => rw [List.any_eq_true.mpr ⟨en, List.mem_of_find?_eq_some q, List.find?_some q⟩]; rfl
    | none =>
      rw [q] at hl
      dsimp only at hl
      split at hl
      · cases hl
      · rename_i z; rw [Bool.not_eq_true] at z; rw [z, Bool.and_false]
  dsimp only
  rw [aRefKeyMayBeTheName_at, c]
  refine wpAny_updatePart D ?_
  refine wpAny_bind (wpAny_lookBehind D' (pastItsLine_dict (by rw [List.size_toArray, sizeLine_eq]; omega)) ?_)
  exact wpAny_pure (h _ U1 (hg _ ▸ U2))
/-- storing an attribute on an object of a list's subclass -/
theorem acc_setAttr {cd : ClassData} {es es' : List DictEntry} {k k' : Nat} {name : Str} {Q : Unit → Shared → Prop} (F : Fr h₀ L s.heap m) (X₀ : K.In h₀) (N : News h₀ L s.heap news) (hm : (x, lobj C d items n) ∈ news) (U : UpdF d (dictOf es k) news g)
    (hc : clsIn K C = some cd) (hmro : cd.mro = [.ref C, .type "list", .type "object"]) (hdict : cd.hasDict = true) (hs : findIn K (.ref C) "__setattr__" = some (some (.builtin "object.__setattr__"))) (ht : findIn K (.ref C) name = some none)
    (hl : (getL name es).isSome = true) (e : (putL name (PyData.keyHash w.params name) (.str name (s.toks + 1)) v es, putN name es k) = (es', k')) (hz : es'.length ≤ 100)
    (h : ∀ h', Fr h₀ L h' m → News h₀ L h' (g (dictOf es' k')) → Q () { s with heap := h', toks := s.toks + 2 }) :
    wpAny (model prog w) A (setAttr (.ref x) name v) Q E s := by
  have X : K.In s.heap := X₀.keeps F.keep
  have D := UpdF.get N U
  have I : InstAt s.heap x (lobj C d items n) C (some (dictOf es k)) := ⟨(N _ hm).1, rfl, rfl, D⟩
  have hx := (N _ hm).1
  have SF := PySem.F.store_object
  have sub : Looks (model prog w) s.heap (isInstance (.ref x) (.type "object")) true := I.type.andThen (looks_mroIn X (by unfold mroIn; rw [hc, Option.bind_some, hmro]; simp))
  have hmr : Looks (model prog w) s.heap (mroOf (.ref C)) cd.mro := (looks_clsIn X hc).andThen .now
  have Lt := looks_findIn (M := model prog w) X ht
  have Lc := looks_clsIn (M := model prog w) X hc
  refine set_plain X I hs ?_
  have B : wpAny (model prog w) A.in1 (Builtin.«object.__setattr__» ⟨[.ref x, .str name s.toks, v], []⟩) (fun fin s' => match fin with | .done f => (match f with | .ret _ => Q () s' | _ => False) | .again c' => False) (fun e s' => E e s') { s with toks := s.toks + 1 } := by
    rw [osa_eq, refuse_eq]
    refine wpAny_bind (wpAny_bind (I.type.at (wpAny_bind (hmr.at ?_))))
    rw [hmro, refuse_list]
    refine wpAny_pure (wpAny_bind (I.type.at (wpAny_bind (Lt.at (wpAny_bind (wpAny_pure ?_))))))
    refine wpAny_bind (wpAny_pure (wpAny_bind (wpAny_bind (wpAny_loadPart hx (wpAny_bind (Lc.at ?_))))))
    rw [hdict]
    refine wpAny_pure (a := some d) ?_
    exact acc_storeDict (s := { s with toks := s.toks + 1 }) F N U hl e hz fun h' F' N' => h h' F' N'
  have hp : plainId "object.__setattr__" = true := SF.slot.plain
  have he : entryFor table "object.__setattr__" = some Builtin.«object.__setattr__» := SF.entry
  have hk : builtinKind "object.__setattr__" = some .slot := SF.kind
  have hsp : splitId "object.__setattr__" = some ("object", "__setattr__") := SF.split
  have ha : argsOk "object.__setattr__" ⟨[.ref x, .str name s.toks, v], []⟩ := SF.args (.ref x) (.str name s.toks) v
  clear SF
  refine codeAny_call_builtin hp he ?_
  refine @sub_check A.in1 _ { s with toks := s.toks + 1 } (model prog w) "object.__setattr__" "object" "__setattr__" (.ref x) [.str name s.toks, v] _ hsp (.inl hk) sub ha ?_
  exact wpAny_mono B (fun fin s' h => by rcases fin with (_ | _ | _ | _) | _ <;> first | exact h | exact h.elim) fun _ _ e => e
end
end
section
section
variable {prog : Program} {w : World} {A₀ A : Around} {s : Shared} {base h₀ : Heap} {outer : List Env} {L : Addr} {m : Str → Option Value} {env : Env} {need : List (Addr × Obj)} {K : Frag} {p : Program} {loose : List Str} {mean : ExcName → Option Value} {mg mb : Str → Option Value}
  {R : Result → Shared → Prop} {Post : List (Addr × Obj) → Value → Prop}
  {name qual : Str} {params : Arguments} {body : List Stmt} {scope : Scope} {dV kV doc pm cdv ct oc : Value} {an od : Option Addr} {osl : Array (Option Value)} {f cc : Addr} {args : Args} {binds : List (Str × Value)}
/-- con_def for a def that closes over its class -/
theorem con_defS (B : Below A₀ base outer h₀) (F : Fr h₀ L s.heap m) (X₀ : K.In h₀) (N : News h₀ L s.heap need) (T : Top p loose mean mg mb h₀) (hA : A.frames = some (env :: outer)) (hf : env.frame = some L) (hke : env.scope.kind = .function)
    (ho : K.lookup f = some ⟨oc, od, .func (ksFn name qual params body scope dV kV doc pm an cdv ct cc), osl⟩) (hcd : codeIn K cdv qual = true) (hroom : A.depth < recursionLimit)
    (hbind : BindsTo s (ksFn name qual params body scope dV kV doc pm an cdv ct cc) args binds) (hloc : ∀ y ∈ binds, scope.names.lookup y.1 = some .local)
    (hret : ∀ v s', LeaveC (hideAll s.heap (need.map (·.1))) need s Post v s' → R (.ok (.ret v)) s')
    (h : ∀ g L' h₁, (∀ b o, s.heap.get? b = some o → b ∉ need.map (·.1) → g.get? b = some o) → Fr g L' h₁ (fun y => binds.reverse.lookup y) → News g L' h₁ need → Below A base (env :: outer) g → K.In g → Top p loose mean mg mb g → (∀ p ∈ need, p.1 < L') →
      _root_.PySem.wpAt (model prog w) (A.deeper (ksEnv qual scope L' f cdv cc)) (.func body (ksEnv qual scope L' f cdv cc)) (execs body (ksEnv qual scope L' f cdv cc))
        (fun fl s' => LeaveC g need s Post (match fl with | .ret v => v | _ => .none) s')
        (fun _ _ => False)
        { s with heap := h₁, toks := s.toks + binds.length })
    (hco : scope.isCoroutine = false) (hgen : scope.isGenerator = false) (hk : scope.kind = .function)
    (hcell : ∀ x ∈ scope.names, x.2 ≠ .cell) :
    codeAny (model prog w) A (.call (.ref f) args) R s := by
  obtain ⟨FG, BG, st, lv⟩ := groundX (R := fun _ _ => True) B F N hA hf hke
  refine ks_codeAny_call_defAt (fd := ksFn name qual params body scope dV kV doc pm an cdv ct cc) (body := body) (binds := binds) hroom ((X₀.keeps F.keep) _ _ ho) rfl (T.nolimit.keeps F.keep) (codeRec_of (X₀.keeps F.keep) hcd) rfl hbind hcell hloc (fun h₁ hns hk₁ => ?_) hco hgen hk
  exact ks_wpAt_mono (h _ s.heap.objs.size h₁ (fun b o e hb => hideAll_get _ e hb) ⟨hns, fun b o e => hk₁ b o (of_hideAll _ e), Nat.le_of_eq (hideAll_size _ _)⟩
    (fun p hp => ⟨hk₁ _ _ (N p hp).1, Nat.ne_of_lt (Heap.lt_size (N p hp).1), hideAll_none _ (List.mem_map_of_mem hp)⟩) BG (X₀.keeps st) (T.keeps st) (fun p hp => Heap.lt_size (N p hp).1)) (fun fl s' hl => hret _ _ hl) fun _ _ y => y.elim
end
theorem pick_from (items : Array Value) (i : Int) (hi : 0 ≤ i) : slicePick items (some i) none none = (items.toList.drop i.toNat).toArray := by
  by_cases h : i.toNat ≤ items.size
  · have e := slicePick_from items i.toNat h
    rwa [Int.toNat_of_nonneg hi] at e
  · have e : sliceBounds (some i) none none items.size = ((items.size : Int), (items.size : Int), 1) := by
      simp only [sliceBounds, Option.getD_none]
      have h1 : ¬ (i < 0) := by omega
      simp only [h1, if_false, show (1 : Int) > 0 by decide, if_true]
      congr 1
      omega
    unfold slicePick
    rw [e]
    simp only [sliceRange_one, Nat.sub_self]
    rw [List.drop_of_length_le (by simp; omega)]
    rfl
theorem cut_from (items : Array Value) (i : Int) (hi : 0 ≤ i) : items.extract 0 (sliceBounds (some i) none none items.size).1.toNat ++ #[] ++ items.extract (max (sliceBounds (some i) none none items.size).1 (sliceBounds (some i) none none items.size).2.1).toNat items.size = (items.toList.take i.toNat).toArray := by
  have h1 : ¬ (i < 0) := by omega
  have e1 : (sliceBounds (some i) none none items.size).1 = min i (items.size : Int) := by
    simp only [sliceBounds, Option.getD_none, h1, if_false, show (1 : Int) > 0 by decide, if_true]
    omega
  have e2 : (sliceBounds (some i) none none items.size).2.1 = (items.size : Int) := by
    simp [sliceBounds]
  rw [e1, e2, show (max (min i (items.size : Int)) (items.size : Int)).toNat = items.size by omega]
  apply Array.ext'
  simp only [Array.append_empty, Array.toList_append, Array.toList_extract, List.extract_eq_take_drop, Nat.sub_self, List.take_zero, List.append_nil, Nat.sub_zero, List.drop_zero]
  by_cases h : i ≤ items.size
  · rw [show (min i (items.size : Int)).toNat = i.toNat by omega]
  · rw [show (min i (items.size : Int)).toNat = items.size by omega, List.take_of_length_le (by simp), List.take_of_length_le (by simp; omega)]
theorem cut_all (items its : Array Value) : items.extract 0 (sliceBounds none none none items.size).1.toNat ++ its ++ items.extract (max (sliceBounds none none none items.size).1 (sliceBounds none none none items.size).2.1).toNat items.size = its := by
  have e1 : (sliceBounds none none none items.size).1 = 0 := by simp [sliceBounds]
  have e2 : (sliceBounds none none none items.size).2.1 = (items.size : Int) := by simp [sliceBounds]
  rw [e1, e2, show (max (0 : Int) (items.size : Int)).toNat = items.size by omega]
  apply Array.ext'
  simp
local macro_rules | `(tactic| k_room) => `(tactic| ktr_room)
theorem rowsA11_0 : True := by
  w_top off
  k_with_none
  k_with "c.enter" => ((first
      | (refine' con_def ?k1q9 ?k2q9 ?k3q9 ?k4q9 ?k5q9 ?kAq9 ?kFq9 ?kKq9 ?k6q9 ?k7q9 ?k8q9 ?k9q9 ?kBq9 ?kRq9 ?_ ?c2q9 ?c3q9 ?c4q9 ?c5q9; (case kAq9 => exact rfl); (case kFq9 => exact rfl); (case kKq9 => assumption); (case k1q9 => k_asm); (case k2q9 => k_asm); (case k3q9 => k_asm); (case k4q9 => k_asm); (case k5q9 => k_asm); (case k6q9 => k_is); (case k7q9 => k_is); (case k8q9 => ktr_room); (case k9q9 => first | exact BindsTo.of_eq rfl | exact binds_K (by k_in) rfl (by k_is) rfl rfl rfl); (case c5q9 => decide); (case kBq9 => exact locs rfl); (case c2q9 => exact rfl); (case c3q9 => exact rfl); (case c4q9 => exact rfl); (case kRq9 => walk_at "c.ret"); k_whole; intro _ _ _ _ _ N'q9 _ _ _ l1q9; (try k_lt l1q9); (try (revert l1q9; intro _)); (try dsimp only); (try k_fold))
      | (refine' con_defC ?k1q9 ?k2q9 ?k3q9 ?k4q9 ?k5q9 ?kAq9 ?kFq9 ?kKq9 ?k6q9 ?k7q9 ?k8q9 ?k9q9 ?kBq9 ?kDq9 ?kRq9 ?_ ?c2q9 ?c3q9 ?c4q9; (case kAq9 => exact rfl); (case kFq9 => exact rfl); (case kKq9 => assumption); (case k1q9 => k_asm); (case k2q9 => k_asm); (case k3q9 => k_asm); (case k4q9 => k_asm); (case k5q9 => k_asm); (case k6q9 => k_is); (case k7q9 => k_is); (case k8q9 => ktr_room); (case k9q9 => first | exact BindsTo.of_eq rfl | exact binds_K (by k_in) rfl (by k_is) rfl rfl rfl); (case kBq9 => exact rfl); (case kDq9 => decide +kernel); (case c2q9 => exact rfl); (case c3q9 => exact rfl); (case c4q9 => exact rfl); (case kRq9 => walk_at "c.ret"); k_whole; intro _ _ _ _ _ _ _ N'q9 Y'q9 _ _ _ l1q9; (try k_lt l1q9); (try (revert l1q9; intro _)); k_cells Y'q9; (try simp only [List.cons_append, List.nil_append] at N'q9); (try dsimp only); (try k_fold))))
  k_with "c.ret" => ((intro _ _ hl9q9; exact con_back (by assumption) (by assumption) (by assumption) (by assumption) hl9q9))
  k_with "c.start" => ((unfold Con; k_fill; intro _ _ _ _ _ _ _ _ _ _ _ _ _ _ _ _ _ Bq9 Fq9 Xq9 Nq9 Tq9 _ _ _ hretq9; refine wpAny_call ?_; k_dflt walk_at "c.enter"; clear hretq9 Nq9 Fq9 Bq9 Xq9 Tq9))
  k_with "c.startCls" => ((unfold Con; k_fill; intro _ _ _ _ _ _ _ _ _ _ _ _ _ _ _ _ _ Bq9 Fq9 Xq9 Nq9 Tq9 _ _ _ hretq9; refine wpAny_call ?_; k_dflt walk_at "c.enterCls"; clear hretq9 Nq9 Fq9 Bq9 Xq9 Tq9))
  k_with "c.enterCls" => ((refine' con_cls ?k1q9 ?k2q9 ?k3q9 ?k5q9 ?kAq9 ?kFq9 ?kKq9 ?m1q9 ?m2q9 ?m3q9 ?k6q9 ?k7q9 ?k8q9 ?k9q9 ?kBq9 ?kRq9 ?_ ?c2q9 ?c3q9 ?c4q9 ?c5q9; (case kAq9 => exact rfl); (case kFq9 => exact rfl); (case kKq9 => assumption); (case k1q9 => k_asm); (case k2q9 => k_asm); (case k3q9 => k_asm); (case k5q9 => k_asm); (case m1q9 => k_is); (case m2q9 => k_is); (case m3q9 => k_is); (case k6q9 => k_is); (case k7q9 => k_is); (case k8q9 => ktr_room); (case k9q9 => intro _ _; exact BindsTo.of_eq rfl); (case c5q9 => decide); (case kBq9 => intro _; exact locs rfl); (case c2q9 => exact rfl); (case c3q9 => exact rfl); (case c4q9 => exact rfl); (case kRq9 => exact con_nil (by assumption)); k_whole; intro _ _ _ _ _ _ l0'q9 _ _ _ _ _ l1q9; (try k_lt2 l0'q9); (try (revert l0'q9; intro _)); (try k_lt2 l1q9); (try (revert l1q9; intro _)); (try dsimp only); (try k_fold)))
  k_with "CompSrc" => ((k_here; k_dflt (refine LCg.CompSrc.range (by rfl) (by k_asm) (by k_asm) (by assumption) (by first | decide | rfl) (by first | rfl | decide) (by first | size_fits | exact Nat.le_of_ble_eq_true rfl) ?_; intro _; lcg_lit)))
  k_with "binaryOp Mult str int" => ((k_here; (refine' r_mul ?haq9 ?hbq9 ?_); (case haq9 => ((try simp only [fmod_lit]); omega)); (case hbq9 => ((try simp only [fmod_lit]); omega)); intro _ _))
  k_with "binaryOp Add str str" => ((k_here; (refine' r_add ?haq9 ?hbq9 ?hcq9 ?_); (case haq9 => first | with_reducible exact S_tab | with_reducible exact S_blank | with_reducible rfl); (case hbq9 => first | with_reducible exact S_tab | with_reducible exact S_blank | with_reducible rfl); (case hcq9 => (simp [sp]; omega)); intro _ _))
  k_with "call builtin:str.join" => ((k_here; (first
      | refine' r_join (ls := [(_, _)]) ?hlq9 ?hiq9 ?hwq9 ?_; (case hlq9 => exact News.isList (by k_asm) (by k_mem)); (case hiq9 => exact rfl)
      | refine' r_join (ls := [(_, _), (_, _)]) ?hlq9 ?hiq9 ?hwq9 ?_; (case hlq9 => exact News.isList (by k_asm) (by k_mem)); (case hiq9 => exact rfl)
      | refine' r_join (ls := [(_, _), (_, _), (_, _)]) ?hlq9 ?hiq9 ?hwq9 ?_; (case hlq9 => exact News.isList (by k_asm) (by k_mem)); (case hiq9 => exact rfl)); (case hwq9 => (simp [sp, fmod_lit]; omega)); intro _ _; (try dsimp only)))
  k_with "call type:tuple" => ((k_here; k_dflt (refine' r_tuple ?Fq9 ?Nq9 ?mq9 ?_ ?zq9; (case Fq9 => k_asm); (case Nq9 => k_asm); (case mq9 => k_mem); (case zq9 => (have hc9 := sizeLine_eq; (have hI9 := IntsAre.length (by assumption)); omega)); k_whole); intro _ _ _ _ l1q9; (try k_lt l1q9); (try (revert l1q9; intro _))))
  k_with "call builtin:len" => ((k_here; (with_reducible show wpAny _ _ (call (Value.builtin "len") [Value.ref _]) _ _ _); k_dflt (refine' r_len_tupI ?Nq9 ?mq9 ?iq9 ?fq9 ?_; (case Nq9 => k_asm); (case mq9 => k_mem); (case iq9 => with_reducible assumption); (case fq9 => omega); k_whole); intro _ _))
  k_with "subscriptTail" => ((k_here; (with_reducible show wpAny _ _ (subscriptTail _ _ (Value.ref _) (Value.int _ _)) _ _ _); k_dflt (refine' r_item_tupI ?Nq9 ?mq9 ?iq9 ?aq9 ?bq9 ?cq9 ?_ ?eq9; (case Nq9 => k_asm); (case mq9 => k_mem); (case iq9 => with_reducible assumption); (case aq9 => omega); (case bq9 => omega); (case cq9 => omega); (case eq9 => with_unfolding_all rfl); k_whole); intro _))
  k_with "pyIter ref" => ((k_here; (with_reducible show wpAny _ _ (pyIter (Value.ref _)) (fun it s₂ => LoopAtV _ _ _ _ _ _ _ _ _ it s₂) _ _); refine Hold.of ?_))
  trivial
local macro_rules | `(tactic| k_inst) => `(tactic| (refine' accInst ?N ?h1 ?h2; (case N => k_asm); (case h1 => k_mem); (case h2 => k_mem)))
theorem rowsA11_1 : True := by
  k_with "c.startS" => ((unfold Con; k_fill; intro _ _ _ _ _ _ _ _ _ _ _ _ _ _ _ _ _ Bq9 Fq9 Xq9 Nq9 Tq9 _ _ _ hretq9; refine wpAny_call ?_; k_dflt walk_at "c.enterS"; clear hretq9 Nq9 Fq9 Bq9 Xq9 Tq9))
  k_with "c.enterS" => ((refine' con_defS ?k1q9 ?k2q9 ?k3q9 ?k4q9 ?k5q9 ?kAq9 ?kFq9 ?kKq9 ?k6q9 ?k7q9 ?k8q9 ?k9q9 ?kBq9 ?kRq9 ?_ ?c2q9 ?c3q9 ?c4q9 ?c5q9; (case kAq9 => exact rfl); (case kFq9 => exact rfl); (case kKq9 => assumption); (case k1q9 => k_asm); (case k2q9 => k_asm); (case k3q9 => k_asm); (case k4q9 => k_asm); (case k5q9 => k_asm); (case k6q9 => k_is); (case k7q9 => k_is); (case k8q9 => ktr_room); (case k9q9 => first | exact BindsTo.of_eq rfl | exact binds_K (by k_in) rfl (by k_is) rfl rfl rfl); (case c5q9 => decide); (case kBq9 => exact locs rfl); (case c2q9 => exact rfl); (case c3q9 => exact rfl); (case c4q9 => exact rfl); (case kRq9 => walk_at "c.ret"); k_whole; intro _ _ _ _ _ _ _ _ _ l1q9; (try k_lt l1q9); (try (revert l1q9; intro _)); (try dsimp only); (try k_fold)))
  k_with "getMethod ref" => ((k_here; (with_reducible show wpAny _ _ (getMethod (Value.ref _) _ _) _ _ _); k_dflt (refine' acc_method ?Fq9 ?Xq9 ?Nq9 ?mq9 ?dq9 ?gaq9 ?cq9 ?gtq9 ?fq9 ?tfq9 ?lq9 ?_; (case Fq9 => k_asm); (case Xq9 => assumption); (case Nq9 => k_asm); (case mq9 => k_mem); (case dq9 => k_mem); (case gaq9 => k_is); (case cq9 => decide +kernel); (case gtq9 => k_is); (case fq9 => k_is); (case tfq9 => first | exact .inl (by k_is) | exact .inr (by k_is)); (case lq9 => rfl)); k_whole))
  k_with "getMethod ref" => ((k_here; (with_reducible show wpAny _ _ (getMethod (Value.ref _) _ _) _ _ _); k_dflt (refine' acc_super ?idq9 ?Fq9 ?Xq9 ?Nq9 ?sq9 ?mq9 ?oq9 ?fq9 ?lq9 ?nq9 ?_; (case Fq9 => k_asm); (case Xq9 => assumption); (case Nq9 => k_asm); (case sq9 => k_mem); (case mq9 => k_mem); (case oq9 => k_is); (case fq9 => ks_is); (case lq9 => k_is); (case nq9 => decide); (case idq9 => first | exact .inl rfl | exact .inr rfl)); k_whole; intro _ _ _ _ l1q9; (try k_lt l1q9); (try (revert l1q9; intro _))))
  k_with "callWith ref" => ((k_here; (with_reducible show wpAny _ _ (callWith _ (Value.ref _) [] _ []) _ _ _); k_dflt (refine' acc_mwWith ?Nq9 ?mq9 ?_; (case Nq9 => k_asm); (case mq9 => k_mem)); k_whole))
  k_with "call ref" => ((k_here; (with_reducible show wpAny _ _ (call (Value.ref _) []) _ _ _); k_dflt (refine' acc_mwLen ?Fq9 ?Xq9 ?Nq9 ?uq9 ?mq9 ?_; (case Fq9 => k_asm); (case Xq9 => assumption); (case Nq9 => k_asm); (case uq9 => k_mem); (case mq9 => k_mem)); k_whole; intro _ _))
  k_with "call ref" => ((k_here; (with_reducible show wpAny _ _ (call (Value.ref _) []) _ _ _); k_dflt (refine' acc_mwInit ?Fq9 ?Xq9 ?Nq9 ?uq9 ?mq9 ?_; (case Fq9 => k_asm); (case Xq9 => assumption); (case Nq9 => k_asm); (case uq9 => k_mem); (case mq9 => k_updF)); k_whole; intro _ _ _ _))
  k_with "call builtin:list.append" => ((k_here; k_dflt (refine' acc_append ?Fq9 ?Xq9 ?Nq9 ?Uq9 ?lq9 ?zq9 ?_; (case Fq9 => k_asm); (case Xq9 => assumption); (case Nq9 => k_asm); (case Uq9 => k_updF); (case lq9 => k_is); (case zq9 => omega)); k_whole; intro _ _ _ _))
  k_with "subscriptTail" => ((k_here; (with_reducible show wpAny _ _ (subscriptTail _ _ (Value.ref _) (Value.ref _)) _ _ _); k_dflt (refine' acc_slice ?Fq9 ?Xq9 ?Nq9 ?mq9 ?lq9 ?nq9 ?fq9 ?plq9 ?puq9 ?zq9 ?_ ?hsq9 ?htq9; (case Fq9 => k_asm); (case Xq9 => assumption); (case Nq9 => k_asm); (case mq9 => k_mem); (case lq9 => k_is); (case nq9 => k_is); (case fq9 => k_is); (case plq9 => first | exact .none | exact .int _ _); (case puq9 => first | exact .none | exact .int _ _); (case zq9 => omega); (case hsq9 => with_unfolding_all rfl); (case htq9 => (intro _; with_unfolding_all rfl))); k_whole; intro _ _ _ _ l1q9; (try k_lt l1q9); (try (revert l1q9; intro _))))
  k_with "setItem ref ref" => ((k_here; (with_reducible show wpAny _ _ (setItem (Value.ref _) (Value.ref _) (Value.ref _)) _ _ _); k_dflt (refine' acc_store ?Fq9 ?Xq9 ?Nq9 ?Uq9 ?lq9 ?nq9 ?fq9 ?yq9 ?xyq9 ?plq9 ?puq9 ?zq9 ?_; (case Fq9 => k_asm); (case Xq9 => assumption); (case Nq9 => k_asm); (case Uq9 => k_updF); (case lq9 => k_is); (case nq9 => k_is); (case fq9 => k_is); (case yq9 => k_mem); (case xyq9 => k_ne); (case plq9 => first | exact .none | exact .int _ _); (case puq9 => first | exact .none | exact .int _ _); (case zq9 => ((try simp); omega))); k_whole; intro _ _ _ _))
  k_with "setAttr ref" => ((k_here; (with_reducible show wpAny _ _ (setAttr (Value.ref _) _ _) _ _ _); k_dflt (refine' acc_setAttr ?Fq9 ?Xq9 ?Nq9 ?mq9 ?Uq9 ?cq9 ?mrq9 ?hdq9 ?sq9 ?tq9 ?lq9 ?eq9 ?zq9 ?_; (case Fq9 => k_asm); (case Xq9 => assumption); (case Nq9 => k_asm); (case mq9 => k_mem); (case Uq9 => k_updF); (case cq9 => k_is); (case mrq9 => exact rfl); (case hdq9 => exact rfl); (case sq9 => k_is); (case tq9 => k_is); (case lq9 => k_get); (case eq9 => k_put); (case zq9 => exact Nat.le_of_ble_eq_true rfl)); k_whole; intro _ _ _; (try k_sweep)))
  k_with "getAttr ref" => ((k_here; (with_reducible show wpAny _ _ (getAttr (Value.ref _) _ _) _ _ _); k_dflt (refine' acc_getAttr ?Fq9 ?Xq9 ?Nq9 ?mq9 ?dq9 ?gaq9 ?gtq9 ?lq9 ?hhq9 ?haq9 ?hnq9 ?hgq9 ?hvq9 ?_; (case Fq9 => k_asm); (case Xq9 => assumption); (case Nq9 => k_asm); (case mq9 => k_mem); (case dq9 => k_mem); (case gaq9 => k_is); (case gtq9 => k_is); (case lq9 => k_is); (case hhq9 => k_is); (case haq9 => k_is); (case hnq9 => k_is); (case hgq9 => k_get); (case hvq9 => k_handed)); k_whole))
  k_with "wpAt" => ((dsimp only; ks_step "execs cons"; refine ks_wpAt_execs_cons ?_))
  k_with "wpAt" => (((try dsimp only); ks_step "exec Expr"; k_dflt (refine ks_wpAt_Expr_any ?_ (by rfl) (by rfl))))
  k_with "wpAt" => (((try dsimp only); ks_step "eval Call"; k_dflt (refine ks_wpAt_MethodCall ?_)))
  trivial
abbrev accD (w : World) (k1 t2 : Tok) (sz : Int) : Obj := dictOf [ent w "_initial_size" k1 (.int sz t2)] 1
theorem push_con (w : World) (mean : ExcName → Option Value) (mg mb : Str → Option Value) (x d : Addr) (items : Array Value) (n : Nat) (t0 t1 t2 k1 : Tok) (sz : Int) (hs : items.size ≤ 100) (hxd : @Ne Nat x d) :
    Con 10 w mean mg mb 111 [.ref x, .str (Str.ofString " ") t0, .str (Str.ofString " ") t1] [(x, lobj 167 d items n), (d, accD w k1 t2 sz)] (fun tl v => v = .none ∧ ∃ T n', tl = [(T, ({ cls := .type "tuple", data := .seq #[.str (Str.ofString " ") t0, .str (Str.ofString " ") t1] } : Obj)), (x, lobj 167 d (items.push (.ref T)) n'), (d, accD w k1 t2 sz)]) := by
  walk_at "c.start"
  k_steps
  dsimp only
  refine' LeaveC.intro _ ?F ?N ⟨rfl, _, _, rfl⟩
  (case F => k_asm)
  (case N => k_asm)
theorem pop_con (w : World) (mean : ExcName → Option Value) (mg mb : Str → Option Value) (x d : Addr) (items : Array Value) (n : Nat) (t0 t2 k1 : Tok) (i sz : Int) (hs : items.size ≤ 100) (hxd : @Ne Nat x d) (hi : 0 ≤ i) :
    Con 10 w mean mg mb 119 [.ref x, .int i t0] [(x, lobj 167 d items n), (d, accD w k1 t2 sz)] (fun tl v => ∃ y n', v = .ref y ∧ tl = [(y, W.listOf (items.toList.drop i.toNat).toArray 0), (x, lobj 167 d (items.toList.take i.toNat).toArray n'), (d, accD w k1 t2 sz)]) := by
  walk_at "c.start"
  k_steps
  dsimp only
  have e1 : slicePick items (some i) none none = (items.toList.drop i.toNat).toArray := pick_from items i hi
  have e2 : items.extract 0 (sliceBounds (some i) none none items.size).1.toNat ++ #[] ++ items.extract (max (sliceBounds (some i) none none items.size).1 (sliceBounds (some i) none none items.size).2.1).toNat items.size = (items.toList.take i.toNat).toArray := cut_from items i hi
  with_reducible rename News _ _ _ _ => lN
  rw [e1, e2] at lN
  refine' LeaveC.intro [(_, W.listOf (items.toList.drop i.toNat).toArray 0), (x, lobj 167 d (items.toList.take i.toNat).toArray _), (d, accD w k1 t2 sz)] ?F ?N ⟨_, _, rfl, rfl⟩
  (case F => k_asm)
  (case N => (refine' cb_drop ?A ?B; (case A => exact lN); (case B => lcg_sub)))
theorem count_con (w : World) (mean : ExcName → Option Value) (mg mb : Str → Option Value) (x d : Addr) (items : Array Value) (n : Nat) (t2 k1 : Tok) (sz : Int) (hs : items.size ≤ 100) :
    ConK 10 w mean mg mb 164 [.ref x] [(x, lobj 167 d items n), (d, accD w k1 t2 sz)] (fun tl v => tl = [] ∧ ∃ tk, v = .int items.size tk) := by
  unfold ConK
  walk_at "c.startS"
  k_steps
  dsimp only
  refine' LeaveC.intro [(x, lobj 167 d items n), (d, accD w k1 t2 sz)] ?F ?N ⟨[], rfl, rfl, _, rfl⟩
  (case F => k_asm)
  (case N => (refine' cb_drop ?A ?B; (case A => k_asm); (case B => lcg_sub)))
theorem reset_con (w : World) (mean : ExcName → Option Value) (mg mb : Str → Option Value) (x d y : Addr) (items its : Array Value) (n ny : Nat) (t2 k1 : Tok) (sz : Int) (hs : items.size ≤ 100) (hs' : its.size ≤ 100) (hxd : @Ne Nat x d) (hxy : @Ne Nat x y) (hdy : @Ne Nat d y) :
    Con 10 w mean mg mb 149 [.ref x, .ref y] [(x, lobj 167 d items n), (d, accD w k1 t2 sz), (y, W.listOf its ny)] (fun tl v => v = .none ∧ ∃ n' t2', tl = [(x, lobj 167 d its n'), (d, accD w k1 t2' 0), (y, W.listOf its ny)]) := by
  walk_at "c.start"
  k_steps
  dsimp only
  have e2 : items.extract 0 (sliceBounds none none none items.size).1.toNat ++ its ++ items.extract (max (sliceBounds none none none items.size).1 (sliceBounds none none none items.size).2.1).toNat items.size = its := cut_all items its
  with_reducible rename News _ _ _ _ => lN
  rw [e2] at lN
  refine' LeaveC.intro _ ?F lN ⟨rfl, _, _, rfl⟩
  (case F => k_asm)
/-- a contract for the code of a call -/
def ConC (k : Nat) (w : World) (mean : ExcName → Option Value) (mg mb : Str → Option Value) (f : Addr) (vs : List Value) (need : List (Addr × Obj)) (Post : List (Addr × Obj) → Value → Prop) : Prop :=
  ∀ (dp un : Nat) (gd : Option (List Code)) (cn : Str) (cs : Scope) (a : Addr) (ccd : Value) (cl : List (Str × Addr)) (outer : List Env) (A₀ : Around) (base h₀ : Heap) (L : Addr) (m : Str → Option Value) (s : Shared) (R : Result → Shared → Prop),
    Below A₀ base outer h₀ → Fr h₀ L s.heap m → (Mine.hd.heap_1 w.params).In h₀ → News h₀ L s.heap need →
    Top Mine.viewX (looseW Mine.viewX [Str.ofString "Whitespace", Str.ofString "_Accumulator"]) mean mg mb h₀ → cs.kind = .function →
    dp + k < recursionLimit → un + 8 * k < cLine →
    (∀ r tl h' tk', Fr h₀ L h' m → News h₀ L h' tl → (∀ b o, s.heap.get? b = some o → b ∉ need.map (·.1) → h'.get? b = some o) → (∀ p ∈ tl, p.1 ∉ need.map (·.1) → s.heap.get? p.1 = none) → Post tl r → R (.ok (.ret r)) { s with heap := h', toks := tk' }) →
    codeAny (model PySem.Challenge.rw_xl0016_01.row.prog w) (ktrTop dp un gd cn cs L a ccd cl outer) (.call (.ref f) ⟨vs, []⟩) R s
theorem rowsA11_2 : True := by
  k_with "c.startSC" => ((unfold ConC; k_fill; intro _ _ _ _ _ _ _ _ _ _ _ _ _ _ _ _ Bq9 Fq9 Xq9 Nq9 Tq9 _ _ _ hretq9; k_dflt walk_at "c.enterS"; clear hretq9 Nq9 Fq9 Bq9 Xq9 Tq9))
  trivial
theorem init_con (w : World) (mean : ExcName → Option Value) (mg mb : Str → Option Value) (x d : Addr) (n : Nat) (hxd : @Ne Nat d x) :
    ConC 10 w mean mg mb 104 [.ref x] [(x, lobj 167 d #[] n), (d, dictOf [] 0)] (fun tl v => v = .none ∧ ∃ n' k1 t2, tl = [(x, lobj 167 d #[] n'), (d, accD w k1 t2 0)]) := by
  walk_at "c.startSC"
  k_steps
  dsimp only
  refine' LeaveC.intro [(x, lobj 167 d #[] _), (d, dictOf [_] 1)] ?F ?N ⟨rfl, _, _, _, rfl⟩
  (case F => k_asm)
  (case N => (refine' cb_drop ?A ?B; (case A => k_asm); (case B => lcg_sub)))
end
section
theorem rowsA12_0 : True := by
  w_top off
  k_with_none
  trivial
/-- what is known of the class C, a list's subclass -/
structure LMakes (M : Model) (h : Heap) (C : Addr) : Prop where
  obj : ∃ oc od cd sl, h.get? C = some ⟨oc, od, .cls cd, sl⟩ ∧ cd.hasDel = false
  mro : ∃ a r, Looks M h (mroOf (.ref C)) (a :: r)
  made : Looks M h (Bind.madeBy (.ref C)) (some "list.__new__")
  base : Looks M h (Bind.staticBase (.ref C)) (.ref C)
  self : Looks M h (isSubtype (.ref C) (.ref C)) true
  lst : Looks M h (isSubtype (.ref C) (.type "list")) true
  call : Looks M h (specialOf (.ref C) "__call__") (some (.builtin "type.__call__"))
  typ : Looks M h (isInstance (.ref C) (.type "type")) true
theorem lmakes_of {K : Frag} {M : Model} {h : Heap} (X : K.In h) {C : Addr} {oc : Value} {od : Option Addr} {cd : ClassData} {sl : Array (Option Value)} (ho : K.lookup C = some ⟨oc, od, .cls cd, sl⟩) (e2 : cd.hasDel = false)
    (e4 : cd.mro = [.ref C, .type "list", .type "object"]) (e3 : (sl.toList[4]?).join = some (.builtin "list.__new__")) (e7 : specialIn K (.ref C) "__call__" = some (some (.builtin "type.__call__"))) (e8 : instIn K (.ref C) (.type "type") = some true) : LMakes M h C := by
  have hc : clsIn K C = some cd := by unfold clsIn; rw [ho]
  have hm : Looks M h (mroOf (.ref C)) [.ref C, .type "list", .type "object"] := e4 ▸ (looks_clsIn X hc).andThen .now
  have made : Looks M h (Bind.madeBy (.ref C)) (some "list.__new__") := by
    intro A Q E s k q
    unfold Bind.madeBy
    refine wpAny_bind (hm A _ E s k ?_)
    rw [List.forIn_cons]
    refine wpAny_bind (wpAny_bind (wpAny_bind (wpAny_bind (wpAny_loadPart (k _ _ (X _ _ ho)) (wpAny_pure ?_)))))
    dsimp only
    rw [← Array.getElem?_toList, e3]
    exact wpAny_pure (wpAny_pure (wpAny_pure q))
  refine ⟨⟨oc, od, cd, sl, X _ _ ho, e2⟩, ⟨_, _, hm⟩, made, ?_, looks_mroIn X ?_, looks_mroIn X ?_, looks_specialIn X e7, looks_instIn X e8⟩
  · intro A Q E s k q
    unfold Bind.staticBase
    refine wpAny_bind (hm A _ E s k ?_)
    rw [List.forIn_cons]
    exact wpAny_bind (wpAny_bind (wpAny_bind (made A _ E s k (wpAny_pure (wpAny_pure (wpAny_pure q))))))
  · unfold mroIn; rw [hc, Option.bind_some, e4]; simp
  · unfold mroIn; rw [hc, Option.bind_some, e4]; simp
section
variable {prog : Program} {w : World} {A : Around} {K : Frag} {C : Addr} {R : Result → Shared → Prop} {h : Heap} {g : Array GenState} {d : Drawn} {t : Nat} {os : OsState}
theorem lnew (Y : LMakes (model prog w) h C)
    (hq : R (.ok (.ret (.ref (h.objs.size + 1)))) ⟨(h.push emptyDict).push (lobj C h.objs.size #[] 0), g, d, t, os⟩) :
    codeAny (model prog w) A (.call (.builtin "list.__new__") ⟨[.ref C], []⟩) R ⟨h, g, d, t, os⟩ := by
  obtain ⟨⟨oc, od, cd, sl, hC, e2⟩, ⟨a, r, hmro⟩, made, base, self, lst, call, typ⟩ := Y
  have hk : builtinKind "list.__new__" = some .builtinFn := by decide +kernel
  have hs : splitId "list.__new__" = some ("list", "__new__") := by decide +kernel
  have hty : Looks (model prog w) h (isType (.ref C)) true := fun A Q E s k q => ks_wpAny_isType_cls (h := s.heap) (k _ _ hC) rfl q
  refine codeAny_of_tree ?_
  show wpAny _ A.in1 (do checkBuiltinCall "list.__new__" ⟨[.ref C], []⟩; again (.builtin "list.__new__" ⟨[.ref C], []⟩)) _ _ _
  have chk : ∀ Q : Unit → Shared → Prop, ∀ E, Q () ⟨h, g, d, t, os⟩ → wpAny (model prog w) A.in1 (checkBuiltinCall "list.__new__" ⟨[.ref C], []⟩) Q E ⟨h, g, d, t, os⟩ := by
    intro Q E q
    have ha : argsOk "list.__new__" ⟨[.ref C], []⟩ := by unfold argsOk; kernel_rfl
    simp only [checkBuiltinCall, hk, hs]
    rw [if_pos (by decide)]
    refine wpAny_bind (hty.at ?_)
    simp only [Bool.not_true, Bool.false_eq_true, if_false]
    refine wpAny_bind (lst.at ?_)
    simp only [Bool.not_true, Bool.false_eq_true, if_false]
    refine wpAny_bind (base.at (wpAny_bind (made.at ?_)))
    simp only [bne_self_eq_false, Bool.false_eq_true, if_false]
    cases hsig : Manifest.signature? "list.__new__" with
    | none => exact wpAny_pure q
    | some sig =>
      simp only [argsOk, hsig] at ha
      have h2 : Bind.checkArgs "list.__new__" sig ⟨[.ref C], []⟩ = pure () := ha
      show wpAny _ _ (Bind.checkArgs "list.__new__" sig ⟨[.ref C], []⟩) Q E _
      rw [h2]; exact wpAny_pure q
  refine wpAny_bind (chk _ _ (wpAny_pure ⟨plainId_quiet PySem.F.plain_list_new _, codeAny_builtin_stack PySem.F.entry_list_new rfl fun p st => ?_⟩))
  rw [Around.under_plainId PySem.F.plain_list_new _]
  have hown := owner_list_new
  simp only [hown]
  refine wpAny_bind (hty.at ?_)
  simp only [Bool.not_true, Bool.false_eq_true, if_false]
  refine wpAny_bind (lst.at ?_)
  simp only [Bool.not_true, Bool.false_eq_true, if_false]
  refine wpAny_bind (wpAny_pure ?_)
  rw [if_neg (by simp [typeHasDict])]
  refine wpAny_bind (m := newDict) (wpAny_newObj_type ?_ (by size_fits))
  show wpAny _ _ (newObj (.ref C) (.seq #[]) (some h.objs.size) >>= fun v => ret v) _ _ _
  unfold newObj
  refine wpAny_bind ?_
  dsimp only
  rw [if_neg (by rw [sizeLine_eq]; decide)]
  unfold newObjAsIs classHasDel
  refine wpAny_bind (wpAny_alloc (wpAny_bind (wpAny_bind (wpAny_load (Heap.get?_push_of_some _ (Heap.get?_push_of_some _ hC)) ?_))))
  refine wpAny_pure ?_
  rw [e2]
  refine wpAny_pure (wpAny_pure ?_)
  show R _ _
  rw [Heap.size_push]
  exact hq
theorem lmake {init : Value} (Y : LMakes (model prog w) h C) (hi : Looks (model prog w) h (typeLookup (.ref C) "__init__") (some init)) (hb : ∀ self, Looks (model prog w) h (bindSpecial init self) (init, [self]))
    (hq : codeAny (model prog w) (A.under (.builtin "type.__call__" ⟨[.ref C], []⟩)) (.call init ⟨[.ref (h.objs.size + 1)], []⟩) (InitBack (h.objs.size + 1) R) ⟨(h.push emptyDict).push (lobj C h.objs.size #[] 0), g, d, t, os⟩) :
    codeAny (model prog w) A (.call (.ref C) ⟨[], []⟩) R ⟨h, g, d, t, os⟩ := by
  have Y' := Y
  obtain ⟨⟨oc, od, cd, sl, hC, e2⟩, ⟨a, r, hmro⟩, made, base, self, lst, call, typ⟩ := Y
  refine codeAny_of_tree ?_
  show wpAny _ _ (callAny (.ref C) _) _ _ _
  refine nd_load hC ?_
  show wpAny _ _ (callAny.viaDunder (.ref C) _) _ _ _
  unfold callAny.viaDunder
  refine wpAny_bind (call.at ?_)
  dsimp only
  rw [tc_bind]
  refine wpAny_bind (wpAny_pure (wpAny_bind (wpAny_pure ?_)))
  refine wpAny_pure (a := Fin.again (.call (.builtin "type.__call__") ⟨[.ref C], []⟩)) (And.intro rfl ?_)
  refine codeAny_call_builtin_at (Code.quiet_builtin _ (by decide +kernel)) entry_typeCall (check_slot tc_kind tc_split typ (tc_args _ _ _) ?_)
  unfold Builtin.«type.__call__»
  repeat (first | (simp only [List.isEmpty_cons, Bool.false_eq_true, if_false]; done) | simp only [List.isEmpty_cons, Bool.false_eq_true, if_false] | with_reducible refine wpAny_call ?_ | lk)
  refine lnew Y' ?_
  have k : ∀ b o, h.get? b = some o → ((h.push emptyDict).push (lobj C h.objs.size #[] 0)).get? b = some o := fun b o e => Heap.get?_push_of_some _ (Heap.get?_push_of_some _ e)
  have hx : ((h.push emptyDict).push (lobj C h.objs.size #[] 0)).get? (h.objs.size + 1) = some (lobj C h.objs.size #[] 0) := by heap_get
  have t1 : Looks (model prog w) ((h.push emptyDict).push (lobj C h.objs.size #[] 0)) (typeOf (.ref (h.objs.size + 1))) (.ref C) := (Looks.ld hx).andThen .now
  have s1 := self.keeps k
  have i1 := hi.keeps k
  have b1 := (hb (.ref (h.objs.size + 1))).keeps k
  unfold isInstance callSpecial? specialOf
  repeat (first | with_reducible refine wpAny_call ?_ | lk)
  refine codeAny_mono hq fun r s' z => ?_
  rcases r with e | (v | _ | _ | _) <;> first | exact z | exact z.elim | skip
  obtain ⟨rfl, z⟩ := z
  exact wpAny_pure (wpAny_pure z)
end
section
variable {prog : Program} {w : World} {A₀ A : Around} {E : Value → Shared → Prop} {s : Shared} {base h₀ : Heap} {outer : List Env} {L : Addr} {m : Str → Option Value} {news : List (Addr × Obj)}
/-- the call of a list's subclass without arguments, its __init__ by a contract of the call -/
theorem acc_new {K : Frag} {C fI : Addr} {oc : Value} {od : Option Addr} {cd : ClassData} {sl : Array (Option Value)} {Q : Value → Shared → Prop} (F : Fr h₀ L s.heap m) (X₀ : K.In h₀) (N : News h₀ L s.heap news)
    (ho : K.lookup C = some ⟨oc, od, .cls cd, sl⟩) (e2 : cd.hasDel = false)
    (e4 : cd.mro = [.ref C, .type "list", .type "object"]) (e3 : (sl.toList[4]?).join = some (.builtin "list.__new__")) (e7 : specialIn K (.ref C) "__call__" = some (some (.builtin "type.__call__"))) (e8 : instIn K (.ref C) (.type "type") = some true)
    (hi : findIn K (.ref C) "__init__" = some (some (.ref fI))) (hfn : isFn K (.ref fI) = true)
    (hc : ∀ x d h', Fr h₀ L h' m → News h₀ L h' ((x, lobj C d #[] 0) :: (d, dictOf [] 0) :: news) → (∀ p ∈ news, p.1 < d) → d < x →
      codeAny (model prog w) (A.under (.builtin "type.__call__" ⟨[.ref C], []⟩)) (.call (.ref fI) ⟨[.ref x], []⟩) (InitBack x (fun r s' => match r with | .ok (.ret v) => Q v s' | .ok _ => False | .error e => E e s')) { s with heap := h' }) :
    wpAny (model prog w) A (call (.ref C) []) Q E s := by
  have X : K.In s.heap := X₀.keeps F.keep
  obtain ⟨hh, g, d, t, os⟩ := s
  refine wpAny_call (lmake (lmakes_of X ho e2 e4 e3 e7 e8) (looks_findIn X hi) (fun self => bind_fn X self (beq_iff_eq.mp hfn)) ?_)
  have N' := (N.push F (dictOf [] 0)).push (F.push _) (lobj C hh.objs.size #[] 0)
  rw [Heap.size_push] at N'
  exact hc (hh.objs.size + 1) hh.objs.size _ ((F.push _).push _) N' (fun p hp => Heap.lt_size (N p hp).1) (Nat.lt_succ_self _)
end
end
section
theorem rowsA13_0 : True := by
  w_top off
  k_with_none
  trivial
section
variable {prog : Program} {w : World} {A : Around} {E : Value → Shared → Prop} {s : Shared}
def HasSeq (h : Heap) (l : Addr) (items : Array Value) : Prop := ∃ o n, h.get? l = some o ∧ o.data = .seq items n
theorem HasSeq.at {h h' : Heap} {l : Addr} {items : Array Value} (x : HasSeq h l items) (k : ∀ o, h.get? l = some o → h'.get? l = some o) : HasSeq h' l items := let ⟨o, n, e, d⟩ := x; ⟨o, n, k o e, d⟩
theorem pyNext_seq_item {it l : Addr} {i : Nat} {items : Array Value} {x : Value} {Q : Option Value → Shared → Prop} (hit : s.heap.IsListIter it l i)
    (hl : HasSeq s.heap l items) (hx : items[i]? = some x)
    (hQ : ∀ h', h'.IsListIter it l (i + 1) → Heap.SameBut it s.heap h' → Q (some x) { s with heap := h' }) :
    wpAny (model prog w) A (pyNext (.ref it)) Q E s := by
  obtain ⟨o, ho, hc, hd⟩ := id hit
  obtain ⟨ol, nl, hol, hdl⟩ := hl
  unfold pyNext
  refine wpAny_bind (wpAny_attempt (wpAny_callSpecial?_slot (name := Str.ofString "__next__") hit.typeIs slot_listiter_next
    (wpAny_call_entry slot_listiter_next hit.typeIs entry_listiter_next ?_ (args_listiter_next _))))
  show wpAny _ _ (field (.ref it) 0 >>= _) _ _ s
  refine wpAny_bind (wpAny_field ho hd (x := .ref l) rfl ?_)
  show wpAny _ _ (if (Value.ref l == Value.none) = true then _ else _) _ _ s
  rw [if_neg (show ¬ ((Value.ref l == Value.none) = true) from Bool.false_ne_true)]
  show wpAny _ _ (field (.ref it) 1 >>= _) _ _ s
  refine wpAny_bind (wpAny_field ho hd (x := .int i 0) rfl ?_)
  show wpAny _ _ (seqItems? (.ref l) >>= _) _ _ s
  refine wpAny_bind (wpAny_seqItems hol hdl ?_)
  simp only [Int.toNat_natCast, hx]
  refine wpAny_bind (wpAny_setField ho hd (by simp) (wpAny_pure ⟨x, rfl, wpAny_pure (hQ _ ?_ (Heap.SameBut.update ..))⟩))
  exact ⟨_, Heap.get?_update_self _ ho (Obj.isFreed_of_fields (Obj.data_mapFields hd _)), (Obj.cls_mapFields ..).trans hc, by
    rw [Obj.data_mapFields hd]; simp [rawInt]⟩
theorem pyNext_seq_end {it l : Addr} {i : Nat} {items : Array Value} {Q : Option Value → Shared → Prop} (hh : A.handled = none)
    (hit : s.heap.IsListIter it l i) (hl : HasSeq s.heap l items) (hx : items[i]? = none)
    (hQ : ∀ h', Heap.ExtBut it s.heap h' → Q none { s with heap := h' }) : wpAny (model prog w) A (pyNext (.ref it)) Q E s := by
  obtain ⟨o, ho, hc, hd⟩ := id hit
  obtain ⟨ol, nl, hol, hdl⟩ := hl
  unfold pyNext
  refine wpAny_bind (wpAny_attempt (wpAny_callSpecial?_slot (name := Str.ofString "__next__") hit.typeIs slot_listiter_next
    (wpAny_call_entry slot_listiter_next hit.typeIs entry_listiter_next ?_ (args_listiter_next _))))
  show wpAny _ _ (field (.ref it) 0 >>= _) _ _ s
  refine wpAny_bind (wpAny_field ho hd (x := .ref l) rfl ?_)
  show wpAny _ _ (if (Value.ref l == Value.none) = true then _ else _) _ _ s
  rw [if_neg (show ¬ ((Value.ref l == Value.none) = true) from Bool.false_ne_true)]
  show wpAny _ _ (field (.ref it) 1 >>= _) _ _ s
  refine wpAny_bind (wpAny_field ho hd (x := .int i 0) rfl ?_)
  show wpAny _ _ (seqItems? (.ref l) >>= _) _ _ s
  refine wpAny_bind (wpAny_seqItems hol hdl ?_)
  simp only [Int.toNat_natCast, hx]
  refine wpAny_bind (wpAny_rule (wpAny_bind (wpAny_setField ho hd (by simp) ?_)))
  show wpAny _ _ (newExc (.type "StopIteration") [] >>= _) _ _ _
  refine wpAny_bind ?_
  simp only [newExc, newTuple]
  refine wpAny_bind (wpAny_newObj_type ?_ (by size_fits))
  refine wpAny_bind (m := firstArgMember _ _) (wpAny_of_eq (a := Value.none) (by first | rfl | (simp only [firstArgMember]; rfl)) ?_)
  refine wpAny_newObj_type ?_ (by size_fits)
  simp only [raiseNew]
  refine wpAny_bind (wpAny_handled ?_)
  rw [show A.in1.handled = none from hh]
  refine wpAny_bind (wpAny_pure (wpAny_throw ?_))
  refine wpAny_bind (wpAny_isInstance (T := "StopIteration") (b := true) ⟨_, Heap.get?_push_size _ rfl, rfl⟩ isSubtype_stop ?_)
  refine wpAny_pure (hQ _ fun b ob hb e => ?_)
  exact Heap.get?_push_of_some _ (Heap.get?_push_of_some _ ((Heap.get?_update_other _ _ (Ne.symm hb)).trans e))
/-- the walk over a sequence of pairs by a list's iterator -/
theorem walksPairs (hh : A.handled = none) (I ax : Addr) (hne : ax ≠ I) (items : Array Value) (Ts : Nat → Addr) (vals : Nat → Array Value)
    (hit : ∀ j, j < items.size → items[j]? = some (.ref (Ts j))) (hTI : ∀ j, j < items.size → Ts j ≠ I) :
    WalksU prog w A I (I :: ax :: (List.range items.size).map Ts) [I] items.size (fun j v => j < items.size ∧ v = vals j)
      (fun j h => h.IsListIter I ax j ∧ HasSeq h ax items ∧ ∀ k, k < items.size → h.IsTuple (Ts k) (vals k))
      (fun j T h => (j < items.size ∧ T = Ts j) ∧ h.IsListIter I ax (j + 1) ∧ HasSeq h ax items ∧ ∀ k, k < items.size → h.IsTuple (Ts k) (vals k)) where
  sub := fun b hb => by simp at hb; simp [hb]
  frame := fun _ _ _ st hk => ⟨st.1.at fun o e => hk I (by simp) o e, st.2.1.at fun o e => hk ax (by simp) o e,
    fun k hk' => (st.2.2 k hk').at fun o e => hk (Ts k) (List.mem_cons_of_mem _ (List.mem_cons_of_mem _ (List.mem_map.mpr ⟨k, List.mem_range.mpr hk', rfl⟩))) o e⟩
  item := fun i s Q E hi st hQ => by
    refine pyNext_seq_item st.1 st.2.1 (x := .ref (Ts i)) (hit i hi) fun h' hit' hs' => ?_
    have tup : ∀ k, k < items.size → h'.IsTuple (Ts k) (vals k) := fun k hk' => (st.2.2 k hk').extBut hs'.extBut (hTI k hk')
    exact hQ (Ts i) (vals i) h' s.toks ⟨hi, rfl⟩ (tup i hi) ⟨⟨hi, rfl⟩, hit', st.2.1.at fun o e => hs'.extBut _ o hne e, tup⟩ fun b o hb e => hs'.extBut b o (fun h => hb (by simp [h])) e
  go := fun _ _ _ _ _ s Q _ hm hQ => wpAny_letOwnedTupleGo_listiter hm.2.1 (hQ s.heap hm.2 fun _ _ _ e => e)
  apart := fun j T _ hm hmem => by
    rcases List.mem_cons.mp hmem with e | e
    · exact hTI j hm.1.1 (hm.1.2 ▸ e)
    · cases e
  done := fun s Q E st hQ => pyNext_seq_end hh st.1 st.2.1 (by simp) fun h' he' => hQ h' s.toks fun b o hb e => he' b o (fun h => hb (by simp [h])) e
  self := fun _ _ _ _ st hQ => wpAny_pyIter_listiter st.1 hQ
/-- iter() of an object of a list's subclass -/
theorem lsub_iter {K : Frag} {C d x : Addr} {items : Array Value} {n : Nat} {Q : Value → Shared → Prop} (X : K.In s.heap) (hx : s.heap.get? x = some (lobj C d items n)) (hl : subIn K (.ref C) (.type "list") = some true)
    (hf : findIn K (.ref C) "__iter__" = some (some (.builtin "list.__iter__")))
    (hQ : Q (.ref s.heap.objs.size) { s with heap := s.heap.push { cls := .type "list_iterator", data := .fields #[.ref x, .int 0 0] } }) :
    wpAny (model prog w) A (pyIter (.ref x)) Q E s := by
  unfold pyIter
  refine wpAny_bind (wpAny_bind ((lsub_type hx).here ((looks_findIn X hf).here ?_)))
  dsimp only
  unfold callSpecialIfBoundUnlessNone?
  have hb : ∀ {Q' : Option (Value × List Value) → Shared → Prop}, Q' (some (.builtin "list.__iter__", [.ref x])) s → wpAny (model prog w) A (bindSpecialIfBound? (.ref x) "__iter__") Q' E s := by
    intro Q' q
    unfold bindSpecialIfBound?
    refine wpAny_bind (wpAny_bind ((lsub_type hx).here ((looks_findIn X hf).here ?_)))
    dsimp only
    rw [slot_list_iter.bind]
    refine wpAny_bind (wpAny_askSetting ?_)
    split
    · exact wpAny_bind (wpAny_pure (wpAny_pure q))
    · exact wpAny_tryCatch (wpAny_bind (wpAny_pure (wpAny_pure q)))
  refine wpAny_bind (wpAny_holding (wpAny_bind (hb ?_)))
  dsimp only
  rw [if_neg (by decide)]
  refine wpAny_bind (sub_call (owner := "list") (nm := "__iter__") (by decide +kernel) (.inl (by decide +kernel)) (by decide +kernel) entry_list_iter (lsub_is X hx hl) (args_list_iter _) ?_)
  show wpAny _ _ (do ret (← newFields "list_iterator" [.ref x, rawInt 0])) _ _ s
  refine wpAny_bind (wpAny_newObj_type (wpAny_pure ⟨_, rfl, wpAny_pure ?_⟩))
  refine wpAny_bind (wpAny_specialOf (T := "list_iterator") ⟨_, Heap.get?_push_size _ rfl, rfl⟩ slot_listiter_next.lookup ?_)
  exact wpAny_pure hQ
end
end
section
theorem rowsA14_0 : True := by
  w_top off
  k_with_none
  trivial
/-- the generators left behind bear no clean-up -/
def GR (a b : Array GenState) : Prop := (∀ y ∈ a, y.bare = true) → ∀ y ∈ b, y.bare = true
theorem GR.refl (a : Array GenState) : GR a a := fun h => h
theorem GR.trans {a b c : Array GenState} (x : GR a b) (y : GR b c) : GR a c := fun h => y (x h)
theorem GR.push {a : Array GenState} {g : GenState} (hg : g.bare = true) : GR a (a.push g) := fun h y hy => by
  rcases Array.mem_push.mp hy with hy | rfl
  · exact h y hy
  · exact hg
def LeaveG (g : Heap) (s : Shared) (Post : List (Addr × Obj) → Value → Prop) (v : Value) (s' : Shared) : Prop :=
  ∃ L' m' tl h' tk' gs', s' = { s with heap := h', toks := tk', gens := gs' } ∧ GR s.gens gs' ∧ Fr g L' h' m' ∧ News g L' h' tl ∧ Post tl v
/-- a contract whose call may leave generators -/
def ConG (k : Nat) (w : World) (mean : ExcName → Option Value) (mg mb : Str → Option Value) (f : Addr) (vs : List Value) (need : List (Addr × Obj)) (Post : List (Addr × Obj) → Value → Prop) : Prop :=
  ∀ (dp un : Nat) (gd : Option (List Code)) (cn : Str) (cs : Scope) (a : Addr) (ccd : Value) (cl : List (Str × Addr)) (outer : List Env) (A₀ : Around) (base h₀ : Heap) (L : Addr) (m : Str → Option Value) (s : Shared) (Q E : Value → Shared → Prop),
    Below A₀ base outer h₀ → Fr h₀ L s.heap m → (Mine.hd.heap_1 w.params).In h₀ → News h₀ L s.heap need →
    Top Mine.viewX (looseW Mine.viewX [Str.ofString "Whitespace", Str.ofString "_Accumulator"]) mean mg mb h₀ → cs.kind = .function →
    dp + k < recursionLimit → un + 8 * k < cLine →
    (∀ r tl h' tk' gs', GR s.gens gs' → Fr h₀ L h' m → News h₀ L h' tl → (∀ b o, s.heap.get? b = some o → b ∉ need.map (·.1) → h'.get? b = some o) → (∀ p ∈ tl, p.1 ∉ need.map (·.1) → s.heap.get? p.1 = none) → Post tl r → Q r { s with heap := h', toks := tk', gens := gs' }) →
    wpAny (model PySem.Challenge.rw_xl0016_01.row.prog w) (ktrTop dp un gd cn cs L a ccd cl outer) (call (.ref f) vs) Q E s
section
variable {prog : Program} {w : World} {A₀ A : Around} {s : Shared} {base h₀ : Heap} {outer : List Env} {L : Addr} {m : Str → Option Value} {env : Env} {need : List (Addr × Obj)} {K : Frag} {p : Program} {loose : List Str} {mean : ExcName → Option Value} {mg mb : Str → Option Value}
  {Q E : Value → Shared → Prop} {R : Result → Shared → Prop} {Post : List (Addr × Obj) → Value → Prop}
  {name qual : Str} {params : Arguments} {body : List Stmt} {scope : Scope} {dV kV doc pm cdv ct oc : Value} {an od : Option Addr} {osl : Array (Option Value)} {f : Addr} {args : Args} {binds : List (Str × Value)}
theorem con_backG (B : Below A₀ base outer h₀) (F : Fr h₀ L s.heap m) (N : News h₀ L s.heap need)
    (hret : ∀ r tl h' tk' gs', GR s.gens gs' → Fr h₀ L h' m → News h₀ L h' tl → (∀ b o, s.heap.get? b = some o → b ∉ need.map (·.1) → h'.get? b = some o) → (∀ p ∈ tl, p.1 ∉ need.map (·.1) → s.heap.get? p.1 = none) → Post tl r → Q r { s with heap := h', toks := tk', gens := gs' })
    {v : Value} {s' : Shared} (hl : LeaveG (hideAll s.heap (need.map (·.1))) s Post v s') : Q v s' := by
  obtain ⟨L', m', tl, h', tk', gs', rfl, hg, F', N', hp⟩ := hl
  exact con_back (s := s) (need := need) (Post := Post) (Q := fun v s' => ∀ h' tk', s' = { s with heap := h', toks := tk' } → Q v { s with heap := h', toks := tk', gens := gs' }) B F N
    (fun r tl h' tk' F' N' kp fr hp h'' tk'' e => by
      have e1 : h' = h'' := congrArg Shared.heap e
      have e2 : tk' = tk'' := congrArg Shared.toks e
      subst e1 e2
      exact hret r tl h' tk' gs' hg F' N' kp fr hp) (s' := { s with heap := h', toks := tk' }) ⟨L', m', tl, h', tk', rfl, F', N', hp⟩ h' tk' rfl
/-- con_def with any end -/
theorem con_defG (Z : Value → Shared → Prop) (B : Below A₀ base outer h₀) (F : Fr h₀ L s.heap m) (X₀ : K.In h₀) (N : News h₀ L s.heap need) (T : Top p loose mean mg mb h₀) (hA : A.frames = some (env :: outer)) (hf : env.frame = some L) (hke : env.scope.kind = .function)
    (ho : K.lookup f = some ⟨oc, od, .func (fnOf name qual params body scope dV kV doc pm an cdv ct), osl⟩) (hcd : codeIn K cdv qual = true) (hroom : A.depth < recursionLimit)
    (hbind : BindsTo s (fnOf name qual params body scope dV kV doc pm an cdv ct) args binds) (hloc : ∀ y ∈ binds, scope.names.lookup y.1 = some .local)
    (hret : ∀ v s', LeaveG (hideAll s.heap (need.map (·.1))) s Post v s' → R (.ok (.ret v)) s')
    (h : ∀ g L' h₁, (∀ b o, s.heap.get? b = some o → b ∉ need.map (·.1) → g.get? b = some o) → Fr g L' h₁ (fun y => binds.reverse.lookup y) → News g L' h₁ need → Below A base (env :: outer) g → K.In g → Top p loose mean mg mb g → (∀ p ∈ need, p.1 < L') →
      wpAny (model prog w) (A.deeper (envOf qual scope L' f cdv)) (execs body (envOf qual scope L' f cdv))
        (fun fl s' => LeaveG g s Post (match fl with | .ret v => v | _ => .none) s')
        (fun _ _ => False)
        { s with heap := h₁, toks := s.toks + binds.length })
    (hco : scope.isCoroutine = false) (hgen : scope.isGenerator = false) (hk : scope.kind = .function)
    (hcell : ∀ x ∈ scope.names, x.2 ≠ .cell) :
    codeAny (model prog w) A (.call (.ref f) args) R s := by
  obtain ⟨FG, BG, st, lv⟩ := groundX (R := fun _ _ => True) B F N hA hf hke
  refine codeAny_call_def (fd := fnOf name qual params body scope dV kV doc pm an cdv ct) (body := body) (binds := binds) hroom ((X₀.keeps F.keep) _ _ ho) rfl (T.nolimit.keeps F.keep) (codeRec_of (X₀.keeps F.keep) hcd) rfl hbind hcell hloc (fun h₁ hns hk₁ => ?_) hco hgen hk
  exact wpAny_mono (h _ s.heap.objs.size h₁ (fun b o e hb => hideAll_get _ e hb) ⟨hns, fun b o e => hk₁ b o (of_hideAll _ e), Nat.le_of_eq (hideAll_size _ _)⟩
    (fun p hp => ⟨hk₁ _ _ (N p hp).1, Nat.ne_of_lt (Heap.lt_size (N p hp).1), hideAll_none _ (List.mem_map_of_mem hp)⟩) BG (X₀.keeps st) (T.keeps st) (fun p hp => Heap.lt_size (N p hp).1)) (fun fl s' hl => hret _ _ hl) fun _ _ y => y.elim
end
/-- the table of codes made in a def's code -/
abbrev tabObj (ps : Array Value) : Obj := { cls := .none, dict := none, data := .fields ps, slots := #[] }
def TabOk (pos : Pos) (ps : Array Value) : Prop := ps = #[] ∨ ∃ c', ps = #[rawInt pos.line, rawInt pos.col, .ref c']
section
variable {prog : Program} {w : World} {M : Model} {A : Around} {E : Value → Shared → Prop} {s : Shared}
theorem codeTab {env : Env} {c P : Addr} {oc : Obj} {vs ps : Array Value} {file : Str} {tf tg tt : Tok} {flags text : Int} {inF : Bool} {pos : Pos} {q : Str} {scope : Scope} {Q : Value → Shared → Prop} (hc : env.code = .ref c)
    (ho : s.heap.get? c = some oc) (hcl : oc.cls = .type "code") (hd : oc.data = .fields vs) (h11 : vs[11]? = some (.ref P)) (h18 : vs.getD 18 .none = .str file tf) (h7 : vs.getD 7 .none = .int flags tg) (h9 : vs.getD 9 .none = .bool inF) (h10 : vs.getD 10 .none = .int text tt)
    (hP : s.heap.get? P = some (tabObj ps)) (hcP : c ≠ P) (hps : TabOk pos ps)
    (h : ∀ c' h' tk ps', TabOk pos ps' → Heap.ExtBut P s.heap h' → s.heap.objs.size ≤ h'.objs.size → h'.get? P = some (tabObj ps') → Q (.ref c') { s with heap := h', toks := tk }) :
    wpAny M A (genexprCode env pos q scope) Q E s := by
  have h11' : vs.getD 11 .none = .ref P := by rw [Array.getD_eq_getD_getElem?, h11]; rfl
  rcases hps with rfl | ⟨c', rfl⟩
  · have hok : s.heap.IsCode c P #[] := ⟨oc, vs, file, tf, flags, tg, inF, text, tt, _, ho, hd, h11', h18, h7, h9, h10, hP, rfl, by simp [TriplesOk], hcP⟩
    have htab : s.heap.TableAt c P #[] := ⟨⟨oc, vs, ho, hcl, hd, h11⟩, hP⟩
    refine wpAny_genexprCodeX hc hok htab rfl fun c' h' tk hx hge hlt hcode _ htab' _ => ?_
    exact h c' h' tk _ (.inr ⟨c', rfl⟩) hx (Nat.le_trans hge (Nat.le_of_lt hlt)) htab'.2
  · unfold genexprCode codeAt
    rw [hc, if_neg (show ¬ ((Value.ref c == Value.none) = true) from Bool.false_ne_true)]
    refine wpAny_bind (wpAny_fieldsOf ho hd ?_)
    rw [h11']
    refine wpAny_bind (wpAny_fieldsOf hP rfl ?_)
    rw [show codeAmong pos (#[rawInt pos.line, rawInt pos.col, Value.ref c'] : Array Value).toList = some (.ref c') from by simp [codeAmong, rawInt]]
    exact wpAny_pure (h c' s.heap s.toks _ (.inr ⟨c', rfl⟩) (fun _ _ _ e => e) (Nat.le_refl _) hP)
theorem sum_start0 {x : Value} {tk : Tok} {Q : Value → Shared → Prop}
    (h : wpAny (model prog w) A.in1 (pyIter x) (fun it s₂ => ∃ I fp wr G n P St val, it = .ref I ∧ WalksS prog w A.in1 I fp wr G n P St ∧ St 0 s₂ ∧ (∀ b ∈ fp, b < s₂.heap.objs.size) ∧
      (∀ i v, P i v → ∃ t, v = .int (val i) t) ∧ (∀ j, j < n → InLong (val j) ∧ InLong (preSum val (j + 1))) ∧
      ∀ s' t', Moved wr G s₂ s' → Q (.int (preSum val n) t') s') E s) :
    wpAny (model prog w) A (call (.builtin "sum") [x, .int 0 tk]) Q E s := by
  refine call_function_tree PySem.F.kind_sum PySem.F.plain_sum PySem.F.entry_sum (by unfold argsOk; kernel_rfl) ?_
  unfold Builtin.«sum»
  simp only [List.length_cons, List.length_nil]
  rw [if_neg (by decide)]
  refine wpAny_bind (wpAny_of_eq (show Builtin.Builtins.bindParams "sum" ["start"] 0 ⟨[.int 0 tk], []⟩ = pure [some (.int 0 tk)] from rfl) ?_)
  refine wpAny_bind (wpAny_mono h (fun it s₂ h₂ => ?_) fun _ _ e => e)
  obtain ⟨I, fp, wr, G, n, P, St, val, rfl, W, hst, hfp, hval, hfit, hQ⟩ := h₂
  dsimp only
  refine wpAny_ite_true (by rfl) ?_
  refine wpAny_bind (wpAny_rule (wpAny_bind (wpAny_mkInt (wpAny_bind (wpAny_pure ?_)))))
  simp only [List.forIn_cons, List.forIn_nil]
  refine wpAny_bind (wpAny_bind (wpAny_bind (wpAny_isInstance (T := "int") (b := false) (typeIs_int _ _ _) PySem.sub_int_str ?_)))
  simp only [Bool.false_eq_true, if_false]
  refine wpAny_pure (wpAny_bind (wpAny_bind (wpAny_isInstance (T := "int") (b := false) (typeIs_int _ _ _) PySem.sub_int_bytes ?_)))
  simp only [Bool.false_eq_true, if_false]
  refine wpAny_pure (wpAny_bind (wpAny_bind (wpAny_isInstance (T := "int") (b := false) (typeIs_int _ _ _) PySem.sub_int_bytearray ?_)))
  simp only [Bool.false_eq_true, if_false]
  refine wpAny_pure (wpAny_pure ?_)
  refine wpAny_bind (wpAny_newObj_type ?_)
  have hSf : s₂.heap.objs.size ∉ fp := fun hm => Nat.lt_irrefl _ (hfp _ hm)
  refine wpAny_pure ⟨plainId_quiet PySem.F.plain_sum_loop _, codeAny_sum_loopS W val hval hfit s₂.heap.objs.size hSf n 0 _ s₂.toks 0 rfl (Nat.zero_le _)
    (W.frame 0 s₂ _ _ hst (by first | exact Nat.le_refl _ | exact Nat.le_succ _ | omega) fun b _ o e => Heap.get?_push_of_some _ e) (Heap.get?_push_size _ rfl) fun s' t' hm => ?_⟩
  exact hQ s' t' (hm.drop_new (by first | exact Nat.le_refl _ | exact Nat.le_succ _ | omega))
end
theorem pickD {G : Heap} {L : Addr} {h : Heap} {l l' : List (Addr × Obj)} (N : News G L h l) (ix : List Nat) (k : Nat) (e : ix.filterMap (fun i => l[i]?) ++ l.drop k = l') : News G L h l' := by
  subst e
  intro p hp
  rcases List.mem_append.mp hp with hp | hp
  · obtain ⟨i, _, hi⟩ := List.mem_filterMap.mp hp
    exact N p (List.mem_of_getElem? hi)
  · exact N p (List.mem_of_mem_drop hp)
end
section
local macro_rules | `(tactic| k_room) => `(tactic| ktr_room)
theorem rowsA15_0 : True := by
  w_top off
  k_with_none
  k_with "c.enter" => ((first
      | (refine' con_def ?k1q9 ?k2q9 ?k3q9 ?k4q9 ?k5q9 ?kAq9 ?kFq9 ?kKq9 ?k6q9 ?k7q9 ?k8q9 ?k9q9 ?kBq9 ?kRq9 ?_ ?c2q9 ?c3q9 ?c4q9 ?c5q9; (case kAq9 => exact rfl); (case kFq9 => exact rfl); (case kKq9 => assumption); (case k1q9 => k_asm); (case k2q9 => k_asm); (case k3q9 => k_asm); (case k4q9 => k_asm); (case k5q9 => k_asm); (case k6q9 => k_is); (case k7q9 => k_is); (case k8q9 => ktr_room); (case k9q9 => first | exact BindsTo.of_eq rfl | exact binds_K (by k_in) rfl (by k_is) rfl rfl rfl); (case c5q9 => decide); (case kBq9 => exact locs rfl); (case c2q9 => exact rfl); (case c3q9 => exact rfl); (case c4q9 => exact rfl); (case kRq9 => walk_at "c.ret"); k_whole; intro _ _ _ _ _ N'q9 _ _ _ l1q9; (try k_lt l1q9); (try (revert l1q9; intro _)); (try dsimp only); (try k_fold))
      | (refine' con_defC ?k1q9 ?k2q9 ?k3q9 ?k4q9 ?k5q9 ?kAq9 ?kFq9 ?kKq9 ?k6q9 ?k7q9 ?k8q9 ?k9q9 ?kBq9 ?kDq9 ?kRq9 ?_ ?c2q9 ?c3q9 ?c4q9; (case kAq9 => exact rfl); (case kFq9 => exact rfl); (case kKq9 => assumption); (case k1q9 => k_asm); (case k2q9 => k_asm); (case k3q9 => k_asm); (case k4q9 => k_asm); (case k5q9 => k_asm); (case k6q9 => k_is); (case k7q9 => k_is); (case k8q9 => ktr_room); (case k9q9 => first | exact BindsTo.of_eq rfl | exact binds_K (by k_in) rfl (by k_is) rfl rfl rfl); (case kBq9 => exact rfl); (case kDq9 => decide +kernel); (case c2q9 => exact rfl); (case c3q9 => exact rfl); (case c4q9 => exact rfl); (case kRq9 => walk_at "c.ret"); k_whole; intro _ _ _ _ _ _ _ N'q9 Y'q9 _ _ _ l1q9; (try k_lt l1q9); (try (revert l1q9; intro _)); k_cells Y'q9; (try simp only [List.cons_append, List.nil_append] at N'q9); (try dsimp only); (try k_fold))))
  k_with "c.ret" => ((intro _ _ hl9q9; exact con_back (by assumption) (by assumption) (by assumption) (by assumption) hl9q9))
  k_with "c.start" => ((unfold Con; k_fill; intro _ _ _ _ _ _ _ _ _ _ _ _ _ _ _ _ _ Bq9 Fq9 Xq9 Nq9 Tq9 _ _ _ hretq9; refine wpAny_call ?_; k_dflt walk_at "c.enter"; clear hretq9 Nq9 Fq9 Bq9 Xq9 Tq9))
  k_with "c.startCls" => ((unfold Con; k_fill; intro _ _ _ _ _ _ _ _ _ _ _ _ _ _ _ _ _ Bq9 Fq9 Xq9 Nq9 Tq9 _ _ _ hretq9; refine wpAny_call ?_; k_dflt walk_at "c.enterCls"; clear hretq9 Nq9 Fq9 Bq9 Xq9 Tq9))
  k_with "c.enterCls" => ((refine' con_cls ?k1q9 ?k2q9 ?k3q9 ?k5q9 ?kAq9 ?kFq9 ?kKq9 ?m1q9 ?m2q9 ?m3q9 ?k6q9 ?k7q9 ?k8q9 ?k9q9 ?kBq9 ?kRq9 ?_ ?c2q9 ?c3q9 ?c4q9 ?c5q9; (case kAq9 => exact rfl); (case kFq9 => exact rfl); (case kKq9 => assumption); (case k1q9 => k_asm); (case k2q9 => k_asm); (case k3q9 => k_asm); (case k5q9 => k_asm); (case m1q9 => k_is); (case m2q9 => k_is); (case m3q9 => k_is); (case k6q9 => k_is); (case k7q9 => k_is); (case k8q9 => ktr_room); (case k9q9 => intro _ _; exact BindsTo.of_eq rfl); (case c5q9 => decide); (case kBq9 => intro _; exact locs rfl); (case c2q9 => exact rfl); (case c3q9 => exact rfl); (case c4q9 => exact rfl); (case kRq9 => exact con_nil (by assumption)); k_whole; intro _ _ _ _ _ _ l0'q9 _ _ _ _ _ l1q9; (try k_lt2 l0'q9); (try (revert l0'q9; intro _)); (try k_lt2 l1q9); (try (revert l1q9; intro _)); (try dsimp only); (try k_fold)))
  k_with "CompSrc" => ((k_here; k_dflt (refine LCg.CompSrc.range (by rfl) (by k_asm) (by k_asm) (by assumption) (by first | decide | rfl) (by first | rfl | decide) (by first | size_fits | exact Nat.le_of_ble_eq_true rfl) ?_; intro _; lcg_lit)))
  k_with "binaryOp Mult str int" => ((k_here; (refine' r_mul ?haq9 ?hbq9 ?_); (case haq9 => ((try simp only [fmod_lit]); omega)); (case hbq9 => ((try simp only [fmod_lit]); omega)); intro _ _))
  k_with "binaryOp Add str str" => ((k_here; (refine' r_add ?haq9 ?hbq9 ?hcq9 ?_); (case haq9 => first | with_reducible exact S_tab | with_reducible exact S_blank | with_reducible rfl); (case hbq9 => first | with_reducible exact S_tab | with_reducible exact S_blank | with_reducible rfl); (case hcq9 => (simp [sp]; omega)); intro _ _))
  k_with "call builtin:str.join" => ((k_here; (first
      | refine' r_join (ls := [(_, _)]) ?hlq9 ?hiq9 ?hwq9 ?_; (case hlq9 => exact News.isList (by k_asm) (by k_mem)); (case hiq9 => exact rfl)
      | refine' r_join (ls := [(_, _), (_, _)]) ?hlq9 ?hiq9 ?hwq9 ?_; (case hlq9 => exact News.isList (by k_asm) (by k_mem)); (case hiq9 => exact rfl)
      | refine' r_join (ls := [(_, _), (_, _), (_, _)]) ?hlq9 ?hiq9 ?hwq9 ?_; (case hlq9 => exact News.isList (by k_asm) (by k_mem)); (case hiq9 => exact rfl)); (case hwq9 => (simp [sp, fmod_lit]; omega)); intro _ _; (try dsimp only)))
  k_with "call type:tuple" => ((k_here; k_dflt (refine' r_tuple ?Fq9 ?Nq9 ?mq9 ?_ ?zq9; (case Fq9 => k_asm); (case Nq9 => k_asm); (case mq9 => k_mem); (case zq9 => (have hc9 := sizeLine_eq; (have hI9 := IntsAre.length (by assumption)); omega)); k_whole); intro _ _ _ _ l1q9; (try k_lt l1q9); (try (revert l1q9; intro _))))
  k_with "call builtin:len" => ((k_here; (with_reducible show wpAny _ _ (call (Value.builtin "len") [Value.ref _]) _ _ _); k_dflt (refine' r_len_tupI ?Nq9 ?mq9 ?iq9 ?fq9 ?_; (case Nq9 => k_asm); (case mq9 => k_mem); (case iq9 => with_reducible assumption); (case fq9 => omega); k_whole); intro _ _))
  k_with "subscriptTail" => ((k_here; (with_reducible show wpAny _ _ (subscriptTail _ _ (Value.ref _) (Value.int _ _)) _ _ _); k_dflt (refine' r_item_tupI ?Nq9 ?mq9 ?iq9 ?aq9 ?bq9 ?cq9 ?_ ?eq9; (case Nq9 => k_asm); (case mq9 => k_mem); (case iq9 => with_reducible assumption); (case aq9 => omega); (case bq9 => omega); (case cq9 => omega); (case eq9 => with_unfolding_all rfl); k_whole); intro _))
  k_with "pyIter ref" => ((k_here; (with_reducible show wpAny _ _ (pyIter (Value.ref _)) (fun it s₂ => LoopAtV _ _ _ _ _ _ _ _ _ it s₂) _ _); refine Hold.of ?_))
  trivial
local macro_rules | `(tactic| k_inst) => `(tactic| (refine' accInst ?N ?h1 ?h2; (case N => k_asm); (case h1 => k_mem); (case h2 => k_mem)))
theorem rowsA15_1 : True := by
  k_with "c.startS" => ((unfold Con; k_fill; intro _ _ _ _ _ _ _ _ _ _ _ _ _ _ _ _ _ Bq9 Fq9 Xq9 Nq9 Tq9 _ _ _ hretq9; refine wpAny_call ?_; k_dflt walk_at "c.enterS"; clear hretq9 Nq9 Fq9 Bq9 Xq9 Tq9))
  k_with "c.enterS" => ((refine' con_defS ?k1q9 ?k2q9 ?k3q9 ?k4q9 ?k5q9 ?kAq9 ?kFq9 ?kKq9 ?k6q9 ?k7q9 ?k8q9 ?k9q9 ?kBq9 ?kRq9 ?_ ?c2q9 ?c3q9 ?c4q9 ?c5q9; (case kAq9 => exact rfl); (case kFq9 => exact rfl); (case kKq9 => assumption); (case k1q9 => k_asm); (case k2q9 => k_asm); (case k3q9 => k_asm); (case k4q9 => k_asm); (case k5q9 => k_asm); (case k6q9 => k_is); (case k7q9 => k_is); (case k8q9 => ktr_room); (case k9q9 => first | exact BindsTo.of_eq rfl | exact binds_K (by k_in) rfl (by k_is) rfl rfl rfl); (case c5q9 => decide); (case kBq9 => exact locs rfl); (case c2q9 => exact rfl); (case c3q9 => exact rfl); (case c4q9 => exact rfl); (case kRq9 => walk_at "c.ret"); k_whole; intro _ _ _ _ _ _ _ _ _ l1q9; (try k_lt l1q9); (try (revert l1q9; intro _)); (try dsimp only); (try k_fold)))
  k_with "getMethod ref" => ((k_here; (with_reducible show wpAny _ _ (getMethod (Value.ref _) _ _) _ _ _); k_dflt (refine' acc_method ?Fq9 ?Xq9 ?Nq9 ?mq9 ?dq9 ?gaq9 ?cq9 ?gtq9 ?fq9 ?tfq9 ?lq9 ?_; (case Fq9 => k_asm); (case Xq9 => assumption); (case Nq9 => k_asm); (case mq9 => k_mem); (case dq9 => k_mem); (case gaq9 => k_is); (case cq9 => decide +kernel); (case gtq9 => k_is); (case fq9 => k_is); (case tfq9 => first | exact .inl (by k_is) | exact .inr (by k_is)); (case lq9 => rfl)); k_whole))
  k_with "getMethod ref" => ((k_here; (with_reducible show wpAny _ _ (getMethod (Value.ref _) _ _) _ _ _); k_dflt (refine' acc_super ?idq9 ?Fq9 ?Xq9 ?Nq9 ?sq9 ?mq9 ?oq9 ?fq9 ?lq9 ?nq9 ?_; (case Fq9 => k_asm); (case Xq9 => assumption); (case Nq9 => k_asm); (case sq9 => k_mem); (case mq9 => k_mem); (case oq9 => k_is); (case fq9 => ks_is); (case lq9 => k_is); (case nq9 => decide); (case idq9 => first | exact .inl rfl | exact .inr rfl)); k_whole; intro _ _ _ _ l1q9; (try k_lt l1q9); (try (revert l1q9; intro _))))
  k_with "callWith ref" => ((k_here; (with_reducible show wpAny _ _ (callWith _ (Value.ref _) [] _ []) _ _ _); k_dflt (refine' acc_mwWith ?Nq9 ?mq9 ?_; (case Nq9 => k_asm); (case mq9 => k_mem)); k_whole))
  k_with "call ref" => ((k_here; (with_reducible show wpAny _ _ (call (Value.ref _) []) _ _ _); k_dflt (refine' acc_mwLen ?Fq9 ?Xq9 ?Nq9 ?uq9 ?mq9 ?_; (case Fq9 => k_asm); (case Xq9 => assumption); (case Nq9 => k_asm); (case uq9 => k_mem); (case mq9 => k_mem)); k_whole; intro _ _))
  k_with "call ref" => ((k_here; (with_reducible show wpAny _ _ (call (Value.ref _) []) _ _ _); k_dflt (refine' acc_mwInit ?Fq9 ?Xq9 ?Nq9 ?uq9 ?mq9 ?_; (case Fq9 => k_asm); (case Xq9 => assumption); (case Nq9 => k_asm); (case uq9 => k_mem); (case mq9 => k_updF)); k_whole; intro _ _ _ _))
  k_with "call builtin:list.append" => ((k_here; k_dflt (refine' acc_append ?Fq9 ?Xq9 ?Nq9 ?Uq9 ?lq9 ?zq9 ?_; (case Fq9 => k_asm); (case Xq9 => assumption); (case Nq9 => k_asm); (case Uq9 => k_updF); (case lq9 => k_is); (case zq9 => omega)); k_whole; intro _ _ _ _))
  k_with "subscriptTail" => ((k_here; (with_reducible show wpAny _ _ (subscriptTail _ _ (Value.ref _) (Value.ref _)) _ _ _); k_dflt (refine' acc_slice ?Fq9 ?Xq9 ?Nq9 ?mq9 ?lq9 ?nq9 ?fq9 ?plq9 ?puq9 ?zq9 ?_ ?hsq9 ?htq9; (case Fq9 => k_asm); (case Xq9 => assumption); (case Nq9 => k_asm); (case mq9 => k_mem); (case lq9 => k_is); (case nq9 => k_is); (case fq9 => k_is); (case plq9 => first | exact .none | exact .int _ _); (case puq9 => first | exact .none | exact .int _ _); (case zq9 => omega); (case hsq9 => with_unfolding_all rfl); (case htq9 => (intro _; with_unfolding_all rfl))); k_whole; intro _ _ _ _ l1q9; (try k_lt l1q9); (try (revert l1q9; intro _))))
  k_with "setItem ref ref" => ((k_here; (with_reducible show wpAny _ _ (setItem (Value.ref _) (Value.ref _) (Value.ref _)) _ _ _); k_dflt (refine' acc_store ?Fq9 ?Xq9 ?Nq9 ?Uq9 ?lq9 ?nq9 ?fq9 ?yq9 ?xyq9 ?plq9 ?puq9 ?zq9 ?_; (case Fq9 => k_asm); (case Xq9 => assumption); (case Nq9 => k_asm); (case Uq9 => k_updF); (case lq9 => k_is); (case nq9 => k_is); (case fq9 => k_is); (case yq9 => k_mem); (case xyq9 => k_ne); (case plq9 => first | exact .none | exact .int _ _); (case puq9 => first | exact .none | exact .int _ _); (case zq9 => ((try simp); omega))); k_whole; intro _ _ _ _))
  k_with "setAttr ref" => ((k_here; (with_reducible show wpAny _ _ (setAttr (Value.ref _) _ _) _ _ _); k_dflt (refine' acc_setAttr ?Fq9 ?Xq9 ?Nq9 ?mq9 ?Uq9 ?cq9 ?mrq9 ?hdq9 ?sq9 ?tq9 ?lq9 ?eq9 ?zq9 ?_; (case Fq9 => k_asm); (case Xq9 => assumption); (case Nq9 => k_asm); (case mq9 => k_mem); (case Uq9 => k_updF); (case cq9 => k_is); (case mrq9 => exact rfl); (case hdq9 => exact rfl); (case sq9 => k_is); (case tq9 => k_is); (case lq9 => k_get); (case eq9 => k_put); (case zq9 => exact Nat.le_of_ble_eq_true rfl)); k_whole; intro _ _ _; (try k_sweep)))
  k_with "getAttr ref" => ((k_here; (with_reducible show wpAny _ _ (getAttr (Value.ref _) _ _) _ _ _); k_dflt (refine' acc_getAttr ?Fq9 ?Xq9 ?Nq9 ?mq9 ?dq9 ?gaq9 ?gtq9 ?lq9 ?hhq9 ?haq9 ?hnq9 ?hgq9 ?hvq9 ?_; (case Fq9 => k_asm); (case Xq9 => assumption); (case Nq9 => k_asm); (case mq9 => k_mem); (case dq9 => k_mem); (case gaq9 => k_is); (case gtq9 => k_is); (case lq9 => k_is); (case hhq9 => k_is); (case haq9 => k_is); (case hnq9 => k_is); (case hgq9 => k_get); (case hvq9 => k_handed)); k_whole))
  k_with "wpAt" => ((dsimp only; ks_step "execs cons"; refine ks_wpAt_execs_cons ?_))
  k_with "wpAt" => (((try dsimp only); ks_step "exec Expr"; k_dflt (refine ks_wpAt_Expr_any ?_ (by rfl) (by rfl))))
  k_with "wpAt" => (((try dsimp only); ks_step "eval Call"; k_dflt (refine ks_wpAt_MethodCall ?_)))
  k_with "c.startG" => ((unfold ConG; k_fill; intro _ _ _ _ _ _ _ _ _ _ _ _ _ _ _ _ _ Bq9 Fq9 Xq9 Nq9 Tq9 _ _ _ hretq9; refine wpAny_call ?_; k_dflt walk_at "c.enterG"; clear hretq9 Nq9 Fq9 Bq9 Xq9 Tq9))
  k_with "c.retG" => ((intro _ _ hl9q9; exact con_backG (by assumption) (by assumption) (by assumption) (by assumption) hl9q9))
  k_with "c.enterG" => ((refine' con_defG (fun _ _ => True) ?k1q9 ?k2q9 ?k3q9 ?k4q9 ?k5q9 ?kAq9 ?kFq9 ?kKq9 ?k6q9 ?k7q9 ?k8q9 ?k9q9 ?kBq9 ?kRq9 ?_ ?c2q9 ?c3q9 ?c4q9 ?c5q9; (case kAq9 => exact rfl); (case kFq9 => exact rfl); (case kKq9 => assumption); (case k1q9 => k_asm); (case k2q9 => k_asm); (case k3q9 => k_asm); (case k4q9 => k_asm); (case k5q9 => k_asm); (case k6q9 => k_is); (case k7q9 => k_is); (case k8q9 => ktr_room); (case k9q9 => first | exact BindsTo.of_eq rfl | exact binds_K (by k_in) rfl (by k_is) rfl rfl rfl); (case c5q9 => decide); (case kBq9 => exact locs rfl); (case c2q9 => exact rfl); (case c3q9 => exact rfl); (case c4q9 => exact rfl); (case kRq9 => walk_at "c.retG"); k_whole; intro _ _ _ _ _ _ _ _ _ l1q9; (try k_lt l1q9); (try (revert l1q9; intro _)); (try dsimp only); (try k_fold)))
  trivial
abbrev pairT (t0 t1 : Tok) : Obj := { cls := .type "tuple", data := .seq #[.str (Str.ofString " ") t0, .str (Str.ofString " ") t1] }
section
variable {M : Model} {A : Around} {E : Value → Shared → Prop} {s : Shared} {x : Str} {pos : Pos} {v : Value} {Q : Value → Shared → Prop} {scope : Scope} {cl : List (Str × Addr)} {C bi : Addr} {code : Value} {env : Env} {m : Str → Option Value}
theorem gName_local (hn : s.heap.Ns C m) (hv : m x = some v) (h : Q v s) (hk : scope.kind = .function) (hl : (genEnv scope cl C code bi env).kindOf x = some .local) (hd : (x == ("__debug__" : Str)) = false) :
    wpAny M A (eval (.Name x pos) (genEnv scope cl C code bi env)) Q E s := wpAny_Name (wpAny_loadName_local hk hl hn hv h) hd
theorem gName_builtin {mg mb : Str → Option Value} (hg : s.heap.Ns env.globals mg) (h0 : mg x = none) (hb : s.heap.Ns builtinsNs mb) (hv : mb x = some v) (h : Q v s) (hk : scope.kind = .function) (hl : (genEnv scope cl C code builtinsNs env).kindOf x = some .globalImplicit) (hd : (x == ("__debug__" : Str)) = false) :
    wpAny M A (eval (.Name x pos) (genEnv scope cl C code builtinsNs env)) Q E s :=
  Name_function_global hk hl (loadGlobal_builtin (env := genEnv scope cl C code builtinsNs env) hg h0 hb hv h) hd
end
theorem rowsA15_2 : True := by
  k_with "eval Name" => ((first
      | (with_unfolding_all refine gName_local (by assumption) (by assumption) ?_ (by rfl) (by rfl) (by decide))
      | (with_unfolding_all refine gName_builtin (by assumption) (by assumption) (by assumption) (by assumption) ?_ (by rfl) (by rfl) (by decide))))
  trivial
theorem len_elt {prog : Program} {w : World} {A : Around} {E : Value → Shared → Prop} {s : Shared} {p1 p2 p3 p4 p5 p6 p7 : Pos} {scope : Scope} {cl : List (Str × Addr)} {C : Addr} {code : Value} {env : Env} {m mg mb : Str → Option Value} {t0 t1 : Tok}
    (hs : scope = { kind := .function, names := [(Str.ofString ".0", NameKind.local), (Str.ofString "fws", NameKind.local), (Str.ofString "part", NameKind.local), (Str.ofString "len", NameKind.globalImplicit)], isGenerator := true, isCoroutine := false })
    (hn : s.heap.Ns C m) (h1 : m (Str.ofString "fws") = some (.str (Str.ofString " ") t0)) (h2 : m (Str.ofString "part") = some (.str (Str.ofString " ") t1)) (hg : s.heap.Ns env.globals mg) (h0 : mg (Str.ofString "len") = none) (hb : s.heap.Ns builtinsNs mb) (hl : mb (Str.ofString "len") = some (.builtin "len")) :
    wpAny (model prog w) A (eval (((Expr.Name (Str.ofString "len") p1).Call [Expr.Name (Str.ofString "fws") p2] [] p3).BinOp .Add ((Expr.Name (Str.ofString "len") p4).Call [Expr.Name (Str.ofString "part") p5] [] p6) p7) (genEnv scope cl C code builtinsNs env)) (fun y s₃ => (∃ t, y = .int 2 t) ∧ Keeps s s₃) E s := by
  subst hs
  have hfit : ¬ ((Str.ofString " ").length : Int) ≥ 2 ^ 63 := by decide +kernel
  have hlen : ((Str.ofString " ").length : Int) = 1 := by decide +kernel
  k_steps
  exact ⟨_, _, rfl, fun _ _ e => e⟩
abbrev genScope : Scope := { kind := .function, names := [(Str.ofString ".0", NameKind.local), (Str.ofString "fws", NameKind.local), (Str.ofString "part", NameKind.local), (Str.ofString "len", NameKind.globalImplicit)], isGenerator := true, isCoroutine := false }
theorem pairs_of {ts : List (Addr × Obj)} : ∀ {l : List Value}, (∀ v ∈ l, ∃ T t0 t1, v = .ref T ∧ (T, pairT t0 t1) ∈ ts) → ∃ q : List (Addr × Tok × Tok), l = q.map (fun p => Value.ref p.1) ∧ ∀ p ∈ q, (p.1, pairT p.2.1 p.2.2) ∈ ts
  | [], _ => ⟨[], rfl, fun _ h => nomatch h⟩
  | v :: r, h => by
    obtain ⟨T, t0, t1, rfl, hm⟩ := h _ List.mem_cons_self
    obtain ⟨q, rfl, hq⟩ := pairs_of (fun v hv => h v (List.mem_cons_of_mem _ hv))
    refine ⟨(T, t0, t1) :: q, rfl, fun p hp => ?_⟩
    rcases List.mem_cons.mp hp with rfl | hp
    · exact hm
    · exact hq p hp
theorem preSum_two : ∀ n : Nat, preSum (fun _ => 2) n = 2 * (n : Int)
  | 0 => rfl
  | n + 1 => by
    show preSum (fun _ => 2) n + 2 = _
    rw [preSum_two n]
    omega
theorem fr_off {h₀ h h' : Heap} {L : Addr} {m : Str → Option Value} {wr : List Addr} (F : Fr h₀ L h m) (hk : ∀ b o, b ∉ wr → h.get? b = some o → h'.get? b = some o) (hL : L ∉ wr) (hw : ∀ b ∈ wr, h₀.get? b = none) : Fr h₀ L h' m :=
  ⟨F.ns.at' fun o e => hk L o hL e, fun b o e => hk b o (fun hm => by rw [hw b hm] at e; cases e) (F.keep b o e), F.above⟩
theorem news_off {h₀ h h' : Heap} {L : Addr} {news : List (Addr × Obj)} {wr : List Addr} (N : News h₀ L h news) (hk : ∀ b o, b ∉ wr → h.get? b = some o → h'.get? b = some o) (off : ∀ p ∈ news, p.1 ∉ wr) : News h₀ L h' news :=
  fun p hp => ⟨hk _ _ (off p hp) (N p hp).1, (N p hp).2⟩
theorem passing_all (n : Nat) : (passing (fun _ => true) n 0).length = n := by
  show ((List.range n).filter (fun _ => true)).length = n
  rw [List.filter_eq_self.mpr (fun _ _ => rfl), List.length_range]
theorem fp_lt {a c b : Nat} (h : c < a) (hb : b ∈ a :: c :: List.range c) : b < a + 1 := by
  rcases List.mem_cons.mp hb with rfl | hb
  · omega
  rcases List.mem_cons.mp hb with rfl | hb
  · omega
  · have := List.mem_range.mp hb
    omega
theorem news_tab {h₀ h h' : Heap} {L : Addr} {a b : Addr × Obj} {ts : List (Addr × Obj)} {ps ps' : Array Value} (N : News h₀ L h (a :: b :: (129, tabObj ps) :: ts)) (hk : ∀ y o, y ∉ [129] → h.get? y = some o → h'.get? y = some o) (hP : h'.get? 129 = some (tabObj ps')) (hoff : ∀ p ∈ a :: b :: ts, p.1 ≠ 129)
    (hz : h.get? 129 = some (tabObj ps) ∧ (129 : Addr) ≠ L ∧ h₀.get? 129 = none) : News h₀ L h' (a :: b :: (129, tabObj ps') :: ts) := by
  intro p hp
  simp only [List.mem_cons] at hp
  by_cases h9 : p = (129, tabObj ps')
  · subst h9
    exact ⟨hP, hz.2⟩
  · have hm : p ∈ a :: b :: ts := by
      simp only [List.mem_cons]
      rcases hp with hp | hp | hp | hp
      · exact .inl hp
      · exact .inr (.inl hp)
      · exact absurd hp h9
      · exact .inr (.inr hp)
    have hm2 : p ∈ a :: b :: (129, tabObj ps) :: ts := by
      simp only [List.mem_cons] at hm ⊢
      rcases hm with hp | hp | hp
      · exact .inl hp
      · exact .inr (.inl hp)
      · exact .inr (.inr (.inr hp))
    have z := N p hm2
    exact ⟨hk _ _ (by simpa using hoff p hm) z.1, z.2⟩
theorem len_con (w : World) (mean : ExcName → Option Value) (mg mb : Str → Option Value) (x d : Addr) (items : Array Value) (n : Nat) (k1 t2 : Tok) (ps : Array Value) (ts : List (Addr × Obj))
    (hit : ∀ v ∈ items.toList, ∃ T t0 t1, v = .ref T ∧ (T, pairT t0 t1) ∈ ts) (hs : items.size ≤ 100) (hps : TabOk { line := 74, col := 19, endLine := 74, endCol := 63 } ps) (hoff : ∀ p ∈ (x, lobj 167 d items n) :: (d, accD w k1 t2 0) :: ts, p.1 ≠ 129) :
    ConG 10 w mean mg mb 134 [.ref x] ((x, lobj 167 d items n) :: (d, accD w k1 t2 0) :: (129, tabObj ps) :: ts) (fun tl v => ∃ ps' t, TabOk { line := 74, col := 19, endLine := 74, endCol := 63 } ps' ∧ tl = (x, lobj 167 d items n) :: (d, accD w k1 t2 0) :: (129, tabObj ps') :: ts ∧ v = .int (2 * items.size) t) := by
  obtain ⟨q, hq1, hq2⟩ := pairs_of hit
  walk_at "c.startG"
  k_steps
  with_reducible rename Fr _ _ _ _ => lF
  with_reducible rename News _ _ _ _ => lN
  rename Top _ _ _ _ _ _ => lT
  rename Frag.In _ _ => lX
  refine wpAny_GeneratorExp_walksQT (cl := []) (by rfl) (by rfl) (by rfl) (by decide) (by rfl) (by rfl) (by rfl) (by decide) (by rfl) (by ktr_room) ?_ (by intro _; rfl)
  refine nameX_L lF (by rfl) ?_
  have hx := (lN (x, lobj 167 d items n) List.mem_cons_self).1
  refine lsub_iter (lX.keeps lF.keep) hx (by k_is) (by k_is) ?_
  have lF2 := lF.push { cls := .type "list_iterator", data := .fields #[.ref x, .int 0 0] }
  have lN2 := lN.grown fun _ _ e => Heap.get?_push_of_some { cls := .type "list_iterator", data := .fields #[.ref x, .int 0 0] } e
  refine ⟨lT.nolimit.keeps lF2.keep, ?_⟩
  have hcode := (lX.keeps lF2.keep) 133 _ (by k_is)
  have hz9 := lN2 (129, tabObj ps) (by simp)
  have hqs : q.length = items.size := by have := congrArg List.length hq1; simpa using this.symm
  rename_i g1 L1 h1 hgk B1 l1
  refine codeTab (c := 133) (P := 129) rfl hcode rfl rfl (by rfl) (by rfl) (by rfl) (by rfl) (by rfl) hz9.1 (by decide) hps ?_
  intro c' h3 tk3 ps' hps' hx3 hsz3 hP3
  have hx3' : ∀ b o, b ∉ [129] → Heap.get? _ b = some o → h3.get? b = some o := fun b o hb e => hx3 b o (by simpa using hb) e
  have F3 := fr_off lF2 hx3' (by simpa using Ne.symm hz9.2.1) (by simpa using hz9.2.2)
  have N3 := news_tab lN2 hx3' hP3 hoff hz9
  obtain ⟨bm, ob, BM⟩ := bmod_of_top lT
  have hI9 : h1.objs.size ≠ 129 := Ne.symm (Nat.ne_of_lt (Heap.lt_size (lN (129, tabObj ps) (by simp)).1))
  have hit3 : h3.IsListIter h1.objs.size x 0 := ⟨_, hx3' _ _ (by simpa using hI9) (Heap.get?_push_size _ rfl), rfl, rfl⟩
  have hseq3 : HasSeq h3 x items := ⟨_, _, (N3 _ List.mem_cons_self).1, rfl⟩
  have hqm : ∀ j, j < items.size → q.getD j default ∈ q := fun j hj => by
    rw [List.getD_eq_getElem?_getD, List.getElem?_eq_getElem (hqs ▸ hj)]
    exact List.getElem_mem _
  have htup3 : ∀ j, j < items.size → h3.IsTuple (q.getD j default).1 #[.str (Str.ofString " ") (q.getD j default).2.1, .str (Str.ofString " ") (q.getD j default).2.2] := fun j hj =>
    ⟨_, (N3 _ (List.mem_cons_of_mem _ (List.mem_cons_of_mem _ (List.mem_cons_of_mem _ (hq2 _ (hqm j hj)))))).1, rfl, _, rfl⟩
  have hTI : ∀ j, j < items.size → (q.getD j default).1 ≠ h1.objs.size := fun j hj =>
    Nat.ne_of_lt (Heap.lt_size (lN _ (List.mem_cons_of_mem _ (List.mem_cons_of_mem _ (List.mem_cons_of_mem _ (hq2 _ (hqm j hj)))))).1)
  have hitT : ∀ j, j < items.size → items[j]? = some (.ref (q.getD j default).1) := fun j hj => by
    rw [← Array.getElem?_toList, hq1, List.getElem?_map, List.getD_eq_getElem?_getD, List.getElem?_eq_getElem (hqs ▸ hj)]
    rfl
  have hxI : x ≠ h1.objs.size := Nat.ne_of_lt (Heap.lt_size hx)
  have hsz3' : h1.objs.size < h3.objs.size := Nat.lt_of_lt_of_le (by rw [Heap.size_push]; exact Nat.lt_succ_self _) hsz3
  have hlim3 := lT.nolimit.keeps F3.keep
  have hcst : cStatics ∉ [h1.objs.size] := by
    obtain ⟨_, hn, _⟩ := lT.nolimit.keeps lF.keep
    simpa using Nat.ne_of_lt hn.lt
  have hg1 : mainGlobals ∉ [h1.objs.size] := by simpa using Nat.ne_of_lt (lT.g.keeps lF.keep).lt
  have hb1 : builtinsNs ∉ [h1.objs.size] := by simpa using Nat.ne_of_lt (lT.b.keeps lF.keep).lt
  have hlen0 : mg (Str.ofString "len") = none := mg_none_of lX lT.g (by k_is)
  have hlenb : mb (Str.ofString "len") = some (.builtin "len") := (lT.builtins _ (by decide +kernel)).trans (by decide +kernel)
  have hfp3 : ∀ b ∈ h1.objs.size :: x :: (List.range items.size).map (fun j => (q.getD j default).1), b < h3.objs.size := by
    intro b hb
    rcases List.mem_cons.mp hb with rfl | hb
    · exact hsz3'
    rcases List.mem_cons.mp hb with rfl | hb
    · exact Heap.lt_size (N3 _ List.mem_cons_self).1
    · obtain ⟨j, hj, rfl⟩ := List.mem_map.mp hb
      obtain ⟨_, e, _⟩ := htup3 j (List.mem_range.mp hj)
      exact Heap.lt_size e
  refine wpAny_builtinsFor (BM.ns.keeps F3.keep) BM.name BM.ne (F3.keep _ _ BM.obj) BM.cls BM.dict BM.data ?_
  refine ⟨_, _, [h1.objs.size], items.size, _, _, _, fun _ => true, fun _ y => ∃ t, y = .int 2 t, rfl, fun A' hh => walksPairs hh h1.objs.size x hxI items (fun j => (q.getD j default).1) (fun j => #[.str (Str.ofString " ") (q.getD j default).2.1, .str (Str.ofString " ") (q.getD j default).2.2]) hitT hTI,
    fun i vals hv => ⟨_, _, hv.2⟩, ⟨hit3, hseq3, htup3⟩, hfp3, hlim3, hcst, fun href hre => ⟨?_, ?_⟩, ?_⟩
  · intro A' E' i va vb s₂ m₂ hh hP hn ha hb hk
    exact wpAny_tests_nil ⟨rfl, s₂.heap, s₂.toks, rfl, fun _ _ e => e⟩
  · intro A' E' i va vb s₂ m₂ hh hP hz hn ha hb hk
    have hP2 := hP.2
    simp only [Array.mk.injEq, List.cons.injEq, and_true] at hP2
    obtain ⟨rfl, rfl⟩ := hP2
    refine len_elt rfl hn ha hb ((lT.g.keeps F3.keep).at' fun o e => hk _ (List.mem_range.mpr (Heap.lt_size e)) hg1 o (hre _ _ e)) hlen0 ((lT.b.keeps F3.keep).at' fun o e => hk _ (List.mem_range.mpr (Heap.lt_size e)) hb1 o (hre _ _ e)) hlenb
  · intro a h5 tk gs hgs hlt hsz hkeep W hat
    dsimp only at hlt hsz hkeep W hat
    have hL1 : L1 < h1.objs.size := lF.ns.lt
    have F5 := fr_off (wr := []) F3 (fun b o _ e => hkeep b o e) (by simp) (by simp)
    have N5 := N3.grown fun b o e => hkeep b o e
    have hoff5 : ∀ p ∈ (x, lobj 167 d items n) :: (d, accD w k1 t2 0) :: (129, tabObj ps') :: ts, p.1 < h1.objs.size := by
      intro p hp
      have z : ∀ p ∈ (x, lobj 167 d items n) :: (d, accD w k1 t2 0) :: (129, tabObj ps) :: ts, p.1 < h1.objs.size := fun p hp => Heap.lt_size (lN p hp).1
      rcases List.mem_cons.mp hp with rfl | hp
      · exact z _ List.mem_cons_self
      rcases List.mem_cons.mp hp with rfl | hp
      · exact z _ (List.mem_cons_of_mem _ List.mem_cons_self)
      rcases List.mem_cons.mp hp with rfl | hp
      · exact z (129, tabObj ps) (List.mem_cons_of_mem _ (List.mem_cons_of_mem _ List.mem_cons_self))
      · exact z _ (List.mem_cons_of_mem _ (List.mem_cons_of_mem _ (List.mem_cons_of_mem _ hp)))
    have hge : g1.objs.size ≤ h1.objs.size := Nat.le_trans lF.above (Nat.le_of_lt hL1)
    clear lF lN lF2 lN2 F3 N3
    k_steps
    have hpn : (passing (fun _ => true) items.size 0).length = items.size := passing_all _
    have hwr : ∀ b ∈ [h3.objs.size, h1.objs.size], h1.objs.size ≤ b := by
      intro b hb
      simp only [List.mem_cons, List.not_mem_nil, or_false] at hb
      rcases hb with rfl | rfl
      · exact Nat.le_of_lt hsz3'
      · exact Nat.le_refl _
    refine sum_start0 (wpAny_pyIter_gen hat.1 ⟨a, _, _, _, _, _, _, fun _ => 2, rfl, W.in4_1, W.frame 0 _ _ _ hat (Nat.le_succ _) (fun b _ o e => e), ?_, fun i v hv => hv.choose_spec.2, ?_, ?_⟩)
    · intro b hb
      show b < h5.objs.size
      rw [hsz]
      exact fp_lt hlt hb
    · intro j hj
      rw [hpn] at hj
      rw [preSum_two]
      constructor
      · show InLong 2
        unfold InLong; omega
      · unfold InLong; omega
    · intro s' t' hm
      rw [preSum_two, hpn]
      obtain ⟨h', g', d', tk', os'⟩ := s'
      obtain ⟨hm1, hm2, hm3, hm4, hm5⟩ := hm
      dsimp only at hm1 hm2 hm3 hm4 hm5
      subst hm3 hm4
      refine ⟨L1, _, _, h', tk', g', rfl, GR.trans (GR.push hgs) (fun h => hm2.bare h), fr_off F5 (fun b o hb e => hm1 b o hb e) (fun hb => ?_) (fun b hb => ?_), news_off N5 (fun b o hb e => hm1 b o hb e) (fun p hp hb => ?_), ⟨ps', t', hps', rfl, rfl⟩⟩
      · exact Nat.lt_irrefl _ (Nat.lt_of_lt_of_le hL1 (hwr _ hb))
      · exact Heap.get?_none_of_le (Nat.le_trans hge (hwr _ hb))
      · exact Nat.lt_irrefl _ (Nat.lt_of_lt_of_le (hoff5 p hp) (hwr _ hb))
end
section
local macro_rules | `(tactic| k_room) => `(tactic| ktr_room)
theorem rowsA16_0 : True := by
  w_top off
  k_with_none
  k_with "c.enter" => ((first
      | (refine' con_def ?k1q9 ?k2q9 ?k3q9 ?k4q9 ?k5q9 ?kAq9 ?kFq9 ?kKq9 ?k6q9 ?k7q9 ?k8q9 ?k9q9 ?kBq9 ?kRq9 ?_ ?c2q9 ?c3q9 ?c4q9 ?c5q9; (case kAq9 => exact rfl); (case kFq9 => exact rfl); (case kKq9 => assumption); (case k1q9 => k_asm); (case k2q9 => k_asm); (case k3q9 => k_asm); (case k4q9 => k_asm); (case k5q9 => k_asm); (case k6q9 => k_is); (case k7q9 => k_is); (case k8q9 => ktr_room); (case k9q9 => first | exact BindsTo.of_eq rfl | exact binds_K (by k_in) rfl (by k_is) rfl rfl rfl); (case c5q9 => decide); (case kBq9 => exact locs rfl); (case c2q9 => exact rfl); (case c3q9 => exact rfl); (case c4q9 => exact rfl); (case kRq9 => walk_at "c.ret"); k_whole; intro _ _ _ _ _ N'q9 _ _ _ l1q9; (try k_lt l1q9); (try (revert l1q9; intro _)); (try dsimp only); (try k_fold))
      | (refine' con_defC ?k1q9 ?k2q9 ?k3q9 ?k4q9 ?k5q9 ?kAq9 ?kFq9 ?kKq9 ?k6q9 ?k7q9 ?k8q9 ?k9q9 ?kBq9 ?kDq9 ?kRq9 ?_ ?c2q9 ?c3q9 ?c4q9; (case kAq9 => exact rfl); (case kFq9 => exact rfl); (case kKq9 => assumption); (case k1q9 => k_asm); (case k2q9 => k_asm); (case k3q9 => k_asm); (case k4q9 => k_asm); (case k5q9 => k_asm); (case k6q9 => k_is); (case k7q9 => k_is); (case k8q9 => ktr_room); (case k9q9 => first | exact BindsTo.of_eq rfl | exact binds_K (by k_in) rfl (by k_is) rfl rfl rfl); (case kBq9 => exact rfl); (case kDq9 => decide +kernel); (case c2q9 => exact rfl); (case c3q9 => exact rfl); (case c4q9 => exact rfl); (case kRq9 => walk_at "c.ret"); k_whole; intro _ _ _ _ _ _ _ N'q9 Y'q9 _ _ _ l1q9; (try k_lt l1q9); (try (revert l1q9; intro _)); k_cells Y'q9; (try simp only [List.cons_append, List.nil_append] at N'q9); (try dsimp only); (try k_fold))))
  k_with "c.ret" => ((intro _ _ hl9q9; exact con_back (by assumption) (by assumption) (by assumption) (by assumption) hl9q9))
  k_with "c.start" => ((unfold Con; k_fill; intro _ _ _ _ _ _ _ _ _ _ _ _ _ _ _ _ _ Bq9 Fq9 Xq9 Nq9 Tq9 _ _ _ hretq9; refine wpAny_call ?_; k_dflt walk_at "c.enter"; clear hretq9 Nq9 Fq9 Bq9 Xq9 Tq9))
  k_with "c.startCls" => ((unfold Con; k_fill; intro _ _ _ _ _ _ _ _ _ _ _ _ _ _ _ _ _ Bq9 Fq9 Xq9 Nq9 Tq9 _ _ _ hretq9; refine wpAny_call ?_; k_dflt walk_at "c.enterCls"; clear hretq9 Nq9 Fq9 Bq9 Xq9 Tq9))
  k_with "c.enterCls" => ((refine' con_cls ?k1q9 ?k2q9 ?k3q9 ?k5q9 ?kAq9 ?kFq9 ?kKq9 ?m1q9 ?m2q9 ?m3q9 ?k6q9 ?k7q9 ?k8q9 ?k9q9 ?kBq9 ?kRq9 ?_ ?c2q9 ?c3q9 ?c4q9 ?c5q9; (case kAq9 => exact rfl); (case kFq9 => exact rfl); (case kKq9 => assumption); (case k1q9 => k_asm); (case k2q9 => k_asm); (case k3q9 => k_asm); (case k5q9 => k_asm); (case m1q9 => k_is); (case m2q9 => k_is); (case m3q9 => k_is); (case k6q9 => k_is); (case k7q9 => k_is); (case k8q9 => ktr_room); (case k9q9 => intro _ _; exact BindsTo.of_eq rfl); (case c5q9 => decide); (case kBq9 => intro _; exact locs rfl); (case c2q9 => exact rfl); (case c3q9 => exact rfl); (case c4q9 => exact rfl); (case kRq9 => exact con_nil (by assumption)); k_whole; intro _ _ _ _ _ _ l0'q9 _ _ _ _ _ l1q9; (try k_lt2 l0'q9); (try (revert l0'q9; intro _)); (try k_lt2 l1q9); (try (revert l1q9; intro _)); (try dsimp only); (try k_fold)))
  k_with "CompSrc" => ((k_here; k_dflt (refine LCg.CompSrc.range (by rfl) (by k_asm) (by k_asm) (by assumption) (by first | decide | rfl) (by first | rfl | decide) (by first | size_fits | exact Nat.le_of_ble_eq_true rfl) ?_; intro _; lcg_lit)))
  k_with "binaryOp Mult str int" => ((k_here; (refine' r_mul ?haq9 ?hbq9 ?_); (case haq9 => ((try simp only [fmod_lit]); omega)); (case hbq9 => ((try simp only [fmod_lit]); omega)); intro _ _))
  k_with "binaryOp Add str str" => ((k_here; (refine' r_add ?haq9 ?hbq9 ?hcq9 ?_); (case haq9 => first | with_reducible exact S_tab | with_reducible exact S_blank | with_reducible rfl); (case hbq9 => first | with_reducible exact S_tab | with_reducible exact S_blank | with_reducible rfl); (case hcq9 => (simp [sp]; omega)); intro _ _))
  k_with "call builtin:str.join" => ((k_here; (first
      | refine' r_join (ls := [(_, _)]) ?hlq9 ?hiq9 ?hwq9 ?_; (case hlq9 => exact News.isList (by k_asm) (by k_mem)); (case hiq9 => exact rfl)
      | refine' r_join (ls := [(_, _), (_, _)]) ?hlq9 ?hiq9 ?hwq9 ?_; (case hlq9 => exact News.isList (by k_asm) (by k_mem)); (case hiq9 => exact rfl)
      | refine' r_join (ls := [(_, _), (_, _), (_, _)]) ?hlq9 ?hiq9 ?hwq9 ?_; (case hlq9 => exact News.isList (by k_asm) (by k_mem)); (case hiq9 => exact rfl)); (case hwq9 => (simp [sp, fmod_lit]; omega)); intro _ _; (try dsimp only)))
  k_with "call type:tuple" => ((k_here; k_dflt (refine' r_tuple ?Fq9 ?Nq9 ?mq9 ?_ ?zq9; (case Fq9 => k_asm); (case Nq9 => k_asm); (case mq9 => k_mem); (case zq9 => (have hc9 := sizeLine_eq; (have hI9 := IntsAre.length (by assumption)); omega)); k_whole); intro _ _ _ _ l1q9; (try k_lt l1q9); (try (revert l1q9; intro _))))
  k_with "call builtin:len" => ((k_here; (with_reducible show wpAny _ _ (call (Value.builtin "len") [Value.ref _]) _ _ _); k_dflt (refine' r_len_tupI ?Nq9 ?mq9 ?iq9 ?fq9 ?_; (case Nq9 => k_asm); (case mq9 => k_mem); (case iq9 => with_reducible assumption); (case fq9 => omega); k_whole); intro _ _))
  k_with "subscriptTail" => ((k_here; (with_reducible show wpAny _ _ (subscriptTail _ _ (Value.ref _) (Value.int _ _)) _ _ _); k_dflt (refine' r_item_tupI ?Nq9 ?mq9 ?iq9 ?aq9 ?bq9 ?cq9 ?_ ?eq9; (case Nq9 => k_asm); (case mq9 => k_mem); (case iq9 => with_reducible assumption); (case aq9 => omega); (case bq9 => omega); (case cq9 => omega); (case eq9 => with_unfolding_all rfl); k_whole); intro _))
  k_with "pyIter ref" => ((k_here; (with_reducible show wpAny _ _ (pyIter (Value.ref _)) (fun it s₂ => LoopAtV _ _ _ _ _ _ _ _ _ it s₂) _ _); refine Hold.of ?_))
  trivial
local macro_rules | `(tactic| k_inst) => `(tactic| (refine' accInst ?N ?h1 ?h2; (case N => k_asm); (case h1 => k_mem); (case h2 => k_mem)))
theorem rowsA16_1 : True := by
  k_with "c.startS" => ((unfold Con; k_fill; intro _ _ _ _ _ _ _ _ _ _ _ _ _ _ _ _ _ Bq9 Fq9 Xq9 Nq9 Tq9 _ _ _ hretq9; refine wpAny_call ?_; k_dflt walk_at "c.enterS"; clear hretq9 Nq9 Fq9 Bq9 Xq9 Tq9))
  k_with "c.enterS" => ((refine' con_defS ?k1q9 ?k2q9 ?k3q9 ?k4q9 ?k5q9 ?kAq9 ?kFq9 ?kKq9 ?k6q9 ?k7q9 ?k8q9 ?k9q9 ?kBq9 ?kRq9 ?_ ?c2q9 ?c3q9 ?c4q9 ?c5q9; (case kAq9 => exact rfl); (case kFq9 => exact rfl); (case kKq9 => assumption); (case k1q9 => k_asm); (case k2q9 => k_asm); (case k3q9 => k_asm); (case k4q9 => k_asm); (case k5q9 => k_asm); (case k6q9 => k_is); (case k7q9 => k_is); (case k8q9 => ktr_room); (case k9q9 => first | exact BindsTo.of_eq rfl | exact binds_K (by k_in) rfl (by k_is) rfl rfl rfl); (case c5q9 => decide); (case kBq9 => exact locs rfl); (case c2q9 => exact rfl); (case c3q9 => exact rfl); (case c4q9 => exact rfl); (case kRq9 => walk_at "c.ret"); k_whole; intro _ _ _ _ _ _ _ _ _ l1q9; (try k_lt l1q9); (try (revert l1q9; intro _)); (try dsimp only); (try k_fold)))
  k_with "getMethod ref" => ((k_here; (with_reducible show wpAny _ _ (getMethod (Value.ref _) _ _) _ _ _); k_dflt (refine' acc_method ?Fq9 ?Xq9 ?Nq9 ?mq9 ?dq9 ?gaq9 ?cq9 ?gtq9 ?fq9 ?tfq9 ?lq9 ?_; (case Fq9 => k_asm); (case Xq9 => assumption); (case Nq9 => k_asm); (case mq9 => k_mem); (case dq9 => k_mem); (case gaq9 => k_is); (case cq9 => decide +kernel); (case gtq9 => k_is); (case fq9 => k_is); (case tfq9 => first | exact .inl (by k_is) | exact .inr (by k_is)); (case lq9 => rfl)); k_whole))
  k_with "getMethod ref" => ((k_here; (with_reducible show wpAny _ _ (getMethod (Value.ref _) _ _) _ _ _); k_dflt (refine' acc_super ?idq9 ?Fq9 ?Xq9 ?Nq9 ?sq9 ?mq9 ?oq9 ?fq9 ?lq9 ?nq9 ?_; (case Fq9 => k_asm); (case Xq9 => assumption); (case Nq9 => k_asm); (case sq9 => k_mem); (case mq9 => k_mem); (case oq9 => k_is); (case fq9 => ks_is); (case lq9 => k_is); (case nq9 => decide); (case idq9 => first | exact .inl rfl | exact .inr rfl)); k_whole; intro _ _ _ _ l1q9; (try k_lt l1q9); (try (revert l1q9; intro _))))
  k_with "callWith ref" => ((k_here; (with_reducible show wpAny _ _ (callWith _ (Value.ref _) [] _ []) _ _ _); k_dflt (refine' acc_mwWith ?Nq9 ?mq9 ?_; (case Nq9 => k_asm); (case mq9 => k_mem)); k_whole))
  k_with "call ref" => ((k_here; (with_reducible show wpAny _ _ (call (Value.ref _) []) _ _ _); k_dflt (refine' acc_mwLen ?Fq9 ?Xq9 ?Nq9 ?uq9 ?mq9 ?_; (case Fq9 => k_asm); (case Xq9 => assumption); (case Nq9 => k_asm); (case uq9 => k_mem); (case mq9 => k_mem)); k_whole; intro _ _))
  k_with "call ref" => ((k_here; (with_reducible show wpAny _ _ (call (Value.ref _) []) _ _ _); k_dflt (refine' acc_mwInit ?Fq9 ?Xq9 ?Nq9 ?uq9 ?mq9 ?_; (case Fq9 => k_asm); (case Xq9 => assumption); (case Nq9 => k_asm); (case uq9 => k_mem); (case mq9 => k_updF)); k_whole; intro _ _ _ _))
  k_with "call builtin:list.append" => ((k_here; k_dflt (refine' acc_append ?Fq9 ?Xq9 ?Nq9 ?Uq9 ?lq9 ?zq9 ?_; (case Fq9 => k_asm); (case Xq9 => assumption); (case Nq9 => k_asm); (case Uq9 => k_updF); (case lq9 => k_is); (case zq9 => omega)); k_whole; intro _ _ _ _))
  k_with "subscriptTail" => ((k_here; (with_reducible show wpAny _ _ (subscriptTail _ _ (Value.ref _) (Value.ref _)) _ _ _); k_dflt (refine' acc_slice ?Fq9 ?Xq9 ?Nq9 ?mq9 ?lq9 ?nq9 ?fq9 ?plq9 ?puq9 ?zq9 ?_ ?hsq9 ?htq9; (case Fq9 => k_asm); (case Xq9 => assumption); (case Nq9 => k_asm); (case mq9 => k_mem); (case lq9 => k_is); (case nq9 => k_is); (case fq9 => k_is); (case plq9 => first | exact .none | exact .int _ _); (case puq9 => first | exact .none | exact .int _ _); (case zq9 => omega); (case hsq9 => with_unfolding_all rfl); (case htq9 => (intro _; with_unfolding_all rfl))); k_whole; intro _ _ _ _ l1q9; (try k_lt l1q9); (try (revert l1q9; intro _))))
  k_with "setItem ref ref" => ((k_here; (with_reducible show wpAny _ _ (setItem (Value.ref _) (Value.ref _) (Value.ref _)) _ _ _); k_dflt (refine' acc_store ?Fq9 ?Xq9 ?Nq9 ?Uq9 ?lq9 ?nq9 ?fq9 ?yq9 ?xyq9 ?plq9 ?puq9 ?zq9 ?_; (case Fq9 => k_asm); (case Xq9 => assumption); (case Nq9 => k_asm); (case Uq9 => k_updF); (case lq9 => k_is); (case nq9 => k_is); (case fq9 => k_is); (case yq9 => k_mem); (case xyq9 => k_ne); (case plq9 => first | exact .none | exact .int _ _); (case puq9 => first | exact .none | exact .int _ _); (case zq9 => ((try simp); omega))); k_whole; intro _ _ _ _))
  k_with "setAttr ref" => ((k_here; (with_reducible show wpAny _ _ (setAttr (Value.ref _) _ _) _ _ _); k_dflt (refine' acc_setAttr ?Fq9 ?Xq9 ?Nq9 ?mq9 ?Uq9 ?cq9 ?mrq9 ?hdq9 ?sq9 ?tq9 ?lq9 ?eq9 ?zq9 ?_; (case Fq9 => k_asm); (case Xq9 => assumption); (case Nq9 => k_asm); (case mq9 => k_mem); (case Uq9 => k_updF); (case cq9 => k_is); (case mrq9 => exact rfl); (case hdq9 => exact rfl); (case sq9 => k_is); (case tq9 => k_is); (case lq9 => k_get); (case eq9 => k_put); (case zq9 => exact Nat.le_of_ble_eq_true rfl)); k_whole; intro _ _ _; (try k_sweep)))
  k_with "getAttr ref" => ((k_here; (with_reducible show wpAny _ _ (getAttr (Value.ref _) _ _) _ _ _); k_dflt (refine' acc_getAttr ?Fq9 ?Xq9 ?Nq9 ?mq9 ?dq9 ?gaq9 ?gtq9 ?lq9 ?hhq9 ?haq9 ?hnq9 ?hgq9 ?hvq9 ?_; (case Fq9 => k_asm); (case Xq9 => assumption); (case Nq9 => k_asm); (case mq9 => k_mem); (case dq9 => k_mem); (case gaq9 => k_is); (case gtq9 => k_is); (case lq9 => k_is); (case hhq9 => k_is); (case haq9 => k_is); (case hnq9 => k_is); (case hgq9 => k_get); (case hvq9 => k_handed)); k_whole))
  k_with "wpAt" => ((dsimp only; ks_step "execs cons"; refine ks_wpAt_execs_cons ?_))
  k_with "wpAt" => (((try dsimp only); ks_step "exec Expr"; k_dflt (refine ks_wpAt_Expr_any ?_ (by rfl) (by rfl))))
  k_with "wpAt" => (((try dsimp only); ks_step "eval Call"; k_dflt (refine ks_wpAt_MethodCall ?_)))
  trivial
section
variable {prog : Program} {w : World} {A₀ A : Around} {s : Shared} {base h₀ : Heap} {outer : List Env} {L : Addr} {m : Str → Option Value} {env : Env} {need : List (Addr × Obj)} {K : Frag} {p : Program} {loose : List Str} {mean : ExcName → Option Value} {mg mb : Str → Option Value}
  {R : Result → Shared → Prop} {Post : List (Addr × Obj) → Value → Prop}
  {name qual : Str} {params : Arguments} {body : List Stmt} {scope : Scope} {dV kV doc pm cdv ct oc : Value} {an od : Option Addr} {osl : Array (Option Value)} {f : Addr} {args : Args} {binds : List (Str × Value)}
theorem con_defCG (Z : Value → Shared → Prop) (B : Below A₀ base outer h₀) (F : Fr h₀ L s.heap m) (X₀ : K.In h₀) (N : News h₀ L s.heap need) (T : Top p loose mean mg mb h₀) (hA : A.frames = some (env :: outer)) (hf : env.frame = some L) (hke : env.scope.kind = .function)
    (ho : K.lookup f = some ⟨oc, od, .func (fnOf name qual params body scope dV kV doc pm an cdv ct), osl⟩) (hcd : codeIn K cdv qual = true) (hroom : A.depth < recursionLimit)
    (hbind : BindsTo s (fnOf name qual params body scope dV kV doc pm an cdv ct) args binds) (hkind : (binds.all fun y => scope.names.lookup y.1 == some .local || scope.names.lookup y.1 == some .cell) = true)
    (hnd : ((cellsFrom 0 scope.names []).map (·.1)).Nodup)
    (hret : ∀ v s', LeaveG (hideAll s.heap (need.map (·.1))) s Post v s' → R (.ok (.ret v)) s')
    (h : ∀ g L' h₁ tk cells, (∀ b o, s.heap.get? b = some o → b ∉ need.map (·.1) → g.get? b = some o) → Fr g L' h₁ (bindL (envOfC qual scope L' f cdv).kindOf binds fun _ => none) → News g L' h₁ (cells ++ need) →
      CellsAre (bindC (envOfC qual scope L' f cdv).kindOf binds fun _ => none) (cellsFrom (L' + 1) scope.names []) cells → Below A base (env :: outer) g → K.In g → Top p loose mean mg mb g → (∀ p ∈ need, p.1 < L') →
      wpAny (model prog w) (A.deeper (envOfC qual scope L' f cdv)) (execs body (envOfC qual scope L' f cdv))
        (fun fl s' => LeaveG g s Post (match fl with | .ret v => v | _ => .none) s')
        (fun _ _ => False)
        { s with heap := h₁, toks := tk })
    (hco : scope.isCoroutine = false) (hgen : scope.isGenerator = false) (hk : scope.kind = .function) :
    codeAny (model prog w) A (.call (.ref f) args) R s := by
  obtain ⟨FG, BG, st, lv⟩ := groundX (R := fun _ _ => True) B F N hA hf hke
  refine codeAny_call_function hroom ((X₀.keeps F.keep) _ _ ho) rfl hco hgen rfl (codeRec_of (X₀.keeps F.keep) hcd) (hbind _ _ _ _ ?_)
  refine wpAny_newFunctionEnv_cells hk (kindsX hkind _) fun env' he s' x => ?_
  subst he
  refine ⟨(T.nolimit.keeps F.keep).keeps x.toInCall.keep, codeAny_func ?_⟩
  obtain ⟨h₁, tk, rfl, _⟩ := x.done
  have hk₁ := x.toInCall.keep
  obtain ⟨cells, NC, Y⟩ := Cl.news (h₀ := s.heap) (Nat.le_refl _) fun n c hm => ⟨x.cell n c (lookup_of_mem_nodup (cellsFrom_names scope.names 0 (s.heap.objs.size + 1) [] [] rfl ▸ hnd) hm), x.above n c hm⟩
  refine wpAny_mono (h _ s.heap.objs.size h₁ tk cells (fun b o e hb => hideAll_get _ e hb) ⟨x.toInCall.ns, fun b o e => hk₁ b o (of_hideAll _ e), Nat.le_of_eq (hideAll_size _ _)⟩ (fun p hp => ?_) Y BG (X₀.keeps st) (T.keeps st) (fun p hp => Heap.lt_size (N p hp).1)) (fun fl s' hl => hret _ _ hl) fun _ _ y => y.elim
  rcases List.mem_append.mp hp with hp | hp
  · refine ⟨(NC p hp).1, (NC p hp).2.1, ?_⟩
    cases q : (hideAll s.heap (need.map (·.1))).get? p.1 with
    | none => rfl
    | some o => have := of_hideAll _ q; rw [(NC p hp).2.2] at this; cases this
  · exact ⟨hk₁ _ _ (N p hp).1, Nat.ne_of_lt (Heap.lt_size (N p hp).1), hideAll_none _ (List.mem_map_of_mem hp)⟩
end
theorem rowsA16_2 : True := by
  k_with "c.retG" => ((intro _ _ hl9q9; exact con_backG (by assumption) (by assumption) (by assumption) (by assumption) hl9q9))
  k_with "c.startGC" => ((unfold ConG; k_fill; intro _ _ _ _ _ _ _ _ _ _ _ _ _ _ _ _ _ Bq9 Fq9 Xq9 Nq9 Tq9 _ _ _ hretq9; refine wpAny_call ?_; k_dflt walk_at "c.enterGC"; clear hretq9 Nq9 Fq9 Bq9 Xq9 Tq9))
  k_with "c.enterGC" => ((refine' con_defCG (fun _ _ => True) ?k1q9 ?k2q9 ?k3q9 ?k4q9 ?k5q9 ?kAq9 ?kFq9 ?kKq9 ?k6q9 ?k7q9 ?k8q9 ?k9q9 ?kBq9 ?kDq9 ?kRq9 ?_ ?c2q9 ?c3q9 ?c4q9; (case kAq9 => exact rfl); (case kFq9 => exact rfl); (case kKq9 => assumption); (case k1q9 => k_asm); (case k2q9 => k_asm); (case k3q9 => k_asm); (case k4q9 => k_asm); (case k5q9 => k_asm); (case k6q9 => k_is); (case k7q9 => k_is); (case k8q9 => ktr_room); (case k9q9 => first | exact BindsTo.of_eq rfl | exact binds_K (by k_in) rfl (by k_is) rfl rfl rfl); (case kBq9 => exact rfl); (case kDq9 => decide +kernel); (case c2q9 => exact rfl); (case c3q9 => exact rfl); (case c4q9 => exact rfl); (case kRq9 => walk_at "c.retG"); k_whole; intro _ _ _ _ _ _ _ N'q9 Y'q9 _ _ _ l1q9; (try k_lt l1q9); (try (revert l1q9; intro _)); k_cells Y'q9; (try simp only [List.cons_append, List.nil_append] at N'q9); (try dsimp only); (try k_fold)))
  k_with "call ref" => ((k_here; (with_reducible show wpAny _ _ (call (Value.ref _) _) _ _ _); k_whole; refine Hold.of ?_))
  k_with "compareOp NotEq ref ref" => ((k_here; (with_reducible show wpAny _ _ (compareOp CmpOp.NotEq (Value.ref _) (Value.ref _)) _ _ _); k_whole; refine Hold.of ?_))
  k_with "eval ListComp" => ((k_here; k_dflt (refine LCt.ListComp_T (F₀ := by k_asm) (by with_unfolding_all rfl) (by decide) (by rfl) (by decide) (by rfl) ?_)))
  k_with "CompSrcT" => ((k_here; k_whole; refine Hold.of ?_))
  k_with "call builtin:max" => ((k_here; k_whole; refine Hold.of ?_))
  k_with "exec While" => ((k_here; k_whole; refine Hold.of ?_))
  k_with "exec While Compare" => ((k_here; k_whole; refine Hold.of ?_))
  trivial
theorem off_of {h₀ h : Heap} {L : Addr} {led : List (Addr × Obj)} (N : News h₀ L h led) {p q : Addr × Obj} (hp : p ∈ led) (hq : q ∈ led) (hne : p.2 ≠ q.2) : @Ne Nat p.1 q.1 := fun e => by
  have h1 := (N p hp).1
  have h2 := (N q hq).1
  rw [show p.1 = q.1 from e, h2] at h1
  exact hne (Option.some.inj h1).symm
section
variable {w : World} {A₀ A : Around} {s : Shared} {base h₀ : Heap} {outer : List Env} {L : Addr} {m : Str → Option Value} {need : List (Addr × Obj)} {mean : ExcName → Option Value} {mg mb : Str → Option Value}
  {R : Result → Shared → Prop} {Q E : Value → Shared → Prop} {Post : List (Addr × Obj) → Value → Prop} {f : Addr}
theorem use_back {led' tl : List (Addr × Obj)} {h h' : Heap} (N : News h₀ L h (need ++ led')) (hoff : ∀ p ∈ led', ∀ q ∈ need, @Ne Nat p.1 q.1) (N' : News h₀ L h' tl)
    (kp : ∀ b o, h.get? b = some o → b ∉ need.map (·.1) → h'.get? b = some o) (fr : ∀ p ∈ tl, p.1 ∉ need.map (·.1) → h.get? p.1 = none) :
    News h₀ L h' (tl ++ led') ∧ (∀ p ∈ tl, p.1 ∉ need.map (·.1) → ∀ q ∈ need ++ led', @Ne Nat p.1 q.1) := by
  refine ⟨fun q hq => ?_, fun p hp hn q hq e => ?_⟩
  · rcases List.mem_append.mp hq with hq | hq
    · exact N' q hq
    · exact ⟨kp _ _ (N q (List.mem_append_right _ hq)).1 (fun hm => by obtain ⟨z, hz, e⟩ := List.mem_map.mp hm; exact hoff q hq z hz e.symm), (N q (List.mem_append_right _ hq)).2⟩
  · have := fr p hp hn
    rw [show p.1 = q.1 from e, (N q hq).1] at this
    cases this
theorem con_useC {vs : List Value} {led' : List (Addr × Obj)} {k : Nat} (C : ConC k w mean mg mb f vs need Post) {dp un : Nat} {gd : Option (List Code)} {cn : Str} {cs : Scope} {a : Addr} {ccd : Value} {cl : List (Str × Addr)}
    (hA : A = ktrTop dp un gd cn cs L a ccd cl outer) (B : Below A₀ base outer h₀) (F : Fr h₀ L s.heap m) (X : (Mine.hd.heap_1 w.params).In h₀) (N : News h₀ L s.heap (need ++ led'))
    (T : Top Mine.viewX (looseW Mine.viewX [Str.ofString "Whitespace", Str.ofString "_Accumulator"]) mean mg mb h₀) (hk : cs.kind = .function) (hd : dp + k < recursionLimit) (hu : un + 8 * k < cLine)
    (hoff : ∀ p ∈ led', ∀ q ∈ need, @Ne Nat p.1 q.1)
    (hret : ∀ r tl h' tk', Fr h₀ L h' m → News h₀ L h' (tl ++ led') → (∀ p ∈ tl, p.1 ∉ need.map (·.1) → ∀ q ∈ need ++ led', @Ne Nat p.1 q.1) → Post tl r → R (.ok (.ret r)) { s with heap := h', toks := tk' }) :
    codeAny (model PySem.Challenge.rw_xl0016_01.row.prog w) A (.call (.ref f) ⟨vs, []⟩) R s := by
  subst hA
  refine C dp un gd cn cs a ccd cl outer A₀ base h₀ L m s R B F X (fun p hp => N p (List.mem_append_left _ hp)) T hk hd hu (fun r tl h' tk' F' N' kp fr p => ?_)
  obtain ⟨n1, n2⟩ := use_back N hoff N' kp fr
  exact hret r tl h' tk' F' n1 n2 p
theorem con_useG {vs : List Value} {led' : List (Addr × Obj)} {k : Nat} (C : ConG k w mean mg mb f vs need Post) {dp un : Nat} {gd : Option (List Code)} {cn : Str} {cs : Scope} {a : Addr} {ccd : Value} {cl : List (Str × Addr)}
    (hA : A = ktrTop dp un gd cn cs L a ccd cl outer) (B : Below A₀ base outer h₀) (F : Fr h₀ L s.heap m) (X : (Mine.hd.heap_1 w.params).In h₀) (N : News h₀ L s.heap (need ++ led'))
    (T : Top Mine.viewX (looseW Mine.viewX [Str.ofString "Whitespace", Str.ofString "_Accumulator"]) mean mg mb h₀) (hk : cs.kind = .function) (hd : dp + k < recursionLimit) (hu : un + 8 * k < cLine)
    (hoff : ∀ p ∈ led', ∀ q ∈ need, @Ne Nat p.1 q.1)
    (hret : ∀ r tl h' tk' gs', GR s.gens gs' → Fr h₀ L h' m → News h₀ L h' (tl ++ led') → (∀ p ∈ tl, p.1 ∉ need.map (·.1) → ∀ q ∈ need ++ led', @Ne Nat p.1 q.1) → Post tl r → Q r { s with heap := h', toks := tk', gens := gs' }) :
    wpAny (model PySem.Challenge.rw_xl0016_01.row.prog w) A (call (.ref f) vs) Q E s := by
  subst hA
  refine C dp un gd cn cs a ccd cl outer A₀ base h₀ L m s Q E B F X (fun p hp => N p (List.mem_append_left _ hp)) T hk hd hu (fun r tl h' tk' gs' hg F' N' kp fr p => ?_)
  obtain ⟨n1, n2⟩ := use_back N hoff N' kp fr
  exact hret r tl h' tk' gs' hg F' n1 n2 p
end
/-- the end of a turn of a range's loop that turns no other name -/
def REnd {σ : Type} (h₀ : Heap) (L : Addr) (x : Str) (m₀ : Str → Option Value) (Led : σ → List (Addr × Obj)) (J : σ → Prop) (I : Addr) (oI : Obj) (s₁ : Shared) (Q : Flow → Shared → Prop) (f : Flow) (s₂ : Shared) : Prop :=
  TEnd h₀ L x m₀ Led (fun _ => []) J I oI s₁ Q f s₂
theorem REnd.intro {σ : Type} {h₀ : Heap} {L : Addr} {x : Str} {m₀ m' : Str → Option Value} {Led : σ → List (Addr × Obj)} {J : σ → Prop} {I : Addr} {oI : Obj} {s₁ : Shared} {Q : Flow → Shared → Prop} {h' : Heap} {tk' : Nat} (c : σ)
    (F : Fr h₀ L h' m') (hrest : ∀ z, z ≠ x → m' z = m₀ z) (N : News h₀ L h' ((I, oI) :: Led c)) (hRI : ∀ p ∈ Led c, p.1 ≠ I) (iv : J c) :
    REnd h₀ L x m₀ Led J I oI s₁ Q .next { s₁ with heap := h', toks := tk' } :=
  ⟨c, h', tk', m', rfl, F, N, hRI, (fun _ h => nomatch h), (fun z hz _ => hrest z hz), iv⟩
section
variable {prog : Program} {w : World} {A : Around} {E : Value → Shared → Prop} {s : Shared} {env : Env} {h₀ : Heap} {x : Str} {body : List Stmt} {Q : Flow → Shared → Prop}
theorem loop_range0 {σ : Type} {r : Addr} {a b : Int} {t₀ u₀ v₀ : Tok} {m₀ : Str → Option Value} (Led : σ → List (Addr × Obj)) (J : Nat → σ → Prop) (c₀ : σ)
    (hh : A.handled = none) (hr : IsRange s.heap r a b 1 t₀ u₀ v₀) (hsmall : Builtin.Range.small a b 1 = true)
    (F : Fr h₀ env.locals s.heap m₀) (N : News h₀ env.locals s.heap (Led c₀)) (hi : J 0 c₀)
    (turn : ∀ I i c u oI h tk, i < (b - a).toNat → J i c → (∀ p ∈ Led c, p.1 ≠ I) → Fr h₀ env.locals h (fun z => if z = x then some (.int (a + (i : Int)) u) else m₀ z) → News h₀ env.locals h ((I, oI) :: Led c) →
      wpAny (model prog w) A (execs body env) (REnd h₀ env.locals x m₀ Led (J (i + 1)) I oI { s with heap := h, toks := tk } Q) E { s with heap := h, toks := tk })
    (done : ∀ c (u : Option Value) h tk, J (b - a).toNat c → Fr h₀ env.locals h (fun z => if z = x then u else m₀ z) → News h₀ env.locals h (Led c) → Q .next { s with heap := h, toks := tk }) :
    wpAny (model prog w) A (pyIter (.ref r)) (fun it s₂ => LoopAtV prog w A h₀ env x body Q E it s₂) E s :=
  loop_range (m₀ := m₀) Led (fun _ => []) J c₀ hh hr hsmall (rangeSize_nat a b) F N (fun _ h => nomatch h) hi turn done
end
abbrev tsOf (q : List (Addr × Tok × Tok)) : List (Addr × Obj) := q.map fun p => (p.1, pairT p.2.1 p.2.2)
abbrev idsOf (q : List (Addr × Tok × Tok)) : Array Value := (q.map fun p => Value.ref p.1).toArray
theorem mem_ts {q : List (Addr × Tok × Tok)} {p : Addr × Obj} (h : p ∈ tsOf q) : p.2.cls = .type "tuple" := by
  obtain ⟨z, _, rfl⟩ := List.mem_map.mp h
  rfl
theorem off_cls {h₀ h : Heap} {L : Addr} {led : List (Addr × Obj)} (N : News h₀ L h led) {p q : Addr × Obj} (hp : p ∈ led) (hq : q ∈ led) (hne : (p.2.cls == q.2.cls) = false) : @Ne Nat p.1 q.1 :=
  off_of N hp hq fun e => by rw [e] at hne; simp at hne
theorem cut_off {w : World} {h₀ h : Heap} {L x d r C I : Addr} {items vs ps : Array Value} {n nr : Nat} {k1 t2 : Tok} {q : List (Addr × Tok × Tok)} {o oI : Obj}
    (N : News h₀ L h ([(x, lobj 167 d items n), (d, accD w k1 t2 0)] ++ ((I, oI) :: (C, o) :: (r, W.listOf vs nr) :: (129, tabObj ps) :: tsOf q)))
    (hRI : ∀ p ∈ (x, lobj 167 d items n) :: (d, accD w k1 t2 0) :: (C, o) :: (r, W.listOf vs nr) :: (129, tabObj ps) :: tsOf q, p.1 ≠ I) (hC : @LT.lt Nat _ C d) (hdx : @LT.lt Nat _ d x) (hr : @LT.lt Nat _ r d ∧ @LT.lt Nat _ 129 d) :
    ∀ p ∈ (I, oI) :: (C, o) :: (r, W.listOf vs nr) :: (129, tabObj ps) :: tsOf q, ∀ z ∈ [(x, lobj 167 d items n), (d, accD w k1 t2 0)], @Ne Nat p.1 z.1 := by
  intro p hp z hz
  have hz2 := hz
  simp only [List.mem_cons, List.not_mem_nil, or_false] at hz
  rcases List.mem_cons.mp hp with rfl | hp1
  · rcases hz with rfl | rfl
    · exact Ne.symm (hRI _ List.mem_cons_self)
    · exact Ne.symm (hRI _ (List.mem_cons_of_mem _ List.mem_cons_self))
  rcases List.mem_cons.mp hp1 with rfl | hp2
  · rcases hz with rfl | rfl <;> dsimp only <;> omega
  rcases List.mem_cons.mp hp2 with rfl | hp3
  · rcases hz with rfl | rfl <;> dsimp only <;> omega
  rcases List.mem_cons.mp hp3 with rfl | hp4
  · rcases hz with rfl | rfl <;> dsimp only <;> omega
  · refine off_cls N (List.mem_append_right _ hp) (List.mem_append_left _ hz2) ?_
    rw [mem_ts hp4]
    rcases hz with rfl | rfl <;> rfl
theorem ids_snoc (q : List (Addr × Tok × Tok)) (p : Addr × Tok × Tok) : idsOf (q ++ [p]) = (idsOf q).push (.ref p.1) := by simp [idsOf]
theorem ts_snoc (q : List (Addr × Tok × Tok)) (p : Addr × Tok × Tok) : tsOf (q ++ [p]) = tsOf q ++ [(p.1, pairT p.2.1 p.2.2)] := by simp [tsOf]
theorem cut_RI {x d C r I T : Addr} {o1 o1' o2 o oR oP oT : Obj} {ts : List (Addr × Obj)} (h : ∀ p ∈ (x, o1) :: (d, o2) :: (C, o) :: (r, oR) :: (129, oP) :: ts, p.1 ≠ I) (hT : T ≠ I) :
    ∀ p ∈ (x, o1') :: (d, o2) :: (C, o) :: (r, oR) :: (129, oP) :: (ts ++ [(T, oT)]), p.1 ≠ I := by
  intro p hp
  simp only [List.mem_cons, List.mem_append, List.not_mem_nil, or_false] at hp
  rcases hp with rfl | rfl | rfl | rfl | rfl | hp | rfl
  · exact h (x, o1) (by simp)
  · exact h _ (by simp)
  · exact h _ (by simp)
  · exact h _ (by simp)
  · exact h _ (by simp)
  · exact h _ (by simp [hp])
  · exact hT
theorem cut_off2 {w : World} {h₀ h : Heap} {L x d r C : Addr} {items vs ps : Array Value} {n nr : Nat} {k1 t2 : Tok} {q : List (Addr × Tok × Tok)} {o : Obj}
    (N : News h₀ L h ([(x, lobj 167 d items n), (d, accD w k1 t2 0)] ++ ((C, o) :: (r, W.listOf vs nr) :: (129, tabObj ps) :: tsOf q))) (hC : @LT.lt Nat _ C d) (hdx : @LT.lt Nat _ d x) (hr : @LT.lt Nat _ r d ∧ @LT.lt Nat _ 129 d) :
    ∀ p ∈ (C, o) :: (r, W.listOf vs nr) :: (129, tabObj ps) :: tsOf q, ∀ z ∈ [(x, lobj 167 d items n), (d, accD w k1 t2 0)], @Ne Nat p.1 z.1 := by
  intro p hp2 z hz
  have hp := hp2
  have hz2 := hz
  simp only [List.mem_cons, List.not_mem_nil, or_false] at hz
  rcases List.mem_cons.mp hp2 with rfl | hp2
  · rcases hz with rfl | rfl <;> dsimp only <;> omega
  rcases List.mem_cons.mp hp2 with rfl | hp3
  · rcases hz with rfl | rfl <;> dsimp only <;> omega
  rcases List.mem_cons.mp hp3 with rfl | hp4
  · rcases hz with rfl | rfl <;> dsimp only <;> omega
  · refine off_cls N (List.mem_append_right _ hp) (List.mem_append_left _ hz2) ?_
    rw [mem_ts hp4]
    rcases hz with rfl | rfl <;> rfl
structure CutS where
  y : Addr
  R : List (Addr × Tok × Tok)
  P : List (Addr × Tok × Tok)
  n : Nat
  t2 : Tok
  o : Obj
def WNext {σ : Type} (h₀ : Heap) (L : Addr) (mm : σ → Str → Option Value) (Led : σ → List (Addr × Obj)) (J : σ → Prop) (μ : σ → Nat) (c : σ) (s : Shared) (f : Flow) (s₂ : Shared) : Prop :=
  f = .next ∧ ∃ c' h' tk m', s₂ = { s with heap := h', toks := tk } ∧ Fr h₀ L h' m' ∧ (∀ z, m' z = mm c' z) ∧ News h₀ L h' (Led c') ∧ J c' ∧ μ c' < μ c
theorem WNext.intro {σ : Type} {h₀ : Heap} {L : Addr} {mm : σ → Str → Option Value} {Led : σ → List (Addr × Obj)} {J : σ → Prop} {μ : σ → Nat} {c : σ} {s : Shared} {h' : Heap} {tk : Nat} {m' : Str → Option Value} (c' : σ)
    (F : Fr h₀ L h' m') (hm : ∀ z, m' z = mm c' z) (N : News h₀ L h' (Led c')) (hJ : J c') (hμ : μ c' < μ c) : WNext h₀ L mm Led J μ c s .next { s with heap := h', toks := tk } := ⟨rfl, c', h', tk, m', rfl, F, hm, N, hJ, hμ⟩
theorem while_m {prog : Program} {w : World} {A : Around} {E : Value → Shared → Prop} {Q : Flow → Shared → Prop} {s : Shared} {env : Env} {h₀ : Heap} {L : Addr} {σ : Type} {test : Expr} {body : List Stmt} {pos : Pos} {m₀ : Str → Option Value} (mm : (Str → Option Value) → σ → Str → Option Value) (Led : σ → List (Addr × Obj)) (J : σ → Prop) (μ : σ → Nat) (c₀ : σ)
    (F : Fr h₀ L s.heap m₀) (N : News h₀ L s.heap (Led c₀)) (hm : ∀ z, m₀ z = mm m₀ c₀ z) (hi : J c₀)
    (turn : ∀ c h tk, J c → Fr h₀ L h (mm m₀ c) → News h₀ L h (Led c) →
      wpAny (model prog w) A (isTrue test env (eval test env)) (fun b s₂ =>
        if b = true then wpAny (model prog w) A (execs body env) (WNext h₀ L (mm m₀) Led J μ c s) E s₂ else Q .next s₂) E { s with heap := h, toks := tk })
    (hE : PassesOwn (model prog w) A env E := by passes_own) :
    wpAny (model prog w) A (exec (.While test body [] pos) env) Q E s := by
  refine While_inv (fun n m nw => ∃ c : σ, m = mm m₀ c ∧ nw = Led c ∧ μ c = n ∧ J c) F N ⟨c₀, funext hm, rfl, rfl, hi⟩ ?_ hE
  rintro n m₁ nx h tk F₁ N₁ ⟨c, rfl, rfl, rfl, hj⟩
  refine wpAny_mono (turn c h tk hj F₁ N₁) (fun b s₂ p => ?_) fun _ _ x => x
  cases b with
  | false => simpa using p
  | true =>
    simp only [if_true] at p ⊢
    refine wpAny_mono p (fun f s₃ q => ?_) fun _ _ x => x
    obtain ⟨rfl, c', h', tk', m', rfl, F', hm', N', hj', hμ⟩ := q
    exact ⟨rfl, h', tk', m', Led c', μ c', rfl, F', N', hμ, c', funext hm', rfl, rfl, hj'⟩
section
variable {prog : Program} {w : World} {A : Around} {E : Value → Shared → Prop} {s : Shared}
theorem ne_lists_len {l b : Addr} {items items2 : Array Value} {Q : Value → Shared → Prop} (hl : s.heap.IsList l items) (hb : s.heap.IsList b items2) (hsz : (items.size != items2.size) = true) (hu : A.units < cLine) (h : Q (.bool true) s) :
    wpAny (model prog w) A (compareOp .NotEq (.ref l) (.ref b)) Q E s := by
  show wpAny _ _ (richCompare .NotEq _ _) _ _ _
  exact SeqAt.RcNeAt.lists_lengths hl hb hsz hu prog w E Q h
end
theorem ids_in {P q : List (Addr × Tok × Tok)} (h : ∀ p ∈ P, p ∈ q) : ∀ v ∈ (idsOf P).toList, ∃ T t0 t1, v = .ref T ∧ (T, pairT t0 t1) ∈ tsOf q := by
  intro v hv
  simp only [idsOf, List.mem_map] at hv
  obtain ⟨p, hp, rfl⟩ := hv
  exact ⟨_, _, _, rfl, List.mem_map.mpr ⟨p, h p hp, rfl⟩⟩
theorem cut_off3 {w : World} {h₀ h : Heap} {L x d r : Addr} {items vs ps : Array Value} {n nr : Nat} {k1 t2 : Tok} {q : List (Addr × Tok × Tok)}
    (N : News h₀ L h (((x, lobj 167 d items n) :: (d, accD w k1 t2 0) :: (129, tabObj ps) :: tsOf q) ++ [(r, W.listOf vs nr)])) :
    ∀ p ∈ (x, lobj 167 d items n) :: (d, accD w k1 t2 0) :: tsOf q, p.1 ≠ 129 := by
  intro p hp
  refine off_cls N (p := p) (q := (129, tabObj ps)) (List.mem_append_left _ ?_) (List.mem_append_left _ (List.mem_cons_of_mem _ (List.mem_cons_of_mem _ List.mem_cons_self))) ?_
  · rcases List.mem_cons.mp hp with rfl | hp
    · exact List.mem_cons_self
    rcases List.mem_cons.mp hp with rfl | hp
    · exact List.mem_cons_of_mem _ List.mem_cons_self
    · exact List.mem_cons_of_mem _ (List.mem_cons_of_mem _ (List.mem_cons_of_mem _ hp))
  · rcases List.mem_cons.mp hp with rfl | hp
    · rfl
    rcases List.mem_cons.mp hp with rfl | hp
    · rfl
    · rw [mem_ts hp]; rfl
theorem cut_off4 {w : World} {h₀ h : Heap} {L x d r : Addr} {items vs ps : Array Value} {n nr : Nat} {k1 t2 : Tok} {q : List (Addr × Tok × Tok)}
    (N : News h₀ L h (((x, lobj 167 d items n) :: (d, accD w k1 t2 0) :: (129, tabObj ps) :: tsOf q) ++ [(r, W.listOf vs nr)])) :
    ∀ p ∈ [(r, W.listOf vs nr)], ∀ z ∈ (x, lobj 167 d items n) :: (d, accD w k1 t2 0) :: (129, tabObj ps) :: tsOf q, @Ne Nat p.1 z.1 := by
  intro p hp z hz
  refine off_cls N (List.mem_append_right _ hp) (List.mem_append_left _ hz) ?_
  rw [List.mem_singleton.mp hp]
  rcases List.mem_cons.mp hz with rfl | hz
  · rfl
  rcases List.mem_cons.mp hz with rfl | hz
  · rfl
  rcases List.mem_cons.mp hz with rfl | hz
  · rfl
  · rw [mem_ts hz]; rfl
/-- the largest mark not above r -/
def best (ms : List Int) (r : Int) : Int := (ms.filter (fun m => decide (m ≤ r))).foldl max 0
def cutGo (ms : List Int) : Nat → Int → Int → Int
  | 0, _, last => last
  | f + 1, r, last => if r = 0 then last else cutGo ms f (r - best ms r) (best ms r)
def cutV (ms : List Int) (n : Nat) : Int := cutGo ms n n 0
abbrev lenPos : Pos := { line := 74, col := 19, endLine := 74, endCol := 63 }
theorem cutGo_zero (ns : List Int) (f : Nat) (l : Int) : cutGo ns f 0 l = l := by
  cases f with
  | zero => rfl
  | succ f => simp [cutGo]
theorem off_cell {h₀ h : Heap} {L : Addr} {led : List (Addr × Obj)} (N : News h₀ L h led) {C : Addr} {o : Obj} {vv : Option Value} {q : Addr × Obj} (hp : (C, o) ∈ led) (hq : q ∈ led) (ho : o.data = .cell vv) (hne : ∀ u, q.2.data ≠ .cell u) : @Ne Nat C q.1 :=
  off_of N hp hq fun e => hne vv (by rw [← e]; exact ho)
theorem cut_off5 {w : World} {h₀ h : Heap} {L x d r C y : Addr} {items its vs ps : Array Value} {n nr : Nat} {k1 t2 : Tok} {q : List (Addr × Tok × Tok)} {o : Obj} {vv : Option Value}
    (N : News h₀ L h ([(x, lobj 167 d items n), (d, accD w k1 t2 0), (y, W.listOf its 0)] ++ ((C, o) :: (r, W.listOf vs nr) :: (129, tabObj ps) :: tsOf q))) (ho : o.data = .cell vv) (hyr : @Ne Nat y r) :
    ∀ p ∈ (C, o) :: (r, W.listOf vs nr) :: (129, tabObj ps) :: tsOf q, ∀ z ∈ [(x, lobj 167 d items n), (d, accD w k1 t2 0), (y, W.listOf its 0)], @Ne Nat p.1 z.1 := by
  intro p hp z hz
  have hp' := hp
  have hz' := hz
  simp only [List.mem_cons, List.not_mem_nil, or_false] at hz
  rcases List.mem_cons.mp hp with rfl | hp
  · refine off_cell N (List.mem_append_right _ hp') (List.mem_append_left _ hz') ho fun u => ?_
    rcases hz with rfl | rfl | rfl <;> exact fun h => nomatch h
  rcases List.mem_cons.mp hp with rfl | hp
  · rcases hz with rfl | rfl | rfl
    · exact off_cls N (List.mem_append_right _ hp') (List.mem_append_left _ hz') rfl
    · exact off_cls N (List.mem_append_right _ hp') (List.mem_append_left _ hz') rfl
    · exact Ne.symm hyr
  rcases List.mem_cons.mp hp with rfl | hp
  · refine off_cls N (List.mem_append_right _ hp') (List.mem_append_left _ hz') ?_
    rcases hz with rfl | rfl | rfl <;> rfl
  · refine off_cls N (List.mem_append_right _ hp') (List.mem_append_left _ hz') ?_
    rw [mem_ts hp]
    rcases hz with rfl | rfl | rfl <;> rfl
theorem cell_free {w : World} {x d r y : Addr} {items its vs ps : Array Value} {n nr : Nat} {k1 t2 : Tok} {q : List (Addr × Tok × Tok)} :
    ∀ p ∈ (x, lobj 167 d items n) :: (d, accD w k1 t2 0) :: (y, W.listOf its 0) :: (r, W.listOf vs nr) :: (129, tabObj ps) :: tsOf q, ∀ u, p.2.data ≠ .cell u := by
  intro p hp u
  simp only [List.mem_cons] at hp
  rcases hp with rfl | rfl | rfl | rfl | rfl | hp
  · exact fun h => nomatch h
  · exact fun h => nomatch h
  · exact fun h => nomatch h
  · exact fun h => nomatch h
  · exact fun h => nomatch h
  · obtain ⟨z, _, rfl⟩ := List.mem_map.mp hp
    exact fun h => nomatch h
theorem fold_filter (c : Int) : ∀ ns : List Int, ns.foldl (fun l k => if k ≤ c then l ++ [k] else l) [] = ns.filter (fun k => decide (k ≤ c)) := by
  have go : ∀ (ns l : List Int), ns.foldl (fun l k => if k ≤ c then l ++ [k] else l) l = l ++ ns.filter (fun k => decide (k ≤ c)) := by
    intro ns
    induction ns with
    | nil => intro l; simp
    | cons a r ih =>
      intro l
      rw [List.foldl_cons, ih]
      by_cases h : a ≤ c
      · simp [h]
      · simp [h]
  intro ns
  rw [go]
  rfl
theorem foldl_max_le {M : Int} : ∀ (l : List Int) (a : Int), a ≤ M → (∀ k ∈ l, k ≤ M) → l.foldl max a ≤ M
  | [], a, h, _ => h
  | b :: r, a, h, hl => foldl_max_le r (max a b) (Int.max_le.mpr ⟨h, hl b List.mem_cons_self⟩) fun k hk => hl k (List.mem_cons_of_mem _ hk)
theorem le_foldl_max : ∀ (l : List Int) (a : Int), a ≤ l.foldl max a ∧ ∀ k ∈ l, k ≤ l.foldl max a
  | [], a => ⟨Int.le_refl _, fun _ h => nomatch h⟩
  | b :: r, a => by
    obtain ⟨h1, h2⟩ := le_foldl_max r (max a b)
    refine ⟨Int.le_trans (Int.le_max_left _ _) h1, fun k hk => ?_⟩
    rcases List.mem_cons.mp hk with rfl | hk
    · exact Int.le_trans (Int.le_max_right _ _) h1
    · exact h2 k hk
theorem best_of {ns : List Int} {r M : Int} (hpos : ∀ k ∈ ns, 1 ≤ k) (hM : M ∈ ns.filter (fun k => decide (k ≤ r))) (hmax : ∀ a, a ∈ ns.filter (fun k => decide (k ≤ r)) → a ≤ M) : best ns r = M := by
  have h1 := hpos M (List.mem_filter.mp hM).1
  exact Int.le_antisymm (foldl_max_le _ 0 (by omega) hmax) ((le_foldl_max _ 0).2 M hM)
theorem ids_drop (l : List (Addr × Tok × Tok)) (k : Nat) : ((idsOf l).toList.drop k).toArray = idsOf (l.drop k) := by simp [idsOf, List.map_drop]
theorem ids_take (l : List (Addr × Tok × Tok)) (k : Nat) : ((idsOf l).toList.take k).toArray = idsOf (l.take k) := by simp [idsOf, List.map_take]
theorem cut_con (w : World) (mean : ExcName → Option Value) (mg mb : Str → Option Value) (heap : Nat) (r : Addr) (vs : List Value) (ns : List Int) (nr : Nat) (t0 : Tok) (ps : Array Value)
    (hh : heap ≤ 14) (hI : IntsAre vs ns) (hlen : ns.length ≤ 40) (hone : (1 : Int) ∈ ns) (hpos : ∀ k ∈ ns, 1 ≤ k ∧ k ≤ 1000) (hps : TabOk lenPos ps) (hr : @Ne Nat r 129) :
    ConG 60 w mean mg mb 210 [.int heap t0, .ref r] [(r, W.listOf vs.toArray nr), (129, tabObj ps)] (fun tl v => ∃ ps' t, TabOk lenPos ps' ∧ tl = [(r, W.listOf vs.toArray nr), (129, tabObj ps')] ∧ v = .int (2 * cutV ns heap) t) := by
  walk_at "c.startGC"
  k_steps
  refine Hold.on ?_
  with_reducible rename Fr _ _ _ _ => lF
  with_reducible rename News _ _ _ _ => lN
  rename_i dp un gd cn cs a ccd cl outer A₀ base h₀ Lc mc s Q E hk hd hu g L1 h1 tk1 gk B X T l1 o d1
  refine' acc_new lF (by assumption) lN ?o ?e2 ?e4 ?e3 ?e7 ?e8 ?hi ?hf ?_
  (case o => k_is)
  (case e2 => rfl)
  (case e4 => rfl)
  (case e3 => rfl)
  (case e7 => k_is)
  (case e8 => k_is)
  (case hi => k_is)
  (case hf => k_is)
  intro x d h2 F2 N2 l2 hdx
  have hlt2 : @LT.lt Nat _ r d ∧ @LT.lt Nat _ 129 d := ⟨l2 (r, W.listOf vs.toArray nr) (by simp), l2 (129, tabObj ps) (by simp)⟩
  have hlt3 := l2 _ (List.mem_cons_self)
  refine con_useC (need := [(x, lobj 167 d #[] 0), (d, dictOf [] 0)]) (init_con w mean mg mb x d 0 (Nat.ne_of_lt hdx)) (by exact rfl) (by assumption) F2 (by assumption) N2 (by assumption) (by first | rfl | assumption) (show dp + 1 + 1 + 10 < recursionLimit by omega) (show un + 3 + 1 + 8 * 10 < cLine by omega) ?_ ?_
  · intro p hp q hq
    have h1 := l2 p hp
    simp only [List.mem_cons, List.not_mem_nil, or_false] at hq
    rcases hq with rfl | rfl
    · exact Nat.ne_of_lt (Nat.lt_trans h1 hdx)
    · exact Nat.ne_of_lt h1
  rintro r9 tl9 h3 tk3 F3 N3 - ⟨rfl, n', k1, t2, rfl⟩
  refine ⟨rfl, ?_⟩
  simp only [List.cons_append, List.nil_append] at N3
  have hxd : @Ne Nat x d := Ne.symm (Nat.ne_of_lt hdx)
  clear lF lN F2 N2
  dsimp only
  k_steps
  refine Hold.on ?_
  k_sweep
  with_reducible rename IsRange _ _ _ _ _ _ _ _ => lR
  with_reducible rename Fr _ _ _ _ => lF
  with_reducible rename News _ _ _ _ => lN
  with_unfolding_all refine' loop_range0 (fun c : List (Addr × Tok × Tok) × Nat => (x, lobj 167 d (idsOf c.1) c.2) :: (d, accD w k1 t2 0) :: (L1 + 1, o) :: (r, W.listOf vs.toArray nr) :: (129, tabObj ps) :: tsOf c.1) (fun i c => c.1.length = i) ([], n') (by rfl) lR ?hsm lF lN ?hi ?turn ?done
  · exact small_one (by omega) (by omega) (by omega) (by omega)
  · rfl
  · rintro I i ⟨q, nn⟩ u oI h tk hi hv hRI F' N'
    dsimp only at hv F' N' hRI
    clear lF lN lR
    k_steps
    refine Hold.on ?_
    have hqs : (idsOf q).size ≤ 100 := by simp [idsOf]; omega
    have N2 : News g L1 h ([(x, lobj 167 d (idsOf q) nn), (d, accD w k1 t2 0)] ++ ((I, oI) :: (L1 + 1, o) :: (r, W.listOf vs.toArray nr) :: (129, tabObj ps) :: tsOf q)) := fun p hp => N' p (by
      simp only [List.cons_append, List.nil_append, List.mem_cons] at hp ⊢
      grind)
    refine' con_useF (push_con w mean mg mb x d (idsOf q) nn _ _ t2 k1 0 hqs hxd) ?A ?B ?F ?X N2 ?T ?hk ?hd ?hu ?off ?_
    (case A => exact rfl)
    (case B => assumption)
    (case F => k_asm)
    (case X => assumption)
    (case T => assumption)
    (case hk => first | rfl | assumption)
    (case hd => ktr_room)
    (case hu => ktr_room)
    (case off => exact cut_off N2 hRI hlt3 hdx hlt2)
    rintro r9 tl9 h9 tk9 F9 N9 off9 ⟨rfl, T9, n9, rfl⟩
    k_steps
    have N9' := N9
    simp only [List.cons_append, List.nil_append] at N9'
    have hT : @Ne Nat T9 x ∧ @Ne Nat T9 d := ⟨off_cls N9' List.mem_cons_self (List.mem_cons_of_mem _ List.mem_cons_self) rfl, off_cls N9' List.mem_cons_self (List.mem_cons_of_mem _ (List.mem_cons_of_mem _ List.mem_cons_self)) rfl⟩
    refine' REnd.intro (q ++ [(T9, tk, tk + 1)], n9) F9 ?rest ?N ?RI ?iv
    (case rest => (intro z h1; simp only [h1, if_false]))
    (case iv => (simp; exact hv))
    (case N => (dsimp only; rw [ids_snoc, ts_snoc]; exact fun p hp => N9 p (by (simp only [List.cons_append, List.nil_append, List.mem_cons, List.mem_append, List.not_mem_nil, or_false] at hp ⊢; grind))))
    (case RI => (dsimp only; rw [ts_snoc]; exact cut_RI hRI (off9 (T9, pairT tk (tk + 1)) List.mem_cons_self (by simp; exact hT) (I, oI) (by simp))))
  · rintro ⟨q, nn⟩ u h tk hv F' N'
    dsimp only at hv F' N'
    clear lF lN lR
    k_steps
    refine Hold.on ?_
    have hqs : (idsOf q).size ≤ 100 := by simp [idsOf]; omega
    have N2 : News g L1 h ([(x, lobj 167 d (idsOf q) nn), (d, accD w k1 t2 0)] ++ ((L1 + 1, o) :: (r, W.listOf vs.toArray nr) :: (129, tabObj ps) :: tsOf q)) := N'
    have off2 := cut_off2 N2 hlt3 hdx hlt2
    refine' con_useF (pop_con w mean mg mb x d (idsOf q) nn _ t2 k1 0 0 hqs hxd (Int.le_refl _)) ?A ?B ?F ?X N2 ?T ?hk ?hd ?hu off2 ?_
    (case A => exact rfl)
    (case B => assumption)
    (case F => k_asm)
    (case X => assumption)
    (case T => assumption)
    (case hk => first | rfl | assumption)
    (case hd => ktr_room)
    (case hu => ktr_room)
    rintro r9 tl9 h9 tk9 F9 N9 off9 ⟨y, n9, rfl, rfl⟩
    rw [show (idsOf q).toList.drop (0 : Int).toNat = (idsOf q).toList from rfl, show (idsOf q).toList.take (0 : Int).toNat = [] from rfl, Array.toArray_toList] at N9 off9
    simp only [List.cons_append, List.nil_append] at N9
    have hy : @Ne Nat y r := by
      have h1 : @Ne Nat y x := off_cls N9 List.mem_cons_self (List.mem_cons_of_mem _ List.mem_cons_self) rfl
      have h2 : @Ne Nat y d := off_cls N9 List.mem_cons_self (List.mem_cons_of_mem _ (List.mem_cons_of_mem _ List.mem_cons_self)) rfl
      exact off9 (y, _) List.mem_cons_self (by simp; exact ⟨h1, h2⟩) (r, W.listOf vs.toArray nr) (by simp)
    clear N' N2 off2 off9
    k_steps
    refine Hold.on ?_
    k_sweep
    with_reducible rename Fr _ _ _ _ => lF
    with_reducible rename News _ _ _ _ => lN
    have hoc : ∃ vv, o.data = .cell vv := ⟨_, d1⟩
    clear d1
    refine while_m (fun mz (c : CutS) z => if z = Str.ofString "rest" then some (.ref c.y) else mz z) (fun c => (c.y, W.listOf (idsOf c.R) 0) :: (x, lobj 167 d (idsOf c.P) c.n) :: (d, accD w k1 c.t2 0) :: (L1 + 1, c.o) :: (r, W.listOf vs.toArray nr) :: (129, tabObj ps) :: tsOf q)
      (fun c => (∃ vv, c.o.data = .cell vv) ∧ @Ne Nat c.y r ∧ (∀ p ∈ c.R, p ∈ q) ∧ (∀ p ∈ c.P, p ∈ q) ∧ c.R.length ≤ 14 ∧ c.P.length ≤ 14 ∧ ∃ f, c.R.length ≤ f ∧ cutV ns heap = cutGo ns f c.R.length c.P.length) (fun c => c.R.length) ⟨y, q, [], n9, t2, o⟩ lF lN ?_ ?_ ?_
    · intro z
      dsimp only
      by_cases hz : z = Str.ofString "rest"
      · rw [if_pos hz, hz]
        rfl
      · simp only [if_neg hz]
    · exact ⟨hoc, hy, (fun p hp => hp), (fun _ h => nomatch h), (by show q.length ≤ 14; omega), Nat.zero_le _, heap, (by show q.length ≤ heap; omega), (by
        show cutGo ns heap heap 0 = cutGo ns heap (q.length : Int) 0
        congr 1
        omega)⟩
    · rintro ⟨y, R, P, n, t2, o⟩ h tk ⟨⟨vv, ho⟩, hyr, hRq, hPq, hR14, hP14, f, hf, hcut⟩ F' N'
      dsimp only at ho hyr hRq hPq hR14 hP14 hf hcut F' N' ⊢
      clear lF lN
      refine abs3 ?_
      intro X9 Y9 hX9 hY9
      k_steps
      refine Hold.on ?_
      with_reducible rename News _ _ _ _ => N9
      cases R with
      | nil =>
        refine ne_intsK (vs := []) (us := []) (ns := []) (ms := []) (News.isList N9 (List.mem_cons_of_mem _ List.mem_cons_self)) .nil (News.isList N9 List.mem_cons_self) .nil (by ktr_units) ?_
        simp only [decide_true, Bool.not_true]
        k_steps
        refine hY9 _ ?_
        k_steps
        refine Hold.on ?_
        have hP9 : (idsOf P).size = P.length := by simp [idsOf]
        have N8 : News g L1 _ (((x, lobj 167 d (idsOf P) n) :: (d, accD w k1 t2 0) :: (129, tabObj ps) :: tsOf q) ++ [(r, W.listOf vs.toArray nr)]) := fun p hp => N9 p (by
          simp only [List.cons_append, List.nil_append, List.mem_cons, List.mem_append, List.not_mem_nil, or_false] at hp ⊢
          grind)
        refine' con_useG (len_con w mean mg mb x d (idsOf P) n k1 t2 ps (tsOf q) (ids_in hPq) (by rw [hP9]; omega) hps (cut_off3 N8)) ?A ?B ?F ?X N8 ?T ?hk ?hd ?hu (cut_off4 N8) ?_
        (case A => exact rfl)
        (case B => assumption)
        (case F => k_asm)
        (case X => assumption)
        (case T => assumption)
        (case hk => first | rfl | assumption)
        (case hd => ktr_room)
        (case hu => ktr_units)
        rintro r7 tl7 h7 tk7 gs7 hg7 F7 N7 - ⟨ps', t7, hps', rfl, rfl⟩
        refine ⟨⟨by omega, by omega⟩, L1, _, [(r, W.listOf vs.toArray nr), (129, tabObj ps')], h7, tk7 + 1, gs7, rfl, hg7, F7, ?_, ps', tk7, hps', rfl, ?_⟩
        · intro p hp
          refine N7 p ?_
          simp only [List.cons_append, List.nil_append, List.mem_cons, List.mem_append, List.not_mem_nil, or_false] at hp ⊢
          grind
        · rw [hcut, hP9]
          show Value.int (2 * (P.length : Int)) tk7 = Value.int (2 * cutGo ns f 0 (P.length : Int)) tk7
          rw [cutGo_zero]
      | cons e R =>
        refine ne_lists_len (News.isList N9 (List.mem_cons_of_mem _ List.mem_cons_self)) (News.isList N9 List.mem_cons_self) (by simp [idsOf]) (by ktr_units) ?_
        k_steps
        refine Hold.on ?_
        have hP9 : (idsOf P).size = P.length := by simp [idsOf]
        have hR9 : (idsOf (e :: R)).size = R.length + 1 := by simp [idsOf]
        have hR8 : R.length + 1 ≤ 14 := by simpa using hR14
        have N8 : News g L1 _ ([(x, lobj 167 d (idsOf P) n), (d, accD w k1 t2 0), (y, W.listOf (idsOf (e :: R)) 0)] ++ ((L1 + 1, o) :: (r, W.listOf vs.toArray nr) :: (129, tabObj ps) :: tsOf q)) := fun p hp => N9 p (by
          simp only [List.cons_append, List.nil_append, List.mem_cons, List.mem_append, List.not_mem_nil, or_false] at hp ⊢
          grind)
        have hxy : @Ne Nat x y := off_cls N8 List.mem_cons_self (List.mem_cons_of_mem _ (List.mem_cons_of_mem _ List.mem_cons_self)) rfl
        have hdy : @Ne Nat d y := off_cls N8 (List.mem_cons_of_mem _ List.mem_cons_self) (List.mem_cons_of_mem _ (List.mem_cons_of_mem _ List.mem_cons_self)) rfl
        refine' con_useF (reset_con w mean mg mb x d y (idsOf P) (idsOf (e :: R)) n 0 t2 k1 0 (by omega) (by omega) hxd hxy hdy) ?A ?B ?F ?X N8 ?T ?hk ?hd ?hu (cut_off5 N8 ho hyr) ?_
        (case A => exact rfl)
        (case B => assumption)
        (case F => k_asm)
        (case X => assumption)
        (case T => assumption)
        (case hk => first | rfl | assumption)
        (case hd => ktr_room)
        (case hu => ktr_units)
        rintro r7 tl7 h7 tk7 F7 N7 - ⟨rfl, n7, t7, rfl⟩
        simp only [List.cons_append, List.nil_append] at N7
        clear N9 N8
        k_steps
        refine Hold.on ?_
        with_reducible rename News _ _ _ _ => N6
        refine' con_useK (count_con w mean mg mb x d (idsOf (e :: R)) n7 t7 k1 0 (by omega)) ?A ?B ?F ?X N6 (fun p hp => ?hsub) ?T ?hk ?hd ?hu ?_
        (case hsub => (simp only [List.mem_cons, List.not_mem_nil, or_false] at hp; rcases hp with rfl | rfl; exact List.mem_cons_self; exact List.mem_cons_of_mem _ List.mem_cons_self))
        (case A => exact rfl)
        (case B => assumption)
        (case F => k_asm)
        (case X => assumption)
        (case T => assumption)
        (case hk => first | rfl | assumption)
        (case hd => ktr_room)
        (case hu => ktr_units)
        rintro r5 tl5 h5 tk5 F5 N5 - ⟨rfl, t5, rfl⟩
        simp only [List.nil_append] at N5
        rw [hR9]
        clear N6
        k_steps
        have N4 : News g L1 _ ((L1 + 1, o) :: (x, lobj 167 d (idsOf (e :: R)) n7) :: (d, accD w k1 t7 0) :: (y, W.listOf (idsOf (e :: R)) 0) :: (r, W.listOf vs.toArray nr) :: (129, tabObj ps) :: tsOf q) := fun p hp => N5 p (by
          simp only [List.mem_cons] at hp ⊢
          grind)
        with_unfolding_all refine storeX_C F5 N4 (by rfl) (UpdF.head fun p hp => Ne.symm (off_cell N4 List.mem_cons_self (List.mem_cons_of_mem _ hp) ho (cell_free p hp))) ho ?_
        intro h4 o4 F4 N4' d4
        clear N4 N5 ho
        dsimp only at N4' ⊢
        k_steps
        refine Hold.on ?_
        refine LCt.CompSrcT.ledger (by rfl) (by k_asm) N4' (List.mem_cons_of_mem _ (List.mem_cons_of_mem _ (List.mem_cons_of_mem _ (List.mem_cons_of_mem _ List.mem_cons_self)))) (by rw [List.size_toArray, hI.length, sizeLine_eq]; omega) ?_
        intro g9
        refine' kci_list (fun l k => if k ≤ ((R.length + 1 : Nat) : Int) then l ++ [k] else l) hI (fun k' t' I' oI' C' oC' D' m' ys' l' h' tk' E' hk' hI' hC' hx' F8 N8 off' ne' mk => ?_) ?_ ?_
        · clear N4'
          k_steps
          · refine ⟨_, _, _, rfl, F8, N8, off', .inr ⟨_, List.mem_cons_of_mem _ (List.mem_cons_of_mem _ (List.mem_cons_of_mem _ (List.mem_cons_of_mem _ List.mem_cons_self))), rfl, _, rfl⟩, kci_el (if_pos ?_) rfl rfl⟩
            first | omega | (simp only [decide_eq_true_eq] at *; omega)
          · refine ⟨_, _, _, rfl, F8, N8, off', .inr ⟨_, List.mem_cons_of_mem _ (List.mem_cons_of_mem _ (List.mem_cons_of_mem _ (List.mem_cons_of_mem _ List.mem_cons_self))), rfl, _, rfl⟩, kci_no (if_neg ?_) rfl⟩
            first | omega | (simp only [decide_eq_true_eq, decide_eq_false_iff_not] at *; omega)
        · intro ys hy hyl D8 h8 tk8 F8 N8 off8
          clear N4'
          rw [fold_filter] at hy
          have hyn : ys.length ≤ 40 := by rw [List.size_toArray, hI.length] at hyl; omega
          k_steps
          refine Hold.on ?_
          have hmem : (1 : Int) ∈ ns.filter (fun k => decide (k ≤ ((R.length + 1 : Nat) : Int))) := List.mem_filter.mpr ⟨hone, decide_eq_true (by omega)⟩
          refine max_list_N (by exact rfl) F8 N8 (News.isList N8 List.mem_cons_self) hy (List.length_pos_of_mem hmem) ?_
          intro h7 M tM tk7 F7 N7 hM hmax
          have hMb : best ns ((R.length + 1 : Nat) : Int) = M := best_of (fun k hk => (hpos k hk).1) hM hmax
          have hM1 : 1 ≤ M := (hpos M (List.mem_filter.mp hM).1).1
          have hM2 : M ≤ ((R.length + 1 : Nat) : Int) := by simpa using (List.mem_filter.mp hM).2
          clear N8
          k_steps
          refine Hold.on ?_
          have N6 : News g L1 h7 ([(x, lobj 167 d (idsOf (e :: R)) n7), (d, accD w k1 t7 0)] ++ ((L1 + 1, o4) :: (r, W.listOf vs.toArray nr) :: (129, tabObj ps) :: tsOf q)) := fun p hp => N7 p (by
            simp only [List.cons_append, List.nil_append, List.mem_cons, List.mem_append, List.not_mem_nil, or_false] at hp ⊢
            grind)
          refine' con_useF (pop_con w mean mg mb x d (idsOf (e :: R)) n7 _ t7 k1 M 0 (by omega) hxd (by omega)) ?A ?B ?F ?X N6 ?T ?hk ?hd ?hu (cut_off2 N6 hlt3 hdx hlt2) ?_
          (case A => exact rfl)
          (case B => assumption)
          (case F => k_asm)
          (case X => assumption)
          (case T => assumption)
          (case hk => first | rfl | assumption)
          (case hd => ktr_room)
          (case hu => ktr_units)
          rintro r9 tl9 h9 tk9 F9 N9 off9 ⟨y2, n9, rfl, rfl⟩
          rw [ids_drop, ids_take] at N9 off9
          simp only [List.cons_append, List.nil_append] at N9
          have hy2 : @Ne Nat y2 r := by
            have h1 : @Ne Nat y2 x := off_cls N9 List.mem_cons_self (List.mem_cons_of_mem _ List.mem_cons_self) rfl
            have h2 : @Ne Nat y2 d := off_cls N9 List.mem_cons_self (List.mem_cons_of_mem _ (List.mem_cons_of_mem _ List.mem_cons_self)) rfl
            exact off9 (y2, _) List.mem_cons_self (by simp; exact ⟨h1, h2⟩) (r, W.listOf vs.toArray nr) (by simp)
          clear N6 off9 N7
          k_steps
          have hl1 : ((e :: R).drop M.toNat).length = R.length + 1 - M.toNat := by simp
          have hl2 : ((e :: R).take M.toNat).length = M.toNat := by simp; omega
          with_reducible rename Fr _ _ _ _ => lF
          with_reducible rename News _ _ _ _ => lN
          refine hX9 _ _ ?_
          refine WNext.intro ⟨y2, (e :: R).drop M.toNat, (e :: R).take M.toNat, n9, t7, o4⟩ lF ?_ lN ?_ ?_
          · intro z
            dsimp only
            by_cases hz : z = Str.ofString "rest"
            · simp only [if_pos hz]
            · simp only [if_neg hz]
          · refine ⟨⟨_, d4⟩, hy2, (fun p hp => hRq p (List.mem_of_mem_drop hp)), (fun p hp => hRq p (List.mem_of_mem_take hp)), (by show ((e :: R).drop M.toNat).length ≤ 14; omega), (by show ((e :: R).take M.toNat).length ≤ 14; omega), f - 1, (by show ((e :: R).drop M.toNat).length ≤ _; rw [hl1]; simp only [List.length_cons] at hf; omega), ?_⟩
            show cutV ns heap = cutGo ns (f - 1) (((e :: R).drop M.toNat).length : Int) (((e :: R).take M.toNat).length : Int)
            rw [hcut, hl1, hl2]
            simp only [List.length_cons] at hf ⊢
            obtain ⟨f', rfl⟩ : ∃ f', f = f' + 1 := ⟨f - 1, by omega⟩
            show (if ((R.length + 1 : Nat) : Int) = 0 then _ else _) = _
            rw [if_neg (by omega), hMb, Nat.add_sub_cancel]
            congr 1 <;> omega
          · show ((e :: R).drop M.toNat).length < (e :: R).length
            rw [hl1, List.length_cons]
            omega
        · intro l k
          show (if _ then _ else _ : List Int).length ≤ _
          split
          · simp
          · omega
end
section
local macro_rules | `(tactic| k_room) => `(tactic| ktr_room)
theorem rowsA17_0 : True := by
  w_top off
  k_with_none
  k_with "c.enter" => ((first
      | (refine' con_def ?k1q9 ?k2q9 ?k3q9 ?k4q9 ?k5q9 ?kAq9 ?kFq9 ?kKq9 ?k6q9 ?k7q9 ?k8q9 ?k9q9 ?kBq9 ?kRq9 ?_ ?c2q9 ?c3q9 ?c4q9 ?c5q9; (case kAq9 => exact rfl); (case kFq9 => exact rfl); (case kKq9 => assumption); (case k1q9 => k_asm); (case k2q9 => k_asm); (case k3q9 => k_asm); (case k4q9 => k_asm); (case k5q9 => k_asm); (case k6q9 => k_is); (case k7q9 => k_is); (case k8q9 => ktr_room); (case k9q9 => first | exact BindsTo.of_eq rfl | exact binds_K (by k_in) rfl (by k_is) rfl rfl rfl); (case c5q9 => decide); (case kBq9 => exact locs rfl); (case c2q9 => exact rfl); (case c3q9 => exact rfl); (case c4q9 => exact rfl); (case kRq9 => walk_at "c.ret"); k_whole; intro _ _ _ _ _ N'q9 _ _ _ l1q9; (try k_lt l1q9); (try (revert l1q9; intro _)); (try dsimp only); (try k_fold))
      | (refine' con_defC ?k1q9 ?k2q9 ?k3q9 ?k4q9 ?k5q9 ?kAq9 ?kFq9 ?kKq9 ?k6q9 ?k7q9 ?k8q9 ?k9q9 ?kBq9 ?kDq9 ?kRq9 ?_ ?c2q9 ?c3q9 ?c4q9; (case kAq9 => exact rfl); (case kFq9 => exact rfl); (case kKq9 => assumption); (case k1q9 => k_asm); (case k2q9 => k_asm); (case k3q9 => k_asm); (case k4q9 => k_asm); (case k5q9 => k_asm); (case k6q9 => k_is); (case k7q9 => k_is); (case k8q9 => ktr_room); (case k9q9 => first | exact BindsTo.of_eq rfl | exact binds_K (by k_in) rfl (by k_is) rfl rfl rfl); (case kBq9 => exact rfl); (case kDq9 => decide +kernel); (case c2q9 => exact rfl); (case c3q9 => exact rfl); (case c4q9 => exact rfl); (case kRq9 => walk_at "c.ret"); k_whole; intro _ _ _ _ _ _ _ N'q9 Y'q9 _ _ _ l1q9; (try k_lt l1q9); (try (revert l1q9; intro _)); k_cells Y'q9; (try simp only [List.cons_append, List.nil_append] at N'q9); (try dsimp only); (try k_fold))))
  k_with "c.ret" => ((intro _ _ hl9q9; exact con_back (by assumption) (by assumption) (by assumption) (by assumption) hl9q9))
  k_with "c.start" => ((unfold Con; k_fill; intro _ _ _ _ _ _ _ _ _ _ _ _ _ _ _ _ _ Bq9 Fq9 Xq9 Nq9 Tq9 _ _ _ hretq9; refine wpAny_call ?_; k_dflt walk_at "c.enter"; clear hretq9 Nq9 Fq9 Bq9 Xq9 Tq9))
  k_with "c.startCls" => ((unfold Con; k_fill; intro _ _ _ _ _ _ _ _ _ _ _ _ _ _ _ _ _ Bq9 Fq9 Xq9 Nq9 Tq9 _ _ _ hretq9; refine wpAny_call ?_; k_dflt walk_at "c.enterCls"; clear hretq9 Nq9 Fq9 Bq9 Xq9 Tq9))
  k_with "c.enterCls" => ((refine' con_cls ?k1q9 ?k2q9 ?k3q9 ?k5q9 ?kAq9 ?kFq9 ?kKq9 ?m1q9 ?m2q9 ?m3q9 ?k6q9 ?k7q9 ?k8q9 ?k9q9 ?kBq9 ?kRq9 ?_ ?c2q9 ?c3q9 ?c4q9 ?c5q9; (case kAq9 => exact rfl); (case kFq9 => exact rfl); (case kKq9 => assumption); (case k1q9 => k_asm); (case k2q9 => k_asm); (case k3q9 => k_asm); (case k5q9 => k_asm); (case m1q9 => k_is); (case m2q9 => k_is); (case m3q9 => k_is); (case k6q9 => k_is); (case k7q9 => k_is); (case k8q9 => ktr_room); (case k9q9 => intro _ _; exact BindsTo.of_eq rfl); (case c5q9 => decide); (case kBq9 => intro _; exact locs rfl); (case c2q9 => exact rfl); (case c3q9 => exact rfl); (case c4q9 => exact rfl); (case kRq9 => exact con_nil (by assumption)); k_whole; intro _ _ _ _ _ _ l0'q9 _ _ _ _ _ l1q9; (try k_lt2 l0'q9); (try (revert l0'q9; intro _)); (try k_lt2 l1q9); (try (revert l1q9; intro _)); (try dsimp only); (try k_fold)))
  k_with "CompSrc" => ((k_here; k_dflt (refine LCg.CompSrc.range (by rfl) (by k_asm) (by k_asm) (by assumption) (by first | decide | rfl) (by first | rfl | decide) (by first | size_fits | exact Nat.le_of_ble_eq_true rfl) ?_; intro _; lcg_lit)))
  k_with "binaryOp Mult str int" => ((k_here; (refine' r_mul ?haq9 ?hbq9 ?_); (case haq9 => ((try simp only [fmod_lit]); omega)); (case hbq9 => ((try simp only [fmod_lit]); omega)); intro _ _))
  k_with "binaryOp Add str str" => ((k_here; (refine' r_add ?haq9 ?hbq9 ?hcq9 ?_); (case haq9 => first | with_reducible exact S_tab | with_reducible exact S_blank | with_reducible rfl); (case hbq9 => first | with_reducible exact S_tab | with_reducible exact S_blank | with_reducible rfl); (case hcq9 => (simp [sp]; omega)); intro _ _))
  k_with "call builtin:str.join" => ((k_here; (first
      | refine' r_join (ls := [(_, _)]) ?hlq9 ?hiq9 ?hwq9 ?_; (case hlq9 => exact News.isList (by k_asm) (by k_mem)); (case hiq9 => exact rfl)
      | refine' r_join (ls := [(_, _), (_, _)]) ?hlq9 ?hiq9 ?hwq9 ?_; (case hlq9 => exact News.isList (by k_asm) (by k_mem)); (case hiq9 => exact rfl)
      | refine' r_join (ls := [(_, _), (_, _), (_, _)]) ?hlq9 ?hiq9 ?hwq9 ?_; (case hlq9 => exact News.isList (by k_asm) (by k_mem)); (case hiq9 => exact rfl)); (case hwq9 => (simp [sp, fmod_lit]; omega)); intro _ _; (try dsimp only)))
  k_with "call type:tuple" => ((k_here; k_dflt (refine' r_tuple ?Fq9 ?Nq9 ?mq9 ?_ ?zq9; (case Fq9 => k_asm); (case Nq9 => k_asm); (case mq9 => k_mem); (case zq9 => (have hc9 := sizeLine_eq; (have hI9 := IntsAre.length (by assumption)); omega)); k_whole); intro _ _ _ _ l1q9; (try k_lt l1q9); (try (revert l1q9; intro _))))
  k_with "call builtin:len" => ((k_here; (with_reducible show wpAny _ _ (call (Value.builtin "len") [Value.ref _]) _ _ _); k_dflt (refine' r_len_tupI ?Nq9 ?mq9 ?iq9 ?fq9 ?_; (case Nq9 => k_asm); (case mq9 => k_mem); (case iq9 => with_reducible assumption); (case fq9 => omega); k_whole); intro _ _))
  k_with "subscriptTail" => ((k_here; (with_reducible show wpAny _ _ (subscriptTail _ _ (Value.ref _) (Value.int _ _)) _ _ _); k_dflt (refine' r_item_tupI ?Nq9 ?mq9 ?iq9 ?aq9 ?bq9 ?cq9 ?_ ?eq9; (case Nq9 => k_asm); (case mq9 => k_mem); (case iq9 => with_reducible assumption); (case aq9 => omega); (case bq9 => omega); (case cq9 => omega); (case eq9 => with_unfolding_all rfl); k_whole); intro _))
  k_with "pyIter ref" => ((k_here; (with_reducible show wpAny _ _ (pyIter (Value.ref _)) (fun it s₂ => LoopAtV _ _ _ _ _ _ _ _ _ it s₂) _ _); refine Hold.of ?_))
  trivial
local macro_rules | `(tactic| k_inst) => `(tactic| (refine' accInst ?N ?h1 ?h2; (case N => k_asm); (case h1 => k_mem); (case h2 => k_mem)))
theorem rowsA17_1 : True := by
  k_with "c.startS" => ((unfold Con; k_fill; intro _ _ _ _ _ _ _ _ _ _ _ _ _ _ _ _ _ Bq9 Fq9 Xq9 Nq9 Tq9 _ _ _ hretq9; refine wpAny_call ?_; k_dflt walk_at "c.enterS"; clear hretq9 Nq9 Fq9 Bq9 Xq9 Tq9))
  k_with "c.enterS" => ((refine' con_defS ?k1q9 ?k2q9 ?k3q9 ?k4q9 ?k5q9 ?kAq9 ?kFq9 ?kKq9 ?k6q9 ?k7q9 ?k8q9 ?k9q9 ?kBq9 ?kRq9 ?_ ?c2q9 ?c3q9 ?c4q9 ?c5q9; (case kAq9 => exact rfl); (case kFq9 => exact rfl); (case kKq9 => assumption); (case k1q9 => k_asm); (case k2q9 => k_asm); (case k3q9 => k_asm); (case k4q9 => k_asm); (case k5q9 => k_asm); (case k6q9 => k_is); (case k7q9 => k_is); (case k8q9 => ktr_room); (case k9q9 => first | exact BindsTo.of_eq rfl | exact binds_K (by k_in) rfl (by k_is) rfl rfl rfl); (case c5q9 => decide); (case kBq9 => exact locs rfl); (case c2q9 => exact rfl); (case c3q9 => exact rfl); (case c4q9 => exact rfl); (case kRq9 => walk_at "c.ret"); k_whole; intro _ _ _ _ _ _ _ _ _ l1q9; (try k_lt l1q9); (try (revert l1q9; intro _)); (try dsimp only); (try k_fold)))
  k_with "getMethod ref" => ((k_here; (with_reducible show wpAny _ _ (getMethod (Value.ref _) _ _) _ _ _); k_dflt (refine' acc_method ?Fq9 ?Xq9 ?Nq9 ?mq9 ?dq9 ?gaq9 ?cq9 ?gtq9 ?fq9 ?tfq9 ?lq9 ?_; (case Fq9 => k_asm); (case Xq9 => assumption); (case Nq9 => k_asm); (case mq9 => k_mem); (case dq9 => k_mem); (case gaq9 => k_is); (case cq9 => decide +kernel); (case gtq9 => k_is); (case fq9 => k_is); (case tfq9 => first | exact .inl (by k_is) | exact .inr (by k_is)); (case lq9 => rfl)); k_whole))
  k_with "getMethod ref" => ((k_here; (with_reducible show wpAny _ _ (getMethod (Value.ref _) _ _) _ _ _); k_dflt (refine' acc_super ?idq9 ?Fq9 ?Xq9 ?Nq9 ?sq9 ?mq9 ?oq9 ?fq9 ?lq9 ?nq9 ?_; (case Fq9 => k_asm); (case Xq9 => assumption); (case Nq9 => k_asm); (case sq9 => k_mem); (case mq9 => k_mem); (case oq9 => k_is); (case fq9 => ks_is); (case lq9 => k_is); (case nq9 => decide); (case idq9 => first | exact .inl rfl | exact .inr rfl)); k_whole; intro _ _ _ _ l1q9; (try k_lt l1q9); (try (revert l1q9; intro _))))
  k_with "callWith ref" => ((k_here; (with_reducible show wpAny _ _ (callWith _ (Value.ref _) [] _ []) _ _ _); k_dflt (refine' acc_mwWith ?Nq9 ?mq9 ?_; (case Nq9 => k_asm); (case mq9 => k_mem)); k_whole))
  k_with "call ref" => ((k_here; (with_reducible show wpAny _ _ (call (Value.ref _) []) _ _ _); k_dflt (refine' acc_mwLen ?Fq9 ?Xq9 ?Nq9 ?uq9 ?mq9 ?_; (case Fq9 => k_asm); (case Xq9 => assumption); (case Nq9 => k_asm); (case uq9 => k_mem); (case mq9 => k_mem)); k_whole; intro _ _))
  k_with "call ref" => ((k_here; (with_reducible show wpAny _ _ (call (Value.ref _) []) _ _ _); k_dflt (refine' acc_mwInit ?Fq9 ?Xq9 ?Nq9 ?uq9 ?mq9 ?_; (case Fq9 => k_asm); (case Xq9 => assumption); (case Nq9 => k_asm); (case uq9 => k_mem); (case mq9 => k_updF)); k_whole; intro _ _ _ _))
  k_with "call builtin:list.append" => ((k_here; k_dflt (refine' acc_append ?Fq9 ?Xq9 ?Nq9 ?Uq9 ?lq9 ?zq9 ?_; (case Fq9 => k_asm); (case Xq9 => assumption); (case Nq9 => k_asm); (case Uq9 => k_updF); (case lq9 => k_is); (case zq9 => omega)); k_whole; intro _ _ _ _))
  k_with "subscriptTail" => ((k_here; (with_reducible show wpAny _ _ (subscriptTail _ _ (Value.ref _) (Value.ref _)) _ _ _); k_dflt (refine' acc_slice ?Fq9 ?Xq9 ?Nq9 ?mq9 ?lq9 ?nq9 ?fq9 ?plq9 ?puq9 ?zq9 ?_ ?hsq9 ?htq9; (case Fq9 => k_asm); (case Xq9 => assumption); (case Nq9 => k_asm); (case mq9 => k_mem); (case lq9 => k_is); (case nq9 => k_is); (case fq9 => k_is); (case plq9 => first | exact .none | exact .int _ _); (case puq9 => first | exact .none | exact .int _ _); (case zq9 => omega); (case hsq9 => with_unfolding_all rfl); (case htq9 => (intro _; with_unfolding_all rfl))); k_whole; intro _ _ _ _ l1q9; (try k_lt l1q9); (try (revert l1q9; intro _))))
  k_with "setItem ref ref" => ((k_here; (with_reducible show wpAny _ _ (setItem (Value.ref _) (Value.ref _) (Value.ref _)) _ _ _); k_dflt (refine' acc_store ?Fq9 ?Xq9 ?Nq9 ?Uq9 ?lq9 ?nq9 ?fq9 ?yq9 ?xyq9 ?plq9 ?puq9 ?zq9 ?_; (case Fq9 => k_asm); (case Xq9 => assumption); (case Nq9 => k_asm); (case Uq9 => k_updF); (case lq9 => k_is); (case nq9 => k_is); (case fq9 => k_is); (case yq9 => k_mem); (case xyq9 => k_ne); (case plq9 => first | exact .none | exact .int _ _); (case puq9 => first | exact .none | exact .int _ _); (case zq9 => ((try simp); omega))); k_whole; intro _ _ _ _))
  k_with "setAttr ref" => ((k_here; (with_reducible show wpAny _ _ (setAttr (Value.ref _) _ _) _ _ _); k_dflt (refine' acc_setAttr ?Fq9 ?Xq9 ?Nq9 ?mq9 ?Uq9 ?cq9 ?mrq9 ?hdq9 ?sq9 ?tq9 ?lq9 ?eq9 ?zq9 ?_; (case Fq9 => k_asm); (case Xq9 => assumption); (case Nq9 => k_asm); (case mq9 => k_mem); (case Uq9 => k_updF); (case cq9 => k_is); (case mrq9 => exact rfl); (case hdq9 => exact rfl); (case sq9 => k_is); (case tq9 => k_is); (case lq9 => k_get); (case eq9 => k_put); (case zq9 => exact Nat.le_of_ble_eq_true rfl)); k_whole; intro _ _ _; (try k_sweep)))
  k_with "getAttr ref" => ((k_here; (with_reducible show wpAny _ _ (getAttr (Value.ref _) _ _) _ _ _); k_dflt (refine' acc_getAttr ?Fq9 ?Xq9 ?Nq9 ?mq9 ?dq9 ?gaq9 ?gtq9 ?lq9 ?hhq9 ?haq9 ?hnq9 ?hgq9 ?hvq9 ?_; (case Fq9 => k_asm); (case Xq9 => assumption); (case Nq9 => k_asm); (case mq9 => k_mem); (case dq9 => k_mem); (case gaq9 => k_is); (case gtq9 => k_is); (case lq9 => k_is); (case hhq9 => k_is); (case haq9 => k_is); (case hnq9 => k_is); (case hgq9 => k_get); (case hvq9 => k_handed)); k_whole))
  k_with "wpAt" => ((dsimp only; ks_step "execs cons"; refine ks_wpAt_execs_cons ?_))
  k_with "wpAt" => (((try dsimp only); ks_step "exec Expr"; k_dflt (refine ks_wpAt_Expr_any ?_ (by rfl) (by rfl))))
  k_with "wpAt" => (((try dsimp only); ks_step "eval Call"; k_dflt (refine ks_wpAt_MethodCall ?_)))
  trivial
def XEnd {σ : Type} (h₀ : Heap) (L : Addr) (mm : σ → Str → Option Value) (Led : σ → List (Addr × Obj)) (J : σ → Prop) (I : Addr) (oI : Obj) (s : Shared) (Q : Flow → Shared → Prop) (f : Flow) (s₂ : Shared) : Prop :=
  match f with
  | .ret v => Q (.ret v) s₂
  | .brk => Q .next s₂
  | _ => ∃ c h' tk' m', s₂ = { s with heap := h', toks := tk' } ∧ Fr h₀ L h' m' ∧ (∀ z, m' z = mm c z) ∧ News h₀ L h' ((I, oI) :: Led c) ∧ (∀ p ∈ Led c, @Ne Nat p.1 I) ∧ J c
theorem XEnd.intro {σ : Type} {h₀ : Heap} {L : Addr} {mm : σ → Str → Option Value} {Led : σ → List (Addr × Obj)} {J : σ → Prop} {I : Addr} {oI : Obj} {s : Shared} {Q : Flow → Shared → Prop} {h' : Heap} {tk' : Nat} {m' : Str → Option Value} (c : σ)
    (F : Fr h₀ L h' m') (hm : ∀ z, m' z = mm c z) (N : News h₀ L h' ((I, oI) :: Led c)) (hI : ∀ p ∈ Led c, @Ne Nat p.1 I) (hJ : J c) : XEnd h₀ L mm Led J I oI s Q .next { s with heap := h', toks := tk' } := ⟨c, h', tk', m', rfl, F, hm, N, hI, hJ⟩
section
variable {prog : Program} {w : World} {A : Around} {E : Value → Shared → Prop} {s : Shared} {env : Env} {h₀ : Heap} {body : List Stmt} {Q : Flow → Shared → Prop}
theorem forX_one {σ : Type} {target : Expr} {I : Addr} {n : Nat} {P : Nat → Value → Prop} {St : Nat → Heap → Prop} {m₀ : Str → Option Value} (mm : (Str → Option Value) → σ → Str → Option Value) (Led : σ → List (Addr × Obj)) (J : Nat → σ → Prop) (c₀ : σ)
    (W : Walks prog w A I [I] [I] n P St) (hLI : env.locals ≠ I) (hI : h₀.get? I = none) (hSt : ∀ i h, St i h → ∃ o, h.get? I = some o) (hst : St 0 s.heap)
    (F : Fr h₀ env.locals s.heap m₀) (N : News h₀ env.locals s.heap (Led c₀)) (hoff : ∀ p ∈ Led c₀, @Ne Nat p.1 I) (hm : ∀ z, m₀ z = mm m₀ c₀ z) (hi : J 0 c₀)
    (turn : ∀ i c v oI h tk, i < n → P i v → J i c → (∀ p ∈ Led c, @Ne Nat p.1 I) → Fr h₀ env.locals h (mm m₀ c) → News h₀ env.locals h ((I, oI) :: Led c) →
      wpAny (model prog w) A (assign target env v) (fun _ s₂ => wpAny (model prog w) A (execs body env) (XEnd h₀ env.locals (mm m₀) Led (J (i + 1)) I oI s Q) E s₂) E { s with heap := h, toks := tk })
    (done : ∀ c h tk, J n c → Fr h₀ env.locals h (mm m₀ c) → News h₀ env.locals h (Led c) → Q .next { s with heap := h, toks := tk })
    (ht : ∀ v, letOwnedTupleGo target (.ref I) v = pure ()) (hE : PassesOwn (model prog w) A env E) :
    codeAny (model prog w) A (.forLoop target (.ref I) body [] env) (fun r s' => match r with | .ok f => Q f s' | .error e => cameBackBy (model prog w) A env E e s') s := by
  have old : ∀ b o, h₀.get? b = some o → b ∉ [I] := fun b o e hb => by rw [List.mem_singleton.mp hb, hI] at e; cases e
  refine codeAny_forLoop (fun k s' => ∃ h' tk i c, s' = { s with heap := h', toks := tk } ∧ St i h' ∧ Fr h₀ env.locals h' (mm m₀ c) ∧ News h₀ env.locals h' (Led c) ∧ (∀ p ∈ Led c, @Ne Nat p.1 I) ∧ J i c ∧ i ≤ n ∧ k = n + 1 - i) ?_ (n + 1)
    ⟨s.heap, s.toks, 0, c₀, rfl, hst, (by have e : mm m₀ c₀ = m₀ := (funext hm).symm; rw [e]; exact F), N, hoff, hi, Nat.zero_le _, rfl⟩ ht
  rintro k s' ⟨h', tk, i, c, rfl, hst', F', N', hof', hJ, hi', rfl⟩
  have next : ∀ h₁ : Heap, (∀ b o, b ∉ [I] → h'.get? b = some o → h₁.get? b = some o) → Fr h₀ env.locals h₁ (mm m₀ c) ∧ News h₀ env.locals h₁ (Led c) := fun h₁ hk₁ =>
    ⟨⟨F'.ns.at' fun o e => hk₁ _ o (by simpa using hLI) e, fun b o e => hk₁ b o (old b o e) (F'.keep b o e), F'.above⟩, fun p hp => ⟨hk₁ _ _ (by simpa using hof' p hp) (N' p hp).1, (N' p hp).2⟩⟩
  by_cases hlt : i < n
  · refine W.item i _ _ _ hlt hst' fun v h₁ tk₁ hP hst₁ hk₁ => ?_
    obtain ⟨F₁, N₁⟩ := next h₁ hk₁
    obtain ⟨oI, heI⟩ := hSt _ _ hst₁
    have N₂ : News h₀ env.locals h₁ ((I, oI) :: Led c) := fun p hp => by
      rcases List.mem_cons.mp hp with rfl | hp
      · exact ⟨heI, Ne.symm hLI, hI⟩
      · exact N₁ p hp
    have fin : ∀ s₃, (∃ c' h₃ tk₃ m', s₃ = { s with heap := h₃, toks := tk₃ } ∧ Fr h₀ env.locals h₃ m' ∧ (∀ z, m' z = mm m₀ c' z) ∧ News h₀ env.locals h₃ ((I, oI) :: Led c') ∧ (∀ p ∈ Led c', @Ne Nat p.1 I) ∧ J (i + 1) c') →
        ∃ m, m < n + 1 - i ∧ ∃ h' tk i c, s₃ = { s with heap := h', toks := tk } ∧ St i h' ∧ Fr h₀ env.locals h' (mm m₀ c) ∧ News h₀ env.locals h' (Led c) ∧ (∀ p ∈ Led c, @Ne Nat p.1 I) ∧ J i c ∧ i ≤ n ∧ m = n + 1 - i := by
      rintro s₃ ⟨c', h₃, tk₃, m', rfl, F₃, hm₃, N₃, ho₃, hJ₃⟩
      refine ⟨n + 1 - (i + 1), by omega, h₃, tk₃, i + 1, c', rfl, W.frame _ _ _ hst₁ fun b hb o e => ?_, (by have e : mm m₀ c' = m' := (funext hm₃).symm; rw [e]; exact F₃), fun p hp => N₃ p (List.mem_cons_of_mem _ hp), ho₃, hJ₃, hlt, rfl⟩
      have : b = I := List.mem_singleton.mp hb
      subst this
      have e1 := (N₃ _ List.mem_cons_self).1
      rw [heI] at e
      rw [← Option.some.inj e]
      exact e1
    exact wpAny_mono (wpAny_passesOwn hE (turn i c v oI h₁ tk₁ hlt hP hJ hof' F₁ N₂)) (fun _ s₂ h₂ => wpAny_mono (wpAny_passesOwn hE h₂) (fun f s₃ h₃ => by
      cases f with
      | ret v => exact h₃
      | brk => exact h₃
      | cont => exact fin _ h₃
      | next => exact fin _ h₃) fun _ _ e => e) fun _ _ e => e
  · have hin : i = n := by omega
    subst hin
    refine W.done _ _ _ hst' fun h₁ tk₁ hk₁ => wpAny_execs_nil ?_
    obtain ⟨F₁, N₁⟩ := next h₁ hk₁
    exact done c h₁ tk₁ hJ F₁ N₁
theorem forX_range {σ : Type} {target : Expr} {r : Addr} {a b : Int} {t₀ u₀ v₀ : Tok} {m₀ : Str → Option Value} (mm : (Str → Option Value) → σ → Str → Option Value) (Led : σ → List (Addr × Obj)) (J : Nat → σ → Prop) (c₀ : σ)
    (hh : A.handled = none) (hr : IsRange s.heap r a b 1 t₀ u₀ v₀) (hsmall : Builtin.Range.small a b 1 = true)
    (F : Fr h₀ env.locals s.heap m₀) (N : News h₀ env.locals s.heap (Led c₀)) (hm : ∀ z, m₀ z = mm m₀ c₀ z) (hi : J 0 c₀)
    (turn : ∀ I i c u oI h tk, i < (b - a).toNat → J i c → (∀ p ∈ Led c, @Ne Nat p.1 I) → Fr h₀ env.locals h (mm m₀ c) → News h₀ env.locals h ((I, oI) :: Led c) →
      wpAny (model prog w) A (assign target env (.int (a + (i : Int)) u)) (fun _ s₂ => wpAny (model prog w) A (execs body env) (XEnd h₀ env.locals (mm m₀) Led (J (i + 1)) I oI s Q) E s₂) E { s with heap := h, toks := tk })
    (done : ∀ c h tk, J (b - a).toNat c → Fr h₀ env.locals h (mm m₀ c) → News h₀ env.locals h (Led c) → Q .next { s with heap := h, toks := tk })
    (ht : ∀ it v, letOwnedTupleGo target it v = pure () := by intro _ _; rfl) (hE : PassesOwn (model prog w) A env E := by passes_own) :
    wpAny (model prog w) A (pyIter (.ref r)) (fun it s₂ => codeAny (model prog w) A (.forLoop target it body [] env) (fun r s' => match r with | .ok f => Q f s' | .error e => cameBackBy (model prog w) A env E e s') s₂) E s := by
  refine wpAny_pyIter_range hr hsmall ?_
  refine forX_one (I := s.heap.objs.size) (n := (b - a).toNat) (m₀ := m₀) mm Led J c₀ (Walks.range hh _ a 1 _) (Nat.ne_of_lt F.ns.lt) (next_is_new F) (fun i h st => ⟨_, st⟩) (by show IsRangeIter _ _ _ _ _; rw [rangeSize_nat a b]; simpa using Heap.get?_push_size _ rfl) (F.push _)
    (fun p hp => ⟨Heap.get?_push_of_some _ (N p hp).1, (N p hp).2⟩) (fun p hp => Nat.ne_of_lt (Heap.lt_size (N p hp).1)) hm hi ?_ done (fun v => ht _ v) hE
  rintro i c v oI h tk hin ⟨u, rfl⟩ iv off F' N'
  have e1 : a + (i : Int) * 1 = a + (i : Int) := by omega
  rw [e1]
  exact turn _ i c u oI h tk hin iv off F' N'
end
end
section
local macro_rules | `(tactic| k_room) => `(tactic| ktr_room)
theorem rowsA18_0 : True := by
  w_top off
  k_with_none
  k_with "c.enter" => ((first
      | (refine' con_def ?k1q9 ?k2q9 ?k3q9 ?k4q9 ?k5q9 ?kAq9 ?kFq9 ?kKq9 ?k6q9 ?k7q9 ?k8q9 ?k9q9 ?kBq9 ?kRq9 ?_ ?c2q9 ?c3q9 ?c4q9 ?c5q9; (case kAq9 => exact rfl); (case kFq9 => exact rfl); (case kKq9 => assumption); (case k1q9 => k_asm); (case k2q9 => k_asm); (case k3q9 => k_asm); (case k4q9 => k_asm); (case k5q9 => k_asm); (case k6q9 => k_is); (case k7q9 => k_is); (case k8q9 => ktr_room); (case k9q9 => first | exact BindsTo.of_eq rfl | exact binds_K (by k_in) rfl (by k_is) rfl rfl rfl); (case c5q9 => decide); (case kBq9 => exact locs rfl); (case c2q9 => exact rfl); (case c3q9 => exact rfl); (case c4q9 => exact rfl); (case kRq9 => walk_at "c.ret"); k_whole; intro _ _ _ _ _ N'q9 _ _ _ l1q9; (try k_lt l1q9); (try (revert l1q9; intro _)); (try dsimp only); (try k_fold))
      | (refine' con_defC ?k1q9 ?k2q9 ?k3q9 ?k4q9 ?k5q9 ?kAq9 ?kFq9 ?kKq9 ?k6q9 ?k7q9 ?k8q9 ?k9q9 ?kBq9 ?kDq9 ?kRq9 ?_ ?c2q9 ?c3q9 ?c4q9; (case kAq9 => exact rfl); (case kFq9 => exact rfl); (case kKq9 => assumption); (case k1q9 => k_asm); (case k2q9 => k_asm); (case k3q9 => k_asm); (case k4q9 => k_asm); (case k5q9 => k_asm); (case k6q9 => k_is); (case k7q9 => k_is); (case k8q9 => ktr_room); (case k9q9 => first | exact BindsTo.of_eq rfl | exact binds_K (by k_in) rfl (by k_is) rfl rfl rfl); (case kBq9 => exact rfl); (case kDq9 => decide +kernel); (case c2q9 => exact rfl); (case c3q9 => exact rfl); (case c4q9 => exact rfl); (case kRq9 => walk_at "c.ret"); k_whole; intro _ _ _ _ _ _ _ N'q9 Y'q9 _ _ _ l1q9; (try k_lt l1q9); (try (revert l1q9; intro _)); k_cells Y'q9; (try simp only [List.cons_append, List.nil_append] at N'q9); (try dsimp only); (try k_fold))))
  k_with "c.ret" => ((intro _ _ hl9q9; exact con_back (by assumption) (by assumption) (by assumption) (by assumption) hl9q9))
  k_with "c.start" => ((unfold Con; k_fill; intro _ _ _ _ _ _ _ _ _ _ _ _ _ _ _ _ _ Bq9 Fq9 Xq9 Nq9 Tq9 _ _ _ hretq9; refine wpAny_call ?_; k_dflt walk_at "c.enter"; clear hretq9 Nq9 Fq9 Bq9 Xq9 Tq9))
  k_with "c.startCls" => ((unfold Con; k_fill; intro _ _ _ _ _ _ _ _ _ _ _ _ _ _ _ _ _ Bq9 Fq9 Xq9 Nq9 Tq9 _ _ _ hretq9; refine wpAny_call ?_; k_dflt walk_at "c.enterCls"; clear hretq9 Nq9 Fq9 Bq9 Xq9 Tq9))
  k_with "c.enterCls" => ((refine' con_cls ?k1q9 ?k2q9 ?k3q9 ?k5q9 ?kAq9 ?kFq9 ?kKq9 ?m1q9 ?m2q9 ?m3q9 ?k6q9 ?k7q9 ?k8q9 ?k9q9 ?kBq9 ?kRq9 ?_ ?c2q9 ?c3q9 ?c4q9 ?c5q9; (case kAq9 => exact rfl); (case kFq9 => exact rfl); (case kKq9 => assumption); (case k1q9 => k_asm); (case k2q9 => k_asm); (case k3q9 => k_asm); (case k5q9 => k_asm); (case m1q9 => k_is); (case m2q9 => k_is); (case m3q9 => k_is); (case k6q9 => k_is); (case k7q9 => k_is); (case k8q9 => ktr_room); (case k9q9 => intro _ _; exact BindsTo.of_eq rfl); (case c5q9 => decide); (case kBq9 => intro _; exact locs rfl); (case c2q9 => exact rfl); (case c3q9 => exact rfl); (case c4q9 => exact rfl); (case kRq9 => exact con_nil (by assumption)); k_whole; intro _ _ _ _ _ _ l0'q9 _ _ _ _ _ l1q9; (try k_lt2 l0'q9); (try (revert l0'q9; intro _)); (try k_lt2 l1q9); (try (revert l1q9; intro _)); (try dsimp only); (try k_fold)))
  k_with "CompSrc" => ((k_here; k_dflt (refine LCg.CompSrc.range (by rfl) (by k_asm) (by k_asm) (by assumption) (by first | decide | rfl) (by first | rfl | decide) (by first | size_fits | exact Nat.le_of_ble_eq_true rfl) ?_; intro _; lcg_lit)))
  k_with "binaryOp Mult str int" => ((k_here; (refine' r_mul ?haq9 ?hbq9 ?_); (case haq9 => ((try simp only [fmod_lit]); omega)); (case hbq9 => ((try simp only [fmod_lit]); omega)); intro _ _))
  k_with "binaryOp Add str str" => ((k_here; (refine' r_add ?haq9 ?hbq9 ?hcq9 ?_); (case haq9 => first | with_reducible exact S_tab | with_reducible exact S_blank | with_reducible rfl); (case hbq9 => first | with_reducible exact S_tab | with_reducible exact S_blank | with_reducible rfl); (case hcq9 => (simp [sp]; omega)); intro _ _))
  k_with "call builtin:str.join" => ((k_here; (first
      | refine' r_join (ls := [(_, _)]) ?hlq9 ?hiq9 ?hwq9 ?_; (case hlq9 => exact News.isList (by k_asm) (by k_mem)); (case hiq9 => exact rfl)
      | refine' r_join (ls := [(_, _), (_, _)]) ?hlq9 ?hiq9 ?hwq9 ?_; (case hlq9 => exact News.isList (by k_asm) (by k_mem)); (case hiq9 => exact rfl)
      | refine' r_join (ls := [(_, _), (_, _), (_, _)]) ?hlq9 ?hiq9 ?hwq9 ?_; (case hlq9 => exact News.isList (by k_asm) (by k_mem)); (case hiq9 => exact rfl)); (case hwq9 => (simp [sp, fmod_lit]; omega)); intro _ _; (try dsimp only)))
  k_with "call type:tuple" => ((k_here; k_dflt (refine' r_tuple ?Fq9 ?Nq9 ?mq9 ?_ ?zq9; (case Fq9 => k_asm); (case Nq9 => k_asm); (case mq9 => k_mem); (case zq9 => (have hc9 := sizeLine_eq; (have hI9 := IntsAre.length (by assumption)); omega)); k_whole); intro _ _ _ _ l1q9; (try k_lt l1q9); (try (revert l1q9; intro _))))
  k_with "call builtin:len" => ((k_here; (with_reducible show wpAny _ _ (call (Value.builtin "len") [Value.ref _]) _ _ _); k_dflt (refine' r_len_tupI ?Nq9 ?mq9 ?iq9 ?fq9 ?_; (case Nq9 => k_asm); (case mq9 => k_mem); (case iq9 => with_reducible assumption); (case fq9 => omega); k_whole); intro _ _))
  k_with "subscriptTail" => ((k_here; (with_reducible show wpAny _ _ (subscriptTail _ _ (Value.ref _) (Value.int _ _)) _ _ _); k_dflt (refine' r_item_tupI ?Nq9 ?mq9 ?iq9 ?aq9 ?bq9 ?cq9 ?_ ?eq9; (case Nq9 => k_asm); (case mq9 => k_mem); (case iq9 => with_reducible assumption); (case aq9 => omega); (case bq9 => omega); (case cq9 => omega); (case eq9 => with_unfolding_all rfl); k_whole); intro _))
  k_with "pyIter ref" => ((k_here; (with_reducible show wpAny _ _ (pyIter (Value.ref _)) (fun it s₂ => LoopAtV _ _ _ _ _ _ _ _ _ it s₂) _ _); refine Hold.of ?_))
  trivial
local macro_rules | `(tactic| k_inst) => `(tactic| (refine' accInst ?N ?h1 ?h2; (case N => k_asm); (case h1 => k_mem); (case h2 => k_mem)))
theorem rowsA18_1 : True := by
  k_with "c.startS" => ((unfold Con; k_fill; intro _ _ _ _ _ _ _ _ _ _ _ _ _ _ _ _ _ Bq9 Fq9 Xq9 Nq9 Tq9 _ _ _ hretq9; refine wpAny_call ?_; k_dflt walk_at "c.enterS"; clear hretq9 Nq9 Fq9 Bq9 Xq9 Tq9))
  k_with "c.enterS" => ((refine' con_defS ?k1q9 ?k2q9 ?k3q9 ?k4q9 ?k5q9 ?kAq9 ?kFq9 ?kKq9 ?k6q9 ?k7q9 ?k8q9 ?k9q9 ?kBq9 ?kRq9 ?_ ?c2q9 ?c3q9 ?c4q9 ?c5q9; (case kAq9 => exact rfl); (case kFq9 => exact rfl); (case kKq9 => assumption); (case k1q9 => k_asm); (case k2q9 => k_asm); (case k3q9 => k_asm); (case k4q9 => k_asm); (case k5q9 => k_asm); (case k6q9 => k_is); (case k7q9 => k_is); (case k8q9 => ktr_room); (case k9q9 => first | exact BindsTo.of_eq rfl | exact binds_K (by k_in) rfl (by k_is) rfl rfl rfl); (case c5q9 => decide); (case kBq9 => exact locs rfl); (case c2q9 => exact rfl); (case c3q9 => exact rfl); (case c4q9 => exact rfl); (case kRq9 => walk_at "c.ret"); k_whole; intro _ _ _ _ _ _ _ _ _ l1q9; (try k_lt l1q9); (try (revert l1q9; intro _)); (try dsimp only); (try k_fold)))
  k_with "getMethod ref" => ((k_here; (with_reducible show wpAny _ _ (getMethod (Value.ref _) _ _) _ _ _); k_dflt (refine' acc_method ?Fq9 ?Xq9 ?Nq9 ?mq9 ?dq9 ?gaq9 ?cq9 ?gtq9 ?fq9 ?tfq9 ?lq9 ?_; (case Fq9 => k_asm); (case Xq9 => assumption); (case Nq9 => k_asm); (case mq9 => k_mem); (case dq9 => k_mem); (case gaq9 => k_is); (case cq9 => decide +kernel); (case gtq9 => k_is); (case fq9 => k_is); (case tfq9 => first | exact .inl (by k_is) | exact .inr (by k_is)); (case lq9 => rfl)); k_whole))
  k_with "getMethod ref" => ((k_here; (with_reducible show wpAny _ _ (getMethod (Value.ref _) _ _) _ _ _); k_dflt (refine' acc_super ?idq9 ?Fq9 ?Xq9 ?Nq9 ?sq9 ?mq9 ?oq9 ?fq9 ?lq9 ?nq9 ?_; (case Fq9 => k_asm); (case Xq9 => assumption); (case Nq9 => k_asm); (case sq9 => k_mem); (case mq9 => k_mem); (case oq9 => k_is); (case fq9 => ks_is); (case lq9 => k_is); (case nq9 => decide); (case idq9 => first | exact .inl rfl | exact .inr rfl)); k_whole; intro _ _ _ _ l1q9; (try k_lt l1q9); (try (revert l1q9; intro _))))
  k_with "callWith ref" => ((k_here; (with_reducible show wpAny _ _ (callWith _ (Value.ref _) [] _ []) _ _ _); k_dflt (refine' acc_mwWith ?Nq9 ?mq9 ?_; (case Nq9 => k_asm); (case mq9 => k_mem)); k_whole))
  k_with "call ref" => ((k_here; (with_reducible show wpAny _ _ (call (Value.ref _) []) _ _ _); k_dflt (refine' acc_mwLen ?Fq9 ?Xq9 ?Nq9 ?uq9 ?mq9 ?_; (case Fq9 => k_asm); (case Xq9 => assumption); (case Nq9 => k_asm); (case uq9 => k_mem); (case mq9 => k_mem)); k_whole; intro _ _))
  k_with "call ref" => ((k_here; (with_reducible show wpAny _ _ (call (Value.ref _) []) _ _ _); k_dflt (refine' acc_mwInit ?Fq9 ?Xq9 ?Nq9 ?uq9 ?mq9 ?_; (case Fq9 => k_asm); (case Xq9 => assumption); (case Nq9 => k_asm); (case uq9 => k_mem); (case mq9 => k_updF)); k_whole; intro _ _ _ _))
  k_with "call builtin:list.append" => ((k_here; k_dflt (refine' acc_append ?Fq9 ?Xq9 ?Nq9 ?Uq9 ?lq9 ?zq9 ?_; (case Fq9 => k_asm); (case Xq9 => assumption); (case Nq9 => k_asm); (case Uq9 => k_updF); (case lq9 => k_is); (case zq9 => omega)); k_whole; intro _ _ _ _))
  k_with "subscriptTail" => ((k_here; (with_reducible show wpAny _ _ (subscriptTail _ _ (Value.ref _) (Value.ref _)) _ _ _); k_dflt (refine' acc_slice ?Fq9 ?Xq9 ?Nq9 ?mq9 ?lq9 ?nq9 ?fq9 ?plq9 ?puq9 ?zq9 ?_ ?hsq9 ?htq9; (case Fq9 => k_asm); (case Xq9 => assumption); (case Nq9 => k_asm); (case mq9 => k_mem); (case lq9 => k_is); (case nq9 => k_is); (case fq9 => k_is); (case plq9 => first | exact .none | exact .int _ _); (case puq9 => first | exact .none | exact .int _ _); (case zq9 => omega); (case hsq9 => with_unfolding_all rfl); (case htq9 => (intro _; with_unfolding_all rfl))); k_whole; intro _ _ _ _ l1q9; (try k_lt l1q9); (try (revert l1q9; intro _))))
  k_with "setItem ref ref" => ((k_here; (with_reducible show wpAny _ _ (setItem (Value.ref _) (Value.ref _) (Value.ref _)) _ _ _); k_dflt (refine' acc_store ?Fq9 ?Xq9 ?Nq9 ?Uq9 ?lq9 ?nq9 ?fq9 ?yq9 ?xyq9 ?plq9 ?puq9 ?zq9 ?_; (case Fq9 => k_asm); (case Xq9 => assumption); (case Nq9 => k_asm); (case Uq9 => k_updF); (case lq9 => k_is); (case nq9 => k_is); (case fq9 => k_is); (case yq9 => k_mem); (case xyq9 => k_ne); (case plq9 => first | exact .none | exact .int _ _); (case puq9 => first | exact .none | exact .int _ _); (case zq9 => ((try simp); omega))); k_whole; intro _ _ _ _))
  k_with "setAttr ref" => ((k_here; (with_reducible show wpAny _ _ (setAttr (Value.ref _) _ _) _ _ _); k_dflt (refine' acc_setAttr ?Fq9 ?Xq9 ?Nq9 ?mq9 ?Uq9 ?cq9 ?mrq9 ?hdq9 ?sq9 ?tq9 ?lq9 ?eq9 ?zq9 ?_; (case Fq9 => k_asm); (case Xq9 => assumption); (case Nq9 => k_asm); (case mq9 => k_mem); (case Uq9 => k_updF); (case cq9 => k_is); (case mrq9 => exact rfl); (case hdq9 => exact rfl); (case sq9 => k_is); (case tq9 => k_is); (case lq9 => k_get); (case eq9 => k_put); (case zq9 => exact Nat.le_of_ble_eq_true rfl)); k_whole; intro _ _ _; (try k_sweep)))
  k_with "getAttr ref" => ((k_here; (with_reducible show wpAny _ _ (getAttr (Value.ref _) _ _) _ _ _); k_dflt (refine' acc_getAttr ?Fq9 ?Xq9 ?Nq9 ?mq9 ?dq9 ?gaq9 ?gtq9 ?lq9 ?hhq9 ?haq9 ?hnq9 ?hgq9 ?hvq9 ?_; (case Fq9 => k_asm); (case Xq9 => assumption); (case Nq9 => k_asm); (case mq9 => k_mem); (case dq9 => k_mem); (case gaq9 => k_is); (case gtq9 => k_is); (case lq9 => k_is); (case hhq9 => k_is); (case haq9 => k_is); (case hnq9 => k_is); (case hgq9 => k_get); (case hvq9 => k_handed)); k_whole))
  k_with "wpAt" => ((dsimp only; ks_step "execs cons"; refine ks_wpAt_execs_cons ?_))
  k_with "wpAt" => (((try dsimp only); ks_step "exec Expr"; k_dflt (refine ks_wpAt_Expr_any ?_ (by rfl) (by rfl))))
  k_with "wpAt" => (((try dsimp only); ks_step "eval Call"; k_dflt (refine ks_wpAt_MethodCall ?_)))
  k_with "exec For" => ((k_here; k_dflt (refine wpAny_For ?_ (by intro _; with_unfolding_all rfl))))
  k_with "exec For Name Call cons nil" => ((k_here; k_dflt (refine wpAny_For ?_ (by intro _; with_unfolding_all rfl))))
  k_with "exec For Name Call" => ((k_here; k_dflt (refine wpAny_For ?_ (by intro _; with_unfolding_all rfl))))
  k_with "pyIter ref" => ((k_here; (with_reducible show wpAny _ _ (pyIter (Value.ref _)) (fun it s₂ => codeAny _ _ _ _ _) _ _); k_whole; refine Hold.of ?_))
  k_with "eval ListComp" => ((k_here; k_dflt (refine LCt.ListComp_T (F₀ := by k_asm) (by with_unfolding_all rfl) (by decide) (by rfl) (by decide) (by rfl) ?_)))
  k_with "CompSrcT" => ((k_here; k_whole; refine Hold.of ?_))
  k_with "subscriptTail" => ((k_here; (with_reducible show wpAny _ _ (subscriptTail _ _ (Value.ref _) (Value.int _ _)) _ _ _); k_dflt (refine' item_anyK ?k1q9 ?k2q9 ?k3q9 ?k4q9 ?k5q9 ?_ ?k6q9; (case k1q9 => exact News.isList (by k_asm) (by k_mem)); (case k2q9 => with_reducible assumption); (case k3q9 => omega); (case k4q9 => omega); (case k5q9 => omega); (case k6q9 => with_unfolding_all rfl); k_whole); intro _))
  trivial
/-- the first x in 1..k that wins at a heap of k, from the needed list of the smaller heaps -/
def ways (ns st : List Int) (k : Nat) : List Int := (rangeKs 1 k).filter (fun x => x == (k : Int) || decide (ns.getD ((k : Int) - x).toNat 0 > st.getD x.toNat 0))
def neededRun (st : List Int) : Nat → List Int
  | 0 => [0]
  | k + 1 => neededRun st k ++ [(ways (neededRun st k) st (k + 1)).headD 0]
theorem neededRun_len (st : List Int) : ∀ k, (neededRun st k).length = k + 1
  | 0 => rfl
  | k + 1 => by simp [neededRun, neededRun_len st k]
theorem fold_pick (p : Int → Bool) : ∀ ns : List Int, ns.foldl (fun l k => if p k = true then l ++ [k] else l) [] = ns.filter p := by
  have go : ∀ (ns l : List Int), ns.foldl (fun l k => if p k = true then l ++ [k] else l) l = l ++ ns.filter p := by
    intro ns
    induction ns with
    | nil => intro l; simp
    | cons a r ih =>
      intro l
      rw [List.foldl_cons, ih]
      by_cases h : p a = true
      · simp [h]
      · simp [h]
  intro ns
  rw [go]
  rfl
theorem ways_pos (ns st : List Int) (k : Nat) (hk : 1 ≤ k) : 0 < (ways ns st k).length := by
  apply List.length_pos_of_mem (a := (k : Int))
  refine List.mem_filter.mpr ⟨?_, by simp⟩
  exact List.mem_map.mpr ⟨k - 1, List.mem_range.mpr (by omega), by omega⟩
structure NeedS where
  us : List Value
  n : Nat
  o : Obj
  u : Option Value
theorem needed_con (w : World) (mean : ExcName → Option Value) (mg mb : Str → Option Value) (top : Nat) (r : Addr) (vs : List Value) (st : List Int) (nr : Nat) (t0 : Tok)
    (hh : top ≤ 14) (hI : IntsAre vs st) (hlen : st.length = 15) :
    Con 20 w mean mg mb 215 [.int top t0, .ref r] [(r, W.listOf vs.toArray nr)] (fun tl v => ∃ y us n', IntsAre us (neededRun st top) ∧ v = .ref y ∧ tl = [(y, W.listOf us.toArray n'), (r, W.listOf vs.toArray nr)]) := by
  walk_at "c.start"
  refine abs1 ?_
  intro X8 hX8
  k_steps
  refine Hold.on ?_
  k_sweep
  with_reducible rename IsRange _ _ _ _ _ _ _ _ => lR
  with_reducible rename Fr _ _ _ _ => lF
  with_reducible rename News _ _ _ _ => lN
  rename_i dp un gd cn cs a ccd cl outer A₀ base h₀ Lc mc s Q E hk hd hu g L1 h1 tk1 gk B X T l1 o1 o2 o3 d1 d2 d3 y hy1 ly hy2 o4 d4 hy3 tky tt uu vv kk
  have hd1 : ∃ vv, o1.data = .cell vv := ⟨_, d1⟩
  with_unfolding_all refine' forX_range (fun mz (c : NeedS) z => if z = Str.ofString "ways" then c.u else mz z) (fun c => [(y, W.listOf c.us.toArray c.n), (L1 + 1 + 1 + 1, c.o), (L1 + 1 + 1, o4), (L1 + 1, o3), (r, W.listOf vs.toArray nr)]) (fun i c => IntsAre c.us (neededRun st i) ∧ ∃ vv, c.o.data = .cell vv) ⟨[.int 0 tk1], 0, o1, none⟩ (by rfl) lR ?hsm lF lN ?hm ?hi ?turn ?done
  · exact small_one (by omega) (by omega) (by omega) (by omega)
  · intro z
    dsimp only
    by_cases hz : z = Str.ofString "ways"
    · rw [if_pos hz, hz]
      rfl
    · simp only [if_neg hz]
  · exact ⟨.cons 0 tk1 .nil, hd1⟩
  · rintro I i ⟨us, n, o, u⟩ v oI h tk hi ⟨hus, vv, ho⟩ hI' F' N'
    dsimp only at hus ho hI' F' N'
    clear lF lN lR d1 hd1
    refine abs2 ?_
    intro X9 hX9
    refine wpAny_assign_Name ?_
    simp only [List.mem_cons, List.not_mem_nil, forall_eq_or_imp, or_false, forall_eq] at hI'
    have hlu := hus.length
    have hln := neededRun_len st i
    rw [hln] at hlu
    k_steps
    refine Hold.on ?_
    refine LCt.CompSrcT.range (n := i + 1) (by rfl) (by k_asm) (by k_asm) (by assumption) (small_one (by omega) (by omega) (by omega) (by omega)) (by rw [rangeSize_nat]; omega) (by rw [sizeLine_eq]; omega) ?_
    intro g9
    refine' kci_range (fun l x => if (x == ((i + 1 : Nat) : Int) || decide ((neededRun st i).getD (((i + 1 : Nat) : Int) - x).toNat 0 > st.getD x.toNat 0)) = true then l ++ [x] else l) (fun k' t' I' oI' C' oC' D' m' ys' l' h' tk' E' hlo' hhi' hI2 hC' hx' F8 N8 off' ne' mk => ?_) ?_ ?_
    · k_steps
      · refine ⟨_, _, _, rfl, F8, N8, off', trivial, kci_el (if_pos ?_) rfl rfl⟩
        rw [Bool.or_eq_true]
        exact .inl (by rw [beq_iff_eq]; omega)
      · refine ⟨_, _, _, rfl, F8, N8, off', trivial, kci_el (if_pos ?_) rfl rfl⟩
        rw [Bool.or_eq_true]
        exact .inr (decide_eq_true (by rw [show ((i + 1 : Nat) : Int) - k' = 1 + (i : Int) - k' by omega]; assumption))
      · refine ⟨_, _, _, rfl, F8, N8, off', trivial, kci_no (if_neg ?_) rfl⟩
        rw [Bool.or_eq_true, beq_iff_eq, decide_eq_true_eq, show ((i + 1 : Nat) : Int) - k' = 1 + (i : Int) - k' by omega]
        rintro (h1 | h2)
        · omega
        · contradiction
    · intro ys hy hyl D8 h8 tk8 F8 N8 off8
      rw [fold_pick] at hy
      have hy' : IntsAre ys (ways (neededRun st i) st (i + 1)) := hy
      have hwp := ways_pos (neededRun st i) st (i + 1) (by omega)
      clear hy
      simp only [LCg.Off1, and_true] at off8
      k_steps
      with_reducible rename Fr _ _ _ _ => lF
      with_reducible rename News _ _ _ _ => lN
      rw [List.push_toArray] at lN
      refine hX9 _ _ (XEnd.intro ⟨us ++ [_], n + 1, _, some (.ref D8)⟩ lF ?_ (fun p hp => lN p (List.mem_cons_of_mem _ hp)) ?_ ⟨?_, _, by assumption⟩)
      · intro z
        dsimp only
        by_cases hz : z = Str.ofString "ways"
        · simp only [if_pos hz]
        · simp only [if_neg hz]
      · simp only [List.mem_cons, List.not_mem_nil, forall_eq_or_imp, or_false, forall_eq]
        exact hI'
      · show IntsAre (us ++ [_]) (neededRun st i ++ [(ways (neededRun st i) st (i + 1)).headD 0])
        refine IntsAre.append hus ?_
        rw [show (ways (neededRun st i) st (i + 1)).getD (Int.toNat 0) 0 = (ways (neededRun st i) st (i + 1)).headD 0 from by cases ways (neededRun st i) st (i + 1) <;> rfl]
        exact .cons _ _ .nil
    · intro l k
      show (if _ then _ else _ : List Int).length ≤ _
      split
      · simp
      · omega
  · rintro ⟨us, n, o, u⟩ h tk ⟨hus, vv, ho⟩ F' N'
    dsimp only at hus ho F' N'
    clear lF lN lR d1 hd1
    rw [show ((top : Int) + 1 - 1).toNat = top by omega] at hus
    k_steps
    refine hX8 _ _ ?_
    dsimp only
    refine' LeaveC.intro [(y, W.listOf us.toArray n), (r, W.listOf vs.toArray nr)] ?F ?N ⟨_, _, _, hus, rfl, rfl⟩
    (case F => k_asm)
    (case N => (refine' cb_drop ?A ?B; (case A => k_asm); (case B => lcg_sub)))
end
section
local macro_rules | `(tactic| k_room) => `(tactic| ktr_room)
theorem rowsA20_0 : True := by
  w_top off
  k_with_none
  k_with "c.enter" => ((first
      | (refine' con_def ?k1q9 ?k2q9 ?k3q9 ?k4q9 ?k5q9 ?kAq9 ?kFq9 ?kKq9 ?k6q9 ?k7q9 ?k8q9 ?k9q9 ?kBq9 ?kRq9 ?_ ?c2q9 ?c3q9 ?c4q9 ?c5q9; (case kAq9 => exact rfl); (case kFq9 => exact rfl); (case kKq9 => assumption); (case k1q9 => k_asm); (case k2q9 => k_asm); (case k3q9 => k_asm); (case k4q9 => k_asm); (case k5q9 => k_asm); (case k6q9 => k_is); (case k7q9 => k_is); (case k8q9 => ktr_room); (case k9q9 => first | exact BindsTo.of_eq rfl | exact binds_K (by k_in) rfl (by k_is) rfl rfl rfl); (case c5q9 => decide); (case kBq9 => exact locs rfl); (case c2q9 => exact rfl); (case c3q9 => exact rfl); (case c4q9 => exact rfl); (case kRq9 => walk_at "c.ret"); k_whole; intro _ _ _ _ _ N'q9 _ _ _ l1q9; (try k_lt l1q9); (try (revert l1q9; intro _)); (try dsimp only); (try k_fold))
      | (refine' con_defC ?k1q9 ?k2q9 ?k3q9 ?k4q9 ?k5q9 ?kAq9 ?kFq9 ?kKq9 ?k6q9 ?k7q9 ?k8q9 ?k9q9 ?kBq9 ?kDq9 ?kRq9 ?_ ?c2q9 ?c3q9 ?c4q9; (case kAq9 => exact rfl); (case kFq9 => exact rfl); (case kKq9 => assumption); (case k1q9 => k_asm); (case k2q9 => k_asm); (case k3q9 => k_asm); (case k4q9 => k_asm); (case k5q9 => k_asm); (case k6q9 => k_is); (case k7q9 => k_is); (case k8q9 => ktr_room); (case k9q9 => first | exact BindsTo.of_eq rfl | exact binds_K (by k_in) rfl (by k_is) rfl rfl rfl); (case kBq9 => exact rfl); (case kDq9 => decide +kernel); (case c2q9 => exact rfl); (case c3q9 => exact rfl); (case c4q9 => exact rfl); (case kRq9 => walk_at "c.ret"); k_whole; intro _ _ _ _ _ _ _ N'q9 Y'q9 _ _ _ l1q9; (try k_lt l1q9); (try (revert l1q9; intro _)); k_cells Y'q9; (try simp only [List.cons_append, List.nil_append] at N'q9); (try dsimp only); (try k_fold))))
  k_with "c.ret" => ((intro _ _ hl9q9; exact con_back (by assumption) (by assumption) (by assumption) (by assumption) hl9q9))
  k_with "c.start" => ((unfold Con; k_fill; intro _ _ _ _ _ _ _ _ _ _ _ _ _ _ _ _ _ Bq9 Fq9 Xq9 Nq9 Tq9 _ _ _ hretq9; refine wpAny_call ?_; k_dflt walk_at "c.enter"; clear hretq9 Nq9 Fq9 Bq9 Xq9 Tq9))
  k_with "c.startCls" => ((unfold Con; k_fill; intro _ _ _ _ _ _ _ _ _ _ _ _ _ _ _ _ _ Bq9 Fq9 Xq9 Nq9 Tq9 _ _ _ hretq9; refine wpAny_call ?_; k_dflt walk_at "c.enterCls"; clear hretq9 Nq9 Fq9 Bq9 Xq9 Tq9))
  k_with "c.enterCls" => ((refine' con_cls ?k1q9 ?k2q9 ?k3q9 ?k5q9 ?kAq9 ?kFq9 ?kKq9 ?m1q9 ?m2q9 ?m3q9 ?k6q9 ?k7q9 ?k8q9 ?k9q9 ?kBq9 ?kRq9 ?_ ?c2q9 ?c3q9 ?c4q9 ?c5q9; (case kAq9 => exact rfl); (case kFq9 => exact rfl); (case kKq9 => assumption); (case k1q9 => k_asm); (case k2q9 => k_asm); (case k3q9 => k_asm); (case k5q9 => k_asm); (case m1q9 => k_is); (case m2q9 => k_is); (case m3q9 => k_is); (case k6q9 => k_is); (case k7q9 => k_is); (case k8q9 => ktr_room); (case k9q9 => intro _ _; exact BindsTo.of_eq rfl); (case c5q9 => decide); (case kBq9 => intro _; exact locs rfl); (case c2q9 => exact rfl); (case c3q9 => exact rfl); (case c4q9 => exact rfl); (case kRq9 => exact con_nil (by assumption)); k_whole; intro _ _ _ _ _ _ l0'q9 _ _ _ _ _ l1q9; (try k_lt2 l0'q9); (try (revert l0'q9; intro _)); (try k_lt2 l1q9); (try (revert l1q9; intro _)); (try dsimp only); (try k_fold)))
  k_with "CompSrc" => ((k_here; k_dflt (refine LCg.CompSrc.range (by rfl) (by k_asm) (by k_asm) (by assumption) (by first | decide | rfl) (by first | rfl | decide) (by first | size_fits | exact Nat.le_of_ble_eq_true rfl) ?_; intro _; lcg_lit)))
  k_with "binaryOp Mult str int" => ((k_here; (refine' r_mul ?haq9 ?hbq9 ?_); (case haq9 => ((try simp only [fmod_lit]); omega)); (case hbq9 => ((try simp only [fmod_lit]); omega)); intro _ _))
  k_with "binaryOp Add str str" => ((k_here; (refine' r_add ?haq9 ?hbq9 ?hcq9 ?_); (case haq9 => first | with_reducible exact S_tab | with_reducible exact S_blank | with_reducible rfl); (case hbq9 => first | with_reducible exact S_tab | with_reducible exact S_blank | with_reducible rfl); (case hcq9 => (simp [sp]; omega)); intro _ _))
  k_with "call builtin:str.join" => ((k_here; (first
      | refine' r_join (ls := [(_, _)]) ?hlq9 ?hiq9 ?hwq9 ?_; (case hlq9 => exact News.isList (by k_asm) (by k_mem)); (case hiq9 => exact rfl)
      | refine' r_join (ls := [(_, _), (_, _)]) ?hlq9 ?hiq9 ?hwq9 ?_; (case hlq9 => exact News.isList (by k_asm) (by k_mem)); (case hiq9 => exact rfl)
      | refine' r_join (ls := [(_, _), (_, _), (_, _)]) ?hlq9 ?hiq9 ?hwq9 ?_; (case hlq9 => exact News.isList (by k_asm) (by k_mem)); (case hiq9 => exact rfl)); (case hwq9 => (simp [sp, fmod_lit]; omega)); intro _ _; (try dsimp only)))
  k_with "call type:tuple" => ((k_here; k_dflt (refine' r_tuple ?Fq9 ?Nq9 ?mq9 ?_ ?zq9; (case Fq9 => k_asm); (case Nq9 => k_asm); (case mq9 => k_mem); (case zq9 => (have hc9 := sizeLine_eq; (have hI9 := IntsAre.length (by assumption)); omega)); k_whole); intro _ _ _ _ l1q9; (try k_lt l1q9); (try (revert l1q9; intro _))))
  k_with "call builtin:len" => ((k_here; (with_reducible show wpAny _ _ (call (Value.builtin "len") [Value.ref _]) _ _ _); k_dflt (refine' r_len_tupI ?Nq9 ?mq9 ?iq9 ?fq9 ?_; (case Nq9 => k_asm); (case mq9 => k_mem); (case iq9 => with_reducible assumption); (case fq9 => omega); k_whole); intro _ _))
  k_with "subscriptTail" => ((k_here; (with_reducible show wpAny _ _ (subscriptTail _ _ (Value.ref _) (Value.int _ _)) _ _ _); k_dflt (refine' r_item_tupI ?Nq9 ?mq9 ?iq9 ?aq9 ?bq9 ?cq9 ?_ ?eq9; (case Nq9 => k_asm); (case mq9 => k_mem); (case iq9 => with_reducible assumption); (case aq9 => omega); (case bq9 => omega); (case cq9 => omega); (case eq9 => with_unfolding_all rfl); k_whole); intro _))
  k_with "pyIter ref" => ((k_here; (with_reducible show wpAny _ _ (pyIter (Value.ref _)) (fun it s₂ => LoopAtV _ _ _ _ _ _ _ _ _ it s₂) _ _); refine Hold.of ?_))
  trivial
local macro_rules | `(tactic| k_inst) => `(tactic| (refine' accInst ?N ?h1 ?h2; (case N => k_asm); (case h1 => k_mem); (case h2 => k_mem)))
theorem rowsA20_1 : True := by
  k_with "c.startS" => ((unfold Con; k_fill; intro _ _ _ _ _ _ _ _ _ _ _ _ _ _ _ _ _ Bq9 Fq9 Xq9 Nq9 Tq9 _ _ _ hretq9; refine wpAny_call ?_; k_dflt walk_at "c.enterS"; clear hretq9 Nq9 Fq9 Bq9 Xq9 Tq9))
  k_with "c.enterS" => ((refine' con_defS ?k1q9 ?k2q9 ?k3q9 ?k4q9 ?k5q9 ?kAq9 ?kFq9 ?kKq9 ?k6q9 ?k7q9 ?k8q9 ?k9q9 ?kBq9 ?kRq9 ?_ ?c2q9 ?c3q9 ?c4q9 ?c5q9; (case kAq9 => exact rfl); (case kFq9 => exact rfl); (case kKq9 => assumption); (case k1q9 => k_asm); (case k2q9 => k_asm); (case k3q9 => k_asm); (case k4q9 => k_asm); (case k5q9 => k_asm); (case k6q9 => k_is); (case k7q9 => k_is); (case k8q9 => ktr_room); (case k9q9 => first | exact BindsTo.of_eq rfl | exact binds_K (by k_in) rfl (by k_is) rfl rfl rfl); (case c5q9 => decide); (case kBq9 => exact locs rfl); (case c2q9 => exact rfl); (case c3q9 => exact rfl); (case c4q9 => exact rfl); (case kRq9 => walk_at "c.ret"); k_whole; intro _ _ _ _ _ _ _ _ _ l1q9; (try k_lt l1q9); (try (revert l1q9; intro _)); (try dsimp only); (try k_fold)))
  k_with "getMethod ref" => ((k_here; (with_reducible show wpAny _ _ (getMethod (Value.ref _) _ _) _ _ _); k_dflt (refine' acc_method ?Fq9 ?Xq9 ?Nq9 ?mq9 ?dq9 ?gaq9 ?cq9 ?gtq9 ?fq9 ?tfq9 ?lq9 ?_; (case Fq9 => k_asm); (case Xq9 => assumption); (case Nq9 => k_asm); (case mq9 => k_mem); (case dq9 => k_mem); (case gaq9 => k_is); (case cq9 => decide +kernel); (case gtq9 => k_is); (case fq9 => k_is); (case tfq9 => first | exact .inl (by k_is) | exact .inr (by k_is)); (case lq9 => rfl)); k_whole))
  k_with "getMethod ref" => ((k_here; (with_reducible show wpAny _ _ (getMethod (Value.ref _) _ _) _ _ _); k_dflt (refine' acc_super ?idq9 ?Fq9 ?Xq9 ?Nq9 ?sq9 ?mq9 ?oq9 ?fq9 ?lq9 ?nq9 ?_; (case Fq9 => k_asm); (case Xq9 => assumption); (case Nq9 => k_asm); (case sq9 => k_mem); (case mq9 => k_mem); (case oq9 => k_is); (case fq9 => ks_is); (case lq9 => k_is); (case nq9 => decide); (case idq9 => first | exact .inl rfl | exact .inr rfl)); k_whole; intro _ _ _ _ l1q9; (try k_lt l1q9); (try (revert l1q9; intro _))))
  k_with "callWith ref" => ((k_here; (with_reducible show wpAny _ _ (callWith _ (Value.ref _) [] _ []) _ _ _); k_dflt (refine' acc_mwWith ?Nq9 ?mq9 ?_; (case Nq9 => k_asm); (case mq9 => k_mem)); k_whole))
  k_with "call ref" => ((k_here; (with_reducible show wpAny _ _ (call (Value.ref _) []) _ _ _); k_dflt (refine' acc_mwLen ?Fq9 ?Xq9 ?Nq9 ?uq9 ?mq9 ?_; (case Fq9 => k_asm); (case Xq9 => assumption); (case Nq9 => k_asm); (case uq9 => k_mem); (case mq9 => k_mem)); k_whole; intro _ _))
  k_with "call ref" => ((k_here; (with_reducible show wpAny _ _ (call (Value.ref _) []) _ _ _); k_dflt (refine' acc_mwInit ?Fq9 ?Xq9 ?Nq9 ?uq9 ?mq9 ?_; (case Fq9 => k_asm); (case Xq9 => assumption); (case Nq9 => k_asm); (case uq9 => k_mem); (case mq9 => k_updF)); k_whole; intro _ _ _ _))
  k_with "call builtin:list.append" => ((k_here; k_dflt (refine' acc_append ?Fq9 ?Xq9 ?Nq9 ?Uq9 ?lq9 ?zq9 ?_; (case Fq9 => k_asm); (case Xq9 => assumption); (case Nq9 => k_asm); (case Uq9 => k_updF); (case lq9 => k_is); (case zq9 => omega)); k_whole; intro _ _ _ _))
  k_with "subscriptTail" => ((k_here; (with_reducible show wpAny _ _ (subscriptTail _ _ (Value.ref _) (Value.ref _)) _ _ _); k_dflt (refine' acc_slice ?Fq9 ?Xq9 ?Nq9 ?mq9 ?lq9 ?nq9 ?fq9 ?plq9 ?puq9 ?zq9 ?_ ?hsq9 ?htq9; (case Fq9 => k_asm); (case Xq9 => assumption); (case Nq9 => k_asm); (case mq9 => k_mem); (case lq9 => k_is); (case nq9 => k_is); (case fq9 => k_is); (case plq9 => first | exact .none | exact .int _ _); (case puq9 => first | exact .none | exact .int _ _); (case zq9 => omega); (case hsq9 => with_unfolding_all rfl); (case htq9 => (intro _; with_unfolding_all rfl))); k_whole; intro _ _ _ _ l1q9; (try k_lt l1q9); (try (revert l1q9; intro _))))
  k_with "setItem ref ref" => ((k_here; (with_reducible show wpAny _ _ (setItem (Value.ref _) (Value.ref _) (Value.ref _)) _ _ _); k_dflt (refine' acc_store ?Fq9 ?Xq9 ?Nq9 ?Uq9 ?lq9 ?nq9 ?fq9 ?yq9 ?xyq9 ?plq9 ?puq9 ?zq9 ?_; (case Fq9 => k_asm); (case Xq9 => assumption); (case Nq9 => k_asm); (case Uq9 => k_updF); (case lq9 => k_is); (case nq9 => k_is); (case fq9 => k_is); (case yq9 => k_mem); (case xyq9 => k_ne); (case plq9 => first | exact .none | exact .int _ _); (case puq9 => first | exact .none | exact .int _ _); (case zq9 => ((try simp); omega))); k_whole; intro _ _ _ _))
  k_with "setAttr ref" => ((k_here; (with_reducible show wpAny _ _ (setAttr (Value.ref _) _ _) _ _ _); k_dflt (refine' acc_setAttr ?Fq9 ?Xq9 ?Nq9 ?mq9 ?Uq9 ?cq9 ?mrq9 ?hdq9 ?sq9 ?tq9 ?lq9 ?eq9 ?zq9 ?_; (case Fq9 => k_asm); (case Xq9 => assumption); (case Nq9 => k_asm); (case mq9 => k_mem); (case Uq9 => k_updF); (case cq9 => k_is); (case mrq9 => exact rfl); (case hdq9 => exact rfl); (case sq9 => k_is); (case tq9 => k_is); (case lq9 => k_get); (case eq9 => k_put); (case zq9 => exact Nat.le_of_ble_eq_true rfl)); k_whole; intro _ _ _; (try k_sweep)))
  k_with "getAttr ref" => ((k_here; (with_reducible show wpAny _ _ (getAttr (Value.ref _) _ _) _ _ _); k_dflt (refine' acc_getAttr ?Fq9 ?Xq9 ?Nq9 ?mq9 ?dq9 ?gaq9 ?gtq9 ?lq9 ?hhq9 ?haq9 ?hnq9 ?hgq9 ?hvq9 ?_; (case Fq9 => k_asm); (case Xq9 => assumption); (case Nq9 => k_asm); (case mq9 => k_mem); (case dq9 => k_mem); (case gaq9 => k_is); (case gtq9 => k_is); (case lq9 => k_is); (case hhq9 => k_is); (case haq9 => k_is); (case hnq9 => k_is); (case hgq9 => k_get); (case hvq9 => k_handed)); k_whole))
  k_with "wpAt" => ((dsimp only; ks_step "execs cons"; refine ks_wpAt_execs_cons ?_))
  k_with "wpAt" => (((try dsimp only); ks_step "exec Expr"; k_dflt (refine ks_wpAt_Expr_any ?_ (by rfl) (by rfl))))
  k_with "wpAt" => (((try dsimp only); ks_step "eval Call"; k_dflt (refine ks_wpAt_MethodCall ?_)))
  k_with "eval ListComp" => ((k_here; (with_reducible show wpAny _ _ (eval (Expr.ListComp _ [⟨Expr.Name _ _, _, [_], _⟩] _ _) _) _ _ _); k_dflt (refine LCt.ListComp_T (F₀ := by k_asm) (by with_unfolding_all rfl) (by decide) (by rfl) (by decide) (by rfl) ?_)))
  k_with "eval ListComp" => ((k_here; (with_reducible show wpAny _ _ (eval (Expr.ListComp _ [⟨Expr.Name _ _, _, [], _⟩] _ _) _) _ _ _); k_dflt (first | refine LCg.ListComp_U (F₀ := by k_asm) (by with_unfolding_all rfl) (by decide) (by rfl) (by decide) (by rfl) ?_ | refine ListComp_X (by with_unfolding_all rfl) (by rfl) (by decide) ?_ (by intro _; with_unfolding_all rfl))))
  k_with "pyIter ref" => ((k_here; (with_reducible show wpAny _ _ (pyIter (Value.ref _)) (fun it s₂ => wpAny _ _ (newList []) _ _ _) _ _); k_whole; refine Hold.of ?_))
  k_with "CompSrcT" => ((k_here; k_whole; refine Hold.of ?_))
  k_with "CompSrc" => ((k_here; k_whole; refine Hold.of ?_))
  k_with "subscriptTail" => ((k_here; (with_reducible show wpAny _ _ (subscriptTail _ _ (Value.ref _) (Value.int _ _)) _ _ _); k_dflt (refine' item_anyK ?k1q9 ?k2q9 ?k3q9 ?k4q9 ?k5q9 ?_ ?k6q9; (case k1q9 => exact News.isList (by k_asm) (by k_mem)); (case k2q9 => with_reducible assumption); (case k3q9 => omega); (case k4q9 => omega); (case k5q9 => omega); (case k6q9 => with_unfolding_all rfl); k_whole); intro _))
  trivial
/-- the stop after a run of blanks -/
def stopL (sz run : Int) : List Int := (rangeKs (run + 1) sz.toNat).filter (fun k => k.fmod sz == 0)
def stopAt (sz run : Int) : Int := (stopL sz run).getD 0 0
def stopRow (sz : Int) (top : Nat) : List Int := (rangeKs 0 (top + 1)).map (stopAt sz)
def stopsV (sz runs more : Int) (top : Nat) : List Int := 0 :: (rangeKs 1 top).map (fun x => ((rangeKs 0 runs.toNat).map (fun k => (stopRow sz top).getD (x - k.fmod 2).toNat 0)).sum + more)
theorem stopL_pos (sz run : Int) (h : 1 ≤ sz ∧ sz ≤ 4) : 0 < (stopL sz run).length := by
  apply List.length_pos_of_mem (a := run + sz - run % sz)
  refine List.mem_filter.mpr ⟨?_, ?_⟩
  · have h0 := Int.emod_nonneg run (show sz ≠ 0 by omega)
    have h1 := Int.emod_lt_of_pos run (show 0 < sz by omega)
    exact List.mem_map.mpr ⟨(sz - run % sz - 1).toNat, List.mem_range.mpr (by omega), by omega⟩
  · rw [Int.fmod_eq_emod_of_nonneg _ (by omega), beq_iff_eq]
    obtain ⟨h1, h2⟩ := h
    have : sz = 1 ∨ sz = 2 ∨ sz = 3 ∨ sz = 4 := by omega
    rcases this with rfl | rfl | rfl | rfl <;> omega
def stopF (sz runs more : Int) (top : Nat) (x : Int) : Int := ((rangeKs 0 runs.toNat).map (fun k => (stopRow sz top).getD (x - k.fmod 2).toNat 0)).sum + more
theorem storeCell_X {M : Model} {A : Around} {E : Value → Shared → Prop} {s : Shared} {env : Env} {h₀ : Heap} {L : Addr} {m : Str → Option Value} {x : Str} {v : Value} {Q : Unit → Shared → Prop} {news : List (Addr × Obj)} {g : Obj → List (Addr × Obj)} {c : Addr} {o : Obj} {v₀ : Option Value}
    (F : Fr h₀ L s.heap m) (N : News h₀ L s.heap news) (hc : env.cells.lookup x = some c) (U : UpdF c o news g) (hd : o.data = .cell v₀)
    (h : ∀ h' o', Fr h₀ L h' m → News h₀ L h' (g o') → o'.data = .cell (some v) → Q () { s with heap := h' }) (hk : env.scope.kind = .function) (hx : env.kindOf x = some .cell) : wpAny M A (storeName env x v) Q E s := by
  obtain ⟨own, rest, rfl, hg, h1, h2⟩ := U.split
  have hmem := N (c, o) (List.mem_append_right _ (.head _))
  refine wpAny_storeName_cell hk hx hc ⟨o, hmem.1, hd⟩ fun h' hv hs => ?_
  obtain ⟨o', ho', hd'⟩ := hv
  refine h h' o' ⟨F.ns.sameBut hs (Ne.symm hmem.2.1), fun b ob e => (hs.2 b (fun q => ?_)).trans (F.keep b ob e), F.above⟩ (hg o' ▸ N.setAt h1 h2 hs ho') hd'
  rw [q, hmem.2.2] at e; cases e
theorem rangeKs_snoc (a : Int) (n : Nat) : rangeKs a (n + 1) = rangeKs a n ++ [a + (n : Int)] := by
  simp [rangeKs, List.range_succ]
theorem stops_con (w : World) (mean : ExcName → Option Value) (mg mb : Str → Option Value) (top : Nat) (sz runs more : Int) (r : Addr) (t0 t1 t2 t3 : Tok)
    (hh : top ≤ 14) (hsz : 1 ≤ sz ∧ sz ≤ 4) (hruns : 1 ≤ runs ∧ runs ≤ 3) (hmore : 0 ≤ more ∧ more ≤ 2) :
    Con 20 w mean mg mb 195 [.int top t0, .ref r] [(r, tup3 sz runs more t1 t2 t3)] (fun tl v => ∃ y us n', IntsAre us (stopsV sz runs more top) ∧ v = .ref y ∧ tl = [(y, W.listOf us.toArray n'), (r, tup3 sz runs more t1 t2 t3)]) := by
  walk_at "c.start"
  refine abs1 ?_
  intro X8 hX8
  k_steps
  refine Hold.on ?_
  refine LCg.CompSrc.range (n := top + 1) (by rfl) (by k_asm) (by k_asm) (by assumption) (small_one (by omega) (by omega) (by omega) (by omega)) (by rw [rangeSize_nat]; omega) (by rw [sizeLine_eq]; omega) ?_
  intro g9
  refine' kcf_range (stopAt sz) (fun k' t' I' oI' C' oC' D' m' ys' h' tk' E' hlo' hhi' hC' hx' F8 N8 off' ne' mk => ?_) ?_
  · simp only [LCg.Off3, and_true] at off'
    k_steps
    refine Hold.on ?_
    refine LCt.CompSrcT.range (n := sz.toNat) (by rfl) (by k_asm) (by k_asm) (by assumption) (small_one (by omega) (by omega) (by omega) (by omega)) (by rw [rangeSize_nat]; congr 1; omega) (by rw [sizeLine_eq]; omega) ?_
    intro g7
    refine' kci_range (fun l x => if (x.fmod sz == 0) = true then l ++ [x] else l) (fun k6 t6 I6 oI6 C6 oC6 D6 m6 ys6 l6 h6 tk6 E6 hlo6 hhi6 hI6 hC6 hx6 F6 N6 off6 ne6 mk6 => ?_) ?_ ?_
    · k_steps
      · exact ⟨_, _, _, rfl, F6, N6, off6, trivial, kci_el (if_pos (by rw [beq_iff_eq]; assumption)) rfl rfl⟩
      · exact ⟨_, _, _, rfl, F6, N6, off6, trivial, kci_no (if_neg (by rw [beq_iff_eq]; assumption)) rfl⟩
    · intro ys5 hy5 hyl5 D5 h5 tk5 F5 N5 off5
      rw [fold_pick] at hy5
      have hy6 : IntsAre ys5 (stopL sz k') := hy5
      have hpos := stopL_pos sz k' hsz
      clear hy5
      k_steps
      exact kcf_el rfl rfl rfl
    · intro l k
      show (if _ then _ else _ : List Int).length ≤ _
      split
      · simp
      · omega
  · intro ys hy D8 h8 tk8 F8 N8 off8
    simp only [LCg.Off1, and_true] at off8
    k_steps
    refine Hold.on ?_
    k_sweep
    with_reducible rename IsRange _ _ _ _ _ _ _ _ => lR
    with_reducible rename Fr _ _ _ _ => lF
    with_reducible rename News _ _ _ _ => lN
    refine listcomp_cell (fun i ys => IntsAre ys ((rangeKs 1 i).map (stopF sz runs more top))) (by rfl) lR (small_one (by omega) (by omega) (by omega) (by omega)) (by omega) lF lN (fun C => rfl) .nil ?_ ?_
    · rintro I C D hnI hID hDC i ys1 o1 vv h9 tk9 oI oC m9 u9 E9 hi9 hys ho1 hC9 F9 N9
      simp only [List.mem_cons, List.not_mem_nil, forall_eq_or_imp, or_false, forall_eq] at hnI
      refine wpAny_assign_Name (storeCell_X (c := C + 1) F9 N9 (by rfl) (by k_updF) ho1 ?_ (by rfl) (by rfl))
      intro h8 o8 F8 N8 d8
      refine wpAny_tests_nil ?_
      simp only [if_true]
      clear lF lN N9 ho1
      k_steps
      refine Hold.on ?_
      have hrl : (stopRow sz top).length = top + 1 := by simp [stopRow, rangeKs_length]
      have hys' : IntsAre ys (stopRow sz top) := hy
      clear hy
      refine LCg.CompSrc.range (n := runs.toNat) (by rfl) (by k_asm) (by k_asm) (by assumption) (small_one (by omega) (by omega) (by omega) (by omega)) (by rw [rangeSize_nat]; congr 1; omega) (by rw [sizeLine_eq]; omega) ?_
      intro g7
      refine' kcf_range (fun k => (stopRow sz top).getD (1 + (i : Int) - k.fmod 2).toNat 0) (fun k6 t6 I6 oI6 C6 oC6 D6 m6 ys6 h6 tk6 E6 hlo6 hhi6 hC6 hx6 F6 N6 off6 ne6 mk6 => ?_) ?_
      · have hm0 : 0 ≤ k6.fmod 2 := by rw [fmod_lit]; omega
        have hm1 : k6.fmod 2 ≤ 1 := by rw [fmod_lit]; omega
        k_steps
      · intro ys5 hy5 D5 h5 tk5 F5 N5 off5
        k_steps
        with_reducible rename Fr _ _ _ _ => lF
        with_reducible rename News _ _ _ _ => lN
        refine ⟨_, _, _, _, _, rfl, hC9, lF, (fun p hp => lN p (List.mem_cons_of_mem _ hp)), ⟨_, d8⟩, ?_⟩
        show IntsAre (ys1 ++ [_]) ((rangeKs 1 (i + 1)).map (stopF sz runs more top))
        rw [rangeKs_snoc, List.map_append]
        exact IntsAre.append hys (.cons _ _ .nil)
    · rintro D ys1 h9 tk9 hys hnD F9 N9
      simp only [List.mem_cons, List.not_mem_nil, forall_eq_or_imp, or_false, forall_eq] at hnD
      clear lF lN
      rw [show ((top : Int) + 1 - 1).toNat = top by omega] at hys
      k_steps
      with_reducible rename IntsAre _ _ => lI
      have lI' : IntsAre _ (stopsV sz runs more top) := lI
      refine hX8 _ _ ?_
      refine' LeaveC.intro [(_, W.listOf _ 0), (r, tup3 sz runs more t1 t2 t3)] ?F ?N ⟨_, _, _, lI', rfl, rfl⟩
      (case F => k_asm)
      (case N => (refine' cb_drop ?A ?B; (case A => k_asm); (case B => lcg_sub)))
end
section
theorem rowsA21_0 : True := by
  w_top off
  k_with_none
  trivial
section
variable {prog : Program} {w : World} {A : Around} {E : Value → Shared → Prop} {s : Shared} {h₀ : Heap} {L : Addr} {m : Str → Option Value} {env : Env} {Q : Value → Shared → Prop} {news : List (Addr × Obj)}
abbrev testsOf (ifs : List Expr) (env : Env) : Sem Bool := forIn ifs true fun c r => if r = true then do let ok ← isTrue c env (eval c env); pure (ForInStep.yield ok) else pure (ForInStep.yield r)
theorem cgo_loop {elt target iter : Expr} {ifs : List Expr} {scope : Scope} {pos : Pos} {it acc : Value} {env : Env} {R : Result → Shared → Prop} (I : Nat → Shared → Prop)
    (turn : ∀ n s, I n s → wpAny (model prog w) A (pyNext it) (fun r s₁ => match r with
      | none => R (.ok .next) s₁
      | some v => wpAny (model prog w) A (letOwnedTupleGo target it v) (fun _ s₀ => wpAny (model prog w) A (assign target env v) (fun _ s₂ =>
          wpAny (model prog w) A (testsOf ifs env) (fun ok s₃ => if ok = true then wpAny (model prog w) A (eval elt env) (fun x s₄ =>
            wpAny (model prog w) A (call (.builtin "list.append") [acc, x]) (fun _ s₅ => ∃ m, m < n ∧ I m s₅) (notedBy (model prog w) A env fun e s' => R (.error e) s') s₄) (notedBy (model prog w) A env fun e s' => R (.error e) s') s₃
            else ∃ m, m < n ∧ I m s₃) (notedBy (model prog w) A env fun e s' => R (.error e) s') s₂)
          (notedBy (model prog w) A env fun e s' => R (.error e) s') s₀) (notedBy (model prog w) A env fun e s' => R (.error e) s') s₁) (notedBy (model prog w) A env fun e s' => R (.error e) s') s)
    (n : Nat) (h : I n s) : codeAny (model prog w) A (.compLoop (.ListComp elt [⟨target, iter, ifs, 0⟩] scope pos) 0 it acc env) R s := by
  refine codeAny_loop rfl I (fun n s hI => ?_) n h
  show wpAny _ A ((compTurn (.ListComp elt [⟨target, iter, ifs, 0⟩] scope pos) 0 it acc env).onRaise (fun x => do noteFrame x env; theTreesLotGoes x)) _ _ s
  refine wpAny_noted ?_
  rw [compTurn_list]
  refine wpAny_bind (wpAny_standAt (wpAny_bind (wpAny_mono (turn n s hI) (fun r s₁ h₁ => ?_) fun _ _ h' => h')))
  cases r with
  | none => exact wpAny_pure h₁
  | some v =>
    refine wpAny_bind (wpAny_mono h₁ (fun _ s₀ h₀' => ?_) fun _ _ h' => h')
    refine wpAny_bind (wpAny_mono h₀' (fun _ s₂ h₂ => ?_) fun _ _ h' => h')
    refine wpAny_bind (wpAny_mono h₂ (fun okb s₃ h₃ => ?_) fun _ _ h' => h')
    cases okb with
    | false => exact wpAny_pure ⟨rfl, h₃⟩
    | true => exact wpAny_bind (wpAny_bind (wpAny_mono h₃ (fun x s₄ h₄ => wpAny_bind (wpAny_mono h₄ (fun _ s₅ h₅ => wpAny_pure (wpAny_pure ⟨rfl, h₅⟩)) fun _ _ h' => h')) fun _ _ h' => h'))
structure Mv (wr : Addr → Prop) (G : Array GenState → Array GenState → Prop) (s s' : Shared) : Prop where
  heap : ∀ b o, ¬ wr b → s.heap.get? b = some o → s'.heap.get? b = some o
  gens : G s.gens s'.gens
  drawn : s'.drawn = s.drawn
  os : s'.os = s.os
/-- a walk by an iterator that hands pairs over and may turn generators -/
abbrev Lives (P : Addr) (h : Heap) : Prop := ∃ o, h.get? P = some o
structure WalksP (prog : Program) (w : World) (A : Around) (I P : Addr) (X wr : Addr → Prop) (G : Array GenState → Array GenState → Prop) (n : Nat) (Pt : Nat → Array Value → Prop) (St : Nat → Shared → Prop) (Mid : Nat → Addr → Shared → Prop) : Prop where
  grefl : ∀ a, G a a
  gtrans : ∀ a b c, G a b → G b c → G a c
  frame : ∀ i (s : Shared) h' tk, St i s → (∀ b o, ¬ X b → s.heap.get? b = some o → h'.get? b = some o) → (Lives P s.heap → Lives P h') → St i { s with heap := h', toks := tk }
  item : ∀ i (s : Shared) (Q : Option Value → Shared → Prop) (E : Value → Shared → Prop), i < n → St i s →
    (∀ T vals s', Pt i vals → s'.heap.IsTuple T vals → Mid i T s' → Mv wr G s s' → Q (some (.ref T)) s') → wpAny (model prog w) A (pyNext (.ref I)) Q E s
  go : ∀ (elts : List Expr) (k : Nat) (pos : Pos) i T vals (s : Shared) (Q : Unit → Shared → Prop) (E : Value → Shared → Prop), Mid i T s → s.heap.IsTuple T vals →
    (∀ s', St (i + 1) s' → s'.heap.IsTuple T vals → Mv wr G s s' → Q () s') → wpAny (model prog w) A (letOwnedTupleGo (.Tuple elts k pos) (.ref I) (.ref T)) Q E s
  done : ∀ (s : Shared) (Q : Option Value → Shared → Prop) (E : Value → Shared → Prop), St n s → (∀ s', Mv wr G s s' → Q none s') → wpAny (model prog w) A (pyNext (.ref I)) Q E s
  self : ∀ i (s : Shared) (Q : Value → Shared → Prop) (E : Value → Shared → Prop), St i s → Q (.ref I) s → wpAny (model prog w) A (pyIter (.ref I)) Q E s
theorem WalksT.toP (P : Addr) {I : Addr} {fp wr : List Addr} {n : Nat} {Pt : Nat → Array Value → Prop} {St : Nat → Heap → Prop} {Mid : Nat → Addr → Heap → Prop} (W : WalksT prog w A I fp wr n Pt St Mid) :
    WalksP prog w A I P (fun b => b ∉ fp) (fun b => b ∈ wr) (fun a b => b = a) n Pt (fun i s => St i s.heap) (fun i T s => Mid i T s.heap) where
  grefl := fun _ => rfl
  gtrans := fun a b c h1 h2 => by rw [h2, h1]
  frame := fun i s h' tk hst hk _ => W.frame i _ _ hst fun b hb o e => hk b o (fun q => q hb) e
  item := fun i s Q E hi hst hQ => W.item i s Q E hi hst fun T vals h' tk hP _ hT hM hk => hQ T vals _ hP hT hM ⟨hk, rfl, rfl, rfl⟩
  go := fun elts k pos i T vals s Q E hM hT hQ => W.go elts k pos i T s Q E hM fun h' hst hk => hQ _ hst (hT.at fun o e => hk _ o (W.apart i T _ hM) e) ⟨hk, rfl, rfl, rfl⟩
  done := fun s Q E hst hQ => W.done s Q E hst fun h' tk hk => hQ _ ⟨hk, rfl, rfl, rfl⟩
  self := fun i s Q E hst hQ => W.self i s Q E hst hQ
theorem Mv.eq {wr : Addr → Prop} {G : Array GenState → Array GenState → Prop} {s s' : Shared} (M : Mv wr G s s') : s' = { s with heap := s'.heap, toks := s'.toks, gens := s'.gens } := by
  obtain ⟨h', g', d', tk', os'⟩ := s'
  obtain ⟨_, _, e1, e2⟩ := M
  dsimp only at e1 e2
  subst e1 e2
  rfl
theorem mv_fr {wr : Addr → Prop} {G : Array GenState → Array GenState → Prop} {s s' : Shared} (M : Mv wr G s s') (hL : ¬ wr L) (hw : ∀ b, wr b → h₀.get? b = none) (F : Fr h₀ L s.heap m) : Fr h₀ L s'.heap m :=
  ⟨F.ns.at' fun o e => M.heap L o hL e, fun b o e => M.heap b o (fun hm => by rw [hw b hm] at e; cases e) (F.keep b o e), F.above⟩
theorem mv_news {wr : Addr → Prop} {G : Array GenState → Array GenState → Prop} {s s' : Shared} {nw : List (Addr × Obj)} (M : Mv wr G s s') (off : ∀ p ∈ nw, ¬ wr p.1) (N : News h₀ L s.heap nw) : News h₀ L s'.heap nw :=
  fun p hp => ⟨M.heap _ _ (off p hp) (N p hp).1, (N p hp).2⟩
/-- what an expression's walk leaves that writes nothing -/
def KeepJ (s₁ : Shared) (P : Prop) (s₂ : Shared) : Prop := (∃ h' tk, s₂ = { s₁ with heap := h', toks := tk } ∧ ∀ b o, s₁.heap.get? b = some o → h'.get? b = some o) ∧ P
theorem comp_pairs {elt iter : Expr} {ifs : List Expr} {x x₂ : Str} {px px₂ tp : Pos} {kk : Nat} {scope : Scope} {cl : List (Str × Addr)} {pos : Pos} {I C D : Addr} {X wr : Addr → Prop} {G : Array GenState → Array GenState → Prop} {n : Nat} {Pt : Nat → Array Value → Prop} {St : Nat → Shared → Prop} {Mid : Nat → Addr → Shared → Prop}
    (W : WalksP prog w A I C X wr G n Pt St Mid) (hh : A.handled = none) (hsz : ∀ i vals, Pt i vals → ∃ a b, vals = #[a, b]) (hxx : x ≠ x₂) (hx : scope.names.lookup x = some .local) (hx₂ : scope.names.lookup x₂ = some .local) (hkind : scope.kind = .function)
    (J : Nat → List Value → Prop) (hn : n ≤ 1000) (hst : St 0 s) (hXC : X C) (hXD : X D) (hfCw : ¬ wr C) (hfDw : ¬ wr D) (hwr : ∀ b, wr b → h₀.get? b = none) (hLw : ¬ wr L) (hnw : ∀ p ∈ news, ¬ wr p.1)
    {oC : Obj} {m₂ : Str → Option Value} (hC : LCg.NsObj oC m₂) (hCD : @Ne Nat C D) (F : Fr h₀ L s.heap m) (N : News h₀ L s.heap ((C, oC) :: (D, LCg.lst []) :: news)) (hoff : ∀ p ∈ news, @Ne Nat p.1 C ∧ @Ne Nat p.1 D) (hi : J 0 [])
    (turn : ∀ i ys a b h tk gs m₂ oC (E' : Value → Shared → Prop), i < n → J i ys → G s.gens gs → Pt i #[a, b] → LCg.NsObj oC m₂ → m₂ x = some a → m₂ x₂ = some b → Fr h₀ L h m → News h₀ L h ((C, oC) :: (D, LCg.lst ys) :: news) →
      wpAny (model prog w) A (testsOf ifs (compEnvC scope cl C env)) (fun ok s₂ => if ok = true then wpAny (model prog w) A (eval elt (compEnvC scope cl C env)) (fun y s₃ => KeepJ { s with heap := h, toks := tk, gens := gs } (J (i + 1) (ys ++ [y])) s₃) E' s₂ else KeepJ { s with heap := h, toks := tk, gens := gs } (J (i + 1) ys) s₂) E' { s with heap := h, toks := tk, gens := gs })
    (done : ∀ ys h tk gs, J n ys → G s.gens gs → Fr h₀ L h m → News h₀ L h ((D, LCg.lst ys) :: news) → Q (.ref D) { s with heap := h, toks := tk, gens := gs }) :
    codeAny (model prog w) A (.compLoop (.ListComp elt [⟨.Tuple [.Name x px, .Name x₂ px₂] kk tp, iter, ifs, 0⟩] scope pos) 0 (.ref I) (.ref D) (compEnvC scope cl C env)) (compPost (model prog w) A E none Q (.ref D) C) s := by
  have offw : ∀ {oC : Obj} {ys : List Value}, ∀ p ∈ (C, oC) :: (D, LCg.lst ys) :: news, ¬ wr p.1 := fun p hp => by
    rcases List.mem_cons.mp hp with rfl | hp
    · exact hfCw
    rcases List.mem_cons.mp hp with rfl | hp
    · exact hfDw
    · exact hnw p hp
  have hp : ((compEnvC scope cl C env).scope.kind == .class || ((compEnvC scope cl C env).scope.kind == .module && (compEnvC scope cl C env).locals != (compEnvC scope cl C env).globals)) = false := by simp [compEnvC, relabel, hkind]
  refine cgo_loop (fun k s' => ∃ i ys oC m₂, k = n - i ∧ i ≤ n ∧ s'.drawn = s.drawn ∧ s'.os = s.os ∧ G s.gens s'.gens ∧ St i s' ∧ J i ys ∧ ys.length ≤ i ∧ LCg.NsObj oC m₂ ∧ Fr h₀ L s'.heap m ∧ News h₀ L s'.heap ((C, oC) :: (D, LCg.lst ys) :: news)) ?_ n
    ⟨0, [], oC, m₂, rfl, Nat.zero_le _, rfl, rfl, W.grefl _, hst, hi, Nat.le_refl _, hC, F, N⟩
  rintro k s' ⟨i, ys, oC', m', rfl, hin, hd, ho, hg, hst', hj, hyl, hC', F', N'⟩
  by_cases hlt : i < n
  · refine W.item i s' _ _ hlt hst' fun T vals s₁ hP hT hM M₁ => ?_
    obtain ⟨a, b, rfl⟩ := hsz i vals hP
    refine W.go _ _ _ i T _ s₁ _ _ hM hT fun s₂ hst₂ hT₂ M₂ => ?_
    have F₂ := mv_fr M₂ hLw hwr (mv_fr M₁ hLw hwr F')
    have N₂ := mv_news M₂ offw (mv_news M₁ offw N')
    have zC := N₂ (C, oC') List.mem_cons_self
    refine kcp_assign hh hT₂ (lookup_relabel_local hx) (lookup_relabel_local hx₂) hp (hC'.ns zC.1) fun h₃ tk₃ hns₃ hk₃ => ?_
    obtain ⟨oC₃, heC₃, hoC₃⟩ := LCg.ns_obj hns₃
    have F₃ : Fr h₀ L h₃ m := fr_off (wr := [C]) F₂ (fun b o hb e => hk₃ b o (fun q => hb (List.mem_singleton.mpr q)) e) (by simpa using Ne.symm zC.2.1) (by simpa using zC.2.2)
    have N₃ : News h₀ L h₃ ((C, oC₃) :: (D, LCg.lst ys) :: news) := fun p hp => by
      rcases List.mem_cons.mp hp with rfl | hp
      · exact ⟨heC₃, zC.2⟩
      · have z := N₂ p (List.mem_cons_of_mem _ hp)
        refine ⟨hk₃ _ _ ?_ z.1, z.2⟩
        rcases List.mem_cons.mp hp with rfl | hp
        · exact Ne.symm hCD
        · exact (hoff p hp).1
    have hst₃ : St (i + 1) { s₂ with heap := h₃, toks := tk₃ } := W.frame _ _ _ _ hst₂ (fun b o hb e => hk₃ b o (fun q => hb (by have q' : b = C := q; rw [q']; exact hXC)) e) fun _ => ⟨_, heC₃⟩
    have e₃ : ({ s₂ with heap := h₃, toks := tk₃ } : Shared) = { s with heap := h₃, toks := tk₃, gens := s₂.gens } := by
      rw [M₂.eq, M₁.eq]
      show Shared.mk _ _ _ _ _ = Shared.mk _ _ _ _ _
      rw [hd, ho]
    have hg₃ : G s.gens s₂.gens := W.gtrans _ _ _ hg (W.gtrans _ _ _ M₁.gens M₂.gens)
    have fin : ∀ (y : Option Value) s₄, KeepJ { s with heap := h₃, toks := tk₃, gens := s₂.gens } (J (i + 1) (ys ++ y.toList)) s₄ → ∃ h' tk', s₄ = { s with heap := h', toks := tk', gens := s₂.gens } ∧ St (i + 1) { s with heap := h', toks := tk', gens := s₂.gens } ∧ J (i + 1) (ys ++ y.toList) ∧ Fr h₀ L h' m ∧ News h₀ L h' ((C, oC₃) :: (D, LCg.lst ys) :: news) := by
      rintro y s₄ ⟨⟨h', tk', rfl, hk⟩, hj'⟩
      refine ⟨h', tk', rfl, ?_, hj', F₃.keeps hk, N₃.grown hk⟩
      rw [e₃] at hst₃
      exact W.frame _ _ _ _ hst₃ (fun b o _ e => hk b o e) fun q => ⟨_, hk _ _ q.choose_spec⟩
    rw [e₃]
    refine wpAny_mono (turn i ys a b h₃ tk₃ s₂.gens _ oC₃ _ hlt hj hg₃ hP hoC₃ (by simp [hxx]) (by simp) F₃ N₃) (fun ok s₄ h₄ => ?_) fun _ _ e => e
    cases ok with
    | false =>
      simp only [Bool.false_eq_true, if_false] at h₄ ⊢
      obtain ⟨h', tk', rfl, hst₄, hj₄, F₄, N₄⟩ := fin none s₄ (by simpa using h₄)
      exact ⟨n - (i + 1), by omega, i + 1, ys, oC₃, _, rfl, hlt, rfl, rfl, hg₃, hst₄, by simpa using hj₄, Nat.le_succ_of_le hyl, hoC₃, F₄, N₄⟩
    | true =>
      simp only [if_true] at h₄ ⊢
      refine wpAny_mono h₄ (fun y s₅ h₅ => ?_) fun _ _ e => e
      obtain ⟨h', tk', rfl, hst₄, hj₄, F₄, N₄⟩ := fin (some y) s₅ h₅
      have zC₄ := N₄ _ List.mem_cons_self
      have zD := N₄ (D, LCg.lst ys) (List.mem_cons_of_mem _ List.mem_cons_self)
      refine append_at (hsz := by show ys.toArray.size ≤ sizeLine; rw [List.size_toArray, sizeLine_eq]; omega) zD.1 fun h₅ hs₅ hD₅ => ?_
      refine ⟨n - (i + 1), by omega, i + 1, ys ++ [y], oC₃, _, rfl, hlt, rfl, rfl, hg₃, W.frame _ _ _ _ hst₄ (fun b o hb e => hs₅.extBut b o (fun q => hb (q ▸ hXD)) e) (fun _ => ⟨_, hs₅.extBut _ _ hCD zC₄.1⟩), hj₄, by simp; omega, hoC₃, F₄.change hs₅ zD.2.1 zD.2.2, fun p hp => ?_⟩
      rcases List.mem_cons.mp hp with rfl | hp
      · exact ⟨hs₅.extBut _ _ hCD zC₄.1, zC₄.2⟩
      rcases List.mem_cons.mp hp with rfl | hp
      · exact ⟨hD₅.trans (congrArg some (LCg.lst_snoc ys y)), zD.2⟩
      · have z := N₄ p (List.mem_cons_of_mem _ (List.mem_cons_of_mem _ hp))
        exact ⟨hs₅.extBut _ _ (hoff p hp).2 z.1, z.2⟩
  · obtain rfl : i = n := by omega
    refine W.done s' _ _ hst' fun s₁ M₁ => ?_
    have F₁ := mv_fr M₁ hLw hwr F'
    have N₁ := mv_news M₁ offw N'
    have zC := N₁ _ List.mem_cons_self
    refine ⟨m', hC'.ns zC.1, fun h'' hs => ?_⟩
    have e₁ : ({ s₁ with heap := h'' } : Shared) = { s with heap := h'', toks := s₁.toks, gens := s₁.gens } := by
      rw [M₁.eq]
      show Shared.mk _ _ _ _ _ = Shared.mk _ _ _ _ _
      rw [hd, ho]
    rw [e₁]
    refine done ys h'' _ _ hj (W.gtrans _ _ _ hg M₁.gens) (F₁.change hs zC.2.1 zC.2.2) fun p hp => ?_
    refine ⟨hs.extBut _ _ ?_ (N₁ p (List.mem_cons_of_mem _ hp)).1, (N₁ p (List.mem_cons_of_mem _ hp)).2⟩
    rcases List.mem_cons.mp hp with rfl | hp
    · exact Ne.symm hCD
    · exact (hoff p hp).1
theorem zip_apart (n l1 l2 : Nat) (h1 : l1 < n) (h2 : l2 < n) : ZipApart (n + 4) (n + 2) (n + 3) n (n + 1) l1 l2 := by
  constructor <;> (show @Ne Nat _ _) <;> omega
theorem zip_pairs {elt iter : Expr} {ifs : List Expr} {x x₂ : Str} {px px₂ tp : Pos} {kk : Nat} {scope : Scope} {cl : List (Str × Addr)} {pos : Pos} {l1 l2 : Addr} {xs ys : Array Value} {n1 n2 : Nat}
    (hh : A.handled = none) (hcells : ∀ n, cellsLed n scope.names = []) (hcl : ∀ n, cellsFrom n scope.names cl = cl) (hxx : x ≠ x₂) (hx : scope.names.lookup x = some .local) (hx₂ : scope.names.lookup x₂ = some .local) (hkind : scope.kind = .function)
    (J : Nat → List Value → Prop) (hn : min xs.size ys.size ≤ 1000) (F : Fr h₀ L s.heap m) (N : News h₀ L s.heap news) (h1 : (l1, W.listOf xs n1) ∈ news) (h2 : (l2, W.listOf ys n2) ∈ news) (hi : J 0 [])
    (turn : ∀ D C, (∀ p ∈ news, @LT.lt Nat _ p.1 D) → @LT.lt Nat _ D C → ∀ i us a b h tk m₂ oC (E' : Value → Shared → Prop), i < min xs.size ys.size → J i us → xs[i]? = some a → ys[i]? = some b → LCg.NsObj oC m₂ → m₂ x = some a → m₂ x₂ = some b → Fr h₀ L h m → News h₀ L h ((C, oC) :: (D, LCg.lst us) :: news) →
      wpAny (model prog w) A (testsOf ifs (compEnvC scope cl C env)) (fun ok s₂ => if ok = true then wpAny (model prog w) A (eval elt (compEnvC scope cl C env)) (fun y s₃ => KeepJ { s with heap := h, toks := tk } (J (i + 1) (us ++ [y])) s₃) E' s₂ else KeepJ { s with heap := h, toks := tk } (J (i + 1) us) s₂) E' { s with heap := h, toks := tk })
    (done : ∀ D us h tk, J (min xs.size ys.size) us → (∀ p ∈ news, @LT.lt Nat _ p.1 D) → Fr h₀ L h m → News h₀ L h ((D, LCg.lst us) :: news) → Q (.ref D) { s with heap := h, toks := tk }) :
    wpAny (model prog w) A (call (.type "zip") [.ref l1, .ref l2]) (fun xv s₁ => wpAny (model prog w) A (pyIter xv) (fun it s₂ => wpAny (model prog w) A (newList []) (fun acc s₃ => wpAny (model prog w) A (newFunctionEnv scope env.globals cl [] env.qual none .none (some env)) (fun cenv s₄ =>
      codeAny (model prog w) A (.compStart (.ListComp elt [⟨.Tuple [.Name x px, .Name x₂ px₂] kk tp, iter, ifs, 0⟩] scope pos) 0 it acc { cenv with scope := relabel scope env }) (compPost (model prog w) A E none Q acc cenv.locals) s₄) E s₃) E s₂) E s₁) E s := by
  have lt1 : @LT.lt Nat _ l1 s.heap.objs.size := Heap.lt_size (N _ h1).1
  have lt2 : @LT.lt Nat _ l2 s.heap.objs.size := Heap.lt_size (N _ h2).1
  refine call_zip_2 (News.isList N h1) (News.isList N h2) fun h' hz hTI hTO hi1 hi2 hsz hk => ?_
  refine wpAny_pyIter_zip hz ?_
  have F1 : Fr h₀ L h' m := F.keeps hk
  have N1 : News h₀ L h' news := N.grown hk
  have apart := zip_apart s.heap.objs.size l1 l2 lt1 lt2
  have fresh₀ : ∀ a, s.heap.objs.size ≤ a → h₀.get? a = none := fun a ha => by
    cases e : h₀.get? a with
    | none => rfl
    | some o' => exact absurd (Heap.lt_size (F.keep a o' e)) (Nat.not_lt.mpr ha)
  have hwr : ∀ b ∈ [s.heap.objs.size + 4, s.heap.objs.size + 3, s.heap.objs.size, s.heap.objs.size + 1], s.heap.objs.size ≤ b := by
    intro b hb
    simp only [List.mem_cons, List.not_mem_nil, or_false] at hb
    rcases hb with rfl | rfl | rfl | rfl <;> (show @LE.le Nat _ _ _) <;> omega
  have hfp : ∀ b ∈ [s.heap.objs.size + 4, s.heap.objs.size + 2, s.heap.objs.size + 3, s.heap.objs.size, s.heap.objs.size + 1, l1, l2], b < s.heap.objs.size + 5 := by
    intro b hb
    simp only [List.mem_cons, List.not_mem_nil, or_false] at hb
    rcases hb with rfl | rfl | rfl | rfl | rfl | rfl | rfl <;> (show @LT.lt Nat _ _ _) <;> omega
  have hsub9 : ∀ b ∈ [s.heap.objs.size + 4, s.heap.objs.size + 3, s.heap.objs.size, s.heap.objs.size + 1], b ∈ [s.heap.objs.size + 4, s.heap.objs.size + 2, s.heap.objs.size + 3, s.heap.objs.size, s.heap.objs.size + 1, l1, l2] := by
    intro b hb
    simp only [List.mem_cons, List.not_mem_nil, or_false] at hb ⊢
    rcases hb with h | h | h | h <;> simp [h]
  refine comp_run (I := s.heap.objs.size + 4) F1 N1 (fun h Q E hk q => wpAny_pyIter_zip (hk _ _ hz) q) fun D C h₁ oC m₂ hD hk₁ hC hDC hnD _ F₁ N₁ => ?_
  have hD' : D = s.heap.objs.size + 5 := hD.trans hsz
  rw [hcells, List.nil_append] at N₁
  rw [hcl]
  have up : ∀ b o, s.heap.get? b = some o → h₁.get? b = some o := fun b o e => hk₁ b o (hk b o e)
  refine comp_pairs (s := { s with heap := h₁ }) (WalksT.toP C (WalksT.zip2 hh _ _ _ _ _ _ _ apart xs ys)) hh (fun i vals hv => by obtain ⟨a, b, _, _, e⟩ := hv; exact ⟨a, b, e⟩) hxx hx hx₂ hkind J hn
    ⟨hk₁ _ _ hz, hk₁ _ _ hTI, ⟨_, _, hk₁ _ _ hTO⟩, hi1.at fun o e => hk₁ _ o e, hi2.at fun o e => hk₁ _ o e, (News.isList N h1).at fun o e => up _ o e, (News.isList N h2).at fun o e => up _ o e⟩
    (fun hm => by have := hfp _ hm; rw [hD'] at hDC; exact Nat.lt_asymm hDC this) (fun hm => by have := hfp _ hm; rw [hD'] at this; exact Nat.lt_irrefl _ this)
    (fun hm => by have := hfp _ (hsub9 _ hm); rw [hD'] at hDC; exact Nat.lt_asymm hDC this) (fun hm => by have := hfp _ (hsub9 _ hm); rw [hD'] at this; exact Nat.lt_irrefl _ this) (fun b hb => fresh₀ b (hwr b hb)) (fun hm => absurd F.ns.lt (Nat.not_lt.mpr (hwr _ hm))) (fun p hp hm => absurd (Heap.lt_size (N p hp).1) (Nat.not_lt.mpr (hwr _ hm)))
    hC (Ne.symm (Nat.ne_of_lt hDC)) F₁ N₁ (fun p hp => ⟨Nat.ne_of_lt (Nat.lt_trans (hnD p hp) hDC), Nat.ne_of_lt (hnD p hp)⟩) hi ?_ ?_
  · intro i us a b h tk gs m' oC' E' hin hj hg hP hC' ha hb F' N'
    obtain ⟨a', b', hxa, hyb, e⟩ := hP
    simp only [Array.mk.injEq, List.cons.injEq, and_true] at e
    obtain ⟨rfl, rfl⟩ := e
    obtain rfl : gs = s.gens := hg
    exact turn D C hnD hDC i us a b h tk m' oC' E' hin hj hxa hyb hC' ha hb F' N'
  · intro us h tk gs hj hg F' N'
    obtain rfl : gs = s.gens := hg
    exact done D us h tk hj hnD F' N'
end
end
section
local macro_rules | `(tactic| k_room) => `(tactic| ktr_room)
theorem rowsA22_0 : True := by
  w_top off
  k_with_none
  k_with "c.enter" => ((first
      | (refine' con_def ?k1q9 ?k2q9 ?k3q9 ?k4q9 ?k5q9 ?kAq9 ?kFq9 ?kKq9 ?k6q9 ?k7q9 ?k8q9 ?k9q9 ?kBq9 ?kRq9 ?_ ?c2q9 ?c3q9 ?c4q9 ?c5q9; (case kAq9 => exact rfl); (case kFq9 => exact rfl); (case kKq9 => assumption); (case k1q9 => k_asm); (case k2q9 => k_asm); (case k3q9 => k_asm); (case k4q9 => k_asm); (case k5q9 => k_asm); (case k6q9 => k_is); (case k7q9 => k_is); (case k8q9 => ktr_room); (case k9q9 => first | exact BindsTo.of_eq rfl | exact binds_K (by k_in) rfl (by k_is) rfl rfl rfl); (case c5q9 => decide); (case kBq9 => exact locs rfl); (case c2q9 => exact rfl); (case c3q9 => exact rfl); (case c4q9 => exact rfl); (case kRq9 => walk_at "c.ret"); k_whole; intro _ _ _ _ _ N'q9 _ _ _ l1q9; (try k_lt l1q9); (try (revert l1q9; intro _)); (try dsimp only); (try k_fold))
      | (refine' con_defC ?k1q9 ?k2q9 ?k3q9 ?k4q9 ?k5q9 ?kAq9 ?kFq9 ?kKq9 ?k6q9 ?k7q9 ?k8q9 ?k9q9 ?kBq9 ?kDq9 ?kRq9 ?_ ?c2q9 ?c3q9 ?c4q9; (case kAq9 => exact rfl); (case kFq9 => exact rfl); (case kKq9 => assumption); (case k1q9 => k_asm); (case k2q9 => k_asm); (case k3q9 => k_asm); (case k4q9 => k_asm); (case k5q9 => k_asm); (case k6q9 => k_is); (case k7q9 => k_is); (case k8q9 => ktr_room); (case k9q9 => first | exact BindsTo.of_eq rfl | exact binds_K (by k_in) rfl (by k_is) rfl rfl rfl); (case kBq9 => exact rfl); (case kDq9 => decide +kernel); (case c2q9 => exact rfl); (case c3q9 => exact rfl); (case c4q9 => exact rfl); (case kRq9 => walk_at "c.ret"); k_whole; intro _ _ _ _ _ _ _ N'q9 Y'q9 _ _ _ l1q9; (try k_lt l1q9); (try (revert l1q9; intro _)); k_cells Y'q9; (try simp only [List.cons_append, List.nil_append] at N'q9); (try dsimp only); (try k_fold))))
  k_with "c.ret" => ((intro _ _ hl9q9; exact con_back (by assumption) (by assumption) (by assumption) (by assumption) hl9q9))
  k_with "c.start" => ((unfold Con; k_fill; intro _ _ _ _ _ _ _ _ _ _ _ _ _ _ _ _ _ Bq9 Fq9 Xq9 Nq9 Tq9 _ _ _ hretq9; refine wpAny_call ?_; k_dflt walk_at "c.enter"; clear hretq9 Nq9 Fq9 Bq9 Xq9 Tq9))
  k_with "c.startCls" => ((unfold Con; k_fill; intro _ _ _ _ _ _ _ _ _ _ _ _ _ _ _ _ _ Bq9 Fq9 Xq9 Nq9 Tq9 _ _ _ hretq9; refine wpAny_call ?_; k_dflt walk_at "c.enterCls"; clear hretq9 Nq9 Fq9 Bq9 Xq9 Tq9))
  k_with "c.enterCls" => ((refine' con_cls ?k1q9 ?k2q9 ?k3q9 ?k5q9 ?kAq9 ?kFq9 ?kKq9 ?m1q9 ?m2q9 ?m3q9 ?k6q9 ?k7q9 ?k8q9 ?k9q9 ?kBq9 ?kRq9 ?_ ?c2q9 ?c3q9 ?c4q9 ?c5q9; (case kAq9 => exact rfl); (case kFq9 => exact rfl); (case kKq9 => assumption); (case k1q9 => k_asm); (case k2q9 => k_asm); (case k3q9 => k_asm); (case k5q9 => k_asm); (case m1q9 => k_is); (case m2q9 => k_is); (case m3q9 => k_is); (case k6q9 => k_is); (case k7q9 => k_is); (case k8q9 => ktr_room); (case k9q9 => intro _ _; exact BindsTo.of_eq rfl); (case c5q9 => decide); (case kBq9 => intro _; exact locs rfl); (case c2q9 => exact rfl); (case c3q9 => exact rfl); (case c4q9 => exact rfl); (case kRq9 => exact con_nil (by assumption)); k_whole; intro _ _ _ _ _ _ l0'q9 _ _ _ _ _ l1q9; (try k_lt2 l0'q9); (try (revert l0'q9; intro _)); (try k_lt2 l1q9); (try (revert l1q9; intro _)); (try dsimp only); (try k_fold)))
  k_with "CompSrc" => ((k_here; k_dflt (refine LCg.CompSrc.range (by rfl) (by k_asm) (by k_asm) (by assumption) (by first | decide | rfl) (by first | rfl | decide) (by first | size_fits | exact Nat.le_of_ble_eq_true rfl) ?_; intro _; lcg_lit)))
  k_with "binaryOp Mult str int" => ((k_here; (refine' r_mul ?haq9 ?hbq9 ?_); (case haq9 => ((try simp only [fmod_lit]); omega)); (case hbq9 => ((try simp only [fmod_lit]); omega)); intro _ _))
  k_with "binaryOp Add str str" => ((k_here; (refine' r_add ?haq9 ?hbq9 ?hcq9 ?_); (case haq9 => first | with_reducible exact S_tab | with_reducible exact S_blank | with_reducible rfl); (case hbq9 => first | with_reducible exact S_tab | with_reducible exact S_blank | with_reducible rfl); (case hcq9 => (simp [sp]; omega)); intro _ _))
  k_with "call builtin:str.join" => ((k_here; (first
      | refine' r_join (ls := [(_, _)]) ?hlq9 ?hiq9 ?hwq9 ?_; (case hlq9 => exact News.isList (by k_asm) (by k_mem)); (case hiq9 => exact rfl)
      | refine' r_join (ls := [(_, _), (_, _)]) ?hlq9 ?hiq9 ?hwq9 ?_; (case hlq9 => exact News.isList (by k_asm) (by k_mem)); (case hiq9 => exact rfl)
      | refine' r_join (ls := [(_, _), (_, _), (_, _)]) ?hlq9 ?hiq9 ?hwq9 ?_; (case hlq9 => exact News.isList (by k_asm) (by k_mem)); (case hiq9 => exact rfl)); (case hwq9 => (simp [sp, fmod_lit]; omega)); intro _ _; (try dsimp only)))
  k_with "call type:tuple" => ((k_here; k_dflt (refine' r_tuple ?Fq9 ?Nq9 ?mq9 ?_ ?zq9; (case Fq9 => k_asm); (case Nq9 => k_asm); (case mq9 => k_mem); (case zq9 => (have hc9 := sizeLine_eq; (have hI9 := IntsAre.length (by assumption)); omega)); k_whole); intro _ _ _ _ l1q9; (try k_lt l1q9); (try (revert l1q9; intro _))))
  k_with "call builtin:len" => ((k_here; (with_reducible show wpAny _ _ (call (Value.builtin "len") [Value.ref _]) _ _ _); k_dflt (refine' r_len_tupI ?Nq9 ?mq9 ?iq9 ?fq9 ?_; (case Nq9 => k_asm); (case mq9 => k_mem); (case iq9 => with_reducible assumption); (case fq9 => omega); k_whole); intro _ _))
  k_with "subscriptTail" => ((k_here; (with_reducible show wpAny _ _ (subscriptTail _ _ (Value.ref _) (Value.int _ _)) _ _ _); k_dflt (refine' r_item_tupI ?Nq9 ?mq9 ?iq9 ?aq9 ?bq9 ?cq9 ?_ ?eq9; (case Nq9 => k_asm); (case mq9 => k_mem); (case iq9 => with_reducible assumption); (case aq9 => omega); (case bq9 => omega); (case cq9 => omega); (case eq9 => with_unfolding_all rfl); k_whole); intro _))
  k_with "pyIter ref" => ((k_here; (with_reducible show wpAny _ _ (pyIter (Value.ref _)) (fun it s₂ => LoopAtV _ _ _ _ _ _ _ _ _ it s₂) _ _); refine Hold.of ?_))
  trivial
local macro_rules | `(tactic| k_inst) => `(tactic| (refine' accInst ?N ?h1 ?h2; (case N => k_asm); (case h1 => k_mem); (case h2 => k_mem)))
theorem rowsA22_1 : True := by
  k_with "c.startS" => ((unfold Con; k_fill; intro _ _ _ _ _ _ _ _ _ _ _ _ _ _ _ _ _ Bq9 Fq9 Xq9 Nq9 Tq9 _ _ _ hretq9; refine wpAny_call ?_; k_dflt walk_at "c.enterS"; clear hretq9 Nq9 Fq9 Bq9 Xq9 Tq9))
  k_with "c.enterS" => ((refine' con_defS ?k1q9 ?k2q9 ?k3q9 ?k4q9 ?k5q9 ?kAq9 ?kFq9 ?kKq9 ?k6q9 ?k7q9 ?k8q9 ?k9q9 ?kBq9 ?kRq9 ?_ ?c2q9 ?c3q9 ?c4q9 ?c5q9; (case kAq9 => exact rfl); (case kFq9 => exact rfl); (case kKq9 => assumption); (case k1q9 => k_asm); (case k2q9 => k_asm); (case k3q9 => k_asm); (case k4q9 => k_asm); (case k5q9 => k_asm); (case k6q9 => k_is); (case k7q9 => k_is); (case k8q9 => ktr_room); (case k9q9 => first | exact BindsTo.of_eq rfl | exact binds_K (by k_in) rfl (by k_is) rfl rfl rfl); (case c5q9 => decide); (case kBq9 => exact locs rfl); (case c2q9 => exact rfl); (case c3q9 => exact rfl); (case c4q9 => exact rfl); (case kRq9 => walk_at "c.ret"); k_whole; intro _ _ _ _ _ _ _ _ _ l1q9; (try k_lt l1q9); (try (revert l1q9; intro _)); (try dsimp only); (try k_fold)))
  k_with "getMethod ref" => ((k_here; (with_reducible show wpAny _ _ (getMethod (Value.ref _) _ _) _ _ _); k_dflt (refine' acc_method ?Fq9 ?Xq9 ?Nq9 ?mq9 ?dq9 ?gaq9 ?cq9 ?gtq9 ?fq9 ?tfq9 ?lq9 ?_; (case Fq9 => k_asm); (case Xq9 => assumption); (case Nq9 => k_asm); (case mq9 => k_mem); (case dq9 => k_mem); (case gaq9 => k_is); (case cq9 => decide +kernel); (case gtq9 => k_is); (case fq9 => k_is); (case tfq9 => first | exact .inl (by k_is) | exact .inr (by k_is)); (case lq9 => rfl)); k_whole))
  k_with "getMethod ref" => ((k_here; (with_reducible show wpAny _ _ (getMethod (Value.ref _) _ _) _ _ _); k_dflt (refine' acc_super ?idq9 ?Fq9 ?Xq9 ?Nq9 ?sq9 ?mq9 ?oq9 ?fq9 ?lq9 ?nq9 ?_; (case Fq9 => k_asm); (case Xq9 => assumption); (case Nq9 => k_asm); (case sq9 => k_mem); (case mq9 => k_mem); (case oq9 => k_is); (case fq9 => ks_is); (case lq9 => k_is); (case nq9 => decide); (case idq9 => first | exact .inl rfl | exact .inr rfl)); k_whole; intro _ _ _ _ l1q9; (try k_lt l1q9); (try (revert l1q9; intro _))))
  k_with "callWith ref" => ((k_here; (with_reducible show wpAny _ _ (callWith _ (Value.ref _) [] _ []) _ _ _); k_dflt (refine' acc_mwWith ?Nq9 ?mq9 ?_; (case Nq9 => k_asm); (case mq9 => k_mem)); k_whole))
  k_with "call ref" => ((k_here; (with_reducible show wpAny _ _ (call (Value.ref _) []) _ _ _); k_dflt (refine' acc_mwLen ?Fq9 ?Xq9 ?Nq9 ?uq9 ?mq9 ?_; (case Fq9 => k_asm); (case Xq9 => assumption); (case Nq9 => k_asm); (case uq9 => k_mem); (case mq9 => k_mem)); k_whole; intro _ _))
  k_with "call ref" => ((k_here; (with_reducible show wpAny _ _ (call (Value.ref _) []) _ _ _); k_dflt (refine' acc_mwInit ?Fq9 ?Xq9 ?Nq9 ?uq9 ?mq9 ?_; (case Fq9 => k_asm); (case Xq9 => assumption); (case Nq9 => k_asm); (case uq9 => k_mem); (case mq9 => k_updF)); k_whole; intro _ _ _ _))
  k_with "call builtin:list.append" => ((k_here; k_dflt (refine' acc_append ?Fq9 ?Xq9 ?Nq9 ?Uq9 ?lq9 ?zq9 ?_; (case Fq9 => k_asm); (case Xq9 => assumption); (case Nq9 => k_asm); (case Uq9 => k_updF); (case lq9 => k_is); (case zq9 => omega)); k_whole; intro _ _ _ _))
  k_with "subscriptTail" => ((k_here; (with_reducible show wpAny _ _ (subscriptTail _ _ (Value.ref _) (Value.ref _)) _ _ _); k_dflt (refine' acc_slice ?Fq9 ?Xq9 ?Nq9 ?mq9 ?lq9 ?nq9 ?fq9 ?plq9 ?puq9 ?zq9 ?_ ?hsq9 ?htq9; (case Fq9 => k_asm); (case Xq9 => assumption); (case Nq9 => k_asm); (case mq9 => k_mem); (case lq9 => k_is); (case nq9 => k_is); (case fq9 => k_is); (case plq9 => first | exact .none | exact .int _ _); (case puq9 => first | exact .none | exact .int _ _); (case zq9 => omega); (case hsq9 => with_unfolding_all rfl); (case htq9 => (intro _; with_unfolding_all rfl))); k_whole; intro _ _ _ _ l1q9; (try k_lt l1q9); (try (revert l1q9; intro _))))
  k_with "setItem ref ref" => ((k_here; (with_reducible show wpAny _ _ (setItem (Value.ref _) (Value.ref _) (Value.ref _)) _ _ _); k_dflt (refine' acc_store ?Fq9 ?Xq9 ?Nq9 ?Uq9 ?lq9 ?nq9 ?fq9 ?yq9 ?xyq9 ?plq9 ?puq9 ?zq9 ?_; (case Fq9 => k_asm); (case Xq9 => assumption); (case Nq9 => k_asm); (case Uq9 => k_updF); (case lq9 => k_is); (case nq9 => k_is); (case fq9 => k_is); (case yq9 => k_mem); (case xyq9 => k_ne); (case plq9 => first | exact .none | exact .int _ _); (case puq9 => first | exact .none | exact .int _ _); (case zq9 => ((try simp); omega))); k_whole; intro _ _ _ _))
  k_with "setAttr ref" => ((k_here; (with_reducible show wpAny _ _ (setAttr (Value.ref _) _ _) _ _ _); k_dflt (refine' acc_setAttr ?Fq9 ?Xq9 ?Nq9 ?mq9 ?Uq9 ?cq9 ?mrq9 ?hdq9 ?sq9 ?tq9 ?lq9 ?eq9 ?zq9 ?_; (case Fq9 => k_asm); (case Xq9 => assumption); (case Nq9 => k_asm); (case mq9 => k_mem); (case Uq9 => k_updF); (case cq9 => k_is); (case mrq9 => exact rfl); (case hdq9 => exact rfl); (case sq9 => k_is); (case tq9 => k_is); (case lq9 => k_get); (case eq9 => k_put); (case zq9 => exact Nat.le_of_ble_eq_true rfl)); k_whole; intro _ _ _; (try k_sweep)))
  k_with "getAttr ref" => ((k_here; (with_reducible show wpAny _ _ (getAttr (Value.ref _) _ _) _ _ _); k_dflt (refine' acc_getAttr ?Fq9 ?Xq9 ?Nq9 ?mq9 ?dq9 ?gaq9 ?gtq9 ?lq9 ?hhq9 ?haq9 ?hnq9 ?hgq9 ?hvq9 ?_; (case Fq9 => k_asm); (case Xq9 => assumption); (case Nq9 => k_asm); (case mq9 => k_mem); (case dq9 => k_mem); (case gaq9 => k_is); (case gtq9 => k_is); (case lq9 => k_is); (case hhq9 => k_is); (case haq9 => k_is); (case hnq9 => k_is); (case hgq9 => k_get); (case hvq9 => k_handed)); k_whole))
  k_with "wpAt" => ((dsimp only; ks_step "execs cons"; refine ks_wpAt_execs_cons ?_))
  k_with "wpAt" => (((try dsimp only); ks_step "exec Expr"; k_dflt (refine ks_wpAt_Expr_any ?_ (by rfl) (by rfl))))
  k_with "wpAt" => (((try dsimp only); ks_step "eval Call"; k_dflt (refine ks_wpAt_MethodCall ?_)))
  k_with "call ref" => ((k_here; (with_reducible show wpAny _ _ (call (Value.ref _) _) _ _ _); k_whole; refine Hold.of ?_))
  k_with "exec While" => ((k_here; k_whole; refine Hold.of ?_))
  k_with "exec While Compare" => ((k_here; k_whole; refine Hold.of ?_))
  k_with "subscriptTail" => ((k_here; (with_reducible show wpAny _ _ (subscriptTail _ _ (Value.ref _) (Value.int _ _)) _ _ _); k_dflt (refine' item_anyK ?k1q9 ?k2q9 ?k3q9 ?k4q9 ?k5q9 ?_ ?k6q9; (case k1q9 => exact News.isList (by k_asm) (by k_mem)); (case k2q9 => with_reducible assumption); (case k3q9 => omega); (case k4q9 => omega); (case k5q9 => omega); (case k6q9 => with_unfolding_all rfl); k_whole); intro _))
  trivial
theorem last_getD (M : List Int) (h : 0 < M.length) : M.getD (-1 + (M.length : Int)).toNat 0 = M.getLastD 0 := by
  rw [show (-1 + (M.length : Int)).toNat = M.length - 1 by omega, List.getLastD_eq_getLast?, List.getLast?_eq_getElem?, List.getD_eq_getElem?_getD]
theorem rowsA22_2 : True := by
  k_with "eval ListComp" => ((k_here; (with_reducible show wpAny _ _ (eval (Expr.ListComp _ [⟨Expr.Tuple _ _ _, _, [_], _⟩] _ _) _) _ _ _); k_dflt (refine ListComp_X (by with_unfolding_all rfl) (by rfl) (by decide) ?_ (by intro _; with_unfolding_all rfl))))
  k_with "call type:zip" => ((k_here; k_whole; refine Hold.of ?_))
  trivial
structure StepS where
  ms : List Value
  ls : List Value
  ss : List Value
  nm : Nat
  nl : Nat
  ns : Nat
  M : List Int
  L : List Int
  S : List Int
def pickM (Ms Ls : List Int) (c : Int) : List Int := ((Ms.zip Ls).filter (fun p => decide (c ≤ p.2))).map (·.1)
def stepsGo (lim : Int → Int) (top : Int) : Nat → List Int → List Int → List Int → List Int
  | 0, _, _, S => S
  | f + 1, M, L, S =>
    if M.getLastD 0 < top then
      let st := (pickM M (L ++ [lim (M.getLastD 0)]) (M.getLastD 0)).headD 0
      stepsGo lim top f (M ++ [M.getLastD 0 + st]) (L ++ [lim (M.getLastD 0)]) (S ++ [st])
    else S
def stepsV (lim : Int → Int) (top : Nat) : List Int := stepsGo lim top top [1] [] [1]
theorem pick_mem (M L : List Int) (c : Int) : ∀ z ∈ pickM M L c, z ∈ M := by
  intro z hz
  obtain ⟨p, hp, rfl⟩ := List.mem_map.mp hz
  obtain ⟨p1, p2⟩ := p
  exact (List.of_mem_zip (List.mem_filter.mp hp).1).1
theorem pick_pos (M L : List Int) (x y : Int) (h : M.length = L.length + 1) (h0 : 0 < M.length) (hxy : x ≤ y) (hx : M.getLastD 0 = x) : 0 < (pickM M (L ++ [y]) x).length := by
  obtain ⟨M0, z, rfl⟩ : ∃ M0 z, M = M0 ++ [z] := ⟨M.dropLast, M.getLast (by intro e; rw [e] at h0; exact Nat.lt_irrefl _ h0), (List.dropLast_concat_getLast _).symm⟩
  have hz : z = x := by rw [← hx]; simp
  subst hz
  have hl : M0.length = L.length := by simpa using h
  unfold pickM
  rw [List.zip_append hl]
  simp [hxy]
theorem getLastD_snoc (M : List Int) (x : Int) : (M ++ [x]).getLastD 0 = x := by simp
theorem getD0_mem (l : List Int) (h : 0 < l.length) : l.getD (Int.toNat 0) 0 ∈ l := by
  cases l with
  | nil => exact absurd h (Nat.lt_irrefl _)
  | cons a r => exact List.mem_cons_self
theorem steps_con (w : World) (mean : ExcName → Option Value) (mg mb : Str → Option Value) (top : Nat) (sz runs more : Int) (r : Addr) (t0 t1 t2 t3 : Tok)
    (hh : top ≤ 14) (hsz : 1 ≤ sz ∧ sz ≤ 4) (hruns : runs = 1 ∨ runs = 2 ∨ runs = 3) (hmore : 0 ≤ more ∧ more ≤ 2) (hlim : ∀ x, 1 ≤ x → x ≤ 14 → x ≤ limitV sz runs.toNat more x) :
    Con 40 w mean mg mb 200 [.int top t0, .ref r] [(r, tup3 sz runs more t1 t2 t3)] (fun tl v => ∃ y us n', IntsAre us (stepsV (limitV sz runs.toNat more) top) ∧ v = .ref y ∧ tl = [(y, W.listOf us.toArray n'), (r, tup3 sz runs more t1 t2 t3)]) := by
  walk_at "c.start"
  refine abs1 ?_
  intro X8 hX8
  k_steps
  refine Hold.on ?_
  with_reducible rename Fr _ _ _ _ => lF
  with_reducible rename News _ _ _ _ => lN
  rename_i dp un gd cn cs a ccd cl outer A₀ base h₀ Lc mc s Q E hk hd hu g L1 h1 tk1 gk B X T l1 o d1 a1 hb1 la1 a2 hb2 la2 a3 hb3 la3 a4 hb4 la4 hb5 hb6 o5 d5 hb7 hb8
  refine while_m (fun mz (c : StepS) z => mz z) (fun c => [(a3, W.listOf c.ss.toArray c.ns), (a2, W.listOf c.ls.toArray c.nl), (a1, W.listOf c.ms.toArray c.nm), (L1 + 1, o5), (r, tup3 sz runs more t1 t2 t3)])
    (fun c => IntsAre c.ms c.M ∧ IntsAre c.ls c.L ∧ IntsAre c.ss c.S ∧ c.M.length = c.L.length + 1 ∧ c.S.length = c.L.length + 1 ∧ (c.L.length : Int) + 1 ≤ c.M.getLastD 0 ∧ c.M.getLastD 0 ≤ 26 ∧ (∀ x ∈ c.M, 1 ≤ x ∧ x ≤ c.M.getLastD 0) ∧ ∃ f : Nat, (top : Int) - c.M.getLastD 0 ≤ f ∧ stepsV (limitV sz runs.toNat more) top = stepsGo (limitV sz runs.toNat more) top f c.M c.L c.S)
    (fun c => ((top : Int) - c.M.getLastD 0).toNat) ⟨[.int 1 tk1], [], [.int 1 (tk1 + 1)], 0, 0, 0, [1], [], [1]⟩ lF (fun p hp => lN p (List.mem_cons_of_mem _ hp)) (fun z => rfl) ?_ ?_
  · refine ⟨.cons _ _ .nil, .nil, .cons _ _ .nil, rfl, rfl, (by show ((0 : Nat) : Int) + 1 ≤ 1; decide), (by show (1 : Int) ≤ 26; decide), ?_, top, ?_, rfl⟩
    · intro x hx
      rw [List.mem_singleton.mp hx]
      exact ⟨Int.le_refl _, Int.le_refl _⟩
    · show (top : Int) - 1 ≤ top
      omega
  · rintro ⟨ms, ls, ss, nm, nl, ns, M, L, S⟩ h tk ⟨iM, iL, iS, eM, eS, hlo, hhi, hall, f, hf, hfin⟩ F' N'
    dsimp only at iM iL iS eM eS hlo hhi hall hf hfin F' N' ⊢
    clear lF lN
    have hlm := iM.length
    have hll := iL.length
    have hls := iS.length
    have eL := last_getD M (by omega)
    refine abs3 ?_
    intro X9 Y9 hX9 hY9
    k_steps
    · refine Hold.on ?_
      with_reducible rename News _ _ _ _ => N6
      refine' con_useK (limit_con w mean mg mb sz runs more (M.getD (-1 + (M.length : Int)).toNat 0) r _ t1 t2 t3 hsz hruns hmore (by omega)) ?A ?B ?F ?X N6 (fun p hp => ?hsub) ?T ?hk ?hd ?hu ?_
      (case hsub => (rw [List.mem_singleton.mp hp]; simp))
      (case A => exact rfl)
      (case B => assumption)
      (case F => k_asm)
      (case X => assumption)
      (case T => assumption)
      (case hk => first | rfl | assumption)
      (case hd => ktr_room)
      (case hu => ktr_units)
      rintro r5 tl5 h5 tk5 F5 N5 - ⟨rfl, t5, rfl⟩
      simp only [List.nil_append] at N5
      clear N6
      k_steps
      refine Hold.on ?_
      with_reducible rename Fr _ _ _ _ => lF
      with_reducible rename News _ _ _ _ => lN
      rw [List.push_toArray] at lN
      have iL' : IntsAre (ls ++ [Value.int (limitV sz runs.toNat more (M.getD (-1 + (M.length : Int)).toNat 0)) t5]) (L ++ [limitV sz runs.toNat more (M.getLastD 0)]) := by
        rw [eL]
        exact IntsAre.append iL (.cons _ _ .nil)
      generalize hL' : L ++ [limitV sz runs.toNat more (M.getLastD 0)] = L' at iL'
      have hlL' : L'.length = M.length := by rw [← hL', List.length_append, List.length_singleton, eM]
      have hll' := iL'.length
      have hmin : min ms.toArray.size (ls ++ [Value.int (limitV sz runs.toNat more (M.getD (-1 + (M.length : Int)).toNat 0)) t5]).toArray.size = M.length := by
        rw [List.size_toArray, List.size_toArray]
        omega
      have hpos := pick_pos M L (M.getLastD 0) (limitV sz runs.toNat more (M.getLastD 0)) eM (by omega) (hlim _ (by omega) (by omega)) rfl
      rw [hL'] at hpos
      have hmem := pick_mem M L' (M.getLastD 0)
      refine zip_pairs (l1 := a1) (l2 := a2) (by rfl) (fun n => rfl) (fun n => rfl) (by decide) (by rfl) (by rfl) (by rfl) (fun i us => IntsAre us ((((M.zip L').take i).filter (fun p => decide (M.getLastD 0 ≤ p.2))).map (·.1))) (by rw [hmin]; omega) lF lN (List.mem_cons_of_mem _ (List.mem_cons_of_mem _ List.mem_cons_self)) (List.mem_cons_of_mem _ List.mem_cons_self) .nil ?_ ?_
      · rintro D C hnD hDC i us a8 b8 h8 tk8 m8 oC8 E8 hin hj hxa hyb hC8 ha hb F8 N8
        obtain ⟨x8, tx, rfl, hx8⟩ := IntsAre.at iM i a8 (by simpa using hxa)
        obtain ⟨y8, ty, rfl, hy8⟩ := IntsAre.at iL' i b8 (by simpa using hyb)
        have hz8 : (M.zip L')[i]? = some (x8, y8) := by rw [List.getElem?_zip_eq_some]; exact ⟨hx8, hy8⟩
        clear lF lN
        refine wpAny_tests_one ?_
        k_steps
        · refine ⟨⟨h8, _, rfl, fun _ _ e => e⟩, ?_⟩
          have hy9 : M.getLastD 0 ≤ y8 := by omega
          rw [List.take_add_one, hz8]
          simp only [Option.toList, List.filter_append, List.map_append]
          rw [List.filter_cons_of_pos (by simpa using hy9)]
          exact IntsAre.append hj (.cons _ _ .nil)
        · refine ⟨⟨h8, _, rfl, fun _ _ e => e⟩, ?_⟩
          have hy9 : ¬ M.getLastD 0 ≤ y8 := by omega
          rw [List.take_add_one, hz8]
          simp only [Option.toList, List.filter_append, List.map_append]
          rw [List.filter_cons_of_neg (by simpa using hy9)]
          simpa using hj
      · rintro D us h8 tk8 hj hnD F8 N8
        simp only [List.mem_cons, List.not_mem_nil, forall_eq_or_imp, or_false, forall_eq] at hnD
        rw [hmin, List.take_of_length_le (by rw [List.length_zip]; omega)] at hj
        have hj' : IntsAre us (pickM M L' (M.getLastD 0)) := hj
        clear hj lF lN
        k_steps
        with_reducible rename Fr _ _ _ _ => lF
        with_reducible rename News _ _ _ _ => lN
        rw [List.push_toArray] at lN
        have hst : (pickM M L' (M.getLastD 0)).getD (Int.toNat 0) 0 ∈ pickM M L' (M.getLastD 0) := getD0_mem _ hpos
        have hsth : (pickM M L' (M.getLastD 0)).getD (Int.toNat 0) 0 = (pickM M L' (M.getLastD 0)).headD 0 := by cases pickM M L' (M.getLastD 0) <;> rfl
        generalize hst9 : (pickM M L' (M.getLastD 0)).getD (Int.toNat 0) 0 = st at lN hst hsth
        obtain ⟨hst1, hst2⟩ := hall st (hmem st hst)
        refine hX9 _ _ ?_
        refine WNext.intro ⟨ms ++ [_], ls ++ [_], ss ++ [_], nm + 1, nl + 1, ns + 1, M ++ [M.getLastD 0 + st], L', S ++ [st]⟩ lF (fun z => rfl) (fun p hp => lN p (List.mem_cons_of_mem _ hp)) ⟨?_, iL', IntsAre.append iS (.cons _ _ .nil), ?_, ?_, ?_, ?_, ?_, f - 1, ?_, ?_⟩ ?_
        · rw [eL]
          exact IntsAre.append iM (.cons _ _ .nil)
        · show (M ++ [M.getLastD 0 + st]).length = L'.length + 1
          rw [List.length_append, List.length_singleton, hlL']
        · show (S ++ [st]).length = L'.length + 1
          rw [List.length_append, List.length_singleton, hlL']
          omega
        · show (L'.length : Int) + 1 ≤ (M ++ [M.getLastD 0 + st]).getLastD 0
          rw [getLastD_snoc]
          omega
        · show (M ++ [M.getLastD 0 + st]).getLastD 0 ≤ 26
          rw [getLastD_snoc]
          omega
        · show ∀ x ∈ M ++ [M.getLastD 0 + st], 1 ≤ x ∧ x ≤ (M ++ [M.getLastD 0 + st]).getLastD 0
          rw [getLastD_snoc]
          intro x hx
          rcases List.mem_append.mp hx with hx | hx
          · have := hall x hx
            omega
          · rw [List.mem_singleton.mp hx]
            omega
        · show (top : Int) - (M ++ [M.getLastD 0 + st]).getLastD 0 ≤ ((f - 1 : Nat) : Int)
          rw [getLastD_snoc]
          omega
        · rw [hfin]
          obtain ⟨f', rfl⟩ : ∃ f', f = f' + 1 := ⟨f - 1, by omega⟩
          show (if M.getLastD 0 < (top : Int) then _ else _) = _
          rw [if_pos (by omega)]
          dsimp only
          rw [hL', ← hsth, Nat.add_sub_cancel]
        · show ((top : Int) - (M ++ [M.getLastD 0 + st]).getLastD 0).toNat < ((top : Int) - M.getLastD 0).toNat
          rw [getLastD_snoc]
          omega
    · have hf0 : f = 0 ∨ ¬ (M.getLastD 0 < (top : Int)) := by omega
      have hS : stepsGo (limitV sz runs.toNat more) top f M L S = S := by
        cases f with
        | zero => rfl
        | succ f => exact if_neg (by omega)
      rw [hS] at hfin
      refine hY9 _ ?_
      k_steps
      refine hX8 _ _ ?_
      refine' LeaveC.intro [(a3, W.listOf ss.toArray ns), (r, tup3 sz runs more t1 t2 t3)] ?F ?N ⟨_, _, _, hfin ▸ iS, rfl, rfl⟩
      (case F => k_asm)
      (case N => (refine' cb_drop ?A ?B; (case A => k_asm); (case B => lcg_sub)))
end
section
local macro_rules | `(tactic| k_room) => `(tactic| ktr_room)
theorem rowsA23_0 : True := by
  w_top off
  k_with_none
  k_with "c.enter" => ((first
      | (refine' con_def ?k1q9 ?k2q9 ?k3q9 ?k4q9 ?k5q9 ?kAq9 ?kFq9 ?kKq9 ?k6q9 ?k7q9 ?k8q9 ?k9q9 ?kBq9 ?kRq9 ?_ ?c2q9 ?c3q9 ?c4q9 ?c5q9; (case kAq9 => exact rfl); (case kFq9 => exact rfl); (case kKq9 => assumption); (case k1q9 => k_asm); (case k2q9 => k_asm); (case k3q9 => k_asm); (case k4q9 => k_asm); (case k5q9 => k_asm); (case k6q9 => k_is); (case k7q9 => k_is); (case k8q9 => ktr_room); (case k9q9 => first | exact BindsTo.of_eq rfl | exact binds_K (by k_in) rfl (by k_is) rfl rfl rfl); (case c5q9 => decide); (case kBq9 => exact locs rfl); (case c2q9 => exact rfl); (case c3q9 => exact rfl); (case c4q9 => exact rfl); (case kRq9 => walk_at "c.ret"); k_whole; intro _ _ _ _ _ N'q9 _ _ _ l1q9; (try k_lt l1q9); (try (revert l1q9; intro _)); (try dsimp only); (try k_fold))
      | (refine' con_defC ?k1q9 ?k2q9 ?k3q9 ?k4q9 ?k5q9 ?kAq9 ?kFq9 ?kKq9 ?k6q9 ?k7q9 ?k8q9 ?k9q9 ?kBq9 ?kDq9 ?kRq9 ?_ ?c2q9 ?c3q9 ?c4q9; (case kAq9 => exact rfl); (case kFq9 => exact rfl); (case kKq9 => assumption); (case k1q9 => k_asm); (case k2q9 => k_asm); (case k3q9 => k_asm); (case k4q9 => k_asm); (case k5q9 => k_asm); (case k6q9 => k_is); (case k7q9 => k_is); (case k8q9 => ktr_room); (case k9q9 => first | exact BindsTo.of_eq rfl | exact binds_K (by k_in) rfl (by k_is) rfl rfl rfl); (case kBq9 => exact rfl); (case kDq9 => decide +kernel); (case c2q9 => exact rfl); (case c3q9 => exact rfl); (case c4q9 => exact rfl); (case kRq9 => walk_at "c.ret"); k_whole; intro _ _ _ _ _ _ _ N'q9 Y'q9 _ _ _ l1q9; (try k_lt l1q9); (try (revert l1q9; intro _)); k_cells Y'q9; (try simp only [List.cons_append, List.nil_append] at N'q9); (try dsimp only); (try k_fold))))
  k_with "c.ret" => ((intro _ _ hl9q9; exact con_back (by assumption) (by assumption) (by assumption) (by assumption) hl9q9))
  k_with "c.start" => ((unfold Con; k_fill; intro _ _ _ _ _ _ _ _ _ _ _ _ _ _ _ _ _ Bq9 Fq9 Xq9 Nq9 Tq9 _ _ _ hretq9; refine wpAny_call ?_; k_dflt walk_at "c.enter"; clear hretq9 Nq9 Fq9 Bq9 Xq9 Tq9))
  k_with "c.startCls" => ((unfold Con; k_fill; intro _ _ _ _ _ _ _ _ _ _ _ _ _ _ _ _ _ Bq9 Fq9 Xq9 Nq9 Tq9 _ _ _ hretq9; refine wpAny_call ?_; k_dflt walk_at "c.enterCls"; clear hretq9 Nq9 Fq9 Bq9 Xq9 Tq9))
  k_with "c.enterCls" => ((refine' con_cls ?k1q9 ?k2q9 ?k3q9 ?k5q9 ?kAq9 ?kFq9 ?kKq9 ?m1q9 ?m2q9 ?m3q9 ?k6q9 ?k7q9 ?k8q9 ?k9q9 ?kBq9 ?kRq9 ?_ ?c2q9 ?c3q9 ?c4q9 ?c5q9; (case kAq9 => exact rfl); (case kFq9 => exact rfl); (case kKq9 => assumption); (case k1q9 => k_asm); (case k2q9 => k_asm); (case k3q9 => k_asm); (case k5q9 => k_asm); (case m1q9 => k_is); (case m2q9 => k_is); (case m3q9 => k_is); (case k6q9 => k_is); (case k7q9 => k_is); (case k8q9 => ktr_room); (case k9q9 => intro _ _; exact BindsTo.of_eq rfl); (case c5q9 => decide); (case kBq9 => intro _; exact locs rfl); (case c2q9 => exact rfl); (case c3q9 => exact rfl); (case c4q9 => exact rfl); (case kRq9 => exact con_nil (by assumption)); k_whole; intro _ _ _ _ _ _ l0'q9 _ _ _ _ _ l1q9; (try k_lt2 l0'q9); (try (revert l0'q9; intro _)); (try k_lt2 l1q9); (try (revert l1q9; intro _)); (try dsimp only); (try k_fold)))
  k_with "CompSrc" => ((k_here; k_dflt (refine LCg.CompSrc.range (by rfl) (by k_asm) (by k_asm) (by assumption) (by first | decide | rfl) (by first | rfl | decide) (by first | size_fits | exact Nat.le_of_ble_eq_true rfl) ?_; intro _; lcg_lit)))
  k_with "binaryOp Mult str int" => ((k_here; (refine' r_mul ?haq9 ?hbq9 ?_); (case haq9 => ((try simp only [fmod_lit]); omega)); (case hbq9 => ((try simp only [fmod_lit]); omega)); intro _ _))
  k_with "binaryOp Add str str" => ((k_here; (refine' r_add ?haq9 ?hbq9 ?hcq9 ?_); (case haq9 => first | with_reducible exact S_tab | with_reducible exact S_blank | with_reducible rfl); (case hbq9 => first | with_reducible exact S_tab | with_reducible exact S_blank | with_reducible rfl); (case hcq9 => (simp [sp]; omega)); intro _ _))
  k_with "call builtin:str.join" => ((k_here; (first
      | refine' r_join (ls := [(_, _)]) ?hlq9 ?hiq9 ?hwq9 ?_; (case hlq9 => exact News.isList (by k_asm) (by k_mem)); (case hiq9 => exact rfl)
      | refine' r_join (ls := [(_, _), (_, _)]) ?hlq9 ?hiq9 ?hwq9 ?_; (case hlq9 => exact News.isList (by k_asm) (by k_mem)); (case hiq9 => exact rfl)
      | refine' r_join (ls := [(_, _), (_, _), (_, _)]) ?hlq9 ?hiq9 ?hwq9 ?_; (case hlq9 => exact News.isList (by k_asm) (by k_mem)); (case hiq9 => exact rfl)); (case hwq9 => (simp [sp, fmod_lit]; omega)); intro _ _; (try dsimp only)))
  k_with "call type:tuple" => ((k_here; k_dflt (refine' r_tuple ?Fq9 ?Nq9 ?mq9 ?_ ?zq9; (case Fq9 => k_asm); (case Nq9 => k_asm); (case mq9 => k_mem); (case zq9 => (have hc9 := sizeLine_eq; (have hI9 := IntsAre.length (by assumption)); omega)); k_whole); intro _ _ _ _ l1q9; (try k_lt l1q9); (try (revert l1q9; intro _))))
  k_with "call builtin:len" => ((k_here; (with_reducible show wpAny _ _ (call (Value.builtin "len") [Value.ref _]) _ _ _); k_dflt (refine' r_len_tupI ?Nq9 ?mq9 ?iq9 ?fq9 ?_; (case Nq9 => k_asm); (case mq9 => k_mem); (case iq9 => with_reducible assumption); (case fq9 => omega); k_whole); intro _ _))
  k_with "subscriptTail" => ((k_here; (with_reducible show wpAny _ _ (subscriptTail _ _ (Value.ref _) (Value.int _ _)) _ _ _); k_dflt (refine' r_item_tupI ?Nq9 ?mq9 ?iq9 ?aq9 ?bq9 ?cq9 ?_ ?eq9; (case Nq9 => k_asm); (case mq9 => k_mem); (case iq9 => with_reducible assumption); (case aq9 => omega); (case bq9 => omega); (case cq9 => omega); (case eq9 => with_unfolding_all rfl); k_whole); intro _))
  k_with "pyIter ref" => ((k_here; (with_reducible show wpAny _ _ (pyIter (Value.ref _)) (fun it s₂ => LoopAtV _ _ _ _ _ _ _ _ _ it s₂) _ _); refine Hold.of ?_))
  k_with "exec While" => ((k_here; k_whole; refine Hold.of ?_))
  k_with "exec While Compare" => ((k_here; k_whole; refine Hold.of ?_))
  k_with "exec While BoolOp" => ((k_here; k_whole; refine Hold.of ?_))
  trivial
/-- the line of the game -/
def pad (a b : Nat) : List Nat := sp a ++ [120] ++ sp b
section
variable {prog : Program} {w : World} {A : Around} {E : Value → Shared → Prop} {s : Shared}
theorem r_item_S {cs : List Nat} {k : Int} {c : Nat} {t u : Tok} {value slice : Expr} {Q : Value → Shared → Prop} (h0 : 0 ≤ k) (h1 : k < cs.length) (hl : cs.length ≤ 1000) (hc : cs.getD k.toNat 0 = c)
    (h : ∀ t' tk, Q (.str (S [c]) t') { s with toks := tk })
    (hs : subscripted slice false (.str (S cs) t) (.int k u) = operate [.str (S cs) t, .int k u] (getItem (.str (S cs) t) (.int k u))) :
    wpAny (model prog w) A (subscriptTail value slice (.str (S cs) t) (.int k u)) Q E s := by
  refine tail_any (typeIs_str s _ _) F.slot_str_getitem.lookup (P.getItem_str (c := c) ?_ ?_ (h _ _)) hs
  · rw [Bool.or_eq_false_iff, decide_eq_false_iff_not, decide_eq_false_iff_not]
    constructor <;> omega
  · rw [S_len, seqIndex_of h0 (by omega)]
    rw [List.getD_eq_getElem?_getD, List.getElem?_eq_getElem (by omega)] at hc
    simp only [Option.bind_some, S, List.getElem?_toArray]
    rw [List.getElem?_eq_getElem (by omega)]
    exact congrArg some hc
theorem r_len_S {cs : List Nat} {t : Tok} {Q : Value → Shared → Prop} (hl : cs.length ≤ 1000) (h : ∀ t tk, Q (.int cs.length t) { s with toks := tk }) : wpAny (model prog w) A (call (.builtin "len") [.str (S cs) t]) Q E s :=
  P.len_str (by rw [S_len]; omega) (by rw [S_len]; exact h _ _)
theorem r_eq_S {c : Nat} {t u : Tok} {Q : Value → Shared → Prop} (h : Q (.bool (c == 32)) s) : wpAny (model prog w) A (compareOp .Eq (.str (S [c]) t) (.str (Str.ofString " ") u)) Q E s := by
  refine PyProof.Rows.eq_str ?_
  have e : (S [c] == Str.ofString " ") = (c == 32) := by
    rw [S_blank]
    by_cases hc : c = 32
    · subst hc
      simp
    · have h1 : S [c] ≠ S [32] := fun e => hc (by simpa using S_inj e)
      rw [beq_eq_false_iff_ne.mpr h1, beq_eq_false_iff_ne.mpr hc]
  rw [e]
  exact h
end
theorem pad_len (a b : Nat) : (pad a b).length = a + 1 + b := by simp [pad, sp]; omega
theorem pad_lo {a b k : Nat} (h : k < a) : (pad a b).getD (k : Int).toNat 0 = 32 := by
  simp [pad, sp, List.getD_eq_getElem?_getD, List.getElem?_append, h, List.getElem?_replicate]
theorem pad_x (a b : Nat) : (pad a b).getD (a : Int).toNat 0 = 120 := by
  simp [pad, sp, List.getD_eq_getElem?_getD, List.getElem?_append]
theorem pad_hi {a b k : Nat} (h : a < k) (h2 : k < a + 1 + b) : (pad a b).getD (k : Int).toNat 0 = 32 := by
  simp only [pad, sp, List.getD_eq_getElem?_getD, Int.toNat_natCast]
  rw [List.getElem?_append_right (by simp; omega)]
  simp only [List.length_append, List.length_replicate, List.length_singleton]
  rw [List.getElem?_replicate_of_lt (by omega)]
  rfl
theorem slice_S (cs : List Nat) (i j : Nat) (hij : i ≤ j) (hj : j ≤ cs.length) : Txt.slice (S cs) (some (i : Int)) (some (j : Int)) = S ((cs.drop i).take (j - i)) := by
  refine (StrLaws.sliceText_nat (S cs) hij (by rw [S_len]; exact hj)).trans ?_
  have e : (S cs).cps.toList = cs := by simp [S]
  rw [e]
  rfl
theorem pad_cut (a b l k : Nat) (hl : l ≤ a) (hk : k ≤ b) : ((pad a b).drop l).take (a + b - k + 1 - l) = pad (a - l) (b - k) := by
  unfold pad sp
  rw [List.append_assoc, List.drop_append, List.drop_replicate, List.length_replicate, show l - a = 0 by omega, List.drop_zero, List.append_assoc, List.take_append, List.take_of_length_le (by simp; omega), List.length_replicate]
  congr 1
  rw [show a + b - k + 1 - l - (a - l) = (b - k) + 1 by omega]
  show 120 :: List.take (b - k) (List.replicate b 32) = 120 :: List.replicate (b - k) 32
  rw [List.take_replicate, Nat.min_eq_left (by omega)]
theorem rowsA23_1 : True := by
  k_with "subscriptTail Name Name str int" => ((k_here; (with_reducible show wpAny _ _ (subscriptTail _ _ (Value.str (S _) _) (Value.int _ _)) _ _ _); k_dflt (refine' r_item_S ?aq9 ?bq9 ?cq9 ?dq9 ?_ ?eq9; (case aq9 => omega); (case bq9 => (rw [pad_len]; omega)); (case cq9 => (rw [pad_len]; omega)); (case dq9 => with_reducible assumption); (case eq9 => with_unfolding_all rfl); k_whole); intro _ _))
  k_with "call builtin:len" => ((k_here; (with_reducible show wpAny _ _ (call (Value.builtin "len") [Value.str (S _) _]) _ _ _); k_dflt (refine' r_len_S ?aq9 ?_; (case aq9 => (rw [pad_len]; omega)); k_whole); intro _ _))
  k_with "compareOp Eq str str" => ((k_here; (with_reducible show wpAny _ _ (compareOp CmpOp.Eq (Value.str (S [_]) _) (Value.str (Str.ofString " ") _)) _ _ _); k_dflt (refine' r_eq_S ?_); k_whole))
  trivial
structure StripS where
  l : Nat
  n : Nat
  ol : Option Value
  on : Option Value
def WExit {σ : Type} (h₀ : Heap) (L : Addr) (mm : σ → Str → Option Value) (Led : σ → List (Addr × Obj)) (Ex : σ → Prop) (c : σ) (s : Shared) (s₂ : Shared) : Prop := ∃ h tk, s₂ = { s with heap := h, toks := tk } ∧ Fr h₀ L h (mm c) ∧ News h₀ L h (Led c) ∧ Ex c
theorem while_mc {prog : Program} {w : World} {A : Around} {E : Value → Shared → Prop} {Q : Flow → Shared → Prop} {s : Shared} {env : Env} {h₀ : Heap} {L : Addr} {σ : Type} {test : Expr} {body : List Stmt} {pos : Pos} {m₀ : Str → Option Value} (mm : (Str → Option Value) → σ → Str → Option Value) (Led : σ → List (Addr × Obj)) (J : σ → Prop) (Ex : σ → Prop) (μ : σ → Nat) (c₀ : (Str → Option Value) → σ)
    (F : Fr h₀ L s.heap m₀) (N : News h₀ L s.heap (Led (c₀ m₀))) (hm : ∀ z, m₀ z = mm m₀ (c₀ m₀) z) (hi : J (c₀ m₀))
    (turn : ∀ c h tk, J c → Fr h₀ L h (mm m₀ c) → News h₀ L h (Led c) →
      wpAny (model prog w) A (isTrue test env (eval test env)) (fun b s₂ =>
        if b = true then wpAny (model prog w) A (execs body env) (WNext h₀ L (mm m₀) Led J μ c s) E s₂ else WExit h₀ L (mm m₀) Led Ex c s s₂) E { s with heap := h, toks := tk })
    (done : ∀ c h tk, J c → Ex c → Fr h₀ L h (mm m₀ c) → News h₀ L h (Led c) → Q .next { s with heap := h, toks := tk })
    (hE : PassesOwn (model prog w) A env E := by passes_own) :
    wpAny (model prog w) A (exec (.While test body [] pos) env) Q E s := while_m mm Led J μ (c₀ m₀) F N hm hi (fun c h tk hj F' N' => wpAny_mono (turn c h tk hj F' N') (fun b s₂ p => by
      cases b with
      | true => simpa using p
      | false =>
        simp only [Bool.false_eq_true, if_false] at p ⊢
        obtain ⟨h', tk', rfl, F₁, N₁, e⟩ := p
        exact done c h' tk' hj e F₁ N₁) fun _ _ e => e) hE
theorem WNext.introC {σ : Type} {h₀ : Heap} {L : Addr} {mm : σ → Str → Option Value} {Led : σ → List (Addr × Obj)} {J : σ → Prop} {μ : σ → Nat} {c : σ} {s : Shared} {h' : Heap} {tk : Nat} {m' : Str → Option Value} (c' : (Str → Option Value) → σ)
    (F : Fr h₀ L h' m') (hm : ∀ z, m' z = mm (c' m') z) (N : News h₀ L h' (Led (c' m'))) (hJ : J (c' m')) (hμ : μ (c' m') < μ c) : WNext h₀ L mm Led J μ c s .next { s with heap := h', toks := tk } := WNext.intro (c' m') F hm N hJ hμ
theorem exI {o : Option Value} {a b : Int} {t : Tok} (h : o = some (.int a t)) (e : a = b) : ∃ t, o = some (.int b t) := ⟨t, by rw [h, e]⟩
theorem two_names (mz : Str → Option Value) (x y : Str) (z : Str) : mz z = if z = x then mz x else if z = y then mz y else mz z := by
  by_cases hx : z = x
  · rw [if_pos hx, hx]
  · by_cases hy : z = y
    · rw [if_neg hx, if_pos hy, hy]
    · rw [if_neg hx, if_neg hy]
theorem strip_con (w : World) (mean : ExcName → Option Value) (mg mb : Str → Option Value) (a b n : Nat) (t0 t1 : Tok) (hn : n ≤ a + b) (hab : a + b ≤ 14) :
    Con 10 w mean mg mb 185 [.str (S (pad a b)) t0, .int n t1] [] (fun tl v => tl = [] ∧ ∃ t, v = .str (S (pad (a - n) (b - (n - a)))) t) := by
  walk_at "c.start"
  refine abs1 ?_
  intro X8 hX8
  k_steps
  refine Hold.on ?_
  with_reducible rename Fr _ _ _ _ => lF
  with_reducible rename News _ _ _ _ => lN
  rename_i dp un gd cn cs aa ccd cl outer A₀ base h₀ Lc mc s Q E hk hd hu g L1 h1 gk B X T lx h2
  refine while_mc (fun mz (c : StripS) z => if z = Str.ofString "lpos" then c.ol else if z = Str.ofString "amount" then c.on else mz z) (fun _ => []) (fun c => c.l ≤ a ∧ c.l + c.n = n ∧ (∃ t, c.ol = some (.int (c.l : Int) t)) ∧ ∃ t, c.on = some (.int (c.n : Int) t)) (fun c => c.n = 0 ∨ c.l = a) (fun c => c.n) (fun mz => ⟨0, n, mz (Str.ofString "lpos"), mz (Str.ofString "amount")⟩) lF lN (two_names _ _ _) ⟨Nat.zero_le _, Nat.zero_add _, ⟨_, rfl⟩, ⟨_, rfl⟩⟩ ?_ ?_
  · rintro ⟨l, n', ol, on⟩ h tk ⟨hl, hln, ⟨tl, e1⟩, tn, e2⟩ F' N'
    dsimp only at hl hln e1 e2 F' N' ⊢
    subst e1 e2
    clear lF lN
    refine abs3 ?_
    intro X9 Y9 hX9 hY9
    have hcase : n' = 0 ∨ (0 < n' ∧ l < a) ∨ (0 < n' ∧ l = a) := by omega
    rcases hcase with rfl | ⟨hn0, hla⟩ | ⟨hn0, rfl⟩
    · k_steps
      all_goals first | (exfalso; omega) | exact hY9 _ ⟨_, _, rfl, F', N', .inl rfl⟩
    · have hc := pad_lo (b := b) hla
      k_steps
      all_goals try (exfalso; omega)
      with_reducible rename Fr _ _ _ _ => lF
      with_reducible rename News _ _ _ _ => lN
      refine hX9 _ _ ?_
      refine WNext.introC (fun mz => ⟨l + 1, n' - 1, mz (Str.ofString "lpos"), mz (Str.ofString "amount")⟩) lF ?_ lN ⟨?_, ?_, exI rfl rfl, exI rfl ?_⟩ ?_
      · intro z
        by_cases hz : z = Str.ofString "lpos"
        · subst hz
          rfl
        · by_cases hz2 : z = Str.ofString "amount"
          · subst hz2
            rfl
          · simp only [if_neg hz, if_neg hz2]
      · show l + 1 ≤ a
        omega
      · show l + 1 + (n' - 1) = n
        omega
      · show (n' : Int) - 1 = ((n' - 1 : Nat) : Int)
        omega
      · show n' - 1 < n'
        omega
    · have hc := pad_x l b
      k_steps
      all_goals try (exfalso; omega)
      all_goals exact hY9 _ ⟨_, _, rfl, F', N', .inr rfl⟩
  · rintro ⟨l, n', ol, on⟩ h tk ⟨hl, hln, ⟨tl, e1⟩, tn, e2⟩ hex F' N'
    dsimp only at hl hln e1 e2 hex F' N' ⊢
    subst e1 e2
    clear lF lN
    k_steps
    refine Hold.on ?_
    with_reducible rename Fr _ _ _ _ => lF
    with_reducible rename News _ _ _ _ => lN
    refine while_mc (fun mz (c : StripS) z => if z = Str.ofString "rpos" then c.ol else if z = Str.ofString "amount" then c.on else mz z) (fun _ => []) (fun c => c.l ≤ b ∧ c.l + c.n = n' ∧ (∃ t, c.ol = some (.int ((a + b - c.l : Nat) : Int) t)) ∧ ∃ t, c.on = some (.int (c.n : Int) t)) (fun c => c.n = 0) (fun c => c.n) (fun mz => ⟨0, n', mz (Str.ofString "rpos"), mz (Str.ofString "amount")⟩) lF lN (two_names _ _ _) ⟨Nat.zero_le _, Nat.zero_add _, exI rfl ?_, ⟨_, rfl⟩⟩ ?_ ?_
    · rw [pad_len]
      show (((a + 1 + b : Nat) : Int) - 1) = ((a + b - 0 : Nat) : Int)
      omega
    · rintro ⟨k, m', ol, on⟩ h tk ⟨hk1, hkm, ⟨tk1, e1⟩, tk2, e2⟩ F' N'
      dsimp only at hk1 hkm e1 e2 F' N' ⊢
      subst e1 e2
      clear lF lN
      refine abs3 ?_
      intro X9 Y9 hX9 hY9
      have hcase : m' = 0 ∨ 0 < m' := by omega
      rcases hcase with rfl | hn0
      · k_steps
        all_goals first | (exfalso; omega) | exact hY9 _ ⟨_, _, rfl, F', N', rfl⟩
      · have hc := pad_hi (a := a) (b := b) (k := a + b - k) (by omega) (by omega)
        k_steps
        all_goals try (exfalso; omega)
        with_reducible rename Fr _ _ _ _ => lF
        with_reducible rename News _ _ _ _ => lN
        refine hX9 _ _ ?_
        refine WNext.introC (fun mz => ⟨k + 1, m' - 1, mz (Str.ofString "rpos"), mz (Str.ofString "amount")⟩) lF ?_ lN ⟨?_, ?_, exI rfl ?_, exI rfl ?_⟩ ?_
        · intro z
          by_cases hz : z = Str.ofString "rpos"
          · subst hz
            rfl
          · by_cases hz2 : z = Str.ofString "amount"
            · subst hz2
              rfl
            · simp only [if_neg hz, if_neg hz2]
        · show k + 1 ≤ b
          omega
        · show k + 1 + (m' - 1) = n'
          omega
        · show ((a + b - k : Nat) : Int) - 1 = ((a + b - (k + 1) : Nat) : Int)
          omega
        · show (m' : Int) - 1 = ((m' - 1 : Nat) : Int)
          omega
        · show m' - 1 < m'
          omega
    · rintro ⟨k, m', ol, on⟩ h tk ⟨hk1, hkm, ⟨tk1, e1⟩, tk2, e2⟩ hex2 F' N'
      dsimp only at hk1 hkm e1 e2 hex2 F' N' ⊢
      subst e1 e2
      clear lF lN
      k_steps
      refine slice_strN_ss (hsz := ?hsz) (s := ⟨_, _, _, _, _⟩) F' N' ?_
      (case hsz => (rw [S_len, pad_len, sizeLine_eq]; omega))
      intro h9 t9 tk9 F9 N9
      have e1 : ((a + b - k : Nat) : Int) + 1 = ((a + b - k + 1 : Nat) : Int) := by omega
      rw [e1, slice_S _ _ _ (by omega) (by rw [pad_len]; omega), pad_cut _ _ _ _ hl hk1]
      have e2 : a - l = a - n := by omega
      have e3 : b - k = b - (n - a) := by omega
      rw [e2, e3]
      dsimp only
      refine hX8 _ _ ?_
      exact ⟨_, _, [], _, _, rfl, F9, N9, rfl, _, rfl⟩
end
section
local macro_rules | `(tactic| k_room) => `(tactic| ktr_room)
theorem rowsA24_0 : True := by
  w_top off
  k_with_none
  k_with "c.enter" => ((first
      | (refine' con_def ?k1q9 ?k2q9 ?k3q9 ?k4q9 ?k5q9 ?kAq9 ?kFq9 ?kKq9 ?k6q9 ?k7q9 ?k8q9 ?k9q9 ?kBq9 ?kRq9 ?_ ?c2q9 ?c3q9 ?c4q9 ?c5q9; (case kAq9 => exact rfl); (case kFq9 => exact rfl); (case kKq9 => assumption); (case k1q9 => k_asm); (case k2q9 => k_asm); (case k3q9 => k_asm); (case k4q9 => k_asm); (case k5q9 => k_asm); (case k6q9 => k_is); (case k7q9 => k_is); (case k8q9 => ktr_room); (case k9q9 => first | exact BindsTo.of_eq rfl | exact binds_K (by k_in) rfl (by k_is) rfl rfl rfl); (case c5q9 => decide); (case kBq9 => exact locs rfl); (case c2q9 => exact rfl); (case c3q9 => exact rfl); (case c4q9 => exact rfl); (case kRq9 => walk_at "c.ret"); k_whole; intro _ _ _ _ _ N'q9 _ _ _ l1q9; (try k_lt l1q9); (try (revert l1q9; intro _)); (try dsimp only); (try k_fold))
      | (refine' con_defC ?k1q9 ?k2q9 ?k3q9 ?k4q9 ?k5q9 ?kAq9 ?kFq9 ?kKq9 ?k6q9 ?k7q9 ?k8q9 ?k9q9 ?kBq9 ?kDq9 ?kRq9 ?_ ?c2q9 ?c3q9 ?c4q9; (case kAq9 => exact rfl); (case kFq9 => exact rfl); (case kKq9 => assumption); (case k1q9 => k_asm); (case k2q9 => k_asm); (case k3q9 => k_asm); (case k4q9 => k_asm); (case k5q9 => k_asm); (case k6q9 => k_is); (case k7q9 => k_is); (case k8q9 => ktr_room); (case k9q9 => first | exact BindsTo.of_eq rfl | exact binds_K (by k_in) rfl (by k_is) rfl rfl rfl); (case kBq9 => exact rfl); (case kDq9 => decide +kernel); (case c2q9 => exact rfl); (case c3q9 => exact rfl); (case c4q9 => exact rfl); (case kRq9 => walk_at "c.ret"); k_whole; intro _ _ _ _ _ _ _ N'q9 Y'q9 _ _ _ l1q9; (try k_lt l1q9); (try (revert l1q9; intro _)); k_cells Y'q9; (try simp only [List.cons_append, List.nil_append] at N'q9); (try dsimp only); (try k_fold))))
  k_with "c.ret" => ((intro _ _ hl9q9; exact con_back (by assumption) (by assumption) (by assumption) (by assumption) hl9q9))
  k_with "c.start" => ((unfold Con; k_fill; intro _ _ _ _ _ _ _ _ _ _ _ _ _ _ _ _ _ Bq9 Fq9 Xq9 Nq9 Tq9 _ _ _ hretq9; refine wpAny_call ?_; k_dflt walk_at "c.enter"; clear hretq9 Nq9 Fq9 Bq9 Xq9 Tq9))
  k_with "c.startCls" => ((unfold Con; k_fill; intro _ _ _ _ _ _ _ _ _ _ _ _ _ _ _ _ _ Bq9 Fq9 Xq9 Nq9 Tq9 _ _ _ hretq9; refine wpAny_call ?_; k_dflt walk_at "c.enterCls"; clear hretq9 Nq9 Fq9 Bq9 Xq9 Tq9))
  k_with "c.enterCls" => ((refine' con_cls ?k1q9 ?k2q9 ?k3q9 ?k5q9 ?kAq9 ?kFq9 ?kKq9 ?m1q9 ?m2q9 ?m3q9 ?k6q9 ?k7q9 ?k8q9 ?k9q9 ?kBq9 ?kRq9 ?_ ?c2q9 ?c3q9 ?c4q9 ?c5q9; (case kAq9 => exact rfl); (case kFq9 => exact rfl); (case kKq9 => assumption); (case k1q9 => k_asm); (case k2q9 => k_asm); (case k3q9 => k_asm); (case k5q9 => k_asm); (case m1q9 => k_is); (case m2q9 => k_is); (case m3q9 => k_is); (case k6q9 => k_is); (case k7q9 => k_is); (case k8q9 => ktr_room); (case k9q9 => intro _ _; exact BindsTo.of_eq rfl); (case c5q9 => decide); (case kBq9 => intro _; exact locs rfl); (case c2q9 => exact rfl); (case c3q9 => exact rfl); (case c4q9 => exact rfl); (case kRq9 => exact con_nil (by assumption)); k_whole; intro _ _ _ _ _ _ l0'q9 _ _ _ _ _ l1q9; (try k_lt2 l0'q9); (try (revert l0'q9; intro _)); (try k_lt2 l1q9); (try (revert l1q9; intro _)); (try dsimp only); (try k_fold)))
  k_with "CompSrc" => ((k_here; k_dflt (refine LCg.CompSrc.range (by rfl) (by k_asm) (by k_asm) (by assumption) (by first | decide | rfl) (by first | rfl | decide) (by first | size_fits | exact Nat.le_of_ble_eq_true rfl) ?_; intro _; lcg_lit)))
  k_with "binaryOp Mult str int" => ((k_here; (refine' r_mul ?haq9 ?hbq9 ?_); (case haq9 => ((try simp only [fmod_lit]); omega)); (case hbq9 => ((try simp only [fmod_lit]); omega)); intro _ _))
  k_with "binaryOp Add str str" => ((k_here; (refine' r_add ?haq9 ?hbq9 ?hcq9 ?_); (case haq9 => first | with_reducible exact S_tab | with_reducible exact S_blank | with_reducible rfl); (case hbq9 => first | with_reducible exact S_tab | with_reducible exact S_blank | with_reducible rfl); (case hcq9 => (simp [sp]; omega)); intro _ _))
  k_with "call builtin:str.join" => ((k_here; (first
      | refine' r_join (ls := [(_, _)]) ?hlq9 ?hiq9 ?hwq9 ?_; (case hlq9 => exact News.isList (by k_asm) (by k_mem)); (case hiq9 => exact rfl)
      | refine' r_join (ls := [(_, _), (_, _)]) ?hlq9 ?hiq9 ?hwq9 ?_; (case hlq9 => exact News.isList (by k_asm) (by k_mem)); (case hiq9 => exact rfl)
      | refine' r_join (ls := [(_, _), (_, _), (_, _)]) ?hlq9 ?hiq9 ?hwq9 ?_; (case hlq9 => exact News.isList (by k_asm) (by k_mem)); (case hiq9 => exact rfl)); (case hwq9 => (simp [sp, fmod_lit]; omega)); intro _ _; (try dsimp only)))
  k_with "call type:tuple" => ((k_here; k_dflt (refine' r_tuple ?Fq9 ?Nq9 ?mq9 ?_ ?zq9; (case Fq9 => k_asm); (case Nq9 => k_asm); (case mq9 => k_mem); (case zq9 => (have hc9 := sizeLine_eq; (have hI9 := IntsAre.length (by assumption)); omega)); k_whole); intro _ _ _ _ l1q9; (try k_lt l1q9); (try (revert l1q9; intro _))))
  k_with "call builtin:len" => ((k_here; (with_reducible show wpAny _ _ (call (Value.builtin "len") [Value.ref _]) _ _ _); k_dflt (refine' r_len_tupI ?Nq9 ?mq9 ?iq9 ?fq9 ?_; (case Nq9 => k_asm); (case mq9 => k_mem); (case iq9 => with_reducible assumption); (case fq9 => omega); k_whole); intro _ _))
  k_with "subscriptTail" => ((k_here; (with_reducible show wpAny _ _ (subscriptTail _ _ (Value.ref _) (Value.int _ _)) _ _ _); k_dflt (refine' r_item_tupI ?Nq9 ?mq9 ?iq9 ?aq9 ?bq9 ?cq9 ?_ ?eq9; (case Nq9 => k_asm); (case mq9 => k_mem); (case iq9 => with_reducible assumption); (case aq9 => omega); (case bq9 => omega); (case cq9 => omega); (case eq9 => with_unfolding_all rfl); k_whole); intro _))
  k_with "pyIter ref" => ((k_here; (with_reducible show wpAny _ _ (pyIter (Value.ref _)) (fun it s₂ => LoopAtV _ _ _ _ _ _ _ _ _ it s₂) _ _); refine Hold.of ?_))
  k_with "call ref" => ((k_here; (with_reducible show wpAny _ _ (call (Value.ref _) _) _ _ _); k_whole; refine Hold.of ?_))
  k_with "exec For" => ((k_here; k_dflt (refine wpAny_For ?_ (by intro _; with_unfolding_all rfl))))
  k_with "exec For Name Call cons nil" => ((k_here; k_dflt (refine wpAny_For ?_ (by intro _; with_unfolding_all rfl))))
  k_with "exec For Name Call" => ((k_here; k_dflt (refine wpAny_For ?_ (by intro _; with_unfolding_all rfl))))
  k_with "pyIter ref" => ((k_here; (with_reducible show wpAny _ _ (pyIter (Value.ref _)) (fun it s₂ => codeAny _ _ _ _ _) _ _); k_whole; refine Hold.of ?_))
  k_with "subscriptTail" => ((k_here; (with_reducible show wpAny _ _ (subscriptTail _ _ (Value.ref _) (Value.int _ _)) _ _ _); k_dflt (refine' item_anyK ?k1q9 ?k2q9 ?k3q9 ?k4q9 ?k5q9 ?_ ?k6q9; (case k1q9 => exact News.isList (by k_asm) (by k_mem)); (case k2q9 => with_reducible assumption); (case k3q9 => omega); (case k4q9 => omega); (case k5q9 => omega); (case k6q9 => with_unfolding_all rfl); k_whole); intro _))
  k_with "compareOp NotEq str str" => ((k_here; k_whole; refine Hold.of ?_))
  trivial
section
variable {prog : Program} {w : World} {A : Around} {E : Value → Shared → Prop} {s : Shared} {t u : Tok} {Q : Value → Shared → Prop}
theorem r_mulZ {n : Int} (h1 : n ≤ 1000) (h0 : -1000 ≤ n) (h : ∀ t' k, Q (.str (S (sp n.toNat)) t') { s with toks := k }) : wpAny (model prog w) A (binaryOp .Mult (.str (Str.ofString " ") t) (.int n u)) Q E s := by
  refine SB.mul (mulOk_of 1 1000 (by decide +kernel) h1 (by omega) (by decide) (by decide)) fun t' k => ?_
  rw [mul_S]
  exact h t' k
end
theorem rowsA24_1 : True := by
  k_with "binaryOp Mult str int" => ((k_here; (refine' r_mulZ ?haq9 ?hbq9 ?_); (case haq9 => omega); (case hbq9 => omega); intro _ _))
  k_with "binaryOp Add str str" => ((k_here; (refine' r_add ?haq9 ?hbq9 ?hcq9 ?_); (case haq9 => first | with_reducible exact S_x | with_reducible rfl); (case hbq9 => first | with_reducible exact S_x | with_reducible rfl); (case hcq9 => (simp only [sp, List.length_replicate, List.length_append, List.length_singleton, List.length_cons, List.length_nil]; omega)); intro _ _))
  trivial
structure WonS where
  g : Nat
  lm : Int
  w : Bool
  oL : Option Value
  oW : Option Value
  oG : Option Value
  oM : Option Value
  o1 : Option Value
  o2 : Option Value
  o3 : Option Value
theorem forX_rangeC {prog : Program} {w : World} {A : Around} {E : Value → Shared → Prop} {s : Shared} {env : Env} {h₀ : Heap} {body : List Stmt} {Q : Flow → Shared → Prop} {σ : Type} {target : Expr} {r : Addr} {a b : Int} {t₀ u₀ v₀ : Tok} {m₀ : Str → Option Value} (mm : (Str → Option Value) → σ → Str → Option Value) (Led : σ → List (Addr × Obj)) (J : Nat → σ → Prop) (c₀ : (Str → Option Value) → σ)
    (hh : A.handled = none) (hr : IsRange s.heap r a b 1 t₀ u₀ v₀) (hsmall : Builtin.Range.small a b 1 = true)
    (F : Fr h₀ env.locals s.heap m₀) (N : News h₀ env.locals s.heap (Led (c₀ m₀))) (hm : ∀ z, m₀ z = mm m₀ (c₀ m₀) z) (hi : J 0 (c₀ m₀))
    (turn : ∀ I i c u oI h tk, i < (b - a).toNat → J i c → (∀ p ∈ Led c, @Ne Nat p.1 I) → Fr h₀ env.locals h (mm m₀ c) → News h₀ env.locals h ((I, oI) :: Led c) →
      wpAny (model prog w) A (assign target env (.int (a + (i : Int)) u)) (fun _ s₂ => wpAny (model prog w) A (execs body env) (XEnd h₀ env.locals (mm m₀) Led (J (i + 1)) I oI s Q) E s₂) E { s with heap := h, toks := tk })
    (done : ∀ c h tk, J (b - a).toNat c → Fr h₀ env.locals h (mm m₀ c) → News h₀ env.locals h (Led c) → Q .next { s with heap := h, toks := tk })
    (ht : ∀ it v, letOwnedTupleGo target it v = pure () := by intro _ _; rfl) (hE : PassesOwn (model prog w) A env E := by passes_own) :
    wpAny (model prog w) A (pyIter (.ref r)) (fun it s₂ => codeAny (model prog w) A (.forLoop target it body [] env) (fun r s' => match r with | .ok f => Q f s' | .error e => cameBackBy (model prog w) A env E e s') s₂) E s :=
  forX_range mm Led J (c₀ m₀) hh hr hsmall F N hm hi turn done ht hE
theorem forX_rangeX {prog : Program} {w : World} {A : Around} {E : Value → Shared → Prop} {s : Shared} {env : Env} {h₀ : Heap} {body : List Stmt} {Q : Flow → Shared → Prop} {σ : Type} {target : Expr} {r : Addr} {a b : Int} {t₀ u₀ v₀ : Tok} {m₀ : Str → Option Value} (mm : (Str → Option Value) → σ → Str → Option Value) (Led : σ → List (Addr × Obj)) (J : Nat → σ → Prop) (c₀ : (Str → Option Value) → σ)
    (hh : A.handled = none) (hr : IsRange s.heap r a b 1 t₀ u₀ v₀) (hsmall : Builtin.Range.small a b 1 = true)
    (F : Fr h₀ env.locals s.heap m₀) (N : News h₀ env.locals s.heap (Led (c₀ m₀))) (hm : ∀ z, m₀ z = mm m₀ (c₀ m₀) z) (hi : J 0 (c₀ m₀))
    (turn : ∀ (X : Flow → Shared → Prop) I i c u oI h tk, (∀ f s₂, XEnd h₀ env.locals (mm m₀) Led (J (i + 1)) I oI s Q f s₂ → X f s₂) → i < (b - a).toNat → J i c → (∀ p ∈ Led c, @Ne Nat p.1 I) → Fr h₀ env.locals h (mm m₀ c) → News h₀ env.locals h ((I, oI) :: Led c) →
      wpAny (model prog w) A (assign target env (.int (a + (i : Int)) u)) (fun _ s₂ => wpAny (model prog w) A (execs body env) X E s₂) E { s with heap := h, toks := tk })
    (done : ∀ c h tk, J (b - a).toNat c → Fr h₀ env.locals h (mm m₀ c) → News h₀ env.locals h (Led c) → Q .next { s with heap := h, toks := tk })
    (ht : ∀ it v, letOwnedTupleGo target it v = pure () := by intro _ _; rfl) (hE : PassesOwn (model prog w) A env E := by passes_own) :
    wpAny (model prog w) A (pyIter (.ref r)) (fun it s₂ => codeAny (model prog w) A (.forLoop target it body [] env) (fun r s' => match r with | .ok f => Q f s' | .error e => cameBackBy (model prog w) A env E e s') s₂) E s :=
  forX_range mm Led J (c₀ m₀) hh hr hsmall F N hm hi (fun I i c u oI h tk => turn _ I i c u oI h tk (fun _ _ h => h)) done ht hE
theorem XEnd.introC {σ : Type} {h₀ : Heap} {L : Addr} {mm : σ → Str → Option Value} {Led : σ → List (Addr × Obj)} {J : σ → Prop} {I : Addr} {oI : Obj} {s : Shared} {Q : Flow → Shared → Prop} {h' : Heap} {tk' : Nat} {m' : Str → Option Value} (c : (Str → Option Value) → σ)
    (F : Fr h₀ L h' m') (hm : ∀ z, m' z = mm (c m') z) (N : News h₀ L h' ((I, oI) :: Led (c m'))) (hI : ∀ p ∈ Led (c m'), @Ne Nat p.1 I) (hJ : J (c m')) : XEnd h₀ L mm Led J I oI s Q .next { s with heap := h', toks := tk' } := XEnd.intro (c m') F hm N hI hJ
theorem exS {o : Option Value} {a b : List Nat} {t : Tok} (h : o = some (.str (S a) t)) (e : a = b) : ∃ t, o = some (.str (S b) t) := ⟨t, by rw [h, e]⟩
theorem r_ne_S {prog : Program} {w : World} {A : Around} {E : Value → Shared → Prop} {s : Shared} {t u : Tok} {Q : Value → Shared → Prop} {a b : List Nat} (e : a = b) (h : Q (.bool false) s) : wpAny (model prog w) A (compareOp .NotEq (.str (S a) t) (.str (S b) u)) Q E s := by
  subst e
  refine PyProof.Rows.ne_str ?_
  simpa using h
theorem fmod_lo' (a : Int) {n : Int} (h : 0 < n) : 0 ≤ a.fmod n ∧ a.fmod n < n := by
  rw [Int.fmod_eq_emod_of_nonneg _ (by omega)]
  exact ⟨Int.emod_nonneg _ (by omega), Int.emod_lt_of_pos _ h⟩
theorem getD_nonneg {l : List Int} (h : ∀ k ∈ l, 0 ≤ k) (i : Nat) : 0 ≤ l.getD i 0 := by
  rw [List.getD_eq_getElem?_getD]
  cases e : l[i]? with
  | none => exact Int.le_refl _
  | some v => exact h v (List.mem_of_getElem? e)
theorem n7 (mz : Str → Option Value) (a b c d e f g z : Str) : mz z = if z = a then mz a else if z = b then mz b else if z = c then mz c else if z = d then mz d else if z = e then mz e else if z = f then mz f else if z = g then mz g else mz z := by
  repeat' split
  all_goals first | rfl | (subst_vars; rfl)
theorem strip_conI (w : World) (mean : ExcName → Option Value) (mg mb : Str → Option Value) (a b n : Nat) (v : Int) (t0 t1 : Tok) (hv : v = (n : Int)) (hn : n ≤ a + b) (hab : a + b ≤ 14) :
    Con 10 w mean mg mb 185 [.str (S (pad a b)) t0, .int v t1] [] (fun tl v => tl = [] ∧ ∃ t, v = .str (S (pad (a - n) (b - (n - a)))) t) := by
  subst hv
  exact strip_con w mean mg mb a b n t0 t1 hn hab
structure Hid (p : Prop) : Prop where
  out : p
theorem sub_step (h a g x : Nat) : h - a - (g - a) - (x - (a - g)) = h - a - (g + x - a) := by
  rcases Nat.le_total a g with e | e
  · rw [Nat.sub_eq_zero_of_le e, Nat.sub_zero, Nat.sub_sub, ← Nat.sub_add_comm e]
  · rw [Nat.sub_eq_zero_of_le e, Nat.sub_zero, Nat.sub_sub_right x e, Nat.add_comm x g]
theorem sub_max (h a m : Nat) (ha : a ≤ h) (hm : m ≤ h) : h - a - (m - a) = ((h : Int) - if (a : Int) < (m : Int) then (m : Int) else (a : Int)).toNat := by
  split <;> omega
theorem split_val {prog : Program} {w : World} {A : Around} {E : Value → Shared → Prop} {s s0 : Shared} {h₀ h : Heap} {L : Addr} {m : Str → Option Value} {need : List (Addr × Obj)} {c : Sem Value} {Q : Value → Shared → Prop} {P : Nat → Prop}
    (F : Fr h₀ L h m) (N : News h₀ L h need)
    (h1 : ∀ Z : Value → Shared → Prop, (∀ (x : Nat) (t : Tok) (h' : Heap) (tk' : Nat), P x → Fr h₀ L h' m → News h₀ L h' need → Z (.int (x : Int) t) { s with heap := h', toks := tk' }) → wpAny (model prog w) A c Z E s0)
    (h2 : ∀ (x : Nat) (t : Tok) (h' : Heap) (tk' : Nat), P x → Fr h₀ L h' m → News h₀ L h' need → Q (.int (x : Int) t) { s with heap := h', toks := tk' }) : wpAny (model prog w) A c Q E s0 := by
  exact h1 _ h2
theorem rowsA24_2 : True := by
  k_with "eval IfExp" => ((k_here; k_whole; refine Hold.of ?_))
  trivial
theorem won_con (w : World) (mean : ExcName → Option Value) (mg mb : Str → Option Value) (heap ahead : Nat) (limit sz runs more : Int) (r rs rl rn : Addr) (t0 t1 t2 t3 t4 t5 : Tok) (vs vl vn : List Value) (st le nu : List Int) (n1 n2 n3 : Nat)
    (hheap : 1 ≤ heap ∧ heap ≤ 14) (hah : ahead ≤ heap) (hlim : 1 ≤ limit ∧ limit ≤ 1000) (hsz : 1 ≤ sz ∧ sz ≤ 4) (hruns : runs = 1 ∨ runs = 2 ∨ runs = 3) (hmore : 0 ≤ more ∧ more ≤ 2)
    (iS : IntsAre vs st) (iL : IntsAre vl le) (iN : IntsAre vn nu) (eS : st.length = 15) (eL : le.length = 15) (eN : nu.length = 2) (hnu : ∀ k ∈ nu, 0 ≤ k)
    (hle : ∀ h : Nat, 1 ≤ h → h ≤ 14 → 1 ≤ le.getD h 0 ∧ le.getD h 0 ≤ h) (hst : ∀ x : Nat, 1 ≤ x → x ≤ 14 → limitV sz runs.toNat more x = st.getD x 0 ∧ 1 ≤ st.getD x 0 ∧ st.getD x 0 ≤ 1000)
    (hwin : ∀ h x : Nat, 1 ≤ h → h ≤ 14 → le.getD h 0 = x → x ≠ h → ¬ (le.getD (h - x) 0 ≤ st.getD x 0)) (hlose : ∀ h x : Nat, 1 ≤ h → h ≤ 14 → 1 ≤ x → (x : Int) < le.getD h 0 → x ≠ h ∧ le.getD (h - x) 0 ≤ st.getD x 0) :
    ConK 40 w mean mg mb 222 [.int heap t0, .int ahead t1, .int limit t2, .ref r, .ref rs, .ref rl, .ref rn] [(r, tup3 sz runs more t3 t4 t5), (rs, W.listOf vs.toArray n1), (rl, W.listOf vl.toArray n2), (rn, W.listOf vn.toArray n3)] (fun tl v => tl = [] ∧ v = .bool true) := by
  unfold ConK
  walk_at "c.start"
  k_steps
  refine Hold.on ?_
  with_reducible rename IsRange _ _ _ _ _ _ _ _ => lR
  with_reducible rename Fr _ _ _ _ => lF
  with_reducible rename News _ _ _ _ => lN
  k_sweep
  rename_i dp un gd cn cs aa ccd cl outer A₀ base h₀ Lc mc s Q E hk hd hu g L1 h1 gk B X T lx ta tka tb tkb tc tkc td tkd te D1 hb1 lD hb2 hb3 hb4 hb5 tk2 hb6 tk3 tu tv tw
  have hmo : ∀ p ∈ [(r, tup3 sz runs more t3 t4 t5), (rs, W.listOf vs.toArray n1), (rl, W.listOf vl.toArray n2), (rn, W.listOf vn.toArray n3)], p ∈ [(r, tup3 sz runs more t3 t4 t5), (rs, W.listOf vs.toArray n1), (rl, W.listOf vl.toArray n2), (rn, W.listOf vn.toArray n3)] := fun p hp => hp
  have ep : sp (ahead : Int).toNat ++ [120] ++ sp ((heap : Int) - ahead).toNat = pad ahead (heap - ahead) := by
    rw [show (ahead : Int).toNat = ahead by omega, show ((heap : Int) - ahead).toNat = heap - ahead by omega]
    rfl
  rw [ep] at lF
  refine forX_rangeX (fun mz (c : WonS) z => if z = Str.ofString "line" then c.oL else if z = Str.ofString "wins" then c.oW else if z = Str.ofString "gone" then c.oG else if z = Str.ofString "limit" then c.oM else if z = Str.ofString "turn" then c.o1 else if z = Str.ofString "left" then c.o2 else if z = Str.ofString "taken" then c.o3 else mz z) (fun _ => [(r, tup3 sz runs more t3 t4 t5), (rs, W.listOf vs.toArray n1), (rl, W.listOf vl.toArray n2), (rn, W.listOf vn.toArray n3)])
    (fun i c => i ≤ c.g ∧ c.g < heap ∧ 1 ≤ c.lm ∧ c.lm ≤ 1000 ∧ c.w = decide (le.getD (heap - c.g) 0 ≤ c.lm) ∧ (∃ t, c.oL = some (.str (S (pad (ahead - c.g) (heap - ahead - (c.g - ahead)))) t)) ∧ c.oW = some (.bool c.w) ∧ (∃ t, c.oG = some (.int (c.g : Int) t)) ∧ ∃ t, c.oM = some (.int c.lm t))
    (fun mz => ⟨0, limit, decide (le.getD heap 0 ≤ limit), mz (Str.ofString "line"), mz (Str.ofString "wins"), mz (Str.ofString "gone"), mz (Str.ofString "limit"), mz (Str.ofString "turn"), mz (Str.ofString "left"), mz (Str.ofString "taken")⟩) (by rfl) lR (small_one (by omega) (by omega) (by omega) (by omega)) lF (fun p hp => lN p (List.mem_cons_of_mem _ hp)) (n7 _ _ _ _ _ _ _ _) ⟨Nat.le_refl _, hheap.1, hlim.1, hlim.2, rfl, exS rfl (by rw [Nat.zero_sub, Nat.sub_zero, Nat.sub_zero]), rfl, ⟨_, rfl⟩, ⟨_, rfl⟩⟩ ?_ ?_
  · rintro X9 I i ⟨g0, lm, wn, oL, oW, oG, oM, o1, o2, o3⟩ u oI h tk hX9 hi ⟨hig, hgh, hlm1, hlm2, ew, ⟨tL, eL'⟩, eW, ⟨tG, eG⟩, tM, eM⟩ hI' F' N'
    dsimp only at hig hgh hlm1 hlm2 ew eL' eW eG eM F' N' hI' ⊢
    subst eL' eW eG eM
    clear lF lN lR
    refine wpAny_assign_Name ?_
    have hle1 := hle (heap - g0) (by omega) (by omega)
    have e0 : ((heap : Int) - (g0 : Int)).toNat = heap - g0 := by omega
    k_steps
    refine Hold.on ?_
    with_reducible rename Fr _ _ _ _ => lF
    with_reducible rename News _ _ _ _ => lN
    refine split_val (s := s) (P := fun x => 1 ≤ x ∧ x ≤ heap - g0 ∧ (wn = true → le.getD (heap - g0) 0 = (x : Int)) ∧ (wn = false → (x : Int) ≤ lm)) lF lN ?_ ?_
    · intro Z9 hZ9
      cases wn with
      | true =>
        refine wpAny_IfExp ?_
        k_steps
        have hw1 : le.getD (heap - g0) 0 ≤ lm := of_decide_eq_true ew.symm
        obtain ⟨x, hx⟩ : ∃ x : Nat, le.getD (heap - g0) 0 = (x : Int) := ⟨(le.getD (heap - g0) 0).toNat, by omega⟩
        rw [show le.getD ((heap : Int) - (g0 : Int)).toNat 0 = (x : Int) by rw [e0]; exact hx]
        exact hZ9 x _ _ _ ⟨by omega, by omega, fun _ => hx, fun h => (by cases h)⟩ (by assumption) (by assumption)
      | false =>
        refine wpAny_IfExp ?_
        k_steps
        have hnu1 : 0 ≤ nu.getD ((0 + (i : Int)).fmod 2).toNat 0 := getD_nonneg hnu _
        obtain ⟨v, hv⟩ : ∃ v : Int, 1 + (nu.getD ((0 + (i : Int)).fmod 2).toNat 0).fmod (if (heap : Int) - (g0 : Int) < lm then (heap : Int) - (g0 : Int) else lm) = v := ⟨_, rfl⟩
        have hv2 : 1 ≤ v ∧ v ≤ lm ∧ v ≤ (heap : Int) - g0 := by
          rw [← hv]
          split
          · have h1 := fmod_lo' (nu.getD ((0 + (i : Int)).fmod 2).toNat 0) (n := (heap : Int) - (g0 : Int)) (by omega)
            omega
          · have h1 := fmod_lo' (nu.getD ((0 + (i : Int)).fmod 2).toNat 0) (n := lm) (by omega)
            omega
        obtain ⟨x, hx⟩ : ∃ x : Nat, v = (x : Int) := ⟨v.toNat, by omega⟩
        rw [hx] at hv hv2
        rw [hv]
        exact hZ9 x _ _ _ ⟨by omega, by omega, fun h => (by cases h), fun _ => hv2.2.1⟩ (by assumption) (by assumption)
    · clear lF lN
      rintro x tx h8 tk8 ⟨hx1, hx2, hx3, hx4⟩ lF8 lN8
      have hnx : Hid (x ≠ heap - g0 → decide (le.getD (heap - g0 - x) 0 ≤ st.getD x 0) = !wn) := by
        refine ⟨fun hne => ?_⟩
        cases wn with
        | true => exact decide_eq_false (hwin (heap - g0) x (by omega) (by omega) (hx3 rfl) hne)
        | false =>
          have hw1 : ¬ le.getD (heap - g0) 0 ≤ lm := of_decide_eq_false ew.symm
          have hx5 := hx4 rfl
          exact decide_eq_true ((hlose (heap - g0) x (by omega) (by omega) hx1 (by omega)).2)
      have hwn : Hid (x = heap - g0 → wn = true) := by
        refine ⟨fun he => ?_⟩
        cases wn with
        | true => rfl
        | false =>
          exfalso
          have hw1 : ¬ le.getD (heap - g0) 0 ≤ lm := of_decide_eq_false ew.symm
          have hx5 := hx4 rfl
          exact (hlose (heap - g0) x (by omega) (by omega) hx1 (by omega)).1 (by omega)
      clear hwin hlose ew hx3 hx4 hle1
      have hst1 := hst x (by omega) (by omega)
      k_steps
      refine Hold.on ?_
      refine' con_useF (need := []) (strip_conI w mean mg mb (ahead - g0) (heap - ahead - (g0 - ahead)) x _ _ _ rfl (by omega) (by omega)) ?A1 ?B1 ?F1 ?X1 (by k_asm) ?T1 ?hk1 ?hd1 ?hu1 (fun _ _ _ h => nomatch h) ?_
      (case A1 => exact rfl)
      (case B1 => assumption)
      (case F1 => k_asm)
      (case X1 => assumption)
      (case T1 => assumption)
      (case hk1 => first | rfl | assumption)
      (case hd1 => ktr_room)
      (case hu1 => ktr_units)
      rintro r9 tl9 h9 tk9 F9 N9 - ⟨rfl, t9, rfl⟩
      simp only [List.nil_append] at N9
      k_steps
      refine Hold.on ?_
      refine r_ne_S ?_ ?_
      · show pad _ _ = pad _ _
        rw [sub_step, sub_max _ _ _ hah (by omega)]
        all_goals first | rfl | (congr 1 <;> first | rfl | omega)
      k_steps
      · have hw := hwn.out (by omega)
        refine hX9 _ _ ?_
        unfold XEnd
        dsimp only
        rw [hw]
        refine' LeaveC.intro [(r, tup3 sz runs more t3 t4 t5), (rs, W.listOf vs.toArray n1), (rl, W.listOf vl.toArray n2), (rn, W.listOf vn.toArray n3)] ?F5 ?N5 ⟨[], rfl, rfl, rfl⟩
        (case F5 => k_asm)
        (case N5 => (refine' cb_drop ?A6 ?B6; (case A6 => k_asm); (case B6 => lcg_sub)))
      · refine Hold.on ?_
        have hnx := hnx.out (by omega)
        with_reducible rename News _ _ _ _ => N6
        refine' con_useK (limit_con w mean mg mb sz runs more (x : Int) r _ t3 t4 t5 hsz hruns hmore (by omega)) ?A3 ?B3 ?F3 ?X3 N6 (fun p hp => ?hsub3) ?T3 ?hk3 ?hd3 ?hu3 ?_
        (case hsub3 => (rw [List.mem_singleton.mp hp]; simp))
        (case A3 => exact rfl)
        (case B3 => assumption)
        (case F3 => k_asm)
        (case X3 => assumption)
        (case T3 => assumption)
        (case hk3 => first | rfl | assumption)
        (case hd3 => ktr_room)
        (case hu3 => ktr_units)
        rintro r5 tl5 h5 tk5 F5 N5 - ⟨rfl, t5', rfl⟩
        simp only [List.nil_append] at N5
        have elim : limitV sz runs.toNat more (x : Int) = st.getD x 0 := hst1.1
        have e5 : ((heap : Int) - ((g0 : Int) + (x : Int))).toNat = heap - g0 - x := by omega
        have e6 : (x : Int).toNat = x := rfl
        clear N6
        k_steps
        all_goals first | (exfalso; rename_i hz; rw [e5, elim, hnx] at hz; cases wn <;> cases hz; done) | (exfalso; rename_i hz; rw [elim, e6] at hz; exact hz rfl) | skip
        · with_reducible rename Fr _ _ _ _ => lF
          with_reducible rename News _ _ _ _ => lN
          refine hX9 _ _ (XEnd.introC (fun mz => ⟨g0 + x, st.getD x 0, !wn, mz (Str.ofString "line"), mz (Str.ofString "wins"), mz (Str.ofString "gone"), mz (Str.ofString "limit"), mz (Str.ofString "turn"), mz (Str.ofString "left"), mz (Str.ofString "taken")⟩) lF ?_ (fun p hp => lN p ?_) ?_ ⟨?_, ?_, hst1.2.1, hst1.2.2, ?_, exS rfl ?_, rfl, exI rfl ?_, exI rfl elim⟩)
          · intro z
            by_cases h1 : z = Str.ofString "line"
            · subst h1; rfl
            by_cases h2 : z = Str.ofString "wins"
            · subst h2; rfl
            by_cases h3 : z = Str.ofString "gone"
            · subst h3; rfl
            by_cases h4 : z = Str.ofString "limit"
            · subst h4; rfl
            by_cases h5 : z = Str.ofString "turn"
            · subst h5; rfl
            by_cases h6 : z = Str.ofString "left"
            · subst h6; rfl
            by_cases h7 : z = Str.ofString "taken"
            · subst h7; rfl
            simp only [if_neg h1, if_neg h2, if_neg h3, if_neg h4, if_neg h5, if_neg h6, if_neg h7]
          · simp only [List.mem_cons] at hp ⊢
            grind
          · exact hI'
          · show i + 1 ≤ g0 + x
            omega
          · show g0 + x < heap
            omega
          · show (!wn) = decide (le.getD (heap - (g0 + x)) 0 ≤ st.getD x 0)
            rw [show heap - (g0 + x) = heap - g0 - x by omega, hnx]
          · show pad _ _ = pad (ahead - (g0 + x)) (heap - ahead - ((g0 + x) - ahead))
            rw [sub_step]
            congr 1
            omega
          · show _ = ((g0 + x : Nat) : Int)
            omega
  · rintro ⟨g0, lm, wn, oL, oW, oG, oM, o1, o2, o3⟩ h tk ⟨hig, hgh, -⟩ F' N'
    exfalso
    dsimp only at hig hgh
    omega
end
section
theorem rowsA25_0 : True := by
  w_top off
  k_with_none
  trivial
/-- what the plain law asks of one rule -/
def okLim (sz runs more : Int) : Bool :=
  (List.range 15).all fun x => x == 0 || (decide (limitV sz runs.toNat more x = (stopsV sz runs more 14).getD x 0) && decide ((x : Int) ≤ limitV sz runs.toNat more x) && decide (limitV sz runs.toNat more x ≤ 1000))
def okGame (st le : List Int) : Bool :=
  (List.range 15).all fun h => h == 0 || (decide (1 ≤ le.getD h 0) && decide (le.getD h 0 ≤ h) &&
    (List.range 15).all fun x => (!(decide (le.getD h 0 = x)) || x == h || !(decide (le.getD (h - x) 0 ≤ st.getD x 0))) &&
      (!(decide (1 ≤ x)) || !(decide ((x : Int) < le.getD h 0)) || (x != h && decide (le.getD (h - x) 0 ≤ st.getD x 0))))
def psums (l : List Int) : List Int := (List.range l.length).map fun k => (l.take (k + 1)).sum
def toldV (S : List Int) (short : Int) : List Int := if short = 1 then S ++ [S.getLastD 0] else S
def okCut (ms le : List Int) : Bool := (List.range 15).all fun h => decide (2 * cutV ms h = 2 * le.getD h 0)
def okMarks (ms : List Int) : Bool := decide (ms.length ≤ 40) && ms.contains 1 && ms.all fun k => decide (1 ≤ k) && decide (k ≤ 1000)
def okSteps (S : List Int) : Bool := decide (S.length ≤ 20) && decide (1 ≤ S.length) && S.all fun k => decide (1 ≤ k) && decide (k ≤ 100)
def okRule (sz runs more : Int) : Bool :=
  okLim sz runs more &&
  (let st := stopsV sz runs more 14
   let le := neededRun st 14
   let S := stepsV (limitV sz runs.toNat more) 14
   decide (st.length = 15) && okGame st le && okSteps S && okMarks (psums (toldV S 0)) && okMarks (psums (toldV S 1)) && okCut (psums (toldV S 0)) le && okCut (psums (toldV S 1)) le)
def okSz (sz : Int) : Bool := [1, 2, 3].all fun runs => [0, 1, 2].all fun more => okRule sz runs more
theorem okSz1 : okSz 1 = true := by decide +kernel
theorem okSz2 : okSz 2 = true := by decide +kernel
theorem okSz3 : okSz 3 = true := by decide +kernel
theorem okSz4 : okSz 4 = true := by decide +kernel
theorem okRule_of {sz runs more : Int} (h1 : 1 ≤ sz ∧ sz ≤ 4) (h2 : runs = 1 ∨ runs = 2 ∨ runs = 3) (h3 : 0 ≤ more ∧ more ≤ 2) : okRule sz runs more = true := by
  have hs : okSz sz = true := by
    have : sz = 1 ∨ sz = 2 ∨ sz = 3 ∨ sz = 4 := by omega
    rcases this with rfl | rfl | rfl | rfl
    · exact okSz1
    · exact okSz2
    · exact okSz3
    · exact okSz4
  have hm : more = 0 ∨ more = 1 ∨ more = 2 := by omega
  refine List.all_eq_true.mp (List.all_eq_true.mp hs runs ?_) more ?_
  · rcases h2 with rfl | rfl | rfl <;> simp
  · rcases hm with rfl | rfl | rfl <;> simp
/-- the plain law of one rule -/
structure Plain (sz runs more : Int) : Prop where
  lim : ∀ x : Nat, 1 ≤ x → x ≤ 14 → limitV sz runs.toNat more x = (stopsV sz runs more 14).getD x 0 ∧ (x : Int) ≤ limitV sz runs.toNat more x ∧ limitV sz runs.toNat more x ≤ 1000
  len : (stopsV sz runs more 14).length = 15
  le : ∀ h : Nat, 1 ≤ h → h ≤ 14 → 1 ≤ (neededRun (stopsV sz runs more 14) 14).getD h 0 ∧ (neededRun (stopsV sz runs more 14) 14).getD h 0 ≤ h
  win : ∀ h x : Nat, 1 ≤ h → h ≤ 14 → (neededRun (stopsV sz runs more 14) 14).getD h 0 = x → x ≠ h → ¬ ((neededRun (stopsV sz runs more 14) 14).getD (h - x) 0 ≤ (stopsV sz runs more 14).getD x 0)
  lose : ∀ h x : Nat, 1 ≤ h → h ≤ 14 → 1 ≤ x → (x : Int) < (neededRun (stopsV sz runs more 14) 14).getD h 0 → x ≠ h ∧ (neededRun (stopsV sz runs more 14) 14).getD (h - x) 0 ≤ (stopsV sz runs more 14).getD x 0
  steps : ∀ k ∈ stepsV (limitV sz runs.toNat more) 14, 1 ≤ k ∧ k ≤ 100
  slen : 1 ≤ (stepsV (limitV sz runs.toNat more) 14).length ∧ (stepsV (limitV sz runs.toNat more) 14).length ≤ 20
  mlen : ∀ short : Int, short = 0 ∨ short = 1 → (psums (toldV (stepsV (limitV sz runs.toNat more) 14) short)).length ≤ 40
  mone : ∀ short : Int, short = 0 ∨ short = 1 → (1 : Int) ∈ psums (toldV (stepsV (limitV sz runs.toNat more) 14) short)
  mpos : ∀ short : Int, short = 0 ∨ short = 1 → ∀ k ∈ psums (toldV (stepsV (limitV sz runs.toNat more) 14) short), 1 ≤ k ∧ k ≤ 1000
  cut : ∀ short : Int, short = 0 ∨ short = 1 → ∀ h : Nat, h ≤ 14 → 2 * cutV (psums (toldV (stepsV (limitV sz runs.toNat more) 14) short)) h = 2 * (neededRun (stopsV sz runs more 14) 14).getD h 0
theorem plain_of {sz runs more : Int} (h1 : 1 ≤ sz ∧ sz ≤ 4) (h2 : runs = 1 ∨ runs = 2 ∨ runs = 3) (h3 : 0 ≤ more ∧ more ≤ 2) : Plain sz runs more := by
  have h := okRule_of h1 h2 h3
  simp only [okRule, Bool.and_eq_true, decide_eq_true_eq] at h
  obtain ⟨hL, ⟨⟨⟨⟨⟨⟨hlen, hG⟩, hS⟩, hM0⟩, hM1⟩, hC0⟩, hC1⟩⟩ := h
  have hin : ∀ x : Nat, x ≤ 14 → x ∈ List.range 15 := fun x hx => List.mem_range.mpr (by omega)
  have game := fun (h : Nat) (a : 1 ≤ h) (b : h ≤ 14) => by
    have z := List.all_eq_true.mp hG h (hin h b)
    simp only [Bool.or_eq_true, beq_iff_eq, Bool.and_eq_true, decide_eq_true_eq] at z
    exact z.resolve_left (by omega)
  simp only [okSteps, Bool.and_eq_true, decide_eq_true_eq, List.all_eq_true] at hS
  have hM : ∀ short : Int, short = 0 ∨ short = 1 → okMarks (psums (toldV (stepsV (limitV sz runs.toNat more) 14) short)) = true := by
    rintro short (rfl | rfl)
    · exact hM0
    · exact hM1
  have hC : ∀ short : Int, short = 0 ∨ short = 1 → okCut (psums (toldV (stepsV (limitV sz runs.toNat more) 14) short)) (neededRun (stopsV sz runs more 14) 14) = true := by
    rintro short (rfl | rfl)
    · exact hC0
    · exact hC1
  refine ⟨fun x a b => ?_, hlen, fun h a b => (game h a b).1, fun h x a b hx hne hle => ?_, fun h x a b hx hlt => ?_, fun k hk => hS.2 k hk, ⟨hS.1.2, hS.1.1⟩, fun short hs => ?_, fun short hs => ?_, fun short hs k hk => ?_, fun short hs h hh => ?_⟩
  · have z := List.all_eq_true.mp hL x (hin x b)
    simp only [Bool.or_eq_true, beq_iff_eq, Bool.and_eq_true, decide_eq_true_eq] at z
    have := z.resolve_left (by omega)
    exact ⟨this.1.1, this.1.2, this.2⟩
  · have hxb : x ≤ 14 := by have := (game h a b).1.2; omega
    have z := (List.all_eq_true.mp (game h a b).2 x (hin x hxb))
    simp only [Bool.and_eq_true, Bool.or_eq_true, Bool.not_eq_true', decide_eq_false_iff_not, beq_iff_eq] at z
    rcases z.1 with (z1 | z1) | z1
    · exact z1 hx
    · exact hne z1
    · exact z1 hle
  · have hxb : x ≤ 14 := by have := (game h a b).1.2; omega
    have z := (List.all_eq_true.mp (game h a b).2 x (hin x hxb))
    simp only [Bool.and_eq_true, Bool.or_eq_true, Bool.not_eq_true', decide_eq_false_iff_not, bne_iff_ne, decide_eq_true_eq] at z
    rcases z.2 with (z1 | z1) | z1
    · exact absurd hx z1
    · exact absurd hlt z1
    · exact z1
  · have z := hM short hs
    simp only [okMarks, Bool.and_eq_true, decide_eq_true_eq] at z
    exact z.1.1
  · have z := hM short hs
    simp only [okMarks, Bool.and_eq_true, decide_eq_true_eq] at z
    exact List.contains_iff_mem.mp z.1.2
  · have z := hM short hs
    simp only [okMarks, Bool.and_eq_true, decide_eq_true_eq, List.all_eq_true] at z
    exact z.2 k hk
  · have z := List.all_eq_true.mp (hC short hs) h (hin h hh)
    simpa using z
end
section
theorem rowsA26_0 : True := by
  w_top off
  k_with_none
  trivial
section
variable {prog : Program} {w : World} {A : Around} {E : Value → Shared → Prop} {s : Shared}
theorem nextOf_range_item {it : Addr} {x left : Int} {Q : Value → Shared → Prop} (hit : IsRangeIter s.heap it x left 1) (hleft : 0 < left)
    (hQ : ∀ h', IsRangeIter h' it (x + 1) (left - 1) 1 → Heap.SameBut it s.heap h' → Q (.int x s.toks) { s with heap := h', toks := s.toks + 1 }) :
    wpAny (model prog w) A (Builtin.SmallTypes.nextOf (.ref it)) Q E s := by
  have hT : s.TypeIs (.ref it) "range_iterator" := ⟨_, hit, rfl⟩
  unfold Builtin.SmallTypes.nextOf
  refine wpAny_bind (wpAny_callSpecial?_slot (name := Str.ofString "__next__") hT F.slot_range_iterator_next
    (call_meets F.slot_range_iterator_next hT F.entry_range_iterator_next (F.args_range_iterator_next_1 _) (AutoRange.range_iterator___next___range_iterator_1 it x left 1 (by omega)) ⟨hit, ?_⟩))
  exact wpAny_pure (hQ _ (Heap.get?_update_self _ (Heap.get?_update_self _ hit rfl) rfl) ((Heap.SameBut.update ..).trans (Heap.SameBut.update ..)))
theorem nextOf_range_end {it : Addr} {x left : Int} {Q : Value → Shared → Prop} (hh : A.handled = none) (hit : IsRangeIter s.heap it x left 1) (hleft : left ≤ 0)
    (hE : ∀ h' e, Heap.ExtBut it s.heap h' → (∃ o, h'.get? e = some o ∧ o.cls = .type "StopIteration") → E (.ref e) { s with heap := h' }) :
    wpAny (model prog w) A (Builtin.SmallTypes.nextOf (.ref it)) Q E s := by
  have hT : s.TypeIs (.ref it) "range_iterator" := ⟨_, hit, rfl⟩
  unfold Builtin.SmallTypes.nextOf
  refine wpAny_bind (wpAny_callSpecial?_slot (name := Str.ofString "__next__") hT F.slot_range_iterator_next
    (wpAny_call_entry F.slot_range_iterator_next hT F.entry_range_iterator_next ?_ (F.args_range_iterator_next_1 _)))
  show wpAny _ _ (field (.ref it) 0 >>= _) _ _ s
  refine wpAny_bind (wpAny_field hit rfl (x := rawInt x) rfl ?_)
  show wpAny _ _ (field (.ref it) 1 >>= _) _ _ s
  refine wpAny_bind (wpAny_field hit rfl (x := rawInt left) rfl ?_)
  show wpAny _ _ (field (.ref it) 2 >>= _) _ _ s
  refine wpAny_bind (wpAny_field hit rfl (x := rawInt 1) rfl ?_)
  show wpAny _ _ (if left ≤ 0 then _ else _) _ _ s
  rw [if_pos hleft]
  refine wpAny_bind (wpAny_rule ?_)
  refine wpAny_bind ?_
  show wpAny _ _ (newExc (.type "StopIteration") [] >>= _) _ _ _
  refine wpAny_bind ?_
  simp only [newExc, newTuple]
  refine wpAny_bind (wpAny_newObj_type ?_ (by size_fits))
  refine wpAny_bind (m := firstArgMember _ _) (wpAny_of_eq (a := Value.none) (by first | rfl | (simp only [firstArgMember]; rfl)) ?_)
  refine wpAny_newObj_type ?_ (by size_fits)
  simp only [raiseNew]
  refine wpAny_bind (wpAny_handled ?_)
  first | rw [show A.in1.handled = none from hh] | rw [hh]
  refine wpAny_bind (wpAny_pure (wpAny_throw ?_))
  exact hE _ _ (((Heap.ExtBut.refl it s.heap).push _).push _) ⟨_, Heap.get?_push_size _ rfl, rfl⟩
theorem nextOf_gen {a : Addr} {g n : Nat} {gs : GenState} {P : Nat → Shared → Shared → Prop} {Y : Protocol} {Q : Value → Shared → Prop} (hh : A.handled = none)
    (hl : s.heap.NoLimit) (hroom : A.depth < recursionLimit)
    (hg : s.heap.IsGen a g) (hgs : s.gens[g]? = some gs)
    (hgo : gs.Goes (model prog w) A.in1 (fun n s₀ r s₁ => r = .ok (.ret .none) ∧ P n s₀ s₁) Y n (.send .none) (s.setGen g .running))
    (hY : ∀ v s₁ gs', gs'.bare = true → Y (n - 1) (s.setGen g .running) v s₁ (fun r' s'' => match n with
        | 0 => False
        | m + 1 => gs'.Goes (model prog w) A.in1 (fun n s₀ r s₁ => r = .ok (.ret .none) ∧ P n s₀ s₁) Y m r' s'') → Q v (s₁.setGen g gs'))
    (hP : ∀ s₁, P n (s.setGen g .running) s₁ → ∀ h' e, (∀ b o, s₁.heap.get? b = some o → h'.get? b = some o) → (∃ o, h'.get? e = some o ∧ o.cls = .type "StopIteration") → E (.ref e) { s₁.setGen g .finished with heap := h' }) :
    wpAny (model prog w) A (Builtin.SmallTypes.nextOf (.ref a)) Q E s := by
  unfold Builtin.SmallTypes.nextOf
  refine wpAny_bind (wpAny_callSpecial?_slot (name := Str.ofString "__next__") hg.typeIs slot_gen_next
    (wpAny_call_entry slot_gen_next hg.typeIs entry_gen_next ?_ (args_gen_next _)))
  show wpAny _ A.in1 (Builtin.Generator.genWake (.ref a) (.send .none)) _ _ s
  unfold Builtin.Generator.genWake
  refine wpAny_bind (wpAny_holding (wpAny_genNumber hg (wpAny_bind (wpAny_genState hgs ?_))))
  cases gs with
  | running => exact hgo.elim
  | finished => exact hgo.elim
  | _ =>
    refine wpAny_bind (wpAny_roomToWake hl hroom ?_)
    show wpAny _ A.in1 (.resume g (.send .none) [] _) _ _ s
    refine wpAny_resumeQ hgs hgo (fun x s₁ hx => ?_) (fun v s₁ gs' hb hv => ?_)
    · obtain ⟨rfl, hp⟩ := hx
      show wpAny _ A.in1 (newExc (.type "StopIteration") [] >>= _) _ _ _
      refine wpAny_bind ?_
      simp only [newExc, newTuple]
      refine wpAny_bind (wpAny_newObj_type ?_ (by size_fits))
      refine wpAny_bind (m := firstArgMember _ _) (wpAny_of_eq (a := Value.none) (by first | rfl | (simp only [firstArgMember]; rfl)) ?_)
      refine wpAny_newObj_type ?_ (by size_fits)
      simp only [raiseNew]
      refine wpAny_bind (wpAny_bind (wpAny_handled ?_))
      first | rw [show A.in1.handled = none from hh] | rw [hh]
      refine wpAny_throw ?_
      exact hP s₁ hp _ _ (fun b o hb => Heap.get?_push_of_some _ (Heap.get?_push_of_some _ hb)) ⟨_, Heap.get?_push_size _ rfl, rfl⟩
    · exact wpAny_pure ⟨v, rfl, wpAny_pure (hY v s₁ gs' hb hv)⟩
end
/-- a generator's turns, one int a turn -/
structure GenW (prog : Program) (w : World) (A : Around) (a P : Addr) (X wr : Addr → Prop) (G : Array GenState → Array GenState → Prop) (fin : Prop) (N : Nat) (val : Nat → Int) (St : Nat → Shared → Prop) : Prop where
  grefl : ∀ a, G a a
  gtrans : ∀ a b c, G a b → G b c → G a c
  frame : ∀ j (s : Shared) h' tk, St j s → (∀ b o, ¬ X b → s.heap.get? b = some o → h'.get? b = some o) → (Lives P s.heap → Lives P h') → St j { s with heap := h', toks := tk }
  item : ∀ j (s : Shared) (Q : Value → Shared → Prop) (E : Value → Shared → Prop), j < N → St j s → (∀ t s', St (j + 1) s' → Mv wr G s s' → Q (.int (val j) t) s') → wpAny (model prog w) A (Builtin.SmallTypes.nextOf (.ref a)) Q E s
  done : fin → ∀ (s : Shared) (Q : Value → Shared → Prop) (E : Value → Shared → Prop), St N s → (∀ e s', Mv wr G s s' → (∃ o, s'.heap.get? e = some o ∧ o.cls = .type "StopIteration") → E (.ref e) s') → wpAny (model prog w) A (Builtin.SmallTypes.nextOf (.ref a)) Q E s
structure ZipG (z TI TO i1 P : Addr) (X wr : Addr → Prop) : Prop where
  TIz : @Ne Nat TI z
  TOz : @Ne Nat TO z
  i1z : @Ne Nat i1 z
  TITO : @Ne Nat TI TO
  TIi1 : @Ne Nat TI i1
  TOi1 : @Ne Nat TO i1
  Pz : @Ne Nat P z
  PTO : @Ne Nat P TO
  Pi1 : @Ne Nat P i1
  xz : X z
  xTO : X TO
  xi1 : X i1
  wz : ¬ wr z
  wTI : ¬ wr TI
  wTO : ¬ wr TO
  wi1 : ¬ wr i1
abbrev zwr (z TO i1 : Addr) (wr : Addr → Prop) (b : Addr) : Prop := b = z ∨ b = TO ∨ b = i1 ∨ wr b
section
variable {prog : Program} {w : World} {A : Around} {E : Value → Shared → Prop} {s : Shared}
def ZSt (z TI TO i1 a : Addr) (M : Nat) (Stg : Nat → Shared → Prop) (j : Nat) (s : Shared) : Prop :=
  IsZip s.heap z TI TO .none ∧ IsPair s.heap TI (.ref i1) (.ref a) ∧ (∃ x y, IsPair s.heap TO x y) ∧ IsRangeIter s.heap i1 (j : Int) ((M : Int) - (j : Int)) 1 ∧ Stg j s
def ZMid (z TI TO i1 a : Addr) (M : Nat) (Stg : Nat → Shared → Prop) (j : Nat) (T : Addr) (s : Shared) : Prop :=
  IsZip s.heap z TI TO (rawInt T) ∧ IsPair s.heap TI (.ref i1) (.ref a) ∧ (∃ x y, IsPair s.heap TO x y) ∧ IsRangeIter s.heap i1 ((j + 1 : Nat) : Int) ((M : Int) - ((j + 1 : Nat) : Int)) 1 ∧ Stg (j + 1) s
theorem zip_rg_item {z TI TO i1 a P : Addr} {X wrg : Addr → Prop} {fin : Prop} {G : Array GenState → Array GenState → Prop} {N M : Nat} {val : Nat → Int} {Stg : Nat → Shared → Prop} {j : Nat} {Q : Value → Shared → Prop}
    (D : ZipG z TI TO i1 P X wrg) (W : GenW prog w A a P X wrg G fin N val Stg) (hj : j < N) (hM : j < M) (hst : ZSt z TI TO i1 a M Stg j s)
    (hQ : ∀ T t t' s', s'.heap.IsTuple T #[.int (j : Int) t, .int (val j) t'] → T ≠ z → ZMid z TI TO i1 a M Stg j T s' → Mv (zwr z TO i1 wrg) G s s' → Q (.ref T) s') :
    wpAny (model prog w) A (Builtin.«zip.__next__» ⟨[.ref z], []⟩) (fun fin s' => ∃ v, fin = .done (.ret v) ∧ Q v s') E s := by
  obtain ⟨hz, hTI, ⟨x0, y0, hTO⟩, h1, hg⟩ := hst
  have wz := D.wz
  have wTI := D.wTI
  have wTO := D.wTO
  have wi1 := D.wi1
  show wpAny _ _ (field (.ref z) 2 >>= _) _ _ _
  refine wpAny_bind (wpAny_field hz rfl (x := .bool false) rfl ?_)
  show wpAny _ _ (field (.ref z) 3 >>= _) _ _ _
  refine wpAny_bind (wpAny_field hz rfl (x := .ref TI) rfl ?_)
  refine wpAny_bind (wpAny_seqItems hTI rfl ?_)
  show wpAny _ _ (Builtin.SmallTypes.ownedTupleIsFree (.ref z) >>= _) _ _ _
  refine wpAny_bind ?_
  unfold Builtin.SmallTypes.ownedTupleIsFree
  refine wpAny_bind (wpAny_field hz rfl (x := .none) rfl (wpAny_pure ?_))
  simp only [if_true]
  refine wpAny_bind (wpAny_rule ?_)
  refine wpAny_bind (wpAny_field hz rfl (x := .ref TO) rfl ?_)
  refine wpAny_bind (wpAny_setField_rec hz (by simp) fun h₁ hz₁ hs₁ => ?_)
  replace hz₁ : IsZip h₁ z TI TO .ellipsis := hz₁
  refine wpAny_bind ?_
  simp only [List.zipIdx_cons, List.zipIdx_nil, List.forIn_cons, List.forIn_nil]
  refine wpAny_bind (wpAny_bind (wpAny_onRaise ?_))
  show wpAny _ _ (Builtin.SmallTypes.nextOf (.ref i1) >>= _) _ _ _
  have h1' : IsRangeIter h₁ i1 (j : Int) ((M : Int) - (j : Int)) 1 := hs₁.extBut _ _ D.i1z h1
  refine wpAny_bind (nextOf_range_item h1' (by omega) fun h₂ h1₂ hs₂ => wpAny_pure ?_)
  have hTO₂ : IsPair h₂ TO x0 y0 := hs₂.extBut _ _ D.TOi1 (hs₁.extBut _ _ D.TOz hTO)
  refine wpAny_bind (wpAny_seqItems hTO₂ rfl ?_)
  refine wpAny_bind (wpAny_updateSeq_pair hTO₂ fun h₃ hTO₃ hs₃ => ?_)
  replace hTO₃ : IsPair h₃ TO _ y0 := hTO₃
  refine wpAny_bind (wpAny_letGo (wpAny_pure ?_))
  refine wpAny_bind (wpAny_bind (wpAny_onRaise ?_))
  show wpAny _ _ (Builtin.SmallTypes.nextOf (.ref a) >>= _) _ _ _
  have k₃ : ∀ b o, b ≠ z → b ≠ i1 → b ≠ TO → s.heap.get? b = some o → h₃.get? b = some o := fun b o c1 c2 c3 e => hs₃.extBut _ _ c3 (hs₂.extBut _ _ c2 (hs₁.extBut _ _ c1 e))
  have hg₃ := W.frame j s h₃ (s.toks + 1) hg (fun b o hb e => k₃ b o (fun q => hb (q ▸ D.xz)) (fun q => hb (q ▸ D.xi1)) (fun q => hb (q ▸ D.xTO)) e) fun q => ⟨_, k₃ _ _ D.Pz D.Pi1 D.PTO q.choose_spec⟩
  refine wpAny_bind (W.item j _ _ _ hj hg₃ fun t' s₄ hg₄ M₄ => wpAny_pure ?_)
  have hTO₄ : IsPair s₄.heap TO _ y0 := M₄.heap _ _ wTO hTO₃
  refine wpAny_bind (wpAny_seqItems hTO₄ rfl ?_)
  refine wpAny_bind (wpAny_updateSeq_pair hTO₄ fun h₅ hTO₅ hs₅ => ?_)
  replace hTO₅ : IsPair h₅ TO _ _ := hTO₅
  refine wpAny_bind (wpAny_letGo (wpAny_pure (wpAny_pure ?_)))
  refine wpAny_bind (wpAny_seqItems hTO₅ rfl ?_)
  refine wpAny_bind (wpAny_newTuple ?_)
  have hz₄ : IsZip s₄.heap z TI TO .ellipsis := M₄.heap _ _ wz (hs₃.extBut _ _ (Ne.symm D.TOz) (hs₂.extBut _ _ (Ne.symm D.i1z) hz₁))
  have hz₅ : IsZip h₅ z TI TO .ellipsis := hs₅.extBut _ _ (Ne.symm D.TOz) hz₄
  have h1₅ : IsRangeIter h₅ i1 ((j : Int) + 1) ((M : Int) - (j : Int) - 1) 1 := hs₅.extBut _ _ (Ne.symm D.TOi1) (M₄.heap _ _ wi1 (hs₃.extBut _ _ (Ne.symm D.TOi1) h1₂))
  have k₅ : ∀ b o, ¬ zwr z TO i1 wrg b → s.heap.get? b = some o → h₅.get? b = some o := fun b o hb e => by
    simp only [zwr, not_or] at hb
    exact hs₅.extBut _ _ hb.2.1 (M₄.heap _ _ hb.2.2.2 (k₃ b o hb.1 hb.2.2.1 hb.2.1 e))
  have hTI₅ : IsPair h₅ TI (.ref i1) (.ref a) := hs₅.extBut _ _ D.TITO (M₄.heap _ _ wTI (k₃ _ _ D.TIz D.TIi1 D.TITO hTI))
  have hg₅ : Stg (j + 1) { s₄ with heap := h₅ } := by
    have := W.frame (j + 1) s₄ h₅ s₄.toks hg₄ (fun b o hb e => hs₅.extBut _ _ (fun q => hb (q ▸ D.xTO)) e) fun q => ⟨_, hs₅.extBut _ _ D.PTO q.choose_spec⟩
    exact this
  have hzlt : z < h₅.objs.size := Heap.lt_size hz₅
  have hTOlt : TO < h₅.objs.size := Heap.lt_size hTO₅
  have hi1lt : i1 < h₅.objs.size := Heap.lt_size h1₅
  show wpAny _ _ (Builtin.SmallTypes.ownedTupleHandOut (.ref z) (.ref h₅.objs.size) >>= _) _ _ _
  refine wpAny_bind ?_
  unfold Builtin.SmallTypes.ownedTupleHandOut
  have hz₆ : IsZip (h₅.push { cls := .type "tuple", data := .seq #[.int (j : Int) s.toks, .int (val j) t'] }) z TI TO .ellipsis := Heap.get?_push_of_some _ hz₅
  refine wpAny_bind (wpAny_setField_rec hz₆ (by simp) fun h₇ hz₇ hs₇ => ?_)
  replace hz₇ : IsZip h₇ z TI TO (rawInt h₅.objs.size) := hz₇
  refine wpAny_setField_rec hz₇ (by simp) fun h₈ hz₈ hs₈ => ?_
  replace hz₈ : IsZip h₈ z TI TO (rawInt h₅.objs.size) := hz₈
  have up : ∀ c o, c ≠ z → h₅.get? c = some o → h₈.get? c = some o := fun c o c1 e => hs₈.extBut _ _ c1 (hs₇.extBut _ _ c1 (Heap.get?_push_of_some _ e))
  have hT₈ : IsPair h₈ h₅.objs.size (.int (j : Int) s.toks) (.int (val j) t') := hs₈.extBut _ _ (Nat.ne_of_gt hzlt) (hs₇.extBut _ _ (Nat.ne_of_gt hzlt) (Heap.get?_push_size _ rfl))
  refine wpAny_pure ⟨_, rfl, ?_⟩
  refine hQ h₅.objs.size s.toks t' _ ⟨_, hT₈, rfl, _, rfl⟩ (Nat.ne_of_gt hzlt) ⟨hz₈, up _ _ D.TIz hTI₅, ⟨_, _, up _ _ D.TOz hTO₅⟩, ?_, ?_⟩ ⟨fun b o hb e => up _ _ (fun q => hb (.inl q)) (k₅ b o hb e), M₄.gens, M₄.drawn, M₄.os⟩
  · have := up _ _ D.i1z h1₅
    rw [show ((j + 1 : Nat) : Int) = (j : Int) + 1 by push_cast; rfl, show (M : Int) - ((j : Int) + 1) = (M : Int) - (j : Int) - 1 by omega]
    exact this
  · exact W.frame (j + 1) { s₄ with heap := h₅ } h₈ s₄.toks hg₅ (fun b o hb e => up b o (fun q => hb (q ▸ D.xz)) e) fun q => ⟨_, up _ _ D.Pz q.choose_spec⟩
theorem zip_rg_end {z TI TO i1 a P : Addr} {X wrg : Addr → Prop} {fin : Prop} {G : Array GenState → Array GenState → Prop} {N M : Nat} {val : Nat → Int} {Stg : Nat → Shared → Prop} {j : Nat} {Q : Fin → Shared → Prop}
    (hh : A.handled = none) (D : ZipG z TI TO i1 P X wrg) (W : GenW prog w A a P X wrg G fin N val Stg) (hend : M ≤ j ∨ (j < M ∧ j = N ∧ fin)) (hst : ZSt z TI TO i1 a M Stg j s)
    (hE : ∀ e s', Mv (zwr z TO i1 wrg) G s s' → (∃ o, s'.heap.get? e = some o ∧ o.cls = .type "StopIteration") → E (.ref e) s') :
    wpAny (model prog w) A (Builtin.«zip.__next__» ⟨[.ref z], []⟩) Q E s := by
  obtain ⟨hz, hTI, ⟨x0, y0, hTO⟩, h1, hg⟩ := hst
  have wz := D.wz
  have wTO := D.wTO
  show wpAny _ _ (field (.ref z) 2 >>= _) _ _ _
  refine wpAny_bind (wpAny_field hz rfl (x := .bool false) rfl ?_)
  show wpAny _ _ (field (.ref z) 3 >>= _) _ _ _
  refine wpAny_bind (wpAny_field hz rfl (x := .ref TI) rfl ?_)
  refine wpAny_bind (wpAny_seqItems hTI rfl ?_)
  show wpAny _ _ (Builtin.SmallTypes.ownedTupleIsFree (.ref z) >>= _) _ _ _
  refine wpAny_bind ?_
  unfold Builtin.SmallTypes.ownedTupleIsFree
  refine wpAny_bind (wpAny_field hz rfl (x := .none) rfl (wpAny_pure ?_))
  simp only [if_true]
  refine wpAny_bind (wpAny_rule ?_)
  refine wpAny_bind (wpAny_field hz rfl (x := .ref TO) rfl ?_)
  refine wpAny_bind (wpAny_setField_rec hz (by simp) fun h₁ hz₁ hs₁ => ?_)
  replace hz₁ : IsZip h₁ z TI TO .ellipsis := hz₁
  refine wpAny_bind ?_
  simp only [List.zipIdx_cons, List.zipIdx_nil, List.forIn_cons, List.forIn_nil]
  refine wpAny_bind (wpAny_bind (wpAny_onRaise ?_))
  show wpAny _ _ (Builtin.SmallTypes.nextOf (.ref i1) >>= _) _ _ _
  have h1' : IsRangeIter h₁ i1 (j : Int) ((M : Int) - (j : Int)) 1 := hs₁.extBut _ _ D.i1z h1
  rcases hend with hM | ⟨hM, rfl, hfin⟩
  · refine wpAny_bind (nextOf_range_end hh h1' (by omega) fun h₂ e hs₂ he => ?_)
    obtain ⟨oe, hoe, hce⟩ := he
    have hz₂ : IsZip h₂ z TI TO .ellipsis := hs₂ _ _ (Ne.symm D.i1z) hz₁
    have hez : e ≠ z := fun x => by subst x; rw [hz₂] at hoe; cases hoe; simp at hce
    refine wpAny_setField_rec hz₂ (by simp) fun h₃ _ hs₃ => hE e _ ⟨fun b o hb x => ?_, W.grefl _, rfl, rfl⟩ ⟨oe, hs₃.extBut _ _ hez hoe, hce⟩
    simp only [zwr, not_or] at hb
    exact hs₃.extBut _ _ hb.1 (hs₂ _ _ hb.2.2.1 (hs₁.extBut _ _ hb.1 x))
  · refine wpAny_bind (nextOf_range_item h1' (by omega) fun h₂ h1₂ hs₂ => wpAny_pure ?_)
    have hTO₂ : IsPair h₂ TO x0 y0 := hs₂.extBut _ _ D.TOi1 (hs₁.extBut _ _ D.TOz hTO)
    refine wpAny_bind (wpAny_seqItems hTO₂ rfl ?_)
    refine wpAny_bind (wpAny_updateSeq_pair hTO₂ fun h₃ hTO₃ hs₃ => ?_)
    refine wpAny_bind (wpAny_letGo (wpAny_pure ?_))
    refine wpAny_bind (wpAny_bind (wpAny_onRaise ?_))
    show wpAny _ _ (Builtin.SmallTypes.nextOf (.ref a) >>= _) _ _ _
    have k₃ : ∀ b o, b ≠ z → b ≠ i1 → b ≠ TO → s.heap.get? b = some o → h₃.get? b = some o := fun b o c1 c2 c3 e => hs₃.extBut _ _ c3 (hs₂.extBut _ _ c2 (hs₁.extBut _ _ c1 e))
    have hg₃ := W.frame _ s h₃ (s.toks + 1) hg (fun b o hb e => k₃ b o (fun q => hb (q ▸ D.xz)) (fun q => hb (q ▸ D.xi1)) (fun q => hb (q ▸ D.xTO)) e) fun q => ⟨_, k₃ _ _ D.Pz D.Pi1 D.PTO q.choose_spec⟩
    refine wpAny_bind (W.done hfin _ _ _ hg₃ fun e s₄ M₄ he => ?_)
    obtain ⟨oe, hoe, hce⟩ := he
    have hz₄ : IsZip s₄.heap z TI TO .ellipsis := M₄.heap _ _ wz (hs₃.extBut _ _ (Ne.symm D.TOz) (hs₂.extBut _ _ (Ne.symm D.i1z) hz₁))
    have hez : e ≠ z := fun x => by subst x; rw [hz₄] at hoe; cases hoe; simp at hce
    refine wpAny_setField_rec hz₄ (by simp) fun h₅ _ hs₅ => hE e _ ⟨fun b o hb x => ?_, M₄.gens, M₄.drawn, M₄.os⟩ ⟨oe, hs₅.extBut _ _ hez hoe, hce⟩
    simp only [zwr, not_or] at hb
    exact hs₅.extBut _ _ hb.1 (M₄.heap _ _ hb.2.2.2 (k₃ b o hb.1 hb.2.2.1 hb.2.1 x))
theorem WalksP.zipg {z TI TO i1 a P : Addr} {X wrg : Addr → Prop} {fin : Prop} {G : Array GenState → Array GenState → Prop} {N M : Nat} {val : Nat → Int} {Stg : Nat → Shared → Prop}
    (hh : A.handled = none) (D : ZipG z TI TO i1 P X wrg) (W : GenW prog w A.in1 a P X wrg G fin N val Stg) (hfin : N < M → fin) :
    WalksP prog w A z P (fun b => X b ∧ b ≠ z ∧ b ≠ TI ∧ b ≠ TO ∧ b ≠ i1) (zwr z TO i1 wrg) G (min M N) (fun j vals => ∃ t t', vals = #[.int (j : Int) t, .int (val j) t']) (ZSt z TI TO i1 a M Stg) (fun j T s => ZMid z TI TO i1 a M Stg j T s ∧ T ≠ z) where
  grefl := W.grefl
  gtrans := W.gtrans
  frame := fun j s h' tk hst hk hP => by
    obtain ⟨hz, hTI, ⟨x0, y0, hTO⟩, h1, hg⟩ := hst
    exact ⟨hk z _ (fun q => q.2.1 rfl) hz, hk TI _ (fun q => q.2.2.1 rfl) hTI, ⟨_, _, hk TO _ (fun q => q.2.2.2.1 rfl) hTO⟩, hk i1 _ (fun q => q.2.2.2.2 rfl) h1, W.frame j s h' tk hg (fun b o hb e => hk b o (fun q => hb q.1) e) hP⟩
  item := fun j s Q E hj hst hQ => by
    have hT : s.TypeIs (.ref z) "zip" := ⟨_, hst.1, rfl⟩
    unfold pyNext
    refine wpAny_bind (wpAny_attempt (wpAny_callSpecial?_slot (name := Str.ofString "__next__") hT F.slot_zip_next
      (wpAny_call_entry F.slot_zip_next hT F.entry_zip_next (zip_rg_item D W (by omega) (by omega) hst fun T t t' s' hT hne hmid M' => ?_) (F.args_zip_next_1 _))))
    exact wpAny_pure (hQ T _ s' ⟨t, t', rfl⟩ hT ⟨hmid, hne⟩ M')
  go := fun elts k pos j T vals s Q E hm hT hQ => by
    obtain ⟨⟨hz, hTI, ⟨x0, y0, hTO⟩, h1, hg⟩, hne⟩ := hm
    refine wpAny_letOwnedTupleGo_zip hz fun h' hz' hs' => hQ _ ⟨hz', hs'.extBut _ _ D.TIz hTI, ⟨_, _, hs'.extBut _ _ D.TOz hTO⟩, hs'.extBut _ _ D.i1z h1, W.frame (j + 1) s h' s.toks hg (fun b o hb e => hs'.extBut _ _ (fun q => hb (q ▸ D.xz)) e) fun q => ⟨_, hs'.extBut _ _ D.Pz q.choose_spec⟩⟩ (hT.extBut hs'.extBut hne) ⟨fun b o hb e => hs'.extBut _ _ (fun q => hb (.inl q)) e, W.grefl _, rfl, rfl⟩
  done := fun s Q E hst hQ => by
    have hT : s.TypeIs (.ref z) "zip" := ⟨_, hst.1, rfl⟩
    unfold pyNext
    have hend : M ≤ min M N ∨ (min M N < M ∧ min M N = N ∧ fin) := by
      rcases Nat.lt_or_ge N M with h | h
      · exact .inr ⟨by omega, by omega, hfin h⟩
      · exact .inl (by omega)
    refine wpAny_bind (wpAny_attempt (wpAny_callSpecial?_slot (name := Str.ofString "__next__") hT F.slot_zip_next
      (wpAny_call_entry F.slot_zip_next hT F.entry_zip_next (zip_rg_end hh D W hend hst fun e s' M' he => ?_) (F.args_zip_next_1 _))))
    obtain ⟨o, ho, hc⟩ := he
    refine wpAny_bind (wpAny_isInstance (T := "StopIteration") (b := true) ⟨o, ho, hc⟩ isSubtype_stop ?_)
    exact wpAny_pure (hQ _ M')
  self := fun j s Q E hst hQ => wpAny_pyIter_zip hst.1 hQ
end
abbrev zgH1 (h : Heap) (n : Int) : Heap := h.push (rIt 0 n)
abbrev zgH2 (h : Heap) (n : Int) (a : Addr) : Heap := (zgH1 h n).push { cls := .type "tuple", data := .seq #[.ref h.objs.size, .ref a] }
abbrev zgH3 (h : Heap) (n : Int) (a : Addr) : Heap := (zgH2 h n a).push { cls := .type "tuple", data := .seq #[.none, .none] }
abbrev zgH4 (h : Heap) (n : Int) (a : Addr) : Heap := (zgH3 h n a).push { cls := .type "zip", data := .fields #[.none, .bool false, .bool false, .ref (zgH1 h n).objs.size, .ref (zgH2 h n a).objs.size] }
theorem meets_zip_rg (r a : Addr) (b : Int) (t u v : Tok) (g : Nat) (hsmall : Builtin.Range.small 0 b 1 = true) :
    Meets (Builtin.«zip.__new__» ⟨[.type "zip", .ref r, .ref a], []⟩) (fun _ R s => IsRange s.heap r 0 b 1 t u v ∧ s.heap.IsGen a g ∧
      R (.ok (.ret (.ref (zgH3 s.heap (Builtin.Range.rangeSize 0 b 1) a).objs.size))) { s with heap := zgH4 s.heap (Builtin.Range.rangeSize 0 b 1) a }) :=
  .of_wp fun prog w A R s h => by
    obtain ⟨hp, gg, d, tk, os⟩ := s; obtain ⟨hr, hg, h⟩ := h
    have hsub : isSubtype (.type "zip") (.type "zip") = pure true := by rw [isSubtype_type]; kernel_rfl
    have hL1 : IsRange (Shared.heap ⟨hp, gg, d, tk, os⟩) r 0 b 1 t u v := hr
    have hL2 : Heap.IsGen (Shared.heap ⟨hp.push (rIt 0 (Builtin.Range.rangeSize 0 b 1)), gg, d, tk, os⟩) a g := Heap.IsGen.push hg _
    wp_walk using wpAny_pyIter_range hL1 hsmall, wpAny_pyIter_gen hL2
    exact ⟨_, rfl, h⟩
section
variable {prog : Program} {w : World} {A : Around} {E : Value → Shared → Prop} {s : Shared}
theorem call_zip_rg {r a : Addr} {b : Int} {t u v : Tok} {g : Nat} {Q : Value → Shared → Prop} (hr : IsRange s.heap r 0 b 1 t u v) (hsmall : Builtin.Range.small 0 b 1 = true) (hg : s.heap.IsGen a g)
    (h : ∀ h', IsZip h' (s.heap.objs.size + 3) (s.heap.objs.size + 1) (s.heap.objs.size + 2) .none → IsPair h' (s.heap.objs.size + 1) (.ref s.heap.objs.size) (.ref a) →
      IsPair h' (s.heap.objs.size + 2) .none .none → IsRangeIter h' s.heap.objs.size 0 (Builtin.Range.rangeSize 0 b 1) 1 → h'.objs.size = s.heap.objs.size + 4 →
      (∀ c o, s.heap.get? c = some o → h'.get? c = some o) → Q (.ref (s.heap.objs.size + 3)) { s with heap := h' }) :
    wpAny (model prog w) A (call (.type "zip") [.ref r, .ref a]) Q E s := by
  refine callType_new F.called_zip (by decide) (F.typeCall_zip_2 _ _) (F.newCall_zip_2 _ _) (fun obj => F.args_object_init_3 obj _ _) F.entry_zip_new
    (meets_zip_rg r a b t u v g hsmall) ⟨hr, hg, ?_⟩
  have z1 : (zgH1 s.heap (Builtin.Range.rangeSize 0 b 1)).objs.size = s.heap.objs.size + 1 := Heap.size_push ..
  have z2 : (zgH2 s.heap (Builtin.Range.rangeSize 0 b 1) a).objs.size = s.heap.objs.size + 2 := by rw [Heap.size_push, z1]
  have z3 : (zgH3 s.heap (Builtin.Range.rangeSize 0 b 1) a).objs.size = s.heap.objs.size + 3 := by rw [Heap.size_push, z2]
  have z4 : (zgH4 s.heap (Builtin.Range.rangeSize 0 b 1) a).objs.size = s.heap.objs.size + 4 := by rw [Heap.size_push, z3]
  have g4 : (zgH4 s.heap (Builtin.Range.rangeSize 0 b 1) a).get? (zgH3 s.heap (Builtin.Range.rangeSize 0 b 1) a).objs.size = some _ := Heap.get?_push_size _ rfl
  have g3 : (zgH4 s.heap (Builtin.Range.rangeSize 0 b 1) a).get? (zgH2 s.heap (Builtin.Range.rangeSize 0 b 1) a).objs.size = some _ := Heap.get?_push_of_some _ (Heap.get?_push_size _ rfl)
  have g2 : (zgH4 s.heap (Builtin.Range.rangeSize 0 b 1) a).get? (zgH1 s.heap (Builtin.Range.rangeSize 0 b 1)).objs.size = some _ := Heap.get?_push_of_some _ (Heap.get?_push_of_some _ (Heap.get?_push_size _ rfl))
  have g1 : (zgH4 s.heap (Builtin.Range.rangeSize 0 b 1) a).get? s.heap.objs.size = some _ := Heap.get?_push_of_some _ (Heap.get?_push_of_some _ (Heap.get?_push_of_some _ (Heap.get?_push_size _ rfl)))
  show _ ∧ _
  rw [z1, z2, z3] at g4
  rw [z1] at g2
  rw [z2] at g3
  rw [z3]
  exact ⟨⟨_, g4, rfl⟩, h _ g4 g2 g3 g1 z4 fun c o x => Heap.get?_push_of_some _ (Heap.get?_push_of_some _ (Heap.get?_push_of_some _ (Heap.get?_push_of_some _ x)))⟩
end
end
section
theorem rowsA27_0 : True := by
  w_top off
  k_with_none
  trivial
section
variable {M : Model} {A : Around} {R : GenEnd} {Y : Protocol} {n : Nat} {s₀ : Shared} {c : Code} {fs : List Frame} {s : Shared} {env : Env}
  {K : Flow → Sem Fin} {H : Value → Sem Fin} {gd : Bool → Bool} {lv : List Value → List Value}
theorem bind_wrap {α β : Type} (m : Sem α) (f : α → Sem β) {K : β → Sem Fin} : (m >>= f).wrap K H gd lv = m.wrap (fun a => (f a).wrap K H gd lv) H gd lv := by
  rw [Sem.bind_eq_wrap', Sem.wrap_wrap]
  rfl
theorem seg_step {α β : Type} {m : Sem α} {f : α → Sem β} {K : β → Sem Fin} (h : wpAny M (A.over c fs) m (fun a s' => Seg M A R Y n s₀ c ((f a).wrap K H gd lv) fs s') (fun _ _ => False) s) :
    Seg M A R Y n s₀ c ((m >>= f).wrap K H gd lv) fs s := by
  rw [bind_wrap]
  exact seg_wrap (wpAny_mono h (fun _ _ x => x) fun _ _ x => x.elim)
/-- the frame of a loop's call -/
abbrev loopRet (env : Env) (K : Flow → Sem Fin) (H : Value → Sem Fin) (gd : Bool → Bool) (lv : List Value → List Value) (r : Result) : Sem Fin :=
  ((match r with | .ok f => (.pure f : Sem Flow) | .error e => .raise e).onRaise fun (x : Value) => do
    if (← field x 1) == Value.none then unsupported "frame.own-activation:exception-without-traceback"
    setFlight x env.frame).wrap K H gd lv
theorem seg_For {target iter : Expr} {body orelse : List Stmt} {pos : Pos} (hs : ∀ x, foldedSetIterable iter env x = pure x)
    (h : wpAny M (A.over c fs) (eval iter env) (fun x s₁ => wpAny M (A.over c fs) (pyIter x) (fun it s₂ => ∀ p, Seg M A R Y n s₀ (.forLoop target it body orelse env) (M.den (.forLoop target it body orelse env)) (.ret (loopRet env K H gd lv) none (gd false) (lv []) c p [] :: fs) s₂) (fun _ _ => False) s₁) (fun _ _ => False) s) :
    Seg M A R Y n s₀ c ((exec (.For target iter body orelse pos) env).wrap K H gd lv) fs s := by
  rw [exec_For]
  refine seg_step (wpAny_standAt ?_)
  refine seg_step (wpAny_mono h (fun x s₁ h₁ => ?_) fun _ _ e => e)
  rw [hs]
  refine seg_step (wpAny_pure ?_)
  refine seg_step (wpAny_standAt ?_)
  refine seg_step (wpAny_holding (wpAny_mono h₁ (fun it s₂ h₂ => ?_) fun _ _ e => e))
  exact seg_call h₂
theorem seg_If {test : Expr} {body orelse : List Stmt} {pos : Pos}
    (h : wpAny M (A.over c fs) (isTrue test env (eval test env)) (fun b s₁ => Seg M A R Y n s₀ c ((if b = true then execs body env else execs orelse env).wrap K H gd lv) fs s₁) (fun _ _ => False) s) :
    Seg M A R Y n s₀ c ((exec (.If test body orelse pos) env).wrap K H gd lv) fs s := by
  rw [arm_exec_If]
  refine seg_step (wpAny_standAt ?_)
  exact seg_step h
end
section
variable {prog : Program} {w : World} {A : Around} {R : GenEnd} {Y : Protocol} {n : Nat} {s₀ : Shared} {fs : List Frame} {s : Shared} {env : Env}
abbrev forK (c : Code) (f : Flow) : Sem Fin := match f with
  | .next | .cont => .pure (.again c)
  | .brk => .pure (.done .next)
  | .ret v => .pure (.done (.ret v))
abbrev loopH (env : Env) (e : Value) : Sem Fin := (do noteFrame e env; theTreesLotGoes e : Sem Unit).wrap (fun _ => .raise e) .raise id id
theorem seg_forLoop {target : Expr} {it : Value} {body orelse : List Stmt}
    (h : wpAny (model prog w) (A.over (.forLoop target it body orelse env) fs) (pyNext it) (fun r s₁ => ∃ v, r = some v ∧ wpAny (model prog w) (A.over (.forLoop target it body orelse env) fs) (letOwnedTupleGo target it v) (fun _ s₂ =>
      wpAny (model prog w) (A.over (.forLoop target it body orelse env) fs) (assign target env v) (fun _ s₃ =>
        Seg (model prog w) A R Y n s₀ (.forLoop target it body orelse env) ((execs body env).wrap (forK (.forLoop target it body orelse env)) (loopH env) id id) fs s₃) (fun _ _ => False) s₂) (fun _ _ => False) s₁) (fun _ _ => False) s) :
    Seg (model prog w) A R Y n s₀ (.forLoop target it body orelse env) ((model prog w).den (.forLoop target it body orelse env)) fs s := by
  show Seg _ A R Y n s₀ _ ((forTurn target it body orelse env).onRaise (fun x => do noteFrame x env; theTreesLotGoes x)) fs s
  unfold forTurn
  rw [Sem.onRaise_eq_wrap]
  refine seg_step (wpAny_standAt ?_)
  refine seg_step (wpAny_onRaise (wpAny_mono h (fun r s₁ h₁ => ?_) fun _ _ e => e.elim))
  obtain ⟨v, rfl, h₁⟩ := h₁
  refine seg_step (wpAny_mono h₁ (fun _ s₂ h₂ => ?_) fun _ _ e => e)
  refine seg_step (wpAny_mono h₂ (fun _ s₃ h₃ => ?_) fun _ _ e => e)
  rw [bind_wrap]
  rw [Sem.wrap_congr (execs body env) _ _ (K' := forK (.forLoop target it body orelse env)) (H' := loopH env) (fun f => by cases f <;> rfl)
    (fun e => by first | exact Sem.bind_eq_wrap _ _ | (show (do noteFrame e env; theTreesLotGoes e : Sem Unit).bind (fun _ => .raise e) = _; rw [Sem.bind_eq_wrap]))]
  exact h₃
end
end
section
theorem rowsA28_0 : True := by
  w_top off
  k_with_none
  trivial
section
variable {prog : Program} {w : World} {A : Around} {R : GenEnd} {Y : Protocol} {fs : List Frame} {env : Env}
/-- a loop in a generator that never ends and yields once a turn -/
theorem seg_forever {test e : Expr} {p3 p4 : Pos} {I : Shared → Shared → Prop} {V : Nat → Shared → Value → Shared → Prop} {N : Nat}
    (hfs : splitAtGen fs = none) (hfg : fs.any Frame.guarded = false) (hco : env.scope.isCoroutine = false) (hi : interactive env = false)
    (hq : (Code.whileLoop test [.Expr (.Yield (some e) p3) p4] [] env).quiet = true)
    (ht : ∀ A' s₀ s, I s₀ s → wpAny (model prog w) A' (isTrue test env (eval test env)) (fun b s' => b = true ∧ I s₀ s') (fun _ _ => False) s)
    (he : ∀ A' n s₀ s, n < N → I s₀ s → wpAny (model prog w) A' (eval e env) (fun v s' => V n s₀ v s') (fun _ _ => False) s)
    (hY : ∀ n s₀ v s' (kap : Resume → Shared → Prop), n < N → V n s₀ v s' → (0 < n → ∀ s'', I s'' s'' → kap (.send .none) s'') → Y n s₀ v s' kap) :
    ∀ n, n < N → ∀ s₀ s, I s₀ s → Seg (model prog w) A R Y (n + 1) s₀ (.whileLoop test [.Expr (.Yield (some e) p3) p4] [] env)
      ((model prog w).den (.whileLoop test [.Expr (.Yield (some e) p3) p4] [] env)) fs s := by
  intro n
  induction n with
  | zero =>
    intro hn s₀ s hI
    refine seg_whileLoop (wpAny_mono (ht _ _ _ hI) (fun b s' hb => ?_) fun _ _ x => x.elim)
    obtain ⟨rfl, hI'⟩ := hb
    rw [if_pos rfl]
    refine seg_execs_cons (seg_Expr_Yield hfs rfl hfg (wpAny_mono (he _ _ _ _ hn hI') (fun v s₂ hv kap hk => hY _ _ _ _ _ hn hv fun h => absurd h (Nat.lt_irrefl _)) fun _ _ x => x.elim) hco hi)
  | succ n ih =>
    intro hn s₀ s hI
    refine seg_whileLoop (wpAny_mono (ht _ _ _ hI) (fun b s' hb => ?_) fun _ _ x => x.elim)
    obtain ⟨rfl, hI'⟩ := hb
    rw [if_pos rfl]
    refine seg_execs_cons (seg_Expr_Yield hfs rfl hfg (wpAny_mono (he _ _ _ _ hn hI') (fun v s₂ hv kap hk => hY _ _ _ _ _ hn hv fun _ s'' hI'' => hk .none s'' ?_) fun _ _ x => x.elim) hco hi)
    dsimp only
    refine seg_execs_nil ?_
    exact seg_again hq (ih (Nat.lt_of_succ_lt hn) s'' s'' hI'')
end
end
section
theorem rowsA29_0 : True := by
  w_top off
  k_with_none
  trivial
section
variable {prog : Program} {w : World} {A : Around} {R : GenEnd} {Y : Protocol} {fs : List Frame} {env : Env}
/-- the body of the generator's loop -/
abbrev turnBody (t1 t2 t3 tw e0 e : Expr) (ret rse asg : Stmt) (q1 q2 q3 q4 p3 p4 p5 p6 : Pos) : List Stmt :=
  [.If t1 [ret] [] q1, .If t2 [.If t3 [rse] [] q3, .While tw [.Expr (.Yield (some e0) p3) p4] [] q4] [] q2, .Expr (.Yield (some e) p5) p6, asg]
/-- the generator's loop: m values, then the end mark (fin) or the last one for ever, W + 1 turns of it told -/
theorem seg_turns {target t1 t2 t3 tw e0 e : Expr} {ret rse asg : Stmt} {q1 q2 q3 q4 p3 p4 p5 p6 : Pos} {it : Value} {fin : Bool} {m W : Nat}
    {I I1 I2 : Nat → Shared → Shared → Prop} {V : Nat → Shared → Value → Shared → Prop}
    (hfs : splitAtGen fs = none) (hfg : fs.any Frame.guarded = false) (hco : env.scope.isCoroutine = false) (hi : interactive env = false)
    (hq : (Code.forLoop target it (turnBody t1 t2 t3 tw e0 e ret rse asg q1 q2 q3 q4 p3 p4 p5 p6) [] env).quiet = true)
    (hq2 : (Code.whileLoop tw [.Expr (.Yield (some e0) p3) p4] [] env).quiet = true)
    (hnext : ∀ A' j s₀ s, j ≤ m → I j s₀ s → wpAny (model prog w) A' (pyNext it) (fun r s₁ => ∃ v, r = some v ∧ wpAny (model prog w) A' (letOwnedTupleGo target it v) (fun _ s₂ =>
      wpAny (model prog w) A' (assign target env v) (fun _ s₃ => I1 j s₀ s₃) (fun _ _ => False) s₂) (fun _ _ => False) s₁) (fun _ _ => False) s)
    (h1 : ∀ A' j s₀ s, j ≤ m → I1 j s₀ s → wpAny (model prog w) A' (isTrue t1 env (eval t1 env)) (fun b s' => b = (fin && decide (j = m)) ∧ I1 j s₀ s') (fun _ _ => False) s)
    (h2 : ∀ A' j s₀ s, j ≤ m → (fin && decide (j = m)) = false → I1 j s₀ s → wpAny (model prog w) A' (isTrue t2 env (eval t2 env)) (fun b s' => b = decide (j = m) ∧ I1 j s₀ s') (fun _ _ => False) s)
    (h3 : ∀ A' s₀ s, I1 m s₀ s → wpAny (model prog w) A' (isTrue t3 env (eval t3 env)) (fun b s' => b = false ∧ I1 m s₀ s') (fun _ _ => False) s)
    (hw : ∀ A' s₀ s, I1 m s₀ s → wpAny (model prog w) A' (isTrue tw env (eval tw env)) (fun b s' => b = true ∧ I1 m s₀ s') (fun _ _ => False) s)
    (hret : ∀ A' s₀ s, I1 m s₀ s → wpAny (model prog w) A' (exec ret env) (fun f s' => f = .ret .none ∧ I1 m s₀ s') (fun _ _ => False) s)
    (he0 : ∀ A' s₀ s, I1 m s₀ s → wpAny (model prog w) A' (eval e0 env) (fun v s' => V m s₀ v s') (fun _ _ => False) s)
    (he : ∀ A' j s₀ s, j < m → I1 j s₀ s → wpAny (model prog w) A' (eval e env) (fun v s' => V j s₀ v s') (fun _ _ => False) s)
    (ha : ∀ A' j s, j < m → I2 j s s → wpAny (model prog w) A' (exec asg env) (fun f s' => f = .next ∧ I (j + 1) s s') (fun _ _ => False) s)
    (hY : ∀ j s₀ v s' (kap : Resume → Shared → Prop), j < m → V j s₀ v s' → ((fin = true ∨ j < m) → ∀ s'', I2 j s'' s'' → kap (.send .none) s'') → Y (m - 1 - j + if fin then 0 else W + 1) s₀ v s' kap)
    (hYm : fin = false → ∀ n, n ≤ W → ∀ s₀ v s' (kap : Resume → Shared → Prop), V m s₀ v s' → (0 < n → ∀ s'', I2 m s'' s'' → kap (.send .none) s'') → Y n s₀ v s' kap)
    (hI2 : fin = false → ∀ s, I2 m s s → I1 m s s)
    (hend : fin = true → ∀ s₀ s, I1 m s₀ s → Seg (model prog w) A R Y 0 s₀ (.forLoop target it (turnBody t1 t2 t3 tw e0 e ret rse asg q1 q2 q3 q4 p3 p4 p5 p6) [] env) (.pure (.done (.ret .none))) fs s) :
    ∀ k j, j + k = m → ∀ s₀ s, I j s₀ s → Seg (model prog w) A R Y (k + if fin then 0 else W + 1) s₀ (.forLoop target it (turnBody t1 t2 t3 tw e0 e ret rse asg q1 q2 q3 q4 p3 p4 p5 p6) [] env)
      ((model prog w).den (.forLoop target it (turnBody t1 t2 t3 tw e0 e ret rse asg q1 q2 q3 q4 p3 p4 p5 p6) [] env)) fs s := by
  intro k
  induction k with
  | zero =>
    intro j hj s₀ s hI
    obtain rfl : j = m := by omega
    refine seg_forLoop (wpAny_mono (hnext _ _ _ _ (Nat.le_refl _) hI) (fun r s₁ hr => ?_) fun _ _ x => x.elim)
    obtain ⟨v, rfl, hr⟩ := hr
    refine ⟨v, rfl, wpAny_mono hr (fun _ s₂ hr => wpAny_mono hr (fun _ s₃ hr => ?_) fun _ _ x => x.elim) fun _ _ x => x.elim⟩
    refine seg_execs_cons (seg_If (wpAny_mono (h1 _ _ _ _ (Nat.le_refl _) hr) (fun b s₄ hb => ?_) fun _ _ x => x.elim))
    obtain ⟨rfl, hI1⟩ := hb
    cases fin with
    | true =>
      simp only [decide_true, Bool.and_true, if_true]
      refine seg_execs_cons (seg_wrap (wpAny_mono (hret _ _ _ hI1) (fun f s₅ hf => ?_) fun _ _ x => x.elim))
      obtain ⟨rfl, hI1⟩ := hf
      exact hend rfl _ _ hI1
    | false =>
      simp only [Bool.false_and, Bool.false_eq_true, if_false]
      refine seg_execs_nil (seg_execs_cons (seg_If (wpAny_mono (h2 _ _ _ _ (Nat.le_refl _) rfl hI1) (fun b s₅ hb => ?_) fun _ _ x => x.elim)))
      obtain ⟨rfl, hI1⟩ := hb
      simp only [decide_true, if_true]
      refine seg_execs_cons (seg_If (wpAny_mono (h3 _ _ _ hI1) (fun b s₆ hb => ?_) fun _ _ x => x.elim))
      obtain ⟨rfl, hI1⟩ := hb
      simp only [Bool.false_eq_true, if_false]
      refine seg_execs_nil (seg_execs_cons (seg_While fun p => ?_))
      rw [Nat.zero_add]
      refine seg_forever (N := W + 1) (I := I1 j) (V := fun _ => V j) (by simp [splitAtGen, hfs]) (by simp [Frame.guarded, hfg]) hco hi hq2 hw (fun A' n s₀ s _ h => he0 A' s₀ s h)
        (fun n s₀ v s' kap hn hv hk => hYm rfl n (Nat.le_of_lt_succ hn) _ _ _ _ hv fun h s'' hI => hk h s'' (hI2 rfl _ hI)) W (Nat.lt_succ_self _) _ _ hI1
  | succ k ih =>
    intro j hj s₀ s hI
    have hjm : j < m := by omega
    refine seg_forLoop (wpAny_mono (hnext _ _ _ _ (Nat.le_of_lt hjm) hI) (fun r s₁ hr => ?_) fun _ _ x => x.elim)
    obtain ⟨v, rfl, hr⟩ := hr
    refine ⟨v, rfl, wpAny_mono hr (fun _ s₂ hr => wpAny_mono hr (fun _ s₃ hr => ?_) fun _ _ x => x.elim) fun _ _ x => x.elim⟩
    have hd : decide (j = m) = false := decide_eq_false (Nat.ne_of_lt hjm)
    have hd' : (fin && decide (j = m)) = false := by rw [hd, Bool.and_false]
    refine seg_execs_cons (seg_If (wpAny_mono (h1 _ _ _ _ (Nat.le_of_lt hjm) hr) (fun b s₄ hb => ?_) fun _ _ x => x.elim))
    obtain ⟨rfl, hI1⟩ := hb
    rw [hd']
    simp only [Bool.false_eq_true, if_false]
    refine seg_execs_nil (seg_execs_cons (seg_If (wpAny_mono (h2 _ _ _ _ (Nat.le_of_lt hjm) hd' hI1) (fun b s₅ hb => ?_) fun _ _ x => x.elim)))
    obtain ⟨rfl, hI1⟩ := hb
    rw [hd]
    simp only [Bool.false_eq_true, if_false]
    rw [show k + 1 + (if fin = true then 0 else W + 1) = (k + if fin = true then 0 else W + 1) + 1 by omega]
    refine seg_execs_nil (seg_execs_cons (seg_Expr_Yield hfs rfl hfg (wpAny_mono (he _ _ _ _ hjm hI1) (fun v s₆ hv kap hk => ?_) fun _ _ x => x.elim) hco hi))
    rw [show k = m - 1 - j by omega]
    refine hY _ _ _ _ _ hjm hv fun _ s'' hI2 => hk .none s'' ?_
    dsimp only
    refine seg_execs_cons (seg_wrap (wpAny_mono (ha _ _ _ hjm hI2) (fun f s₇ hf => ?_) fun _ _ x => x.elim))
    obtain ⟨rfl, hI'⟩ := hf
    dsimp only
    refine seg_execs_nil ?_
    exact seg_again hq (ih (j + 1) (by omega) s'' s₇ hI')
end
end
section
theorem rowsA30_0 : True := by
  w_top off
  k_with_none
  trivial
section
variable {prog : Program} {w : World} {A₀ A : Around} {s : Shared} {base h₀ : Heap} {outer : List Env} {L : Addr} {m : Str → Option Value} {env : Env} {K : Frag} {p : Program} {loose : List Str} {mean : ExcName → Option Value} {mg mb : Str → Option Value}
  {R : Result → Shared → Prop} {name qual : Str} {params : Arguments} {body : List Stmt} {scope : Scope} {dV kV doc pm cdv ct oc : Value} {an od : Option Addr} {osl : Array (Option Value)} {f : Addr} {args : Args} {binds : List (Str × Value)}
/-- the call of a generator function: the new generator and its frame, over all that there was -/
theorem con_gen (F : Fr h₀ L s.heap m) (X₀ : K.In h₀) (T : Top p loose mean mg mb h₀)
    (ho : K.lookup f = some ⟨oc, od, .func (fnOf name qual params body scope dV kV doc pm an cdv ct), osl⟩) (hcd : codeIn K cdv qual = true) (hroom : A.depth < recursionLimit)
    (hbind : BindsTo s (fnOf name qual params body scope dV kV doc pm an cdv ct) args binds) (hkind : (binds.all fun y => scope.names.lookup y.1 == some .local || scope.names.lookup y.1 == some .cell) = true)
    (hco : scope.isCoroutine = false) (hgen : scope.isGenerator = true) (hk : scope.kind = .function)
    (h : ∀ C h₁ h₂ tk, Fr s.heap C h₁ (bindL (envOfC qual scope C f cdv).kindOf binds fun _ => none) → C < h₁.objs.size → h₂.IsGen h₁.objs.size s.gens.size → h₂.objs.size = h₁.objs.size + 1 → (∀ b o, h₁.get? b = some o → h₂.get? b = some o) → (∀ b o, s.heap.get? b = some o → h₁.get? b = some o) → C = s.heap.objs.size →
      R (.ok (.ret (.ref h₁.objs.size))) { s with heap := h₂, gens := s.gens.push (.fresh (.func body (envOfC qual scope C f cdv))), toks := tk }) :
    codeAny (model prog w) A (.call (.ref f) args) R s := by
  refine codeAny_call_generator hroom ((X₀.keeps F.keep) _ _ ho) rfl hco hgen rfl (codeRec_of (X₀.keeps F.keep) hcd) (hbind _ _ _ _ ?_)
  refine wpAny_newFunctionEnv_cells hk (kindsX hkind _) fun env' he s' x => ?_
  subst he
  refine ⟨(T.nolimit.keeps F.keep).keeps x.toInCall.keep, ?_⟩
  obtain ⟨h₁, tk, rfl, _⟩ := x.done
  have hk₁ := x.toInCall.keep
  exact h s.heap.objs.size h₁ _ _ ⟨x.toInCall.ns, fun b o e => hk₁ b o e, Nat.le_refl _⟩ x.toInCall.ns.lt ⟨_, _, _, Heap.get?_push_size _ rfl, rfl, rfl, rfl⟩ (Heap.size_push ..) (fun b o e => Heap.get?_push_of_some _ e) hk₁ rfl
end
end
section
theorem rowsA31_0 : True := by
  w_top off
  k_with_none
  trivial
theorem GR.setGen {s s₁ : Shared} {g : Nat} {y : GenState} (h : s₁.gens = (s.setGen g .running).gens) (hy : y.bare = true) : GR s.gens (s₁.setGen g y).gens := fun ha z hz => by
  obtain ⟨k, hk, e⟩ := Array.mem_iff_getElem.mp hz
  have e' : (s₁.setGen g y).gens[k]? = some z := by rw [Array.getElem?_eq_getElem hk, e]
  simp only [Shared.setGen] at e' h
  rw [h] at e'
  by_cases hg : g = k
  · subst hg
    rw [Array.getElem?_setIfInBounds] at e'
    rw [if_pos rfl] at e'
    split at e'
    · cases e'; exact hy
    · cases e'
  · rw [Array.getElem?_setIfInBounds_ne hg, Array.getElem?_setIfInBounds_ne hg] at e'
    exact ha z (Array.mem_of_getElem? e')
/-- a generator with frame C, object a, turned by a comp whose frame is P: what others may write, what it may write -/
abbrev gX (a P : Addr) (b : Addr) : Prop := a < b ∧ b ≤ P
abbrev gW (C P : Addr) (b : Addr) : Prop := b = C ∨ P < b
/-- what a turn changes -/
def gKeep (C P : Addr) (s s' : Shared) : Prop := ∃ h tk, s' = { s with heap := h, toks := tk } ∧ ∀ b o, ¬ gW C P b → s.heap.get? b = some o → h.get? b = some o
/-- what others change -/
def gFree (a P : Addr) (s s'' : Shared) : Prop := (∀ b o, ¬ gX a P b → s.heap.get? b = some o → s''.heap.get? b = some o) ∧ Lives P s''.heap
def gY (a C P : Addr) (fin : Prop) (N : Nat) (val : Nat → Int) : Protocol := fun k s₀ v s' kap =>
  (∃ t, v = .int (val (N - 1 - k)) t) ∧ gKeep C P s₀ s' ∧ ((fin ∨ 0 < k) → ∀ s'' : Shared, gFree a P s' s'' → kap (.send .none) s'')
def gP (C P : Addr) (n : Nat) (s₀ s₁ : Shared) : Prop := n = 0 ∧ gKeep C P s₀ s₁
def gSt (prog : Program) (w : World) (A : Around) (a C P : Addr) (gi : Nat) (fin : Prop) (N : Nat) (val : Nat → Int) (j : Nat) (s : Shared) : Prop :=
  s.heap.IsGen a gi ∧ s.heap.NoLimit ∧ Lives P s.heap ∧ ∃ gs, s.gens[gi]? = some gs ∧ gs.bare = true ∧ ((fin ∨ j < N) → ∀ s'' : Shared, gFree a P s s'' →
    gs.Goes (model prog w) A.in1 (fun n s₀ r s₁ => r = .ok (.ret .none) ∧ gP C P n s₀ s₁) (gY a C P fin N val) (N - j) (.send .none) s'')
theorem genW {prog : Program} {w : World} {A : Around} {a C P : Addr} {gi : Nat} {fin : Prop} {N : Nat} {val : Nat → Int} (hh : A.handled = none) (hroom : A.depth < recursionLimit)
    (hCa : @LT.lt Nat _ C a) (haP : @LT.lt Nat _ a P) (hcs : @LT.lt Nat _ cStatics C) :
    GenW prog w A a P (gX a P) (gW C P) GR fin N val (gSt prog w A a C P gi fin N val) where
  grefl := GR.refl
  gtrans := fun _ _ _ x y => x.trans y
  frame := fun j s h' tk st hk hP =>
    ⟨let ⟨o, nm, qn, ho, r⟩ := st.1; ⟨o, nm, qn, hk a o (fun h => Nat.lt_irrefl _ h.1) ho, r⟩,
     (let ⟨mc, hns, hnn⟩ := st.2.1; ⟨mc, hns.at' fun o e => hk cStatics o (fun h => Nat.lt_asymm (Nat.lt_trans hcs hCa) h.1) e, hnn⟩),
     hP st.2.2.1,
     let ⟨gs, hgs, hb, hgo⟩ := st.2.2.2; ⟨gs, hgs, hb, fun hf s'' hal => hgo hf s'' ⟨fun b o hb e => hal.1 b o hb (hk b o hb e), hal.2⟩⟩⟩
  item := fun j s Q E hj st hQ => by
    obtain ⟨hg, hl, hP, gs, hgs, hb, hgo⟩ := st
    replace hgo := hgo (.inr hj)
    obtain ⟨m, hm⟩ : ∃ m, N - j = m + 1 := ⟨N - j - 1, by omega⟩
    rw [hm] at hgo
    refine nextOf_gen (P := gP C P) hh hl hroom hg hgs (hgo _ ⟨fun _ _ _ e => e, hP⟩) (fun v s₁ gs' hb' hv => ?_) (fun s₁ hp h' e hk he => ?_)
    · obtain ⟨⟨t, rfl⟩, ⟨h₁, tk₁, rfl, hk₁⟩, hkap⟩ := hv
      have e1 : N - 1 - (m + 1 - 1) = j := by omega
      have ka : ∀ b o, ¬ gW C P b → s.heap.get? b = some o → h₁.get? b = some o := hk₁
      have nW : ∀ b, @Ne Nat b C → ¬ @LT.lt Nat _ P b → ¬ gW C P b := fun b h1 h2 h => h.elim h1 h2
      rw [e1]
      refine hQ t _ ⟨let ⟨o, nm, qn, ho, r⟩ := hg; ⟨o, nm, qn, ka a o (nW _ (Nat.ne_of_gt hCa) (Nat.lt_asymm haP)) ho, r⟩,
        (let ⟨mc, hns, hnn⟩ := hl; ⟨mc, hns.at' fun o e => ka cStatics o (nW _ (Nat.ne_of_lt hcs) (Nat.lt_asymm (Nat.lt_trans (Nat.lt_trans hcs hCa) haP))) e, hnn⟩),
        ⟨_, ka P _ (nW _ (Nat.ne_of_gt (Nat.lt_trans hCa haP)) (Nat.lt_irrefl _)) hP.choose_spec⟩, gs', setGen_self (gs := .running) (setGen_self hgs), hb', fun hf s'' hal => ?_⟩
        ⟨fun b o hb e => ka b o hb e, GR.setGen rfl hb', rfl, rfl⟩
      have e : N - (j + 1) = m := by omega
      rw [e]
      exact hkap (hf.imp id fun h => by omega) s'' hal
    · exact absurd hp.1 (Nat.succ_ne_zero m)
  done := fun hfin s Q E st hE => by
    obtain ⟨hg, hl, hP, gs, hgs, hb, hgo⟩ := st
    replace hgo := hgo (.inl hfin)
    rw [Nat.sub_self] at hgo
    refine nextOf_gen (P := gP C P) hh hl hroom hg hgs (hgo _ ⟨fun _ _ _ e => e, hP⟩) (fun v s₁ gs' hb' hv => ?_) (fun s₁ hp h' e hk he => ?_)
    · obtain ⟨_, _, hkap⟩ := hv
      exact False.elim (hkap (.inl hfin) s₁ ⟨fun _ _ _ e => e, by
        obtain ⟨h₁, tk₁, rfl, hk₁⟩ := ‹gKeep C P _ _›
        exact ⟨_, hk₁ P _ (fun h => h.elim (Nat.ne_of_gt (Nat.lt_trans hCa haP)) (Nat.lt_irrefl _)) hP.choose_spec⟩⟩)
    · obtain ⟨_, h₁, tk₁, rfl, hk₁⟩ := hp
      exact hE _ _ ⟨fun b o hb e => hk b o (hk₁ b o hb e), GR.setGen rfl rfl, rfl, rfl⟩ he
end
section
theorem rowsA32_0 : True := by
  w_top off
  k_with_none
  trivial
section
variable {prog : Program} {w : World} {A : Around} {s : Shared} {h₀ : Heap} {L : Addr} {m : Str → Option Value} {env : Env} {news : List (Addr × Obj)} {E : Value → Shared → Prop} {Q : Value → Shared → Prop}
theorem zipg_comp {elt iter : Expr} {ifs : List Expr} {x x₂ : Str} {px px₂ tp : Pos} {kk : Nat} {scope : Scope} {cl : List (Str × Addr)} {pos : Pos} {r a Cg : Addr} {gi M N : Nat} {b : Int} {t u v : Tok} {val : Nat → Int} {fin : Prop}
    (hh : A.handled = none) (hcells : ∀ n, cellsLed n scope.names = []) (hcl : ∀ n, cellsFrom n scope.names cl = cl) (hxx : x ≠ x₂) (hx : scope.names.lookup x = some .local) (hx₂ : scope.names.lookup x₂ = some .local) (hkind : scope.kind = .function)
    (hr : IsRange s.heap r 0 b 1 t u v) (hsmall : Builtin.Range.small 0 b 1 = true) (hM : Builtin.Range.rangeSize 0 b 1 = (M : Int)) (hg : s.heap.IsGen a gi) (hCa : @LT.lt Nat _ Cg a) (hcs : @LT.lt Nat _ cStatics Cg) (hroom : A.in1.depth < recursionLimit) (hfin : N < M → fin)
    (J : Nat → List Value → Prop) (hn : min M N ≤ 1000) (F : Fr h₀ L s.heap m) (Nw : News h₀ L s.heap news) (hCn : h₀.get? Cg = none) (hLC : @Ne Nat L Cg) (hnC : ∀ p ∈ news, @Ne Nat p.1 Cg) (hi : J 0 [])
    (hgen : ∀ P h', @LT.lt Nat _ a P → Lives P h' → (∀ b o, s.heap.get? b = some o → h'.get? b = some o) → gSt prog w A.in1 a Cg P gi fin N val 0 { s with heap := h' })
    (turn : ∀ D C, @LT.lt Nat _ D C → ∀ i us t t' h tk gs m₂ oC (E' : Value → Shared → Prop), i < min M N → J i us → LCg.NsObj oC m₂ → m₂ x = some (.int (i : Int) t) → m₂ x₂ = some (.int (val i) t') → Fr h₀ L h m → News h₀ L h ((C, oC) :: (D, LCg.lst us) :: news) →
      wpAny (model prog w) A (testsOf ifs (compEnvC scope cl C env)) (fun ok s₂ => if ok = true then wpAny (model prog w) A (eval elt (compEnvC scope cl C env)) (fun y s₃ => KeepJ { s with heap := h, toks := tk, gens := gs } (J (i + 1) (us ++ [y])) s₃) E' s₂ else KeepJ { s with heap := h, toks := tk, gens := gs } (J (i + 1) us) s₂) E' { s with heap := h, toks := tk, gens := gs })
    (done : ∀ D us h tk gs, J (min M N) us → GR s.gens gs → (∀ p ∈ news, @LT.lt Nat _ p.1 D) → Fr h₀ L h m → News h₀ L h ((D, LCg.lst us) :: news) → Q (.ref D) { s with heap := h, toks := tk, gens := gs }) :
    wpAny (model prog w) A (call (.type "zip") [.ref r, .ref a]) (fun xv s₁ => wpAny (model prog w) A (pyIter xv) (fun it s₂ => wpAny (model prog w) A (newList []) (fun acc s₃ => wpAny (model prog w) A (newFunctionEnv scope env.globals cl [] env.qual none .none (some env)) (fun cenv s₄ =>
      codeAny (model prog w) A (.compStart (.ListComp elt [⟨.Tuple [.Name x px, .Name x₂ px₂] kk tp, iter, ifs, 0⟩] scope pos) 0 it acc { cenv with scope := relabel scope env }) (compPost (model prog w) A E none Q acc cenv.locals) s₄) E s₃) E s₂) E s₁) E s := by
  have lta : @LT.lt Nat _ a s.heap.objs.size := let ⟨o, _, _, ho, _⟩ := hg; Heap.lt_size ho
  refine call_zip_rg hr hsmall hg fun h' hz hTI hTO hi1 hsz hk => ?_
  refine wpAny_pyIter_zip hz ?_
  have F1 : Fr h₀ L h' m := F.keeps hk
  have N1 : News h₀ L h' news := Nw.grown hk
  have fresh₀ : ∀ c, s.heap.objs.size ≤ c → h₀.get? c = none := fun c hc => by
    cases e : h₀.get? c with
    | none => rfl
    | some o' => exact absurd (Heap.lt_size (F.keep c o' e)) (Nat.not_lt.mpr hc)
  refine comp_run (I := s.heap.objs.size + 3) F1 N1 (fun h Q E hk q => wpAny_pyIter_zip (hk _ _ hz) q) fun D C h₁ oC m₂ hD hk₁ hC hDC hnD _ F₁ N₁ => ?_
  have hD' : D = s.heap.objs.size + 4 := hD.trans hsz
  rw [hcells, List.nil_append] at N₁
  rw [hcl]
  have up : ∀ b o, s.heap.get? b = some o → h₁.get? b = some o := fun b o e => hk₁ b o (hk b o e)
  have haC : @LT.lt Nat _ a C := Nat.lt_trans (Nat.lt_trans lta (by rw [hD']; show @LT.lt Nat _ _ _; omega)) hDC
  have hz0 : @LT.lt Nat _ (s.heap.objs.size + 3) C := Nat.lt_trans (by rw [hD']; show @LT.lt Nat _ _ _; omega) hDC
  have hCl : @LT.lt Nat _ Cg s.heap.objs.size := Nat.lt_trans hCa lta
  generalize hS : s.heap.objs.size = S at *
  have DZ : ZipG (S + 3) (S + 1) (S + 2) S C (gX a C) (gW Cg C) := by
    constructor
    all_goals (first | (show @Ne Nat _ _; omega) | (show @LT.lt Nat _ _ _ ∧ @LE.le Nat _ _ _; constructor <;> (show @LT.lt Nat _ _ (_ + _)); omega) | (show @LT.lt Nat _ _ _ ∧ @LE.le Nat _ _ _; omega) | (show ¬ (@Eq Nat _ _ ∨ @LT.lt Nat _ _ _); omega))
  have hC1 : ∀ q, C ≤ q → h₀.get? q = none := fun q hq => fresh₀ q (Nat.le_trans (Nat.le_trans (by show @LE.le Nat _ _ _; omega) (Nat.le_of_lt hz0)) hq)
  have hW : ∀ q, zwr (S + 3) (S + 2) S (gW Cg C) q → @Eq Nat q Cg ∨ @LE.le Nat _ S q := by
    rintro q (h | h | h | h | h)
    · exact .inr (by rw [h]; show @LE.le Nat _ _ _; omega)
    · exact .inr (by rw [h]; show @LE.le Nat _ _ _; omega)
    · exact .inr (by rw [h]; exact Nat.le_refl _)
    · exact .inl h
    · exact .inr (by have h : @LT.lt Nat _ C q := h; show @LE.le Nat _ _ _; omega)
  have hWD : ¬ zwr (S + 3) (S + 2) S (gW Cg C) D := by
    rintro (h | h | h | h | h)
    all_goals first | (have h : @Eq Nat D _ := h; omega) | (have h : @LT.lt Nat _ C D := h; omega)
  have hWC : ¬ zwr (S + 3) (S + 2) S (gW Cg C) C := by
    rintro (h | h | h | h | h)
    all_goals first | (have h : @Eq Nat C _ := h; omega) | (have h : @LT.lt Nat _ C C := h; omega)
  refine comp_pairs (s := { s with heap := h₁ }) (WalksP.zipg (M := M) hh DZ (genW hh hroom hCa haC hcs) hfin) hh (fun i vals hv => by obtain ⟨a, b, e⟩ := hv; exact ⟨_, _, e⟩) hxx hx hx₂ hkind J hn
    ⟨hk₁ _ _ hz, hk₁ _ _ hTI, ⟨_, _, hk₁ _ _ hTO⟩, ?_, hgen C h₁ haC ⟨_, (N₁ _ List.mem_cons_self).1⟩ up⟩ ?_ ?_ hWC hWD (fun b hb => ?_) (fun hm => ?_) (fun p hp hm => ?_)
    hC (Ne.symm (Nat.ne_of_lt hDC)) F₁ N₁ (fun p hp => ⟨Nat.ne_of_lt (Nat.lt_trans (hnD p hp) hDC), Nat.ne_of_lt (hnD p hp)⟩) hi ?_ ?_
  · rw [hM] at hi1
    have := hk₁ _ _ hi1
    simpa using this
  · refine ⟨⟨haC, Nat.le_refl _⟩, ?_, ?_, ?_, ?_⟩ <;> (show @Ne Nat _ _) <;> omega
  · refine ⟨⟨?_, Nat.le_of_lt hDC⟩, ?_, ?_, ?_, ?_⟩ <;> first | (show @Ne Nat _ _; omega) | (show @LT.lt Nat _ _ _; omega)
  · rcases hW b hb with h | h
    · rw [show b = Cg from h]; exact hCn
    · exact fresh₀ b h
  · rcases hW L hm with h | h
    · exact hLC h
    · exact absurd F.ns.lt (Nat.not_lt.mpr (by rw [hS]; exact h))
  · rcases hW p.1 hm with h | h
    · exact hnC p hp h
    · exact absurd (Heap.lt_size (Nw p hp).1) (Nat.not_lt.mpr (by rw [hS]; exact h))
  · intro i us a' b' h tk gs m' oC' E' hin hj hg hP hC' ha hb F' N'
    obtain ⟨t, t', e⟩ := hP
    simp only [Array.mk.injEq, List.cons.injEq, and_true] at e
    obtain ⟨rfl, rfl⟩ := e
    exact turn D C hDC i us _ _ h tk gs m' oC' E' hin hj hC' ha hb F' N'
  · intro us h tk gs hj hg F' N'
    exact done D us h tk gs hj hg hnD F' N'
end
end
section
local macro_rules | `(tactic| k_room) => `(tactic| ktr_room)
theorem rowsA33_0 : True := by
  w_top off
  k_with_none
  k_with "c.enter" => ((first
      | (refine' con_def ?k1q9 ?k2q9 ?k3q9 ?k4q9 ?k5q9 ?kAq9 ?kFq9 ?kKq9 ?k6q9 ?k7q9 ?k8q9 ?k9q9 ?kBq9 ?kRq9 ?_ ?c2q9 ?c3q9 ?c4q9 ?c5q9; (case kAq9 => exact rfl); (case kFq9 => exact rfl); (case kKq9 => assumption); (case k1q9 => k_asm); (case k2q9 => k_asm); (case k3q9 => k_asm); (case k4q9 => k_asm); (case k5q9 => k_asm); (case k6q9 => k_is); (case k7q9 => k_is); (case k8q9 => ktr_room); (case k9q9 => first | exact BindsTo.of_eq rfl | exact binds_K (by k_in) rfl (by k_is) rfl rfl rfl); (case c5q9 => decide); (case kBq9 => exact locs rfl); (case c2q9 => exact rfl); (case c3q9 => exact rfl); (case c4q9 => exact rfl); (case kRq9 => walk_at "c.ret"); k_whole; intro _ _ _ _ _ N'q9 _ _ _ l1q9; (try k_lt l1q9); (try (revert l1q9; intro _)); (try dsimp only); (try k_fold))
      | (refine' con_defC ?k1q9 ?k2q9 ?k3q9 ?k4q9 ?k5q9 ?kAq9 ?kFq9 ?kKq9 ?k6q9 ?k7q9 ?k8q9 ?k9q9 ?kBq9 ?kDq9 ?kRq9 ?_ ?c2q9 ?c3q9 ?c4q9; (case kAq9 => exact rfl); (case kFq9 => exact rfl); (case kKq9 => assumption); (case k1q9 => k_asm); (case k2q9 => k_asm); (case k3q9 => k_asm); (case k4q9 => k_asm); (case k5q9 => k_asm); (case k6q9 => k_is); (case k7q9 => k_is); (case k8q9 => ktr_room); (case k9q9 => first | exact BindsTo.of_eq rfl | exact binds_K (by k_in) rfl (by k_is) rfl rfl rfl); (case kBq9 => exact rfl); (case kDq9 => decide +kernel); (case c2q9 => exact rfl); (case c3q9 => exact rfl); (case c4q9 => exact rfl); (case kRq9 => walk_at "c.ret"); k_whole; intro _ _ _ _ _ _ _ N'q9 Y'q9 _ _ _ l1q9; (try k_lt l1q9); (try (revert l1q9; intro _)); k_cells Y'q9; (try simp only [List.cons_append, List.nil_append] at N'q9); (try dsimp only); (try k_fold))))
  k_with "c.ret" => ((intro _ _ hl9q9; exact con_back (by assumption) (by assumption) (by assumption) (by assumption) hl9q9))
  k_with "c.start" => ((unfold Con; k_fill; intro _ _ _ _ _ _ _ _ _ _ _ _ _ _ _ _ _ Bq9 Fq9 Xq9 Nq9 Tq9 _ _ _ hretq9; refine wpAny_call ?_; k_dflt walk_at "c.enter"; clear hretq9 Nq9 Fq9 Bq9 Xq9 Tq9))
  k_with "c.startCls" => ((unfold Con; k_fill; intro _ _ _ _ _ _ _ _ _ _ _ _ _ _ _ _ _ Bq9 Fq9 Xq9 Nq9 Tq9 _ _ _ hretq9; refine wpAny_call ?_; k_dflt walk_at "c.enterCls"; clear hretq9 Nq9 Fq9 Bq9 Xq9 Tq9))
  k_with "c.enterCls" => ((refine' con_cls ?k1q9 ?k2q9 ?k3q9 ?k5q9 ?kAq9 ?kFq9 ?kKq9 ?m1q9 ?m2q9 ?m3q9 ?k6q9 ?k7q9 ?k8q9 ?k9q9 ?kBq9 ?kRq9 ?_ ?c2q9 ?c3q9 ?c4q9 ?c5q9; (case kAq9 => exact rfl); (case kFq9 => exact rfl); (case kKq9 => assumption); (case k1q9 => k_asm); (case k2q9 => k_asm); (case k3q9 => k_asm); (case k5q9 => k_asm); (case m1q9 => k_is); (case m2q9 => k_is); (case m3q9 => k_is); (case k6q9 => k_is); (case k7q9 => k_is); (case k8q9 => ktr_room); (case k9q9 => intro _ _; exact BindsTo.of_eq rfl); (case c5q9 => decide); (case kBq9 => intro _; exact locs rfl); (case c2q9 => exact rfl); (case c3q9 => exact rfl); (case c4q9 => exact rfl); (case kRq9 => exact con_nil (by assumption)); k_whole; intro _ _ _ _ _ _ l0'q9 _ _ _ _ _ l1q9; (try k_lt2 l0'q9); (try (revert l0'q9; intro _)); (try k_lt2 l1q9); (try (revert l1q9; intro _)); (try dsimp only); (try k_fold)))
  k_with "CompSrc" => ((k_here; k_dflt (refine LCg.CompSrc.range (by rfl) (by k_asm) (by k_asm) (by assumption) (by first | decide | rfl) (by first | rfl | decide) (by first | size_fits | exact Nat.le_of_ble_eq_true rfl) ?_; intro _; lcg_lit)))
  k_with "binaryOp Mult str int" => ((k_here; (refine' r_mul ?haq9 ?hbq9 ?_); (case haq9 => ((try simp only [fmod_lit]); omega)); (case hbq9 => ((try simp only [fmod_lit]); omega)); intro _ _))
  k_with "binaryOp Add str str" => ((k_here; (refine' r_add ?haq9 ?hbq9 ?hcq9 ?_); (case haq9 => first | with_reducible exact S_tab | with_reducible exact S_blank | with_reducible rfl); (case hbq9 => first | with_reducible exact S_tab | with_reducible exact S_blank | with_reducible rfl); (case hcq9 => (simp [sp]; omega)); intro _ _))
  k_with "call builtin:str.join" => ((k_here; (first
      | refine' r_join (ls := [(_, _)]) ?hlq9 ?hiq9 ?hwq9 ?_; (case hlq9 => exact News.isList (by k_asm) (by k_mem)); (case hiq9 => exact rfl)
      | refine' r_join (ls := [(_, _), (_, _)]) ?hlq9 ?hiq9 ?hwq9 ?_; (case hlq9 => exact News.isList (by k_asm) (by k_mem)); (case hiq9 => exact rfl)
      | refine' r_join (ls := [(_, _), (_, _), (_, _)]) ?hlq9 ?hiq9 ?hwq9 ?_; (case hlq9 => exact News.isList (by k_asm) (by k_mem)); (case hiq9 => exact rfl)); (case hwq9 => (simp [sp, fmod_lit]; omega)); intro _ _; (try dsimp only)))
  k_with "call type:tuple" => ((k_here; k_dflt (refine' r_tuple ?Fq9 ?Nq9 ?mq9 ?_ ?zq9; (case Fq9 => k_asm); (case Nq9 => k_asm); (case mq9 => k_mem); (case zq9 => (have hc9 := sizeLine_eq; (have hI9 := IntsAre.length (by assumption)); omega)); k_whole); intro _ _ _ _ l1q9; (try k_lt l1q9); (try (revert l1q9; intro _))))
  k_with "call builtin:len" => ((k_here; (with_reducible show wpAny _ _ (call (Value.builtin "len") [Value.ref _]) _ _ _); k_dflt (refine' r_len_tupI ?Nq9 ?mq9 ?iq9 ?fq9 ?_; (case Nq9 => k_asm); (case mq9 => k_mem); (case iq9 => with_reducible assumption); (case fq9 => omega); k_whole); intro _ _))
  k_with "subscriptTail" => ((k_here; (with_reducible show wpAny _ _ (subscriptTail _ _ (Value.ref _) (Value.int _ _)) _ _ _); k_dflt (refine' r_item_tupI ?Nq9 ?mq9 ?iq9 ?aq9 ?bq9 ?cq9 ?_ ?eq9; (case Nq9 => k_asm); (case mq9 => k_mem); (case iq9 => with_reducible assumption); (case aq9 => omega); (case bq9 => omega); (case cq9 => omega); (case eq9 => with_unfolding_all rfl); k_whole); intro _))
  k_with "pyIter ref" => ((k_here; (with_reducible show wpAny _ _ (pyIter (Value.ref _)) (fun it s₂ => LoopAtV _ _ _ _ _ _ _ _ _ it s₂) _ _); refine Hold.of ?_))
  trivial
local macro_rules | `(tactic| k_inst) => `(tactic| (refine' accInst ?N ?h1 ?h2; (case N => k_asm); (case h1 => k_mem); (case h2 => k_mem)))
theorem rowsA33_1 : True := by
  k_with "c.startS" => ((unfold Con; k_fill; intro _ _ _ _ _ _ _ _ _ _ _ _ _ _ _ _ _ Bq9 Fq9 Xq9 Nq9 Tq9 _ _ _ hretq9; refine wpAny_call ?_; k_dflt walk_at "c.enterS"; clear hretq9 Nq9 Fq9 Bq9 Xq9 Tq9))
  k_with "c.enterS" => ((refine' con_defS ?k1q9 ?k2q9 ?k3q9 ?k4q9 ?k5q9 ?kAq9 ?kFq9 ?kKq9 ?k6q9 ?k7q9 ?k8q9 ?k9q9 ?kBq9 ?kRq9 ?_ ?c2q9 ?c3q9 ?c4q9 ?c5q9; (case kAq9 => exact rfl); (case kFq9 => exact rfl); (case kKq9 => assumption); (case k1q9 => k_asm); (case k2q9 => k_asm); (case k3q9 => k_asm); (case k4q9 => k_asm); (case k5q9 => k_asm); (case k6q9 => k_is); (case k7q9 => k_is); (case k8q9 => ktr_room); (case k9q9 => first | exact BindsTo.of_eq rfl | exact binds_K (by k_in) rfl (by k_is) rfl rfl rfl); (case c5q9 => decide); (case kBq9 => exact locs rfl); (case c2q9 => exact rfl); (case c3q9 => exact rfl); (case c4q9 => exact rfl); (case kRq9 => walk_at "c.ret"); k_whole; intro _ _ _ _ _ _ _ _ _ l1q9; (try k_lt l1q9); (try (revert l1q9; intro _)); (try dsimp only); (try k_fold)))
  k_with "getMethod ref" => ((k_here; (with_reducible show wpAny _ _ (getMethod (Value.ref _) _ _) _ _ _); k_dflt (refine' acc_method ?Fq9 ?Xq9 ?Nq9 ?mq9 ?dq9 ?gaq9 ?cq9 ?gtq9 ?fq9 ?tfq9 ?lq9 ?_; (case Fq9 => k_asm); (case Xq9 => assumption); (case Nq9 => k_asm); (case mq9 => k_mem); (case dq9 => k_mem); (case gaq9 => k_is); (case cq9 => decide +kernel); (case gtq9 => k_is); (case fq9 => k_is); (case tfq9 => first | exact .inl (by k_is) | exact .inr (by k_is)); (case lq9 => rfl)); k_whole))
  k_with "getMethod ref" => ((k_here; (with_reducible show wpAny _ _ (getMethod (Value.ref _) _ _) _ _ _); k_dflt (refine' acc_super ?idq9 ?Fq9 ?Xq9 ?Nq9 ?sq9 ?mq9 ?oq9 ?fq9 ?lq9 ?nq9 ?_; (case Fq9 => k_asm); (case Xq9 => assumption); (case Nq9 => k_asm); (case sq9 => k_mem); (case mq9 => k_mem); (case oq9 => k_is); (case fq9 => ks_is); (case lq9 => k_is); (case nq9 => decide); (case idq9 => first | exact .inl rfl | exact .inr rfl)); k_whole; intro _ _ _ _ l1q9; (try k_lt l1q9); (try (revert l1q9; intro _))))
  k_with "callWith ref" => ((k_here; (with_reducible show wpAny _ _ (callWith _ (Value.ref _) [] _ []) _ _ _); k_dflt (refine' acc_mwWith ?Nq9 ?mq9 ?_; (case Nq9 => k_asm); (case mq9 => k_mem)); k_whole))
  k_with "call ref" => ((k_here; (with_reducible show wpAny _ _ (call (Value.ref _) []) _ _ _); k_dflt (refine' acc_mwLen ?Fq9 ?Xq9 ?Nq9 ?uq9 ?mq9 ?_; (case Fq9 => k_asm); (case Xq9 => assumption); (case Nq9 => k_asm); (case uq9 => k_mem); (case mq9 => k_mem)); k_whole; intro _ _))
  k_with "call ref" => ((k_here; (with_reducible show wpAny _ _ (call (Value.ref _) []) _ _ _); k_dflt (refine' acc_mwInit ?Fq9 ?Xq9 ?Nq9 ?uq9 ?mq9 ?_; (case Fq9 => k_asm); (case Xq9 => assumption); (case Nq9 => k_asm); (case uq9 => k_mem); (case mq9 => k_updF)); k_whole; intro _ _ _ _))
  k_with "call builtin:list.append" => ((k_here; k_dflt (refine' acc_append ?Fq9 ?Xq9 ?Nq9 ?Uq9 ?lq9 ?zq9 ?_; (case Fq9 => k_asm); (case Xq9 => assumption); (case Nq9 => k_asm); (case Uq9 => k_updF); (case lq9 => k_is); (case zq9 => omega)); k_whole; intro _ _ _ _))
  k_with "subscriptTail" => ((k_here; (with_reducible show wpAny _ _ (subscriptTail _ _ (Value.ref _) (Value.ref _)) _ _ _); k_dflt (refine' acc_slice ?Fq9 ?Xq9 ?Nq9 ?mq9 ?lq9 ?nq9 ?fq9 ?plq9 ?puq9 ?zq9 ?_ ?hsq9 ?htq9; (case Fq9 => k_asm); (case Xq9 => assumption); (case Nq9 => k_asm); (case mq9 => k_mem); (case lq9 => k_is); (case nq9 => k_is); (case fq9 => k_is); (case plq9 => first | exact .none | exact .int _ _); (case puq9 => first | exact .none | exact .int _ _); (case zq9 => omega); (case hsq9 => with_unfolding_all rfl); (case htq9 => (intro _; with_unfolding_all rfl))); k_whole; intro _ _ _ _ l1q9; (try k_lt l1q9); (try (revert l1q9; intro _))))
  k_with "setItem ref ref" => ((k_here; (with_reducible show wpAny _ _ (setItem (Value.ref _) (Value.ref _) (Value.ref _)) _ _ _); k_dflt (refine' acc_store ?Fq9 ?Xq9 ?Nq9 ?Uq9 ?lq9 ?nq9 ?fq9 ?yq9 ?xyq9 ?plq9 ?puq9 ?zq9 ?_; (case Fq9 => k_asm); (case Xq9 => assumption); (case Nq9 => k_asm); (case Uq9 => k_updF); (case lq9 => k_is); (case nq9 => k_is); (case fq9 => k_is); (case yq9 => k_mem); (case xyq9 => k_ne); (case plq9 => first | exact .none | exact .int _ _); (case puq9 => first | exact .none | exact .int _ _); (case zq9 => ((try simp); omega))); k_whole; intro _ _ _ _))
  k_with "setAttr ref" => ((k_here; (with_reducible show wpAny _ _ (setAttr (Value.ref _) _ _) _ _ _); k_dflt (refine' acc_setAttr ?Fq9 ?Xq9 ?Nq9 ?mq9 ?Uq9 ?cq9 ?mrq9 ?hdq9 ?sq9 ?tq9 ?lq9 ?eq9 ?zq9 ?_; (case Fq9 => k_asm); (case Xq9 => assumption); (case Nq9 => k_asm); (case mq9 => k_mem); (case Uq9 => k_updF); (case cq9 => k_is); (case mrq9 => exact rfl); (case hdq9 => exact rfl); (case sq9 => k_is); (case tq9 => k_is); (case lq9 => k_get); (case eq9 => k_put); (case zq9 => exact Nat.le_of_ble_eq_true rfl)); k_whole; intro _ _ _; (try k_sweep)))
  k_with "getAttr ref" => ((k_here; (with_reducible show wpAny _ _ (getAttr (Value.ref _) _ _) _ _ _); k_dflt (refine' acc_getAttr ?Fq9 ?Xq9 ?Nq9 ?mq9 ?dq9 ?gaq9 ?gtq9 ?lq9 ?hhq9 ?haq9 ?hnq9 ?hgq9 ?hvq9 ?_; (case Fq9 => k_asm); (case Xq9 => assumption); (case Nq9 => k_asm); (case mq9 => k_mem); (case dq9 => k_mem); (case gaq9 => k_is); (case gtq9 => k_is); (case lq9 => k_is); (case hhq9 => k_is); (case haq9 => k_is); (case hnq9 => k_is); (case hgq9 => k_get); (case hvq9 => k_handed)); k_whole))
  k_with "wpAt" => ((dsimp only; ks_step "execs cons"; refine ks_wpAt_execs_cons ?_))
  k_with "wpAt" => (((try dsimp only); ks_step "exec Expr"; k_dflt (refine ks_wpAt_Expr_any ?_ (by rfl) (by rfl))))
  k_with "wpAt" => (((try dsimp only); ks_step "eval Call"; k_dflt (refine ks_wpAt_MethodCall ?_)))
  k_with "eval ListComp" => ((k_here; (with_reducible show wpAny _ _ (eval (Expr.ListComp _ _ _ _) _) _ _ _); k_whole; refine Hold.of ?_))
  k_with "exec While BoolOp" => ((k_here; (with_reducible show wpAny _ _ (exec (Stmt.While _ _ _ _) _) _ _ _); k_whole; refine Hold.of ?_))
  k_with "exec While" => ((k_here; (with_reducible show wpAny _ _ (exec (Stmt.While _ _ _ _) _) _ _ _); k_whole; refine Hold.of ?_))
  k_with "c.startG" => ((unfold ConG; k_fill; intro _ _ _ _ _ _ _ _ _ _ _ _ _ _ _ _ _ Bq9 Fq9 Xq9 Nq9 Tq9 _ _ _ hretq9; refine wpAny_call ?_; k_dflt walk_at "c.enterG"; clear hretq9 Nq9 Fq9 Bq9 Xq9 Tq9))
  k_with "c.retG" => ((intro _ _ hl9q9; exact con_backG (by assumption) (by assumption) (by assumption) (by assumption) hl9q9))
  k_with "c.enterG" => ((refine' con_defG (fun _ _ => True) ?k1q9 ?k2q9 ?k3q9 ?k4q9 ?k5q9 ?kAq9 ?kFq9 ?kKq9 ?k6q9 ?k7q9 ?k8q9 ?k9q9 ?kBq9 ?kRq9 ?_ ?c2q9 ?c3q9 ?c4q9 ?c5q9; (case kAq9 => exact rfl); (case kFq9 => exact rfl); (case kKq9 => assumption); (case k1q9 => k_asm); (case k2q9 => k_asm); (case k3q9 => k_asm); (case k4q9 => k_asm); (case k5q9 => k_asm); (case k6q9 => k_is); (case k7q9 => k_is); (case k8q9 => ktr_room); (case k9q9 => first | exact BindsTo.of_eq rfl | exact binds_K (by k_in) rfl (by k_is) rfl rfl rfl); (case c5q9 => decide); (case kBq9 => exact locs rfl); (case c2q9 => exact rfl); (case c3q9 => exact rfl); (case c4q9 => exact rfl); (case kRq9 => walk_at "c.retG"); k_whole; intro _ _ _ _ _ _ _ _ _ l1q9; (try k_lt l1q9); (try (revert l1q9; intro _)); (try dsimp only); (try k_fold)))
  k_with "c.retG" => ((intro _ _ hl9q9; exact con_backG (by assumption) (by assumption) (by assumption) (by assumption) hl9q9))
  k_with "c.startGC" => ((unfold ConG; k_fill; intro _ _ _ _ _ _ _ _ _ _ _ _ _ _ _ _ _ Bq9 Fq9 Xq9 Nq9 Tq9 _ _ _ hretq9; refine wpAny_call ?_; k_dflt walk_at "c.enterGC"; clear hretq9 Nq9 Fq9 Bq9 Xq9 Tq9))
  k_with "c.enterGC" => ((refine' con_defCG (fun _ _ => True) ?k1q9 ?k2q9 ?k3q9 ?k4q9 ?k5q9 ?kAq9 ?kFq9 ?kKq9 ?k6q9 ?k7q9 ?k8q9 ?k9q9 ?kBq9 ?kDq9 ?kRq9 ?_ ?c2q9 ?c3q9 ?c4q9; (case kAq9 => exact rfl); (case kFq9 => exact rfl); (case kKq9 => assumption); (case k1q9 => k_asm); (case k2q9 => k_asm); (case k3q9 => k_asm); (case k4q9 => k_asm); (case k5q9 => k_asm); (case k6q9 => k_is); (case k7q9 => k_is); (case k8q9 => ktr_room); (case k9q9 => first | exact BindsTo.of_eq rfl | exact binds_K (by k_in) rfl (by k_is) rfl rfl rfl); (case kBq9 => exact rfl); (case kDq9 => decide +kernel); (case c2q9 => exact rfl); (case c3q9 => exact rfl); (case c4q9 => exact rfl); (case kRq9 => walk_at "c.retG"); k_whole; intro _ _ _ _ _ _ _ N'q9 Y'q9 _ _ _ l1q9; (try k_lt l1q9); (try (revert l1q9; intro _)); k_cells Y'q9; (try simp only [List.cons_append, List.nil_append] at N'q9); (try dsimp only); (try k_fold)))
  k_with "exec If" => ((k_here; (with_reducible show wpAny _ _ (exec (Stmt.If (Expr.Compare (Expr.Name (Str.ofString "short") _) _ _ _) _ _ _) _) _ _ _); k_whole; refine Hold.of ?_))
  k_with "exec If Compare" => ((k_here; (with_reducible show wpAny _ _ (exec (Stmt.If (Expr.Compare (Expr.Name (Str.ofString "short") _) _ _ _) _ _ _) _) _ _ _); k_whole; refine Hold.of ?_))
  trivial
/-- the ruler of the steps -/
def RulerOf (st : List Int) (short : Int) (rs : List Int) : Prop :=
  (short = 0 → rs = st ++ [127, 9]) ∧ (short = 1 → ∃ k, 1 ≤ k ∧ k ≤ st.length ∧ rs = st.take k ++ [0, 9] ∧ ∀ j, k ≤ j → j < st.length → st.getD j 0 = st.getD (k - 1) 0)
def RulJ (g : Heap) (L : Addr) (x : Str) (mz : Str → Option Value) (r : Addr) (vs : List Value) (nr : Nat) (st : List Int) (short : Int) (s : Shared) (f : Flow) (s' : Shared) : Prop :=
  f = .next ∧ ∃ D us rs n h' tk m', s' = { s with heap := h', toks := tk } ∧ Fr g L h' m' ∧ (∀ z, m' z = if z = x then some (.ref D) else mz z) ∧ News g L h' [(D, W.listOf us.toArray n), (r, W.listOf vs.toArray nr)] ∧ IntsAre us rs ∧ RulerOf st short rs
theorem RulJ.intro {g : Heap} {L : Addr} {x : Str} {mz : Str → Option Value} {r : Addr} {vs : List Value} {nr : Nat} {st : List Int} {short : Int} {s : Shared} {D : Addr} {us : List Value} {rs : List Int} {n : Nat} {h' : Heap} {tk : Nat} {m' : Str → Option Value}
    (F : Fr g L h' m') (hm : ∀ z, m' z = if z = x then some (.ref D) else mz z) (N : News g L h' [(D, W.listOf us.toArray n), (r, W.listOf vs.toArray nr)]) (hI : IntsAre us rs) (hR : RulerOf st short rs) :
    RulJ g L x mz r vs nr st short s .next { s with heap := h', toks := tk } := ⟨rfl, D, us, rs, n, h', tk, m', rfl, F, hm, N, hI, hR⟩
theorem if_cut {M : Model} {A : Around} {E : Value → Shared → Prop} {Q : Flow → Shared → Prop} {s : Shared} {g : Heap} {L : Addr} {x : Str} {v : Value} {mz : Str → Option Value} {t : Sem Flow} (r : Addr) (vs : List Value) (nr : Nat) (st : List Int) (short : Int)
    (F : Fr g L s.heap (fun y => if y = x then some v else mz y)) (h1 : wpAny M A t (RulJ g L x mz r vs nr st short s) E s) (h2 : ∀ f s', RulJ g L x mz r vs nr st short s f s' → Q f s') : wpAny M A t Q E s :=
  wpAny_mono h1 h2 fun _ _ e => e
section
variable {prog : Program} {w : World} {A : Around} {E : Value → Shared → Prop} {s : Shared} {h₀ : Heap} {L : Addr} {m : Str → Option Value} {news : List (Addr × Obj)} {g : Obj → List (Addr × Obj)}
theorem r_iadd {D y : Addr} {us zs : Array Value} {n k : Nat} {Q : Value → Shared → Prop} (FF : Fr h₀ L s.heap m) (N : News h₀ L s.heap news) (U : UpdF D (W.listOf us n) news g) (hy : (y, W.listOf zs k) ∈ news) (hne : zs ≠ #[]) (hsz : us.size + zs.size ≤ 1000)
    (h : ∀ h' n', Fr h₀ L h' m → News h₀ L h' (g (W.listOf (us ++ zs) n')) → Q (.ref D) { s with heap := h' }) :
    wpAny (model prog w) A (inplaceOp .Add (.ref D) (.ref y)) Q E s := by
  have hD := UpdF.get N U
  have hY := (N _ hy).1
  have tD : s.TypeIs (.ref D) "list" := ⟨_, hD, rfl⟩
  have tY : s.TypeIs (.ref y) "list" := ⟨_, hY, rfl⟩
  have hq : isSeqSlot (some (.builtin "list.__iadd__")) = true := by decide +kernel
  have hfi : fillsInplaceSlot (.type "list") "add" (Operator.Add == .Add) = pure false := by
    unfold fillsInplaceSlot
    show (typeLookup (.type "list") (dunderI "add") >>= fun fi => pure (fi.isSome && !isSeqSlot fi)) = pure false
    rw [F.slot_list_iadd.lookup, pure_bind, hq]
    rfl
  have hsi : seqSlot? (.type "list") (dunderI "add") = pure (some (.builtin "list.__iadd__")) := PySem.seqSlot_of F.slot_list_iadd.lookup hq
  unfold inplaceOp
  refine wpAny_holding ?_
  refine wpAny_bind (wpAny_typeOf tD (wpAny_bind (wpAny_of_eq hfi ?_)))
  show wpAny _ A (if false = true then _ else _) Q E s
  rw [if_neg Bool.false_ne_true]
  refine wpAny_bind (wpAny_binaryOp1_none (nm := "add") tD tY noFill_list_add ?_)
  refine wpAny_bind (wpAny_of_eq hsi ?_)
  refine wpAny_bind (wpAny_rule ?_)
  refine call_meets F.slot_list_iadd tD F.entry_list_iadd (F.args_list_iadd_2 _ _) (AutoSeq1.list___iadd___list_list_0 D us n y zs k ?_ ?_ ?_) ⟨hD, hY, ?_⟩
  · unfold Builtin.List.listTooLong
    have hc := sizeLine_eq
    simp
    omega
  · rw [sizeLine_eq]; omega
  · rw [sizeLine_eq]; omega
  · obtain ⟨F', N'⟩ := acc_set (o' := W.listOf (us ++ zs) (n + 1)) FF N U (Heap.SameBut.update ..) ((Heap.get?_update_self (Obj.mapSeq fun x => x ++ zs) hD (by rfl)).trans (by simp [Obj.mapSeq, W.listOf, hne]))
    exact h _ _ F' N'
end
/-- what the generator makes of a ruler: k items, then the end mark, or the last one for ever -/
structure Ruler (fin : Bool) (k W : Nat) (rs : List Int) (val : Nat → Int) : Prop where
  item : ∀ j, j < k → rs.getD j 0 = val j ∧ 1 ≤ val j ∧ val j ≤ 100
  stop : rs.getD k 0 = if fin then 127 else 0
  kpos : 0 < k
  len : k < rs.length ∧ rs.length ≤ 60
  pos : fin = false → 0 < k ∧ ∀ j, k ≤ j → j ≤ k + W → val j = val (k - 1)
theorem ruler_of {st rs : List Int} {short : Int} (hr : RulerOf st short rs) (hlen : st.length ≤ 20) (hpos : ∀ x ∈ st, 1 ≤ x ∧ x ≤ 100) (hne : 1 ≤ st.length) (hs : short = 0 ∨ short = 1) :
    ∃ k W, (toldV st short).length = k + (if decide (short = 0) = true then 0 else W + 1) ∧ Ruler (decide (short = 0)) k W rs (fun j => (toldV st short).getD j 0) := by
  have hmem : ∀ j, j < st.length → 1 ≤ st.getD j 0 ∧ st.getD j 0 ≤ 100 := fun j hj => by
    rw [List.getD_eq_getElem?_getD, List.getElem?_eq_getElem hj]
    exact hpos _ (List.getElem_mem hj)
  rcases hs with rfl | rfl
  · have e := hr.1 rfl
    subst e
    have et : toldV st 0 = st := if_neg (by decide)
    rw [et]
    refine ⟨st.length, 0, by simp, ⟨fun j hj => ⟨?_, hmem j hj⟩, ?_, hne, ?_, fun h => absurd h (by decide)⟩⟩
    · simp only [List.getD_eq_getElem?_getD, List.getElem?_append_left hj]
    · simp [List.getD_eq_getElem?_getD]
    · simp
      omega
  · obtain ⟨k, hk1, hk2, rfl, htail⟩ := hr.2 rfl
    have et : toldV st 1 = st ++ [st.getLastD 0] := if_pos rfl
    rw [et]
    have hkl : (st.take k).length = k := by rw [List.length_take]; omega
    have hval : ∀ j, j < st.length → (st ++ [st.getLastD 0]).getD j 0 = st.getD j 0 := fun j hj => by
      simp only [List.getD_eq_getElem?_getD, List.getElem?_append_left hj]
    have hlast : (st ++ [st.getLastD 0]).getD st.length 0 = st.getD (st.length - 1) 0 := by
      simp only [List.getD_eq_getElem?_getD]
      rw [List.getElem?_append_right (Nat.le_refl _), Nat.sub_self, List.getLastD_eq_getLast?, List.getLast?_eq_getElem?]
      rfl
    have hlast2 : st.getD (st.length - 1) 0 = st.getD (k - 1) 0 := by
      by_cases hj : k = st.length
      · rw [hj]
      · exact htail _ (by omega) (by omega)
    refine ⟨k, st.length - k, by simp; omega, ⟨fun j hj => ⟨?_, ?_⟩, ?_, hk1, ?_, fun _ => ⟨hk1, fun j h1 h2 => ?_⟩⟩⟩
    · rw [hval j (by omega)]
      simp only [List.getD_eq_getElem?_getD]
      rw [List.getElem?_append_left (by omega), List.getElem?_take_of_lt hj]
    · rw [hval j (by omega)]
      exact hmem j (by omega)
    · simp only [List.getD_eq_getElem?_getD]
      rw [List.getElem?_append_right (by omega), hkl, Nat.sub_self]
      rfl
    · simp
      omega
    · rw [hval (k - 1) (by omega)]
      by_cases hj : j = st.length
      · rw [hj, hlast, hlast2]
      · rw [hval j (by omega)]
        exact htail j h1 (by omega)
def GLast (val : Nat → Int) (j : Nat) (l : Value) : Prop := (j = 0 ∧ l = .none) ∨ (0 < j ∧ ∃ t, l = .int (val (j - 1)) t)
def gI (C P It D : Addr) (G : Heap) (mz : Str → Option Value) (val : Nat → Int) (j : Nat) (s₀ s : Shared) : Prop :=
  gKeep C P s₀ s ∧ Lives P s.heap ∧ s.heap.IsListIter It D j ∧ ∃ u l, GLast val j l ∧ Fr G C s.heap (fun y => if y = Str.ofString "interval" then u else if y = Str.ofString "last_interval" then some l else mz y)
def gI1 (C P It D : Addr) (G : Heap) (mz : Str → Option Value) (val : Nat → Int) (rs : List Int) (j : Nat) (s₀ s : Shared) : Prop :=
  gKeep C P s₀ s ∧ Lives P s.heap ∧ s.heap.IsListIter It D (j + 1) ∧ ∃ t l, GLast val j l ∧ Fr G C s.heap (fun y => if y = Str.ofString "interval" then some (.int (rs.getD j 0) t) else if y = Str.ofString "last_interval" then some l else mz y)
def gV (C P It D : Addr) (G : Heap) (mz : Str → Option Value) (val : Nat → Int) (rs : List Int) (k : Nat) (j : Nat) (s₀ : Shared) (v : Value) (s : Shared) : Prop :=
  (∃ t, v = .int (if j < k then val j else val (k - 1)) t) ∧ gI1 C P It D G mz val rs j s₀ s
theorem gI1.free {a C P It D : Addr} {G : Heap} {mz : Str → Option Value} {val : Nat → Int} {rs : List Int} {j : Nat} {s₀ s s' : Shared} (h : gI1 C P It D G mz val rs j s₀ s) (hCa : @LT.lt Nat _ C a) (hPI : @LT.lt Nat _ P It) (hG : ∀ b o, G.get? b = some o → @LT.lt Nat _ b C)
    (hf : gFree a P s s') : gI1 C P It D G mz val rs j s' s' := by
  obtain ⟨_, _, hit, t, l, hl, F⟩ := h
  refine ⟨⟨s'.heap, s'.toks, rfl, fun _ _ _ e => e⟩, hf.2, hit.at fun o e => hf.1 It o (fun q => Nat.lt_irrefl _ (Nat.lt_of_lt_of_le hPI q.2)) e, t, l, hl, ⟨F.ns.at' fun o e => hf.1 C o (fun q => Nat.lt_asymm hCa q.1) e, fun b o e => hf.1 b o (fun q => Nat.lt_asymm (Nat.lt_trans (hG b o e) hCa) q.1) (F.keep b o e), F.above⟩⟩
theorem gKeep.trans {C P : Addr} {s₀ s : Shared} {h' : Heap} {tk : Nat} (k : gKeep C P s₀ s) (hk : ∀ b o, ¬ gW C P b → s.heap.get? b = some o → h'.get? b = some o) : gKeep C P s₀ { s with heap := h', toks := tk } := by
  obtain ⟨h, t, rfl, k⟩ := k
  exact ⟨h', tk, rfl, fun b o hb e => hk b o hb (k b o hb e)⟩
theorem gI1.next {C P It D : Addr} {G : Heap} {mz : Str → Option Value} {val : Nat → Int} {rs : List Int} {j : Nat} {s₀ s : Shared} {tk : Nat} (h : gI1 C P It D G mz val rs j s₀ s) : gI1 C P It D G mz val rs j s₀ { s with toks := tk } := by
  obtain ⟨k, hP, hit, r⟩ := h
  exact ⟨k.trans fun _ _ _ e => e, hP, hit, r⟩
structure TrimS where
  us : List Value
  n : Nat
  k : Nat
/-- the ends of small evaluations -/
def EvJ (s : Shared) (P : Value → Prop) (v : Value) (s₁ : Shared) : Prop := P v ∧ ∃ tk, s₁ = { s with toks := tk }
def EvB (s : Shared) (b₀ b : Bool) (s₁ : Shared) : Prop := b = b₀ ∧ ∃ tk, s₁ = { s with toks := tk }
def EvF (s : Shared) (f₀ f : Flow) (s₁ : Shared) : Prop := f = f₀ ∧ ∃ tk, s₁ = { s with toks := tk }
theorem gI.toks {C P It D : Addr} {G : Heap} {mz : Str → Option Value} {val : Nat → Int} {j : Nat} {s₀ s : Shared} {tk : Nat} (h : gI C P It D G mz val j s₀ s) : gI C P It D G mz val j s₀ { s with toks := tk } := by
  obtain ⟨k, hP, hit, r⟩ := h
  exact ⟨k.trans fun _ _ _ e => e, hP, hit, r⟩
theorem Ruler.is127 {fin : Bool} {k W : Nat} {rs : List Int} {val : Nat → Int} (R : Ruler fin k W rs val) {j : Nat} (hj : j ≤ k) : (rs.getD j 0 == 127) = (fin && decide (j = k)) := by
  by_cases h : j = k
  · subst h
    rw [R.stop]
    cases fin <;> simp
  · obtain ⟨e, h1, h2⟩ := R.item j (by omega)
    rw [e, decide_eq_false h, Bool.and_false, beq_eq_false_iff_ne]
    omega
theorem Ruler.is0 {fin : Bool} {k W : Nat} {rs : List Int} {val : Nat → Int} (R : Ruler fin k W rs val) {j : Nat} (hj : j ≤ k) (hf : (fin && decide (j = k)) = false) : (rs.getD j 0 == 0) = decide (j = k) := by
  by_cases h : j = k
  · subst h
    rw [R.stop]
    cases fin with
    | true => simp at hf
    | false => simp
  · obtain ⟨e, h1, h2⟩ := R.item j (by omega)
    rw [e, decide_eq_false h, beq_eq_false_iff_ne]
    omega
theorem map_u {mz : Str → Option Value} {x1 x2 : Str} {l : Value} : (fun y => if y = x2 then some l else mz y) = (fun y => if y = x1 then (if x1 = x2 then some l else mz x1) else if y = x2 then some l else mz y) := by
  funext y
  by_cases h : y = x1
  · subst h
    rw [if_pos rfl]
  · rw [if_neg h]
theorem map_s {mz : Str → Option Value} {x1 x2 : Str} {u v : Option Value} {l : Value} : (fun y => if y = x1 then v else if y = x1 then u else if y = x2 then some l else mz y) = (fun y => if y = x1 then v else if y = x2 then some l else mz y) := by
  funext y
  by_cases h : y = x1
  · rw [if_pos h, if_pos h]
  · rw [if_neg h, if_neg h, if_neg h]
theorem map_a {mz : Str → Option Value} {x1 x2 : Str} (hx : x1 ≠ x2) {u v : Option Value} {l : Value} : (fun y => if y = x2 then v else if y = x1 then u else if y = x2 then some l else mz y) = (fun y => if y = x1 then u else if y = x2 then v else mz y) := by
  funext y
  by_cases h : y = x2
  · subst h
    rw [if_pos rfl, if_neg (Ne.symm hx), if_pos rfl]
  · rw [if_neg h, if_neg h, if_neg h]
end
section
local macro_rules | `(tactic| k_room) => `(tactic| ktr_room)
theorem rowsA34_0 : True := by
  w_top off
  k_with_none
  k_with "c.enter" => ((first
      | (refine' con_def ?k1q9 ?k2q9 ?k3q9 ?k4q9 ?k5q9 ?kAq9 ?kFq9 ?kKq9 ?k6q9 ?k7q9 ?k8q9 ?k9q9 ?kBq9 ?kRq9 ?_ ?c2q9 ?c3q9 ?c4q9 ?c5q9; (case kAq9 => exact rfl); (case kFq9 => exact rfl); (case kKq9 => assumption); (case k1q9 => k_asm); (case k2q9 => k_asm); (case k3q9 => k_asm); (case k4q9 => k_asm); (case k5q9 => k_asm); (case k6q9 => k_is); (case k7q9 => k_is); (case k8q9 => ktr_room); (case k9q9 => first | exact BindsTo.of_eq rfl | exact binds_K (by k_in) rfl (by k_is) rfl rfl rfl); (case c5q9 => decide); (case kBq9 => exact locs rfl); (case c2q9 => exact rfl); (case c3q9 => exact rfl); (case c4q9 => exact rfl); (case kRq9 => walk_at "c.ret"); k_whole; intro _ _ _ _ _ N'q9 _ _ _ l1q9; (try k_lt l1q9); (try (revert l1q9; intro _)); (try dsimp only); (try k_fold))
      | (refine' con_defC ?k1q9 ?k2q9 ?k3q9 ?k4q9 ?k5q9 ?kAq9 ?kFq9 ?kKq9 ?k6q9 ?k7q9 ?k8q9 ?k9q9 ?kBq9 ?kDq9 ?kRq9 ?_ ?c2q9 ?c3q9 ?c4q9; (case kAq9 => exact rfl); (case kFq9 => exact rfl); (case kKq9 => assumption); (case k1q9 => k_asm); (case k2q9 => k_asm); (case k3q9 => k_asm); (case k4q9 => k_asm); (case k5q9 => k_asm); (case k6q9 => k_is); (case k7q9 => k_is); (case k8q9 => ktr_room); (case k9q9 => first | exact BindsTo.of_eq rfl | exact binds_K (by k_in) rfl (by k_is) rfl rfl rfl); (case kBq9 => exact rfl); (case kDq9 => decide +kernel); (case c2q9 => exact rfl); (case c3q9 => exact rfl); (case c4q9 => exact rfl); (case kRq9 => walk_at "c.ret"); k_whole; intro _ _ _ _ _ _ _ N'q9 Y'q9 _ _ _ l1q9; (try k_lt l1q9); (try (revert l1q9; intro _)); k_cells Y'q9; (try simp only [List.cons_append, List.nil_append] at N'q9); (try dsimp only); (try k_fold))))
  k_with "c.ret" => ((intro _ _ hl9q9; exact con_back (by assumption) (by assumption) (by assumption) (by assumption) hl9q9))
  k_with "c.start" => ((unfold Con; k_fill; intro _ _ _ _ _ _ _ _ _ _ _ _ _ _ _ _ _ Bq9 Fq9 Xq9 Nq9 Tq9 _ _ _ hretq9; refine wpAny_call ?_; k_dflt walk_at "c.enter"; clear hretq9 Nq9 Fq9 Bq9 Xq9 Tq9))
  k_with "c.startCls" => ((unfold Con; k_fill; intro _ _ _ _ _ _ _ _ _ _ _ _ _ _ _ _ _ Bq9 Fq9 Xq9 Nq9 Tq9 _ _ _ hretq9; refine wpAny_call ?_; k_dflt walk_at "c.enterCls"; clear hretq9 Nq9 Fq9 Bq9 Xq9 Tq9))
  k_with "c.enterCls" => ((refine' con_cls ?k1q9 ?k2q9 ?k3q9 ?k5q9 ?kAq9 ?kFq9 ?kKq9 ?m1q9 ?m2q9 ?m3q9 ?k6q9 ?k7q9 ?k8q9 ?k9q9 ?kBq9 ?kRq9 ?_ ?c2q9 ?c3q9 ?c4q9 ?c5q9; (case kAq9 => exact rfl); (case kFq9 => exact rfl); (case kKq9 => assumption); (case k1q9 => k_asm); (case k2q9 => k_asm); (case k3q9 => k_asm); (case k5q9 => k_asm); (case m1q9 => k_is); (case m2q9 => k_is); (case m3q9 => k_is); (case k6q9 => k_is); (case k7q9 => k_is); (case k8q9 => ktr_room); (case k9q9 => intro _ _; exact BindsTo.of_eq rfl); (case c5q9 => decide); (case kBq9 => intro _; exact locs rfl); (case c2q9 => exact rfl); (case c3q9 => exact rfl); (case c4q9 => exact rfl); (case kRq9 => exact con_nil (by assumption)); k_whole; intro _ _ _ _ _ _ l0'q9 _ _ _ _ _ l1q9; (try k_lt2 l0'q9); (try (revert l0'q9; intro _)); (try k_lt2 l1q9); (try (revert l1q9; intro _)); (try dsimp only); (try k_fold)))
  k_with "CompSrc" => ((k_here; k_dflt (refine LCg.CompSrc.range (by rfl) (by k_asm) (by k_asm) (by assumption) (by first | decide | rfl) (by first | rfl | decide) (by first | size_fits | exact Nat.le_of_ble_eq_true rfl) ?_; intro _; lcg_lit)))
  k_with "binaryOp Mult str int" => ((k_here; (refine' r_mul ?haq9 ?hbq9 ?_); (case haq9 => ((try simp only [fmod_lit]); omega)); (case hbq9 => ((try simp only [fmod_lit]); omega)); intro _ _))
  k_with "binaryOp Add str str" => ((k_here; (refine' r_add ?haq9 ?hbq9 ?hcq9 ?_); (case haq9 => first | with_reducible exact S_tab | with_reducible exact S_blank | with_reducible rfl); (case hbq9 => first | with_reducible exact S_tab | with_reducible exact S_blank | with_reducible rfl); (case hcq9 => (simp [sp]; omega)); intro _ _))
  k_with "call builtin:str.join" => ((k_here; (first
      | refine' r_join (ls := [(_, _)]) ?hlq9 ?hiq9 ?hwq9 ?_; (case hlq9 => exact News.isList (by k_asm) (by k_mem)); (case hiq9 => exact rfl)
      | refine' r_join (ls := [(_, _), (_, _)]) ?hlq9 ?hiq9 ?hwq9 ?_; (case hlq9 => exact News.isList (by k_asm) (by k_mem)); (case hiq9 => exact rfl)
      | refine' r_join (ls := [(_, _), (_, _), (_, _)]) ?hlq9 ?hiq9 ?hwq9 ?_; (case hlq9 => exact News.isList (by k_asm) (by k_mem)); (case hiq9 => exact rfl)); (case hwq9 => (simp [sp, fmod_lit]; omega)); intro _ _; (try dsimp only)))
  k_with "call type:tuple" => ((k_here; k_dflt (refine' r_tuple ?Fq9 ?Nq9 ?mq9 ?_ ?zq9; (case Fq9 => k_asm); (case Nq9 => k_asm); (case mq9 => k_mem); (case zq9 => (have hc9 := sizeLine_eq; (have hI9 := IntsAre.length (by assumption)); omega)); k_whole); intro _ _ _ _ l1q9; (try k_lt l1q9); (try (revert l1q9; intro _))))
  k_with "call builtin:len" => ((k_here; (with_reducible show wpAny _ _ (call (Value.builtin "len") [Value.ref _]) _ _ _); k_dflt (refine' r_len_tupI ?Nq9 ?mq9 ?iq9 ?fq9 ?_; (case Nq9 => k_asm); (case mq9 => k_mem); (case iq9 => with_reducible assumption); (case fq9 => omega); k_whole); intro _ _))
  k_with "subscriptTail" => ((k_here; (with_reducible show wpAny _ _ (subscriptTail _ _ (Value.ref _) (Value.int _ _)) _ _ _); k_dflt (refine' r_item_tupI ?Nq9 ?mq9 ?iq9 ?aq9 ?bq9 ?cq9 ?_ ?eq9; (case Nq9 => k_asm); (case mq9 => k_mem); (case iq9 => with_reducible assumption); (case aq9 => omega); (case bq9 => omega); (case cq9 => omega); (case eq9 => with_unfolding_all rfl); k_whole); intro _))
  k_with "pyIter ref" => ((k_here; (with_reducible show wpAny _ _ (pyIter (Value.ref _)) (fun it s₂ => LoopAtV _ _ _ _ _ _ _ _ _ it s₂) _ _); refine Hold.of ?_))
  trivial
local macro_rules | `(tactic| k_inst) => `(tactic| (refine' accInst ?N ?h1 ?h2; (case N => k_asm); (case h1 => k_mem); (case h2 => k_mem)))
theorem rowsA34_1 : True := by
  k_with "c.startS" => ((unfold Con; k_fill; intro _ _ _ _ _ _ _ _ _ _ _ _ _ _ _ _ _ Bq9 Fq9 Xq9 Nq9 Tq9 _ _ _ hretq9; refine wpAny_call ?_; k_dflt walk_at "c.enterS"; clear hretq9 Nq9 Fq9 Bq9 Xq9 Tq9))
  k_with "c.enterS" => ((refine' con_defS ?k1q9 ?k2q9 ?k3q9 ?k4q9 ?k5q9 ?kAq9 ?kFq9 ?kKq9 ?k6q9 ?k7q9 ?k8q9 ?k9q9 ?kBq9 ?kRq9 ?_ ?c2q9 ?c3q9 ?c4q9 ?c5q9; (case kAq9 => exact rfl); (case kFq9 => exact rfl); (case kKq9 => assumption); (case k1q9 => k_asm); (case k2q9 => k_asm); (case k3q9 => k_asm); (case k4q9 => k_asm); (case k5q9 => k_asm); (case k6q9 => k_is); (case k7q9 => k_is); (case k8q9 => ktr_room); (case k9q9 => first | exact BindsTo.of_eq rfl | exact binds_K (by k_in) rfl (by k_is) rfl rfl rfl); (case c5q9 => decide); (case kBq9 => exact locs rfl); (case c2q9 => exact rfl); (case c3q9 => exact rfl); (case c4q9 => exact rfl); (case kRq9 => walk_at "c.ret"); k_whole; intro _ _ _ _ _ _ _ _ _ l1q9; (try k_lt l1q9); (try (revert l1q9; intro _)); (try dsimp only); (try k_fold)))
  k_with "getMethod ref" => ((k_here; (with_reducible show wpAny _ _ (getMethod (Value.ref _) _ _) _ _ _); k_dflt (refine' acc_method ?Fq9 ?Xq9 ?Nq9 ?mq9 ?dq9 ?gaq9 ?cq9 ?gtq9 ?fq9 ?tfq9 ?lq9 ?_; (case Fq9 => k_asm); (case Xq9 => assumption); (case Nq9 => k_asm); (case mq9 => k_mem); (case dq9 => k_mem); (case gaq9 => k_is); (case cq9 => decide +kernel); (case gtq9 => k_is); (case fq9 => k_is); (case tfq9 => first | exact .inl (by k_is) | exact .inr (by k_is)); (case lq9 => rfl)); k_whole))
  k_with "getMethod ref" => ((k_here; (with_reducible show wpAny _ _ (getMethod (Value.ref _) _ _) _ _ _); k_dflt (refine' acc_super ?idq9 ?Fq9 ?Xq9 ?Nq9 ?sq9 ?mq9 ?oq9 ?fq9 ?lq9 ?nq9 ?_; (case Fq9 => k_asm); (case Xq9 => assumption); (case Nq9 => k_asm); (case sq9 => k_mem); (case mq9 => k_mem); (case oq9 => k_is); (case fq9 => ks_is); (case lq9 => k_is); (case nq9 => decide); (case idq9 => first | exact .inl rfl | exact .inr rfl)); k_whole; intro _ _ _ _ l1q9; (try k_lt l1q9); (try (revert l1q9; intro _))))
  k_with "callWith ref" => ((k_here; (with_reducible show wpAny _ _ (callWith _ (Value.ref _) [] _ []) _ _ _); k_dflt (refine' acc_mwWith ?Nq9 ?mq9 ?_; (case Nq9 => k_asm); (case mq9 => k_mem)); k_whole))
  k_with "call ref" => ((k_here; (with_reducible show wpAny _ _ (call (Value.ref _) []) _ _ _); k_dflt (refine' acc_mwLen ?Fq9 ?Xq9 ?Nq9 ?uq9 ?mq9 ?_; (case Fq9 => k_asm); (case Xq9 => assumption); (case Nq9 => k_asm); (case uq9 => k_mem); (case mq9 => k_mem)); k_whole; intro _ _))
  k_with "call ref" => ((k_here; (with_reducible show wpAny _ _ (call (Value.ref _) []) _ _ _); k_dflt (refine' acc_mwInit ?Fq9 ?Xq9 ?Nq9 ?uq9 ?mq9 ?_; (case Fq9 => k_asm); (case Xq9 => assumption); (case Nq9 => k_asm); (case uq9 => k_mem); (case mq9 => k_updF)); k_whole; intro _ _ _ _))
  k_with "call builtin:list.append" => ((k_here; k_dflt (refine' acc_append ?Fq9 ?Xq9 ?Nq9 ?Uq9 ?lq9 ?zq9 ?_; (case Fq9 => k_asm); (case Xq9 => assumption); (case Nq9 => k_asm); (case Uq9 => k_updF); (case lq9 => k_is); (case zq9 => omega)); k_whole; intro _ _ _ _))
  k_with "subscriptTail" => ((k_here; (with_reducible show wpAny _ _ (subscriptTail _ _ (Value.ref _) (Value.ref _)) _ _ _); k_dflt (refine' acc_slice ?Fq9 ?Xq9 ?Nq9 ?mq9 ?lq9 ?nq9 ?fq9 ?plq9 ?puq9 ?zq9 ?_ ?hsq9 ?htq9; (case Fq9 => k_asm); (case Xq9 => assumption); (case Nq9 => k_asm); (case mq9 => k_mem); (case lq9 => k_is); (case nq9 => k_is); (case fq9 => k_is); (case plq9 => first | exact .none | exact .int _ _); (case puq9 => first | exact .none | exact .int _ _); (case zq9 => omega); (case hsq9 => with_unfolding_all rfl); (case htq9 => (intro _; with_unfolding_all rfl))); k_whole; intro _ _ _ _ l1q9; (try k_lt l1q9); (try (revert l1q9; intro _))))
  k_with "setItem ref ref" => ((k_here; (with_reducible show wpAny _ _ (setItem (Value.ref _) (Value.ref _) (Value.ref _)) _ _ _); k_dflt (refine' acc_store ?Fq9 ?Xq9 ?Nq9 ?Uq9 ?lq9 ?nq9 ?fq9 ?yq9 ?xyq9 ?plq9 ?puq9 ?zq9 ?_; (case Fq9 => k_asm); (case Xq9 => assumption); (case Nq9 => k_asm); (case Uq9 => k_updF); (case lq9 => k_is); (case nq9 => k_is); (case fq9 => k_is); (case yq9 => k_mem); (case xyq9 => k_ne); (case plq9 => first | exact .none | exact .int _ _); (case puq9 => first | exact .none | exact .int _ _); (case zq9 => ((try simp); omega))); k_whole; intro _ _ _ _))
  k_with "setAttr ref" => ((k_here; (with_reducible show wpAny _ _ (setAttr (Value.ref _) _ _) _ _ _); k_dflt (refine' acc_setAttr ?Fq9 ?Xq9 ?Nq9 ?mq9 ?Uq9 ?cq9 ?mrq9 ?hdq9 ?sq9 ?tq9 ?lq9 ?eq9 ?zq9 ?_; (case Fq9 => k_asm); (case Xq9 => assumption); (case Nq9 => k_asm); (case mq9 => k_mem); (case Uq9 => k_updF); (case cq9 => k_is); (case mrq9 => exact rfl); (case hdq9 => exact rfl); (case sq9 => k_is); (case tq9 => k_is); (case lq9 => k_get); (case eq9 => k_put); (case zq9 => exact Nat.le_of_ble_eq_true rfl)); k_whole; intro _ _ _; (try k_sweep)))
  k_with "getAttr ref" => ((k_here; (with_reducible show wpAny _ _ (getAttr (Value.ref _) _ _) _ _ _); k_dflt (refine' acc_getAttr ?Fq9 ?Xq9 ?Nq9 ?mq9 ?dq9 ?gaq9 ?gtq9 ?lq9 ?hhq9 ?haq9 ?hnq9 ?hgq9 ?hvq9 ?_; (case Fq9 => k_asm); (case Xq9 => assumption); (case Nq9 => k_asm); (case mq9 => k_mem); (case dq9 => k_mem); (case gaq9 => k_is); (case gtq9 => k_is); (case lq9 => k_is); (case hhq9 => k_is); (case haq9 => k_is); (case hnq9 => k_is); (case hgq9 => k_get); (case hvq9 => k_handed)); k_whole))
  k_with "wpAt" => ((dsimp only; ks_step "execs cons"; refine ks_wpAt_execs_cons ?_))
  k_with "wpAt" => (((try dsimp only); ks_step "exec Expr"; k_dflt (refine ks_wpAt_Expr_any ?_ (by rfl) (by rfl))))
  k_with "wpAt" => (((try dsimp only); ks_step "eval Call"; k_dflt (refine ks_wpAt_MethodCall ?_)))
  k_with "eval ListComp" => ((k_here; (with_reducible show wpAny _ _ (eval (Expr.ListComp _ _ _ _) _) _ _ _); k_whole; refine Hold.of ?_))
  k_with "exec While BoolOp" => ((k_here; (with_reducible show wpAny _ _ (exec (Stmt.While _ _ _ _) _) _ _ _); k_whole; refine Hold.of ?_))
  k_with "exec While" => ((k_here; (with_reducible show wpAny _ _ (exec (Stmt.While _ _ _ _) _) _ _ _); k_whole; refine Hold.of ?_))
  k_with "c.startG" => ((unfold ConG; k_fill; intro _ _ _ _ _ _ _ _ _ _ _ _ _ _ _ _ _ Bq9 Fq9 Xq9 Nq9 Tq9 _ _ _ hretq9; refine wpAny_call ?_; k_dflt walk_at "c.enterG"; clear hretq9 Nq9 Fq9 Bq9 Xq9 Tq9))
  k_with "c.retG" => ((intro _ _ hl9q9; exact con_backG (by assumption) (by assumption) (by assumption) (by assumption) hl9q9))
  k_with "c.enterG" => ((refine' con_defG (fun _ _ => True) ?k1q9 ?k2q9 ?k3q9 ?k4q9 ?k5q9 ?kAq9 ?kFq9 ?kKq9 ?k6q9 ?k7q9 ?k8q9 ?k9q9 ?kBq9 ?kRq9 ?_ ?c2q9 ?c3q9 ?c4q9 ?c5q9; (case kAq9 => exact rfl); (case kFq9 => exact rfl); (case kKq9 => assumption); (case k1q9 => k_asm); (case k2q9 => k_asm); (case k3q9 => k_asm); (case k4q9 => k_asm); (case k5q9 => k_asm); (case k6q9 => k_is); (case k7q9 => k_is); (case k8q9 => ktr_room); (case k9q9 => first | exact BindsTo.of_eq rfl | exact binds_K (by k_in) rfl (by k_is) rfl rfl rfl); (case c5q9 => decide); (case kBq9 => exact locs rfl); (case c2q9 => exact rfl); (case c3q9 => exact rfl); (case c4q9 => exact rfl); (case kRq9 => walk_at "c.retG"); k_whole; intro _ _ _ _ _ _ _ _ _ l1q9; (try k_lt l1q9); (try (revert l1q9; intro _)); (try dsimp only); (try k_fold)))
  k_with "c.retG" => ((intro _ _ hl9q9; exact con_backG (by assumption) (by assumption) (by assumption) (by assumption) hl9q9))
  k_with "c.startGC" => ((unfold ConG; k_fill; intro _ _ _ _ _ _ _ _ _ _ _ _ _ _ _ _ _ Bq9 Fq9 Xq9 Nq9 Tq9 _ _ _ hretq9; refine wpAny_call ?_; k_dflt walk_at "c.enterGC"; clear hretq9 Nq9 Fq9 Bq9 Xq9 Tq9))
  k_with "c.enterGC" => ((refine' con_defCG (fun _ _ => True) ?k1q9 ?k2q9 ?k3q9 ?k4q9 ?k5q9 ?kAq9 ?kFq9 ?kKq9 ?k6q9 ?k7q9 ?k8q9 ?k9q9 ?kBq9 ?kDq9 ?kRq9 ?_ ?c2q9 ?c3q9 ?c4q9; (case kAq9 => exact rfl); (case kFq9 => exact rfl); (case kKq9 => assumption); (case k1q9 => k_asm); (case k2q9 => k_asm); (case k3q9 => k_asm); (case k4q9 => k_asm); (case k5q9 => k_asm); (case k6q9 => k_is); (case k7q9 => k_is); (case k8q9 => ktr_room); (case k9q9 => first | exact BindsTo.of_eq rfl | exact binds_K (by k_in) rfl (by k_is) rfl rfl rfl); (case kBq9 => exact rfl); (case kDq9 => decide +kernel); (case c2q9 => exact rfl); (case c3q9 => exact rfl); (case c4q9 => exact rfl); (case kRq9 => walk_at "c.retG"); k_whole; intro _ _ _ _ _ _ _ N'q9 Y'q9 _ _ _ l1q9; (try k_lt l1q9); (try (revert l1q9; intro _)); k_cells Y'q9; (try simp only [List.cons_append, List.nil_append] at N'q9); (try dsimp only); (try k_fold)))
  k_with "exec If" => ((k_here; (with_reducible show wpAny _ _ (exec (Stmt.If (Expr.Compare (Expr.Name (Str.ofString "short") _) _ _ _) _ _ _) _) _ _ _); k_whole; refine Hold.of ?_))
  k_with "exec If Compare" => ((k_here; (with_reducible show wpAny _ _ (exec (Stmt.If (Expr.Compare (Expr.Name (Str.ofString "short") _) _ _ _) _ _ _) _) _ _ _); k_whole; refine Hold.of ?_))
  trivial
theorem told_con (w : World) (mean : ExcName → Option Value) (mg mb : Str → Option Value) (r : Addr) (vs : List Value) (st : List Int) (nr : Nat) (short : Int) (t0 : Tok)
    (hI : IntsAre vs st) (hlen : st.length ≤ 20) (hpos : ∀ x ∈ st, 1 ≤ x ∧ x ≤ 100) (hne : 1 ≤ st.length) (hs : short = 0 ∨ short = 1) :
    ConG 60 w mean mg mb 205 [.ref r, .int short t0] [(r, W.listOf vs.toArray nr)] (fun tl v => ∃ y us, IntsAre us (toldV st short) ∧ v = .ref y ∧ tl = [(y, LCg.lst us), (r, W.listOf vs.toArray nr)]) := by
  walk_at "c.startG"
  refine abs1 ?_
  intro X8 hX8
  k_steps
  refine Hold.on ?_
  with_reducible rename Fr _ _ _ _ => lF
  with_reducible rename News _ _ _ _ => lN
  refine if_cut r vs nr st short lF ?_ ?_
  · refine wpAny_If ?_
    rcases hs with rfl | rfl
    · k_steps
      refine RulJ.intro (n := 0) lF (fun z => rfl) ?N (by assumption) ⟨fun _ => rfl, fun h => absurd h (by decide)⟩
      (case N => (refine' cb_drop ?A ?B; (case A => k_asm); (case B => lcg_sub)))
    · k_steps
      refine Hold.on ?_
      with_reducible rename Fr _ _ _ _ => kF
      with_reducible rename News _ _ _ _ => kN
      rename_i D2 c2 h6 l4 h7
      refine while_m (fun mz (c : TrimS) z => mz z) (fun c => [(D2, W.listOf c.us.toArray c.n), (r, W.listOf vs.toArray nr)]) (fun c => IntsAre c.us (st.take c.k) ∧ 1 ≤ c.k ∧ c.k ≤ st.length ∧ ∀ j, c.k ≤ j → j < st.length → st.getD j 0 = st.getD (c.k - 1) 0) (fun c => c.k) ⟨vs, c2, st.length⟩ kF ?N (fun z => rfl) ?hi ?turn
      (case N => (refine' cb_drop ?A ?B; (case A => k_asm); (case B => lcg_sub)))
      (case hi => exact ⟨by rw [List.take_length]; exact hI, hne, Nat.le_refl _, fun j h1 h2 => absurd h2 (Nat.not_lt.mpr h1)⟩)
      rintro ⟨us, n, k⟩ h tk ⟨iu, hk1, hk2, hk3⟩ F' N'
      dsimp only at iu hk1 hk2 hk3 F' N' ⊢
      clear kF kN
      have hlu := iu.length
      have hlt : (st.take k).length = k := by rw [List.length_take]; omega
      generalize hT : st.take k = T at iu hlu hlt
      refine abs3 ?_
      intro X9 Y9 hX9 hY9
      k_steps
      · with_reducible rename Fr _ _ _ _ => kF
        with_reducible rename News _ _ _ _ => kN
        have hgT : ∀ j, j < k → T.getD j 0 = st.getD j 0 := fun j hj => by rw [← hT, List.getD_eq_getElem?_getD, List.getElem?_take_of_lt hj, ← List.getD_eq_getElem?_getD]
        have heq : st.getD (k - 1) 0 = st.getD (k - 2) 0 := by
          rw [← hgT _ (by omega), ← hgT _ (by omega)]
          rw [show k - 1 = (-1 + (T.length : Int)).toNat by omega, show k - 2 = (-2 + (T.length : Int)).toNat by omega]
          assumption
        refine hX9 _ _ ?_
        refine WNext.intro ⟨us.dropLast, n + 1, k - 1⟩ kF (fun z => rfl) kN ⟨?_, ?_, ?_, ?_⟩ ?_
        · show IntsAre us.dropLast (st.take (k - 1))
          have e9 : st.take (k - 1) = T.dropLast := by
            rw [List.dropLast_eq_take, hlt, ← hT, List.take_take, Nat.min_eq_left (Nat.sub_le _ _)]
          rw [e9, List.dropLast_eq_take, List.dropLast_eq_take, hlu]
          exact IntsAre.take iu _
        · show 1 ≤ k - 1
          omega
        · show k - 1 ≤ st.length
          omega
        · intro j h1 h2
          dsimp only at h1 ⊢
          rw [show k - 1 - 1 = k - 2 by omega, ← heq]
          by_cases hj : j = k - 1
          · rw [hj]
          · exact hk3 j (by omega) h2
        · show k - 1 < k
          omega
      all_goals (
        refine hY9 _ ?_
        k_steps
        refine' r_iadd ?F ?N ?U ?hy ?hne ?hz ?_
        (case F => k_asm)
        (case N => k_asm)
        (case U => k_updF)
        (case hy => k_mem)
        (case hne => simp)
        (case hz => rw [List.size_toArray, hlu, hlt]; show k + 2 ≤ 1000; omega)
        intro h' n' F' N'
        dsimp only
        k_steps)
      all_goals (
        with_reducible rename Fr _ _ _ _ => kF
        with_reducible rename News _ _ _ _ => kN
        rw [List.append_toArray] at kN
        refine RulJ.intro kF (fun z => ?_) (fun p hp => kN p (List.mem_cons_of_mem _ hp)) (IntsAre.append iu (.cons _ _ (.cons _ _ .nil))) ⟨fun h => absurd h (by decide), fun _ => ⟨k, hk1, hk2, ?_, hk3⟩⟩
        · by_cases hz : z = Str.ofString "ruler"
          · simp only [if_pos hz]
          · simp only [if_neg hz]
        · rw [hT])
  rintro f s5 ⟨rfl, D5, us5, rs, n5, h5, tk5, m5, rfl, F5, hm5, N5, hus5, hrul⟩
  obtain rfl := funext hm5
  clear hm5 lF lN
  obtain ⟨kr, Wr, hlenR, hR⟩ := ruler_of hrul hlen hpos hne hs
  dsimp only
  k_steps
  refine Hold.on ?_
  refine ListComp_X (cl := []) (by rfl) (by rfl) (by decide) ?_ (by intro _; with_unfolding_all rfl)
  k_steps
  with_reducible rename Fr _ _ _ _ => lF
  with_reducible rename News _ _ _ _ => lN
  refine wpAny_call ?_
  refine' con_gen ?F ?X ?T ?ho ?hcd ?hroom ?hbind ?hkind ?hco ?hgen ?hk ?_
  (case F => exact lF)
  (case X => k_asm)
  (case T => k_asm)
  (case ho => k_is)
  (case hcd => k_is)
  (case hroom => ktr_room)
  (case hbind => first | exact BindsTo.of_eq rfl | exact binds_K (by k_in) rfl (by k_is) rfl rfl rfl)
  (case hkind => exact rfl)
  (case hco => exact rfl)
  (case hgen => exact rfl)
  (case hk => exact rfl)
  intro C h₁ h₂ tk2 FC hC hgen hsz2 hk12 hk01 hCe
  k_whole
  have FL := fr_off (wr := []) lF (fun b o _ e => hk12 b o (hk01 b o e)) (by simp) (by simp)
  have NL := lN.grown fun b o e => hk12 b o (hk01 b o e)
  have hr2 : IsRange h₂ _ _ _ _ _ _ _ := hk12 _ _ (hk01 _ _ (by assumption))
  have lF0 := lF.above
  have lF1 := lF.ns.lt
  have lN1 := fun p hp => Heap.lt_size (lN p hp).1
  have hD1 := (lN (D5, W.listOf us5.toArray n5) (by simp)).1
  rename Top _ _ _ _ _ _ => lT
  rename Frag.In _ _ => lX
  have lS : @LT.lt Nat _ cStatics C := by
    obtain ⟨mc, hns, _⟩ := lT.nolimit.keeps lF.keep
    rw [hCe]
    exact hns.lt
  have lK := lF.keep
  have lTG := lT.keeps lK
  have lXG := lX.keeps lK
  clear lF lN
  dsimp only
  k_steps
  with_unfolding_all refine' zipg_comp (M := st.length + 1) (N := (toldV st short).length) (fin := decide (short = 0) = true) (val := fun j => (toldV st short).getD j 0) (Cg := C) ?zhh ?zhcells ?zhcl ?zhxx ?zhx ?zhx2 ?zhkind hr2 ?zhsm ?zhM hgen ?zhCa ?zhcs ?zhroom ?zhfin (fun i us => IntsAre us ((toldV st short).take i)) ?zhn FL NL ?zhCn ?zhLC ?zhnC ?zhi ?zhgen ?zturn ?zdone
  (case zhh => exact rfl)
  (case zhcells => intro n; rfl)
  (case zhcl => intro n; rfl)
  (case zhxx => decide)
  (case zhx => exact rfl)
  (case zhx2 => exact rfl)
  (case zhkind => exact rfl)
  (case zhsm => exact small_one (by omega) (by omega) (by omega) (by omega))
  (case zhM => rw [show ((st.length : Int) + 1) = ((st.length + 1 : Nat) : Int) by push_cast; rfl, rangeSize_nat]; omega)
  (case zhCa => exact hC)
  (case zhcs => exact lS)
  (case zhroom => ktr_room)
  (case zhfin =>
    intro hlt9
    rcases hs with rfl | rfl
    · decide
    · rw [show toldV st 1 = st ++ [st.getLastD 0] from if_pos rfl, List.length_append, List.length_singleton] at hlt9
      exact absurd hlt9 (Nat.lt_irrefl _))
  (case zhn => omega)
  (case zhCn => rw [hCe]; exact Heap.get?_none_of_le (Nat.le_trans lF0 (Nat.le_of_lt lF1)))
  (case zhLC => rw [hCe]; exact Nat.ne_of_lt lF1)
  (case zhnC => intro p hp; rw [hCe]; exact Nat.ne_of_lt (lN1 p hp))
  (case zhi => exact .nil)
  (case zturn =>
    intro D9 C9 hDC9 i9 us9 t9 t9' h9 tk9 gs9 m9 oC9 E9 hin9 hj9 hC9 ha9 hb9 F9 N9
    refine wpAny_tests_nil ?_
    dsimp only
    rw [if_pos rfl]
    k_steps
    refine ⟨⟨h9, _, rfl, fun _ _ e => e⟩, ?_⟩
    have hlt : i9 < (toldV st short).length := by omega
    rw [List.take_add_one, List.getElem?_eq_getElem hlt]
    have e9 : (toldV st short).getD i9 0 = (toldV st short)[i9] := by rw [List.getD_eq_getElem?_getD, List.getElem?_eq_getElem hlt]; rfl
    rw [← e9]
    exact IntsAre.append hj9 (.cons _ _ .nil))
  (case zdone =>
    intro D9 us9 h9 tk9 gs9 hj9 hG9 hnD9 F9 N9
    have hle9 : (toldV st short).length ≤ st.length + 1 := by
      unfold toldV
      split <;> simp
    rw [Nat.min_eq_right hle9, List.take_length] at hj9
    dsimp only
    refine hX8 _ _ ?_
    refine ⟨_, _, [(D9, LCg.lst us9), (r, W.listOf vs.toArray nr)], h9, tk9, gs9, rfl, GR.trans (GR.push rfl) hG9, F9, ?_, D9, us9, hj9, rfl, rfl⟩
    intro p hp
    simp only [List.mem_cons, List.not_mem_nil, or_false] at hp
    rcases hp with rfl | rfl
    · have e9 := N9 (D9, LCg.lst us9) List.mem_cons_self
      exact e9
    · exact N9 _ (List.mem_cons_of_mem _ (by simp)))
  (case zhgen =>
    dsimp only at FC hCe hk12 hk01 hD1 hgen ⊢
    intro P h' haP hP hk'
    rename_i hG tkG tt1 tt2 tt3 isr hkR
    have FC' := (FC.keeps hk12).keeps hk'
    have kk : ∀ b o, h₁.get? b = some o → h'.get? b = some o := fun b o e => hk' b o (hk12 b o e)
    have hGC : ∀ b o, hG.get? b = some o → @LT.lt Nat _ b C := fun b o e => by rw [hCe]; exact Heap.lt_size e
    refine ⟨hgen.keeps hk', lTG.nolimit.keeps fun b o e => kk _ _ (hk01 _ _ e), hP, _, Array.getElem?_push_size, rfl, fun _ s'' hs'' => ?_⟩
    show _ ∧ _
    have FS : Fr _ C s''.heap _ := ⟨FC'.ns.at' fun o e => hs''.1 C o (fun q => Nat.lt_asymm hC q.1) e, fun b o e => hs''.1 b o (fun q => Nat.lt_asymm (Nat.lt_trans (hGC b o e) hC) q.1) (FC'.keep b o e), FC'.above⟩
    have hP'' := hs''.2
    clear hs'' FC' FC FL NL
    refine ⟨rfl, seg_func (seg_execs_cons (seg_wrap ?_))⟩
    obtain ⟨mz, FS, hgr⟩ : ∃ mz, Fr hG C s''.heap mz ∧ mz (Str.ofString "grouping") = some (.ref D5) := ⟨_, FS, rfl⟩
    refine wpAny_Assign_Name ?_
    refine wpAny_mono (Q := EvJ s'' (fun v => v = .none)) (E := fun _ _ => False) ?_ (fun v s₁ hv => ?_) (fun _ _ x => x.elim)
    · k_steps
      exact ⟨rfl, _, rfl⟩
    obtain ⟨rfl, tk9, rfl⟩ := hv
    refine wpAny_storeName_local (by rfl) FS.ns (fun h4 hn4 hs4 => ?_)
    have F4 := FS.set hn4 hs4
    refine seg_execs_cons (seg_For (by intro _; with_unfolding_all rfl) ?_)
    refine nameX_L F4 (by exact hgr) ?_
    dsimp only
    refine wpAny_pyIter_list (items := us5.toArray) ⟨_, F4.keep _ _ hD1, rfl, n5, rfl⟩ ?_
    intro p5
    have hPs : @LT.lt Nat _ P s''.heap.objs.size := by obtain ⟨oP, e⟩ := hP''; exact Heap.lt_size e
    have hPI : @LT.lt Nat _ P h4.objs.size := by rw [hs4.1]; exact hPs
    have hCP : @LT.lt Nat _ C P := Nat.lt_trans hC haP
    have hIG : hG.get? h4.objs.size = none := Heap.get?_none_of_le (Nat.le_of_lt (by rw [← hCe]; exact Nat.lt_trans hCP hPI))
    have F5 := F4.push { cls := .type "list_iterator", data := .fields #[.ref D5, .int 0 0] }
    have hit5 : Heap.IsListIter (h4.push { cls := .type "list_iterator", data := .fields #[.ref D5, .int 0 0] }) h4.objs.size D5 0 := ⟨_, Heap.get?_push_size _ rfl, rfl, rfl⟩
    generalize hIt : h4.objs.size = It at hit5 hPI hIG
    have up5 : ∀ b o, ¬ gW C P b → s''.heap.get? b = some o → (h4.push { cls := .type "list_iterator", data := .fields #[.ref D5, .int 0 0] }).get? b = some o := fun b o hb e =>
      Heap.get?_push_of_some _ (hs4.extBut b o (fun q => hb (.inl q)) e)
    generalize h4.push { cls := .type "list_iterator", data := .fields #[.ref D5, .int 0 0] } = h5' at F5 hit5 up5
    clear hn4 hs4 F4 FS
    have hCI : @Ne Nat C It := Nat.ne_of_lt (Nat.lt_trans hCP hPI)
    generalize hval : (fun j => (toldV st short).getD j 0) = val at hR
    have hlu5 : us5.length = rs.length := hus5.length
    rw [Nat.sub_zero, hlenR]
    refine seg_turns (m := kr) (W := Wr) (fin := decide (short = 0)) (I := gI C P It D5 hG mz val) (I1 := gI1 C P It D5 hG mz val rs) (I2 := gI1 C P It D5 hG mz val rs) (V := gV C P It D5 hG mz val rs kr)
      (by rfl) (by rfl) (by rfl) (by rfl) (by rfl) (by rfl) ?xnext ?x1 ?x2 ?x3 ?xw ?xret ?xe0 ?xe ?xa ?xY ?xYm ?xI2 ?xend kr 0 (Nat.zero_add _) _ _ ?xi
    (case xi => exact ⟨⟨_, _, rfl, up5⟩, ⟨_, up5 P _ (fun q => q.elim (Nat.ne_of_gt hCP) (Nat.lt_irrefl _)) hP''.choose_spec⟩, hit5, _, .none, .inl ⟨rfl, rfl⟩, by rw [← map_u]; exact F5⟩)
    (case xI2 => exact fun _ s h => h)
    (case xnext =>
      rintro A' j s₀ s hj ⟨⟨hh, tk, rfl, hkk⟩, hPl, hit, u, l, hl, F⟩
      obtain ⟨t, ht⟩ := hus5.get j (rs.getD j 0) (by
        have hjr : j < rs.length := by have := hR.len.1; omega
        rw [List.getD_eq_getElem?_getD, List.getElem?_eq_getElem hjr]; rfl)
      refine pyNext_seq_item (x := .int (rs.getD j 0) t) hit ⟨_, n5, F.keep _ _ hD1, rfl⟩ (by simpa using ht) fun h6 hit6 hs6 => ?_
      refine ⟨_, rfl, wpAny_pure ?_⟩
      have F6 := F.change hs6 (Ne.symm hCI) hIG
      refine wpAny_assign_Name (wpAny_storeName_local (by rfl) F6.ns fun h7 hn7 hs7 => ?_)
      have F7 := F6.set hn7 hs7
      have up7 : ∀ b o, ¬ gW C P b → hh.get? b = some o → h7.get? b = some o := fun b o hb e =>
        hs7.extBut b o (fun q => hb (.inl q)) (hs6.extBut b o (fun q => hb (.inr (by rw [show b = It from q]; exact hPI))) e)
      exact ⟨⟨_, _, rfl, fun b o hb e => up7 b o hb (hkk b o hb e)⟩, ⟨_, up7 P _ (fun q => q.elim (Nat.ne_of_gt hCP) (Nat.lt_irrefl _)) hPl.choose_spec⟩, hit6.extBut hs7.extBut (Ne.symm hCI), t, l, hl, by rw [← map_s]; exact F7⟩)
    (case x1 =>
      intro A' j s₀ s hj hI1
      obtain ⟨⟨hh, tk, e9, hkk⟩, hPl, hit, t, l, hl, F⟩ := id hI1
      refine wpAny_mono (Q := EvB s (rs.getD j 0 == 127)) (E := fun _ _ => False) ?_ (fun b s' hb => ?_) fun _ _ x => x
      · k_steps
        exact ⟨rfl, _, rfl⟩
      · obtain ⟨rfl, tk', rfl⟩ := hb
        exact ⟨hR.is127 hj, hI1.next⟩)
    (case x2 =>
      intro A' j s₀ s hj hf hI1
      obtain ⟨⟨hh, tk, e9, hkk⟩, hPl, hit, t, l, hl, F⟩ := id hI1
      refine wpAny_mono (Q := EvB s (rs.getD j 0 == 0)) (E := fun _ _ => False) ?_ (fun b s' hb => ?_) fun _ _ x => x
      · k_steps
        exact ⟨rfl, _, rfl⟩
      · obtain ⟨rfl, tk', rfl⟩ := hb
        exact ⟨hR.is0 hj hf, hI1.next⟩)
    (case x3 =>
      intro A' s₀ s hI1
      obtain ⟨⟨hh, tk, e9, hkk⟩, hPl, hit, t, l, hl, F⟩ := id hI1
      obtain ⟨t', rfl⟩ : ∃ t', l = .int (val (kr - 1)) t' := hl.elim (fun q => absurd q.1 (Nat.ne_of_gt hR.kpos)) (fun q => q.2)
      refine wpAny_mono (Q := EvB s false) (E := fun _ _ => False) ?_ (fun b s' hb => ?_) fun _ _ x => x
      · k_steps
        exact ⟨rfl, _, rfl⟩
      · obtain ⟨rfl, tk', rfl⟩ := hb
        exact ⟨rfl, hI1.next⟩)
    (case xw =>
      intro A' s₀ s hI1
      refine wpAny_mono (Q := EvB s true) (E := fun _ _ => False) ?_ (fun b s' hb => ?_) fun _ _ x => x
      · k_steps
        exact ⟨rfl, _, rfl⟩
      · obtain ⟨rfl, tk', rfl⟩ := hb
        exact ⟨rfl, hI1.next⟩)
    (case xret =>
      intro A' s₀ s hI1
      refine wpAny_mono (Q := EvF s (.ret .none)) (E := fun _ _ => False) ?_ (fun b s' hb => ?_) fun _ _ x => x
      · k_steps
        exact ⟨rfl, _, rfl⟩
      · obtain ⟨rfl, tk', rfl⟩ := hb
        exact ⟨rfl, hI1.next⟩)
    (case xe0 =>
      intro A' s₀ s hI1
      obtain ⟨⟨hh, tk, e9, hkk⟩, hPl, hit, t, l, hl, F⟩ := id hI1
      obtain ⟨t', rfl⟩ : ∃ t', l = .int (val (kr - 1)) t' := hl.elim (fun q => absurd q.1 (Nat.ne_of_gt hR.kpos)) (fun q => q.2)
      refine wpAny_mono (Q := EvJ s (fun v => v = .int (val (kr - 1)) t')) (E := fun _ _ => False) ?_ (fun b s' hb => ?_) fun _ _ x => x
      · k_steps
        exact ⟨rfl, _, rfl⟩
      · obtain ⟨rfl, tk', rfl⟩ := hb
        exact ⟨⟨t', by rw [if_neg (Nat.lt_irrefl _)]⟩, hI1.next⟩)
    (case xe =>
      intro A' j s₀ s hj hI1
      obtain ⟨⟨hh, tk, e9, hkk⟩, hPl, hit, t, l, hl, F⟩ := id hI1
      refine wpAny_mono (Q := EvJ s (fun v => v = .int (rs.getD j 0) t)) (E := fun _ _ => False) ?_ (fun b s' hb => ?_) fun _ _ x => x
      · k_steps
        exact ⟨rfl, _, rfl⟩
      · obtain ⟨rfl, tk', rfl⟩ := hb
        exact ⟨⟨t, by rw [if_pos hj, (hR.item j hj).1]⟩, hI1.next⟩)
    (case xa =>
      rintro A' j s hj ⟨⟨hh, tk, e9, hkk⟩, hPl, hit, t, l, hl, F⟩
      refine wpAny_Assign_Name ?_
      refine wpAny_mono (Q := EvJ s (fun v => v = .int (rs.getD j 0) t)) (E := fun _ _ => False) ?_ (fun b s' hb => ?_) fun _ _ x => x.elim
      · k_steps
        exact ⟨rfl, _, rfl⟩
      · obtain ⟨rfl, tk', rfl⟩ := hb
        refine wpAny_storeName_local (by rfl) F.ns fun h7 hn7 hs7 => ?_
        have F7 := F.set hn7 hs7
        have up7 : ∀ b o, ¬ gW C P b → s.heap.get? b = some o → h7.get? b = some o := fun b o hb e => hs7.extBut b o (fun q => hb (.inl q)) e
        exact ⟨rfl, ⟨_, _, rfl, up7⟩, ⟨_, up7 P _ (fun q => q.elim (Nat.ne_of_gt hCP) (Nat.lt_irrefl _)) hPl.choose_spec⟩, hit.extBut hs7.extBut (Ne.symm hCI), _, .int (val j) t, .inr ⟨Nat.succ_pos _, t, rfl⟩, by rw [← (hR.item j hj).1, ← map_a (by decide)]; exact F7⟩)
    (case xY =>
      rintro j s₀ v s' kap hj ⟨⟨t, rfl⟩, hI1⟩ hk
      refine ⟨⟨t, ?_⟩, hI1.1, fun _ s'' hf => hk (.inr hj) s'' (hI1.free hC hPI hGC hf)⟩
      rw [if_pos hj]
      congr 2
      split <;> omega)
    (case xYm =>
      rintro hfin n hn s₀ v s' kap ⟨⟨t, rfl⟩, hI1⟩ hk
      refine ⟨⟨t, ?_⟩, hI1.1, fun h s'' hf => hk (h.resolve_left (by rw [hfin]; decide)) s'' (hI1.free hC hPI hGC hf)⟩
      rw [if_neg (Nat.lt_irrefl _), hfin, if_neg (by decide)]
      rw [(hR.pos hfin).2 (kr + (Wr + 1) - 1 - n) (by omega) (by omega)])
    (case xend =>
      rintro hfin s₀ s hI1
      refine seg_leaf (.ok (.ret .none)) ?_
      show Seg _ _ _ _ _ _ _ _ _ _
      exact seg_end (.ok (.ret .none)) ⟨rfl, rfl, hI1.1⟩))
end
section
local macro_rules | `(tactic| k_room) => `(tactic| ktr_room)
theorem rowsA35_0 : True := by
  w_top off
  k_with_none
  k_with "c.enter" => ((first
      | (refine' con_def ?k1q9 ?k2q9 ?k3q9 ?k4q9 ?k5q9 ?kAq9 ?kFq9 ?kKq9 ?k6q9 ?k7q9 ?k8q9 ?k9q9 ?kBq9 ?kRq9 ?_ ?c2q9 ?c3q9 ?c4q9 ?c5q9; (case kAq9 => exact rfl); (case kFq9 => exact rfl); (case kKq9 => assumption); (case k1q9 => k_asm); (case k2q9 => k_asm); (case k3q9 => k_asm); (case k4q9 => k_asm); (case k5q9 => k_asm); (case k6q9 => k_is); (case k7q9 => k_is); (case k8q9 => ktr_room); (case k9q9 => first | exact BindsTo.of_eq rfl | exact binds_K (by k_in) rfl (by k_is) rfl rfl rfl); (case c5q9 => decide); (case kBq9 => exact locs rfl); (case c2q9 => exact rfl); (case c3q9 => exact rfl); (case c4q9 => exact rfl); (case kRq9 => walk_at "c.ret"); k_whole; intro _ _ _ _ _ N'q9 _ _ _ l1q9; (try k_lt l1q9); (try (revert l1q9; intro _)); (try dsimp only); (try k_fold))
      | (refine' con_defC ?k1q9 ?k2q9 ?k3q9 ?k4q9 ?k5q9 ?kAq9 ?kFq9 ?kKq9 ?k6q9 ?k7q9 ?k8q9 ?k9q9 ?kBq9 ?kDq9 ?kRq9 ?_ ?c2q9 ?c3q9 ?c4q9; (case kAq9 => exact rfl); (case kFq9 => exact rfl); (case kKq9 => assumption); (case k1q9 => k_asm); (case k2q9 => k_asm); (case k3q9 => k_asm); (case k4q9 => k_asm); (case k5q9 => k_asm); (case k6q9 => k_is); (case k7q9 => k_is); (case k8q9 => ktr_room); (case k9q9 => first | exact BindsTo.of_eq rfl | exact binds_K (by k_in) rfl (by k_is) rfl rfl rfl); (case kBq9 => exact rfl); (case kDq9 => decide +kernel); (case c2q9 => exact rfl); (case c3q9 => exact rfl); (case c4q9 => exact rfl); (case kRq9 => walk_at "c.ret"); k_whole; intro _ _ _ _ _ _ _ N'q9 Y'q9 _ _ _ l1q9; (try k_lt l1q9); (try (revert l1q9; intro _)); k_cells Y'q9; (try simp only [List.cons_append, List.nil_append] at N'q9); (try dsimp only); (try k_fold))))
  k_with "c.ret" => ((intro _ _ hl9q9; exact con_back (by assumption) (by assumption) (by assumption) (by assumption) hl9q9))
  k_with "c.start" => ((unfold Con; k_fill; intro _ _ _ _ _ _ _ _ _ _ _ _ _ _ _ _ _ Bq9 Fq9 Xq9 Nq9 Tq9 _ _ _ hretq9; refine wpAny_call ?_; k_dflt walk_at "c.enter"; clear hretq9 Nq9 Fq9 Bq9 Xq9 Tq9))
  k_with "c.startCls" => ((unfold Con; k_fill; intro _ _ _ _ _ _ _ _ _ _ _ _ _ _ _ _ _ Bq9 Fq9 Xq9 Nq9 Tq9 _ _ _ hretq9; refine wpAny_call ?_; k_dflt walk_at "c.enterCls"; clear hretq9 Nq9 Fq9 Bq9 Xq9 Tq9))
  k_with "c.enterCls" => ((refine' con_cls ?k1q9 ?k2q9 ?k3q9 ?k5q9 ?kAq9 ?kFq9 ?kKq9 ?m1q9 ?m2q9 ?m3q9 ?k6q9 ?k7q9 ?k8q9 ?k9q9 ?kBq9 ?kRq9 ?_ ?c2q9 ?c3q9 ?c4q9 ?c5q9; (case kAq9 => exact rfl); (case kFq9 => exact rfl); (case kKq9 => assumption); (case k1q9 => k_asm); (case k2q9 => k_asm); (case k3q9 => k_asm); (case k5q9 => k_asm); (case m1q9 => k_is); (case m2q9 => k_is); (case m3q9 => k_is); (case k6q9 => k_is); (case k7q9 => k_is); (case k8q9 => ktr_room); (case k9q9 => intro _ _; exact BindsTo.of_eq rfl); (case c5q9 => decide); (case kBq9 => intro _; exact locs rfl); (case c2q9 => exact rfl); (case c3q9 => exact rfl); (case c4q9 => exact rfl); (case kRq9 => exact con_nil (by assumption)); k_whole; intro _ _ _ _ _ _ l0'q9 _ _ _ _ _ l1q9; (try k_lt2 l0'q9); (try (revert l0'q9; intro _)); (try k_lt2 l1q9); (try (revert l1q9; intro _)); (try dsimp only); (try k_fold)))
  k_with "CompSrc" => ((k_here; k_dflt (refine LCg.CompSrc.range (by rfl) (by k_asm) (by k_asm) (by assumption) (by first | decide | rfl) (by first | rfl | decide) (by first | size_fits | exact Nat.le_of_ble_eq_true rfl) ?_; intro _; lcg_lit)))
  k_with "binaryOp Mult str int" => ((k_here; (refine' r_mul ?haq9 ?hbq9 ?_); (case haq9 => ((try simp only [fmod_lit]); omega)); (case hbq9 => ((try simp only [fmod_lit]); omega)); intro _ _))
  k_with "binaryOp Add str str" => ((k_here; (refine' r_add ?haq9 ?hbq9 ?hcq9 ?_); (case haq9 => first | with_reducible exact S_tab | with_reducible exact S_blank | with_reducible rfl); (case hbq9 => first | with_reducible exact S_tab | with_reducible exact S_blank | with_reducible rfl); (case hcq9 => (simp [sp]; omega)); intro _ _))
  k_with "call builtin:str.join" => ((k_here; (first
      | refine' r_join (ls := [(_, _)]) ?hlq9 ?hiq9 ?hwq9 ?_; (case hlq9 => exact News.isList (by k_asm) (by k_mem)); (case hiq9 => exact rfl)
      | refine' r_join (ls := [(_, _), (_, _)]) ?hlq9 ?hiq9 ?hwq9 ?_; (case hlq9 => exact News.isList (by k_asm) (by k_mem)); (case hiq9 => exact rfl)
      | refine' r_join (ls := [(_, _), (_, _), (_, _)]) ?hlq9 ?hiq9 ?hwq9 ?_; (case hlq9 => exact News.isList (by k_asm) (by k_mem)); (case hiq9 => exact rfl)); (case hwq9 => (simp [sp, fmod_lit]; omega)); intro _ _; (try dsimp only)))
  k_with "call type:tuple" => ((k_here; k_dflt (refine' r_tuple ?Fq9 ?Nq9 ?mq9 ?_ ?zq9; (case Fq9 => k_asm); (case Nq9 => k_asm); (case mq9 => k_mem); (case zq9 => (have hc9 := sizeLine_eq; (have hI9 := IntsAre.length (by assumption)); omega)); k_whole); intro _ _ _ _ l1q9; (try k_lt l1q9); (try (revert l1q9; intro _))))
  k_with "call builtin:len" => ((k_here; (with_reducible show wpAny _ _ (call (Value.builtin "len") [Value.ref _]) _ _ _); k_dflt (refine' r_len_tupI ?Nq9 ?mq9 ?iq9 ?fq9 ?_; (case Nq9 => k_asm); (case mq9 => k_mem); (case iq9 => with_reducible assumption); (case fq9 => omega); k_whole); intro _ _))
  k_with "subscriptTail" => ((k_here; (with_reducible show wpAny _ _ (subscriptTail _ _ (Value.ref _) (Value.int _ _)) _ _ _); k_dflt (refine' r_item_tupI ?Nq9 ?mq9 ?iq9 ?aq9 ?bq9 ?cq9 ?_ ?eq9; (case Nq9 => k_asm); (case mq9 => k_mem); (case iq9 => with_reducible assumption); (case aq9 => omega); (case bq9 => omega); (case cq9 => omega); (case eq9 => with_unfolding_all rfl); k_whole); intro _))
  k_with "pyIter ref" => ((k_here; (with_reducible show wpAny _ _ (pyIter (Value.ref _)) (fun it s₂ => LoopAtV _ _ _ _ _ _ _ _ _ it s₂) _ _); refine Hold.of ?_))
  trivial
local macro_rules | `(tactic| k_inst) => `(tactic| (refine' accInst ?N ?h1 ?h2; (case N => k_asm); (case h1 => k_mem); (case h2 => k_mem)))
theorem rowsA35_1 : True := by
  k_with "c.startS" => ((unfold Con; k_fill; intro _ _ _ _ _ _ _ _ _ _ _ _ _ _ _ _ _ Bq9 Fq9 Xq9 Nq9 Tq9 _ _ _ hretq9; refine wpAny_call ?_; k_dflt walk_at "c.enterS"; clear hretq9 Nq9 Fq9 Bq9 Xq9 Tq9))
  k_with "c.enterS" => ((refine' con_defS ?k1q9 ?k2q9 ?k3q9 ?k4q9 ?k5q9 ?kAq9 ?kFq9 ?kKq9 ?k6q9 ?k7q9 ?k8q9 ?k9q9 ?kBq9 ?kRq9 ?_ ?c2q9 ?c3q9 ?c4q9 ?c5q9; (case kAq9 => exact rfl); (case kFq9 => exact rfl); (case kKq9 => assumption); (case k1q9 => k_asm); (case k2q9 => k_asm); (case k3q9 => k_asm); (case k4q9 => k_asm); (case k5q9 => k_asm); (case k6q9 => k_is); (case k7q9 => k_is); (case k8q9 => ktr_room); (case k9q9 => first | exact BindsTo.of_eq rfl | exact binds_K (by k_in) rfl (by k_is) rfl rfl rfl); (case c5q9 => decide); (case kBq9 => exact locs rfl); (case c2q9 => exact rfl); (case c3q9 => exact rfl); (case c4q9 => exact rfl); (case kRq9 => walk_at "c.ret"); k_whole; intro _ _ _ _ _ _ _ _ _ l1q9; (try k_lt l1q9); (try (revert l1q9; intro _)); (try dsimp only); (try k_fold)))
  k_with "getMethod ref" => ((k_here; (with_reducible show wpAny _ _ (getMethod (Value.ref _) _ _) _ _ _); k_dflt (refine' acc_method ?Fq9 ?Xq9 ?Nq9 ?mq9 ?dq9 ?gaq9 ?cq9 ?gtq9 ?fq9 ?tfq9 ?lq9 ?_; (case Fq9 => k_asm); (case Xq9 => assumption); (case Nq9 => k_asm); (case mq9 => k_mem); (case dq9 => k_mem); (case gaq9 => k_is); (case cq9 => decide +kernel); (case gtq9 => k_is); (case fq9 => k_is); (case tfq9 => first | exact .inl (by k_is) | exact .inr (by k_is)); (case lq9 => rfl)); k_whole))
  k_with "getMethod ref" => ((k_here; (with_reducible show wpAny _ _ (getMethod (Value.ref _) _ _) _ _ _); k_dflt (refine' acc_super ?idq9 ?Fq9 ?Xq9 ?Nq9 ?sq9 ?mq9 ?oq9 ?fq9 ?lq9 ?nq9 ?_; (case Fq9 => k_asm); (case Xq9 => assumption); (case Nq9 => k_asm); (case sq9 => k_mem); (case mq9 => k_mem); (case oq9 => k_is); (case fq9 => ks_is); (case lq9 => k_is); (case nq9 => decide); (case idq9 => first | exact .inl rfl | exact .inr rfl)); k_whole; intro _ _ _ _ l1q9; (try k_lt l1q9); (try (revert l1q9; intro _))))
  k_with "callWith ref" => ((k_here; (with_reducible show wpAny _ _ (callWith _ (Value.ref _) [] _ []) _ _ _); k_dflt (refine' acc_mwWith ?Nq9 ?mq9 ?_; (case Nq9 => k_asm); (case mq9 => k_mem)); k_whole))
  k_with "call ref" => ((k_here; (with_reducible show wpAny _ _ (call (Value.ref _) []) _ _ _); k_dflt (refine' acc_mwLen ?Fq9 ?Xq9 ?Nq9 ?uq9 ?mq9 ?_; (case Fq9 => k_asm); (case Xq9 => assumption); (case Nq9 => k_asm); (case uq9 => k_mem); (case mq9 => k_mem)); k_whole; intro _ _))
  k_with "call ref" => ((k_here; (with_reducible show wpAny _ _ (call (Value.ref _) []) _ _ _); k_dflt (refine' acc_mwInit ?Fq9 ?Xq9 ?Nq9 ?uq9 ?mq9 ?_; (case Fq9 => k_asm); (case Xq9 => assumption); (case Nq9 => k_asm); (case uq9 => k_mem); (case mq9 => k_updF)); k_whole; intro _ _ _ _))
  k_with "call builtin:list.append" => ((k_here; k_dflt (refine' acc_append ?Fq9 ?Xq9 ?Nq9 ?Uq9 ?lq9 ?zq9 ?_; (case Fq9 => k_asm); (case Xq9 => assumption); (case Nq9 => k_asm); (case Uq9 => k_updF); (case lq9 => k_is); (case zq9 => omega)); k_whole; intro _ _ _ _))
  k_with "subscriptTail" => ((k_here; (with_reducible show wpAny _ _ (subscriptTail _ _ (Value.ref _) (Value.ref _)) _ _ _); k_dflt (refine' acc_slice ?Fq9 ?Xq9 ?Nq9 ?mq9 ?lq9 ?nq9 ?fq9 ?plq9 ?puq9 ?zq9 ?_ ?hsq9 ?htq9; (case Fq9 => k_asm); (case Xq9 => assumption); (case Nq9 => k_asm); (case mq9 => k_mem); (case lq9 => k_is); (case nq9 => k_is); (case fq9 => k_is); (case plq9 => first | exact .none | exact .int _ _); (case puq9 => first | exact .none | exact .int _ _); (case zq9 => omega); (case hsq9 => with_unfolding_all rfl); (case htq9 => (intro _; with_unfolding_all rfl))); k_whole; intro _ _ _ _ l1q9; (try k_lt l1q9); (try (revert l1q9; intro _))))
  k_with "setItem ref ref" => ((k_here; (with_reducible show wpAny _ _ (setItem (Value.ref _) (Value.ref _) (Value.ref _)) _ _ _); k_dflt (refine' acc_store ?Fq9 ?Xq9 ?Nq9 ?Uq9 ?lq9 ?nq9 ?fq9 ?yq9 ?xyq9 ?plq9 ?puq9 ?zq9 ?_; (case Fq9 => k_asm); (case Xq9 => assumption); (case Nq9 => k_asm); (case Uq9 => k_updF); (case lq9 => k_is); (case nq9 => k_is); (case fq9 => k_is); (case yq9 => k_mem); (case xyq9 => k_ne); (case plq9 => first | exact .none | exact .int _ _); (case puq9 => first | exact .none | exact .int _ _); (case zq9 => ((try simp); omega))); k_whole; intro _ _ _ _))
  k_with "setAttr ref" => ((k_here; (with_reducible show wpAny _ _ (setAttr (Value.ref _) _ _) _ _ _); k_dflt (refine' acc_setAttr ?Fq9 ?Xq9 ?Nq9 ?mq9 ?Uq9 ?cq9 ?mrq9 ?hdq9 ?sq9 ?tq9 ?lq9 ?eq9 ?zq9 ?_; (case Fq9 => k_asm); (case Xq9 => assumption); (case Nq9 => k_asm); (case mq9 => k_mem); (case Uq9 => k_updF); (case cq9 => k_is); (case mrq9 => exact rfl); (case hdq9 => exact rfl); (case sq9 => k_is); (case tq9 => k_is); (case lq9 => k_get); (case eq9 => k_put); (case zq9 => exact Nat.le_of_ble_eq_true rfl)); k_whole; intro _ _ _; (try k_sweep)))
  k_with "getAttr ref" => ((k_here; (with_reducible show wpAny _ _ (getAttr (Value.ref _) _ _) _ _ _); k_dflt (refine' acc_getAttr ?Fq9 ?Xq9 ?Nq9 ?mq9 ?dq9 ?gaq9 ?gtq9 ?lq9 ?hhq9 ?haq9 ?hnq9 ?hgq9 ?hvq9 ?_; (case Fq9 => k_asm); (case Xq9 => assumption); (case Nq9 => k_asm); (case mq9 => k_mem); (case dq9 => k_mem); (case gaq9 => k_is); (case gtq9 => k_is); (case lq9 => k_is); (case hhq9 => k_is); (case haq9 => k_is); (case hnq9 => k_is); (case hgq9 => k_get); (case hvq9 => k_handed)); k_whole))
  k_with "wpAt" => ((dsimp only; ks_step "execs cons"; refine ks_wpAt_execs_cons ?_))
  k_with "wpAt" => (((try dsimp only); ks_step "exec Expr"; k_dflt (refine ks_wpAt_Expr_any ?_ (by rfl) (by rfl))))
  k_with "wpAt" => (((try dsimp only); ks_step "eval Call"; k_dflt (refine ks_wpAt_MethodCall ?_)))
  trivial
/-- no def of the top keeps its codes in the table P -/
def tabFree (K : Frag) (P : Nat) (n : Str) : Bool := match nsIn K mainGlobals n with
  | some (some (.ref a)) => (match K.lookup a with
    | some ⟨_, _, .func fd, _⟩ => (match fd.code with
      | .ref c => (match K.lookup c with
        | some ⟨_, _, .fields vs, _⟩ => (match vs.getD 11 .none with
          | .ref q => !(Nat.beq q P)
          | _ => true)
        | _ => false)
      | _ => false)
    | _ => false)
  | _ => false
theorem tabFree_ne {K : Frag} {P : Nat} {n : Str} {h : Heap} {mg : Str → Option Value} (X : K.In h) (G : h.Ns mainGlobals mg) (ht : tabFree K P n = true) {a : Addr} {o : Obj} {fd : FuncData} {c Q : Addr} {ps : Array Value}
    (h1 : mg n = some (.ref a)) (h2 : h.get? a = some o) (h3 : o.data = .func fd) (h4 : fd.code = .ref c) (h5 : h.IsCode c Q ps) : @Ne Nat Q P := by
  unfold tabFree at ht
  split at ht
  · rename_i a' e
    have e1 := mg_of X G e
    rw [h1] at e1
    cases e1
    split at ht
    · rename_i oc od fd' osl e2
      have e3 := X _ _ e2
      rw [h2] at e3
      cases e3
      cases h3
      rw [h4] at ht
      dsimp only at ht
      split at ht
      · rename_i oc2 od2 vs osl2 e4
        have e5 := X _ _ e4
        obtain ⟨o', vs', file, tf, flags, tg, inF, text, tt, op, ho', hd', h11, _⟩ := h5
        rw [e5] at ho'
        cases ho'
        cases hd'
        rw [h11] at ht
        dsimp only at ht
        intro e
        rw [show Q = P from e] at ht
        simp at ht
      · cases ht
    · cases ht
  · cases ht
theorem hide129 {h : Heap} {b : Addr} {o : Obj} (h9 : h.get? 129 = some (tabObj #[])) (e : h.get? b = some o) (hne : o ≠ tabObj #[]) : (hideAll h [129]).get? b = some o := hideAll_get _ e fun hm => by
  have : b = 129 := List.mem_singleton.mp hm
  subst this
  rw [h9] at e
  exact hne (Option.some.inj e).symm
theorem hide_ns {h : Heap} {b : Addr} {m : Str → Option Value} (hb : @Ne Nat b 129) (x : h.Ns b m) : (hideAll h [129]).Ns b m := x.at' fun o e => hideAll_get _ e fun hm => hb (List.mem_singleton.mp hm)
theorem hide_codeRec {h : Heap} {cd : Value} {q : Str} (h9 : h.get? 129 = some (tabObj #[])) (x : h.CodeRec cd q) : (hideAll h [129]).CodeRec cd q := by
  obtain ⟨c, o, vs, t, e, g, d, r⟩ := x
  refine ⟨c, o, vs, t, e, hide129 h9 g fun q => ?_, d, r⟩
  subst q
  cases d
  simp at r
theorem top_hide {p : Program} {loose : List Str} {mean : ExcName → Option Value} {mg mb : Str → Option Value} {h : Heap} {K : Frag} (T : Top p loose mean mg mb h) (X : K.In h) (h9 : h.get? 129 = some (tabObj #[])) (hown : ownsOf p = [])
    (htab : (recsOf p).all (fun d => tabFree K 129 d.name) = true) : Top p loose mean mg mb (hideAll h [129]) where
  g := hide_ns (by decide) T.g
  b := hide_ns (by decide) T.b
  nolimit := let ⟨mc, hns, hn⟩ := T.nolimit; ⟨mc, hide_ns (by decide) hns, hn⟩
  nodigits := let ⟨mc, hns, hn⟩ := T.nodigits; ⟨mc, hide_ns (by decide) hns, hn⟩
  fn := fun d hd => by
    obtain ⟨a, o, pm, code, doc, h1, h2, h3, h4⟩ := T.fn d hd
    exact ⟨a, o, pm, code, doc, h1, hide129 h9 h2 (fun q => by subst q; cases h3), h3, hide_codeRec h9 h4⟩
  own := fun o ho => by rw [hown] at ho; cases ho
  const := T.const
  free := T.free
  builtins := T.builtins
  tab := fun d hd => by
    obtain ⟨a, o, fd, c, P, h1, h2, h3, h4, h5, h6⟩ := T.tab d hd
    have hP := tabFree_ne X T.g (List.all_eq_true.mp htab d hd) h1 h2 h3 h4 h5
    have hPg : ∀ o, h.get? P = some o → (hideAll h [129]).get? P = some o := fun o e => hideAll_get _ e fun hm => hP (List.mem_singleton.mp hm)
    refine ⟨a, o, fd, c, P, h1, hide129 h9 h2 (fun q => by subst q; cases h3), h3, h4, ?_, ?_⟩
    · obtain ⟨o', vs, file, tf, flags, tg, inF, text, tt, op, e1, r1, r2, r3, r4, r5, r6, e2, r⟩ := h5
      exact ⟨o', vs, file, tf, flags, tg, inF, text, tt, op, hide129 h9 e1 (fun q => by subst q; cases r1; simp at r2), r1, r2, r3, r4, r5, r6, hPg _ e2, r⟩
    · obtain ⟨⟨o', vs, e1, r1, r⟩, t⟩ := h6
      exact ⟨⟨o', vs, hide129 h9 e1 (fun q => by subst q; cases r1), r1, r⟩, hPg _ t⟩
  bmain := by
    obtain ⟨bm, ob, h1, h2, h3, h4, r⟩ := T.bmain
    exact ⟨bm, ob, h1, h2, hide129 h9 h3 (fun q => by subst q; cases h4), h4, r⟩
  seer := fun hi => by
    have S := T.seer hi
    exact ⟨let ⟨mc, a, b⟩ := S.statics; ⟨mc, hide_ns (by decide) a, b⟩, let ⟨mc, a, b⟩ := S.mods; ⟨mc, hide_ns (by decide) a, b⟩, let ⟨mc, a, b⟩ := S.imp; ⟨mc, hide_ns (by decide) a, b⟩,
      let ⟨mg, bm, ob, a, b, c, d, e⟩ := S.main; ⟨mg, bm, ob, hide_ns (by decide) a, b, hide129 h9 c (fun q => by subst q; cases d), d, e⟩⟩
theorem tabFree_all (P : Params) : (recsOf Mine.viewX).all (fun d => tabFree (Mine.hd.heap_1 P) 129 d.name) = true := by kernel_rfl
theorem owns_none : ownsOf Mine.viewX = [] := by kernel_rfl
section
variable {prog : Program} {w : World} {s : Shared} {need : List (Addr × Obj)} {K : Frag} {p : Program} {loose : List Str} {mean : ExcName → Option Value} {mg mb : Str → Option Value}
  {R : Result → Shared → Prop} {Post : List (Addr × Obj) → Value → Prop}
  {name qual : Str} {params : Arguments} {body : List Stmt} {scope : Scope} {dV kV doc pm cdv ct oc : Value} {an od : Option Addr} {osl : Array (Option Value)} {f : Addr} {args : Args} {binds : List (Str × Value)}
/-- the call of a def by the claim's own caller -/
theorem con_top (hneed : ∀ p ∈ need, s.heap.get? p.1 = some p.2) (X : K.In (hideAll s.heap (need.map (·.1)))) (T : Top p loose mean mg mb (hideAll s.heap (need.map (·.1))))
    (ho : K.lookup f = some ⟨oc, od, .func (fnOf name qual params body scope dV kV doc pm an cdv ct), osl⟩) (hcd : codeIn K cdv qual = true) (hroom : callerA.depth < recursionLimit)
    (hbind : BindsTo s (fnOf name qual params body scope dV kV doc pm an cdv ct) args binds) (hkind : (binds.all fun y => scope.names.lookup y.1 == some .local || scope.names.lookup y.1 == some .cell) = true)
    (hnd : ((cellsFrom 0 scope.names []).map (·.1)).Nodup)
    (hret : ∀ v s', LeaveG (hideAll s.heap (need.map (·.1))) s Post v s' → R (.ok (.ret v)) s')
    (h : ∀ L' h₁ tk cells, Fr (hideAll s.heap (need.map (·.1))) L' h₁ (bindL (envOfC qual scope L' f cdv).kindOf binds fun _ => none) → News (hideAll s.heap (need.map (·.1))) L' h₁ (cells ++ need) →
      CellsAre (bindC (envOfC qual scope L' f cdv).kindOf binds fun _ => none) (cellsFrom (L' + 1) scope.names []) cells → Below callerA (hideAll s.heap (need.map (·.1))) [] (hideAll s.heap (need.map (·.1))) → (∀ p ∈ need, p.1 < L') →
      wpAny (model prog w) (callerA.deeper (envOfC qual scope L' f cdv)) (execs body (envOfC qual scope L' f cdv))
        (fun fl s' => LeaveG (hideAll s.heap (need.map (·.1))) s Post (match fl with | .ret v => v | _ => .none) s')
        (fun _ _ => False)
        { s with heap := h₁, toks := tk })
    (hco : scope.isCoroutine = false) (hgen : scope.isGenerator = false) (hk : scope.kind = .function) :
    codeAny (model prog w) callerA (.call (.ref f) args) R s := by
  have up : ∀ b o, (hideAll s.heap (need.map (·.1))).get? b = some o → s.heap.get? b = some o := fun b o e => of_hideAll _ e
  refine codeAny_call_function hroom ((X.keeps up) _ _ ho) rfl hco hgen rfl (codeRec_of (X.keeps up) hcd) (hbind _ _ _ _ ?_)
  refine wpAny_newFunctionEnv_cells hk (kindsX hkind _) fun env' he s' x => ?_
  subst he
  refine ⟨(T.nolimit.keeps up).keeps x.toInCall.keep, codeAny_func ?_⟩
  obtain ⟨h₁, tk, rfl, _⟩ := x.done
  have hk₁ := x.toInCall.keep
  obtain ⟨cells, NC, Y⟩ := Cl.news (h₀ := s.heap) (Nat.le_refl _) fun n c hm => ⟨x.cell n c (lookup_of_mem_nodup (cellsFrom_names scope.names 0 (s.heap.objs.size + 1) [] [] rfl ▸ hnd) hm), x.above n c hm⟩
  refine wpAny_mono (h s.heap.objs.size h₁ tk cells ⟨x.toInCall.ns, fun b o e => hk₁ b o (up _ _ e), Nat.le_of_eq (hideAll_size _ _)⟩ (fun p hp => ?_) Y (below_caller _) (fun p hp => Heap.lt_size (hneed p hp))) (fun fl s' hl => hret _ _ hl) fun _ _ y => y.elim
  rcases List.mem_append.mp hp with hp | hp
  · refine ⟨(NC p hp).1, (NC p hp).2.1, ?_⟩
    cases q : (hideAll s.heap (need.map (·.1))).get? p.1 with
    | none => rfl
    | some o => have := of_hideAll _ q; rw [(NC p hp).2.2] at this; cases this
  · exact ⟨hk₁ _ _ (hneed p hp), Nat.ne_of_lt (Heap.lt_size (hneed p hp)), hideAll_none _ (List.mem_map_of_mem hp)⟩
end
end
section
local macro_rules | `(tactic| k_room) => `(tactic| ktr_room)
theorem rowsA36_0 : True := by
  w_top off
  k_with_none
  k_with "c.enter" => ((first
      | (refine' con_def ?k1q9 ?k2q9 ?k3q9 ?k4q9 ?k5q9 ?kAq9 ?kFq9 ?kKq9 ?k6q9 ?k7q9 ?k8q9 ?k9q9 ?kBq9 ?kRq9 ?_ ?c2q9 ?c3q9 ?c4q9 ?c5q9; (case kAq9 => exact rfl); (case kFq9 => exact rfl); (case kKq9 => assumption); (case k1q9 => k_asm); (case k2q9 => k_asm); (case k3q9 => k_asm); (case k4q9 => k_asm); (case k5q9 => k_asm); (case k6q9 => k_is); (case k7q9 => k_is); (case k8q9 => ktr_room); (case k9q9 => first | exact BindsTo.of_eq rfl | exact binds_K (by k_in) rfl (by k_is) rfl rfl rfl); (case c5q9 => decide); (case kBq9 => exact locs rfl); (case c2q9 => exact rfl); (case c3q9 => exact rfl); (case c4q9 => exact rfl); (case kRq9 => walk_at "c.ret"); k_whole; intro _ _ _ _ _ N'q9 _ _ _ l1q9; (try k_lt l1q9); (try (revert l1q9; intro _)); (try dsimp only); (try k_fold))
      | (refine' con_defC ?k1q9 ?k2q9 ?k3q9 ?k4q9 ?k5q9 ?kAq9 ?kFq9 ?kKq9 ?k6q9 ?k7q9 ?k8q9 ?k9q9 ?kBq9 ?kDq9 ?kRq9 ?_ ?c2q9 ?c3q9 ?c4q9; (case kAq9 => exact rfl); (case kFq9 => exact rfl); (case kKq9 => assumption); (case k1q9 => k_asm); (case k2q9 => k_asm); (case k3q9 => k_asm); (case k4q9 => k_asm); (case k5q9 => k_asm); (case k6q9 => k_is); (case k7q9 => k_is); (case k8q9 => ktr_room); (case k9q9 => first | exact BindsTo.of_eq rfl | exact binds_K (by k_in) rfl (by k_is) rfl rfl rfl); (case kBq9 => exact rfl); (case kDq9 => decide +kernel); (case c2q9 => exact rfl); (case c3q9 => exact rfl); (case c4q9 => exact rfl); (case kRq9 => walk_at "c.ret"); k_whole; intro _ _ _ _ _ _ _ N'q9 Y'q9 _ _ _ l1q9; (try k_lt l1q9); (try (revert l1q9; intro _)); k_cells Y'q9; (try simp only [List.cons_append, List.nil_append] at N'q9); (try dsimp only); (try k_fold))))
  k_with "c.ret" => ((intro _ _ hl9q9; exact con_back (by assumption) (by assumption) (by assumption) (by assumption) hl9q9))
  k_with "c.start" => ((unfold Con; k_fill; intro _ _ _ _ _ _ _ _ _ _ _ _ _ _ _ _ _ Bq9 Fq9 Xq9 Nq9 Tq9 _ _ _ hretq9; refine wpAny_call ?_; k_dflt walk_at "c.enter"; clear hretq9 Nq9 Fq9 Bq9 Xq9 Tq9))
  k_with "c.startCls" => ((unfold Con; k_fill; intro _ _ _ _ _ _ _ _ _ _ _ _ _ _ _ _ _ Bq9 Fq9 Xq9 Nq9 Tq9 _ _ _ hretq9; refine wpAny_call ?_; k_dflt walk_at "c.enterCls"; clear hretq9 Nq9 Fq9 Bq9 Xq9 Tq9))
  k_with "c.enterCls" => ((refine' con_cls ?k1q9 ?k2q9 ?k3q9 ?k5q9 ?kAq9 ?kFq9 ?kKq9 ?m1q9 ?m2q9 ?m3q9 ?k6q9 ?k7q9 ?k8q9 ?k9q9 ?kBq9 ?kRq9 ?_ ?c2q9 ?c3q9 ?c4q9 ?c5q9; (case kAq9 => exact rfl); (case kFq9 => exact rfl); (case kKq9 => assumption); (case k1q9 => k_asm); (case k2q9 => k_asm); (case k3q9 => k_asm); (case k5q9 => k_asm); (case m1q9 => k_is); (case m2q9 => k_is); (case m3q9 => k_is); (case k6q9 => k_is); (case k7q9 => k_is); (case k8q9 => ktr_room); (case k9q9 => intro _ _; exact BindsTo.of_eq rfl); (case c5q9 => decide); (case kBq9 => intro _; exact locs rfl); (case c2q9 => exact rfl); (case c3q9 => exact rfl); (case c4q9 => exact rfl); (case kRq9 => exact con_nil (by assumption)); k_whole; intro _ _ _ _ _ _ l0'q9 _ _ _ _ _ l1q9; (try k_lt2 l0'q9); (try (revert l0'q9; intro _)); (try k_lt2 l1q9); (try (revert l1q9; intro _)); (try dsimp only); (try k_fold)))
  k_with "CompSrc" => ((k_here; k_dflt (refine LCg.CompSrc.range (by rfl) (by k_asm) (by k_asm) (by assumption) (by first | decide | rfl) (by first | rfl | decide) (by first | size_fits | exact Nat.le_of_ble_eq_true rfl) ?_; intro _; lcg_lit)))
  k_with "binaryOp Mult str int" => ((k_here; (refine' r_mul ?haq9 ?hbq9 ?_); (case haq9 => ((try simp only [fmod_lit]); omega)); (case hbq9 => ((try simp only [fmod_lit]); omega)); intro _ _))
  k_with "binaryOp Add str str" => ((k_here; (refine' r_add ?haq9 ?hbq9 ?hcq9 ?_); (case haq9 => first | with_reducible exact S_tab | with_reducible exact S_blank | with_reducible rfl); (case hbq9 => first | with_reducible exact S_tab | with_reducible exact S_blank | with_reducible rfl); (case hcq9 => (simp [sp]; omega)); intro _ _))
  k_with "call builtin:str.join" => ((k_here; (first
      | refine' r_join (ls := [(_, _)]) ?hlq9 ?hiq9 ?hwq9 ?_; (case hlq9 => exact News.isList (by k_asm) (by k_mem)); (case hiq9 => exact rfl)
      | refine' r_join (ls := [(_, _), (_, _)]) ?hlq9 ?hiq9 ?hwq9 ?_; (case hlq9 => exact News.isList (by k_asm) (by k_mem)); (case hiq9 => exact rfl)
      | refine' r_join (ls := [(_, _), (_, _), (_, _)]) ?hlq9 ?hiq9 ?hwq9 ?_; (case hlq9 => exact News.isList (by k_asm) (by k_mem)); (case hiq9 => exact rfl)); (case hwq9 => (simp [sp, fmod_lit]; omega)); intro _ _; (try dsimp only)))
  k_with "call type:tuple" => ((k_here; k_dflt (refine' r_tuple ?Fq9 ?Nq9 ?mq9 ?_ ?zq9; (case Fq9 => k_asm); (case Nq9 => k_asm); (case mq9 => k_mem); (case zq9 => (have hc9 := sizeLine_eq; (have hI9 := IntsAre.length (by assumption)); omega)); k_whole); intro _ _ _ _ l1q9; (try k_lt l1q9); (try (revert l1q9; intro _))))
  k_with "call builtin:len" => ((k_here; (with_reducible show wpAny _ _ (call (Value.builtin "len") [Value.ref _]) _ _ _); k_dflt (refine' r_len_tupI ?Nq9 ?mq9 ?iq9 ?fq9 ?_; (case Nq9 => k_asm); (case mq9 => k_mem); (case iq9 => with_reducible assumption); (case fq9 => omega); k_whole); intro _ _))
  k_with "subscriptTail" => ((k_here; (with_reducible show wpAny _ _ (subscriptTail _ _ (Value.ref _) (Value.int _ _)) _ _ _); k_dflt (refine' r_item_tupI ?Nq9 ?mq9 ?iq9 ?aq9 ?bq9 ?cq9 ?_ ?eq9; (case Nq9 => k_asm); (case mq9 => k_mem); (case iq9 => with_reducible assumption); (case aq9 => omega); (case bq9 => omega); (case cq9 => omega); (case eq9 => with_unfolding_all rfl); k_whole); intro _))
  k_with "pyIter ref" => ((k_here; (with_reducible show wpAny _ _ (pyIter (Value.ref _)) (fun it s₂ => LoopAtV _ _ _ _ _ _ _ _ _ it s₂) _ _); refine Hold.of ?_))
  trivial
local macro_rules | `(tactic| k_inst) => `(tactic| (refine' accInst ?N ?h1 ?h2; (case N => k_asm); (case h1 => k_mem); (case h2 => k_mem)))
theorem rowsA36_1 : True := by
  k_with "c.startS" => ((unfold Con; k_fill; intro _ _ _ _ _ _ _ _ _ _ _ _ _ _ _ _ _ Bq9 Fq9 Xq9 Nq9 Tq9 _ _ _ hretq9; refine wpAny_call ?_; k_dflt walk_at "c.enterS"; clear hretq9 Nq9 Fq9 Bq9 Xq9 Tq9))
  k_with "c.enterS" => ((refine' con_defS ?k1q9 ?k2q9 ?k3q9 ?k4q9 ?k5q9 ?kAq9 ?kFq9 ?kKq9 ?k6q9 ?k7q9 ?k8q9 ?k9q9 ?kBq9 ?kRq9 ?_ ?c2q9 ?c3q9 ?c4q9 ?c5q9; (case kAq9 => exact rfl); (case kFq9 => exact rfl); (case kKq9 => assumption); (case k1q9 => k_asm); (case k2q9 => k_asm); (case k3q9 => k_asm); (case k4q9 => k_asm); (case k5q9 => k_asm); (case k6q9 => k_is); (case k7q9 => k_is); (case k8q9 => ktr_room); (case k9q9 => first | exact BindsTo.of_eq rfl | exact binds_K (by k_in) rfl (by k_is) rfl rfl rfl); (case c5q9 => decide); (case kBq9 => exact locs rfl); (case c2q9 => exact rfl); (case c3q9 => exact rfl); (case c4q9 => exact rfl); (case kRq9 => walk_at "c.ret"); k_whole; intro _ _ _ _ _ _ _ _ _ l1q9; (try k_lt l1q9); (try (revert l1q9; intro _)); (try dsimp only); (try k_fold)))
  k_with "getMethod ref" => ((k_here; (with_reducible show wpAny _ _ (getMethod (Value.ref _) _ _) _ _ _); k_dflt (refine' acc_method ?Fq9 ?Xq9 ?Nq9 ?mq9 ?dq9 ?gaq9 ?cq9 ?gtq9 ?fq9 ?tfq9 ?lq9 ?_; (case Fq9 => k_asm); (case Xq9 => assumption); (case Nq9 => k_asm); (case mq9 => k_mem); (case dq9 => k_mem); (case gaq9 => k_is); (case cq9 => decide +kernel); (case gtq9 => k_is); (case fq9 => k_is); (case tfq9 => first | exact .inl (by k_is) | exact .inr (by k_is)); (case lq9 => rfl)); k_whole))
  k_with "getMethod ref" => ((k_here; (with_reducible show wpAny _ _ (getMethod (Value.ref _) _ _) _ _ _); k_dflt (refine' acc_super ?idq9 ?Fq9 ?Xq9 ?Nq9 ?sq9 ?mq9 ?oq9 ?fq9 ?lq9 ?nq9 ?_; (case Fq9 => k_asm); (case Xq9 => assumption); (case Nq9 => k_asm); (case sq9 => k_mem); (case mq9 => k_mem); (case oq9 => k_is); (case fq9 => ks_is); (case lq9 => k_is); (case nq9 => decide); (case idq9 => first | exact .inl rfl | exact .inr rfl)); k_whole; intro _ _ _ _ l1q9; (try k_lt l1q9); (try (revert l1q9; intro _))))
  k_with "callWith ref" => ((k_here; (with_reducible show wpAny _ _ (callWith _ (Value.ref _) [] _ []) _ _ _); k_dflt (refine' acc_mwWith ?Nq9 ?mq9 ?_; (case Nq9 => k_asm); (case mq9 => k_mem)); k_whole))
  k_with "call ref" => ((k_here; (with_reducible show wpAny _ _ (call (Value.ref _) []) _ _ _); k_dflt (refine' acc_mwLen ?Fq9 ?Xq9 ?Nq9 ?uq9 ?mq9 ?_; (case Fq9 => k_asm); (case Xq9 => assumption); (case Nq9 => k_asm); (case uq9 => k_mem); (case mq9 => k_mem)); k_whole; intro _ _))
  k_with "call ref" => ((k_here; (with_reducible show wpAny _ _ (call (Value.ref _) []) _ _ _); k_dflt (refine' acc_mwInit ?Fq9 ?Xq9 ?Nq9 ?uq9 ?mq9 ?_; (case Fq9 => k_asm); (case Xq9 => assumption); (case Nq9 => k_asm); (case uq9 => k_mem); (case mq9 => k_updF)); k_whole; intro _ _ _ _))
  k_with "call builtin:list.append" => ((k_here; k_dflt (refine' acc_append ?Fq9 ?Xq9 ?Nq9 ?Uq9 ?lq9 ?zq9 ?_; (case Fq9 => k_asm); (case Xq9 => assumption); (case Nq9 => k_asm); (case Uq9 => k_updF); (case lq9 => k_is); (case zq9 => omega)); k_whole; intro _ _ _ _))
  k_with "subscriptTail" => ((k_here; (with_reducible show wpAny _ _ (subscriptTail _ _ (Value.ref _) (Value.ref _)) _ _ _); k_dflt (refine' acc_slice ?Fq9 ?Xq9 ?Nq9 ?mq9 ?lq9 ?nq9 ?fq9 ?plq9 ?puq9 ?zq9 ?_ ?hsq9 ?htq9; (case Fq9 => k_asm); (case Xq9 => assumption); (case Nq9 => k_asm); (case mq9 => k_mem); (case lq9 => k_is); (case nq9 => k_is); (case fq9 => k_is); (case plq9 => first | exact .none | exact .int _ _); (case puq9 => first | exact .none | exact .int _ _); (case zq9 => omega); (case hsq9 => with_unfolding_all rfl); (case htq9 => (intro _; with_unfolding_all rfl))); k_whole; intro _ _ _ _ l1q9; (try k_lt l1q9); (try (revert l1q9; intro _))))
  k_with "setItem ref ref" => ((k_here; (with_reducible show wpAny _ _ (setItem (Value.ref _) (Value.ref _) (Value.ref _)) _ _ _); k_dflt (refine' acc_store ?Fq9 ?Xq9 ?Nq9 ?Uq9 ?lq9 ?nq9 ?fq9 ?yq9 ?xyq9 ?plq9 ?puq9 ?zq9 ?_; (case Fq9 => k_asm); (case Xq9 => assumption); (case Nq9 => k_asm); (case Uq9 => k_updF); (case lq9 => k_is); (case nq9 => k_is); (case fq9 => k_is); (case yq9 => k_mem); (case xyq9 => k_ne); (case plq9 => first | exact .none | exact .int _ _); (case puq9 => first | exact .none | exact .int _ _); (case zq9 => ((try simp); omega))); k_whole; intro _ _ _ _))
  k_with "setAttr ref" => ((k_here; (with_reducible show wpAny _ _ (setAttr (Value.ref _) _ _) _ _ _); k_dflt (refine' acc_setAttr ?Fq9 ?Xq9 ?Nq9 ?mq9 ?Uq9 ?cq9 ?mrq9 ?hdq9 ?sq9 ?tq9 ?lq9 ?eq9 ?zq9 ?_; (case Fq9 => k_asm); (case Xq9 => assumption); (case Nq9 => k_asm); (case mq9 => k_mem); (case Uq9 => k_updF); (case cq9 => k_is); (case mrq9 => exact rfl); (case hdq9 => exact rfl); (case sq9 => k_is); (case tq9 => k_is); (case lq9 => k_get); (case eq9 => k_put); (case zq9 => exact Nat.le_of_ble_eq_true rfl)); k_whole; intro _ _ _; (try k_sweep)))
  k_with "getAttr ref" => ((k_here; (with_reducible show wpAny _ _ (getAttr (Value.ref _) _ _) _ _ _); k_dflt (refine' acc_getAttr ?Fq9 ?Xq9 ?Nq9 ?mq9 ?dq9 ?gaq9 ?gtq9 ?lq9 ?hhq9 ?haq9 ?hnq9 ?hgq9 ?hvq9 ?_; (case Fq9 => k_asm); (case Xq9 => assumption); (case Nq9 => k_asm); (case mq9 => k_mem); (case dq9 => k_mem); (case gaq9 => k_is); (case gtq9 => k_is); (case lq9 => k_is); (case hhq9 => k_is); (case haq9 => k_is); (case hnq9 => k_is); (case hgq9 => k_get); (case hvq9 => k_handed)); k_whole))
  k_with "wpAt" => ((dsimp only; ks_step "execs cons"; refine ks_wpAt_execs_cons ?_))
  k_with "wpAt" => (((try dsimp only); ks_step "exec Expr"; k_dflt (refine ks_wpAt_Expr_any ?_ (by rfl) (by rfl))))
  k_with "wpAt" => (((try dsimp only); ks_step "eval Call"; k_dflt (refine ks_wpAt_MethodCall ?_)))
  trivial
section
variable {prog : Program} {w : World} {A : Around} {E : Value → Shared → Prop} {s : Shared} {env : Env} {h₀ : Heap} {body : List Stmt} {Q : Flow → Shared → Prop}
/-- the end of a turn of a loop over enumerate(list) -/
def PEnd {σ : Type} (h₀ : Heap) (L : Addr) (xi xc : Str) (mm : σ → Str → Option Value) (Led : σ → List (Addr × Obj)) (J : σ → Prop) (e it : Addr) (oe oi : Obj) (s : Shared) (Q : Flow → Shared → Prop) (f : Flow) (s₂ : Shared) : Prop :=
  match f with
  | .ret v => Q (.ret v) s₂
  | .brk => Q .next s₂
  | _ => ∃ c h' tk' m', s₂ = { s with heap := h', toks := tk' } ∧ Fr h₀ L h' m' ∧ (∀ z, z ≠ xi → z ≠ xc → m' z = mm c z) ∧ News h₀ L h' ((e, oe) :: (it, oi) :: Led c) ∧ (∀ p ∈ Led c, @Ne Nat p.1 e ∧ @Ne Nat p.1 it) ∧ J c
theorem PEnd.intro {σ : Type} {h₀ : Heap} {L : Addr} {xi xc : Str} {mm : σ → Str → Option Value} {Led : σ → List (Addr × Obj)} {J : σ → Prop} {e it : Addr} {oe oi : Obj} {s : Shared} {Q : Flow → Shared → Prop} {h' : Heap} {tk' : Nat} {m' : Str → Option Value} (c : σ)
    (F : Fr h₀ L h' m') (hm : ∀ z, z ≠ xi → z ≠ xc → m' z = mm c z) (N : News h₀ L h' ((e, oe) :: (it, oi) :: Led c)) (ho : ∀ p ∈ Led c, @Ne Nat p.1 e ∧ @Ne Nat p.1 it) (hJ : J c) : PEnd h₀ L xi xc mm Led J e it oe oi s Q .next { s with heap := h', toks := tk' } :=
  ⟨c, h', tk', m', rfl, F, hm, N, ho, hJ⟩
theorem map_pair {m' mz : Str → Option Value} {xi xc : Str} (h : ∀ z, z ≠ xi → z ≠ xc → m' z = mz z) : m' = fun y => if y = xc then m' xc else if y = xi then m' xi else mz y := by
  funext y
  by_cases h1 : y = xc
  · rw [if_pos h1, h1]
  by_cases h2 : y = xi
  · rw [if_neg h1, if_pos h2, h2]
  · rw [if_neg h1, if_neg h2, h y h2 h1]
theorem forP_enum {σ : Type} {xi xc : Str} {pk pv pt : Pos} {x1 : Nat} {l : Addr} {vs : Array Value} {m₀ : Str → Option Value} (mm : (Str → Option Value) → σ → Str → Option Value) (Led : σ → List (Addr × Obj)) (J : Nat → σ → Prop) (c₀ : σ)
    (hh : A.handled = none) (hxi : env.kindOf xi = some .local) (hxc : env.kindOf xc = some .local)
    (hp : (env.scope.kind == .class || (env.scope.kind == .module && env.locals != env.globals)) = false) (hl : h₀.IsList l vs)
    (F : Fr h₀ env.locals s.heap m₀) (N : News h₀ env.locals s.heap (Led c₀)) (hm : ∀ z, m₀ z = mm m₀ c₀ z) (hi : J 0 c₀)
    (turn : ∀ e it i c v t u0 u1 oe oi h tk, i < vs.size → vs[i]? = some v → J i c → (∀ p ∈ Led c, @Ne Nat p.1 e ∧ @Ne Nat p.1 it) → @Ne Nat e it → Fr h₀ env.locals h (fun y => if y = xc then some v else if y = xi then some (.int (i : Int) t) else if y = xc then u1 else if y = xi then u0 else mm m₀ c y) → News h₀ env.locals h ((e, oe) :: (it, oi) :: Led c) →
      wpAny (model prog w) A (execs body env) (PEnd h₀ env.locals xi xc (mm m₀) Led (J (i + 1)) e it oe oi s Q) E { s with heap := h, toks := tk })
    (done : ∀ c u0 u1 h tk, J vs.size c → Fr h₀ env.locals h (fun y => if y = xc then u1 else if y = xi then u0 else mm m₀ c y) → News h₀ env.locals h (Led c) → Q .next { s with heap := h, toks := tk })
    (hE : PassesOwn (model prog w) A env E := by passes_own) :
    wpAny (model prog w) A (call (.type "enumerate") [.ref l]) (fun xv s₁ => wpAny (model prog w) A (pyIter xv) (fun it s₂ => codeAny (model prog w) A (.forLoop (.Tuple [.Name xi pk, .Name xc pv] x1 pt) it body [] env) (fun r s' => match r with | .ok f => Q f s' | .error e => cameBackBy (model prog w) A env E e s') s₂) E s₁) E s := by
  have hls : s.heap.IsList l vs := hl.at fun o e => F.keep l o e
  have hlt : @LT.lt Nat _ l h₀.objs.size := by obtain ⟨ol, hol, _⟩ := id hl; exact Heap.lt_size hol
  have hLs : @LT.lt Nat _ env.locals s.heap.objs.size := F.ns.lt
  have hab : @LE.le Nat _ h₀.objs.size env.locals := F.above
  refine call_enumerate_list hls fun h' he hit hsz hk => ?_
  refine wpAny_pyIter_enum he ?_
  have hl2 : @LT.lt Nat _ l s.heap.objs.size := Nat.lt_trans (Nat.lt_of_lt_of_le hlt hab) hLs
  generalize hS : s.heap.objs.size = S at *
  have W := WalksT.enumerate (prog := prog) (w := w) (A := A) hh (S + 1) S l (Nat.succ_ne_self _) (Nat.ne_of_lt (Nat.lt_succ_of_lt hl2)) (Nat.ne_of_lt hl2) vs
  have eS : h₀.get? S = none := Heap.get?_none_of_le (Nat.le_trans hab (Nat.le_of_lt hLs))
  have eS1 : h₀.get? (S + 1) = none := Heap.get?_none_of_le (Nat.le_trans hab (Nat.le_of_lt (Nat.lt_succ_of_lt hLs)))
  have hLw : env.locals ∉ [S + 1, S] := fun q => by
    rcases List.mem_cons.mp q with q | q
    · exact Nat.ne_of_lt (Nat.lt_succ_of_lt hLs) q
    · exact Nat.ne_of_lt hLs (List.mem_singleton.mp q)
  have hLf : env.locals ∉ [S + 1, S, l] := fun q => by
    rcases List.mem_cons.mp q with q | q
    · exact Nat.ne_of_lt (Nat.lt_succ_of_lt hLs) q
    rcases List.mem_cons.mp q with q | q
    · exact Nat.ne_of_lt hLs q
    · exact Nat.ne_of_gt (Nat.lt_of_lt_of_le hlt hab) (List.mem_singleton.mp q)
  have old : ∀ b o, h₀.get? b = some o → b ∉ [S + 1, S] := fun b o e q => by
    rcases List.mem_cons.mp q with q | q
    · rw [q, eS1] at e; cases e
    · rw [List.mem_singleton.mp q, eS] at e; cases e
  have off₀ : ∀ p ∈ Led c₀, @Ne Nat p.1 (S + 1) ∧ @Ne Nat p.1 S := fun p hp => by
    have q : @LT.lt Nat _ p.1 S := hS ▸ Heap.lt_size (N p hp).1
    exact ⟨Nat.ne_of_lt (Nat.lt_succ_of_lt q), Nat.ne_of_lt q⟩
  refine codeAny_forLoop_any
    (fun k s' => ∃ (h' : Heap) (tk : Nat) (m' : Str → Option Value) (i : Nat) (c : σ), s' = { s with heap := h', toks := tk } ∧ ((∃ old, IsEnum h' (S + 1) S (i : Int) old) ∧ h'.IsListIter S l i ∧ h'.IsList l vs) ∧ Fr h₀ env.locals h' m' ∧ (∀ z, z ≠ xi → z ≠ xc → m' z = mm m₀ c z) ∧ News h₀ env.locals h' (Led c) ∧ (∀ p ∈ Led c, @Ne Nat p.1 (S + 1) ∧ @Ne Nat p.1 S) ∧ J i c ∧ i ≤ vs.size ∧ k = vs.size + 1 - i) ?_ (vs.size + 1)
    ⟨h', s.toks, m₀, 0, c₀, rfl, ⟨⟨_, he⟩, hit, hls.at fun o e => hk l o e⟩, F.keeps hk, fun z _ _ => hm z, N.grown hk, off₀, hi, Nat.zero_le _, rfl⟩
  rintro k s' ⟨H, tk, m', i, c, rfl, hst', F', hm', N', off', hJ, hin, rfl⟩
  have next : ∀ h₁ : Heap, (∀ b o, b ∉ [S + 1, S] → H.get? b = some o → h₁.get? b = some o) → Fr h₀ env.locals h₁ m' ∧ News h₀ env.locals h₁ (Led c) := fun h₁ hk₁ =>
    ⟨⟨F'.ns.at' fun o e => hk₁ _ o hLw e, fun b o e => hk₁ b o (old b o e) (F'.keep b o e), F'.above⟩, fun p hp => ⟨hk₁ _ _ (fun q => by
      rcases List.mem_cons.mp q with q | q
      · exact (off' p hp).1 q
      · exact (off' p hp).2 (List.mem_singleton.mp q)) (N' p hp).1, (N' p hp).2⟩⟩
  by_cases hlt' : i < vs.size
  · refine W.item i _ _ _ hlt' hst' fun T vals h₁ tk₁ hPt _ hT hMid hk₁ => ?_
    obtain ⟨t0, x0, hx0, rfl⟩ := hPt
    refine W.go _ x1 pt i T _ _ _ hMid fun h₂ hst₂ hk₂ => ?_
    have ht₂ : h₂.IsTuple T #[.int i t0, x0] := hT.at fun o e => hk₂ T o (W.apart i T h₁ hMid) e
    refine wpAny_assign_Tuple hh ht₂ rfl rfl fun h₃ hx₃ => ?_
    replace hx₃ : Heap.ExtBut h₂.objs.size h₂ h₃ := hx₃
    have up₃ : ∀ b o, h₂.get? b = some o → h₃.get? b = some o := fun b o x => hx₃ b o (Nat.ne_of_lt (Heap.lt_size x)) x
    obtain ⟨F₃, N₃⟩ := next h₃ fun b o hb x => up₃ b o (hk₂ b o hb (hk₁ b o hb x))
    show wpAny _ A (do holding [x0] (assign (.Name xi pk) env (.int i t0)); do holding [] (assign (.Name xc pv) env x0); pure ()) _ _ _
    refine wpAny_bind (wpAny_holding (wpAny_assign_Name (wpAny_storeName_local hxi F₃.ns (fun h₄ hn₄ hs₄ => ?_) hp)))
    replace hs₄ : Heap.SameBut env.locals h₃ h₄ := hs₄
    have F₄ := F₃.set hn₄ hs₄
    refine wpAny_bind (wpAny_holding (wpAny_assign_Name (wpAny_storeName_local hxc F₄.ns (fun h₅ hn₅ hs₅ => wpAny_pure ?_) hp)))
    replace hs₅ : Heap.SameBut env.locals h₄ h₅ := hs₅
    have F₅ := F₄.set hn₅ hs₅
    have N₅ : News h₀ env.locals h₅ (Led c) := (N₃.set hs₄).set hs₅
    have up₅ : ∀ b o, b ≠ env.locals → h₂.get? b = some o → h₅.get? b = some o := fun b o hb e => hs₅.extBut b o hb (hs₄.extBut b o hb (up₃ b o e))
    have hst₅ := W.frame _ _ h₅ hst₂ fun b hb o e => up₅ b o (fun q => hLf (q ▸ hb)) e
    obtain ⟨⟨olde, he₅⟩, hit₅, hl₅⟩ := hst₅
    obtain ⟨oi, hoi, r₅⟩ := id hit₅
    obtain ⟨oe, hoe, hoe'⟩ : ∃ oe, h₅.get? (S + 1) = some oe ∧ ∀ h : Heap, h.get? (S + 1) = some oe → IsEnum h (S + 1) S ((i + 1 : Nat) : Int) olde := ⟨_, he₅, fun _ e => e⟩
    have hLS1 : @Ne Nat (S + 1) env.locals := fun q => hLw (by rw [← q]; exact List.mem_cons_self)
    have hLS : @Ne Nat S env.locals := fun q => hLw (by rw [← q]; exact List.mem_cons_of_mem _ List.mem_cons_self)
    have N₆ : News h₀ env.locals h₅ ((S + 1, oe) :: (S, oi) :: Led c) := fun p hp => by
      rcases List.mem_cons.mp hp with rfl | hp
      · exact ⟨hoe, hLS1, eS1⟩
      rcases List.mem_cons.mp hp with rfl | hp
      · exact ⟨hoi, hLS, eS⟩
      · exact N₅ p hp
    have F₆ := F₅
    rw [map_pair hm'] at F₆
    have fin : ∀ s₃, (∃ c' h₃ tk₃ m₃, s₃ = { s with heap := h₃, toks := tk₃ } ∧ Fr h₀ env.locals h₃ m₃ ∧ (∀ z, z ≠ xi → z ≠ xc → m₃ z = mm m₀ c' z) ∧ News h₀ env.locals h₃ ((S + 1, oe) :: (S, oi) :: Led c') ∧ (∀ p ∈ Led c', @Ne Nat p.1 (S + 1) ∧ @Ne Nat p.1 S) ∧ J (i + 1) c') →
        ∃ m, m < vs.size + 1 - i ∧ ∃ (h' : Heap) (tk : Nat) (m' : Str → Option Value) (i : Nat) (c : σ), s₃ = { s with heap := h', toks := tk } ∧ ((∃ old, IsEnum h' (S + 1) S (i : Int) old) ∧ h'.IsListIter S l i ∧ h'.IsList l vs) ∧ Fr h₀ env.locals h' m' ∧ (∀ z, z ≠ xi → z ≠ xc → m' z = mm m₀ c z) ∧ News h₀ env.locals h' (Led c) ∧ (∀ p ∈ Led c, @Ne Nat p.1 (S + 1) ∧ @Ne Nat p.1 S) ∧ J i c ∧ i ≤ vs.size ∧ m = vs.size + 1 - i := by
      rintro s₃ ⟨c', h₃, tk₃, m₃, rfl, F₇, hm₇, N₇, off₇, hJ₇⟩
      refine ⟨vs.size + 1 - (i + 1), by omega, h₃, tk₃, m₃, i + 1, c', rfl, ⟨⟨olde, hoe' _ (N₇ _ List.mem_cons_self).1⟩, ⟨oi, (N₇ _ (List.mem_cons_of_mem _ List.mem_cons_self)).1, r₅⟩, hl.at fun o e => F₇.keep l o e⟩, F₇, hm₇, fun p hp => N₇ p (List.mem_cons_of_mem _ (List.mem_cons_of_mem _ hp)), off₇, hJ₇, hlt', rfl⟩
    refine wpAny_mono (wpAny_passesOwn hE (turn (S + 1) S i c x0 t0 _ _ oe oi h₅ _ hlt' hx0 hJ off' (Nat.succ_ne_self _) F₆ N₆)) (fun f s₃ h₆ => ?_) fun _ _ e => e
    cases f with
    | ret v => exact h₆
    | brk => exact h₆
    | cont => exact fin _ h₆
    | next => exact fin _ h₆
  · obtain rfl : i = vs.size := by omega
    refine W.done _ _ _ hst' fun h₁ tk₁ hk₁ => wpAny_execs_nil ?_
    obtain ⟨F₁, N₁⟩ := next h₁ hk₁
    rw [map_pair hm'] at F₁
    exact done c _ _ h₁ tk₁ hJ F₁ N₁
end
end
section
local macro_rules | `(tactic| k_room) => `(tactic| ktr_room)
theorem rowsA37_0 : True := by
  w_top off
  k_with_none
  k_with "c.enter" => ((first
      | (refine' con_def ?k1q9 ?k2q9 ?k3q9 ?k4q9 ?k5q9 ?kAq9 ?kFq9 ?kKq9 ?k6q9 ?k7q9 ?k8q9 ?k9q9 ?kBq9 ?kRq9 ?_ ?c2q9 ?c3q9 ?c4q9 ?c5q9; (case kAq9 => exact rfl); (case kFq9 => exact rfl); (case kKq9 => assumption); (case k1q9 => k_asm); (case k2q9 => k_asm); (case k3q9 => k_asm); (case k4q9 => k_asm); (case k5q9 => k_asm); (case k6q9 => k_is); (case k7q9 => k_is); (case k8q9 => ktr_room); (case k9q9 => first | exact BindsTo.of_eq rfl | exact binds_K (by k_in) rfl (by k_is) rfl rfl rfl); (case c5q9 => decide); (case kBq9 => exact locs rfl); (case c2q9 => exact rfl); (case c3q9 => exact rfl); (case c4q9 => exact rfl); (case kRq9 => walk_at "c.ret"); k_whole; intro _ _ _ _ _ N'q9 _ _ _ l1q9; (try k_lt l1q9); (try (revert l1q9; intro _)); (try dsimp only); (try k_fold))
      | (refine' con_defC ?k1q9 ?k2q9 ?k3q9 ?k4q9 ?k5q9 ?kAq9 ?kFq9 ?kKq9 ?k6q9 ?k7q9 ?k8q9 ?k9q9 ?kBq9 ?kDq9 ?kRq9 ?_ ?c2q9 ?c3q9 ?c4q9; (case kAq9 => exact rfl); (case kFq9 => exact rfl); (case kKq9 => assumption); (case k1q9 => k_asm); (case k2q9 => k_asm); (case k3q9 => k_asm); (case k4q9 => k_asm); (case k5q9 => k_asm); (case k6q9 => k_is); (case k7q9 => k_is); (case k8q9 => ktr_room); (case k9q9 => first | exact BindsTo.of_eq rfl | exact binds_K (by k_in) rfl (by k_is) rfl rfl rfl); (case kBq9 => exact rfl); (case kDq9 => decide +kernel); (case c2q9 => exact rfl); (case c3q9 => exact rfl); (case c4q9 => exact rfl); (case kRq9 => walk_at "c.ret"); k_whole; intro _ _ _ _ _ _ _ N'q9 Y'q9 _ _ _ l1q9; (try k_lt l1q9); (try (revert l1q9; intro _)); k_cells Y'q9; (try simp only [List.cons_append, List.nil_append] at N'q9); (try dsimp only); (try k_fold))))
  k_with "c.ret" => ((intro _ _ hl9q9; exact con_back (by assumption) (by assumption) (by assumption) (by assumption) hl9q9))
  k_with "c.start" => ((unfold Con; k_fill; intro _ _ _ _ _ _ _ _ _ _ _ _ _ _ _ _ _ Bq9 Fq9 Xq9 Nq9 Tq9 _ _ _ hretq9; refine wpAny_call ?_; k_dflt walk_at "c.enter"; clear hretq9 Nq9 Fq9 Bq9 Xq9 Tq9))
  k_with "c.startCls" => ((unfold Con; k_fill; intro _ _ _ _ _ _ _ _ _ _ _ _ _ _ _ _ _ Bq9 Fq9 Xq9 Nq9 Tq9 _ _ _ hretq9; refine wpAny_call ?_; k_dflt walk_at "c.enterCls"; clear hretq9 Nq9 Fq9 Bq9 Xq9 Tq9))
  k_with "c.enterCls" => ((refine' con_cls ?k1q9 ?k2q9 ?k3q9 ?k5q9 ?kAq9 ?kFq9 ?kKq9 ?m1q9 ?m2q9 ?m3q9 ?k6q9 ?k7q9 ?k8q9 ?k9q9 ?kBq9 ?kRq9 ?_ ?c2q9 ?c3q9 ?c4q9 ?c5q9; (case kAq9 => exact rfl); (case kFq9 => exact rfl); (case kKq9 => assumption); (case k1q9 => k_asm); (case k2q9 => k_asm); (case k3q9 => k_asm); (case k5q9 => k_asm); (case m1q9 => k_is); (case m2q9 => k_is); (case m3q9 => k_is); (case k6q9 => k_is); (case k7q9 => k_is); (case k8q9 => ktr_room); (case k9q9 => intro _ _; exact BindsTo.of_eq rfl); (case c5q9 => decide); (case kBq9 => intro _; exact locs rfl); (case c2q9 => exact rfl); (case c3q9 => exact rfl); (case c4q9 => exact rfl); (case kRq9 => exact con_nil (by assumption)); k_whole; intro _ _ _ _ _ _ l0'q9 _ _ _ _ _ l1q9; (try k_lt2 l0'q9); (try (revert l0'q9; intro _)); (try k_lt2 l1q9); (try (revert l1q9; intro _)); (try dsimp only); (try k_fold)))
  k_with "CompSrc" => ((k_here; k_dflt (refine LCg.CompSrc.range (by rfl) (by k_asm) (by k_asm) (by assumption) (by first | decide | rfl) (by first | rfl | decide) (by first | size_fits | exact Nat.le_of_ble_eq_true rfl) ?_; intro _; lcg_lit)))
  k_with "binaryOp Mult str int" => ((k_here; (refine' r_mul ?haq9 ?hbq9 ?_); (case haq9 => ((try simp only [fmod_lit]); omega)); (case hbq9 => ((try simp only [fmod_lit]); omega)); intro _ _))
  k_with "binaryOp Add str str" => ((k_here; (refine' r_add ?haq9 ?hbq9 ?hcq9 ?_); (case haq9 => first | with_reducible exact S_tab | with_reducible exact S_blank | with_reducible rfl); (case hbq9 => first | with_reducible exact S_tab | with_reducible exact S_blank | with_reducible rfl); (case hcq9 => (simp [sp]; omega)); intro _ _))
  k_with "call builtin:str.join" => ((k_here; (first
      | refine' r_join (ls := [(_, _)]) ?hlq9 ?hiq9 ?hwq9 ?_; (case hlq9 => exact News.isList (by k_asm) (by k_mem)); (case hiq9 => exact rfl)
      | refine' r_join (ls := [(_, _), (_, _)]) ?hlq9 ?hiq9 ?hwq9 ?_; (case hlq9 => exact News.isList (by k_asm) (by k_mem)); (case hiq9 => exact rfl)
      | refine' r_join (ls := [(_, _), (_, _), (_, _)]) ?hlq9 ?hiq9 ?hwq9 ?_; (case hlq9 => exact News.isList (by k_asm) (by k_mem)); (case hiq9 => exact rfl)); (case hwq9 => (simp [sp, fmod_lit]; omega)); intro _ _; (try dsimp only)))
  k_with "call type:tuple" => ((k_here; k_dflt (refine' r_tuple ?Fq9 ?Nq9 ?mq9 ?_ ?zq9; (case Fq9 => k_asm); (case Nq9 => k_asm); (case mq9 => k_mem); (case zq9 => (have hc9 := sizeLine_eq; (have hI9 := IntsAre.length (by assumption)); omega)); k_whole); intro _ _ _ _ l1q9; (try k_lt l1q9); (try (revert l1q9; intro _))))
  k_with "call builtin:len" => ((k_here; (with_reducible show wpAny _ _ (call (Value.builtin "len") [Value.ref _]) _ _ _); k_dflt (refine' r_len_tupI ?Nq9 ?mq9 ?iq9 ?fq9 ?_; (case Nq9 => k_asm); (case mq9 => k_mem); (case iq9 => with_reducible assumption); (case fq9 => omega); k_whole); intro _ _))
  k_with "subscriptTail" => ((k_here; (with_reducible show wpAny _ _ (subscriptTail _ _ (Value.ref _) (Value.int _ _)) _ _ _); k_dflt (refine' r_item_tupI ?Nq9 ?mq9 ?iq9 ?aq9 ?bq9 ?cq9 ?_ ?eq9; (case Nq9 => k_asm); (case mq9 => k_mem); (case iq9 => with_reducible assumption); (case aq9 => omega); (case bq9 => omega); (case cq9 => omega); (case eq9 => with_unfolding_all rfl); k_whole); intro _))
  k_with "pyIter ref" => ((k_here; (with_reducible show wpAny _ _ (pyIter (Value.ref _)) (fun it s₂ => LoopAtV _ _ _ _ _ _ _ _ _ it s₂) _ _); refine Hold.of ?_))
  trivial
local macro_rules | `(tactic| k_inst) => `(tactic| (refine' accInst ?N ?h1 ?h2; (case N => k_asm); (case h1 => k_mem); (case h2 => k_mem)))
theorem rowsA37_1 : True := by
  k_with "c.startS" => ((unfold Con; k_fill; intro _ _ _ _ _ _ _ _ _ _ _ _ _ _ _ _ _ Bq9 Fq9 Xq9 Nq9 Tq9 _ _ _ hretq9; refine wpAny_call ?_; k_dflt walk_at "c.enterS"; clear hretq9 Nq9 Fq9 Bq9 Xq9 Tq9))
  k_with "c.enterS" => ((refine' con_defS ?k1q9 ?k2q9 ?k3q9 ?k4q9 ?k5q9 ?kAq9 ?kFq9 ?kKq9 ?k6q9 ?k7q9 ?k8q9 ?k9q9 ?kBq9 ?kRq9 ?_ ?c2q9 ?c3q9 ?c4q9 ?c5q9; (case kAq9 => exact rfl); (case kFq9 => exact rfl); (case kKq9 => assumption); (case k1q9 => k_asm); (case k2q9 => k_asm); (case k3q9 => k_asm); (case k4q9 => k_asm); (case k5q9 => k_asm); (case k6q9 => k_is); (case k7q9 => k_is); (case k8q9 => ktr_room); (case k9q9 => first | exact BindsTo.of_eq rfl | exact binds_K (by k_in) rfl (by k_is) rfl rfl rfl); (case c5q9 => decide); (case kBq9 => exact locs rfl); (case c2q9 => exact rfl); (case c3q9 => exact rfl); (case c4q9 => exact rfl); (case kRq9 => walk_at "c.ret"); k_whole; intro _ _ _ _ _ _ _ _ _ l1q9; (try k_lt l1q9); (try (revert l1q9; intro _)); (try dsimp only); (try k_fold)))
  k_with "getMethod ref" => ((k_here; (with_reducible show wpAny _ _ (getMethod (Value.ref _) _ _) _ _ _); k_dflt (refine' acc_method ?Fq9 ?Xq9 ?Nq9 ?mq9 ?dq9 ?gaq9 ?cq9 ?gtq9 ?fq9 ?tfq9 ?lq9 ?_; (case Fq9 => k_asm); (case Xq9 => assumption); (case Nq9 => k_asm); (case mq9 => k_mem); (case dq9 => k_mem); (case gaq9 => k_is); (case cq9 => decide +kernel); (case gtq9 => k_is); (case fq9 => k_is); (case tfq9 => first | exact .inl (by k_is) | exact .inr (by k_is)); (case lq9 => rfl)); k_whole))
  k_with "getMethod ref" => ((k_here; (with_reducible show wpAny _ _ (getMethod (Value.ref _) _ _) _ _ _); k_dflt (refine' acc_super ?idq9 ?Fq9 ?Xq9 ?Nq9 ?sq9 ?mq9 ?oq9 ?fq9 ?lq9 ?nq9 ?_; (case Fq9 => k_asm); (case Xq9 => assumption); (case Nq9 => k_asm); (case sq9 => k_mem); (case mq9 => k_mem); (case oq9 => k_is); (case fq9 => ks_is); (case lq9 => k_is); (case nq9 => decide); (case idq9 => first | exact .inl rfl | exact .inr rfl)); k_whole; intro _ _ _ _ l1q9; (try k_lt l1q9); (try (revert l1q9; intro _))))
  k_with "callWith ref" => ((k_here; (with_reducible show wpAny _ _ (callWith _ (Value.ref _) [] _ []) _ _ _); k_dflt (refine' acc_mwWith ?Nq9 ?mq9 ?_; (case Nq9 => k_asm); (case mq9 => k_mem)); k_whole))
  k_with "call ref" => ((k_here; (with_reducible show wpAny _ _ (call (Value.ref _) []) _ _ _); k_dflt (refine' acc_mwLen ?Fq9 ?Xq9 ?Nq9 ?uq9 ?mq9 ?_; (case Fq9 => k_asm); (case Xq9 => assumption); (case Nq9 => k_asm); (case uq9 => k_mem); (case mq9 => k_mem)); k_whole; intro _ _))
  k_with "call ref" => ((k_here; (with_reducible show wpAny _ _ (call (Value.ref _) []) _ _ _); k_dflt (refine' acc_mwInit ?Fq9 ?Xq9 ?Nq9 ?uq9 ?mq9 ?_; (case Fq9 => k_asm); (case Xq9 => assumption); (case Nq9 => k_asm); (case uq9 => k_mem); (case mq9 => k_updF)); k_whole; intro _ _ _ _))
  k_with "call builtin:list.append" => ((k_here; k_dflt (refine' acc_append ?Fq9 ?Xq9 ?Nq9 ?Uq9 ?lq9 ?zq9 ?_; (case Fq9 => k_asm); (case Xq9 => assumption); (case Nq9 => k_asm); (case Uq9 => k_updF); (case lq9 => k_is); (case zq9 => omega)); k_whole; intro _ _ _ _))
  k_with "subscriptTail" => ((k_here; (with_reducible show wpAny _ _ (subscriptTail _ _ (Value.ref _) (Value.ref _)) _ _ _); k_dflt (refine' acc_slice ?Fq9 ?Xq9 ?Nq9 ?mq9 ?lq9 ?nq9 ?fq9 ?plq9 ?puq9 ?zq9 ?_ ?hsq9 ?htq9; (case Fq9 => k_asm); (case Xq9 => assumption); (case Nq9 => k_asm); (case mq9 => k_mem); (case lq9 => k_is); (case nq9 => k_is); (case fq9 => k_is); (case plq9 => first | exact .none | exact .int _ _); (case puq9 => first | exact .none | exact .int _ _); (case zq9 => omega); (case hsq9 => with_unfolding_all rfl); (case htq9 => (intro _; with_unfolding_all rfl))); k_whole; intro _ _ _ _ l1q9; (try k_lt l1q9); (try (revert l1q9; intro _))))
  k_with "setItem ref ref" => ((k_here; (with_reducible show wpAny _ _ (setItem (Value.ref _) (Value.ref _) (Value.ref _)) _ _ _); k_dflt (refine' acc_store ?Fq9 ?Xq9 ?Nq9 ?Uq9 ?lq9 ?nq9 ?fq9 ?yq9 ?xyq9 ?plq9 ?puq9 ?zq9 ?_; (case Fq9 => k_asm); (case Xq9 => assumption); (case Nq9 => k_asm); (case Uq9 => k_updF); (case lq9 => k_is); (case nq9 => k_is); (case fq9 => k_is); (case yq9 => k_mem); (case xyq9 => k_ne); (case plq9 => first | exact .none | exact .int _ _); (case puq9 => first | exact .none | exact .int _ _); (case zq9 => ((try simp); omega))); k_whole; intro _ _ _ _))
  k_with "setAttr ref" => ((k_here; (with_reducible show wpAny _ _ (setAttr (Value.ref _) _ _) _ _ _); k_dflt (refine' acc_setAttr ?Fq9 ?Xq9 ?Nq9 ?mq9 ?Uq9 ?cq9 ?mrq9 ?hdq9 ?sq9 ?tq9 ?lq9 ?eq9 ?zq9 ?_; (case Fq9 => k_asm); (case Xq9 => assumption); (case Nq9 => k_asm); (case mq9 => k_mem); (case Uq9 => k_updF); (case cq9 => k_is); (case mrq9 => exact rfl); (case hdq9 => exact rfl); (case sq9 => k_is); (case tq9 => k_is); (case lq9 => k_get); (case eq9 => k_put); (case zq9 => exact Nat.le_of_ble_eq_true rfl)); k_whole; intro _ _ _; (try k_sweep)))
  k_with "getAttr ref" => ((k_here; (with_reducible show wpAny _ _ (getAttr (Value.ref _) _ _) _ _ _); k_dflt (refine' acc_getAttr ?Fq9 ?Xq9 ?Nq9 ?mq9 ?dq9 ?gaq9 ?gtq9 ?lq9 ?hhq9 ?haq9 ?hnq9 ?hgq9 ?hvq9 ?_; (case Fq9 => k_asm); (case Xq9 => assumption); (case Nq9 => k_asm); (case mq9 => k_mem); (case dq9 => k_mem); (case gaq9 => k_is); (case gtq9 => k_is); (case lq9 => k_is); (case hhq9 => k_is); (case haq9 => k_is); (case hnq9 => k_is); (case hgq9 => k_get); (case hvq9 => k_handed)); k_whole))
  k_with "wpAt" => ((dsimp only; ks_step "execs cons"; refine ks_wpAt_execs_cons ?_))
  k_with "wpAt" => (((try dsimp only); ks_step "exec Expr"; k_dflt (refine ks_wpAt_Expr_any ?_ (by rfl) (by rfl))))
  k_with "wpAt" => (((try dsimp only); ks_step "eval Call"; k_dflt (refine ks_wpAt_MethodCall ?_)))
  k_with "exec For Tuple Call" => ((k_here; k_dflt (refine wpAny_For ?_ (by intro _; with_unfolding_all rfl))))
  k_with "call type:enumerate" => ((k_here; k_whole; refine Hold.of ?_))
  k_with "call ref" => ((k_here; (with_reducible show wpAny _ _ (call (Value.ref _) _) _ _ _); k_whole; refine Hold.of ?_))
  k_with "eval ListComp" => ((k_here; (with_reducible show wpAny _ _ (eval (Expr.ListComp _ _ _ _) _) _ _ _); k_whole; refine Hold.of ?_))
  k_with "pyIter ref" => ((k_here; (with_reducible show wpAny _ _ (pyIter (Value.ref _)) (fun it s₂ => wpAny _ _ (newList []) _ _ _) _ _); k_whole; refine Hold.of ?_))
  k_with "CompSrc" => ((k_here; k_whole; refine Hold.of ?_))
  k_with "CompSrcT" => ((k_here; k_whole; refine Hold.of ?_))
  trivial
theorem told_eq {st : List Int} {sh : Int} (h : sh = 0 ∨ sh = 1) (h1 : 1 ≤ st.length) : toldV st sh = st ++ (List.replicate sh.toNat (st.drop (st.length - 1))).flatten := by
  rcases h with rfl | rfl
  · rw [show toldV st 0 = st from if_neg (by decide)]
    simp
  · rw [show toldV st 1 = st ++ [st.getLastD 0] from if_pos rfl]
    obtain ⟨M, z, rfl⟩ : ∃ M z, st = M ++ [z] := ⟨st.dropLast, st.getLast (by intro e; rw [e] at h1; exact absurd h1 (by decide)), (List.dropLast_concat_getLast _).symm⟩
    simp
theorem rowsA37_2 : True := by
  k_with "exec If" => ((k_here; (with_reducible show wpAny _ _ (exec (Stmt.If (Expr.Compare (Expr.Name (Str.ofString "told") _) _ _ _) _ _ _) _) _ _ _); k_whole; refine Hold.of ?_))
  k_with "exec If Compare" => ((k_here; (with_reducible show wpAny _ _ (exec (Stmt.If (Expr.Compare (Expr.Name (Str.ofString "told") _) _ _ _) _ _ _) _) _ _ _); k_whole; refine Hold.of ?_))
  trivial
/-- a statement that leaves the frame and the ledger -/
def KeepN (G : Heap) (L : Addr) (m : Str → Option Value) (led : List (Addr × Obj)) (s : Shared) (f : Flow) (s' : Shared) : Prop := f = .next ∧ ∃ h' tk, s' = { s with heap := h', toks := tk } ∧ Fr G L h' m ∧ News G L h' led
theorem keep_cut {M : Model} {A : Around} {E : Value → Shared → Prop} {Q : Flow → Shared → Prop} {s : Shared} {G : Heap} {L : Addr} {m : Str → Option Value} {led : List (Addr × Obj)} {t : Sem Flow} (F : Fr G L s.heap m) (N : News G L s.heap led)
    (h1 : wpAny M A t (KeepN G L m led s) E s) (h2 : ∀ h' tk, Fr G L h' m → News G L h' led → Q .next { s with heap := h', toks := tk }) : wpAny M A t Q E s :=
  wpAny_mono h1 (fun f s' ⟨e, h', tk, e2, F', N'⟩ => by subst e e2; exact h2 h' tk F' N') fun _ _ e => e
theorem LeaveG.intro {g : Heap} {s : Shared} {Post : List (Addr × Obj) → Value → Prop} {v : Value} {L' : Addr} {m' : Str → Option Value} {h' : Heap} {tk' : Nat} {gs' : Array GenState} {tl : List (Addr × Obj)} (hg : GR s.gens gs') (F : Fr g L' h' m') (N : News g L' h' tl) (p : Post tl v) :
    LeaveG g s Post v { s with heap := h', toks := tk', gens := gs' } := ⟨L', m', tl, h', tk', gs', rfl, hg, F, N, p⟩
theorem st_tokX {α : Type} {M : Model} {A : Around} {E : Value → Shared → Prop} {c : Sem α} {Q : α → Shared → Prop} {H : Heap} {gs : Array GenState} {d : Drawn} {T : Nat} {o : OsState} (f : ∀ k, wpAny M A c Q E ⟨H, gs, d, k, o⟩) : wpAny M A c Q E ⟨H, gs, d, T, o⟩ := f T
structure HeapS where
  us : List Value
  n : Nat
  hs : List Int
set_option maxHeartbeats 100000000 in
theorem law_con (w : World) (mean : ExcName → Option Value) (mg mb : Str → Option Value) (s : Shared) (sc : Addr) (vs : List Value) (ns : List Int) (R : Result → Shared → Prop)
    (hI : IntsAre vs ns) (hlen : ns.length ≤ 63) (hsc : (hideAll s.heap [129]).IsList sc vs.toArray) (h9 : s.heap.get? 129 = some (tabObj #[])) :
    (Mine.hd.heap_1 w.params).In (hideAll s.heap [129]) → Top Mine.viewX (looseW Mine.viewX [Str.ofString "Whitespace", Str.ofString "_Accumulator"]) mean mg mb (hideAll s.heap [129]) →
    (∀ v s', LeaveG (hideAll s.heap [129]) s (fun tl v => v = .bool true ∧ ∃ ps, TabOk lenPos ps ∧ (129, tabObj ps) ∈ tl) v s' → R (.ok (.ret v)) s') →
    codeAny (model PySem.Challenge.rw_xl0016_01.row.prog w) callerA (.call (.ref 227) ⟨[.ref sc], []⟩) R s := by
  k_fill
  intro X T hret
  refine' con_top (need := [(129, tabObj #[])]) ?hneed X T ?ho ?hcd ?hroom ?hbind ?hkind ?hnd hret ?_ ?hco ?hgen ?hk
  (case hneed => (intro p hp; rw [List.mem_singleton.mp hp]; exact h9))
  (case ho => k_is)
  (case hcd => k_is)
  (case hroom => decide)
  (case hbind => first | exact BindsTo.of_eq rfl | exact binds_K (by k_in) rfl (by k_is) rfl rfl rfl)
  (case hkind => exact rfl)
  (case hnd => decide +kernel)
  (case hco => exact rfl)
  (case hgen => exact rfl)
  (case hk => exact rfl)
  k_whole
  intro L1 h1 tk1 cells1 F' N' Y' B' l1
  k_lt l1
  k_cells Y'
  simp only [List.cons_append, List.nil_append] at N'
  try dsimp only
  clear hret
  change Fr (hideAll s.heap [129]) _ _ _ at F'
  change News (hideAll s.heap [129]) _ _ _ at N'
  change Below _ (hideAll s.heap [129]) _ (hideAll s.heap [129]) at B'
  generalize hG : hideAll s.heap [129] = G at F' N' B' X T hsc ⊢
  refine abs1 ?_
  intro X8 hX8
  k_steps
  refine Hold.on ?_
  try (refine st_tokX ?_; intro tkS1)
  with_reducible rename Fr _ _ _ _ => lF
  with_reducible rename News _ _ _ _ => lN
  rename_i o2 o1 d2 d1 lh hx1 ll hx2
  with_unfolding_all refine' forP_enum (fun mz (c : HeapS) z => mz z) (fun c => [(lh, W.listOf c.us.toArray c.n), (L1 + 1 + 1, o2), (L1 + 1, o1), (129, tabObj #[])]) (fun i c => IntsAre c.us c.hs ∧ c.hs.length = 8 ∧ ∀ x ∈ c.hs, 0 ≤ x ∧ x ≤ 11 + 1000000 * (i : Int)) ⟨[.int 1 tk1, .int 1 (tk1 + 1), .int 0 (tk1 + 1 + 1), .int 10 (tk1 + 1 + 1 + 1), .int 4 (tk1 + 1 + 1 + 1 + 1), .int 2 (tk1 + 1 + 1 + 1 + 1 + 1), .int 7 (tk1 + 1 + 1 + 1 + 1 + 1 + 1), .int 11 (tk1 + 1 + 1 + 1 + 1 + 1 + 1 + 1)], 0, [1, 1, 0, 10, 4, 2, 7, 11]⟩ (by rfl) (by rfl) (by rfl) (by rfl) hsc lF lN (fun z => rfl) ?hi ?turn ?done
  · exact ⟨.cons _ _ (.cons _ _ (.cons _ _ (.cons _ _ (.cons _ _ (.cons _ _ (.cons _ _ (.cons _ _ .nil))))))), rfl, by intro x hx; simp only [List.mem_cons, List.not_mem_nil, or_false] at hx; omega⟩
  · rintro e it i ⟨us, n, hs⟩ v t u0 u1 oe oi h tk hi hv ⟨iu, hl8, hb⟩ off hne F' N'
    dsimp only at iu hl8 hb off F' N'
    clear lF lN
    obtain ⟨x, tx, rfl, hx⟩ := hI.at i v (by simpa using hv)
    have hlu := iu.length
    have hi63 : i < 63 := by
      have := hI.length
      rw [List.size_toArray] at hi
      omega
    simp only [List.mem_cons, List.not_mem_nil, forall_eq_or_imp, or_false, forall_eq] at off
    refine abs1 ?_
    intro XT hXT
    k_steps
    with_reducible rename Fr _ _ _ _ => lF
    with_reducible rename News _ _ _ _ => lN
    refine hXT _ _ ?_
    refine PEnd.intro ⟨_, _, _⟩ lF (fun z h1 h2 => by simp only [if_neg h1, if_neg h2]) lN ?_ ⟨by assumption, by (rw [List.length_set]; exact hl8), ?_⟩
    · simp only [List.mem_cons, List.not_mem_nil, forall_eq_or_imp, or_false, forall_eq]
      exact off
    · dsimp only
      intro y hy
      have hm1 : 0 ≤ x.fmod (10 ^ Int.toNat 6) := Int.fmod_nonneg_of_pos _ (by decide)
      have hm2 : x.fmod (10 ^ Int.toNat 6) < 1000000 := Int.fmod_lt_of_pos _ (by decide)
      rcases List.mem_or_eq_of_mem_set hy with hy | hy
      · have := hb y hy
        push_cast
        omega
      · have hget : 0 ≤ hs.getD ((i : Int).fmod 8).toNat 0 ∧ hs.getD ((i : Int).fmod 8).toNat 0 ≤ 11 + 1000000 * (i : Int) := by
          have hf0 : 0 ≤ (i : Int).fmod 8 := Int.fmod_nonneg_of_pos _ (by decide)
          have hf8 : (i : Int).fmod 8 < 8 := Int.fmod_lt_of_pos _ (by decide)
          have hlt : ((i : Int).fmod 8).toNat < hs.length := by omega
          rw [List.getD_eq_getElem?_getD, List.getElem?_eq_getElem hlt]
          exact hb _ (List.getElem_mem hlt)
        push_cast
        omega
  · rintro ⟨us, n, hs⟩ u0 u1 h tk ⟨iu, hl8, hb⟩ F' N'
    dsimp only at iu hl8 hb F' N'
    clear lF lN
    rw [List.size_toArray, hI.length] at hb
    have hlu := iu.length
    k_steps
    refine Hold.on ?_
    try (refine st_tokX ?_; intro tkS2)
    with_reducible rename Fr _ _ _ _ => lF
    with_reducible rename News _ _ _ _ => lN
    rename_i tA tB tC rT hX1 lFo lNo lT hX2
    clear lFo lNo
    have hszb : 1 ≤ (1 + (hs.getD (Int.toNat 0) 0).fmod 4) ∧ (1 + (hs.getD (Int.toNat 0) 0).fmod 4) ≤ 4 := by
      have q1 : 0 ≤ (hs.getD (Int.toNat 0) 0).fmod 4 := Int.fmod_nonneg_of_pos _ (by decide)
      have q2 : (hs.getD (Int.toNat 0) 0).fmod 4 < 4 := Int.fmod_lt_of_pos _ (by decide)
      omega
    have hrub : (1 + (hs.getD (Int.toNat 1) 0).fmod 3) = 1 ∨ (1 + (hs.getD (Int.toNat 1) 0).fmod 3) = 2 ∨ (1 + (hs.getD (Int.toNat 1) 0).fmod 3) = 3 := by
      have q1 : 0 ≤ (hs.getD (Int.toNat 1) 0).fmod 3 := Int.fmod_nonneg_of_pos _ (by decide)
      have q2 : (hs.getD (Int.toNat 1) 0).fmod 3 < 3 := Int.fmod_lt_of_pos _ (by decide)
      omega
    have hmob : 0 ≤ (hs.getD (Int.toNat 2) 0).fmod 3 ∧ (hs.getD (Int.toNat 2) 0).fmod 3 ≤ 2 := by
      have q1 : 0 ≤ (hs.getD (Int.toNat 2) 0).fmod 3 := Int.fmod_nonneg_of_pos _ (by decide)
      have q2 : (hs.getD (Int.toNat 2) 0).fmod 3 < 3 := Int.fmod_lt_of_pos _ (by decide)
      omega
    generalize (1 + (hs.getD (Int.toNat 0) 0).fmod 4) = sz at lN hszb
    generalize (1 + (hs.getD (Int.toNat 1) 0).fmod 3) = runs at lN hrub
    generalize (hs.getD (Int.toNat 2) 0).fmod 3 = more at lN hmob
    have P := plain_of hszb hrub hmob
    obtain ⟨u3, u4, u5, lN⟩ : ∃ u3 u4 u5, News G L1 hX2 [(rT, tup3 sz runs more u3 u4 u5), (lh, W.listOf us.toArray n), (L1 + 1 + 1, o2), (L1 + 1, o1), (129, tabObj #[])] := ⟨_, _, _, lN⟩
    have N2 : News G L1 hX2 ([(rT, tup3 sz runs more u3 u4 u5)] ++ [(lh, W.listOf us.toArray n), (L1 + 1 + 1, o2), (L1 + 1, o1), (129, tabObj #[])]) := lN
    refine' con_useF (steps_con w mean mg mb 14 sz runs more rT _ _ _ _ (Nat.le_refl _) hszb hrub hmob (fun x h1 h2 => ?lim)) ?A ?B ?F ?X N2 ?T ?hk ?hd ?hu ?off ?_
    (case lim =>
      have := (P.lim x.toNat (by omega) (by omega)).2.1
      rwa [show ((x.toNat : Nat) : Int) = x by omega] at this)
    (case A => exact rfl)
    (case B => assumption)
    (case F => k_asm)
    (case X => assumption)
    (case T => assumption)
    (case hk => first | rfl | assumption)
    (case hd => decide)
    (case hu => decide)
    (case off =>
      simp only [List.mem_cons, List.not_mem_nil, forall_eq_or_imp, or_false, forall_eq]
      exact ⟨Nat.ne_of_lt lT.1, Nat.ne_of_lt lT.2.1, Nat.ne_of_lt lT.2.2.1, Nat.ne_of_lt lT.2.2.2⟩)
    rintro r1 tl1 h1' tk1' F1 N1 off1 ⟨y1, us1, n1, iu1, rfl, rfl⟩
    simp only [List.cons_append, List.nil_append] at N1 off1
    clear lF lN N2
    k_steps
    refine Hold.on ?_
    try (refine st_tokX ?_; intro tkS3)
    with_reducible rename Fr _ _ _ _ => lF
    with_reducible rename News _ _ _ _ => lN
    have hy1 : @Ne Nat y1 rT := off_cls lN List.mem_cons_self (List.mem_cons_of_mem _ List.mem_cons_self) rfl
    have hy1o := off1 (y1, _) List.mem_cons_self (by simpa using hy1)
    simp only [List.mem_cons, List.not_mem_nil, forall_eq_or_imp, or_false, forall_eq] at hy1o
    clear off1
    have hsh : ((hs.getD (Int.toNat 2) 0).fdiv 3).fmod 2 = 0 ∨ ((hs.getD (Int.toNat 2) 0).fdiv 3).fmod 2 = 1 := by
      have q1 : 0 ≤ ((hs.getD (Int.toNat 2) 0).fdiv 3).fmod 2 := Int.fmod_nonneg_of_pos _ (by decide)
      have q2 : ((hs.getD (Int.toNat 2) 0).fdiv 3).fmod 2 < 2 := Int.fmod_lt_of_pos _ (by decide)
      omega
    generalize ((hs.getD (Int.toNat 2) 0).fdiv 3).fmod 2 = sh at lF hsh ⊢
    generalize hst : stepsV (limitV sz runs.toNat more) 14 = st at iu1
    have N2 : News G L1 _ ([(y1, W.listOf us1.toArray n1)] ++ [(rT, tup3 sz runs more u3 u4 u5), (lh, W.listOf us.toArray n), (L1 + 1 + 1, o2), (L1 + 1, o1), (129, tabObj #[])]) := lN
    refine' con_useG (told_con w mean mg mb y1 us1 st n1 sh _ iu1 (hst ▸ P.slen.2) (hst ▸ P.steps) (hst ▸ P.slen.1) hsh) ?A2 ?B2 ?F2 ?X2 N2 ?T2 ?hk2 ?hd2 ?hu2 ?off2 ?_
    (case A2 => exact rfl)
    (case B2 => assumption)
    (case F2 => k_asm)
    (case X2 => assumption)
    (case T2 => assumption)
    (case hk2 => first | rfl | assumption)
    (case hd2 => decide)
    (case hu2 => decide)
    (case off2 =>
      simp only [List.mem_cons, List.not_mem_nil, forall_eq_or_imp, or_false, forall_eq]
      exact ⟨Ne.symm hy1o.1, Ne.symm hy1o.2.1, Ne.symm hy1o.2.2.1, Ne.symm hy1o.2.2.2.1, Ne.symm hy1o.2.2.2.2⟩)
    rintro r2 tl2 h2' tk2' gs2 hg2 F2 N2' off2 ⟨y2, us2, iu2, rfl, rfl⟩
    simp only [List.cons_append, List.nil_append] at N2' off2
    clear lF lN N2
    have hy2o : @Ne Nat y2 rT ∧ @Ne Nat y2 lh ∧ @Ne Nat y2 (L1 + 1 + 1) ∧ @Ne Nat y2 (L1 + 1) ∧ @Ne Nat y2 129 := by
      by_cases q : @Eq Nat y2 y1
      · rw [q]
        exact ⟨hy1o.1, hy1o.2.1, hy1o.2.2.1, hy1o.2.2.2.1, hy1o.2.2.2.2⟩
      · have := off2 (y2, _) List.mem_cons_self (by simpa using q)
        simp only [List.mem_cons, List.not_mem_nil, forall_eq_or_imp, or_false, forall_eq] at this
        exact ⟨this.2.1, this.2.2.1, this.2.2.2.1, this.2.2.2.2.1, this.2.2.2.2.2⟩
    clear off2
    have hd1 : o1.data = .cell none := d1
    have hd2 : o2.data = .cell none := d2
    clear d1 d2
    have N3 : News G L1 _ ((L1 + 1, o1) :: [(y2, W.listOf us2.toArray us2.length), (y1, W.listOf us1.toArray n1), (rT, tup3 sz runs more u3 u4 u5), (lh, W.listOf us.toArray n), (L1 + 1 + 1, o2), (129, tabObj #[])]) := pick N2' [5, 0, 1, 2, 3, 4, 6] rfl
    clear N2'
    with_unfolding_all refine storeX_C F2 N3 (by rfl) (UpdF.head ?_) hd1 ?_
    · simp only [List.mem_cons, List.not_mem_nil, forall_eq_or_imp, or_false, forall_eq]
      refine ⟨hy2o.2.2.2.1, hy1o.2.2.2.1, Ne.symm (Nat.ne_of_lt lT.2.2.1), Ne.symm (Nat.ne_of_lt ll.2.1), Nat.succ_ne_self _, Nat.ne_of_lt (Nat.lt_succ_of_lt l1)⟩
    intro h3' o3 F3 N3' d3
    clear N3
    dsimp only at N3' ⊢
    have hstl : st.length ≤ 20 := hst ▸ P.slen.2
    have hst1 : 1 ≤ st.length := hst ▸ P.slen.1
    have htl : (toldV st sh).length ≤ 21 := by
      unfold toldV
      split
      · rw [List.length_append, List.length_singleton]
        omega
      · omega
    k_steps
    refine Hold.on ?_
    try (refine st_tokX ?_; intro tkS4)
    refine keep_cut F3 N3' ?_ ?_
    · refine wpAny_If ?_
      have hte := told_eq hsh hst1
      rcases hsh with rfl | rfl
      all_goals (
        k_steps
        refine ⟨rfl, _, _, rfl, ?F, ?N⟩
        (case F => k_asm)
        (case N => (refine' cb_drop ?A ?B; (case A => k_asm); (case B => lcg_sub))))
    clear F3 N3'
    intro h4 tk4 F4 N4
    k_steps
    refine Hold.on ?_
    try (refine st_tokX ?_; intro tkS5)
    refine ListComp_X (cl := [(Str.ofString "told", L1 + 1)]) (by rfl) (by rfl) (by decide) ?_ (by intro _; with_unfolding_all rfl)
    k_steps
    refine Hold.on ?_
    try (refine st_tokX ?_; intro tkS6)
    with_reducible rename IsRange _ _ _ _ _ _ _ _ => lR
    with_reducible rename Fr _ _ _ _ => lF
    with_reducible rename News _ _ _ _ => lN
    refine listcomp_range (· = gs2) rfl (fun _ (c : List Value) => [(L1 + 1, o3), (y2, W.listOf us2.toArray us2.length), (y1, W.listOf us1.toArray n1), (rT, tup3 sz runs more u3 u4 u5), (lh, W.listOf us.toArray n), (L1 + 1 + 1, o2), (129, tabObj #[])]) (fun c => c) (fun _ i c => IntsAre c ((List.range i).map fun k => ((toldV st sh).take (k + 1)).sum)) (fun _ => []) (by rfl) lR (small_one (by omega) (by omega) (by omega) (by omega)) (by omega) lF lN (fun C => rfl) (fun C => rfl) (fun C => .nil) ?_ ?_
    · rintro I C D hnI hID hDC i ys h9 tk9 gs9 oI oC m9 u9 E9 hi9 hys hC9 rfl F9 N9 off9
      dsimp only at hys N9 off9 ⊢
      clear lF lN
      refine comp_name hC9 F9 N9 (Nat.ne_of_lt (Nat.lt_trans hID hDC)) (Nat.ne_of_lt hDC) (fun p hp => (off9 p hp).1) (by rfl) (by rfl) (by rfl) ?_
      intro h8 oC8 m8 hC8 hx8 F8 N8
      clear F9 N9 hC9
      refine wpAny_tests_nil ?_
      simp only [if_true]
      refine abs1 ?_
      intro XR hXR
      k_steps
      with_reducible rename Fr _ _ _ _ => kF
      with_reducible rename News _ _ _ _ => kN
      refine hXR _ _ ?_
      refine ⟨ys ++ [_], _, _, _, oC8, m8, rfl, hC8, rfl, kF, fun p hp => kN p (List.mem_cons_of_mem _ hp), off9, rfl, ?_⟩
      show IntsAre (ys ++ [_]) _
      rw [List.range_succ, List.map_append, show (0 + (i : Int) + 1).toNat = i + 1 by omega]
      exact IntsAre.append hys (.cons _ _ .nil)
    rintro C D ys h9 tk9 gs9 hys hnD rfl F9 N9 off9
    dsimp only at hys N9 off9 ⊢
    rw [show (((toldV st sh).length : Int) - 0).toNat = (toldV st sh).length by omega] at hys
    replace hys : IntsAre ys (psums (toldV st sh)) := hys
    clear lF lN off9
    simp only [List.mem_cons, List.not_mem_nil, forall_eq_or_imp, or_false, forall_eq] at hnD
    have N5 : News G L1 h9 ((L1 + 1 + 1, o2) :: [(D, W.listOf ys.toArray ys.length), (L1 + 1, o3), (y2, W.listOf us2.toArray us2.length), (y1, W.listOf us1.toArray n1), (rT, tup3 sz runs more u3 u4 u5), (lh, W.listOf us.toArray n), (129, tabObj #[])]) := pick N9 [6, 0, 1, 2, 3, 4, 5, 7] rfl
    clear N9
    with_unfolding_all refine storeX_C F9 N5 (by rfl) (UpdF.head ?_) hd2 ?_
    · simp only [List.mem_cons, List.not_mem_nil, forall_eq_or_imp, or_false, forall_eq]
      exact ⟨Ne.symm (Nat.ne_of_lt hnD.2.2.2.2.2.1), Nat.ne_of_lt (Nat.lt_succ_self _), hy2o.2.2.1, hy1o.2.2.1, Ne.symm (Nat.ne_of_lt lT.2.1), Ne.symm (Nat.ne_of_lt ll.1), Nat.ne_of_lt (Nat.lt_succ_of_lt (Nat.lt_succ_of_lt l1))⟩
    intro h6 o6 F6 N6 d6
    clear N5
    dsimp only at N6 ⊢
    k_steps
    refine Hold.on ?_
    try (refine st_tokX ?_; intro tkS7)
    have N7 : News G L1 _ ([(rT, tup3 sz runs more u3 u4 u5)] ++ [(L1 + 1 + 1, o6), (D, W.listOf ys.toArray ys.length), (lh, W.listOf us.toArray n), (129, tabObj #[])]) := pick N6 [5, 0, 1, 6, 7] rfl
    refine' con_useF (stops_con w mean mg mb 14 sz runs more rT _ _ _ _ (Nat.le_refl _) hszb (by omega) hmob) ?A3 ?B3 ?F3 ?X3 N7 ?T3 ?hk3 ?hd3 ?hu3 ?off3 ?_
    (case A3 => exact rfl)
    (case B3 => assumption)
    (case F3 => k_asm)
    (case X3 => assumption)
    (case T3 => assumption)
    (case hk3 => first | rfl | assumption)
    (case hd3 => decide)
    (case hu3 => decide)
    (case off3 =>
      simp only [List.mem_cons, List.not_mem_nil, forall_eq_or_imp, or_false, forall_eq]
      exact ⟨Nat.ne_of_lt lT.2.1, Ne.symm (Nat.ne_of_lt hnD.2.2.2.1), Nat.ne_of_lt lT.1, Nat.ne_of_lt lT.2.2.2⟩)
    rintro r3 tl3 h3'' tk3' F7 N8 off3 ⟨y3, us3, n3, iu3, rfl, rfl⟩
    simp only [List.cons_append, List.nil_append] at N8 off3
    clear F6 N6 N7
    have hy3 : @Ne Nat y3 rT := off_cls N8 List.mem_cons_self (List.mem_cons_of_mem _ List.mem_cons_self) rfl
    have hy3o := off3 (y3, _) List.mem_cons_self (by simpa using hy3)
    simp only [List.mem_cons, List.not_mem_nil, forall_eq_or_imp, or_false, forall_eq] at hy3o
    clear off3
    generalize hsp : stopsV sz runs more 14 = sp9 at iu3
    have hsl : sp9.length = 15 := hsp ▸ P.len
    k_steps
    refine Hold.on ?_
    try (refine st_tokX ?_; intro tkS8)
    with_reducible rename Fr _ _ _ _ => lF
    with_reducible rename News _ _ _ _ => lN
    have N9 : News G L1 _ ([(y3, W.listOf us3.toArray n3)] ++ [(rT, tup3 sz runs more u3 u4 u5), (L1 + 1 + 1, o6), (D, W.listOf ys.toArray ys.length), (lh, W.listOf us.toArray n), (129, tabObj #[])]) := lN
    refine' con_useF (needed_con w mean mg mb 14 y3 us3 sp9 n3 _ (Nat.le_refl _) iu3 hsl) ?A4 ?B4 ?F4 ?X4 N9 ?T4 ?hk4 ?hd4 ?hu4 ?off4 ?_
    (case A4 => exact rfl)
    (case B4 => assumption)
    (case F4 => k_asm)
    (case X4 => assumption)
    (case T4 => assumption)
    (case hk4 => first | rfl | assumption)
    (case hd4 => decide)
    (case hu4 => decide)
    (case off4 =>
      simp only [List.mem_cons, List.not_mem_nil, forall_eq_or_imp, or_false, forall_eq]
      exact ⟨Ne.symm hy3o.1, Ne.symm hy3o.2.1, Ne.symm hy3o.2.2.1, Ne.symm hy3o.2.2.2.1, Ne.symm hy3o.2.2.2.2⟩)
    rintro r4 tl4 h4' tk4' F8 N10 off4 ⟨y4, us4, n4, iu4, rfl, rfl⟩
    simp only [List.cons_append, List.nil_append] at N10 off4
    clear lF lN N9
    have hy4o : @Ne Nat y4 rT ∧ @Ne Nat y4 (L1 + 1 + 1) ∧ @Ne Nat y4 D ∧ @Ne Nat y4 lh ∧ @Ne Nat y4 129 := by
      by_cases q : @Eq Nat y4 y3
      · rw [q]
        exact hy3o
      · have := off4 (y4, _) List.mem_cons_self (by simpa using q)
        simp only [List.mem_cons, List.not_mem_nil, forall_eq_or_imp, or_false, forall_eq] at this
        exact this.2
    clear off4
    k_steps
    refine Hold.on ?_
    try (refine st_tokX ?_; intro tkS9)
    refine ListComp_X (cl := [(Str.ofString "marks", L1 + 1 + 1)]) (by rfl) (by rfl) (by decide) ?_ (by intro _; with_unfolding_all rfl)
    k_steps
    refine Hold.on ?_
    try (refine st_tokX ?_; intro tkS10)
    with_reducible rename IsRange _ _ _ _ _ _ _ _ => lR
    with_reducible rename Fr _ _ _ _ => lF
    with_reducible rename News _ _ _ _ => lN
    refine listcomp_range (GR gs9) (GR.refl _) (fun _ (c : List Value × Array Value) => [(y4, W.listOf us4.toArray n4), (y3, W.listOf us3.toArray n3), (rT, tup3 sz runs more u3 u4 u5), (L1 + 1 + 1, o6), (D, W.listOf ys.toArray ys.length), (lh, W.listOf us.toArray n), (129, tabObj c.2)]) (fun c => c.1) (fun _ i c => IntsAre c.1 ((List.range i).map fun h => 2 * cutV (psums (toldV st sh)) h) ∧ TabOk lenPos c.2) (fun _ => ([], #[])) (by rfl) lR (small_one (by omega) (by omega) (by omega) (by omega)) (by omega) lF lN (fun C => rfl) (fun C => rfl) (fun C => ⟨.nil, .inl rfl⟩) ?_ ?_
    · rintro I C Dz hnI hID hDC i ⟨zs, ps⟩ h9 tk9 gs8 oI oC m9 u9 E9 hi9 ⟨hzs, hps⟩ hC9 hg9 F9 N9 off9
      dsimp only at hzs hps N9 off9 ⊢
      clear lF lN
      have hi15 : i < 15 := by omega
      refine comp_name hC9 F9 N9 (Nat.ne_of_lt (Nat.lt_trans hID hDC)) (Nat.ne_of_lt hDC) (fun p hp => (off9 p hp).1) (by rfl) (by rfl) (by rfl) ?_
      intro h8 oC8 m8 hC8 hx8 F8 N8
      clear F9 N9 hC9
      refine wpAny_tests_nil ?_
      simp only [if_true]
      refine abs1 ?_
      intro XR hXR
      rw [show (0 : Int) + (i : Int) = (i : Int) by omega] at hx8
      k_steps
      refine Hold.on ?_
      try (refine st_tokX ?_; intro tkS11)
      simp only [List.mem_cons, List.not_mem_nil, forall_eq_or_imp, or_false, forall_eq] at hnI
      have hI1 : @LT.lt Nat _ D I := hnI.2.2.2.2.1
      have hI2 : @LT.lt Nat _ 129 I := hnI.2.2.2.2.2.2
      have N9 : News G L1 h8 ([(D, W.listOf ys.toArray ys.length), (129, tabObj ps)] ++ [(I, oI), (C, oC8), (Dz, LCg.lst zs), (y4, W.listOf us4.toArray n4), (y3, W.listOf us3.toArray n3), (rT, tup3 sz runs more u3 u4 u5), (L1 + 1 + 1, o6), (lh, W.listOf us.toArray n)]) := pick N8 [7, 9, 0, 1, 2, 3, 4, 5, 6, 8] rfl
      have hm1 := P.mlen sh hsh
      have hm2 := P.mone sh hsh
      have hm3 := P.mpos sh hsh
      rw [hst] at hm1 hm2 hm3
      refine' con_useG (cut_con w mean mg mb i D ys (psums (toldV st sh)) ys.length u9 ps (by omega) hys hm1 hm2 hm3 hps (Ne.symm (Nat.ne_of_lt hnD.2.2.2.2.2.2))) ?A5 ?B5 ?F5 ?X5 N9 ?T5 ?hk5 ?hd5 ?hu5 ?off5 ?_
      (case A5 => exact rfl)
      (case B5 => assumption)
      (case F5 => k_asm)
      (case X5 => assumption)
      (case T5 => assumption)
      (case hk5 => first | rfl | assumption)
      (case hd5 => decide)
      (case hu5 => decide)
      (case off5 =>
        simp only [List.mem_cons, List.not_mem_nil, forall_eq_or_imp, or_false, forall_eq]
        exact ⟨⟨Ne.symm (Nat.ne_of_lt hI1), Ne.symm (Nat.ne_of_lt hI2)⟩, ⟨Ne.symm (Nat.ne_of_lt (Nat.lt_trans hI1 (Nat.lt_trans hID hDC))), Ne.symm (Nat.ne_of_lt (Nat.lt_trans hI2 (Nat.lt_trans hID hDC)))⟩, ⟨Ne.symm (Nat.ne_of_lt (Nat.lt_trans hI1 hID)), Ne.symm (Nat.ne_of_lt (Nat.lt_trans hI2 hID))⟩,
          ⟨hy4o.2.2.1, hy4o.2.2.2.2⟩, ⟨hy3o.2.2.1, hy3o.2.2.2.2⟩, ⟨Nat.ne_of_lt hnD.2.2.2.1, Ne.symm (Nat.ne_of_lt lT.2.2.2)⟩, ⟨Nat.ne_of_lt hnD.2.2.2.2.2.1, Ne.symm (Nat.ne_of_lt (Nat.lt_succ_of_lt (Nat.lt_succ_of_lt l1)))⟩, ⟨Nat.ne_of_lt hnD.2.2.2.2.1, Ne.symm (Nat.ne_of_lt ll.2.2)⟩⟩)
      rintro r5 tl5 h5' tk5' gs5 hg5 F10 N11 - ⟨ps', t5, hps', rfl, rfl⟩
      simp only [List.cons_append, List.nil_append] at N11
      clear F8 N8 N9
      refine hXR _ _ ?_
      refine ⟨(zs ++ [_], ps'), _, _, gs5, oC8, m8, rfl, hC8, GR.trans hg9 hg5, F10, ?_, (by simp only [List.mem_cons, List.not_mem_nil, forall_eq_or_imp, or_false, forall_eq] at off9 ⊢; exact off9), rfl, ?_, hps'⟩
      · exact pick N11 [2, 3, 4, 5, 6, 7, 8, 0, 9, 1] rfl
      · show IntsAre (zs ++ [_]) _
        rw [List.range_succ, List.map_append]
        exact IntsAre.append hzs (.cons _ _ .nil)
    rintro C Dz ⟨zs, ps⟩ h9 tk9 gs8 ⟨hzs, hps⟩ hnZ hg9 F9 N9 off9
    dsimp only at hzs hps N9 off9 ⊢
    clear lF lN off9
    rw [show ((15 : Int) - 0).toNat = 15 by decide] at hzs
    have hll : (neededRun sp9 14).length = 15 := neededRun_len sp9 14
    have hcut : (List.range 15).map (fun h => 2 * cutV (psums (toldV st sh)) h) = (neededRun sp9 14).map (fun x => 2 * x) := by
      have hP := P.cut sh hsh
      rw [hst, hsp] at hP
      apply List.ext_getElem
      · rw [List.length_map, List.length_map, List.length_range, hll]
      · intro h h1 h2
        rw [List.length_map, List.length_range] at h1
        rw [List.getElem_map, List.getElem_map, List.getElem_range, hP h (by omega), List.getD_eq_getElem?_getD, List.getElem?_eq_getElem (by rw [hll]; exact h1)]
        rfl
    k_steps
    refine Hold.on ?_
    try (refine st_tokX ?_; intro tkS12)
    refine LCg.ListComp_U (F₀ := by k_asm) (by rfl) (by decide) (by rfl) (by decide) (by rfl) ?_
    k_steps
    refine Hold.on ?_
    try (refine st_tokX ?_; intro tkS13)
    refine LCg.CompSrc.ledger (by rfl) (by k_asm) (by k_asm) (List.mem_cons_of_mem _ List.mem_cons_self) (by rw [List.size_toArray, iu4.length, hll, sizeLine_eq]; omega) ?_
    intro g7
    refine' kcf_list (fun x => 2 * x) iu4 (fun k6 t6 I6 oI6 C6 oC6 D6 m6 ys6 h6 tk6 E6 hk6 hC6 hx6 F6 N6 off6 ne6 mk6 => ?_) ?_
    · clear F9 N9
      k_steps
    · intro ys5 hy5 D5 h5 tk5 F5 N5 off5
      clear F9 N9
      have hq1 : 1 ≤ 1 + (hs.getD (Int.toNat 3) 0).fmod 14 ∧ 1 + (hs.getD (Int.toNat 3) 0).fmod 14 ≤ 14 := by
        have q1 : 0 ≤ (hs.getD (Int.toNat 3) 0).fmod 14 := Int.fmod_nonneg_of_pos _ (by decide)
        have q2 : (hs.getD (Int.toNat 3) 0).fmod 14 < 14 := Int.fmod_lt_of_pos _ (by decide)
        omega
      k_steps
      refine Hold.on ?_
      try (refine st_tokX ?_; intro tkS14)
      with_reducible rename Fr _ _ _ _ => lF
      with_reducible rename News _ _ _ _ => lN
      rename IntsAre _ (List.drop _ hs) => lD
      generalize 1 + (hs.getD (Int.toNat 3) 0).fmod 14 = H1 at lF hq1 ⊢
      obtain ⟨H, rfl⟩ : ∃ H : Nat, H1 = (H : Int) := Int.eq_ofNat_of_zero_le (by omega)
      have hq2 : 0 ≤ (hs.getD (Int.toNat 4) 0).fmod ((H : Int) + 1) ∧ (hs.getD (Int.toNat 4) 0).fmod ((H : Int) + 1) < (H : Int) + 1 := ⟨Int.fmod_nonneg_of_pos _ (by omega), Int.fmod_lt_of_pos _ (by omega)⟩
      generalize (hs.getD (Int.toNat 4) 0).fmod ((H : Int) + 1) = A1 at hq2 ⊢
      obtain ⟨Ah, rfl⟩ : ∃ Ah : Nat, A1 = (Ah : Int) := Int.eq_ofNat_of_zero_le hq2.1
      have hq3 : 0 ≤ (hs.getD (Int.toNat 5) 0).fmod (H : Int) ∧ (hs.getD (Int.toNat 5) 0).fmod (H : Int) < (H : Int) := ⟨Int.fmod_nonneg_of_pos _ (by omega), Int.fmod_lt_of_pos _ (by omega)⟩
      generalize (hs.getD (Int.toNat 5) 0).fmod (H : Int) = Lm at hq3 ⊢
      have hPle := P.le
      have hPlim := P.lim
      have hPwin := P.win
      have hPlose := P.lose
      rw [hsp] at hPle hPlim hPwin hPlose
      refine' con_useK (won_con w mean mg mb H Ah (1 + Lm) sz runs more rT y3 y4 _ _ _ _ u3 u4 u5 us3 us4 _ sp9 (neededRun sp9 14) _ n3 n4 0 (by omega) (by omega) (by omega) hszb hrub hmob iu3 iu4 lD hsl hll (by rw [List.length_drop, hl8]) ?hnu hPle (fun x h1 h2 => ⟨(hPlim x h1 h2).1, ?lm1, ?lm2⟩) hPwin hPlose) ?A6 ?B6 ?F6 ?X6 lN (fun p hp => ?hsub6) ?T6 ?hk6 ?hd6 ?hu6 ?_
      (case hnu => exact fun k hk => (hb k (List.mem_of_mem_drop hk)).1)
      (case lm1 => have := hPlim x h1 h2; omega)
      (case lm2 => have := hPlim x h1 h2; omega)
      (case hsub6 =>
        simp only [List.mem_cons, List.not_mem_nil, or_false] at hp ⊢
        rcases hp with h | h | h | h
        · exact .inr (.inr (.inr (.inr (.inr (.inl h)))))
        · exact .inr (.inr (.inr (.inr (.inl h))))
        · exact .inr (.inr (.inr (.inl h)))
        · exact .inl h)
      (case A6 => exact rfl)
      (case B6 => assumption)
      (case F6 => k_asm)
      (case X6 => assumption)
      (case T6 => assumption)
      (case hk6 => first | rfl | assumption)
      (case hd6 => decide)
      (case hu6 => decide)
      rintro r6 tl6 h6' tk6' F11 N12 - ⟨rfl, rfl⟩
      subst hG
      refine hX8 _ _ ?_
      exact LeaveG.intro (GR.trans hg2 hg9) F11 N12 ⟨rfl, ps, hps, by simp⟩
end
section
local macro_rules | `(tactic| k_room) => `(tactic| ktr_room)
theorem rowsA38_0 : True := by
  w_top off
  k_with_none
  k_with "c.enter" => ((first
      | (refine' con_def ?k1q9 ?k2q9 ?k3q9 ?k4q9 ?k5q9 ?kAq9 ?kFq9 ?kKq9 ?k6q9 ?k7q9 ?k8q9 ?k9q9 ?kBq9 ?kRq9 ?_ ?c2q9 ?c3q9 ?c4q9 ?c5q9; (case kAq9 => exact rfl); (case kFq9 => exact rfl); (case kKq9 => assumption); (case k1q9 => k_asm); (case k2q9 => k_asm); (case k3q9 => k_asm); (case k4q9 => k_asm); (case k5q9 => k_asm); (case k6q9 => k_is); (case k7q9 => k_is); (case k8q9 => ktr_room); (case k9q9 => first | exact BindsTo.of_eq rfl | exact binds_K (by k_in) rfl (by k_is) rfl rfl rfl); (case c5q9 => decide); (case kBq9 => exact locs rfl); (case c2q9 => exact rfl); (case c3q9 => exact rfl); (case c4q9 => exact rfl); (case kRq9 => walk_at "c.ret"); k_whole; intro _ _ _ _ _ N'q9 _ _ _ l1q9; (try k_lt l1q9); (try (revert l1q9; intro _)); (try dsimp only); (try k_fold))
      | (refine' con_defC ?k1q9 ?k2q9 ?k3q9 ?k4q9 ?k5q9 ?kAq9 ?kFq9 ?kKq9 ?k6q9 ?k7q9 ?k8q9 ?k9q9 ?kBq9 ?kDq9 ?kRq9 ?_ ?c2q9 ?c3q9 ?c4q9; (case kAq9 => exact rfl); (case kFq9 => exact rfl); (case kKq9 => assumption); (case k1q9 => k_asm); (case k2q9 => k_asm); (case k3q9 => k_asm); (case k4q9 => k_asm); (case k5q9 => k_asm); (case k6q9 => k_is); (case k7q9 => k_is); (case k8q9 => ktr_room); (case k9q9 => first | exact BindsTo.of_eq rfl | exact binds_K (by k_in) rfl (by k_is) rfl rfl rfl); (case kBq9 => exact rfl); (case kDq9 => decide +kernel); (case c2q9 => exact rfl); (case c3q9 => exact rfl); (case c4q9 => exact rfl); (case kRq9 => walk_at "c.ret"); k_whole; intro _ _ _ _ _ _ _ N'q9 Y'q9 _ _ _ l1q9; (try k_lt l1q9); (try (revert l1q9; intro _)); k_cells Y'q9; (try simp only [List.cons_append, List.nil_append] at N'q9); (try dsimp only); (try k_fold))))
  k_with "c.ret" => ((intro _ _ hl9q9; exact con_back (by assumption) (by assumption) (by assumption) (by assumption) hl9q9))
  k_with "c.start" => ((unfold Con; k_fill; intro _ _ _ _ _ _ _ _ _ _ _ _ _ _ _ _ _ Bq9 Fq9 Xq9 Nq9 Tq9 _ _ _ hretq9; refine wpAny_call ?_; k_dflt walk_at "c.enter"; clear hretq9 Nq9 Fq9 Bq9 Xq9 Tq9))
  k_with "c.startCls" => ((unfold Con; k_fill; intro _ _ _ _ _ _ _ _ _ _ _ _ _ _ _ _ _ Bq9 Fq9 Xq9 Nq9 Tq9 _ _ _ hretq9; refine wpAny_call ?_; k_dflt walk_at "c.enterCls"; clear hretq9 Nq9 Fq9 Bq9 Xq9 Tq9))
  k_with "c.enterCls" => ((refine' con_cls ?k1q9 ?k2q9 ?k3q9 ?k5q9 ?kAq9 ?kFq9 ?kKq9 ?m1q9 ?m2q9 ?m3q9 ?k6q9 ?k7q9 ?k8q9 ?k9q9 ?kBq9 ?kRq9 ?_ ?c2q9 ?c3q9 ?c4q9 ?c5q9; (case kAq9 => exact rfl); (case kFq9 => exact rfl); (case kKq9 => assumption); (case k1q9 => k_asm); (case k2q9 => k_asm); (case k3q9 => k_asm); (case k5q9 => k_asm); (case m1q9 => k_is); (case m2q9 => k_is); (case m3q9 => k_is); (case k6q9 => k_is); (case k7q9 => k_is); (case k8q9 => ktr_room); (case k9q9 => intro _ _; exact BindsTo.of_eq rfl); (case c5q9 => decide); (case kBq9 => intro _; exact locs rfl); (case c2q9 => exact rfl); (case c3q9 => exact rfl); (case c4q9 => exact rfl); (case kRq9 => exact con_nil (by assumption)); k_whole; intro _ _ _ _ _ _ l0'q9 _ _ _ _ _ l1q9; (try k_lt2 l0'q9); (try (revert l0'q9; intro _)); (try k_lt2 l1q9); (try (revert l1q9; intro _)); (try dsimp only); (try k_fold)))
  k_with "CompSrc" => ((k_here; k_dflt (refine LCg.CompSrc.range (by rfl) (by k_asm) (by k_asm) (by assumption) (by first | decide | rfl) (by first | rfl | decide) (by first | size_fits | exact Nat.le_of_ble_eq_true rfl) ?_; intro _; lcg_lit)))
  k_with "binaryOp Mult str int" => ((k_here; (refine' r_mul ?haq9 ?hbq9 ?_); (case haq9 => ((try simp only [fmod_lit]); omega)); (case hbq9 => ((try simp only [fmod_lit]); omega)); intro _ _))
  k_with "binaryOp Add str str" => ((k_here; (refine' r_add ?haq9 ?hbq9 ?hcq9 ?_); (case haq9 => first | with_reducible exact S_tab | with_reducible exact S_blank | with_reducible rfl); (case hbq9 => first | with_reducible exact S_tab | with_reducible exact S_blank | with_reducible rfl); (case hcq9 => (simp [sp]; omega)); intro _ _))
  k_with "call builtin:str.join" => ((k_here; (first
      | refine' r_join (ls := [(_, _)]) ?hlq9 ?hiq9 ?hwq9 ?_; (case hlq9 => exact News.isList (by k_asm) (by k_mem)); (case hiq9 => exact rfl)
      | refine' r_join (ls := [(_, _), (_, _)]) ?hlq9 ?hiq9 ?hwq9 ?_; (case hlq9 => exact News.isList (by k_asm) (by k_mem)); (case hiq9 => exact rfl)
      | refine' r_join (ls := [(_, _), (_, _), (_, _)]) ?hlq9 ?hiq9 ?hwq9 ?_; (case hlq9 => exact News.isList (by k_asm) (by k_mem)); (case hiq9 => exact rfl)); (case hwq9 => (simp [sp, fmod_lit]; omega)); intro _ _; (try dsimp only)))
  k_with "call type:tuple" => ((k_here; k_dflt (refine' r_tuple ?Fq9 ?Nq9 ?mq9 ?_ ?zq9; (case Fq9 => k_asm); (case Nq9 => k_asm); (case mq9 => k_mem); (case zq9 => (have hc9 := sizeLine_eq; (have hI9 := IntsAre.length (by assumption)); omega)); k_whole); intro _ _ _ _ l1q9; (try k_lt l1q9); (try (revert l1q9; intro _))))
  k_with "call builtin:len" => ((k_here; (with_reducible show wpAny _ _ (call (Value.builtin "len") [Value.ref _]) _ _ _); k_dflt (refine' r_len_tupI ?Nq9 ?mq9 ?iq9 ?fq9 ?_; (case Nq9 => k_asm); (case mq9 => k_mem); (case iq9 => with_reducible assumption); (case fq9 => omega); k_whole); intro _ _))
  k_with "subscriptTail" => ((k_here; (with_reducible show wpAny _ _ (subscriptTail _ _ (Value.ref _) (Value.int _ _)) _ _ _); k_dflt (refine' r_item_tupI ?Nq9 ?mq9 ?iq9 ?aq9 ?bq9 ?cq9 ?_ ?eq9; (case Nq9 => k_asm); (case mq9 => k_mem); (case iq9 => with_reducible assumption); (case aq9 => omega); (case bq9 => omega); (case cq9 => omega); (case eq9 => with_unfolding_all rfl); k_whole); intro _))
  k_with "pyIter ref" => ((k_here; (with_reducible show wpAny _ _ (pyIter (Value.ref _)) (fun it s₂ => LoopAtV _ _ _ _ _ _ _ _ _ it s₂) _ _); refine Hold.of ?_))
  trivial
local macro_rules | `(tactic| k_inst) => `(tactic| (refine' accInst ?N ?h1 ?h2; (case N => k_asm); (case h1 => k_mem); (case h2 => k_mem)))
theorem rowsA38_1 : True := by
  k_with "c.startS" => ((unfold Con; k_fill; intro _ _ _ _ _ _ _ _ _ _ _ _ _ _ _ _ _ Bq9 Fq9 Xq9 Nq9 Tq9 _ _ _ hretq9; refine wpAny_call ?_; k_dflt walk_at "c.enterS"; clear hretq9 Nq9 Fq9 Bq9 Xq9 Tq9))
  k_with "c.enterS" => ((refine' con_defS ?k1q9 ?k2q9 ?k3q9 ?k4q9 ?k5q9 ?kAq9 ?kFq9 ?kKq9 ?k6q9 ?k7q9 ?k8q9 ?k9q9 ?kBq9 ?kRq9 ?_ ?c2q9 ?c3q9 ?c4q9 ?c5q9; (case kAq9 => exact rfl); (case kFq9 => exact rfl); (case kKq9 => assumption); (case k1q9 => k_asm); (case k2q9 => k_asm); (case k3q9 => k_asm); (case k4q9 => k_asm); (case k5q9 => k_asm); (case k6q9 => k_is); (case k7q9 => k_is); (case k8q9 => ktr_room); (case k9q9 => first | exact BindsTo.of_eq rfl | exact binds_K (by k_in) rfl (by k_is) rfl rfl rfl); (case c5q9 => decide); (case kBq9 => exact locs rfl); (case c2q9 => exact rfl); (case c3q9 => exact rfl); (case c4q9 => exact rfl); (case kRq9 => walk_at "c.ret"); k_whole; intro _ _ _ _ _ _ _ _ _ l1q9; (try k_lt l1q9); (try (revert l1q9; intro _)); (try dsimp only); (try k_fold)))
  k_with "getMethod ref" => ((k_here; (with_reducible show wpAny _ _ (getMethod (Value.ref _) _ _) _ _ _); k_dflt (refine' acc_method ?Fq9 ?Xq9 ?Nq9 ?mq9 ?dq9 ?gaq9 ?cq9 ?gtq9 ?fq9 ?tfq9 ?lq9 ?_; (case Fq9 => k_asm); (case Xq9 => assumption); (case Nq9 => k_asm); (case mq9 => k_mem); (case dq9 => k_mem); (case gaq9 => k_is); (case cq9 => decide +kernel); (case gtq9 => k_is); (case fq9 => k_is); (case tfq9 => first | exact .inl (by k_is) | exact .inr (by k_is)); (case lq9 => rfl)); k_whole))
  k_with "getMethod ref" => ((k_here; (with_reducible show wpAny _ _ (getMethod (Value.ref _) _ _) _ _ _); k_dflt (refine' acc_super ?idq9 ?Fq9 ?Xq9 ?Nq9 ?sq9 ?mq9 ?oq9 ?fq9 ?lq9 ?nq9 ?_; (case Fq9 => k_asm); (case Xq9 => assumption); (case Nq9 => k_asm); (case sq9 => k_mem); (case mq9 => k_mem); (case oq9 => k_is); (case fq9 => ks_is); (case lq9 => k_is); (case nq9 => decide); (case idq9 => first | exact .inl rfl | exact .inr rfl)); k_whole; intro _ _ _ _ l1q9; (try k_lt l1q9); (try (revert l1q9; intro _))))
  k_with "callWith ref" => ((k_here; (with_reducible show wpAny _ _ (callWith _ (Value.ref _) [] _ []) _ _ _); k_dflt (refine' acc_mwWith ?Nq9 ?mq9 ?_; (case Nq9 => k_asm); (case mq9 => k_mem)); k_whole))
  k_with "call ref" => ((k_here; (with_reducible show wpAny _ _ (call (Value.ref _) []) _ _ _); k_dflt (refine' acc_mwLen ?Fq9 ?Xq9 ?Nq9 ?uq9 ?mq9 ?_; (case Fq9 => k_asm); (case Xq9 => assumption); (case Nq9 => k_asm); (case uq9 => k_mem); (case mq9 => k_mem)); k_whole; intro _ _))
  k_with "call ref" => ((k_here; (with_reducible show wpAny _ _ (call (Value.ref _) []) _ _ _); k_dflt (refine' acc_mwInit ?Fq9 ?Xq9 ?Nq9 ?uq9 ?mq9 ?_; (case Fq9 => k_asm); (case Xq9 => assumption); (case Nq9 => k_asm); (case uq9 => k_mem); (case mq9 => k_updF)); k_whole; intro _ _ _ _))
  k_with "call builtin:list.append" => ((k_here; k_dflt (refine' acc_append ?Fq9 ?Xq9 ?Nq9 ?Uq9 ?lq9 ?zq9 ?_; (case Fq9 => k_asm); (case Xq9 => assumption); (case Nq9 => k_asm); (case Uq9 => k_updF); (case lq9 => k_is); (case zq9 => omega)); k_whole; intro _ _ _ _))
  k_with "subscriptTail" => ((k_here; (with_reducible show wpAny _ _ (subscriptTail _ _ (Value.ref _) (Value.ref _)) _ _ _); k_dflt (refine' acc_slice ?Fq9 ?Xq9 ?Nq9 ?mq9 ?lq9 ?nq9 ?fq9 ?plq9 ?puq9 ?zq9 ?_ ?hsq9 ?htq9; (case Fq9 => k_asm); (case Xq9 => assumption); (case Nq9 => k_asm); (case mq9 => k_mem); (case lq9 => k_is); (case nq9 => k_is); (case fq9 => k_is); (case plq9 => first | exact .none | exact .int _ _); (case puq9 => first | exact .none | exact .int _ _); (case zq9 => omega); (case hsq9 => with_unfolding_all rfl); (case htq9 => (intro _; with_unfolding_all rfl))); k_whole; intro _ _ _ _ l1q9; (try k_lt l1q9); (try (revert l1q9; intro _))))
  k_with "setItem ref ref" => ((k_here; (with_reducible show wpAny _ _ (setItem (Value.ref _) (Value.ref _) (Value.ref _)) _ _ _); k_dflt (refine' acc_store ?Fq9 ?Xq9 ?Nq9 ?Uq9 ?lq9 ?nq9 ?fq9 ?yq9 ?xyq9 ?plq9 ?puq9 ?zq9 ?_; (case Fq9 => k_asm); (case Xq9 => assumption); (case Nq9 => k_asm); (case Uq9 => k_updF); (case lq9 => k_is); (case nq9 => k_is); (case fq9 => k_is); (case yq9 => k_mem); (case xyq9 => k_ne); (case plq9 => first | exact .none | exact .int _ _); (case puq9 => first | exact .none | exact .int _ _); (case zq9 => ((try simp); omega))); k_whole; intro _ _ _ _))
  k_with "setAttr ref" => ((k_here; (with_reducible show wpAny _ _ (setAttr (Value.ref _) _ _) _ _ _); k_dflt (refine' acc_setAttr ?Fq9 ?Xq9 ?Nq9 ?mq9 ?Uq9 ?cq9 ?mrq9 ?hdq9 ?sq9 ?tq9 ?lq9 ?eq9 ?zq9 ?_; (case Fq9 => k_asm); (case Xq9 => assumption); (case Nq9 => k_asm); (case mq9 => k_mem); (case Uq9 => k_updF); (case cq9 => k_is); (case mrq9 => exact rfl); (case hdq9 => exact rfl); (case sq9 => k_is); (case tq9 => k_is); (case lq9 => k_get); (case eq9 => k_put); (case zq9 => exact Nat.le_of_ble_eq_true rfl)); k_whole; intro _ _ _; (try k_sweep)))
  k_with "getAttr ref" => ((k_here; (with_reducible show wpAny _ _ (getAttr (Value.ref _) _ _) _ _ _); k_dflt (refine' acc_getAttr ?Fq9 ?Xq9 ?Nq9 ?mq9 ?dq9 ?gaq9 ?gtq9 ?lq9 ?hhq9 ?haq9 ?hnq9 ?hgq9 ?hvq9 ?_; (case Fq9 => k_asm); (case Xq9 => assumption); (case Nq9 => k_asm); (case mq9 => k_mem); (case dq9 => k_mem); (case gaq9 => k_is); (case gtq9 => k_is); (case lq9 => k_is); (case hhq9 => k_is); (case haq9 => k_is); (case hnq9 => k_is); (case hgq9 => k_get); (case hvq9 => k_handed)); k_whole))
  k_with "wpAt" => ((dsimp only; ks_step "execs cons"; refine ks_wpAt_execs_cons ?_))
  k_with "wpAt" => (((try dsimp only); ks_step "exec Expr"; k_dflt (refine ks_wpAt_Expr_any ?_ (by rfl) (by rfl))))
  k_with "wpAt" => (((try dsimp only); ks_step "eval Call"; k_dflt (refine ks_wpAt_MethodCall ?_)))
  trivial
theorem in39 {P : Params} {h : Heap} (X : (plusX Mine.hd.heap_1 P).In h) : (Mine.hd.heap_1 P).In h := fun a o e => X a o (by
  unfold plusX
  have : ∀ (l r : List (Addr × Obj)), l.lookup a = some o → (l ++ r).lookup a = some o := fun l r e => by rw [List.lookup_append, e]; rfl
  exact this _ _ e)
theorem none39 (P : Params) : (Mine.hd.heap_1 P).lookup 129 = none := by kernel_rfl
theorem at129 {P : Params} {h : Heap} (X : (plusX Mine.hd.heap_1 P).In h) : h.get? 129 = some (tabObj #[]) := X 129 _ (by
  show (Mine.hd.heap_1 P ++ _).lookup 129 = _
  rw [List.lookup_append, show (Mine.hd.heap_1 P).lookup 129 = none from none39 P]
  rfl)
theorem hid39 {P : Params} {h : Heap} (X : (Mine.hd.heap_1 P).In h) : (Mine.hd.heap_1 P).In (hideAll h [129]) := fun a o e => hideAll_get _ (X a o e) fun hm => by
  have : a = 129 := List.mem_singleton.mp hm
  subst this
  rw [none39 P] at e
  cases e
theorem code129 {P : Params} {h : Heap} (X : (Mine.hd.heap_1 P).In h) : isCodeTable h 129 := by
  have e : ∃ (o : Obj) (vs : Array Value), (Mine.hd.heap_1 P).lookup 133 = some o ∧ o.cls = .type "code" ∧ o.data = .fields vs ∧ vs[11]? = some (.ref 129) := ⟨_, _, by rfl, by rfl, by rfl, by rfl⟩
  obtain ⟨o, vs, e, r⟩ := e
  exact ⟨133, o, vs, X _ _ e, r⟩
theorem whole : PySem.Challenge.rw_xl0016_01.Holds := hdW (by
  unfold partC
  k_fill
  intro w s₀ s₁ mg mb G Y fa o pm cd doc dV kV ho hd' hcd hD hmg hg args vals as hpre hlay hrd hwl hlo
  have KX := kIn_of Y
  refine Ground.open G ?_
  intro T B D TE TW
  try (refine guard_noD D (by decide +kernel) ?_; clear D)
  have X9 := in39 KX
  have h9 := at129 KX
  have hfa : mg (Str.ofString "law") = some (.ref 227) := mg_of X9 T.g (by kernel_rfl)
  have efa : fa = 227 := by
    have e : some (Value.ref fa) = some (.ref 227) := hmg.symm.trans hfa
    cases e
    rfl
  wrow_args hpre hlay hrd hwl hlo
  all_goals (
    first | refine callC_kw (enter_call ?_) | refine enter_call ?_)
  subst efa
  rename_i ns9 hs9 hl9 hL8 hr9 hw9 as1 as2 sc vs9 as3 hL9 ra9 w19 r09 hI9 hr8 hc9 hc8
  refine law_con w (ExcName.means s₀.heap) mg mb s₁ sc vs9 ns9 _ hI9 (by omega) ?hsc h9 (hid39 X9) (top_hide T X9 h9 owns_none (tabFree_all _)) ?_
  (case hsc =>
    obtain ⟨ol, hol, hcl, r⟩ := id hL9
    exact ⟨ol, hide129 h9 hol (fun q => by subst q; cases hcl), hcl, r⟩)
  rintro v s' ⟨L', m', tl, h', tk', gs', rfl, hgr, F, N, rfl, ps, hps, hmem⟩
  have k9 : ∀ b o, b ≠ 129 → s₁.heap.get? b = some o → h'.get? b = some o := fun b o hb e => F.keep b o (hideAll_get _ e fun hm => hb (List.mem_singleton.mp hm))
  refine ⟨.inl ⟨_, .bool true, [], rfl, fun _ => rfl, .bool true, ?post, fun _ => ⟨List.nodup_nil, nofun⟩⟩, ⟨fun b o e => ?old, fun b o e => ?there⟩, rfl, ?bare⟩
  (case post => exact postW_of rfl (w_eq_bool (w_res rfl) w_lit) rfl)
  (case old =>
    by_cases hb : b = 129
    · subst hb
      rw [h9] at e
      cases e
      exact .inr (.inl ⟨code129 X9, rfl, #[], ps, rfl, by simpa using (N _ hmem).1⟩)
    · exact .inl (k9 b o hb e))
  (case there =>
    by_cases hb : b = 129
    · subst hb
      exact ⟨_, (N _ hmem).1⟩
    · exact ⟨o, k9 b o hb e⟩)
  (case bare =>
    rw [hg] at hgr
    exact hgr (fun y hy => by simp at hy)))
end
end Mine
theorem PySem.Challenge.cw_xl0016_01_holds : PySem.Challenge.rw_xl0016_01.Holds := by
  exact Mine.whole
