import PyProof.Rows.All
import Wide.All
import OpenK.AllK
import Wide.FinOn
import Lean
import PySem.Challenge.RW_im0011_01
open PySem PySem.W PySem.Calls PyProof.Rows
set_option Elab.async false
set_option maxRecDepth 100000
set_option linter.all false
namespace Mine
/-- the program, its kept statements, its loose names -/
abbrev pp : Program := PySem.Challenge.rw_im0011_01.row.prog
def pvw : Program := view PySem.Challenge.rw_im0011_01.row.prog [0, 1, 3, 4, 5, 6, 7, 8, 9, 12, 13, 14, 15, 16]
abbrev lo0 : List PySem.Str := [Str.ofString "BIT_MASK", Str.ofString "SHIFT", Str.ofString "PythonPVector", Str.ofString "_EMPTY_PVECTOR", Str.ofString "python_pvector"]
abbrev lv0 : List (PySem.Str × WData) := [(Str.ofString "BIT_MASK", WData.int 31), (Str.ofString "SHIFT", WData.int 5)]

/-- a run of the top over the tree of objects -/
noncomputable def goT (st : SharedT → Thread → Option (SharedT × Thread)) (n₀ : Nat) (ann : Option Value) : Nat → SharedT → Thread → Option SharedT
  | 0, _, _ => none
  | n + 1, s, t => match through t with
    | true => some s
    | false => match stepOk n₀ ann t with
      | false => none
      | true => match st s t with
        | some (s', t') => goT st n₀ ann n s' t'
        | none => none
theorem goT_of {tb : String → Option Builtin} {p : Program} {w : World} {n₀ : Nat} {ann : Option Value} : ∀ {n : Nat} {s s' : SharedT} {t : Thread}, goT (stepT (denote tb) p w) n₀ ann n s t = some s' → topRun tb p w n₀ ann n s.abs t = some s'.abs := by
  intro n
  induction n with
  | zero => intro s s' t h; cases h
  | succ n ih =>
    intro s s' t h
    unfold goT at h
    unfold topRun
    cases ht : through t <;> simp only [ht] at h ⊢
    · cases hk : stepOk n₀ ann t <;> simp only [hk] at h ⊢
      · cases h
      · cases hs : stepT (denote tb) p w s t with
        | none => rw [hs] at h; cases h
        | some r => obtain ⟨s₂, t₂⟩ := r; rw [hs] at h; rw [stepT_spec hs]; exact ih h
    · cases h; rfl


/-- a state's objects laid as a tree -/
noncomputable def ofL : List Obj → Nat → BT → Option BT
  | [], _, t => some t
  | o :: l, n, t => match ((t.ins n o).get n).isSome with
    | true => ofL l (n + 1) (t.ins n o)
    | false => none
theorem ofL_of {life : Life} : ∀ (l : List Obj) (n : Nat) (t t' : BT), ofL l n t = some t' → absHeap t' (n + l.length) life = ⟨(absHeap t n life).objs ++ l.toArray, life⟩ := by
  intro l
  induction l with
  | nil => intro n t t' h; cases h; rw [List.length_nil, Nat.add_zero]; simp [absHeap]
  | cons o l ih =>
    intro n t t' h
    unfold ofL at h
    cases hs : ((t.ins n o).get n).isSome with
    | false => rw [hs] at h; cases h
    | true =>
      rw [hs] at h
      have e := ih _ _ _ h
      rw [absHeap_ins hs] at e
      rw [List.length_cons, show n + (l.length + 1) = n + 1 + l.length by omega, e]
      simp [Heap.push, absHeap]
noncomputable def toT (s : Shared) : Option SharedT := (ofL s.heap.objs.toList 0 .nil).map fun t => ⟨t, s.heap.objs.toList.length, s.heap.life, s.gens, s.drawn, s.toks, s.os⟩
theorem toT_of {s : Shared} {S : SharedT} (h : toT s = some S) : S.abs = s := by
  obtain ⟨⟨objs, life⟩, gens, drawn, toks, os⟩ := s
  obtain ⟨t, ht, rfl⟩ := Option.map_eq_some_iff.mp h
  have e := ofL_of (life := life) _ _ _ _ ht
  rw [Nat.zero_add] at e
  show (⟨absHeap t objs.toList.length life, gens, drawn, toks, os⟩ : Shared) = _
  rw [e]
  simp [absHeap, BT.list]

/-- the run of the top behind the opening, over a tree; a look at its end -/
noncomputable abbrev runP {α : Type} (p : Program) (w : World) (N : Nat) (f : Shared → SharedT → α) : Option α := (fencedOpening treeTable p w N).bind fun s₀ => (toT s₀).bind fun S => match s₀.heap.isNs mainGlobals && s₀.gens.size == 0 with
  | false => none
  | true => (goT (stepT (denote treeTable) p w) s₀.heap.objs.size (s₀.heap.nsMap mainGlobals "__annotations__") N S (topStub p)).map (f s₀)

/-- the head by looks apart: each runs the top for itself -/
theorem left_of {p q : Program} {loose : List PySem.Str} {Xt : Shared → Bool} {K : Params → Frag} {as : List Addr} {e : ∀ P, as = (K P).map (·.1)} {N : Nat}
    (h1 : ∀ w, runP p w N (fun s₀ s => (staticsOk (importedModules p.main.body) s₀.heap s.abs.heap && namesBound p s.abs.heap && gensDone s.abs && laidKept s₀.heap s.abs.heap, openSeen q loose (importedModules p.main.body) Xt true s.abs)) = some (true, openGood q loose))
    (h2 : ∀ w, runP p w N (fun _ s => ((K w.params).map (·.1)).map s.abs.heap.get?) = some ((K w.params).map fun p => some p.2)) :
    LeftO p q loose Xt (kHook K as e).obs (kHook K as e).val N := by
  intro w
  obtain ⟨s₀, e₀, g⟩ := Option.bind_eq_some_iff.mp (h1 w)
  obtain ⟨S, hS, g⟩ := Option.bind_eq_some_iff.mp g
  have k := h2 w
  unfold runP at k
  rw [e₀, Option.bind_some, hS, Option.bind_some] at k
  cases hz : (s₀.heap.isNs mainGlobals && s₀.gens.size == 0) with
  | false => rw [hz] at g; cases g
  | true =>
    rw [hz] at g k
    obtain ⟨s₁, r, l⟩ := Option.map_eq_some_iff.mp g
    obtain ⟨l1, l2⟩ := Prod.mk.inj l
    rw [r] at k
    have ly : as.map s₁.abs.heap.get? = (K w.params).map fun p => some p.2 := by
      rw [e w.params]
      exact Option.some.inj k
    have r' := goT_of r
    rw [toT_of hS] at r'
    have t : topFrom treeTable p w N s₀ = some s₁.abs := by
      unfold topFrom
      rw [hz, r']
      show (match _ && _ && _ && _ with | true => some s₁.abs | false => none) = _
      rw [l1]
    unfold openEnds
    rw [e₀]
    show (topFrom treeTable p w N s₀).map _ = _
    rw [t]
    exact congrArg some (Prod.ext l2 ly)

/-- the written part: laid by the library's k_head; the lemma itself says nothing -/
local macro_rules | `(tactic| o_head $H) => `(tactic| contradiction)
theorem kx (f : False) : OpenRow.Holds PySem.Challenge.rw_im0011_01.row := by k_head
noncomputable def asK : List Addr := (kx.heap_1 { strHash := fun _ => 0, shareClass := id, mergeTok := id, idOf := fun _ => 0, idOfShared := fun _ _ => 0, followText := fun _ => false, idOfImm := fun _ => 0 }).map (·.1)
theorem asK_eq : ∀ P, asK = (kx.heap_1 P).map (·.1) := by intro P; kernel_rfl
theorem lookA : ∀ w : World, runP pp w 4812 (fun s₀ s => (staticsOk (importedModules pp.main.body) s₀.heap s.abs.heap && namesBound pp s.abs.heap && gensDone s.abs && laidKept s₀.heap s.abs.heap, openSeen pvw lo0 (importedModules pp.main.body) (fun s => xlAt pvw lv0 s && recOk (RowW.records PySem.Challenge.rw_im0011_01.row.toRowW) s) true s.abs)) = some (true, openGood pvw lo0) := by
  intro w
  unfold runP fencedOpening
  rw [PySem.W.Fast.te10274390034422433532, PySem.W.Fast.te14289696077712309145, PySem.W.Fast.te10156331382660048174, PySem.W.Fast.te11892475500146522536, PySem.W.Fast.te14364793385576792824, PySem.W.Fast.te4187177175401517315, PySem.W.Fast.te5923862056798008813]
  kernel_rfl
theorem lookK : ∀ w : World, runP pp w 4812 (fun _ s => ((kx.heap_1 w.params).map (·.1)).map s.abs.heap.get?) = some ((kx.heap_1 w.params).map fun p => some p.2) := by
  intro w
  unfold runP fencedOpening
  rw [PySem.W.Fast.te10274390034422433532, PySem.W.Fast.te14289696077712309145, PySem.W.Fast.te10156331382660048174, PySem.W.Fast.te11892475500146522536, PySem.W.Fast.te14364793385576792824]
  kernel_rfl
theorem lookW : PySem.Challenge.rw_im0011_01.wellSaid = true := by
  rw [PySem.W.Fast.te9446332074065402090]
  kernel_rfl
local macro_rules | `(tactic| o_law) => `(tactic| (refine holds_law lookW fun said => ?_))
local macro_rules | `(tactic| o_head $H) => `(tactic| (
   refine holds_open (q := pvw) (loose := lo0) (Xt := fun s => xlAt pvw lv0 s && recOk (RowW.records PySem.Challenge.rw_im0011_01.row.toRowW) s) (XP := XL pvw lv0) (Yf := Hook.obs $H) (Ya := Hook.val $H) (YP := Hook.says $H) (N := 4812) ?hl (Hook.of $H) (Hook.keeps $H) (fun s e => xl_of s (Bool.and_eq_true_iff.mp e).1) XL.keeps (by rfl) (by rfl) (by rfl) (fun s e => recFacts_of (Bool.and_eq_true_iff.mp e).2) (by rfl) (by first | assumption | decide +kernel) (by decide +kernel) ⟨rfl, rfl, rfl, rfl, rfl, by decide +kernel⟩ ?hw ?hc
   case hl => exact left_of lookA lookK))
local macro_rules | `(tactic| k_head) => `(tactic| o_head (kHook kx.heap_1 asK asK_eq))
set_option maxHeartbeats 0 in
open_top hd for PySem.Challenge.rw_im0011_01
end Mine
namespace Mine
theorem topoff : True := by
  w_top off
  trivial
theorem rm {x y E R : Nat} (k D : Nat) (h : x + E < R) (e : y = x + k) (le : Nat.ble (k + D) E = true) : y + D < R := by
  have := Nat.le_of_ble_eq_true le; omega
theorem rm0 {x y E R : Nat} (k : Nat) (h : x + E < R) (e : y = x + k) (le : Nat.ble k E = true) : y < R := by
  have := Nat.le_of_ble_eq_true le; omega
local macro_rules | `(tactic| walk_at $s:str) => `(tactic| k_extra $s)
local macro_rules | `(tactic| k_inst) => `(tactic| walk_at "kinst")
local macro_rules | `(tactic| k_all) => `(tactic| walk_at "kall")
local macro_rules | `(tactic| omega) => `(tactic| lia)
noncomputable abbrev lo : List PySem.Str := looseW Mine.pvw [Str.ofString "BIT_MASK", Str.ofString "SHIFT", Str.ofString "PythonPVector", Str.ofString "_EMPTY_PVECTOR", Str.ofString "python_pvector"]

/-- what a caller (a def of the text) stands in -/
structure Cx (w : World) (D U : Nat) (A A₀ : Around) (env : Env) (outer : List Env) (base h₀ : Heap) (L : Addr) (m : PySem.Str → Option Value) (mean : ExcName → Option Value) (mg mb : PySem.Str → Option Value) (s : Shared) : Prop where
  B : Below A₀ base outer h₀
  F : Fr h₀ L s.heap m
  X : (Mine.kx.heap_1 w.params).In h₀
  T : Top Mine.pvw lo mean mg mb h₀
  fr : A.frames = some (env :: outer)
  hf : env.frame = some L
  hke : env.scope.kind = .function
  hh : A.handled = none
  hd : A.depth + D < recursionLimit
  hu : A.units + U < cLine

def Ext (h h' : Heap) : Prop := ∀ b o, h.get? b = some o → h'.get? b = some o
def NewIn (h h' : Heap) (tl : List (Addr × Obj)) : Prop := ∀ p ∈ tl, h'.get? p.1 = some p.2 ∧ h.get? p.1 = none

theorem Ext.refl (h : Heap) : Ext h h := fun _ _ e => e
theorem Ext.trans {h h' h'' : Heap} (a : Ext h h') (b : Ext h' h'') : Ext h h'' := fun x o e => b x o (a x o e)
theorem frExt {h₀ h h' : Heap} {L : Addr} {m : PySem.Str → Option Value} (F : Fr h₀ L h m) (x : Ext h h') : Fr h₀ L h' m :=
  ⟨F.ns.keeps x, fun b o e => x b o (F.keep b o e), F.above⟩
theorem frNone {h₀ h : Heap} {L : Addr} {m : PySem.Str → Option Value} (F : Fr h₀ L h m) {a : Addr} (e : h.get? a = none) : a ≠ L ∧ h₀.get? a = none := by
  refine ⟨fun q => ?_, ?_⟩
  · obtain ⟨oL, _, _, hL, _⟩ := F.ns
    rw [q, hL] at e; cases e
  · cases q : h₀.get? a with
    | none => rfl
    | some o => rw [F.keep a o q] at e; cases e
theorem newsExt {h₀ h h' : Heap} {L : Addr} {m : PySem.Str → Option Value} {news tl : List (Addr × Obj)} (F : Fr h₀ L h m) (N : News h₀ L h news) (x : Ext h h') (n : NewIn h h' tl) : News h₀ L h' (tl ++ news) := by
  intro p hp
  rcases List.mem_append.mp hp with hp | hp
  · obtain ⟨a, b⟩ := n p hp
    exact ⟨a, frNone F b⟩
  · exact ⟨x _ _ (N p hp).1, (N p hp).2⟩

section
variable {w : World} {A A₀ : Around} {env : Env} {outer : List Env} {base h₀ : Heap} {L : Addr} {m : PySem.Str → Option Value} {mean : ExcName → Option Value} {mg mb : PySem.Str → Option Value} {s : Shared} {news : List (Addr × Obj)} {prog : Program} {K : Frag}
  {R : Result → Shared → Prop} {name qual : PySem.Str} {params : Arguments} {body : List Stmt} {scope : Scope} {cl : List (PySem.Str × Addr)} {dV kV doc pm cdv ct oc : Value} {an od : Option Addr} {osl : Array (Option Value)} {f : Addr} {args : Args} {binds : List (PySem.Str × Value)}
  {p : Program} {loose : List PySem.Str}

/-- into a def: the base is the caller's heap less what may be changed -/
theorem enterX (B : Below A₀ base outer h₀) (F : Fr h₀ L s.heap m) (X : K.In h₀) (N : News h₀ L s.heap news) (T : Top p loose mean mg mb h₀) (hA : A.frames = some (env :: outer)) (hf : env.frame = some L) (hke : env.scope.kind = .function)
    (ho : K.lookup f = some ⟨oc, od, .func (fnX name qual params body scope cl dV kV doc pm an cdv ct), osl⟩) (hcd : codeIn K cdv qual = true) (hroom : A.depth < recursionLimit)
    (hbind : BindsTo s (fnX name qual params body scope cl dV kV doc pm an cdv ct) args binds) (hloc : ∀ y ∈ binds, scope.names.lookup y.1 = some .local)
    (h : ∀ g L' h₁, (∀ b o, s.heap.get? b = some o → b ∉ news.map Prod.fst → g.get? b = some o) → Ext g s.heap → Fr g L' h₁ (fun y => binds.reverse.lookup y) → News g L' h₁ news → Below A base (env :: outer) g → K.In g → Top p loose mean mg mb g →
      wpAny (model prog w) (A.deeper (envX qual scope L' f cdv cl)) (execs body (envX qual scope L' f cdv cl))
        (fun fl s' => R (.ok (.ret (match fl with | .ret v => v | _ => .none))) s')
        (fun e s' => wpAny (model prog w) (A.deeper (envX qual scope L' f cdv cl)) (leaving (envX qual scope L' f cdv cl) e) (fun _ s'' => R (.error e) s'') (fun e' s'' => R (.error e') s'') s')
        { s with heap := h₁, toks := s.toks + binds.length })
    (hco : scope.isCoroutine = false) (hgen : scope.isGenerator = false) (hk : scope.kind = .function) (hcell : ∀ x ∈ scope.names, x.2 ≠ .cell) :
    codeAny (model prog w) A (.call (.ref f) args) R s := by
  obtain ⟨FG, BG, st, _⟩ := groundX (R := R) B F N hA hf hke
  refine codeAny_call_def (fd := fnX name qual params body scope cl dV kV doc pm an cdv ct) (body := body) (binds := binds) hroom ((X.keeps F.keep) _ _ ho) rfl (T.nolimit.keeps F.keep) (codeRec_of (X.keeps F.keep) hcd) rfl hbind hcell hloc (fun h₁ hns hk₁ => ?_) hco hgen hk
  exact h (hideAll s.heap (news.map Prod.fst)) s.heap.objs.size h₁ (fun b o e n => hideAll_get _ e n) (fun b o e => of_hideAll _ e) ⟨hns, fun b o e => hk₁ b o (of_hideAll _ e), Nat.le_of_eq (hideAll_size _ _)⟩
    (fun p hp => ⟨hk₁ _ _ (N p hp).1, Nat.ne_of_lt (Heap.lt_size (N p hp).1), hideAll_none _ (List.mem_map_of_mem hp)⟩) BG (X.keeps st) (T.keeps st)
end

abbrev vecObj (dx : Addr) (c : Int) (t1 : Tok) (sh : Int) (t2 : Tok) (rt tl : Addr) (off : Int) (t3 : Tok) : Obj :=
  { cls := .ref 296, dict := some dx, data := .plain, slots := #[some (.int c t1), some (.ref rt), some (.int sh t2), some (.ref tl), some (.int off t3)] }

theorem InstAt.of_base {h₀ h : Heap} {L x C dx : Addr} {m : PySem.Str → Option Value} {od : Obj} {sl : Array (Option Value)} (F : Fr h₀ L h m) (h1 : h₀.get? x = some ⟨.ref C, some dx, .plain, sl⟩) (h2 : h₀.get? dx = some od) :
    InstAt h x ⟨.ref C, some dx, .plain, sl⟩ C (some od) := ⟨F.keep _ _ h1, rfl, rfl, F.keep _ _ h2⟩

section
variable {prog : Program} {w : World} {A : Around} {E : Value → Shared → Prop} {s : Shared} {K : Frag} {C x : Addr} {R : Result → Shared → Prop} {h : Heap} {g : Array GenState} {d : Drawn} {t : Nat} {os : OsState}

def nobodyMakes (K : Frag) (C : Addr) : Bool := match K.lookup C with
  | some ⟨_, _, .cls cd, sl⟩ => (sl.toList[4]?).join == some .none && !cd.mro.isEmpty
  | _ => false
theorem nobody {M : Model} {h : Heap} (X : K.In h) (e : nobodyMakes K C = true) : Looks M h (Bind.madeBy (.ref C)) none := by
  unfold nobodyMakes at e
  split at e
  · rename_i oc od cd sl ho
    simp only [Bool.and_eq_true, Bool.not_eq_true', beq_iff_eq] at e
    obtain ⟨e3, e4⟩ := e
    have hc : clsIn K C = some cd := by unfold clsIn; rw [ho]
    have hm : Looks M h (mroOf (.ref C)) cd.mro := (looks_clsIn X hc).andThen .now
    obtain ⟨c, l, hl⟩ : ∃ c l, cd.mro = c :: l := by cases q : cd.mro with | nil => rw [q] at e4; cases e4 | cons c l => exact ⟨c, l, rfl⟩
    intro A Q E s k q
    unfold Bind.madeBy
    refine wpAny_bind (hm A _ E s k ?_)
    rw [hl, List.forIn_cons]
    refine wpAny_bind (wpAny_bind (wpAny_bind (wpAny_bind (wpAny_loadPart (k _ _ (X _ _ ho)) (wpAny_pure ?_)))))
    dsimp only
    rw [← Array.getElem?_toList, e3]
    exact wpAny_pure (wpAny_pure (wpAny_pure q))
  · cases e

def OwnBack (K : Frag) (C : Addr) (R : Result → Shared → Prop) (v : Value) (s' : Shared) : Prop := ∃ x o, v = .ref x ∧ s'.heap.get? x = some o ∧ o.cls = .ref C ∧ K.In s'.heap ∧ R (.ok (.ret (.ref x))) s'

theorem make_own {f : Addr} {oc a1 a2 a3 a4 : Value} {od : Option Addr} {cd : ClassData} {sl : Array (Option Value)} (X : K.In h) (hC : K.lookup C = some ⟨oc, od, .cls cd, sl⟩) (hmro : cd.mro.isEmpty = false)
    (hcall : specialIn K (.ref C) "__call__" = some (some (.builtin "type.__call__"))) (htyp : instIn K (.ref C) (.type "type") = some true) (hno : nobodyMakes K C = true)
    (hsub : subIn K (.ref C) (.ref C) = some true) (hobj : subIn K (.ref C) (.type "object") = some true) (hini : findIn K (.ref C) "__init__" = some (some (.builtin "object.__init__")))
    (hnew : ∀ {Q : Value → Shared → Prop} {E : Value → Shared → Prop}, (∀ tk, Q (.ref f) ⟨h, g, d, tk, os⟩) → wpAny (model prog w) (A.under (.builtin "type.__call__" ⟨.ref C :: [a1, a2, a3, a4], []⟩)) (getAttr (.ref C) "__new__") Q E ⟨h, g, d, t, os⟩)
    (hq : ∀ tk, wpAny (model prog w) (A.under (.builtin "type.__call__" ⟨.ref C :: [a1, a2, a3, a4], []⟩)) (call (.ref f) (.ref C :: [a1, a2, a3, a4])) (OwnBack K C R) (fun e s' => R (.error e) s') ⟨h, g, d, tk, os⟩) :
    codeAny (model prog w) A (.call (.ref C) ⟨[a1, a2, a3, a4], []⟩) R ⟨h, g, d, t, os⟩ := by
  have hC' := X _ _ hC
  refine codeAny_of_tree ?_
  show wpAny _ _ (callAny (.ref C) _) _ _ _
  refine nd_load hC' ?_
  show wpAny _ _ (callAny.viaDunder (.ref C) _) _ _ _
  unfold callAny.viaDunder
  refine wpAny_bind ((looks_specialIn X hcall).at ?_)
  dsimp only
  rw [tc_bind]
  refine wpAny_bind (wpAny_pure (wpAny_bind (wpAny_pure ?_)))
  refine wpAny_pure (a := Fin.again (.call (.builtin "type.__call__") ⟨.ref C :: [a1, a2, a3, a4], []⟩)) (And.intro rfl ?_)
  refine codeAny_call_builtin_at (Code.quiet_builtin _ (by decide +kernel)) entry_typeCall (check_slot tc_kind tc_split (looks_instIn X htyp) (tc_args _ _ _) ?_)
  unfold Builtin.«type.__call__»
  have hm : Looks (model prog w) h (mroOf (.ref C)) cd.mro := ((Looks.ld (part := none) hC').andThen .now).andThen .now
  have hn := nobody (M := model prog w) X hno
  repeat (first | simp only [hmro, Bool.false_eq_true, if_false] | with_reducible refine hnew ?_ | with_reducible refine wpAny_call ?_ | lk)
  intro tk
  refine wpAny_bind (wpAny_holding (wpAny_mono (hq tk) (fun v s' z => ?_) fun _ _ z => z))
  obtain ⟨x, o, rfl, hx, hc, X', z⟩ := z
  obtain ⟨h', g', d', t', os'⟩ := s'
  dsimp only at hx X'
  have t1 : Looks (model prog w) h' (typeOf (.ref x)) (.ref C) := (Looks.ld hx).andThen (by rw [hc]; exact .now)
  have t2 : Looks (model prog w) h' (isInstance (.ref x) (.ref C)) true := t1.andThen (looks_subIn X' hsub)
  have t3 : Looks (model prog w) h' (isInstance (.ref x) (.type "object")) true := t1.andThen (looks_subIn X' hobj)
  have li := looks_findIn (M := model prog w) X' hini
  have hn' := nobody (M := model prog w) X' hno
  unfold callSpecial? specialOf
  repeat (first | with_reducible refine wpAny_call ?_ | lk)
  refine codeAny_call_builtin oi_plain entry_oi (@check_slot (model prog w) _ _ _ "object.__init__" "object" "__init__" (.ref x) [a1, a2, a3, a4] [] _ oi_kind oi_split t3 (by unfold argsOk; kernel_rfl) ?_)
  unfold Builtin.«object.__init__»
  repeat lk
  exact z
end

section
variable {prog : Program} {w : World} {A : Around} {E : Value → Shared → Prop} {s : Shared} {K : Frag} {C x : Addr} {R : Result → Shared → Prop} {h : Heap} {g : Array GenState} {d : Drawn} {t : Nat} {os : OsState}

/-- super(C, C) -/
theorem super_cc {oD : Obj} {cdD : ClassData} {Q : Value → Shared → Prop}
    (hD : h.get? C = some oD) (hDt : oD.data = .cls cdD) (hsub : Looks (model prog w) h (isSubtype (.ref C) (.ref C)) true)
    (hq : ∀ h', h'.get? h.objs.size = some { cls := .type "super", dict := none, data := .fields #[.ref C, .ref C, .ref C], slots := #[] } → (∀ y o, h.get? y = some o → h'.get? y = some o) → Q (.ref h.objs.size) ⟨h', g, d, t, os⟩) :
    wpAny (model prog w) A (call (.type "super") [.ref C, .ref C]) Q E ⟨h, g, d, t, os⟩ := by
  refine ks_callType_codesW (Q₁ := fun obj s₁ => obj = .ref h.objs.size ∧ s₁ = ⟨h.push { cls := .type "super", data := .fields #[.none, .none, .none] }, g, d, t, os⟩) F.ks_called_super (ks_wpAny_checkTypeCall_super hD hDt) F.ks_entry_super_init
    (ks_code_super_new _ _ ⟨rfl, rfl⟩) fun obj s₁ h₁ => ?_
  obtain ⟨rfl, rfl⟩ := h₁
  have up : ∀ y o, h.get? y = some o → (h.push { cls := .type "super", data := .fields #[.none, .none, .none] }).get? y = some o := fun y o e => Heap.get?_push_of_some _ e
  have hso : (h.push { cls := .type "super", data := .fields #[.none, .none, .none] }).get? h.objs.size = some { cls := .type "super", dict := none, data := .fields #[.none, .none, .none], slots := #[] } := Heap.get?_push_at rfl rfl
  have hD' := up _ _ hD
  have hsub' := hsub.keeps up
  refine ⟨⟨_, hso, rfl⟩, F.ks_initArgs_super _ _ _, ?_⟩
  unfold Builtin.«super.__init__» noKeywords
  repeat (first | (with_reducible refine ks_wpAny_isType_cls hD' hDt ?_) | (with_reducible refine Looks.at hsub' ?_) | (with_reducible refine ks_wpAny_super_set3 hso ?_) | wp_step)
  all_goals first
    | (intro h' e k; exact ⟨rfl, hq h' e fun y o ey => k y o (Nat.ne_of_lt (Heap.lt_size ey)) (up y o ey)⟩)
    | (refine ks_wpAny_super_set3 hso ?_; intro h' e k; exact ⟨rfl, hq h' e fun y o ey => k y o (Nat.ne_of_lt (Heap.lt_size ey)) (up y o ey)⟩)

theorem super_ga {so : Addr} {l₀ l : List Value} {name : PySem.Str} {b : String} {tb : String} {tk : Tok} {Q : Fin → Shared → Prop}
    (hso : h.get? so = some { cls := .type "super", dict := none, data := .fields #[.ref C, .ref C, .ref C], slots := #[] }) (hno : Looks (model prog w) h (opaqueClassAbove (.ref C)) none)
    (hC : Looks (model prog w) h (mroOf (.ref C)) l₀) (hl : (l₀.dropWhile (· != .ref C)).drop 1 = l) (X : K.In h)
    (hf : alongIn K name l = some (some (.builtin b))) (htb : typeOf (.builtin b) = pure (.type tb)) (hlk : typeLookup (.type tb) "__get__" = pure none) (hn : (name == ("__class__" : PySem.Str)) = false)
    (hq : Q (.done (.ret (.builtin b))) ⟨h, g, d, t, os⟩) (hho : handedOut (.builtin b) = pure (.builtin b)) :
    wpAny (model prog w) A (Builtin.«super.__getattribute__» ⟨[.ref so, .str name tk], []⟩) Q E ⟨h, g, d, t, os⟩ := by
  have hdt : ({ cls := .type "super", dict := none, data := .fields #[.ref C, .ref C, .ref C], slots := #[] } : Obj).data = .fields #[.ref C, .ref C, .ref C] := rfl
  have f0 : (#[.ref C, .ref C, .ref C] : Array Value)[0]? = some (.ref C) := rfl
  have f1 : (#[.ref C, .ref C, .ref C] : Array Value)[1]? = some (.ref C) := rfl
  have f2 : (#[.ref C, .ref C, .ref C] : Array Value)[2]? = some (.ref C) := rfl
  unfold Builtin.«super.__getattribute__»
  repeat (first
    | (with_reducible refine wpAny_field hso hdt f0 ?_) | (with_reducible refine wpAny_field hso hdt f1 ?_) | (with_reducible refine wpAny_field hso hdt f2 ?_)
    | (with_reducible refine ks_wpAny_notOpaque hno ?_)
    | (with_reducible refine Looks.at hC ?_; rw [hl])
    | (refine ks_forIn_along X (fun _ _ => rfl) rfl ?_ hf)
    | (with_reducible refine wpAny_of_eq htb ?_)
    | (with_reducible refine wpAny_of_eq hlk ?_)
    | (with_reducible refine wpAny_of_eq hho ?_)
    | (simp only [hn, Bool.or_false, Bool.false_eq_true, if_false])
    | wp_step
    | dsimp only)
  all_goals exact hq

theorem getMethod_super {so : Addr} {l₀ l : List Value} {name : PySem.Str} {b tb : String} {pl : Sem Bool} {Q : Value × List Value → Shared → Prop}
    (hso : h.get? so = some { cls := .type "super", dict := none, data := .fields #[.ref C, .ref C, .ref C], slots := #[] }) (hno : Looks (model prog w) h (opaqueClassAbove (.ref C)) none)
    (hC : Looks (model prog w) h (mroOf (.ref C)) l₀) (hl : (l₀.dropWhile (· != .ref C)).drop 1 = l) (X : K.In h)
    (hf : alongIn K name l = some (some (.builtin b))) (htb : typeOf (.builtin b) = pure (.type tb)) (hlk1 : typeLookup (.type tb) "__get__" = pure none) (hn : (name == ("__class__" : PySem.Str)) = false) (hho : handedOut (.builtin b) = pure (.builtin b))
    (hq : Q (.builtin b, []) ⟨h, g, d, t + 1, os⟩) :
    wpAny (model prog w) A (getMethod (.ref so) name pl) Q E ⟨h, g, d, t, os⟩ := by
  have hlk := F.ks_slot_super_ga.lookup
  have hcan := F.ks_canon_super_ga
  have hT : ∀ t', (⟨h, g, d, t', os⟩ : Shared).TypeIs (.ref so) "super" := fun _ => ⟨_, hso, rfl⟩
  unfold getMethod
  refine wpAny_bind (wpAny_specialOf (hT _) hlk ?_)
  show wpAny _ _ (if (Manifest.canonical "super.__getattribute__" != "object.__getattribute__") = true then _ else _) _ _ _
  rw [if_pos hcan]
  unfold getAttr getAttrBy
  refine wpAny_bind (wpAny_bind (wpAny_mkText (wpAny_holding (wpAny_bind (wpAny_typeOf (hT _) (wpAny_bind (wpAny_of_eq hlk ?_)))))))
  show wpAny _ _ (getAttrByItsOwn (.ref so) (.str name t) (.type "super") (.builtin "super.__getattribute__") true false) _ _ _
  unfold getAttrByItsOwn hookBefore callGetattribute boundAndCalled
  refine wpAny_bind (wpAny_of_eq (show (if onTheHeap (.type "super") then typeLookup (.type "super") "__getattr__" else pure none) = pure none from rfl) ?_)
  refine wpAny_bind (wpAny_attempt (wpAny_holding ?_))
  show wpAny _ _ (bindSpecial (.builtin "super.__getattribute__") (.ref so) >>= _) _ _ _
  refine wpAny_bind (wpAny_of_eq (F.ks_slot_super_ga.bind _) ?_)
  refine wpAny_mono (Q := fun v s' => v = .builtin b ∧ s' = ⟨h, g, d, t + 1, os⟩) (E := fun _ _ => False)
    (wpAny_call_entry F.ks_slot_super_ga (hT _) F.ks_entry_super_ga (super_ga hso hno hC hl X hf htb hlk1 hn ⟨_, rfl, rfl, rfl⟩ hho) (F.ks_gaArgs_super _ _)) (fun v s' hv => ?_) fun _ _ z => z.elim
  obtain ⟨rfl, rfl⟩ := hv
  exact wpAny_of_eq hho (wpAny_pure hq)

theorem on_type : typeOf (.builtin "object.__new__") = pure (.type "builtin_function_or_method") := by show builtinType _ = _; rw [builtinType_eq_fast]; kernel_rfl
theorem bf_get : typeLookup (.type "builtin_function_or_method") "__get__" = pure none := by rw [typeLookup_type, builtinLookup_eq_fast]; kernel_rfl
theorem on_out : handedOut (.builtin "object.__new__") = pure (.builtin "object.__new__") := handedOut_of (by decide +kernel)

def plainNew (K : Frag) (C : Addr) : Bool := match K.lookup C with
  | some ⟨_, _, .cls cd, _⟩ => !cd.abstract && !cd.hasDel && cd.bases == [.type "object"] && !cd.mro.isEmpty && (match cd.mro with | _ :: _ :: _ => true | _ => false)
  | _ => false
end

section
variable {prog : Program} {w : World} {A : Around} {E : Value → Shared → Prop} {s : Shared} {K : Frag} {C x : Addr} {R : Result → Shared → Prop} {h : Heap} {g : Array GenState} {d : Drawn} {t : Nat} {os : OsState}
theorem mro_object : mroOf (.type "object") = pure [.type "object"] := by rw [mroOf_type]; kernel_rfl
theorem lookup_object_new : typeLookup (.type "object") "__new__" = pure (some (.builtin "object.__new__")) := by rw [typeLookup_type, builtinLookup_eq_fast]; kernel_rfl
theorem made_object : Bind.madeBy (.type "object") = pure (some "object.__new__") := madeBy_type mro_object lookup_object_new (by decide +kernel)
theorem best_object : Builtin.Slots.bestBase [.type "object"] = pure (.type "object") := by kernel_rfl

theorem new_inst (X : K.In h) (hno : nobodyMakes K C = true) (hp : plainNew K C = true) (hobj : subIn K (.ref C) (.type "object") = some true) (htyp : instIn K (.ref C) (.type "type") = some true)
    (hq : R (.ok (.ret (.ref (h.objs.size + 1)))) ⟨(h.push emptyDict).push (instObj C h.objs.size), g, d, t, os⟩) :
    codeAny (model prog w) A (.call (.builtin "object.__new__") ⟨[.ref C], []⟩) R ⟨h, g, d, t, os⟩ := by
  unfold plainNew at hp
  split at hp
  · rename_i oc od cd sl ho
    simp only [Bool.and_eq_true, Bool.not_eq_true', beq_iff_eq] at hp
    obtain ⟨⟨⟨⟨e1, e2⟩, e3⟩, e4⟩, e5⟩ := hp
    have hc : clsIn K C = some cd := by unfold clsIn; rw [ho]
    have hm : Looks (model prog w) h (mroOf (.ref C)) cd.mro := (looks_clsIn X hc).andThen .now
    obtain ⟨c, c', l, hl⟩ : ∃ c c' l, cd.mro = c :: c' :: l := by
      cases q : cd.mro with
      | nil => rw [q] at e4; cases e4
      | cons c l => cases l with
        | nil => rw [q] at e5; cases e5
        | cons c' l => exact ⟨c, c', l, rfl⟩
    have hn := nobody (M := model prog w) X hno
    have hC := X _ _ ho
    have F := PySem.F.objNew
    have base : Looks (model prog w) h (Bind.staticBase (.ref C)) (.type "object") := by
      intro A Q E s k q
      unfold Bind.staticBase
      obtain ⟨h', g', d', t', os'⟩ := s
      dsimp only at k
      have hm' := hm.keeps k
      have hn' := hn.keeps k
      have hc' := (looks_clsIn (M := model prog w) X hc).keeps k
      refine wpAny_bind (hm'.at ?_)
      rw [hl, List.forIn_cons]
      repeat (first | rw [List.forIn_cons] | with_reducible refine wpAny_of_eq best_object ?_ | with_reducible refine wpAny_of_eq made_object ?_ | simp only [e3] | lk)
      exact q
    have hO : Looks (model prog w) h (Bind.madeBy (.type "object")) (some "object.__new__") := Looks.of_pure made_object
    have here : Looks (model prog w) h (Bind.madeHere "object.__new__" (.ref C)) () := base.andThen (hO.andThen (Looks.of_pure (by simp only [Option.map_some, bne_self_eq_false, Bool.false_eq_true, if_false])))
    have args : Bind.checkArgs "object.__new__" ⟨.hand, "object.__new__", "__new__", .cls, []⟩ ⟨[.ref C], []⟩ = pure () := by kernel_rfl
    have top := looks_subIn (M := model prog w) X hobj
    have typ := looks_instIn (M := model prog w) X htyp
    refine codeAny_call_builtin_code (Code.quiet_builtin _ F.quiet) ?_
    simp only [checkBuiltinCall, F.kind, F.split, F.row]
    rw [args]
    repeat (first | simp only [bne_self_eq_false, Bool.false_eq_true, if_false] | lk)
    refine codeAny_builtin F.entry ?_
    unfold Builtin.«object.__new__»
    have hC' := Heap.get?_push_of_some (instObj C (h.push emptyDict).objs.size.pred) (Heap.get?_push_of_some emptyDict hC)
    have fin : ∀ A', wpAny (model prog w) A' (do
        let d ← if typeHasDict (.ref C) then some <$> alloc { cls := .type "dict", data := .dict #[] } else pure none
        ret (← newObj (.ref C) .plain d)) (fun fin s' => match fin with | .done f => R (.ok f) s' | .again c' => c'.quiet = true ∧ codeAny (model prog w) A c' R s') (fun e s' => R (.error e) s') ⟨h, g, d, t, os⟩ := by
      intro A'
      show wpAny _ _ ((alloc emptyDict >>= fun x => pure (some x)) >>= _) _ _ _
      refine wpAny_bind (wpAny_bind (wpAny_alloc (wpAny_pure (wpAny_bind ?_))))
      show wpAny _ _ (newObjAsIs _ _ _) _ _ _
      unfold newObjAsIs classHasDel
      refine wpAny_bind (wpAny_alloc (wpAny_bind (wpAny_bind (wpAny_load (Heap.get?_push_of_some _ (Heap.get?_push_of_some _ hC)) (wpAny_pure ?_)))))
      rw [e2]
      refine wpAny_pure (wpAny_pure ?_)
      show R _ _
      rw [Heap.size_push]
      exact hq
    repeat (first | simp only [e1, Bool.false_eq_true, if_false] | exact fin _ | lk)
  · cases hp
end

section
variable {prog : Program} {w : World} {A : Around} {E : Value → Shared → Prop} {s : Shared} {K : Frag} {C x : Addr} {h₀ : Heap} {L : Addr} {m : PySem.Str → Option Value} {news : List (Addr × Obj)}
theorem super_N {cd : ClassData} {Q : Value → Shared → Prop} (F : Fr h₀ L s.heap m) (X₀ : K.In h₀) (N : News h₀ L s.heap news) (hc : clsIn K C = some cd) (hsub : subIn K (.ref C) (.ref C) = some true)
    (h : ∀ so h', Fr h₀ L h' m → News h₀ L h' ((so, ks_superObj C C C) :: news) → (∀ p ∈ news, p.1 < so) → Q (.ref so) { s with heap := h' }) :
    wpAny (model prog w) A (call (.type "super") [.ref C, .ref C]) Q E s := by
  have X : K.In s.heap := X₀.keeps F.keep
  obtain ⟨hh, g, d, t, os⟩ := s
  obtain ⟨oD, hD1, hD2⟩ : ∃ oD, hh.get? C = some oD ∧ oD.data = .cls cd := by
    unfold clsIn at hc
    split at hc
    · rename_i c d cd' sl ho
      cases hc
      exact ⟨_, X _ _ ho, rfl⟩
    · cases hc
  refine super_cc hD1 hD2 (looks_subIn X hsub) (fun h' e k => ?_)
  obtain ⟨F', N', l'⟩ := ks_newsPush (s := ⟨hh, g, d, t, os⟩) F N rfl e k
  exact h _ _ F' N' l'
theorem superMeth_N {so : Addr} {name : PySem.Str} {pl : Sem Bool} {Q : Value × List Value → Shared → Prop} (F : Fr h₀ L s.heap m) (X₀ : K.In h₀) (N : News h₀ L s.heap news) (hso : (so, ks_superObj C C C) ∈ news) (ho : nsIn K cStatics "thirdparty.any" = some none)
    (hm : ks_superIn K C C name = some (some (.builtin "object.__new__"))) (hn : (name == ("__class__" : PySem.Str)) = false)
    (h : Q (.builtin "object.__new__", []) { s with toks := s.toks + 1 }) : wpAny (model prog w) A (getMethod (.ref so) name pl) Q E s := by
  have X : K.In s.heap := X₀.keeps F.keep
  obtain ⟨hh, g, d, t, os⟩ := s
  cases hc : clsIn K C with
  | none => unfold ks_superIn at hm; rw [hc] at hm; cases hm
  | some cd =>
    unfold ks_superIn at hm
    rw [hc] at hm
    refine getMethod_super (N _ hso).1 (looks_opaque X ho) (l₀ := cd.mro) ?_ rfl X hm on_type bf_get hn on_out h
    exact fun A Q E s k q => wpAny_bind ((looks_clsIn X hc) A _ E s k (wpAny_pure q))
theorem newInst_N {Q : Value → Shared → Prop} (F : Fr h₀ L s.heap m) (X₀ : K.In h₀) (N : News h₀ L s.heap news) (hno : nobodyMakes K C = true) (hp : plainNew K C = true) (hobj : subIn K (.ref C) (.type "object") = some true) (htyp : instIn K (.ref C) (.type "type") = some true)
    (h : ∀ x dx h', Fr h₀ L h' m → News h₀ L h' ((x, instObj C dx) :: (dx, dictOf [] 0) :: news) → (∀ p ∈ news, p.1 < dx) → dx < x → Q (.ref x) { s with heap := h' }) :
    wpAny (model prog w) A (call (.builtin "object.__new__") [.ref C]) Q E s := by
  have X : K.In s.heap := X₀.keeps F.keep
  obtain ⟨hh, g, d, t, os⟩ := s
  refine wpAny_call (new_inst X hno hp hobj htyp ?_)
  have := (N.push F emptyDict).push (F.push _) (instObj C hh.objs.size)
  rw [Heap.size_push] at this
  exact h _ hh.objs.size _ ((F.push _).push _) this (fun p hp => Heap.lt_size (N p hp).1) (Nat.lt_succ_self _)
end
theorem no296 (w : World) : nobodyMakes (Mine.kx.heap_1 w.params) 296 = true := by kernel_rfl
theorem pn296 (w : World) : plainNew (Mine.kx.heap_1 w.params) 296 = true := by kernel_rfl
theorem ob296 (w : World) : subIn (Mine.kx.heap_1 w.params) (.ref 296) (.type "object") = some true := by kernel_rfl
theorem se296 (w : World) : subIn (Mine.kx.heap_1 w.params) (.ref 296) (.ref 296) = some true := by kernel_rfl
theorem ty296 (w : World) : instIn (Mine.kx.heap_1 w.params) (.ref 296) (.type "type") = some true := by kernel_rfl
theorem ca296 (w : World) : specialIn (Mine.kx.heap_1 w.params) (.ref 296) "__call__" = some (some (.builtin "type.__call__")) := by kernel_rfl
theorem in296 (w : World) : findIn (Mine.kx.heap_1 w.params) (.ref 296) "__init__" = some (some (.builtin "object.__init__")) := by kernel_rfl
theorem su296 (w : World) : ks_superIn (Mine.kx.heap_1 w.params) 296 296 "__new__" = some (some (.builtin "object.__new__")) := by kernel_rfl
theorem tp (w : World) : nsIn (Mine.kx.heap_1 w.params) cStatics "thirdparty.any" = some none := by kernel_rfl

theorem ug0 {h g : Heap} (U : ∀ b o, h.get? b = some o → b ∉ List.map Prod.fst ([] : List (Addr × Obj)) → g.get? b = some o) : Ext h g := fun b o e => U b o e (by simp)
theorem newInOf {hp g h' : Heap} {L : Addr} {news : List (Addr × Obj)} (U : Ext hp g) (N : News g L h' news) : NewIn hp h' news := fun p hm => ⟨(N p hm).1, by
  cases q : hp.get? p.1 with
  | none => rfl
  | some o => have := U _ _ q; rw [(N p hm).2.2] at this; cases this⟩
theorem extOf {hp g h' : Heap} {L : Addr} {m : PySem.Str → Option Value} (U : Ext hp g) (F : Fr g L h' m) : Ext hp h' := fun b o e => F.keep b o (U b o e)
theorem listExt {h h' : Heap} {l : Addr} {its : Array Value} (x : Ext h h') (i : h.IsList l its) : h'.IsList l its := let ⟨o, a, b⟩ := i; ⟨o, x _ _ a, b⟩
theorem newTwo {h h' : Heap} {a b : Addr × Obj} {r : List (Addr × Obj)} (N : NewIn h h' (a :: b :: r)) : NewIn h h' [a, b] := fun p hp => N p (by
  rcases List.mem_cons.mp hp with rfl | hp
  · exact .head _
  · rw [List.mem_singleton.mp hp]; exact .tail _ (.head _))

theorem w04_1 : True := by (k_with "kinst" => (refine' InstAt.of_base ?zzF ?zzh1 ?zzh2; (case zzF => k_asm); (case zzh1 => k_asm); (case zzh2 => k_asm))); trivial
theorem w04_2 : True := by (k_with "mcx" => exact ⟨by k_asm, by k_asm, by k_asm, by k_asm, rfl, by first | rfl | assumption, by first | rfl | assumption, rfl, by walk_at "room", by walk_at "unitz"⟩); trivial
theorem w04_3 : True := by (k_with "room" => first | exact rm 1 _ (by assumption) rfl (by exact rfl) | exact rm 0 _ (by assumption) rfl (by exact rfl) | exact rm 2 _ (by assumption) rfl (by exact rfl) | exact rm0 0 (by assumption) rfl (by exact rfl) | exact rm0 1 (by assumption) rfl (by exact rfl) | ((try simp only [depth_under_make, depth_under_kw, depth_in1, depth_deeper, depth_caller]); (try dsimp only [Around.deeper, Around.in1, Around.under]); omega)); trivial
theorem w04_4 : True := by (k_with "unitz" => first | exact rm 3 _ (by assumption) rfl (by exact rfl) | exact rm 4 _ (by assumption) rfl (by exact rfl) | exact rm 0 _ (by assumption) rfl (by exact rfl) | exact rm 1 _ (by assumption) rfl (by exact rfl) | exact rm 6 _ (by assumption) rfl (by exact rfl) | exact rm 7 _ (by assumption) rfl (by exact rfl) | ((try simp only [units_in1, units_deeper, Around.mark_units, units_caller]); (try dsimp only [Around.deeper, Around.in1, Around.under]); omega)); trivial
theorem w04_5 : True := by (k_with "menter" => (refine' enterX ?zzk1 ?zzk2 ?zzk3 ?zzk4 ?zzk5 ?zzkA ?zzkF ?zzkK ?zzk6 ?zzk7 ?zzk8 ?zzk9 ?zzkB ?_ ?zzc2 ?zzc3 ?zzc4 ?zzc5; (case zzkA => exact rfl); (case zzkF => first | exact rfl | assumption); (case zzkK => first | exact rfl | assumption); (case zzk1 => k_asm); (case zzk2 => k_asm); (case zzk3 => k_asm); (case zzk4 => first | exact News.nil | k_asm); (case zzk5 => k_asm); (case zzk6 => k_is); (case zzk7 => k_is); (case zzk8 => walk_at "room"); (case zzk9 => first | exact BindsTo.of_eq rfl | exact binds_K (by k_in) rfl (by k_is) rfl rfl rfl); (case zzc5 => decide); (case zzkB => exact locs rfl); (case zzc2 => exact rfl); (case zzc3 => exact rfl); (case zzc4 => exact rfl); k_whole; intro _ _ _ _ _ _ _ _ _ _; (try dsimp only); (try k_fold))); trivial

local macro_rules | `(tactic| walk_at "in0") => `(tactic| (intro so' h' F' N' l1; (try k_lt l1); (try k_sweep)))
theorem o05_1 : True := by (k_with "call type:super" => (k_here; k_dflt (refine' super_N ?zzk1 ?zzk2 ?zzk3 ?zzk4 (se296 _) ?_; (case zzk1 => k_asm); (case zzk2 => k_asm); (case zzk3 => k_asm); (case zzk4 => k_is); k_whole); walk_at "in0")); trivial
theorem o05_2 : True := by (k_with "getMethod ref" => (k_here; k_dflt (refine' superMeth_N ?zzk1 ?zzk2 ?zzk3 ?zzk4 (tp _) (su296 _) rfl ?_; (case zzk1 => k_asm); (case zzk2 => k_asm); (case zzk3 => k_asm); (case zzk4 => k_mem); k_whole))); trivial
local macro_rules | `(tactic| walk_at "in1") => `(tactic| (intro x' d' h' F' N' l1 l2; (try k_lt l1); (try k_lt2 l2); (try k_sweep)))
theorem o05_3 : True := by (k_with "call builtin:object.__new__" => (k_here; k_dflt (refine' newInst_N ?zzk1 ?zzk2 ?zzk3 (no296 _) (pn296 _) (ob296 _) (ty296 _) ?_; (case zzk1 => k_asm); (case zzk2 => k_asm); (case zzk3 => k_asm); k_whole); walk_at "in1")); trivial
theorem boot_super : bootBuiltins "super" = some (.type "super") := by first | boot_by_name | kernel_rfl
theorem o05_4 : True := by (k_with "eval Name" => (k_here; k_dflt (refine' nameX_B ?zzk1 ?zzk2 ?zzk3 ?zzk4 boot_super ?zzk5 ?_; (case zzk1 => k_asm); (case zzk2 => k_asm); (case zzk3 => k_asm); (case zzk4 => k_is); (case zzk5 => decide); k_whole))); trivial
theorem len_list {prog : Program} {w : World} {A : Around} {E : Value → Shared → Prop} {s : Shared} {Q : Value → Shared → Prop} {l : Addr} {vs : List Value} (hl : s.heap.IsList l vs.toArray) (hfit : vs.length < 2 ^ 62)
    (h : Q (.int (vs.length : Nat) (s.toks + 1)) { s with toks := s.toks + 1 + 1 }) : wpAny (model prog w) A (call (.builtin "len") [.ref l]) Q E s := by
  have e : vs.toArray.size = vs.length := by simp
  refine Calls.call_len_list hl (by omega) ?_
  rw [e]
  exact h
theorem o05_5 : True := by (k_with "call builtin:len" => (k_here; (with_reducible show wpAny _ _ (call (Value.builtin _) [Value.ref _]) _ _ _); (with_unfolding_all refine' len_list ?zzk1 ?zzk2 ?_; (case zzk1 => is_list); (case zzk2 => omega); k_whole))); trivial

set_option maxHeartbeats 4000000 in
theorem new_c {w : World} {A A₀ : Around} {env : Env} {outer : List Env} {base h₀ : Heap} {L : Addr} {m : PySem.Str → Option Value} {mean : ExcName → Option Value} {mg mb : PySem.Str → Option Value} {s : Shared} {Q E : Value → Shared → Prop}
    (C : Cx w 10 40 A A₀ env outer base h₀ L m mean mg mb s) {c sh : Int} {t1 t2 : Tok} {rt tl : Addr} {its : List Value} (ht : s.heap.IsList tl its.toArray) (hsz : its.length ≤ 1000000)
    (hret : ∀ x tls h' tk dx t3, Ext s.heap h' → NewIn s.heap h' tls → tls = [(x, vecObj dx c t1 sh t2 rt tl (c - its.length) t3), (dx, dictOf [] 0)] → Q (.ref x) { s with heap := h', toks := tk }) :
    wpAny (model PySem.Challenge.rw_im0011_01.row.prog w) A (call (.ref 296) [.int c t1, .int sh t2, .ref rt, .ref tl]) Q E s := by
  have : (PySem.Challenge.rw_im0011_01, Mine.kx.heap_1) = (PySem.Challenge.rw_im0011_01, Mine.kx.heap_1) := by k_fill; rfl
  obtain ⟨B, F, X, T, fr, hf, hke, hh, hd, hu⟩ := C
  obtain ⟨hdl, dp, frs, gd, un⟩ := A
  dsimp only at fr hh hd hu
  subst hh fr
  obtain ⟨hp, g, d, t, os⟩ := s
  dsimp only at F ht hret
  have X' := X.keeps F.keep
  refine wpAny_call ?_
  refine make_own (f := 71) (C := 296) X' (by k_is) (by rfl) (ca296 w) (ty296 w) (no296 w) (se296 w) (ob296 w) (in296 w) ?_ ?_
  · intro Q E hq
    refine cls_sm (s := ⟨hp, g, d, t, os⟩) (p := 297) F X (by k_is) (by k_is) (by k_is) (by k_is) (by rfl) ?_
    exact hq _
  · intro tk
    refine wpAny_call ?_
    k_dflt walk_at "menter"
    rename_i g' L' h1 Ug Eg F' N' B' X'' T'
    replace Ug := ug0 Ug
    have ht' := listExt Ug ht
    k_steps
    rename_i F9 N9
    show OwnBack _ _ _ _ _
    refine ⟨_, _, rfl, (N9 _ (.head _)).1, rfl, X''.keeps F9.keep, ?_⟩
    show Q _ _
    exact hret _ [_, _] _ _ _ _ (extOf Ug F9) (newTwo (newInOf Ug N9)) rfl

theorem reset06 : True := by
  k_with_none
  (k_with "kinst" => (refine' InstAt.of_base ?zzF ?zzh1 ?zzh2; (case zzF => k_asm); (case zzh1 => k_asm); (case zzh2 => k_asm)))
  (k_with "mcx" => exact ⟨by k_asm, by k_asm, by k_asm, by k_asm, rfl, by first | rfl | assumption, by first | rfl | assumption, rfl, by walk_at "room", by walk_at "unitz"⟩)
  (k_with "room" => first | exact rm 1 _ (by assumption) rfl (by exact rfl) | exact rm 0 _ (by assumption) rfl (by exact rfl) | exact rm 2 _ (by assumption) rfl (by exact rfl) | exact rm0 0 (by assumption) rfl (by exact rfl) | exact rm0 1 (by assumption) rfl (by exact rfl) | ((try simp only [depth_under_make, depth_under_kw, depth_in1, depth_deeper, depth_caller]); (try dsimp only [Around.deeper, Around.in1, Around.under]); omega))
  (k_with "unitz" => first | exact rm 3 _ (by assumption) rfl (by exact rfl) | exact rm 4 _ (by assumption) rfl (by exact rfl) | exact rm 0 _ (by assumption) rfl (by exact rfl) | exact rm 1 _ (by assumption) rfl (by exact rfl) | exact rm 6 _ (by assumption) rfl (by exact rfl) | exact rm 7 _ (by assumption) rfl (by exact rfl) | ((try simp only [units_in1, units_deeper, Around.mark_units, units_caller]); (try dsimp only [Around.deeper, Around.in1, Around.under]); omega))
  (k_with "menter" => (refine' enterX ?zzk1 ?zzk2 ?zzk3 ?zzk4 ?zzk5 ?zzkA ?zzkF ?zzkK ?zzk6 ?zzk7 ?zzk8 ?zzk9 ?zzkB ?_ ?zzc2 ?zzc3 ?zzc4 ?zzc5; (case zzkA => exact rfl); (case zzkF => first | exact rfl | assumption); (case zzkK => first | exact rfl | assumption); (case zzk1 => k_asm); (case zzk2 => k_asm); (case zzk3 => k_asm); (case zzk4 => first | exact News.nil | k_asm); (case zzk5 => k_asm); (case zzk6 => k_is); (case zzk7 => k_is); (case zzk8 => walk_at "room"); (case zzk9 => first | exact BindsTo.of_eq rfl | exact binds_K (by k_in) rfl (by k_is) rfl rfl rfl); (case zzc5 => decide); (case zzkB => exact locs rfl); (case zzc2 => exact rfl); (case zzc3 => exact rfl); (case zzc4 => exact rfl); k_whole; intro _ _ _ _ _ _ _ _ _ _; (try dsimp only); (try k_fold)))
  trivial
section
variable {prog : Program} {w : World} {A : Around} {E : Value → Shared → Prop} {s : Shared} {h₀ : Heap} {L D l : Addr} {m : PySem.Str → Option Value} {news news' : List (Addr × Obj)} {vs : List Value} {n j : Nat} {k : Int} {t u : Tok} {x v : Value}
theorem item_list {value slice : PySem.Expr} {Q : Value → Shared → Prop} (hl : s.heap.IsList l vs.toArray) (hx : vs[j]? = some x) (hj : k = (j : Int)) (hhi : k < 2 ^ 63) (h : Q x s)
    (hs : subscripted slice false (.ref l) (.int k u) = operate [.ref l, .int k u] (getItem (.ref l) (.int k u)) := by with_unfolding_all rfl) :
    wpAny (model prog w) A (subscriptTail value slice (.ref l) (.int k u)) Q E s :=
  tail_any hl.typeIs slot_list_getitem.lookup (wpAny_getItem_list hl (by omega) hhi (by subst hj; simpa using hx) h) hs
theorem set_list {Q : Unit → Shared → Prop} (F : Fr h₀ L s.heap m) (N : News h₀ L s.heap news) (h0 : 0 ≤ k) (h1 : k < vs.length) (hfit : k < 2 ^ 63) (U : Upd D (listOf vs.toArray n) (listOf (vs.set k.toNat v).toArray n) news news')
    (h : ∀ h', Fr h₀ L h' m → News h₀ L h' news' → Q () { s with heap := h' }) : wpAny (model prog w) A (setItem (.ref D) (.int k t) v) Q E s := by
  obtain ⟨pre, post, rfl, rfl, a, b⟩ := U.split
  have z := N (D, listOf vs.toArray n) (List.mem_append.mpr (.inr (.head _)))
  refine ki_setAt z.1 h0 hfit (by rw [List.size_toArray]; omega) (h _ (F.change (Heap.SameBut.update ..) z.2.1 z.2.2) (ki_turn _ N a b ?_ ?_))
  · show vs.toArray.setIfInBounds k.toNat v = (vs.set k.toNat v).toArray
    apply Array.toList_inj.mp
    simp
  · simp
theorem app_list {Q : Value → Shared → Prop} (F : Fr h₀ L s.heap m) (N : News h₀ L s.heap news) (hsz : vs.length ≤ 1000000) (U : Upd D (listOf vs.toArray n) (listOf (vs ++ [x]).toArray (n + 1)) news news')
    (h : ∀ h', Fr h₀ L h' m → News h₀ L h' news' → Q .none { s with heap := h' }) : wpAny (model prog w) A (call (.builtin "list.append") [.ref D, x]) Q E s := by
  refine append_K F N (its := vs.toArray) (n := n) (news' := news') ?_ h (by rw [List.size_toArray, PySem.sizeLine_eq]; omega)
  rw [List.push_toArray]
  exact U
theorem copy_list' {Q : Value → Shared → Prop} (F : Fr h₀ L s.heap m) (N : News h₀ L s.heap news) (hl : s.heap.IsList l vs.toArray) (hsz : vs.length ≤ 1000000)
    (h : ∀ D c h', Fr h₀ L h' m → News h₀ L h' ((D, listOf vs.toArray c) :: news) → (∀ q ∈ news, q.1 < D) → Q (.ref D) { s with heap := h' }) : wpAny (model prog w) A (call (.type "list") [.ref l]) Q E s :=
  list_copyK F N hl h (by rw [List.size_toArray, PySem.sizeLine_eq]; omega)
theorem truthy_list' {Q : Bool → Shared → Prop} (hl : s.heap.IsList l vs.toArray) (hsz : vs.length ≤ 1000000) (h : Q (decide (0 < vs.length)) { s with toks := s.toks + 1 + 1 }) : wpAny (model prog w) A (truthy (.ref l)) Q E s :=
  wpAny_truthy_list hl (by simp only [List.size_toArray]; omega) (by
    have e : (!vs.toArray.isEmpty) = decide (0 < vs.length) := by cases vs <;> simp
    rw [e]; exact h)
theorem and31 {a : Int} {Q : Value → Shared → Prop} (h0 : 0 ≤ a) (h : ∀ tk, Q (.int (a % 32) tk) { s with toks := s.toks + 1 }) : wpAny (model prog w) A (binaryOp .BitAnd (.int a t) (.int 31 u)) Q E s := by
  refine and_int ?_
  have e : Builtin.bitAnd a 31 = a % 32 := by
    rw [bitAnd_pp h0 (by decide)]
    have := Nat.and_two_pow_sub_one_eq_mod a.toNat 5
    have e2 : (31 : Int).toNat = 2 ^ 5 - 1 := by decide
    rw [e2, this]
    omega
  rw [e]; exact h _
theorem shr5 {a : Int} {Q : Value → Shared → Prop} (h : ∀ tk, Q (.int (a / 32) tk) { s with toks := s.toks + 1 }) : wpAny (model prog w) A (binaryOp .RShift (.int a t) (.int 5 u)) Q E s := by
  refine rshift_int (by decide) ?_
  have e : a.fdiv (2 ^ (5 : Int).toNat) = a / 32 := by rw [Int.fdiv_eq_ediv_of_nonneg a (by decide)]; rfl
  rw [e]; exact h _
theorem shr10 {a : Int} {Q : Value → Shared → Prop} (h : ∀ tk, Q (.int (a / 1024) tk) { s with toks := s.toks + 1 }) : wpAny (model prog w) A (binaryOp .RShift (.int a t) (.int 10 u)) Q E s := by
  refine rshift_int (by decide) ?_
  have e : a.fdiv (2 ^ (10 : Int).toNat) = a / 1024 := by rw [Int.fdiv_eq_ediv_of_nonneg a (by decide)]; rfl
  rw [e]; exact h _
end

theorem w06_1 : True := by (k_with "call builtin:len" => (k_here; (with_reducible show wpAny _ _ (call (Value.builtin _) [Value.ref _]) _ _ _); (with_unfolding_all refine' len_list ?zzk1 ?zzk2 ?_; (case zzk1 => is_list); (case zzk2 => omega); k_whole))); trivial
theorem w06_2 : True := by (k_with "subscriptTail" => (k_here; (with_reducible show wpAny _ _ (subscriptTail _ _ (Value.ref _) (Value.int _ _)) _ _ _); (with_unfolding_all refine' item_list ?zzk1 ?zzk2 ?zzk3 ?zzk4 ?_ ?zzk6; (case zzk1 => is_list); (case zzk2 => first | assumption | exact rfl); (case zzk3 => omega); (case zzk4 => omega); (case zzk6 => with_unfolding_all rfl); k_whole))); trivial
theorem w06_3 : True := by (k_with "setItem ref int" => (k_here; (with_reducible show wpAny _ _ (setItem (Value.ref _) (Value.int _ _) _) _ _ _); k_dflt (refine' set_list ?zzk1 ?zzk2 ?zzk3 ?zzk4 ?zzk5 ?zzk6 ?_; (case zzk1 => k_asm); (case zzk2 => k_asm); (case zzk6 => k_upd); (case zzk3 => omega); (case zzk4 => omega); (case zzk5 => omega); k_whole); intro _ _ _; (try k_sweep))); trivial
theorem w06_4 : True := by (k_with "call builtin:list.append" => (k_here; (with_reducible show wpAny _ _ (call (Value.builtin _) [Value.ref _, _]) _ _ _); k_dflt (refine' app_list ?zzk1 ?zzk2 ?zzk3 ?zzk4 ?_; (case zzk1 => k_asm); (case zzk2 => k_asm); (case zzk4 => k_upd); (case zzk3 => omega); k_whole); intro _ _ _; (try k_sweep))); trivial
local macro_rules | `(tactic| walk_at "in2") => `(tactic| (intro D' c' h' F' N' l1; (try k_lt l1); (try k_sweep)))
theorem w06_5 : True := by (k_with "call type:list" => (k_here; (with_reducible show wpAny _ _ (call (Value.type _) [Value.ref _]) _ _ _); (with_unfolding_all refine' copy_list' ?zzk1 ?zzk2 ?zzk3 ?zzk4 ?_; (case zzk1 => k_asm); (case zzk2 => k_asm); (case zzk3 => is_list); (case zzk4 => omega); k_whole); walk_at "in2")); trivial
theorem w06_6 : True := by (k_with "truthy ref" => (k_here; (with_reducible show wpAny _ _ (truthy (Value.ref _)) _ _ _); (with_unfolding_all refine' truthy_list' ?zzk1 ?zzk2 ?_; (case zzk1 => is_list); (case zzk2 => omega); k_whole))); trivial
theorem w06_7 : True := by (k_with "binaryOp BitAnd int int" => (k_here; (with_reducible refine and31 ?zzk1 ?_; (case zzk1 => omega)); intro _)); trivial
theorem w06_8 : True := by (k_with "binaryOp RShift int int" => (k_here; first | with_reducible refine shr5 ?_ | with_reducible refine shr10 ?_; intro _)); trivial

def AllNe (d : Addr) : List (Addr × Obj) → Prop
  | [] => True
  | p :: r => @Ne Nat p.1 d ∧ AllNe d r
theorem allNe_of {h : Heap} {d : Addr} (e : h.get? d = none) : ∀ {l : List (Addr × Obj)}, (∀ p ∈ l, h.get? p.1 = some p.2) → AllNe d l
  | [], _ => trivial
  | p :: r, k => ⟨fun q => (by have := k p (.head _); have q' : p.1 = d := q; rw [q', e] at this; cases this), allNe_of e fun p hp => k p (.tail _ hp)⟩
theorem news_get {h₀ h : Heap} {L : Addr} {news : List (Addr × Obj)} (N : News h₀ L h news) : ∀ p ∈ news, h.get? p.1 = some p.2 := fun p hp => (N p hp).1

set_option maxHeartbeats 4000000 in
theorem newpath0 {w : World} {A A₀ : Around} {env : Env} {outer : List Env} {base h₀ : Heap} {L : Addr} {m : PySem.Str → Option Value} {mean : ExcName → Option Value} {mg mb : PySem.Str → Option Value} {s : Shared} {Q E : Value → Shared → Prop}
    (C : Cx w 10 40 A A₀ env outer base h₀ L m mean mg mb s) {x v : Value} {t : Tok}
    (hret : ∀ h' tk, Ext s.heap h' → Q v { s with heap := h', toks := tk }) :
    wpAny (model PySem.Challenge.rw_im0011_01.row.prog w) A (call (.ref 228) [x, .int 0 t, v]) Q E s := by
  have : (PySem.Challenge.rw_im0011_01, Mine.kx.heap_1) = (PySem.Challenge.rw_im0011_01, Mine.kx.heap_1) := by k_fill; rfl
  obtain ⟨B, F, X, T, fr, hf, hke, hh, hd, hu⟩ := C
  obtain ⟨hdl, dp, frs, gd, un⟩ := A
  dsimp only at fr hh hd hu
  subst hh fr
  refine wpAny_call ?_
  k_dflt walk_at "menter"
  rename_i g' L' h1 Ug Eg F' N' B' X'' T'
  replace Ug := ug0 Ug
  k_steps
  show Q _ _
  exact hret _ _ (extOf Ug (by assumption))

theorem w07_1 : True := by (k_with "call ref" => (k_here; (with_reducible show wpAny _ _ (call (Value.ref 296) _) _ _ _); k_dflt (refine' new_c ?zzkC ?zzkt ?zzkz ?_; (case zzkC => walk_at "mcx"); (case zzkt => is_list); (case zzkz => first | omega | (simp only [List.length_cons, List.length_nil]; omega)); intro zzx zztls zzh zztk zzdx zzt3 zzext zznew zze; subst zze; (have zzl1 := allNe_of (zznew _ (.head _)).2 (news_get (by k_asm))); (have zzl2 := allNe_of (zznew _ (.tail _ (.head _))).2 (news_get (by k_asm))); (have zzF := frExt (by k_asm) zzext); (have zzN := newsExt (by k_asm) (by k_asm) zzext zznew); (simp only [List.cons_append, List.nil_append] at zzN); (simp only [AllNe, and_true] at zzl1 zzl2); clear zzext zznew; revert zzx zzh zztk zzdx zzt3 zzl1 zzl2 zzF zzN; intro _ _ _ _ _ _ _ _ _; (try k_sweep)))); trivial
theorem w07_2 : True := by (k_with "call ref" => (k_here; (with_reducible show wpAny _ _ (call (Value.ref 228) _) _ _ _); k_dflt (refine' newpath0 ?zzkC ?_; (case zzkC => walk_at "mcx"); intro zzh zztk zzext; (have zzF := frExt (by k_asm) zzext); (have zzN := newsExt (by k_asm) (by k_asm) zzext (tl := []) (fun _ hp => nomatch hp)); (simp only [List.nil_append] at zzN); clear zzext; revert zzh zztk zzF zzN; intro _ _ _ _; (try k_sweep)))); trivial

set_option maxHeartbeats 4000000 in
theorem newpath5 {w : World} {A A₀ : Around} {env : Env} {outer : List Env} {base h₀ : Heap} {L : Addr} {m : PySem.Str → Option Value} {mean : ExcName → Option Value} {mg mb : PySem.Str → Option Value} {s : Shared} {Q E : Value → Shared → Prop}
    (C : Cx w 20 80 A A₀ env outer base h₀ L m mean mg mb s) {x dx rt tl : Addr} {c sh off : Int} {t1 t2 t3 : Tok} {v : Value} {t : Tok} (hx : s.heap.get? x = some (vecObj dx c t1 sh t2 rt tl off t3)) (hdx : s.heap.get? dx = some (dictOf [] 0))
    (hret : ∀ r h' tk n, Ext s.heap h' → NewIn s.heap h' [(r, listOf [v].toArray n)] → Q (.ref r) { s with heap := h', toks := tk }) :
    wpAny (model PySem.Challenge.rw_im0011_01.row.prog w) A (call (.ref 228) [.ref x, .int 5 t, v]) Q E s := by
  have : (PySem.Challenge.rw_im0011_01, Mine.kx.heap_1) = (PySem.Challenge.rw_im0011_01, Mine.kx.heap_1) := by k_fill; rfl
  obtain ⟨B, F, X, T, fr, hf, hke, hh, hd, hu⟩ := C
  obtain ⟨hdl, dp, frs, gd, un⟩ := A
  dsimp only at fr hh hd hu
  subst hh fr
  refine wpAny_call ?_
  k_dflt walk_at "menter"
  rename_i g' L' h1 Ug Eg F' N' B' X'' T'
  replace Ug := ug0 Ug
  replace hx := Ug _ _ hx
  replace hdx := Ug _ _ hdx
  k_steps
  show Q _ _
  exact hret _ _ _ _ (extOf Ug (by assumption)) (newInOf Ug (by assumption))

set_option maxHeartbeats 4000000 in
theorem push5 {w : World} {A A₀ : Around} {env : Env} {outer : List Env} {base h₀ : Heap} {L : Addr} {m : PySem.Str → Option Value} {mean : ExcName → Option Value} {mg mb : PySem.Str → Option Value} {s : Shared} {Q E : Value → Shared → Prop}
    (C : Cx w 20 80 A A₀ env outer base h₀ L m mean mg mb s) {x tn : Value} {pr : Addr} {ls : List Value} {t : Tok} (hp : s.heap.IsList pr ls.toArray) (hsz : ls.length ≤ 1000)
    (hret : ∀ r h' tk n, Ext s.heap h' → NewIn s.heap h' [(r, listOf (ls ++ [tn]).toArray n)] → Q (.ref r) { s with heap := h', toks := tk }) :
    wpAny (model PySem.Challenge.rw_im0011_01.row.prog w) A (call (.ref 263) [x, .int 5 t, .ref pr, tn]) Q E s := by
  have : (PySem.Challenge.rw_im0011_01, Mine.kx.heap_1) = (PySem.Challenge.rw_im0011_01, Mine.kx.heap_1) := by k_fill; rfl
  obtain ⟨B, F, X, T, fr, hf, hke, hh, hd, hu⟩ := C
  obtain ⟨hdl, dp, frs, gd, un⟩ := A
  dsimp only at fr hh hd hu
  subst hh fr
  refine wpAny_call ?_
  k_dflt walk_at "menter"
  rename_i g' L' h1 Ug Eg F' N' B' X'' T'
  replace Ug := ug0 Ug
  replace hp := listExt Ug hp
  k_steps
  show Q _ _
  exact hret _ _ _ _ (extOf Ug (by assumption)) (newInOf Ug (by assumption))

theorem w08_1 : True := by (k_with "aft1" => (intro zzr zzh zztk zzn zzext zznew; (have zzl1 := allNe_of (zznew _ (.head _)).2 (news_get (by k_asm))); (have zzF := frExt (by k_asm) zzext); (have zzN := newsExt (by k_asm) (by k_asm) zzext zznew); (simp only [List.cons_append, List.nil_append] at zzN); (simp only [AllNe, and_true] at zzl1); clear zzext zznew; revert zzr zzh zztk zzn zzl1 zzF zzN; intro _ _ _ _ _ _ _; (try k_sweep))); trivial
theorem w08_2 : True := by (k_with "call ref" => (k_here; (with_reducible show wpAny _ _ (call (Value.ref 228) _) _ _ _); k_dflt (refine' newpath5 ?zzkC ?zzkx ?zzkd ?_; (case zzkC => walk_at "mcx"); (case zzkx => walk_at "hx"); (case zzkd => walk_at "hx"); walk_at "aft1"))); trivial
theorem w08_3 : True := by (k_with "hx" => first | assumption | exact Fr.keep (by k_asm) _ _ (by assumption) | exact News.get (by k_asm) (by k_mem)); trivial
theorem w08_4 : True := by (k_with "call ref" => (k_here; (with_reducible show wpAny _ _ (call (Value.ref 263) _) _ _ _); k_dflt (refine' push5 ?zzkC ?zzkp ?zzkz ?_; (case zzkC => walk_at "mcx"); (case zzkp => is_list); (case zzkz => omega); walk_at "aft1"))); trivial
theorem w08_5 : True := by (k_with "aft2" => (intro zzr zzr2 zzh zztk zzn zzn2 zzext zznew; (have zzl1 := allNe_of (zznew _ (.head _)).2 (news_get (by k_asm))); (have zzl2 := allNe_of (zznew _ (.tail _ (.head _))).2 (news_get (by k_asm))); (have zzF := frExt (by k_asm) zzext); (have zzN := newsExt (by k_asm) (by k_asm) zzext zznew); (simp only [List.cons_append, List.nil_append] at zzN); (simp only [AllNe, and_true] at zzl1 zzl2); clear zzext zznew; revert zzr zzr2 zzh zztk zzn zzn2 zzl1 zzl2 zzF zzN; intro _ _ _ _ _ _ _ _ _ _; (try k_sweep))); trivial

theorem newSwap {h h' : Heap} {a b : Addr × Obj} (N : NewIn h h' [a, b]) : NewIn h h' [b, a] := fun p hp => N p (by
  rcases List.mem_cons.mp hp with rfl | hp
  · exact .tail _ (.head _)
  · rw [List.mem_singleton.mp hp]; exact .head _)
set_option maxHeartbeats 4000000 in
theorem push10a {w : World} {A A₀ : Around} {env : Env} {outer : List Env} {base h₀ : Heap} {L : Addr} {m : PySem.Str → Option Value} {mean : ExcName → Option Value} {mg mb : PySem.Str → Option Value} {s : Shared} {Q E : Value → Shared → Prop}
    (C : Cx w 40 160 A A₀ env outer base h₀ L m mean mg mb s) {x dx rt tl : Addr} {c sh off : Int} {t1 t2 t3 : Tok} (hx : s.heap.get? x = some (vecObj dx c t1 sh t2 rt tl off t3)) (hdx : s.heap.get? dx = some (dictOf [] 0)) {tn : Value} {pr b : Addr} {ch sub : List Value} {t : Tok} {k j : Nat} (hc : c = 32 * ((k : Int) + 1)) (hk : k < 1000) (hj : j = k / 32)
    (hp : s.heap.IsList pr ch.toArray) (hlen : ch.length = j + 1) (hb : ch[j]? = some (.ref b)) (hs : s.heap.IsList b sub.toArray) (hsz : sub.length ≤ 32)
    (hret : ∀ r r2 h' tk n n2, Ext s.heap h' → NewIn s.heap h' [(r, listOf (ch.set j (Value.ref r2)).toArray n), (r2, listOf (sub ++ [tn]).toArray n2)] → Q (.ref r) { s with heap := h', toks := tk }) :
    wpAny (model PySem.Challenge.rw_im0011_01.row.prog w) A (call (.ref 263) [.ref x, .int 10 t, .ref pr, tn]) Q E s := by
  have : (PySem.Challenge.rw_im0011_01, Mine.kx.heap_1) = (PySem.Challenge.rw_im0011_01, Mine.kx.heap_1) := by k_fill; rfl
  obtain ⟨B, F, X, T, fr, hf, hke, hh, hd, hu⟩ := C
  obtain ⟨hdl, dp, frs, gd, un⟩ := A
  dsimp only at fr hh hd hu
  subst hh fr
  refine wpAny_call ?_
  k_dflt walk_at "menter"
  rename_i g' L' h1 Ug Eg F' N' B' X'' T'
  replace Ug := ug0 Ug
  replace hp := listExt Ug hp
  replace hs := listExt Ug hs
  replace hx := Ug _ _ hx
  replace hdx := Ug _ _ hdx
  k_steps
  rename_i F9 N9
  show Q _ _
  have e : ((c - 1) / 1024 % 32).toNat = j := by omega
  rw [e] at N9
  exact hret _ _ _ _ _ _ (extOf Ug F9) (newSwap (newInOf Ug N9))

set_option maxHeartbeats 4000000 in
theorem push10b {w : World} {A A₀ : Around} {env : Env} {outer : List Env} {base h₀ : Heap} {L : Addr} {m : PySem.Str → Option Value} {mean : ExcName → Option Value} {mg mb : PySem.Str → Option Value} {s : Shared} {Q E : Value → Shared → Prop}
    (C : Cx w 40 160 A A₀ env outer base h₀ L m mean mg mb s) {x dx rt tl : Addr} {c sh off : Int} {t1 t2 t3 : Tok} (hx : s.heap.get? x = some (vecObj dx c t1 sh t2 rt tl off t3)) (hdx : s.heap.get? dx = some (dictOf [] 0)) {tn : Value} {pr : Addr} {ch : List Value} {t : Tok} {k : Nat} (hc : c = 32 * ((k : Int) + 1)) (hk : k < 1000)
    (hp : s.heap.IsList pr ch.toArray) (hlen : ch.length = k / 32)
    (hret : ∀ r r2 h' tk n n2, Ext s.heap h' → NewIn s.heap h' [(r, listOf (ch ++ [Value.ref r2]).toArray n), (r2, listOf [tn].toArray n2)] → Q (.ref r) { s with heap := h', toks := tk }) :
    wpAny (model PySem.Challenge.rw_im0011_01.row.prog w) A (call (.ref 263) [.ref x, .int 10 t, .ref pr, tn]) Q E s := by
  have : (PySem.Challenge.rw_im0011_01, Mine.kx.heap_1) = (PySem.Challenge.rw_im0011_01, Mine.kx.heap_1) := by k_fill; rfl
  obtain ⟨B, F, X, T, fr, hf, hke, hh, hd, hu⟩ := C
  obtain ⟨hdl, dp, frs, gd, un⟩ := A
  dsimp only at fr hh hd hu
  subst hh fr
  refine wpAny_call ?_
  k_dflt walk_at "menter"
  rename_i g' L' h1 Ug Eg F' N' B' X'' T'
  replace Ug := ug0 Ug
  replace hp := listExt Ug hp
  replace hx := Ug _ _ hx
  replace hdx := Ug _ _ hdx
  k_steps
  rename_i F9 N9
  show Q _ _
  exact hret _ _ _ _ _ _ (extOf Ug F9) (newSwap (newInOf Ug N9))

abbrev Kn := Addr → Obj → Prop
def LAt (P : Kn) (a : Addr) (its : List Value) : Prop := ∃ n, P a (listOf its.toArray n)
def Orr (P : Kn) (tls : List (Addr × Obj)) : Kn := fun a o => P a o ∨ (a, o) ∈ tls
def Sub (P Q : Kn) : Prop := ∀ a o, P a o → Q a o
theorem Sub.orr (P : Kn) (tls : List (Addr × Obj)) : Sub P (Orr P tls) := fun _ _ h => .inl h
theorem Orr.cons (P : Kn) (q : Addr × Obj) (tls : List (Addr × Obj)) : Sub (Orr P tls) (Orr P (q :: tls)) := fun _ _ h => h.imp id fun h => .tail _ h
theorem LAt.mono {P Q : Kn} (k : Sub P Q) {a : Addr} {its : List Value} (h : LAt P a its) : LAt Q a its := let ⟨n, x⟩ := h; ⟨n, k _ _ x⟩
theorem LAt.of {P : Kn} {tls : List (Addr × Obj)} {a : Addr} {its : List Value} {n : Nat} (h : (a, listOf its.toArray n) ∈ tls) : LAt (Orr P tls) a its := ⟨n, .inr h⟩
theorem LAt.is {P : Kn} {h : Heap} (hP : ∀ a o, P a o → h.get? a = some o) {a : Addr} {its : List Value} (x : LAt P a its) : h.IsList a its.toArray := let ⟨n, x⟩ := x; ⟨_, hP _ _ x, rfl, n, rfl⟩
/-- the leaves below a node: 32 to a node -/
def part (ls : List Value) (j : Nat) : List Value := (ls.drop (32 * j)).take 32
def Nodes (P : Kn) (ch ls : List Value) : Prop := ch.length = (ls.length + 31) / 32 ∧ ∀ j, j < ch.length → ∃ b, ch[j]? = some (.ref b) ∧ LAt P b (part ls j)
def Tree (P : Kn) (sh : Int) (rt : Addr) (ls : List Value) : Prop :=
  (sh = 5 ∧ ls.length ≤ 32 ∧ LAt P rt ls) ∨ (sh = 10 ∧ ∃ ch, LAt P rt ch ∧ Nodes P ch ls)
theorem Nodes.mono {P Q : Kn} (k : Sub P Q) {ch ls : List Value} (h : Nodes P ch ls) : Nodes Q ch ls :=
  ⟨h.1, fun j hj => let ⟨b, e, x⟩ := h.2 j hj; ⟨b, e, x.mono k⟩⟩
theorem Tree.mono {P Q : Kn} (k : Sub P Q) {sh : Int} {rt : Addr} {ls : List Value} (h : Tree P sh rt ls) : Tree Q sh rt ls := by
  rcases h with ⟨a, b, c⟩ | ⟨a, ch, b, c⟩
  · exact .inl ⟨a, b, c.mono k⟩
  · exact .inr ⟨a, ch, b.mono k, c.mono k⟩
theorem part_app {ls : List Value} {x : Value} {j : Nat} (h : 32 * j + 32 ≤ ls.length) : part (ls ++ [x]) j = part ls j := by
  unfold part
  rw [List.drop_append_of_le_length (by omega), List.take_append_of_le_length (by rw [List.length_drop]; omega)]
theorem part_last {ls : List Value} {x : Value} {j : Nat} (h0 : 32 * j ≤ ls.length) (h : ls.length < 32 * j + 32) : part (ls ++ [x]) j = part ls j ++ [x] := by
  unfold part
  rw [List.drop_append_of_le_length h0, List.take_of_length_le (by rw [List.length_append, List.length_drop, List.length_singleton]; omega), List.take_of_length_le (by rw [List.length_drop]; omega)]
theorem part_none {ls : List Value} {j : Nat} (h : ls.length ≤ 32 * j) : part ls j = [] := by
  unfold part; rw [List.drop_eq_nil_of_le h]; rfl
theorem part_len (ls : List Value) (j : Nat) : (part ls j).length ≤ 32 := by unfold part; rw [List.length_take]; omega
theorem nodes_a {P : Kn} {tls : List (Addr × Obj)} {ch ls : List Value} {tn : Value} {r2 : Addr} {n2 : Nat} (h : Nodes P ch ls) (hm : ls.length % 32 ≠ 0) (h2 : (r2, listOf (part ls (ls.length / 32) ++ [tn]).toArray n2) ∈ tls) :
    Nodes (Orr P tls) (ch.set (ls.length / 32) (.ref r2)) (ls ++ [tn]) := by
  have hl := h.1
  refine ⟨by rw [List.length_set, List.length_append, List.length_singleton]; omega, fun j hj => ?_⟩
  rw [List.length_set] at hj
  by_cases e : j = ls.length / 32
  · refine ⟨r2, ?_, ?_⟩
    · rw [e, List.getElem?_set_self (by omega)]
    · rw [e, part_last (by omega) (by omega)]; exact LAt.of h2
  · obtain ⟨b, a1, a2⟩ := h.2 j hj
    refine ⟨b, ?_, ?_⟩
    · rw [List.getElem?_set_ne (by omega)]; exact a1
    · rw [part_app (by omega)]; exact a2.mono (Sub.orr _ _)
theorem nodes_b {P : Kn} {tls : List (Addr × Obj)} {ch ls : List Value} {tn : Value} {r2 : Addr} {n2 : Nat} (h : Nodes P ch ls) (hm : ls.length % 32 = 0) (h2 : (r2, listOf [tn].toArray n2) ∈ tls) :
    Nodes (Orr P tls) (ch ++ [.ref r2]) (ls ++ [tn]) := by
  have hl := h.1
  refine ⟨by rw [List.length_append, List.length_append, List.length_singleton, List.length_singleton]; omega, fun j hj => ?_⟩
  rw [List.length_append, List.length_singleton] at hj
  by_cases e : j = ch.length
  · refine ⟨r2, ?_, ?_⟩
    · rw [e, List.getElem?_append_right (Nat.le_refl _), Nat.sub_self]; rfl
    · rw [part_last (by omega) (by omega), part_none (by omega)]; exact LAt.of h2
  · obtain ⟨b, a1, a2⟩ := h.2 j (by omega)
    refine ⟨b, ?_, ?_⟩
    · rw [List.getElem?_append_left (by omega)]; exact a1
    · rw [part_app (by omega)]; exact a2.mono (Sub.orr _ _)
theorem nodes_new {P : Kn} {tls : List (Addr × Obj)} {ls : List Value} {tn : Value} {rt r2 : Addr} {n2 : Nat} (h : LAt P rt ls) (hm : ls.length = 32) (h2 : (r2, listOf [tn].toArray n2) ∈ tls) :
    Nodes (Orr P tls) [.ref rt, .ref r2] (ls ++ [tn]) := by
  refine ⟨by rw [List.length_append, List.length_singleton, hm]; rfl, fun j hj => ?_⟩
  match j, hj with
  | 0, _ =>
    refine ⟨rt, rfl, ?_⟩
    rw [part_app (by omega)]
    have : part ls 0 = ls := by unfold part; rw [List.drop_zero]; exact List.take_of_length_le (by omega)
    rw [this]; exact h.mono (Sub.orr _ _)
  | 1, _ =>
    refine ⟨r2, rfl, ?_⟩
    rw [part_last (by omega) (by omega), part_none (by omega)]; exact LAt.of h2
  | j + 2, hj => exact absurd hj (by simp)

theorem pushT {w : World} {A A₀ : Around} {env : Env} {outer : List Env} {base h₀ : Heap} {L : Addr} {m : PySem.Str → Option Value} {mean : ExcName → Option Value} {mg mb : PySem.Str → Option Value} {s : Shared} {Q E : Value → Shared → Prop}
    (C : Cx w 40 160 A A₀ env outer base h₀ L m mean mg mb s) {x dx rt tl pr : Addr} {c sh off sh' : Int} {t1 t2 t3 : Tok} (hx : s.heap.get? x = some (vecObj dx c t1 sh t2 rt tl off t3)) (hdx : s.heap.get? dx = some (dictOf [] 0))
    {tn : Value} {ls : List Value} {t : Tok} {P : Kn} (hP : ∀ a o, P a o → s.heap.get? a = some o) (hT : Tree P sh' pr ls) (hc : c = 32 * ((ls.length : Int) + 1)) (hl : ls.length < 900) (hne : ¬ (sh' = 5 ∧ ls.length = 32))
    (hret : ∀ r tls h' tk, Ext s.heap h' → NewIn s.heap h' tls → Tree (Orr P tls) sh' r (ls ++ [tn]) → Q (.ref r) { s with heap := h', toks := tk }) :
    wpAny (model PySem.Challenge.rw_im0011_01.row.prog w) A (call (.ref 263) [.ref x, .int sh' t, .ref pr, tn]) Q E s := by
  rcases hT with ⟨rfl, hlen, hr⟩ | ⟨rfl, ch, hr, hn⟩
  · refine push5 ⟨C.B, C.F, C.X, C.T, C.fr, C.hf, C.hke, C.hh, by have := C.hd; omega, by have := C.hu; omega⟩ (hr.is hP) (by omega) fun r h' tk n ex ne => hret r _ h' tk ex ne (.inl ⟨rfl, ?_, LAt.of (.head _)⟩)
    rw [List.length_append, List.length_singleton]
    have : ls.length ≠ 32 := fun e => hne ⟨rfl, e⟩
    omega
  · by_cases hm : ls.length % 32 = 0
    · exact push10b C hx hdx (k := ls.length) hc (by omega) (hr.is hP) (by have := hn.1; omega) fun r r2 h' tk n n2 ex ne => hret r _ h' tk ex ne (.inr ⟨rfl, _, LAt.of (.head _), nodes_b hn hm (.tail _ (.head _))⟩)
    · obtain ⟨b, hb, hs⟩ := hn.2 (ls.length / 32) (by have := hn.1; omega)
      exact push10a C hx hdx (k := ls.length) (j := ls.length / 32) hc (by omega) rfl (hr.is hP) (by have := hn.1; omega) hb (hs.is hP) (part_len _ _) fun r r2 h' tk n n2 ex ne => hret r _ h' tk ex ne (.inr ⟨rfl, _, LAt.of (.head _), nodes_a hn hm (.tail _ (.head _))⟩)
theorem hPk {g h : Heap} {L : Addr} {m : PySem.Str → Option Value} {P : Kn} (F : Fr g L h m) (hP : ∀ a o, P a o → g.get? a = some o) : ∀ a o, P a o → h.get? a = some o := fun a o e => F.keep a o (hP a o e)

theorem w10_1 : True := by (k_with "call ref" => (k_here; (with_reducible show wpAny _ _ (call (Value.ref 263) _) _ _ _); k_dflt (refine' pushT ?zzkC ?zzkx ?zzkd ?zzkP ?zzkT ?zzkc ?zzkl ?zzkn ?_; (case zzkC => walk_at "mcx"); (case zzkx => walk_at "hx"); (case zzkd => walk_at "hx"); (case zzkT => assumption); (case zzkP => walk_at "hP"); (case zzkc => omega); (case zzkl => omega); (case zzkn => omega); intro zzr zztls zzh zztk zzext zznew zztr; (have zzF := frExt (by k_asm) zzext); (have zzN := newsExt (by k_asm) (by k_asm) zzext zznew); revert zzr zztls zzh zztk zzext zznew zztr zzF zzN; intro _ _ _ _ _ _ _ _ _; (try k_sweep)))); trivial
theorem w10_2 : True := by (k_with "hP" => first | assumption | exact hPk (by k_asm) (by assumption)); trivial

theorem shlS {prog : Program} {w : World} {A : Around} {E : Value → Shared → Prop} {s : Shared} {sh p : Int} {t u : Tok} {Q : Value → Shared → Prop} (hp : (sh = 5 ∧ p = 32) ∨ (sh = 10 ∧ p = 1024)) (h : ∀ tk, Q (.int p tk) { s with toks := s.toks + 1 }) :
    wpAny (model prog w) A (binaryOp .LShift (.int 1 t) (.int sh u)) Q E s := by
  have e : (1 : Int) * 2 ^ sh.toNat = p := by rcases hp with ⟨rfl, rfl⟩ | ⟨rfl, rfl⟩ <;> rfl
  refine lshift_int_small (by omega) (by omega) (by decide) ?_
  rw [e]; exact h _
theorem o11_1 : True := by (k_with "binaryOp LShift int int" => (k_here; (with_reducible refine shlS (by assumption) ?_); intro _)); trivial
abbrev tupObj (r : Addr) (sh : Int) (t : Tok) (n : Nat) : Obj := { cls := .type "tuple", data := .seq #[.ref r, .int sh t] n }
set_option maxHeartbeats 4000000 in
theorem root_new {w : World} {A A₀ : Around} {env : Env} {outer : List Env} {base h₀ : Heap} {L : Addr} {m : PySem.Str → Option Value} {mean : ExcName → Option Value} {mg mb : PySem.Str → Option Value} {s : Shared} {Q E : Value → Shared → Prop}
    (C : Cx w 60 260 A A₀ env outer base h₀ L m mean mg mb s) {x dx rt tl : Addr} {c sh off : Int} {t1 t2 t3 : Tok} (hx : s.heap.get? x = some (vecObj dx c t1 sh t2 rt tl off t3)) (hdx : s.heap.get? dx = some (dictOf [] 0)) {ls : List Value} (hc : c = 32 * ((ls.length : Int) + 1)) (h32 : ls.length = 32) (hsh : sh = 5)
    (hret : ∀ tp r r2 h' tk sh' t' n n1 n2, sh' = 10 → Ext s.heap h' → NewIn s.heap h' [(tp, tupObj r sh' t' n), (r, listOf [Value.ref rt, Value.ref r2].toArray n1), (r2, listOf [Value.ref tl].toArray n2)] → Q (.ref tp) { s with heap := h', toks := tk }) :
    wpAny (model PySem.Challenge.rw_im0011_01.row.prog w) A (call (.ref 214) [.ref x]) Q E s := by
  subst hsh
  have : (PySem.Challenge.rw_im0011_01, Mine.kx.heap_1) = (PySem.Challenge.rw_im0011_01, Mine.kx.heap_1) := by k_fill; rfl
  obtain ⟨B, F, X, T, fr, hf, hke, hh, hd, hu⟩ := C
  obtain ⟨hdl, dp, frs, gd, un⟩ := A
  dsimp only at fr hh hd hu
  subst hh fr
  refine wpAny_call ?_
  k_dflt walk_at "menter"
  rename_i g' L' h1 Ug Eg F' N' B' X'' T'
  replace Ug := ug0 Ug
  replace hx := Ug _ _ hx
  replace hdx := Ug _ _ hdx
  have hp : ((5 : Int) = 5 ∧ (32 : Int) = 32) ∨ ((5 : Int) = 10 ∧ (32 : Int) = 1024) := .inl ⟨rfl, rfl⟩
  k_steps
  rename_i F9 N9 l9
  show Q _ _
  exact hret _ _ _ _ _ _ _ _ _ _ rfl (extOf Ug F9) (newInOf Ug N9)

set_option maxHeartbeats 4000000 in
theorem root_push {w : World} {A A₀ : Around} {env : Env} {outer : List Env} {base h₀ : Heap} {L : Addr} {m : PySem.Str → Option Value} {mean : ExcName → Option Value} {mg mb : PySem.Str → Option Value} {s : Shared} {Q E : Value → Shared → Prop}
    (C : Cx w 60 260 A A₀ env outer base h₀ L m mean mg mb s) {x dx rt tl : Addr} {c sh off : Int} {t1 t2 t3 : Tok} (hx : s.heap.get? x = some (vecObj dx c t1 sh t2 rt tl off t3)) (hdx : s.heap.get? dx = some (dictOf [] 0)) {ls : List Value} {P : Kn} {p : Int} (hP : ∀ a o, P a o → s.heap.get? a = some o) (hT : Tree P sh rt ls) (hp : (sh = 5 ∧ p = 32) ∨ (sh = 10 ∧ p = 1024)) (hc : c = 32 * ((ls.length : Int) + 1)) (hl : ls.length < 900) (hne : ¬ (sh = 5 ∧ ls.length = 32)) (h5 : sh = 5 → ls.length ≤ 32)
    (hret : ∀ tp r tls h' tk sh' t' n, sh' = sh → Ext s.heap h' → NewIn s.heap h' ((tp, tupObj r sh' t' n) :: tls) → Tree (Orr P tls) sh' r (ls ++ [.ref tl]) → Q (.ref tp) { s with heap := h', toks := tk }) :
    wpAny (model PySem.Challenge.rw_im0011_01.row.prog w) A (call (.ref 214) [.ref x]) Q E s := by
  have : (PySem.Challenge.rw_im0011_01, Mine.kx.heap_1) = (PySem.Challenge.rw_im0011_01, Mine.kx.heap_1) := by k_fill; rfl
  obtain ⟨B, F, X, T, fr, hf, hke, hh, hd, hu⟩ := C
  obtain ⟨hdl, dp, frs, gd, un⟩ := A
  dsimp only at fr hh hd hu
  subst hh fr
  refine wpAny_call ?_
  k_dflt walk_at "menter"
  rename_i g' L' h1 Ug Eg F' N' B' X'' T'
  replace Ug := ug0 Ug
  replace hx := Ug _ _ hx
  replace hdx := Ug _ _ hdx
  replace hP : ∀ a o, P a o → g'.get? a = some o := fun a o e => Ug _ _ (hP a o e)
  have hpr : ¬ p < c / 32 := by omega
  k_steps
  rename_i F9 N9 l9
  rename Tree _ _ _ _ => tr9
  show Q _ _
  rw [List.append_nil] at N9
  exact hret _ _ _ _ _ _ _ _ rfl (extOf Ug F9) (newInOf Ug N9) tr9

theorem root_c {w : World} {A A₀ : Around} {env : Env} {outer : List Env} {base h₀ : Heap} {L : Addr} {m : PySem.Str → Option Value} {mean : ExcName → Option Value} {mg mb : PySem.Str → Option Value} {s : Shared} {Q E : Value → Shared → Prop}
    (C : Cx w 60 260 A A₀ env outer base h₀ L m mean mg mb s) {x dx rt tl : Addr} {c sh off : Int} {t1 t2 t3 : Tok} (hx : s.heap.get? x = some (vecObj dx c t1 sh t2 rt tl off t3)) (hdx : s.heap.get? dx = some (dictOf [] 0))
    {ls : List Value} {P : Kn} (hP : ∀ a o, P a o → s.heap.get? a = some o) (hT : Tree P sh rt ls) (hc : c = 32 * ((ls.length : Int) + 1)) (hl : ls.length < 900)
    (hret : ∀ tp r tls h' tk sh' t' n, Ext s.heap h' → NewIn s.heap h' ((tp, tupObj r sh' t' n) :: tls) → Tree (Orr P tls) sh' r (ls ++ [.ref tl]) → Q (.ref tp) { s with heap := h', toks := tk }) :
    wpAny (model PySem.Challenge.rw_im0011_01.row.prog w) A (call (.ref 214) [.ref x]) Q E s := by
  have hT0 := hT
  have h5 : sh = 5 → ls.length ≤ 32 := fun e => by
    rcases hT0 with ⟨_, b, _⟩ | ⟨b, _⟩
    · exact b
    · exact absurd (e.symm.trans b) (by decide)
  by_cases hn : sh = 5 ∧ ls.length = 32
  · obtain ⟨e5, e32⟩ := hn
    have hr : LAt P rt ls := by
      rcases hT0 with ⟨_, _, b⟩ | ⟨b, _⟩
      · exact b
      · exact absurd (e5.symm.trans b) (by decide)
    refine root_new C hx hdx (ls := ls) hc e32 e5 fun tp r r2 h' tk sh' t' n n1 n2 e ex ne => hret tp r _ h' tk sh' t' n ex ne (.inr ⟨e, _, LAt.of (.head _), nodes_new hr e32 (.tail _ (.head _))⟩)
  · rcases hT0 with ⟨e, _⟩ | ⟨e, _⟩
    · exact root_push C hx hdx (p := 32) hP hT (.inl ⟨e, rfl⟩) hc hl hn h5 fun tp r tls h' tk sh' t' n e ex ne tr => hret tp r tls h' tk sh' t' n ex ne tr
    · exact root_push C hx hdx (p := 1024) hP hT (.inr ⟨e, rfl⟩) hc hl hn h5 fun tp r tls h' tk sh' t' n e ex ne tr => hret tp r tls h' tk sh' t' n ex ne tr

theorem w11_2 : True := by (k_with "call ref" => (k_here; (with_reducible show wpAny _ _ (call (Value.ref 214) _) _ _ _); k_dflt (refine' root_c ?zzkC ?zzkx ?zzkd ?zzkP ?zzkT ?zzkc ?zzkl ?_; (case zzkC => walk_at "mcx"); (case zzkx => walk_at "hx"); (case zzkd => walk_at "hx"); (case zzkT => assumption); (case zzkP => walk_at "hP"); (case zzkc => omega); (case zzkl => omega); intro zztp zzr zztls zzh zztk zzsh zzt zzn zzext zznew zztr; (have zzF := frExt (by k_asm) zzext); (have zzN := newsExt (by k_asm) (by k_asm) zzext zznew); (simp only [List.cons_append] at zzN); revert zztp zzr zztls zzh zztk zzsh zzt zzn zzext zznew zztr zzF zzN; intro _ _ _ _ _ _ _ _ _ _ _ _ _; (try k_sweep)))); trivial

theorem reset12 : True := by
  k_with_none
  (k_with "kinst" => (refine' InstAt.of_base ?zzF ?zzh1 ?zzh2; (case zzF => k_asm); (case zzh1 => k_asm); (case zzh2 => k_asm)))
  (k_with "mcx" => exact ⟨by k_asm, by k_asm, by k_asm, by k_asm, rfl, by first | rfl | assumption, by first | rfl | assumption, rfl, by walk_at "room", by walk_at "unitz"⟩)
  (k_with "room" => first | exact rm 1 _ (by assumption) rfl (by exact rfl) | exact rm 0 _ (by assumption) rfl (by exact rfl) | exact rm 2 _ (by assumption) rfl (by exact rfl) | exact rm0 0 (by assumption) rfl (by exact rfl) | exact rm0 1 (by assumption) rfl (by exact rfl) | ((try simp only [depth_under_make, depth_under_kw, depth_in1, depth_deeper, depth_caller]); (try dsimp only [Around.deeper, Around.in1, Around.under]); omega))
  (k_with "unitz" => first | exact rm 3 _ (by assumption) rfl (by exact rfl) | exact rm 4 _ (by assumption) rfl (by exact rfl) | exact rm 0 _ (by assumption) rfl (by exact rfl) | exact rm 1 _ (by assumption) rfl (by exact rfl) | exact rm 6 _ (by assumption) rfl (by exact rfl) | exact rm 7 _ (by assumption) rfl (by exact rfl) | ((try simp only [units_in1, units_deeper, Around.mark_units, units_caller]); (try dsimp only [Around.deeper, Around.in1, Around.under]); omega))
  (k_with "menter" => (refine' enterX ?zzk1 ?zzk2 ?zzk3 ?zzk4 ?zzk5 ?zzkA ?zzkF ?zzkK ?zzk6 ?zzk7 ?zzk8 ?zzk9 ?zzkB ?_ ?zzc2 ?zzc3 ?zzc4 ?zzc5; (case zzkA => exact rfl); (case zzkF => first | exact rfl | assumption); (case zzkK => first | exact rfl | assumption); (case zzk1 => k_asm); (case zzk2 => k_asm); (case zzk3 => k_asm); (case zzk4 => first | exact News.nil | k_asm); (case zzk5 => k_asm); (case zzk6 => k_is); (case zzk7 => k_is); (case zzk8 => walk_at "room"); (case zzk9 => first | exact BindsTo.of_eq rfl | exact binds_K (by k_in) rfl (by k_is) rfl rfl rfl); (case zzc5 => decide); (case zzkB => exact locs rfl); (case zzc2 => exact rfl); (case zzc3 => exact rfl); (case zzc4 => exact rfl); k_whole; intro _ _ _ _ _ _ _ _ _ _; (try dsimp only); (try k_fold)))
  (k_with "call builtin:len" => (k_here; (with_reducible show wpAny _ _ (call (Value.builtin _) [Value.ref _]) _ _ _); (with_unfolding_all refine' len_list ?zzk1 ?zzk2 ?_; (case zzk1 => is_list); (case zzk2 => omega); k_whole)))
  (k_with "subscriptTail" => (k_here; (with_reducible show wpAny _ _ (subscriptTail _ _ (Value.ref _) (Value.int _ _)) _ _ _); (with_unfolding_all refine' item_list ?zzk1 ?zzk2 ?zzk3 ?zzk4 ?_ ?zzk6; (case zzk1 => is_list); (case zzk2 => first | assumption | exact rfl); (case zzk3 => omega); (case zzk4 => omega); (case zzk6 => with_unfolding_all rfl); k_whole)))
  (k_with "setItem ref int" => (k_here; (with_reducible show wpAny _ _ (setItem (Value.ref _) (Value.int _ _) _) _ _ _); k_dflt (refine' set_list ?zzk1 ?zzk2 ?zzk3 ?zzk4 ?zzk5 ?zzk6 ?_; (case zzk1 => k_asm); (case zzk2 => k_asm); (case zzk6 => k_upd); (case zzk3 => omega); (case zzk4 => omega); (case zzk5 => omega); k_whole); intro _ _ _; (try k_sweep)))
  (k_with "call builtin:list.append" => (k_here; (with_reducible show wpAny _ _ (call (Value.builtin _) [Value.ref _, _]) _ _ _); k_dflt (refine' app_list ?zzk1 ?zzk2 ?zzk3 ?zzk4 ?_; (case zzk1 => k_asm); (case zzk2 => k_asm); (case zzk4 => k_upd); (case zzk3 => omega); k_whole); intro _ _ _; (try k_sweep)))
  (k_with "call type:list" => (k_here; (with_reducible show wpAny _ _ (call (Value.type _) [Value.ref _]) _ _ _); (with_unfolding_all refine' copy_list' ?zzk1 ?zzk2 ?zzk3 ?zzk4 ?_; (case zzk1 => k_asm); (case zzk2 => k_asm); (case zzk3 => is_list); (case zzk4 => omega); k_whole); walk_at "in2"))
  (k_with "truthy ref" => (k_here; (with_reducible show wpAny _ _ (truthy (Value.ref _)) _ _ _); (with_unfolding_all refine' truthy_list' ?zzk1 ?zzk2 ?_; (case zzk1 => is_list); (case zzk2 => omega); k_whole)))
  (k_with "binaryOp BitAnd int int" => (k_here; (with_reducible refine and31 ?zzk1 ?_; (case zzk1 => omega)); intro _))
  (k_with "binaryOp RShift int int" => (k_here; first | with_reducible refine shr5 ?_ | with_reducible refine shr10 ?_; intro _))
  (k_with "call ref" => (k_here; (with_reducible show wpAny _ _ (call (Value.ref 296) _) _ _ _); k_dflt (refine' new_c ?zzkC ?zzkt ?zzkz ?_; (case zzkC => walk_at "mcx"); (case zzkt => is_list); (case zzkz => first | omega | (simp only [List.length_cons, List.length_nil]; omega)); intro zzx zztls zzh zztk zzdx zzt3 zzext zznew zze; subst zze; (have zzl1 := allNe_of (zznew _ (.head _)).2 (news_get (by k_asm))); (have zzl2 := allNe_of (zznew _ (.tail _ (.head _))).2 (news_get (by k_asm))); (have zzF := frExt (by k_asm) zzext); (have zzN := newsExt (by k_asm) (by k_asm) zzext zznew); (simp only [List.cons_append, List.nil_append] at zzN); (simp only [AllNe, and_true] at zzl1 zzl2); clear zzext zznew; revert zzx zzh zztk zzdx zzt3 zzl1 zzl2 zzF zzN; intro _ _ _ _ _ _ _ _ _; (try k_sweep))))
  (k_with "call ref" => (k_here; (with_reducible show wpAny _ _ (call (Value.ref 228) _) _ _ _); k_dflt (refine' newpath0 ?zzkC ?_; (case zzkC => walk_at "mcx"); intro zzh zztk zzext; (have zzF := frExt (by k_asm) zzext); (have zzN := newsExt (by k_asm) (by k_asm) zzext (tl := []) (fun _ hp => nomatch hp)); (simp only [List.nil_append] at zzN); clear zzext; revert zzh zztk zzF zzN; intro _ _ _ _; (try k_sweep))))
  (k_with "aft1" => (intro zzr zzh zztk zzn zzext zznew; (have zzl1 := allNe_of (zznew _ (.head _)).2 (news_get (by k_asm))); (have zzF := frExt (by k_asm) zzext); (have zzN := newsExt (by k_asm) (by k_asm) zzext zznew); (simp only [List.cons_append, List.nil_append] at zzN); (simp only [AllNe, and_true] at zzl1); clear zzext zznew; revert zzr zzh zztk zzn zzl1 zzF zzN; intro _ _ _ _ _ _ _; (try k_sweep)))
  (k_with "call ref" => (k_here; (with_reducible show wpAny _ _ (call (Value.ref 228) _) _ _ _); k_dflt (refine' newpath5 ?zzkC ?zzkx ?zzkd ?_; (case zzkC => walk_at "mcx"); (case zzkx => walk_at "hx"); (case zzkd => walk_at "hx"); walk_at "aft1")))
  (k_with "hx" => first | assumption | exact Fr.keep (by k_asm) _ _ (by assumption) | exact News.get (by k_asm) (by k_mem))
  (k_with "call ref" => (k_here; (with_reducible show wpAny _ _ (call (Value.ref 263) _) _ _ _); k_dflt (refine' push5 ?zzkC ?zzkp ?zzkz ?_; (case zzkC => walk_at "mcx"); (case zzkp => is_list); (case zzkz => omega); walk_at "aft1")))
  (k_with "aft2" => (intro zzr zzr2 zzh zztk zzn zzn2 zzext zznew; (have zzl1 := allNe_of (zznew _ (.head _)).2 (news_get (by k_asm))); (have zzl2 := allNe_of (zznew _ (.tail _ (.head _))).2 (news_get (by k_asm))); (have zzF := frExt (by k_asm) zzext); (have zzN := newsExt (by k_asm) (by k_asm) zzext zznew); (simp only [List.cons_append, List.nil_append] at zzN); (simp only [AllNe, and_true] at zzl1 zzl2); clear zzext zznew; revert zzr zzr2 zzh zztk zzn zzn2 zzl1 zzl2 zzF zzN; intro _ _ _ _ _ _ _ _ _ _; (try k_sweep)))
  (k_with "call ref" => (k_here; (with_reducible show wpAny _ _ (call (Value.ref 263) _) _ _ _); k_dflt (refine' pushT ?zzkC ?zzkx ?zzkd ?zzkP ?zzkT ?zzkc ?zzkl ?zzkn ?_; (case zzkC => walk_at "mcx"); (case zzkx => walk_at "hx"); (case zzkd => walk_at "hx"); (case zzkT => assumption); (case zzkP => walk_at "hP"); (case zzkc => omega); (case zzkl => omega); (case zzkn => omega); intro zzr zztls zzh zztk zzext zznew zztr; (have zzF := frExt (by k_asm) zzext); (have zzN := newsExt (by k_asm) (by k_asm) zzext zznew); revert zzr zztls zzh zztk zzext zznew zztr zzF zzN; intro _ _ _ _ _ _ _ _ _; (try k_sweep))))
  (k_with "hP" => first | assumption | exact hPk (by k_asm) (by assumption))
  (k_with "call ref" => (k_here; (with_reducible show wpAny _ _ (call (Value.ref 214) _) _ _ _); k_dflt (refine' root_c ?zzkC ?zzkx ?zzkd ?zzkP ?zzkT ?zzkc ?zzkl ?_; (case zzkC => walk_at "mcx"); (case zzkx => walk_at "hx"); (case zzkd => walk_at "hx"); (case zzkT => assumption); (case zzkP => walk_at "hP"); (case zzkc => omega); (case zzkl => omega); intro zztp zzr zztls zzh zztk zzsh zzt zzn zzext zznew zztr; (have zzF := frExt (by k_asm) zzext); (have zzN := newsExt (by k_asm) (by k_asm) zzext zznew); (simp only [List.cons_append] at zzN); revert zztp zzr zztls zzh zztk zzsh zzt zzn zzext zznew zztr zzF zzN; intro _ _ _ _ _ _ _ _ _ _ _ _ _; (try k_sweep))))
  trivial
structure Parts (P : Kn) (c sh : Int) (rt : Addr) (off : Int) (ls ys zs : List Value) : Prop where
  hlen : c = (ys.length : Int) + zs.length
  hoff : off = ys.length
  hys : ys.length = 32 * ls.length
  hzs : zs.length ≤ 32
  tree : Tree P sh rt ls
  leaves : ∀ j, j < ls.length → ∃ b, ls[j]? = some (.ref b) ∧ LAt P b (part ys j)
def Vec (P : Kn) (v : Addr) (xs : List Value) : Prop := ∃ dx c t1 sh t2 rt tl off t3 ls ys zs, P v (vecObj dx c t1 sh t2 rt tl off t3) ∧ P dx (dictOf [] 0) ∧ Parts P c sh rt off ls ys zs ∧ LAt P tl zs ∧ xs = ys ++ zs
theorem Parts.mono {P Q : Kn} (k : Sub P Q) {c sh : Int} {rt : Addr} {off : Int} {ls ys zs : List Value} (h : Parts P c sh rt off ls ys zs) : Parts Q c sh rt off ls ys zs :=
  ⟨h.hlen, h.hoff, h.hys, h.hzs, h.tree.mono k, fun j hj => let ⟨b, e, x⟩ := h.leaves j hj; ⟨b, e, x.mono k⟩⟩
theorem Vec.mono {P Q : Kn} (k : Sub P Q) {v : Addr} {xs : List Value} (h : Vec P v xs) : Vec Q v xs := by
  obtain ⟨dx, c, t1, sh, t2, rt, tl, off, t3, ls, ys, zs, a, b, p, t, e⟩ := h
  exact ⟨dx, c, t1, sh, t2, rt, tl, off, t3, ls, ys, zs, k _ _ a, k _ _ b, p.mono k, t.mono k, e⟩
theorem allNe_mem {d : Addr} : ∀ {l : List (Addr × Obj)}, AllNe d l → ∀ p ∈ l, @Ne Nat p.1 d
  | [], _, _, hp => nomatch hp
  | q :: r, h, p, hp => by
    rcases List.mem_cons.mp hp with rfl | hp
    · exact h.1
    · exact allNe_mem h.2 p hp
def Off3 (tls : List (Addr × Obj)) (a b c : Addr) : Prop := ∀ p ∈ tls, @Ne Nat p.1 a ∧ @Ne Nat p.1 b ∧ @Ne Nat p.1 c
theorem part_app' {ys zs : List Value} {j : Nat} (h : 32 * j + 32 ≤ ys.length) : part (ys ++ zs) j = part ys j := by
  unfold part
  rw [List.drop_append_of_le_length (by omega), List.take_append_of_le_length (by rw [List.length_drop]; omega)]
theorem part_at {ys zs : List Value} {j : Nat} (h : ys.length = 32 * j) (hz : zs.length ≤ 32) : part (ys ++ zs) j = zs := by
  unfold part
  rw [← h, List.drop_left, List.take_of_length_le hz]
theorem leaves_push {P Q : Kn} (k : Sub P Q) {ls ys zs : List Value} {tl : Addr} (hy : ys.length = 32 * ls.length) (hz : zs.length = 32) (h : ∀ j, j < ls.length → ∃ b, ls[j]? = some (.ref b) ∧ LAt P b (part ys j)) (ht : LAt Q tl zs) :
    ∀ j, j < (ls ++ [Value.ref tl]).length → ∃ b, (ls ++ [Value.ref tl])[j]? = some (.ref b) ∧ LAt Q b (part (ys ++ zs) j) := by
  intro j hj
  rw [List.length_append, List.length_singleton] at hj
  by_cases e : j = ls.length
  · refine ⟨tl, by rw [e, List.getElem?_append_right (Nat.le_refl _), Nat.sub_self]; rfl, ?_⟩
    rw [part_at (by omega) (by omega)]; exact ht
  · obtain ⟨b, a1, a2⟩ := h j (by omega)
    refine ⟨b, by rw [List.getElem?_append_left (by omega)]; exact a1, ?_⟩
    rw [part_app' (by omega)]; exact a2.mono k
set_option maxHeartbeats 4000000 in
theorem append_a {w : World} {A A₀ : Around} {env : Env} {outer : List Env} {base h₀ : Heap} {L : Addr} {m : PySem.Str → Option Value} {mean : ExcName → Option Value} {mg mb : PySem.Str → Option Value} {s : Shared} {Q E : Value → Shared → Prop}
    (C : Cx w 80 400 A A₀ env outer base h₀ L m mean mg mb s) {x dx rt tl : Addr} {c sh off : Int} {t1 t2 t3 : Tok} (hx : s.heap.get? x = some (vecObj dx c t1 sh t2 rt tl off t3)) (hdx : s.heap.get? dx = some (dictOf [] 0)) {zs : List Value} {val : Value} (ht : s.heap.IsList tl zs.toArray) (hz : zs.length < 32)
    (hret : ∀ x' dx' tl' h' tk t1' t2' t3' n', Ext s.heap h' → NewIn s.heap h' [(x', vecObj dx' (c + 1) t1' sh t2' rt tl' (c + 1 - (zs ++ [val]).length) t3'), (dx', dictOf [] 0), (tl', listOf (zs ++ [val]).toArray n')] → Q (.ref x') { s with heap := h', toks := tk }) :
    wpAny (model PySem.Challenge.rw_im0011_01.row.prog w) A (call (.ref 221) [.ref x, val]) Q E s := by
  have : (PySem.Challenge.rw_im0011_01, Mine.kx.heap_1) = (PySem.Challenge.rw_im0011_01, Mine.kx.heap_1) := by k_fill; rfl
  obtain ⟨B, F, X, T, fr, hf, hke, hh, hd, hu⟩ := C
  obtain ⟨hdl, dp, frs, gd, un⟩ := A
  dsimp only at fr hh hd hu
  subst hh fr
  refine wpAny_call ?_
  k_dflt walk_at "menter"
  rename_i g' L' h1 Ug Eg F' N' B' X'' T'
  replace Ug := ug0 Ug
  replace hx := Ug _ _ hx
  replace hdx := Ug _ _ hdx
  replace ht := listExt Ug ht
  have hz2 : (zs ++ [val]).length ≤ 32 := by rw [List.length_append, List.length_singleton]; omega
  k_steps
  rename Fr _ _ _ _ => F9
  rename News _ _ _ _ => N9
  show Q _ _
  exact hret _ _ _ _ _ _ _ _ _ (extOf Ug F9) (newInOf Ug N9)

set_option maxHeartbeats 4000000 in
theorem append_b {w : World} {A A₀ : Around} {env : Env} {outer : List Env} {base h₀ : Heap} {L : Addr} {m : PySem.Str → Option Value} {mean : ExcName → Option Value} {mg mb : PySem.Str → Option Value} {s : Shared} {Q E : Value → Shared → Prop}
    (C : Cx w 80 400 A A₀ env outer base h₀ L m mean mg mb s) {x dx rt tl : Addr} {c sh off : Int} {t1 t2 t3 : Tok} (hx : s.heap.get? x = some (vecObj dx c t1 sh t2 rt tl off t3)) (hdx : s.heap.get? dx = some (dictOf [] 0)) {zs ls : List Value} {val : Value} {P : Kn} (ht : s.heap.IsList tl zs.toArray) (hz : zs.length = 32) (hP : ∀ a o, P a o → s.heap.get? a = some o) (hT : Tree P sh rt ls) (hc : c = 32 * ((ls.length : Int) + 1)) (hl : ls.length < 900)
    (hret : ∀ x' dx' tl' h' tk t1' sh' t2' rt' t3' n' tls, Ext s.heap h' → NewIn s.heap h' ((x', vecObj dx' (c + 1) t1' sh' t2' rt' tl' (c + 1 - [val].length) t3') :: (dx', dictOf [] 0) :: (tl', listOf [val].toArray n') :: tls) → Off3 tls x' dx' tl' → Tree (Orr P tls) sh' rt' (ls ++ [.ref tl]) → Q (.ref x') { s with heap := h', toks := tk }) :
    wpAny (model PySem.Challenge.rw_im0011_01.row.prog w) A (call (.ref 221) [.ref x, val]) Q E s := by
  have : (PySem.Challenge.rw_im0011_01, Mine.kx.heap_1) = (PySem.Challenge.rw_im0011_01, Mine.kx.heap_1) := by k_fill; rfl
  obtain ⟨B, F, X, T, fr, hf, hke, hh, hd, hu⟩ := C
  obtain ⟨hdl, dp, frs, gd, un⟩ := A
  dsimp only at fr hh hd hu
  subst hh fr
  refine wpAny_call ?_
  k_dflt walk_at "menter"
  rename_i g' L' h1 Ug Eg F' N' B' X'' T'
  replace Ug := ug0 Ug
  replace hx := Ug _ _ hx
  replace hdx := Ug _ _ hdx
  replace ht := listExt Ug ht
  replace hP : ∀ a o, P a o → g'.get? a = some o := fun a o e => Ug _ _ (hP a o e)
  k_steps
  rename Fr _ _ _ _ => F9
  rename News _ _ _ _ => N9
  rename Tree _ _ _ _ => tr9
  rename_i l1a x5 h5 tk5 dx5 t5 l1x l1d
  show Q _ _
  rw [List.append_nil] at N9
  have of9 := fun p hp => ktn_ltOf l1a.2 p (List.mem_append_left _ hp)
  have ofx := fun p hp => allNe_mem l1x.2.2 p (List.mem_append_left _ hp)
  have ofd := fun p hp => allNe_mem l1d.2.2 p hp
  refine hret _ _ _ _ _ _ _ _ _ _ _ _ (extOf Ug F9) (newInOf Ug N9) (fun p hp => ?_) (tr9.mono (Orr.cons _ _ _))
  rcases List.mem_cons.mp hp with rfl | hp
  · exact ⟨l1x.2.1, l1d.2.1, Nat.ne_of_lt l1a.1⟩
  · exact ⟨ofx p hp, by first | exact ofd p hp | exact ofd p (List.mem_append_left _ hp), Nat.ne_of_lt (of9 p hp)⟩

theorem append_c {w : World} {A A₀ : Around} {env : Env} {outer : List Env} {base h₀ : Heap} {L : Addr} {m : PySem.Str → Option Value} {mean : ExcName → Option Value} {mg mb : PySem.Str → Option Value} {s : Shared} {Q E : Value → Shared → Prop}
    (C : Cx w 80 400 A A₀ env outer base h₀ L m mean mg mb s) {x dx rt tl : Addr} {c sh off : Int} {t1 t2 t3 : Tok} (hx : s.heap.get? x = some (vecObj dx c t1 sh t2 rt tl off t3)) (hdx : s.heap.get? dx = some (dictOf [] 0))
    {ls ys zs : List Value} {val : Value} {P : Kn} (hP : ∀ a o, P a o → s.heap.get? a = some o) (hV : Parts P c sh rt off ls ys zs) (ht : LAt P tl zs) (hl : ys.length ≤ 20000)
    (hret : ∀ x' dx' tl' h' tk c' t1' sh' t2' rt' off' t3' n' rest ls' ys' zs', Ext s.heap h' → NewIn s.heap h' ((x', vecObj dx' c' t1' sh' t2' rt' tl' off' t3') :: (dx', dictOf [] 0) :: (tl', listOf zs'.toArray n') :: rest) → Off3 rest x' dx' tl' →
      Parts (Orr P rest) c' sh' rt' off' ls' ys' zs' → ys' ++ zs' = ys ++ zs ++ [val] → Q (.ref x') { s with heap := h', toks := tk }) :
    wpAny (model PySem.Challenge.rw_im0011_01.row.prog w) A (call (.ref 221) [.ref x, val]) Q E s := by
  obtain ⟨v1, v2, v3, v4, v5, v6⟩ := hV
  by_cases hz : zs.length < 32
  · refine append_a C hx hdx (ht.is hP) hz fun x' dx' tl' h' tk t1' t2' t3' n' ex ne => hret x' dx' tl' h' tk _ t1' sh t2' rt _ t3' n' [] ls ys (zs ++ [val]) ex ne (fun _ h => nomatch h) ⟨?_, ?_, v3, ?_, v5.mono (Sub.orr _ _), fun j hj => let ⟨b, e, x⟩ := v6 j hj; ⟨b, e, x.mono (Sub.orr _ _)⟩⟩ (by rw [List.append_assoc])
    · rw [List.length_append, List.length_singleton]; omega
    · rw [List.length_append, List.length_singleton]; omega
    · rw [List.length_append, List.length_singleton]; omega
  · have hz' : zs.length = 32 := by omega
    refine append_b C hx hdx (ht.is hP) hz' hP v5 (by omega) (by omega) fun x' dx' tl' h' tk t1' sh' t2' rt' t3' n' tls ex ne of tr => hret x' dx' tl' h' tk _ t1' sh' t2' rt' _ t3' n' tls (ls ++ [.ref tl]) (ys ++ zs) [val] ex ne of ⟨?_, ?_, ?_, ?_, tr, leaves_push (Sub.orr _ _) v3 hz' v6 (ht.mono (Sub.orr _ _))⟩ rfl
    · rw [List.length_append, List.length_singleton]; omega
    · rw [List.length_append, List.length_singleton]; omega
    · rw [List.length_append, List.length_append, List.length_singleton]; omega
    · rw [List.length_singleton]; omega

set_option maxHeartbeats 4000000 in
theorem doset0 {w : World} {A A₀ : Around} {env : Env} {outer : List Env} {base h₀ : Heap} {L : Addr} {m : PySem.Str → Option Value} {mean : ExcName → Option Value} {mg mb : PySem.Str → Option Value} {s : Shared} {Q E : Value → Shared → Prop}
    (C : Cx w 20 80 A A₀ env outer base h₀ L m mean mg mb s) {x val : Value} {nd : Addr} {its : List Value} {t ti : Tok} {i : Int} (hp : s.heap.IsList nd its.toArray) (hi : 0 ≤ i) (hsz : its.length = 32)
    (hret : ∀ r h' tk n, Ext s.heap h' → NewIn s.heap h' [(r, listOf (its.set (i % 32).toNat val).toArray n)] → Q (.ref r) { s with heap := h', toks := tk }) :
    wpAny (model PySem.Challenge.rw_im0011_01.row.prog w) A (call (.ref 197) [x, .int 0 t, .ref nd, .int i ti, val]) Q E s := by
  have : (PySem.Challenge.rw_im0011_01, Mine.kx.heap_1) = (PySem.Challenge.rw_im0011_01, Mine.kx.heap_1) := by k_fill; rfl
  obtain ⟨B, F, X, T, fr, hf, hke, hh, hd, hu⟩ := C
  obtain ⟨hdl, dp, frs, gd, un⟩ := A
  dsimp only at fr hh hd hu
  subst hh fr
  refine wpAny_call ?_
  k_dflt walk_at "menter"
  rename_i g' L' h1 Ug Eg F' N' B' X'' T'
  replace Ug := ug0 Ug
  replace hp := listExt Ug hp
  k_steps
  rename Fr _ _ _ _ => F9
  rename News _ _ _ _ => N9
  show Q _ _
  exact hret _ _ _ _ (extOf Ug F9) (newInOf Ug N9)

theorem o13_1 : True := by (k_with "call ref" => (k_here; (with_reducible show wpAny _ _ (call (Value.ref 197) _) _ _ _); k_dflt (refine' doset0 ?zzkC ?zzkp ?zzki ?zzkz ?_; (case zzkC => walk_at "mcx"); (case zzkp => is_list); (case zzki => omega); (case zzkz => omega); walk_at "aft1"))); trivial
set_option maxHeartbeats 4000000 in
theorem doset5 {w : World} {A A₀ : Around} {env : Env} {outer : List Env} {base h₀ : Heap} {L : Addr} {m : PySem.Str → Option Value} {mean : ExcName → Option Value} {mg mb : PySem.Str → Option Value} {s : Shared} {Q E : Value → Shared → Prop}
    (C : Cx w 40 160 A A₀ env outer base h₀ L m mean mg mb s) {x dx rt tl : Addr} {c sh off : Int} {t1 t2 t3 : Tok} (hx : s.heap.get? x = some (vecObj dx c t1 sh t2 rt tl off t3)) (hdx : s.heap.get? dx = some (dictOf [] 0)) {val : Value} {pr b : Addr} {ls its : List Value} {t ti : Tok} {i : Int} {j : Nat} (hp : s.heap.IsList pr ls.toArray) (hi : 0 ≤ i) (hfit : i < 1000000) (hlen : ls.length ≤ 32) (hj : (j : Int) = i / 32 % 32) (hjl : j < ls.length) (hb : ls[j]? = some (.ref b)) (hs : s.heap.IsList b its.toArray) (hsz : its.length = 32)
    (hret : ∀ r r2 h' tk n n2, Ext s.heap h' → NewIn s.heap h' [(r, listOf (ls.set j (Value.ref r2)).toArray n), (r2, listOf (its.set (i % 32).toNat val).toArray n2)] → Q (.ref r) { s with heap := h', toks := tk }) :
    wpAny (model PySem.Challenge.rw_im0011_01.row.prog w) A (call (.ref 197) [.ref x, .int 5 t, .ref pr, .int i ti, val]) Q E s := by
  have : (PySem.Challenge.rw_im0011_01, Mine.kx.heap_1) = (PySem.Challenge.rw_im0011_01, Mine.kx.heap_1) := by k_fill; rfl
  obtain ⟨B, F, X, T, fr, hf, hke, hh, hd, hu⟩ := C
  obtain ⟨hdl, dp, frs, gd, un⟩ := A
  dsimp only at fr hh hd hu
  subst hh fr
  refine wpAny_call ?_
  k_dflt walk_at "menter"
  rename_i g' L' h1 Ug Eg F' N' B' X'' T'
  replace Ug := ug0 Ug
  replace hx := Ug _ _ hx
  replace hdx := Ug _ _ hdx
  replace hp := listExt Ug hp
  replace hs := listExt Ug hs
  k_steps
  rename Fr _ _ _ _ => F9
  rename News _ _ _ _ => N9
  show Q _ _
  have e : (i / 32 % 32).toNat = j := by omega
  rw [e] at N9
  exact hret _ _ _ _ _ _ (extOf Ug F9) (newSwap (newInOf Ug N9))

theorem o13_2 : True := by (k_with "call ref" => (k_here; (with_reducible show wpAny _ _ (call (Value.ref 197) _) _ _ _); k_dflt (refine' doset5 ?zzkC ?zzkx ?zzkd ?zzkp ?zzki ?zzkf ?zzkl ?zzkj ?zzkjl ?zzkb ?zzks ?zzkz ?_; (case zzkC => walk_at "mcx"); (case zzkx => walk_at "hx"); (case zzkd => walk_at "hx"); (case zzkp => is_list); (case zzki => omega); (case zzkf => omega); (case zzkl => omega); (case zzkb => assumption); (case zzkj => omega); (case zzkjl => omega); (case zzks => is_list); (case zzkz => omega); walk_at "aft2"))); trivial
set_option maxHeartbeats 4000000 in
theorem doset10 {w : World} {A A₀ : Around} {env : Env} {outer : List Env} {base h₀ : Heap} {L : Addr} {m : PySem.Str → Option Value} {mean : ExcName → Option Value} {mg mb : PySem.Str → Option Value} {s : Shared} {Q E : Value → Shared → Prop}
    (C : Cx w 60 260 A A₀ env outer base h₀ L m mean mg mb s) {x dx rt tl : Addr} {c sh off : Int} {t1 t2 t3 : Tok} (hx : s.heap.get? x = some (vecObj dx c t1 sh t2 rt tl off t3)) (hdx : s.heap.get? dx = some (dictOf [] 0)) {val : Value} {pr b1 b : Addr} {ch ls its : List Value} {t ti : Tok} {i : Int} {j1 j : Nat} (hp : s.heap.IsList pr ch.toArray) (hi : 0 ≤ i) (hfit : i < 1000000) (hlen1 : ch.length ≤ 32) (hj1 : (j1 : Int) = i / 1024 % 32) (hjl1 : j1 < ch.length) (hb1 : ch[j1]? = some (.ref b1)) (hs1 : s.heap.IsList b1 ls.toArray) (hlen : ls.length ≤ 32) (hj : (j : Int) = i / 32 % 32) (hjl : j < ls.length) (hb : ls[j]? = some (.ref b)) (hs : s.heap.IsList b its.toArray) (hsz : its.length = 32)
    (hret : ∀ r r1 r2 h' tk n n1 n2, Ext s.heap h' → NewIn s.heap h' [(r1, listOf (ls.set j (Value.ref r2)).toArray n1), (r2, listOf (its.set (i % 32).toNat val).toArray n2), (r, listOf (ch.set j1 (Value.ref r1)).toArray n)] → Q (.ref r) { s with heap := h', toks := tk }) :
    wpAny (model PySem.Challenge.rw_im0011_01.row.prog w) A (call (.ref 197) [.ref x, .int 10 t, .ref pr, .int i ti, val]) Q E s := by
  have : (PySem.Challenge.rw_im0011_01, Mine.kx.heap_1) = (PySem.Challenge.rw_im0011_01, Mine.kx.heap_1) := by k_fill; rfl
  obtain ⟨B, F, X, T, fr, hf, hke, hh, hd, hu⟩ := C
  obtain ⟨hdl, dp, frs, gd, un⟩ := A
  dsimp only at fr hh hd hu
  subst hh fr
  refine wpAny_call ?_
  k_dflt walk_at "menter"
  rename_i g' L' h1 Ug Eg F' N' B' X'' T'
  replace Ug := ug0 Ug
  replace hx := Ug _ _ hx
  replace hdx := Ug _ _ hdx
  replace hp := listExt Ug hp
  replace hs1 := listExt Ug hs1
  replace hs := listExt Ug hs
  k_steps
  rename Fr _ _ _ _ => F9
  rename News _ _ _ _ => N9
  show Q _ _
  have e : (i / 1024 % 32).toNat = j1 := by omega
  rw [e] at N9
  exact hret _ _ _ _ _ _ _ _ (extOf Ug F9) (newInOf Ug N9)

theorem part_set {l : List Value} {i j : Nat} {v : Value} (hi : i < l.length) : part (l.set i v) j = if j = i / 32 then (part l j).set (i % 32) v else part l j := by
  unfold part
  split
  · rename_i e
    rw [List.drop_set, if_neg (by omega), List.take_set]
    rw [show i - 32 * j = i % 32 by omega]
  · rename_i e
    rw [List.drop_set]
    split
    · rfl
    · rw [List.take_set, List.set_eq_of_length_le]
      rw [List.length_take]; omega
theorem part_get {l : List Value} {i : Nat} : (part l (i / 32))[i % 32]? = l[i]? := by
  unfold part
  rw [List.getElem?_take_of_lt (by omega), List.getElem?_drop]
  rw [show 32 * (i / 32) + i % 32 = i by omega]
theorem part_len_eq {l : List Value} {j : Nat} (h : 32 * j + 32 ≤ l.length) : (part l j).length = 32 := by
  unfold part; rw [List.length_take, List.length_drop]; omega

theorem dosetT {w : World} {A A₀ : Around} {env : Env} {outer : List Env} {base h₀ : Heap} {L : Addr} {m : PySem.Str → Option Value} {mean : ExcName → Option Value} {mg mb : PySem.Str → Option Value} {s : Shared} {Q E : Value → Shared → Prop}
    (C : Cx w 60 260 A A₀ env outer base h₀ L m mean mg mb s) {x dx rt tl : Addr} {c sh off : Int} {t1 t2 t3 : Tok} (hx : s.heap.get? x = some (vecObj dx c t1 sh t2 rt tl off t3)) (hdx : s.heap.get? dx = some (dictOf [] 0))
    {ls ys zs : List Value} {val : Value} {P : Kn} {t ti : Tok} {i : Nat} {iv : Int} (hiv : iv = (i : Int)) (hP : ∀ a o, P a o → s.heap.get? a = some o) (hV : Parts P c sh rt off ls ys zs) (hi : i < ys.length) (hl : ys.length ≤ 20000)
    (hret : ∀ r tls h' tk, Ext s.heap h' → NewIn s.heap h' tls → (∃ ls', Parts (Orr P tls) c sh r off ls' (ys.set i val) zs) → Q (.ref r) { s with heap := h', toks := tk }) :
    wpAny (model PySem.Challenge.rw_im0011_01.row.prog w) A (call (.ref 197) [.ref x, .int sh t, .ref rt, .int iv ti, val]) Q E s := by
  subst hiv
  obtain ⟨v1, v2, v3, v4, v5, v6⟩ := hV
  obtain ⟨b, hb, hs⟩ := v6 (i / 32) (by omega)
  have hbl : (part ys (i / 32)).length = 32 := part_len_eq (by omega)
  have fin : ∀ (tls : List (Addr × Obj)) (r r2 : Addr) (n2 : Nat), (r2, listOf ((part ys (i / 32)).set ((i : Int) % 32).toNat val).toArray n2) ∈ tls → Tree (Orr P tls) sh r (ls.set (i / 32) (.ref r2)) → ∃ ls', Parts (Orr P tls) c sh r off ls' (ys.set i val) zs := by
    intro tls r r2 n2 hm htr
    have e32 : ((i : Int) % 32).toNat = i % 32 := by omega
    rw [e32] at hm
    refine ⟨_, by rw [List.length_set]; exact v1, by rw [List.length_set]; exact v2, by rw [List.length_set, List.length_set]; exact v3, v4, htr, fun j hj => ?_⟩
    rw [List.length_set] at hj
    by_cases e : j = i / 32
    · refine ⟨r2, by rw [e, List.getElem?_set_self (by omega)], ?_⟩
      rw [part_set hi, if_pos e, e]
      exact LAt.of hm
    · obtain ⟨b', a1, a2⟩ := v6 j hj
      refine ⟨b', by rw [List.getElem?_set_ne (by omega)]; exact a1, ?_⟩
      rw [part_set hi, if_neg e]
      exact a2.mono (Sub.orr _ _)
  have ei : ((i / 32 : Nat) : Int) = (i : Int) / 32 := by omega
  rcases v5 with ⟨rfl, hlen, hr⟩ | ⟨rfl, ch, hr, hn⟩
  · refine doset5 ⟨C.B, C.F, C.X, C.T, C.fr, C.hf, C.hke, C.hh, by have := C.hd; omega, by have := C.hu; omega⟩ hx hdx (j := i / 32) (hr.is hP) (by omega) (by omega) hlen (by omega) (by omega) hb (hs.is hP) hbl fun r r2 h' tk n n2 ex ne => hret r _ h' tk ex ne (fin _ _ _ n2 (.tail _ (.head _)) (.inl ⟨rfl, ?_, LAt.of (.head _)⟩))
    rw [List.length_set]; exact hlen
  · obtain ⟨b1, hb1, hs1⟩ := hn.2 (i / 32 / 32) (by have := hn.1; omega)
    have hn1 := hn.1
    have hpl : (part ls (i / 32 / 32)).length = min 32 (ls.length - 32 * (i / 32 / 32)) := by unfold part; rw [List.length_take, List.length_drop]
    refine doset10 C hx hdx (j1 := i / 32 / 32) (j := i / 32 % 32) (hr.is hP) (by omega) (by omega) (by omega) (by omega) (by omega) hb1 (hs1.is hP) (part_len _ _) (by omega) (by omega) (part_get.trans hb) (hs.is hP) hbl fun r r1 r2 h' tk n n1 n2 ex ne => hret r _ h' tk ex ne (fin _ _ _ n2 (.tail _ (.head _)) (.inr ⟨rfl, _, LAt.of (.tail _ (.tail _ (.head _))), ?_⟩))
    refine ⟨by rw [List.length_set, List.length_set]; exact hn1, fun j hj => ?_⟩
    rw [List.length_set] at hj
    by_cases e : j = i / 32 / 32
    · refine ⟨r1, by rw [e, List.getElem?_set_self (by omega)], ?_⟩
      rw [part_set (by omega), if_pos e, e]
      exact LAt.of (.head _)
    · obtain ⟨b', a1, a2⟩ := hn.2 j hj
      refine ⟨b', by rw [List.getElem?_set_ne (by omega)]; exact a1, ?_⟩
      rw [part_set (by omega), if_neg e]
      exact a2.mono (Sub.orr _ _)

theorem w13_3 : True := by (k_with "call ref" => (k_here; (with_reducible show wpAny _ _ (call (Value.ref 197) _) _ _ _); k_dflt (refine' dosetT ?zzkC ?zzkx ?zzkd ?zzkiv ?zzkP ?zzkV ?zzki ?zzkl ?_; (case zzkC => walk_at "mcx"); (case zzkx => walk_at "hx"); (case zzkd => walk_at "hx"); (case zzkiv => assumption); (case zzkV => assumption); (case zzkP => walk_at "hP"); (case zzki => omega); (case zzkl => omega); intro zzr zztls zzh zztk zzext zznew zztr; (have zzF := frExt (by k_asm) zzext); (have zzN := newsExt (by k_asm) (by k_asm) zzext zznew); revert zzr zztls zzh zztk zzext zznew zztr zzF zzN; intro _ _ _ _ _ _ _ _ _; (try k_sweep)))); trivial
theorem w13_4 : True := by (k_with "call ref" => (k_here; (with_reducible show wpAny _ _ (call (Value.ref 221) _) _ _ _); k_dflt (refine' append_c ?zzkC ?zzkx ?zzkd ?zzkP ?zzkV ?zzkt ?zzkl ?_; (case zzkC => walk_at "mcx"); (case zzkx => walk_at "hx"); (case zzkd => walk_at "hx"); (case zzkV => assumption); (case zzkt => assumption); (case zzkP => walk_at "hP"); (case zzkl => omega); intro zzx zzdx zztl zzh zztk zzc zzt1 zzsh zzt2 zzrt zzoff zzt3 zzn zztls zzls zzys zzzs zzext zznew zzof zztr zze; (have zzF := frExt (by k_asm) zzext); (have zzN := newsExt (by k_asm) (by k_asm) zzext zznew); (simp only [List.cons_append] at zzN); revert zzx zzdx zztl zzh zztk zzc zzt1 zzsh zzt2 zzrt zzoff zzt3 zzn zztls zzls zzys zzzs zzext zznew zzof zztr zze zzF zzN; intro _ _ _ _ _ _ _ _ _ _ _ _ _ _ _ _ _ _ _ _ _ _ _ _; (try k_sweep)))); trivial

theorem reset14 : True := by
  k_with_none
  (k_with "kinst" => (refine' InstAt.of_base ?zzF ?zzh1 ?zzh2; (case zzF => k_asm); (case zzh1 => k_asm); (case zzh2 => k_asm)))
  (k_with "mcx" => exact ⟨by k_asm, by k_asm, by k_asm, by k_asm, rfl, by first | rfl | assumption, by first | rfl | assumption, rfl, by walk_at "room", by walk_at "unitz"⟩)
  (k_with "room" => first | exact rm 1 _ (by assumption) rfl (by exact rfl) | exact rm 0 _ (by assumption) rfl (by exact rfl) | exact rm 2 _ (by assumption) rfl (by exact rfl) | exact rm0 0 (by assumption) rfl (by exact rfl) | exact rm0 1 (by assumption) rfl (by exact rfl) | ((try simp only [depth_under_make, depth_under_kw, depth_in1, depth_deeper, depth_caller]); (try dsimp only [Around.deeper, Around.in1, Around.under]); omega))
  (k_with "unitz" => first | exact rm 3 _ (by assumption) rfl (by exact rfl) | exact rm 4 _ (by assumption) rfl (by exact rfl) | exact rm 0 _ (by assumption) rfl (by exact rfl) | exact rm 1 _ (by assumption) rfl (by exact rfl) | exact rm 6 _ (by assumption) rfl (by exact rfl) | exact rm 7 _ (by assumption) rfl (by exact rfl) | ((try simp only [units_in1, units_deeper, Around.mark_units, units_caller]); (try dsimp only [Around.deeper, Around.in1, Around.under]); omega))
  (k_with "menter" => (refine' enterX ?zzk1 ?zzk2 ?zzk3 ?zzk4 ?zzk5 ?zzkA ?zzkF ?zzkK ?zzk6 ?zzk7 ?zzk8 ?zzk9 ?zzkB ?_ ?zzc2 ?zzc3 ?zzc4 ?zzc5; (case zzkA => exact rfl); (case zzkF => first | exact rfl | assumption); (case zzkK => first | exact rfl | assumption); (case zzk1 => k_asm); (case zzk2 => k_asm); (case zzk3 => k_asm); (case zzk4 => first | exact News.nil | k_asm); (case zzk5 => k_asm); (case zzk6 => k_is); (case zzk7 => k_is); (case zzk8 => walk_at "room"); (case zzk9 => first | exact BindsTo.of_eq rfl | exact binds_K (by k_in) rfl (by k_is) rfl rfl rfl); (case zzc5 => decide); (case zzkB => exact locs rfl); (case zzc2 => exact rfl); (case zzc3 => exact rfl); (case zzc4 => exact rfl); k_whole; intro _ _ _ _ _ _ _ _ _ _; (try dsimp only); (try k_fold)))
  (k_with "call builtin:len" => (k_here; (with_reducible show wpAny _ _ (call (Value.builtin _) [Value.ref _]) _ _ _); (with_unfolding_all refine' len_list ?zzk1 ?zzk2 ?_; (case zzk1 => is_list); (case zzk2 => omega); k_whole)))
  (k_with "subscriptTail" => (k_here; (with_reducible show wpAny _ _ (subscriptTail _ _ (Value.ref _) (Value.int _ _)) _ _ _); (with_unfolding_all refine' item_list ?zzk1 ?zzk2 ?zzk3 ?zzk4 ?_ ?zzk6; (case zzk1 => is_list); (case zzk2 => first | assumption | exact rfl); (case zzk3 => omega); (case zzk4 => omega); (case zzk6 => with_unfolding_all rfl); k_whole)))
  (k_with "setItem ref int" => (k_here; (with_reducible show wpAny _ _ (setItem (Value.ref _) (Value.int _ _) _) _ _ _); k_dflt (refine' set_list ?zzk1 ?zzk2 ?zzk3 ?zzk4 ?zzk5 ?zzk6 ?_; (case zzk1 => k_asm); (case zzk2 => k_asm); (case zzk6 => k_upd); (case zzk3 => omega); (case zzk4 => omega); (case zzk5 => omega); k_whole); intro _ _ _; (try k_sweep)))
  (k_with "call builtin:list.append" => (k_here; (with_reducible show wpAny _ _ (call (Value.builtin _) [Value.ref _, _]) _ _ _); k_dflt (refine' app_list ?zzk1 ?zzk2 ?zzk3 ?zzk4 ?_; (case zzk1 => k_asm); (case zzk2 => k_asm); (case zzk4 => k_upd); (case zzk3 => omega); k_whole); intro _ _ _; (try k_sweep)))
  (k_with "call type:list" => (k_here; (with_reducible show wpAny _ _ (call (Value.type _) [Value.ref _]) _ _ _); (with_unfolding_all refine' copy_list' ?zzk1 ?zzk2 ?zzk3 ?zzk4 ?_; (case zzk1 => k_asm); (case zzk2 => k_asm); (case zzk3 => is_list); (case zzk4 => omega); k_whole); walk_at "in2"))
  (k_with "truthy ref" => (k_here; (with_reducible show wpAny _ _ (truthy (Value.ref _)) _ _ _); (with_unfolding_all refine' truthy_list' ?zzk1 ?zzk2 ?_; (case zzk1 => is_list); (case zzk2 => omega); k_whole)))
  (k_with "binaryOp BitAnd int int" => (k_here; (with_reducible refine and31 ?zzk1 ?_; (case zzk1 => omega)); intro _))
  (k_with "binaryOp RShift int int" => (k_here; first | with_reducible refine shr5 ?_ | with_reducible refine shr10 ?_; intro _))
  (k_with "call ref" => (k_here; (with_reducible show wpAny _ _ (call (Value.ref 296) _) _ _ _); k_dflt (refine' new_c ?zzkC ?zzkt ?zzkz ?_; (case zzkC => walk_at "mcx"); (case zzkt => is_list); (case zzkz => first | omega | (simp only [List.length_cons, List.length_nil]; omega)); intro zzx zztls zzh zztk zzdx zzt3 zzext zznew zze; subst zze; (have zzl1 := allNe_of (zznew _ (.head _)).2 (news_get (by k_asm))); (have zzl2 := allNe_of (zznew _ (.tail _ (.head _))).2 (news_get (by k_asm))); (have zzF := frExt (by k_asm) zzext); (have zzN := newsExt (by k_asm) (by k_asm) zzext zznew); (simp only [List.cons_append, List.nil_append] at zzN); (simp only [AllNe, and_true] at zzl1 zzl2); clear zzext zznew; revert zzx zzh zztk zzdx zzt3 zzl1 zzl2 zzF zzN; intro _ _ _ _ _ _ _ _ _; (try k_sweep))))
  (k_with "call ref" => (k_here; (with_reducible show wpAny _ _ (call (Value.ref 228) _) _ _ _); k_dflt (refine' newpath0 ?zzkC ?_; (case zzkC => walk_at "mcx"); intro zzh zztk zzext; (have zzF := frExt (by k_asm) zzext); (have zzN := newsExt (by k_asm) (by k_asm) zzext (tl := []) (fun _ hp => nomatch hp)); (simp only [List.nil_append] at zzN); clear zzext; revert zzh zztk zzF zzN; intro _ _ _ _; (try k_sweep))))
  (k_with "aft1" => (intro zzr zzh zztk zzn zzext zznew; (have zzl1 := allNe_of (zznew _ (.head _)).2 (news_get (by k_asm))); (have zzF := frExt (by k_asm) zzext); (have zzN := newsExt (by k_asm) (by k_asm) zzext zznew); (simp only [List.cons_append, List.nil_append] at zzN); (simp only [AllNe, and_true] at zzl1); clear zzext zznew; revert zzr zzh zztk zzn zzl1 zzF zzN; intro _ _ _ _ _ _ _; (try k_sweep)))
  (k_with "call ref" => (k_here; (with_reducible show wpAny _ _ (call (Value.ref 228) _) _ _ _); k_dflt (refine' newpath5 ?zzkC ?zzkx ?zzkd ?_; (case zzkC => walk_at "mcx"); (case zzkx => walk_at "hx"); (case zzkd => walk_at "hx"); walk_at "aft1")))
  (k_with "hx" => first | assumption | exact Fr.keep (by k_asm) _ _ (by assumption) | exact News.get (by k_asm) (by k_mem))
  (k_with "call ref" => (k_here; (with_reducible show wpAny _ _ (call (Value.ref 263) _) _ _ _); k_dflt (refine' push5 ?zzkC ?zzkp ?zzkz ?_; (case zzkC => walk_at "mcx"); (case zzkp => is_list); (case zzkz => omega); walk_at "aft1")))
  (k_with "aft2" => (intro zzr zzr2 zzh zztk zzn zzn2 zzext zznew; (have zzl1 := allNe_of (zznew _ (.head _)).2 (news_get (by k_asm))); (have zzl2 := allNe_of (zznew _ (.tail _ (.head _))).2 (news_get (by k_asm))); (have zzF := frExt (by k_asm) zzext); (have zzN := newsExt (by k_asm) (by k_asm) zzext zznew); (simp only [List.cons_append, List.nil_append] at zzN); (simp only [AllNe, and_true] at zzl1 zzl2); clear zzext zznew; revert zzr zzr2 zzh zztk zzn zzn2 zzl1 zzl2 zzF zzN; intro _ _ _ _ _ _ _ _ _ _; (try k_sweep)))
  (k_with "call ref" => (k_here; (with_reducible show wpAny _ _ (call (Value.ref 263) _) _ _ _); k_dflt (refine' pushT ?zzkC ?zzkx ?zzkd ?zzkP ?zzkT ?zzkc ?zzkl ?zzkn ?_; (case zzkC => walk_at "mcx"); (case zzkx => walk_at "hx"); (case zzkd => walk_at "hx"); (case zzkT => assumption); (case zzkP => walk_at "hP"); (case zzkc => omega); (case zzkl => omega); (case zzkn => omega); intro zzr zztls zzh zztk zzext zznew zztr; (have zzF := frExt (by k_asm) zzext); (have zzN := newsExt (by k_asm) (by k_asm) zzext zznew); revert zzr zztls zzh zztk zzext zznew zztr zzF zzN; intro _ _ _ _ _ _ _ _ _; (try k_sweep))))
  (k_with "hP" => first | assumption | exact hPk (by k_asm) (by assumption))
  (k_with "call ref" => (k_here; (with_reducible show wpAny _ _ (call (Value.ref 214) _) _ _ _); k_dflt (refine' root_c ?zzkC ?zzkx ?zzkd ?zzkP ?zzkT ?zzkc ?zzkl ?_; (case zzkC => walk_at "mcx"); (case zzkx => walk_at "hx"); (case zzkd => walk_at "hx"); (case zzkT => assumption); (case zzkP => walk_at "hP"); (case zzkc => omega); (case zzkl => omega); intro zztp zzr zztls zzh zztk zzsh zzt zzn zzext zznew zztr; (have zzF := frExt (by k_asm) zzext); (have zzN := newsExt (by k_asm) (by k_asm) zzext zznew); (simp only [List.cons_append] at zzN); revert zztp zzr zztls zzh zztk zzsh zzt zzn zzext zznew zztr zzF zzN; intro _ _ _ _ _ _ _ _ _ _ _ _ _; (try k_sweep))))
  (k_with "call ref" => (k_here; (with_reducible show wpAny _ _ (call (Value.ref 197) _) _ _ _); k_dflt (refine' dosetT ?zzkC ?zzkx ?zzkd ?zzkiv ?zzkP ?zzkV ?zzki ?zzkl ?_; (case zzkC => walk_at "mcx"); (case zzkx => walk_at "hx"); (case zzkd => walk_at "hx"); (case zzkiv => assumption); (case zzkV => assumption); (case zzkP => walk_at "hP"); (case zzki => omega); (case zzkl => omega); intro zzr zztls zzh zztk zzext zznew zztr; (have zzF := frExt (by k_asm) zzext); (have zzN := newsExt (by k_asm) (by k_asm) zzext zznew); revert zzr zztls zzh zztk zzext zznew zztr zzF zzN; intro _ _ _ _ _ _ _ _ _; (try k_sweep))))
  (k_with "call ref" => (k_here; (with_reducible show wpAny _ _ (call (Value.ref 221) _) _ _ _); k_dflt (refine' append_c ?zzkC ?zzkx ?zzkd ?zzkP ?zzkV ?zzkt ?zzkl ?_; (case zzkC => walk_at "mcx"); (case zzkx => walk_at "hx"); (case zzkd => walk_at "hx"); (case zzkV => assumption); (case zzkt => assumption); (case zzkP => walk_at "hP"); (case zzkl => omega); intro zzx zzdx zztl zzh zztk zzc zzt1 zzsh zzt2 zzrt zzoff zzt3 zzn zztls zzls zzys zzzs zzext zznew zzof zztr zze; (have zzF := frExt (by k_asm) zzext); (have zzN := newsExt (by k_asm) (by k_asm) zzext zznew); (simp only [List.cons_append] at zzN); revert zzx zzdx zztl zzh zztk zzc zzt1 zzsh zzt2 zzrt zzoff zzt3 zzn zztls zzls zzys zzzs zzext zznew zzof zztr zze zzF zzN; intro _ _ _ _ _ _ _ _ _ _ _ _ _ _ _ _ _ _ _ _ _ _ _ _; (try k_sweep))))
  trivial
set_option maxHeartbeats 4000000 in
theorem set_tp {w : World} {A A₀ : Around} {env : Env} {outer : List Env} {base h₀ : Heap} {L : Addr} {m : PySem.Str → Option Value} {mean : ExcName → Option Value} {mg mb : PySem.Str → Option Value} {s : Shared} {Q E : Value → Shared → Prop}
    (C : Cx w 100 500 A A₀ env outer base h₀ L m mean mg mb s) {x dx rt tl : Addr} {c sh off : Int} {t1 t2 t3 : Tok} (hx : s.heap.get? x = some (vecObj dx c t1 sh t2 rt tl off t3)) (hdx : s.heap.get? dx = some (dictOf [] 0)) {zs : List Value} {val : Value} {i : Int} {ti : Tok} (ht : s.heap.IsList tl zs.toArray) (hz : zs.length ≤ 32) (hi : 0 ≤ i) (h1 : i < c) (h2 : off ≤ i) (hc : c ≤ 100000) (h3 : i % 32 < zs.length)
    (hret : ∀ x' dx' tl' h' tk t1' t2' t3' n', Ext s.heap h' → NewIn s.heap h' [(x', vecObj dx' c t1' sh t2' rt tl' (c - (zs.set (i % 32).toNat val).length) t3'), (dx', dictOf [] 0), (tl', listOf (zs.set (i % 32).toNat val).toArray n')] → Q (.ref x') { s with heap := h', toks := tk }) :
    wpAny (model PySem.Challenge.rw_im0011_01.row.prog w) A (call (.ref 190) [.ref x, .int i ti, val]) Q E s := by
  have : (PySem.Challenge.rw_im0011_01, Mine.kx.heap_1) = (PySem.Challenge.rw_im0011_01, Mine.kx.heap_1) := by k_fill; rfl
  obtain ⟨B, F, X, T, fr, hf, hke, hh, hd, hu⟩ := C
  obtain ⟨hdl, dp, frs, gd, un⟩ := A
  dsimp only at fr hh hd hu
  subst hh fr
  refine wpAny_call ?_
  k_dflt walk_at "menter"
  rename_i g' L' h1 Ug Eg F' N' B' X'' T'
  replace Ug := ug0 Ug
  replace hx := Ug _ _ hx
  replace hdx := Ug _ _ hdx
  replace ht := listExt Ug ht
  have hz2 : (zs.set (i % 32).toNat val).length ≤ 32 := by rw [List.length_set]; omega
  k_steps
  rename Fr _ _ _ _ => F9
  rename News _ _ _ _ => N9
  show Q _ _
  exact hret _ _ _ _ _ _ _ _ _ (extOf Ug F9) (newInOf Ug N9)

set_option maxHeartbeats 4000000 in
theorem set_tn {w : World} {A A₀ : Around} {env : Env} {outer : List Env} {base h₀ : Heap} {L : Addr} {m : PySem.Str → Option Value} {mean : ExcName → Option Value} {mg mb : PySem.Str → Option Value} {s : Shared} {Q E : Value → Shared → Prop}
    (C : Cx w 100 500 A A₀ env outer base h₀ L m mean mg mb s) {x dx rt tl : Addr} {c sh off : Int} {t1 t2 t3 : Tok} (hx : s.heap.get? x = some (vecObj dx c t1 sh t2 rt tl off t3)) (hdx : s.heap.get? dx = some (dictOf [] 0)) {zs : List Value} {val : Value} {i : Int} {ti : Tok} (ht : s.heap.IsList tl zs.toArray) (hz : zs.length ≤ 32) (hi : i < 0) (hi0 : 0 ≤ i + c) (h1 : (i + c) < c) (h2 : off ≤ (i + c)) (hc : c ≤ 100000) (h3 : (i + c) % 32 < zs.length)
    (hret : ∀ x' dx' tl' h' tk t1' t2' t3' n', Ext s.heap h' → NewIn s.heap h' [(x', vecObj dx' c t1' sh t2' rt tl' (c - (zs.set ((i + c) % 32).toNat val).length) t3'), (dx', dictOf [] 0), (tl', listOf (zs.set ((i + c) % 32).toNat val).toArray n')] → Q (.ref x') { s with heap := h', toks := tk }) :
    wpAny (model PySem.Challenge.rw_im0011_01.row.prog w) A (call (.ref 190) [.ref x, .int i ti, val]) Q E s := by
  have : (PySem.Challenge.rw_im0011_01, Mine.kx.heap_1) = (PySem.Challenge.rw_im0011_01, Mine.kx.heap_1) := by k_fill; rfl
  obtain ⟨B, F, X, T, fr, hf, hke, hh, hd, hu⟩ := C
  obtain ⟨hdl, dp, frs, gd, un⟩ := A
  dsimp only at fr hh hd hu
  subst hh fr
  refine wpAny_call ?_
  k_dflt walk_at "menter"
  rename_i g' L' h1 Ug Eg F' N' B' X'' T'
  replace Ug := ug0 Ug
  replace hx := Ug _ _ hx
  replace hdx := Ug _ _ hdx
  replace ht := listExt Ug ht
  have hz2 : (zs.set ((i + c) % 32).toNat val).length ≤ 32 := by rw [List.length_set]; omega
  k_steps
  rename Fr _ _ _ _ => F9
  rename News _ _ _ _ => N9
  show Q _ _
  exact hret _ _ _ _ _ _ _ _ _ (extOf Ug F9) (newInOf Ug N9)

set_option maxHeartbeats 4000000 in
theorem set_rp {w : World} {A A₀ : Around} {env : Env} {outer : List Env} {base h₀ : Heap} {L : Addr} {m : PySem.Str → Option Value} {mean : ExcName → Option Value} {mg mb : PySem.Str → Option Value} {s : Shared} {Q E : Value → Shared → Prop}
    (C : Cx w 100 500 A A₀ env outer base h₀ L m mean mg mb s) {x dx rt tl : Addr} {c sh off : Int} {t1 t2 t3 : Tok} (hx : s.heap.get? x = some (vecObj dx c t1 sh t2 rt tl off t3)) (hdx : s.heap.get? dx = some (dictOf [] 0)) {ls ys zs : List Value} {val : Value} {i : Int} {n : Nat} {ti : Tok} {P : Kn} (hP : ∀ a o, P a o → s.heap.get? a = some o) (hV : Parts P c sh rt off ls ys zs) (ht : s.heap.IsList tl zs.toArray) (hz : zs.length ≤ 32) (hi : 0 ≤ i) (hn : i = (n : Int)) (h1 : i < c) (h2 : i < off) (hc : c ≤ 100000) (hny : n < ys.length) (hl : ys.length ≤ 20000)
    (hret : ∀ x' dx' h' tk t1' t2' rt' t3' tls, Ext s.heap h' → NewIn s.heap h' ((x', vecObj dx' c t1' sh t2' rt' tl (c - zs.length) t3') :: (dx', dictOf [] 0) :: tls) → (∃ ls', Parts (Orr P tls) c sh rt' off ls' (ys.set n val) zs) → Q (.ref x') { s with heap := h', toks := tk }) :
    wpAny (model PySem.Challenge.rw_im0011_01.row.prog w) A (call (.ref 190) [.ref x, .int i ti, val]) Q E s := by
  have : (PySem.Challenge.rw_im0011_01, Mine.kx.heap_1) = (PySem.Challenge.rw_im0011_01, Mine.kx.heap_1) := by k_fill; rfl
  obtain ⟨B, F, X, T, fr, hf, hke, hh, hd, hu⟩ := C
  obtain ⟨hdl, dp, frs, gd, un⟩ := A
  dsimp only at fr hh hd hu
  subst hh fr
  refine wpAny_call ?_
  k_dflt walk_at "menter"
  rename_i g' L' h1 Ug Eg F' N' B' X'' T'
  replace Ug := ug0 Ug
  replace hx := Ug _ _ hx
  replace hdx := Ug _ _ hdx
  replace ht := listExt Ug ht
  replace hP : ∀ a o, P a o → g'.get? a = some o := fun a o e => Ug _ _ (hP a o e)
  k_steps
  rename Fr _ _ _ _ => F9
  rename News _ _ _ _ => N9
  show Q _ _
  rename Exists _ => tr9
  rw [List.append_nil] at N9
  exact hret _ _ _ _ _ _ _ _ _ (extOf Ug F9) (newInOf Ug N9) tr9

set_option maxHeartbeats 4000000 in
theorem set_rn {w : World} {A A₀ : Around} {env : Env} {outer : List Env} {base h₀ : Heap} {L : Addr} {m : PySem.Str → Option Value} {mean : ExcName → Option Value} {mg mb : PySem.Str → Option Value} {s : Shared} {Q E : Value → Shared → Prop}
    (C : Cx w 100 500 A A₀ env outer base h₀ L m mean mg mb s) {x dx rt tl : Addr} {c sh off : Int} {t1 t2 t3 : Tok} (hx : s.heap.get? x = some (vecObj dx c t1 sh t2 rt tl off t3)) (hdx : s.heap.get? dx = some (dictOf [] 0)) {ls ys zs : List Value} {val : Value} {i : Int} {n : Nat} {ti : Tok} {P : Kn} (hP : ∀ a o, P a o → s.heap.get? a = some o) (hV : Parts P c sh rt off ls ys zs) (ht : s.heap.IsList tl zs.toArray) (hz : zs.length ≤ 32) (hi : i < 0) (hi0 : 0 ≤ i + c) (hn : (i + c) = (n : Int)) (h1 : (i + c) < c) (h2 : (i + c) < off) (hc : c ≤ 100000) (hny : n < ys.length) (hl : ys.length ≤ 20000)
    (hret : ∀ x' dx' h' tk t1' t2' rt' t3' tls, Ext s.heap h' → NewIn s.heap h' ((x', vecObj dx' c t1' sh t2' rt' tl (c - zs.length) t3') :: (dx', dictOf [] 0) :: tls) → (∃ ls', Parts (Orr P tls) c sh rt' off ls' (ys.set n val) zs) → Q (.ref x') { s with heap := h', toks := tk }) :
    wpAny (model PySem.Challenge.rw_im0011_01.row.prog w) A (call (.ref 190) [.ref x, .int i ti, val]) Q E s := by
  have : (PySem.Challenge.rw_im0011_01, Mine.kx.heap_1) = (PySem.Challenge.rw_im0011_01, Mine.kx.heap_1) := by k_fill; rfl
  obtain ⟨B, F, X, T, fr, hf, hke, hh, hd, hu⟩ := C
  obtain ⟨hdl, dp, frs, gd, un⟩ := A
  dsimp only at fr hh hd hu
  subst hh fr
  refine wpAny_call ?_
  k_dflt walk_at "menter"
  rename_i g' L' h1 Ug Eg F' N' B' X'' T'
  replace Ug := ug0 Ug
  replace hx := Ug _ _ hx
  replace hdx := Ug _ _ hdx
  replace ht := listExt Ug ht
  replace hP : ∀ a o, P a o → g'.get? a = some o := fun a o e => Ug _ _ (hP a o e)
  k_steps
  rename Fr _ _ _ _ => F9
  rename News _ _ _ _ => N9
  show Q _ _
  rename Exists _ => tr9
  rw [List.append_nil] at N9
  exact hret _ _ _ _ _ _ _ _ _ (extOf Ug F9) (newInOf Ug N9) tr9

set_option maxHeartbeats 4000000 in
theorem set_ap {w : World} {A A₀ : Around} {env : Env} {outer : List Env} {base h₀ : Heap} {L : Addr} {m : PySem.Str → Option Value} {mean : ExcName → Option Value} {mg mb : PySem.Str → Option Value} {s : Shared} {Q E : Value → Shared → Prop}
    (C : Cx w 120 600 A A₀ env outer base h₀ L m mean mg mb s) {x dx rt tl : Addr} {c sh off : Int} {t1 t2 t3 : Tok} (hx : s.heap.get? x = some (vecObj dx c t1 sh t2 rt tl off t3)) (hdx : s.heap.get? dx = some (dictOf [] 0)) {ls ys zs : List Value} {val : Value} {i : Int} {ti : Tok} {P : Kn} (hP : ∀ a o, P a o → s.heap.get? a = some o) (hV : Parts P c sh rt off ls ys zs) (ht : LAt P tl zs) (hi : 0 ≤ i) (hic : i = c) (hl : ys.length ≤ 20000)
    (hret : ∀ x' dx' tl' h' tk c' t1' sh' t2' rt' off' t3' n' rest ls' ys' zs', Ext s.heap h' → NewIn s.heap h' ((x', vecObj dx' c' t1' sh' t2' rt' tl' off' t3') :: (dx', dictOf [] 0) :: (tl', listOf zs'.toArray n') :: rest) →
      Parts (Orr P rest) c' sh' rt' off' ls' ys' zs' → ys' ++ zs' = ys ++ zs ++ [val] → Q (.ref x') { s with heap := h', toks := tk }) :
    wpAny (model PySem.Challenge.rw_im0011_01.row.prog w) A (call (.ref 190) [.ref x, .int i ti, val]) Q E s := by
  have : (PySem.Challenge.rw_im0011_01, Mine.kx.heap_1) = (PySem.Challenge.rw_im0011_01, Mine.kx.heap_1) := by k_fill; rfl
  obtain ⟨B, F, X, T, fr, hf, hke, hh, hd, hu⟩ := C
  obtain ⟨hdl, dp, frs, gd, un⟩ := A
  dsimp only at fr hh hd hu
  subst hh fr
  refine wpAny_call ?_
  k_dflt walk_at "menter"
  rename_i g' L' h1 Ug Eg F' N' B' X'' T'
  replace Ug := ug0 Ug
  replace hx := Ug _ _ hx
  replace hdx := Ug _ _ hdx
  replace hP : ∀ a o, P a o → g'.get? a = some o := fun a o e => Ug _ _ (hP a o e)
  have he : (i == c) = true := by simp [hic]
  have hd1 : decide (i = c) = true := by simp [hic]
  k_steps
  rename Fr _ _ _ _ => F9
  rename News _ _ _ _ => N9
  show Q _ _
  rename Parts _ _ _ _ _ _ _ _ => tr9
  rename (_ ++ _ = _ ++ _) => e9
  rw [List.append_nil] at N9
  exact hret _ _ _ _ _ _ _ _ _ _ _ _ _ _ _ _ _ (extOf Ug F9) (newInOf Ug N9) tr9 e9

theorem set_app1 {ys zs : List Value} {n : Nat} {v : Value} (h : n < ys.length) : (ys ++ zs).set n v = ys.set n v ++ zs := List.set_append_left _ _ h
theorem set_app2 {ys zs : List Value} {n : Nat} {v : Value} (h : ys.length ≤ n) : (ys ++ zs).set n v = ys ++ zs.set (n - ys.length) v := List.set_append_right _ _ h
theorem Vec.mk' {P : Kn} {tls rest : List (Addr × Obj)} {x dx tl rt : Addr} {c sh off : Int} {t1 t2 t3 : Tok} {ls ys zs xs : List Value} (h1 : (x, vecObj dx c t1 sh t2 rt tl off t3) ∈ tls) (h2 : (dx, dictOf [] 0) ∈ tls) (h3 : LAt (Orr P tls) tl zs) (k : ∀ q ∈ rest, q ∈ tls) (hV : Parts (Orr P rest) c sh rt off ls ys zs) (e : xs = ys ++ zs) : Vec (Orr P tls) x xs :=
  ⟨dx, c, t1, sh, t2, rt, tl, off, t3, ls, ys, zs, .inr h1, .inr h2, hV.mono fun a o h => h.imp id (k _), h3, e⟩

/-- set, at a place within -/
theorem set_c {w : World} {A A₀ : Around} {env : Env} {outer : List Env} {base h₀ : Heap} {L : Addr} {m : PySem.Str → Option Value} {mean : ExcName → Option Value} {mg mb : PySem.Str → Option Value} {s : Shared} {Q E : Value → Shared → Prop}
    (C : Cx w 120 600 A A₀ env outer base h₀ L m mean mg mb s) {x : Addr} {xs : List Value} {val : Value} {P : Kn} {i : Int} {n : Nat} {ti : Tok} (hP : ∀ a o, P a o → s.heap.get? a = some o) (hV : Vec P x xs) (hl : xs.length ≤ 20000)
    (hi : (0 ≤ i ∧ i = n) ∨ (i < 0 ∧ i + xs.length = n)) (hn : n < xs.length)
    (hret : ∀ r tls h' tk, Ext s.heap h' → NewIn s.heap h' tls → Vec (Orr P tls) r (xs.set n val) → Q (.ref r) { s with heap := h', toks := tk }) :
    wpAny (model PySem.Challenge.rw_im0011_01.row.prog w) A (call (.ref 190) [.ref x, .int i ti, val]) Q E s := by
  obtain ⟨dx, c, t1, sh, t2, rt, tl, off, t3, ls, ys, zs, hx, hdx, hp, ht, rfl⟩ := hV
  rw [List.length_append] at hi hn hl
  have v1 := hp.hlen
  have v2 := hp.hoff
  have v3 := hp.hys
  have v4 := hp.hzs
  have C' : Cx w 100 500 A A₀ env outer base h₀ L m mean mg mb s := ⟨C.B, C.F, C.X, C.T, C.fr, C.hf, C.hke, C.hh, by have := C.hd; omega, by have := C.hu; omega⟩
  have tailEnd : ∀ (iv : Int), iv = n → ys.length ≤ n → ∀ x' dx' tl' h' tk t1' t2' t3' n', Ext s.heap h' → NewIn s.heap h' [(x', vecObj dx' c t1' sh t2' rt tl' (c - (zs.set (iv % 32).toNat val).length) t3'), (dx', dictOf [] 0), (tl', listOf (zs.set (iv % 32).toNat val).toArray n')] → Q (.ref x') { s with heap := h', toks := tk } := by
    intro iv e hy x' dx' tl' h' tk t1' t2' t3' n' ex ne
    have e2 : (iv % 32).toNat = n - ys.length := by omega
    rw [e2] at ne
    refine hret x' _ h' tk ex ne (Vec.mk' (rest := []) (ls := ls) (ys := ys) (zs := zs.set (n - ys.length) val) (.head _) (.tail _ (.head _)) (LAt.of (.tail _ (.tail _ (.head _)))) (fun _ h => nomatch h) ⟨?_, ?_, v3, ?_, hp.tree.mono (Sub.orr _ _), fun j hj => let ⟨b, e, x⟩ := hp.leaves j hj; ⟨b, e, x.mono (Sub.orr _ _)⟩⟩ (set_app2 hy))
    · rw [List.length_set]; exact v1
    · rw [List.length_set]; omega
    · rw [List.length_set]; exact v4
  have treeEnd : n < ys.length → ∀ x' dx' h' tk t1' t2' rt' t3' tls, Ext s.heap h' → NewIn s.heap h' ((x', vecObj dx' c t1' sh t2' rt' tl (c - zs.length) t3') :: (dx', dictOf [] 0) :: tls) → (∃ ls', Parts (Orr P tls) c sh rt' off ls' (ys.set n val) zs) → Q (.ref x') { s with heap := h', toks := tk } := by
    intro hy x' dx' h' tk t1' t2' rt' t3' tls ex ne ⟨ls', hp'⟩
    have e2 : c - (zs.length : Int) = off := by omega
    rw [e2] at ne
    exact hret x' _ h' tk ex ne (Vec.mk' (rest := tls) (ls := ls') (ys := ys.set n val) (zs := zs) (.head _) (.tail _ (.head _)) (ht.mono (Sub.orr _ _)) (fun _ h => .tail _ (.tail _ h)) hp' (set_app1 hy))
  rcases hi with ⟨h0, e⟩ | ⟨h0, e⟩
  · by_cases hy : ys.length ≤ n
    · exact set_tp C' (hP _ _ hx) (hP _ _ hdx) (ht.is hP) v4 h0 (by omega) (by omega) (by omega) (by omega) (tailEnd i e hy)
    · exact set_rp C' (hP _ _ hx) (hP _ _ hdx) (ls := ls) (n := n) hP hp (ht.is hP) v4 h0 e (by omega) (by omega) (by omega) (by omega) (by omega) (treeEnd (by omega))
  · have ec : i + c = n := by omega
    by_cases hy : ys.length ≤ n
    · exact set_tn C' (hP _ _ hx) (hP _ _ hdx) (ht.is hP) v4 h0 (by omega) (by omega) (by omega) (by omega) (by omega) (tailEnd (i + c) ec hy)
    · exact set_rn C' (hP _ _ hx) (hP _ _ hdx) (ls := ls) (n := n) hP hp (ht.is hP) v4 h0 (by omega) ec (by omega) (by omega) (by omega) (by omega) (by omega) (treeEnd (by omega))
/-- set, right behind the end -/
theorem set_e {w : World} {A A₀ : Around} {env : Env} {outer : List Env} {base h₀ : Heap} {L : Addr} {m : PySem.Str → Option Value} {mean : ExcName → Option Value} {mg mb : PySem.Str → Option Value} {s : Shared} {Q E : Value → Shared → Prop}
    (C : Cx w 120 600 A A₀ env outer base h₀ L m mean mg mb s) {x : Addr} {xs : List Value} {val : Value} {P : Kn} {i : Int} {ti : Tok} (hP : ∀ a o, P a o → s.heap.get? a = some o) (hV : Vec P x xs) (hl : xs.length ≤ 20000)
    (hi : i = xs.length) (hret : ∀ r tls h' tk, Ext s.heap h' → NewIn s.heap h' tls → Vec (Orr P tls) r (xs ++ [val]) → Q (.ref r) { s with heap := h', toks := tk }) :
    wpAny (model PySem.Challenge.rw_im0011_01.row.prog w) A (call (.ref 190) [.ref x, .int i ti, val]) Q E s := by
  obtain ⟨dx, c, t1, sh, t2, rt, tl, off, t3, ls, ys, zs, hx, hdx, hp, ht, rfl⟩ := hV
  rw [List.length_append] at hi hl
  have v1 := hp.hlen
  exact set_ap C (hP _ _ hx) (hP _ _ hdx) hP hp ht (by omega) (by omega) (by omega) fun x' dx' tl' h' tk c' t1' sh' t2' rt' off' t3' n' rest ls' ys' zs' ex ne hp' e => hret x' _ h' tk ex ne (Vec.mk' (rest := rest) (.head _) (.tail _ (.head _)) (LAt.of (.tail _ (.tail _ (.head _)))) (fun _ h => .tail _ (.tail _ (.tail _ h))) hp' e.symm)
/-- append -/
theorem append_v {w : World} {A A₀ : Around} {env : Env} {outer : List Env} {base h₀ : Heap} {L : Addr} {m : PySem.Str → Option Value} {mean : ExcName → Option Value} {mg mb : PySem.Str → Option Value} {s : Shared} {Q E : Value → Shared → Prop}
    (C : Cx w 80 400 A A₀ env outer base h₀ L m mean mg mb s) {x : Addr} {xs : List Value} {val : Value} {P : Kn} (hP : ∀ a o, P a o → s.heap.get? a = some o) (hV : Vec P x xs) (hl : xs.length ≤ 20000)
    (hret : ∀ r tls h' tk, Ext s.heap h' → NewIn s.heap h' tls → Vec (Orr P tls) r (xs ++ [val]) → Q (.ref r) { s with heap := h', toks := tk }) :
    wpAny (model PySem.Challenge.rw_im0011_01.row.prog w) A (call (.ref 221) [.ref x, val]) Q E s := by
  obtain ⟨dx, c, t1, sh, t2, rt, tl, off, t3, ls, ys, zs, hx, hdx, hp, ht, rfl⟩ := hV
  rw [List.length_append] at hl
  exact append_c C (hP _ _ hx) (hP _ _ hdx) hP hp ht (by omega) fun x' dx' tl' h' tk c' t1' sh' t2' rt' off' t3' n' rest ls' ys' zs' ex ne _ hp' e => hret x' _ h' tk ex ne (Vec.mk' (rest := rest) (.head _) (.tail _ (.head _)) (LAt.of (.tail _ (.tail _ (.head _)))) (fun _ h => .tail _ (.tail _ (.tail _ h))) hp' e.symm)

/-- all but the objects at `as` stand -/
def ExtB (as : List Addr) (h h' : Heap) : Prop := ∀ b o, b ∉ as → h.get? b = some o → h'.get? b = some o
theorem frB {h₀ h h' : Heap} {L : Addr} {m : PySem.Str → Option Value} {as : List Addr} (F : Fr h₀ L h m) (ha : ∀ a ∈ as, a ≠ L ∧ h₀.get? a = none) (x : ExtB as h h') : Fr h₀ L h' m := by
  obtain ⟨oL, es, ep, hL, r⟩ := F.ns
  refine ⟨⟨oL, es, ep, x L oL (fun hm => (ha L hm).1 rfl) hL, r⟩, fun b o e => x b o (fun hm => ?_) (F.keep b o e), F.above⟩
  rw [(ha b hm).2] at e; cases e
section
variable {prog : Program} {w : World} {A : Around} {E : Value → Shared → Prop} {s : Shared} {h₀ : Heap} {L D b : Addr} {m : PySem.Str → Option Value} {news : List (Addr × Obj)} {g : Obj → List (Addr × Obj)} {ys its : List Value} {n n2 : Nat}
theorem ext_list {Q : Value → Shared → Prop} (F : Fr h₀ L s.heap m) (N : News h₀ L s.heap news) (hb : s.heap.get? b = some (listOf its.toArray n2)) (hsz : ys.length + its.length ≤ 1000000) (U : UpdF D (listOf ys.toArray n) news g)
    (h : ∀ h' n', Fr h₀ L h' m → News h₀ L h' (g (listOf (ys ++ its).toArray n')) → Q .none { s with heap := h' }) : wpAny (model prog w) A (call (.builtin "list.extend") [.ref D, .ref b]) Q E s := by
  obtain ⟨own, rest, rfl, hg, h1, h2⟩ := U.split
  refine extend_in F N h1 h2 hb (fun h' n' F' N' => h h' n' F' ?_) (by rw [List.size_toArray, PySem.sizeLine_eq]; omega)
  rw [hg]; exact N'
end

def LpEnd (h₀ : Heap) (L I : Addr) (oI : Obj) (pre : List (Addr × Obj)) (J : (PySem.Str → Option Value) → List (Addr × Obj) → Prop) (s₁ s₂ : Shared) : Prop :=
  ∃ h' tk m' nx, s₂ = { s₁ with heap := h', toks := tk } ∧ Fr h₀ L h' m' ∧ News h₀ L h' ((I, oI) :: (pre ++ nx)) ∧ (∀ p ∈ nx, p.1 ≠ I) ∧ J m' nx
def LpPost (h₀ : Heap) (L I : Addr) (oI : Obj) (pre : List (Addr × Obj)) (J : (PySem.Str → Option Value) → List (Addr × Obj) → Prop) (s₁ : Shared) (Q : Flow → Shared → Prop) (f : Flow) (s₂ : Shared) : Prop :=
  match f with
  | .ret v => Q (.ret v) s₂
  | .brk => Q .next s₂
  | _ => LpEnd h₀ L I oI pre J s₁ s₂
section
variable {prog : Program} {w : World} {A : Around} {E : Value → Shared → Prop} {s : Shared} {env : Env} {h₀ : Heap} {x : PySem.Str} {body : List Stmt} {Q : Flow → Shared → Prop}
/-- a for over a list that stands (below the frame, or in the ledger as `pre`), by an invariant over the frame and the ledger, that may grow -/
theorem iter_any {l : Addr} {vs : List Value} {m₀ : PySem.Str → Option Value} {news pre : List (Addr × Obj)} (J : Nat → (PySem.Str → Option Value) → List (Addr × Obj) → Prop)
    (hh : A.handled = none) (hls : s.heap.IsList l vs.toArray) (hpre : (pre = [] ∧ ∃ o, h₀.get? l = some o) ∨ ∃ lo, pre = [(l, lo)]) (F : Fr h₀ env.locals s.heap m₀) (N : News h₀ env.locals s.heap (pre ++ news)) (hj : J 0 m₀ news)
    (turn : ∀ i v m₁ news₁ h tk I oI, vs[i]? = some v → J i m₁ news₁ → (∀ p ∈ news₁, p.1 ≠ I) → Fr h₀ env.locals h (fun y => if y = x then some v else m₁ y) → News h₀ env.locals h ((I, oI) :: (pre ++ news₁)) →
      wpAny (model prog w) A (execs body env) (LpPost h₀ env.locals I oI pre (J (i + 1)) { s with heap := h, toks := tk } Q) E { s with heap := h, toks := tk })
    (done : ∀ m₁ news₁ h tk, J vs.length m₁ news₁ → Fr h₀ env.locals h m₁ → News h₀ env.locals h (pre ++ news₁) → Q .next { s with heap := h, toks := tk }) :
    wpAny (model prog w) A (pyIter (.ref l)) (fun it s₂ => LoopAtV prog w A h₀ env x body Q E it s₂) E s := by
  have hls' := hls
  obtain ⟨ol, hol, hlr⟩ := id hls
  have hLl : env.locals ≠ l := fun e => by
    rcases hpre with ⟨_, o, ho⟩ | ⟨lo, rfl⟩
    · exact absurd (Nat.lt_of_lt_of_le (Heap.lt_size ho) F.above) (e ▸ Nat.lt_irrefl _)
    · exact (N (l, lo) (.head _)).2.1 e.symm
  have hlt : l < s.heap.objs.size := Heap.lt_size hol
  have hne : l ≠ s.heap.objs.size := Nat.ne_of_lt hlt
  refine wpAny_pyIter_list hls ?_
  have W := Walks.list (prog := prog) (w := w) hh s.heap.objs.size l hne vs.toArray
  have hsz : vs.toArray.size = vs.length := by simp
  rw [hsz] at W
  have hnone : h₀.get? s.heap.objs.size = none := next_is_new F
  let J' : Nat → (PySem.Str → Option Value) → List (Addr × Obj) → Prop := fun i m₁ nx => ∃ news₁, nx = pre ++ news₁ ∧ J i m₁ news₁
  refine ⟨_, _, _, vs.length, _, _, m₀, pre ++ news, J', rfl, W, ?_, ?_, ?_, ⟨⟨_, Heap.get?_push_size _ rfl, rfl, rfl⟩, hls.at fun o e => Heap.get?_push_of_some _ e⟩, F.push _, (fun p hp => ⟨Heap.get?_push_of_some _ (N p hp).1, (N p hp).2⟩), ⟨news, rfl, hj⟩, ?_, ?_⟩
  · intro hm
    rcases List.mem_cons.mp hm with e | hm
    · exact absurd F.ns.lt (e ▸ Nat.lt_irrefl _)
    · exact hLl (List.mem_singleton.mp hm)
  · intro b hb
    rw [List.mem_singleton.mp hb]
    exact hnone
  · intro p hp hI
    exact absurd (Heap.lt_size (N p hp).1) ((List.mem_singleton.mp hI) ▸ Nat.lt_irrefl _)
  · rintro i v m₁ nx s₁ own ⟨hh', tk', rfl⟩ hin hP ⟨news₁, rfl, hJ⟩ hoff hown hget hall hst F₁ N₁
    obtain ⟨oI, hoI, _⟩ := hst.1
    have hIn : (s.heap.objs.size, oI) ∈ own := hall _ (.head _) hnone oI hoI
    have hoffI : ∀ p ∈ pre ++ news₁, p.1 ≠ s.heap.objs.size := fun p hp e => hoff p hp (by rw [e]; exact .head _)
    have N₂ : News h₀ env.locals hh' ((s.heap.objs.size, oI) :: (pre ++ news₁)) := fun p hp => by
      rcases List.mem_cons.mp hp with rfl | hp
      · exact N₁ _ (List.mem_append_left _ hIn)
      · exact N₁ _ (List.mem_append_right _ hp)
    have hv : vs[i]? = some v := by simpa using hP
    refine wpAny_mono (turn i v m₁ news₁ hh' tk' _ oI hv hJ (fun p hp => hoffI p (List.mem_append_right _ hp)) F₁ N₂) (fun f s₂ pp => ?_) fun _ _ e => e
    have fin : LpEnd h₀ env.locals s.heap.objs.size oI pre (J (i + 1)) { s with heap := hh', toks := tk' } s₂ → LoopStepU h₀ env.locals [s.heap.objs.size] own (J' (i + 1)) { s with heap := hh', toks := tk' } .next s₂ := by
      rintro ⟨h', tk, m', nx', e, F', N', hn, hm⟩
      refine ⟨rfl, h', tk, m', pre ++ nx', e, F', fun p hp => ?_, fun p hp hq => ?_, nx', rfl, hm⟩
      · rcases List.mem_append.mp hp with hpo | hp
        · rcases List.mem_cons.mp (hown p hpo) with e1 | e1
          · have : p = (s.heap.objs.size, oI) := by
              obtain ⟨pa, po⟩ := p
              have e1' : pa = s.heap.objs.size := e1
              subst e1'
              have := hget _ hpo
              rw [hoI] at this
              cases this; rfl
            rw [this]; exact N' _ (.head _)
          · have e1 := List.mem_singleton.mp e1
            rcases hpre with ⟨_, o, ho⟩ | ⟨lo, rfl⟩
            · have := (N₁ p (List.mem_append_left _ hpo)).2.2
              rw [e1, ho] at this; cases this
            · have g1 := hget p hpo
              have g2 := (N₂ (l, lo) (.tail _ (.head _))).1
              obtain ⟨pa, po⟩ := p
              have e1' : pa = l := e1
              subst e1'
              dsimp only at g1 g2
              rw [g1] at g2
              cases g2
              exact N' _ (.tail _ (.head _))
        · exact N' _ (.tail _ hp)
      · rcases List.mem_append.mp hp with hp | hp
        · exact hoffI p (List.mem_append_left _ hp) (List.mem_singleton.mp hq)
        · exact hn p hp (List.mem_singleton.mp hq)
    cases f with
    | ret v => exact .ret pp
    | brk => exact .brk pp
    | next => exact .next (fin pp)
    | cont => exact .cont (fin pp)
  · rintro h' tk m' nx F' N' _ ⟨news₁, rfl, hJ⟩
    exact done m' news₁ h' tk hJ F' N'
end

section
variable {prog : Program} {w : World} {A : Around} {E : Value → Shared → Prop} {s : Shared} {env : Env} {h₀ : Heap} {x : PySem.Str} {body : List Stmt} {Q : Flow → Shared → Prop}
theorem map_off {x : PySem.Str} {v : Option Value} {m₁ m₀ : PySem.Str → Option Value} (h : ∀ y, y ≠ x → m₁ y = m₀ y) : (fun y => if y = x then v else m₁ y) = fun y => if y = x then v else m₀ y := by
  funext y
  by_cases e : y = x
  · simp only [if_pos e]
  · simp only [if_neg e]; exact h y e
theorem map_self {x : PySem.Str} {m₁ m₀ : PySem.Str → Option Value} (h : ∀ y, y ≠ x → m₁ y = m₀ y) : m₁ = fun y => if y = x then m₁ y else m₀ y := by
  funext y
  by_cases e : y = x
  · simp only [if_pos e]
  · simp only [if_neg e]; exact h y e
/-- the same, where the body stores the loop's own name alone -/
theorem iter_v {l : Addr} {vs : List Value} {m₀ : PySem.Str → Option Value} {news pre : List (Addr × Obj)} (J : Nat → List (Addr × Obj) → Prop)
    (hh : A.handled = none) (hls : s.heap.IsList l vs.toArray) (hpre : (pre = [] ∧ ∃ o, h₀.get? l = some o) ∨ ∃ lo, pre = [(l, lo)]) (F : Fr h₀ env.locals s.heap m₀) (N : News h₀ env.locals s.heap (pre ++ news)) (hj : J 0 news)
    (turn : ∀ i v news₁ h tk I oI, vs[i]? = some v → J i news₁ → (∀ p ∈ news₁, p.1 ≠ I) → Fr h₀ env.locals h (fun y => if y = x then some v else m₀ y) → News h₀ env.locals h ((I, oI) :: (pre ++ news₁)) →
      wpAny (model prog w) A (execs body env) (LpPost h₀ env.locals I oI pre (fun m' nx => (∀ y, y ≠ x → m' y = m₀ y) ∧ J (i + 1) nx) { s with heap := h, toks := tk } Q) E { s with heap := h, toks := tk })
    (done : ∀ (u : PySem.Str → Option Value) news₁ h tk, J vs.length news₁ → Fr h₀ env.locals h (fun y => if y = x then u y else m₀ y) → News h₀ env.locals h (pre ++ news₁) → Q .next { s with heap := h, toks := tk }) :
    wpAny (model prog w) A (pyIter (.ref l)) (fun it s₂ => LoopAtV prog w A h₀ env x body Q E it s₂) E s := by
  refine iter_any (fun i m₁ nx => (∀ y, y ≠ x → m₁ y = m₀ y) ∧ J i nx) hh hls hpre F N ⟨fun _ _ => rfl, hj⟩ ?_ ?_
  · rintro i v m₁ news₁ h tk I oI hv ⟨hm, hJ⟩ hI F₁ N₁
    rw [map_off hm] at F₁
    exact turn i v news₁ h tk I oI hv hJ hI F₁ N₁
  · rintro m₁ news₁ h tk ⟨hm, hJ⟩ F₁ N₁
    rw [map_self hm] at F₁
    exact done m₁ news₁ h tk hJ F₁ N₁
end

theorem w16_1 : True := by (k_with "msteps" => repeat' (first | (k_unfold; (try dsimp only)) | ((fail_if_success (with_reducible show wpAny _ _ (exec (Stmt.For _ _ _ _ _) _) _ _ _)); (fail_if_success (with_reducible show wpAny _ _ (exec (Stmt.While _ _ _ _) _) _ _ _)); first | walk1 | (dsimp only; walk1) | (leave1; (try dsimp only))))); trivial
theorem w16_2 : True := by (k_with "menterN" => (refine' enterX ?zzk1 ?zzk2 ?zzk3 ?zzk4 ?zzk5 ?zzkA ?zzkF ?zzkK ?zzk6 ?zzk7 ?zzk8 ?zzk9 ?zzkB ?_ ?zzc2 ?zzc3 ?zzc4 ?zzc5; (case zzkA => exact rfl); (case zzkF => first | exact rfl | assumption); (case zzkK => first | exact rfl | assumption); (case zzk1 => k_asm); (case zzk2 => k_asm); (case zzk3 => k_asm); (case zzk4 => k_asm); (case zzk5 => k_asm); (case zzk6 => k_is); (case zzk7 => k_is); (case zzk8 => walk_at "room"); (case zzk9 => exact BindsTo.of_eq rfl); (case zzc5 => decide); (case zzkB => exact locs rfl); (case zzc2 => exact rfl); (case zzc3 => exact rfl); (case zzc4 => exact rfl); k_whole; intro _ _ _ _ _ _ _ _ _ _; (try dsimp only); (try k_fold))); trivial
theorem w16_3 : True := by (k_with "call builtin:list.extend" => (k_here; (with_reducible show wpAny _ _ (call (Value.builtin _) [Value.ref _, Value.ref _]) _ _ _); k_dflt (refine' ext_list ?zzF ?zzN ?zzb ?zzz ?zzU ?_; (case zzF => k_asm); (case zzN => k_asm); (case zzU => k_updF); (case zzb => walk_at "hx"); (case zzz => omega); k_whole); intro zzh zzn zzF zzN; (try dsimp only at zzN); revert zzh zzn zzF zzN; intro _ _ _ _; (try k_sweep))); trivial

set_option maxHeartbeats 4000000 in
theorem fill0 {w : World} {A A₀ : Around} {env : Env} {outer : List Env} {base h₀ : Heap} {L : Addr} {m : PySem.Str → Option Value} {mean : ExcName → Option Value} {mg mb : PySem.Str → Option Value} {s : Shared} {Q E : Value → Shared → Prop}
    (C : Cx w 20 80 A A₀ env outer base h₀ L m mean mg mb s) {x : Value} {nd T₁ : Addr} {leaf its : List Value} {n n2 : Nat} {t : Tok} (hTn : News h₀ L s.heap [(T₁, listOf its.toArray n)]) (hnd : s.heap.get? nd = some (listOf leaf.toArray n2)) (hne : nd ≠ T₁) (hsz : its.length + leaf.length ≤ 100000)
    (hret : ∀ h' tk n', ExtB [T₁] s.heap h' → h'.get? T₁ = some (listOf (its ++ leaf).toArray n') → Q .none { s with heap := h', toks := tk }) :
    wpAny (model PySem.Challenge.rw_im0011_01.row.prog w) A (call (.ref 169) [x, .ref nd, .int 0 t, .ref T₁]) Q E s := by
  have : (PySem.Challenge.rw_im0011_01, Mine.kx.heap_1) = (PySem.Challenge.rw_im0011_01, Mine.kx.heap_1) := by k_fill; rfl
  obtain ⟨B, F, X, T, fr, hf, hke, hh, hd, hu⟩ := C
  obtain ⟨hdl, dp, frs, gd, un⟩ := A
  dsimp only at fr hh hd hu
  subst hh fr
  refine wpAny_call ?_
  k_dflt walk_at "menterN"
  rename_i g' L' h1 Ug Eg F' N' B' X'' T'
  have hnd' := Ug _ _ hnd (by simp [hne])
  walk_at "msteps"
  rename Fr _ _ _ _ => F9
  rename News _ _ _ _ => N9
  exact hret _ _ _ (fun b o hb e => F9.keep _ _ (Ug b o e hb)) (N9 _ (.head _)).1

def FillSpec (w : World) (D U : Nat) (P : Kn) (x : Addr) (lv : Int) (nd : Addr) (cont : List Value) : Prop :=
  ∀ {A A₀ : Around} {env : Env} {outer : List Env} {base h₀ : Heap} {L : Addr} {m : PySem.Str → Option Value} {mean : ExcName → Option Value} {mg mb : PySem.Str → Option Value} {s : Shared} {Q E : Value → Shared → Prop}
    (_C : Cx w D U A A₀ env outer base h₀ L m mean mg mb s) {T₁ : Addr} {its : List Value} {n : Nat} {t : Tok} (_hP : ∀ a o, P a o → s.heap.get? a = some o) (_hPT : ∀ a o, P a o → a ≠ T₁) (_hTn : News h₀ L s.heap [(T₁, listOf its.toArray n)]) (_hsz : its.length + cont.length ≤ 100000)
    (_hret : ∀ h' tk n', ExtB [T₁] s.heap h' → h'.get? T₁ = some (listOf (its ++ cont).toArray n') → Q .none { s with heap := h', toks := tk }),
    wpAny (model PySem.Challenge.rw_im0011_01.row.prog w) A (call (.ref 169) [.ref x, .ref nd, .int lv t, .ref T₁]) Q E s
theorem fill_use {w : World} {D U : Nat} {P : Kn} {x : Addr} {lv : Int} {nd : Addr} {cont : List Value} (H : FillSpec w D U P x lv nd cont)
    {A A₀ : Around} {env : Env} {outer : List Env} {base h₀ : Heap} {L : Addr} {m : PySem.Str → Option Value} {mean : ExcName → Option Value} {mg mb : PySem.Str → Option Value} {s : Shared} {Q E : Value → Shared → Prop}
    (C : Cx w D U A A₀ env outer base h₀ L m mean mg mb s) {T₁ : Addr} {its : List Value} {n : Nat} {t : Tok} (hP : ∀ a o, P a o → s.heap.get? a = some o) (hPT : ∀ a o, P a o → a ≠ T₁) (hTn : News h₀ L s.heap [(T₁, listOf its.toArray n)]) (hsz : its.length + cont.length ≤ 100000)
    (hret : ∀ h' tk n', ExtB [T₁] s.heap h' → h'.get? T₁ = some (listOf (its ++ cont).toArray n') → Q .none { s with heap := h', toks := tk }) :
    wpAny (model PySem.Challenge.rw_im0011_01.row.prog w) A (call (.ref 169) [.ref x, .ref nd, .int lv t, .ref T₁]) Q E s := H C hP hPT hTn hsz hret
theorem fillSpec0 {w : World} {P : Kn} {x nd : Addr} {leaf : List Value} (hnd : LAt P nd leaf) : FillSpec w 20 80 P x 0 nd leaf := by
  intro A A₀ env outer base h₀ L m mean mg mb s Q E C T₁ its n t hP hPT hTn hsz hret
  obtain ⟨n2, hx⟩ := hnd
  exact fill0 C hTn (hP _ _ hx) (hPT _ _ hx) hsz hret
/-- one mutable list is written by a call: the frame and the ledger behind it -/
theorem news_one {h₀ h h' : Heap} {L T₁ : Addr} {o o' : Obj} {pre post : List (Addr × Obj)} (N : News h₀ L h (pre ++ (T₁, o) :: post)) (h1 : ∀ p ∈ pre, p.1 ≠ T₁) (h2 : ∀ p ∈ post, p.1 ≠ T₁) (x : ExtB [T₁] h h') (e : h'.get? T₁ = some o') : News h₀ L h' (pre ++ (T₁, o') :: post) := by
  intro p hp
  rcases List.mem_append.mp hp with hp | hp
  · have z := N p (List.mem_append_left _ hp)
    exact ⟨x _ _ (by simpa using h1 p hp) z.1, z.2⟩
  · rcases List.mem_cons.mp hp with rfl | hp
    · exact ⟨e, (N (T₁, o) (List.mem_append_right _ (.head _))).2⟩
    · have z := N p (List.mem_append_right _ (.tail _ hp))
      exact ⟨x _ _ (by simpa using h2 p hp) z.1, z.2⟩
theorem News.off {h₀ h : Heap} {L a : Addr} {o : Obj} {q : Addr × Obj} (N : News h₀ L h (q :: [(a, o)])) : a ≠ L ∧ h₀.get? a = none := (N _ (.tail _ (.head _))).2
theorem news_sub {h₀ h : Heap} {L : Addr} {a b : List (Addr × Obj)} (N : News h₀ L h b) (k : ∀ p ∈ a, p ∈ b) : News h₀ L h a := fun p hp => N p (k p hp)
theorem take_step {ys : List Value} {k i : Nat} : ys.take (k * i) ++ (ys.drop (k * i)).take k = ys.take (k * (i + 1)) := by
  rw [Nat.mul_add, Nat.mul_one, List.take_add]

theorem o17_1 : True := by (k_with "call ref" => (k_here; (with_reducible show wpAny _ _ (call (Value.ref 169) _) _ _ _); k_dflt (refine' fill_use ?zzkH ?zzkC ?zzkP ?zzkPT ?zzkN ?zzkz ?_; (case zzkH => assumption); (case zzkC => walk_at "mcx"); (case zzkP => walk_at "hP"); (case zzkN => exact news_sub (by k_asm) (fun p hp => .tail _ hp)); (case zzkPT => assumption); (case zzkz => assumption); intro zzh zztk zzn zzext zze; (have zzF := frB (by k_asm) (fun a ha => by rw [List.mem_singleton.mp ha]; exact (News.off (by k_asm))) zzext); (have zzN := news_one (pre := [_]) (post := []) (by k_asm) (fun p hp => by rw [List.mem_singleton.mp hp]; assumption) (fun _ hp => nomatch hp) zzext zze); (simp only [List.cons_append, List.nil_append] at zzN); clear zzext zze; revert zzh zztk zzn zzF zzN; intro _ _ _ _ _; (try k_sweep)))); trivial
set_option maxHeartbeats 4000000 in
theorem fillS {w : World} {A A₀ : Around} {env : Env} {outer : List Env} {base h₀ : Heap} {L : Addr} {m : PySem.Str → Option Value} {mean : ExcName → Option Value} {mg mb : PySem.Str → Option Value} {s : Shared} {Q E : Value → Shared → Prop}
    {D U : Nat} (C : Cx w (D + 20) (U + 100) A A₀ env outer base h₀ L m mean mg mb s) {x dx rt tl : Addr} {c sh off : Int} {t1 t2 t3 : Tok} (hx : s.heap.get? x = some (vecObj dx c t1 sh t2 rt tl off t3)) (hdx : s.heap.get? dx = some (dictOf [] 0)) {nd T₁ : Addr} {its ch ys : List Value} {n n2 k : Nat} {t : Tok} {lv : Int} {P : Kn} (hP : ∀ a o, P a o → s.heap.get? a = some o) (hPT : ∀ a o, P a o → a ≠ T₁) (hxT : x ≠ T₁) (hdT : dx ≠ T₁) (hTn : News h₀ L s.heap [(T₁, listOf its.toArray n)]) (hnd : s.heap.get? nd = some (listOf ch.toArray n2)) (hne : nd ≠ T₁) (hsz : its.length + ys.length ≤ 100000) (hlv : (lv != 0) = true)
    (H : ∀ j, j < ch.length → ∃ b, ch[j]? = some (.ref b) ∧ FillSpec w D U P x (lv - 5) b ((ys.drop (k * j)).take k))
    (hret : ∀ h' tk n', ExtB [T₁] s.heap h' → h'.get? T₁ = some (listOf (its ++ ys.take (k * ch.length)).toArray n') → Q .none { s with heap := h', toks := tk }) :
    wpAny (model PySem.Challenge.rw_im0011_01.row.prog w) A (call (.ref 169) [.ref x, .ref nd, .int lv t, .ref T₁]) Q E s := by
  have : (PySem.Challenge.rw_im0011_01, Mine.kx.heap_1) = (PySem.Challenge.rw_im0011_01, Mine.kx.heap_1) := by k_fill; rfl
  obtain ⟨B, F, X, T, fr, hf, hke, hh, hd, hu⟩ := C
  obtain ⟨hdl, dp, frs, gd, un⟩ := A
  dsimp only at fr hh hd hu
  subst hh fr
  refine wpAny_call ?_
  k_dflt walk_at "menterN"
  rename_i g' L' h1 Ug Eg F' N' B' X'' T'
  have hnd' := Ug _ _ hnd (by simp [hne])
  have hx' := Ug _ _ hx (by simp [hxT])
  have hdx' := Ug _ _ hdx (by simp [hdT])
  have hP' : ∀ a o, P a o → g'.get? a = some o := fun a o e => Ug _ _ (hP a o e) (by simp [hPT a o e])
  walk_at "msteps"
  rename Fr _ _ _ _ => F9
  rename News _ _ _ _ => N9
  refine For_invVF F9 rfl rfl ?_
  walk1
  refine iter_v (news := [(T₁, listOf its.toArray n)]) (pre := []) (fun i nx => ∃ n', nx = [(T₁, listOf (its ++ ys.take (k * i)).toArray n')]) rfl ⟨_, F9.keep _ _ hnd', rfl, n2, rfl⟩ (.inl ⟨rfl, _, hnd'⟩) F9 N9 ⟨n, by simp⟩ ?_ ?_
  · rintro i v news₁ h tk₁ I oI hv ⟨n', rfl⟩ hI F₁ N₁
    obtain ⟨hi, hvi⟩ := List.getElem?_eq_some_iff.mp hv
    obtain ⟨b, hb, Hb⟩ := H i hi
    rw [hv] at hb
    cases hb
    have hIT : I ≠ T₁ := fun e => hI _ (.head _) e.symm
    have hz : (its ++ ys.take (k * i)).length + ((ys.drop (k * i)).take k).length ≤ 100000 := by
      have := congrArg List.length (take_step (ys := ys) (k := k) (i := i))
      rw [List.length_append] at this ⊢
      have h2 : (ys.take (k * (i + 1))).length ≤ ys.length := by rw [List.length_take]; exact Nat.min_le_right _ _
      omega
    clear N9 F9
    simp only [List.nil_append] at N₁
    walk_at "msteps"
    rename Fr _ _ _ _ => F9
    rename News _ _ _ _ => N9
    rw [List.append_assoc, take_step] at N9
    exact ⟨_, _, _, [(T₁, _)], rfl, F9, N9, fun p hp => by rw [List.mem_singleton.mp hp]; exact hIT.symm, fun y hy => if_neg hy, ⟨_, rfl⟩⟩
  · rintro u news₁ h tk₁ ⟨n', rfl⟩ F₁ N₁
    clear N9 F9
    simp only [List.nil_append] at N₁
    walk_at "msteps"
    rename Fr _ _ _ _ => F9
    rename News _ _ _ _ => N9
    exact hret _ _ _ (fun b o hb e => F9.keep _ _ (Ug b o e hb)) (N9 _ (.head _)).1

theorem part_part {ys : List Value} {j i : Nat} : List.take 32 (List.drop (32 * i) (List.take 1024 (List.drop (1024 * j) ys))) = if i < 32 then part ys (32 * j + i) else [] := by
  unfold part
  rw [List.drop_take, List.take_take, List.drop_drop]
  split
  · rw [show min 32 (1024 - 32 * i) = 32 by omega, show 1024 * j + 32 * i = 32 * (32 * j + i) by omega]
  · rw [show min 32 (1024 - 32 * i) = 0 by omega, List.take_zero]
theorem part_get2 {l : List Value} {j i : Nat} (h : i < 32) : (part l j)[i]? = l[32 * j + i]? := by
  unfold part
  rw [List.getElem?_take_of_lt h, List.getElem?_drop]
theorem fillT {w : World} {P : Kn} {x dx rt tl rt' : Addr} {c sh off sh' : Int} {t1 t2 t3 : Tok} (hx : P x (vecObj dx c t1 sh t2 rt tl off t3)) (hdx : P dx (dictOf [] 0)) {ls ys : List Value} (hT : Tree P sh' rt' ls) (hy : ys.length = 32 * ls.length)
    (hl : ∀ j, j < ls.length → ∃ b, ls[j]? = some (.ref b) ∧ LAt P b (part ys j)) : FillSpec w 60 280 P x sh' rt' ys := by
  intro A A₀ env outer base h₀ L m mean mg mb s Q E C T₁ its n t hP hPT hTn hsz hret
  rcases hT with ⟨rfl, hlen, n2, hr⟩ | ⟨rfl, ch, ⟨n2, hr⟩, hn⟩
  · refine fillS (D := 40) (U := 180) (k := 32) C (hP _ _ hx) (hP _ _ hdx) hP hPT (hPT _ _ hx) (hPT _ _ hdx) hTn (hP _ _ hr) (hPT _ _ hr) hsz rfl (fun j hj => ?_) fun h' tk n' ex e => hret h' tk n' ex ?_
    · obtain ⟨b, a1, a2⟩ := hl j hj
      refine ⟨b, a1, ?_⟩
      intro A A₀ env outer base h₀ L m mean mg mb s Q E C T₁ its n t hP hPT hTn hsz hret
      exact fillSpec0 (x := x) a2 ⟨C.B, C.F, C.X, C.T, C.fr, C.hf, C.hke, C.hh, by have := C.hd; omega, by have := C.hu; omega⟩ hP hPT hTn hsz hret
    · rw [List.take_of_length_le (by omega)] at e; exact e
  · refine fillS (D := 40) (U := 180) (k := 1024) C (hP _ _ hx) (hP _ _ hdx) hP hPT (hPT _ _ hx) (hPT _ _ hdx) hTn (hP _ _ hr) (hPT _ _ hr) hsz rfl (fun j hj => ?_) fun h' tk n' ex e => hret h' tk n' ex ?_
    · obtain ⟨b, a1, n3, a2⟩ := hn.2 j hj
      refine ⟨b, a1, ?_⟩
      intro A A₀ env outer base h₀ L m mean mg mb s Q E C T₁ its n t hP hPT hTn hsz hret
      refine fillS (D := 20) (U := 80) (k := 32) C (hP _ _ hx) (hP _ _ hdx) hP hPT (hPT _ _ hx) (hPT _ _ hdx) hTn (hP _ _ a2) (hPT _ _ a2) hsz rfl (fun i hi => ?_) fun h' tk n' ex e => hret h' tk n' ex ?_
      · have hpl : (part ls j).length = min 32 (ls.length - 32 * j) := by unfold part; rw [List.length_take, List.length_drop]
        obtain ⟨b', c1, c2⟩ := hl (32 * j + i) (by omega)
        refine ⟨b', (part_get2 (by omega)).trans c1, ?_⟩
        rw [part_part, if_pos (by omega)]
        exact fillSpec0 (x := x) c2
      · have hpl : (part ls j).length = min 32 (ls.length - 32 * j) := by unfold part; rw [List.length_take, List.length_drop]
        rw [List.take_of_length_le (by rw [List.length_take, List.length_drop]; omega)] at e; exact e
    · rw [List.take_of_length_le (by have := hn.1; omega)] at e; exact e

theorem reset18 : True := by
  k_with_none
  (k_with "kinst" => (refine' InstAt.of_base ?zzF ?zzh1 ?zzh2; (case zzF => k_asm); (case zzh1 => k_asm); (case zzh2 => k_asm)))
  (k_with "mcx" => exact ⟨by k_asm, by k_asm, by k_asm, by k_asm, rfl, by first | rfl | assumption, by first | rfl | assumption, rfl, by walk_at "room", by walk_at "unitz"⟩)
  (k_with "room" => first | exact rm 1 _ (by assumption) rfl (by exact rfl) | exact rm 0 _ (by assumption) rfl (by exact rfl) | exact rm 2 _ (by assumption) rfl (by exact rfl) | exact rm0 0 (by assumption) rfl (by exact rfl) | exact rm0 1 (by assumption) rfl (by exact rfl) | ((try simp only [depth_under_make, depth_under_kw, depth_in1, depth_deeper, depth_caller]); (try dsimp only [Around.deeper, Around.in1, Around.under]); omega))
  (k_with "unitz" => first | exact rm 3 _ (by assumption) rfl (by exact rfl) | exact rm 4 _ (by assumption) rfl (by exact rfl) | exact rm 0 _ (by assumption) rfl (by exact rfl) | exact rm 1 _ (by assumption) rfl (by exact rfl) | exact rm 6 _ (by assumption) rfl (by exact rfl) | exact rm 7 _ (by assumption) rfl (by exact rfl) | ((try simp only [units_in1, units_deeper, Around.mark_units, units_caller]); (try dsimp only [Around.deeper, Around.in1, Around.under]); omega))
  (k_with "menter" => (refine' enterX ?zzk1 ?zzk2 ?zzk3 ?zzk4 ?zzk5 ?zzkA ?zzkF ?zzkK ?zzk6 ?zzk7 ?zzk8 ?zzk9 ?zzkB ?_ ?zzc2 ?zzc3 ?zzc4 ?zzc5; (case zzkA => exact rfl); (case zzkF => first | exact rfl | assumption); (case zzkK => first | exact rfl | assumption); (case zzk1 => k_asm); (case zzk2 => k_asm); (case zzk3 => k_asm); (case zzk4 => first | exact News.nil | k_asm); (case zzk5 => k_asm); (case zzk6 => k_is); (case zzk7 => k_is); (case zzk8 => walk_at "room"); (case zzk9 => first | exact BindsTo.of_eq rfl | exact binds_K (by k_in) rfl (by k_is) rfl rfl rfl); (case zzc5 => decide); (case zzkB => exact locs rfl); (case zzc2 => exact rfl); (case zzc3 => exact rfl); (case zzc4 => exact rfl); k_whole; intro _ _ _ _ _ _ _ _ _ _; (try dsimp only); (try k_fold)))
  (k_with "call builtin:len" => (k_here; (with_reducible show wpAny _ _ (call (Value.builtin _) [Value.ref _]) _ _ _); (with_unfolding_all refine' len_list ?zzk1 ?zzk2 ?_; (case zzk1 => is_list); (case zzk2 => omega); k_whole)))
  (k_with "subscriptTail" => (k_here; (with_reducible show wpAny _ _ (subscriptTail _ _ (Value.ref _) (Value.int _ _)) _ _ _); (with_unfolding_all refine' item_list ?zzk1 ?zzk2 ?zzk3 ?zzk4 ?_ ?zzk6; (case zzk1 => is_list); (case zzk2 => first | assumption | exact rfl); (case zzk3 => omega); (case zzk4 => omega); (case zzk6 => with_unfolding_all rfl); k_whole)))
  (k_with "setItem ref int" => (k_here; (with_reducible show wpAny _ _ (setItem (Value.ref _) (Value.int _ _) _) _ _ _); k_dflt (refine' set_list ?zzk1 ?zzk2 ?zzk3 ?zzk4 ?zzk5 ?zzk6 ?_; (case zzk1 => k_asm); (case zzk2 => k_asm); (case zzk6 => k_upd); (case zzk3 => omega); (case zzk4 => omega); (case zzk5 => omega); k_whole); intro _ _ _; (try k_sweep)))
  (k_with "call builtin:list.append" => (k_here; (with_reducible show wpAny _ _ (call (Value.builtin _) [Value.ref _, _]) _ _ _); k_dflt (refine' app_list ?zzk1 ?zzk2 ?zzk3 ?zzk4 ?_; (case zzk1 => k_asm); (case zzk2 => k_asm); (case zzk4 => k_upd); (case zzk3 => omega); k_whole); intro _ _ _; (try k_sweep)))
  (k_with "call type:list" => (k_here; (with_reducible show wpAny _ _ (call (Value.type _) [Value.ref _]) _ _ _); (with_unfolding_all refine' copy_list' ?zzk1 ?zzk2 ?zzk3 ?zzk4 ?_; (case zzk1 => k_asm); (case zzk2 => k_asm); (case zzk3 => is_list); (case zzk4 => omega); k_whole); walk_at "in2"))
  (k_with "truthy ref" => (k_here; (with_reducible show wpAny _ _ (truthy (Value.ref _)) _ _ _); (with_unfolding_all refine' truthy_list' ?zzk1 ?zzk2 ?_; (case zzk1 => is_list); (case zzk2 => omega); k_whole)))
  (k_with "binaryOp BitAnd int int" => (k_here; (with_reducible refine and31 ?zzk1 ?_; (case zzk1 => omega)); intro _))
  (k_with "binaryOp RShift int int" => (k_here; first | with_reducible refine shr5 ?_ | with_reducible refine shr10 ?_; intro _))
  (k_with "call ref" => (k_here; (with_reducible show wpAny _ _ (call (Value.ref 296) _) _ _ _); k_dflt (refine' new_c ?zzkC ?zzkt ?zzkz ?_; (case zzkC => walk_at "mcx"); (case zzkt => is_list); (case zzkz => first | omega | (simp only [List.length_cons, List.length_nil]; omega)); intro zzx zztls zzh zztk zzdx zzt3 zzext zznew zze; subst zze; (have zzl1 := allNe_of (zznew _ (.head _)).2 (news_get (by k_asm))); (have zzl2 := allNe_of (zznew _ (.tail _ (.head _))).2 (news_get (by k_asm))); (have zzF := frExt (by k_asm) zzext); (have zzN := newsExt (by k_asm) (by k_asm) zzext zznew); (simp only [List.cons_append, List.nil_append] at zzN); (simp only [AllNe, and_true] at zzl1 zzl2); clear zzext zznew; revert zzx zzh zztk zzdx zzt3 zzl1 zzl2 zzF zzN; intro _ _ _ _ _ _ _ _ _; (try k_sweep))))
  (k_with "call ref" => (k_here; (with_reducible show wpAny _ _ (call (Value.ref 228) _) _ _ _); k_dflt (refine' newpath0 ?zzkC ?_; (case zzkC => walk_at "mcx"); intro zzh zztk zzext; (have zzF := frExt (by k_asm) zzext); (have zzN := newsExt (by k_asm) (by k_asm) zzext (tl := []) (fun _ hp => nomatch hp)); (simp only [List.nil_append] at zzN); clear zzext; revert zzh zztk zzF zzN; intro _ _ _ _; (try k_sweep))))
  (k_with "aft1" => (intro zzr zzh zztk zzn zzext zznew; (have zzl1 := allNe_of (zznew _ (.head _)).2 (news_get (by k_asm))); (have zzF := frExt (by k_asm) zzext); (have zzN := newsExt (by k_asm) (by k_asm) zzext zznew); (simp only [List.cons_append, List.nil_append] at zzN); (simp only [AllNe, and_true] at zzl1); clear zzext zznew; revert zzr zzh zztk zzn zzl1 zzF zzN; intro _ _ _ _ _ _ _; (try k_sweep)))
  (k_with "call ref" => (k_here; (with_reducible show wpAny _ _ (call (Value.ref 228) _) _ _ _); k_dflt (refine' newpath5 ?zzkC ?zzkx ?zzkd ?_; (case zzkC => walk_at "mcx"); (case zzkx => walk_at "hx"); (case zzkd => walk_at "hx"); walk_at "aft1")))
  (k_with "hx" => first | assumption | exact Fr.keep (by k_asm) _ _ (by assumption) | exact News.get (by k_asm) (by k_mem))
  (k_with "call ref" => (k_here; (with_reducible show wpAny _ _ (call (Value.ref 263) _) _ _ _); k_dflt (refine' push5 ?zzkC ?zzkp ?zzkz ?_; (case zzkC => walk_at "mcx"); (case zzkp => is_list); (case zzkz => omega); walk_at "aft1")))
  (k_with "aft2" => (intro zzr zzr2 zzh zztk zzn zzn2 zzext zznew; (have zzl1 := allNe_of (zznew _ (.head _)).2 (news_get (by k_asm))); (have zzl2 := allNe_of (zznew _ (.tail _ (.head _))).2 (news_get (by k_asm))); (have zzF := frExt (by k_asm) zzext); (have zzN := newsExt (by k_asm) (by k_asm) zzext zznew); (simp only [List.cons_append, List.nil_append] at zzN); (simp only [AllNe, and_true] at zzl1 zzl2); clear zzext zznew; revert zzr zzr2 zzh zztk zzn zzn2 zzl1 zzl2 zzF zzN; intro _ _ _ _ _ _ _ _ _ _; (try k_sweep)))
  (k_with "call ref" => (k_here; (with_reducible show wpAny _ _ (call (Value.ref 263) _) _ _ _); k_dflt (refine' pushT ?zzkC ?zzkx ?zzkd ?zzkP ?zzkT ?zzkc ?zzkl ?zzkn ?_; (case zzkC => walk_at "mcx"); (case zzkx => walk_at "hx"); (case zzkd => walk_at "hx"); (case zzkT => assumption); (case zzkP => walk_at "hP"); (case zzkc => omega); (case zzkl => omega); (case zzkn => omega); intro zzr zztls zzh zztk zzext zznew zztr; (have zzF := frExt (by k_asm) zzext); (have zzN := newsExt (by k_asm) (by k_asm) zzext zznew); revert zzr zztls zzh zztk zzext zznew zztr zzF zzN; intro _ _ _ _ _ _ _ _ _; (try k_sweep))))
  (k_with "hP" => first | assumption | exact hPk (by k_asm) (by assumption))
  (k_with "call ref" => (k_here; (with_reducible show wpAny _ _ (call (Value.ref 214) _) _ _ _); k_dflt (refine' root_c ?zzkC ?zzkx ?zzkd ?zzkP ?zzkT ?zzkc ?zzkl ?_; (case zzkC => walk_at "mcx"); (case zzkx => walk_at "hx"); (case zzkd => walk_at "hx"); (case zzkT => assumption); (case zzkP => walk_at "hP"); (case zzkc => omega); (case zzkl => omega); intro zztp zzr zztls zzh zztk zzsh zzt zzn zzext zznew zztr; (have zzF := frExt (by k_asm) zzext); (have zzN := newsExt (by k_asm) (by k_asm) zzext zznew); (simp only [List.cons_append] at zzN); revert zztp zzr zztls zzh zztk zzsh zzt zzn zzext zznew zztr zzF zzN; intro _ _ _ _ _ _ _ _ _ _ _ _ _; (try k_sweep))))
  (k_with "call ref" => (k_here; (with_reducible show wpAny _ _ (call (Value.ref 197) _) _ _ _); k_dflt (refine' dosetT ?zzkC ?zzkx ?zzkd ?zzkiv ?zzkP ?zzkV ?zzki ?zzkl ?_; (case zzkC => walk_at "mcx"); (case zzkx => walk_at "hx"); (case zzkd => walk_at "hx"); (case zzkiv => assumption); (case zzkV => assumption); (case zzkP => walk_at "hP"); (case zzki => omega); (case zzkl => omega); intro zzr zztls zzh zztk zzext zznew zztr; (have zzF := frExt (by k_asm) zzext); (have zzN := newsExt (by k_asm) (by k_asm) zzext zznew); revert zzr zztls zzh zztk zzext zznew zztr zzF zzN; intro _ _ _ _ _ _ _ _ _; (try k_sweep))))
  (k_with "call ref" => (k_here; (with_reducible show wpAny _ _ (call (Value.ref 221) _) _ _ _); k_dflt (refine' append_c ?zzkC ?zzkx ?zzkd ?zzkP ?zzkV ?zzkt ?zzkl ?_; (case zzkC => walk_at "mcx"); (case zzkx => walk_at "hx"); (case zzkd => walk_at "hx"); (case zzkV => assumption); (case zzkt => assumption); (case zzkP => walk_at "hP"); (case zzkl => omega); intro zzx zzdx zztl zzh zztk zzc zzt1 zzsh zzt2 zzrt zzoff zzt3 zzn zztls zzls zzys zzzs zzext zznew zzof zztr zze; (have zzF := frExt (by k_asm) zzext); (have zzN := newsExt (by k_asm) (by k_asm) zzext zznew); (simp only [List.cons_append] at zzN); revert zzx zzdx zztl zzh zztk zzc zzt1 zzsh zzt2 zzrt zzoff zzt3 zzn zztls zzls zzys zzzs zzext zznew zzof zztr zze zzF zzN; intro _ _ _ _ _ _ _ _ _ _ _ _ _ _ _ _ _ _ _ _ _ _ _ _; (try k_sweep))))
  (k_with "msteps" => repeat' (first | (k_unfold; (try dsimp only)) | ((fail_if_success (with_reducible show wpAny _ _ (exec (Stmt.For _ _ _ _ _) _) _ _ _)); (fail_if_success (with_reducible show wpAny _ _ (exec (Stmt.While _ _ _ _) _) _ _ _)); first | walk1 | (dsimp only; walk1) | (leave1; (try dsimp only)))))
  (k_with "menterN" => (refine' enterX ?zzk1 ?zzk2 ?zzk3 ?zzk4 ?zzk5 ?zzkA ?zzkF ?zzkK ?zzk6 ?zzk7 ?zzk8 ?zzk9 ?zzkB ?_ ?zzc2 ?zzc3 ?zzc4 ?zzc5; (case zzkA => exact rfl); (case zzkF => first | exact rfl | assumption); (case zzkK => first | exact rfl | assumption); (case zzk1 => k_asm); (case zzk2 => k_asm); (case zzk3 => k_asm); (case zzk4 => k_asm); (case zzk5 => k_asm); (case zzk6 => k_is); (case zzk7 => k_is); (case zzk8 => walk_at "room"); (case zzk9 => exact BindsTo.of_eq rfl); (case zzc5 => decide); (case zzkB => exact locs rfl); (case zzc2 => exact rfl); (case zzc3 => exact rfl); (case zzc4 => exact rfl); k_whole; intro _ _ _ _ _ _ _ _ _ _; (try dsimp only); (try k_fold)))
  (k_with "call builtin:list.extend" => (k_here; (with_reducible show wpAny _ _ (call (Value.builtin _) [Value.ref _, Value.ref _]) _ _ _); k_dflt (refine' ext_list ?zzF ?zzN ?zzb ?zzz ?zzU ?_; (case zzF => k_asm); (case zzN => k_asm); (case zzU => k_updF); (case zzb => walk_at "hx"); (case zzz => omega); k_whole); intro zzh zzn zzF zzN; (try dsimp only at zzN); revert zzh zzn zzF zzN; intro _ _ _ _; (try k_sweep)))
  trivial
theorem pNe {g h : Heap} {L T₁ : Addr} {o : Obj} {r : List (Addr × Obj)} {P : Kn} (N : News g L h ((T₁, o) :: r)) (hP : ∀ a o, P a o → g.get? a = some o) : ∀ a o, P a o → a ≠ T₁ := fun a o e q => by
  have := (N _ (.head _)).2.2
  rw [← q, hP a o e] at this; cases this
theorem News.off1 {h₀ h : Heap} {L a : Addr} {o : Obj} {r : List (Addr × Obj)} (N : News h₀ L h ((a, o) :: r)) : a ≠ L ∧ h₀.get? a = none := (N _ (.head _)).2
theorem o18_1 : True := by (k_with "call ref" => (k_here; (with_reducible show wpAny _ _ (call (Value.ref 169) _) _ _ _); k_dflt (refine' fill_use ?zzkH ?zzkC ?zzkP ?zzkPT ?zzkN ?zzkz ?_; (case zzkH => assumption); (case zzkC => walk_at "mcx"); (case zzkP => walk_at "hP"); (case zzkN => k_asm); (case zzkPT => exact pNe (by k_asm) (by assumption)); (case zzkz => first | assumption | (simp only [List.length_nil]; omega)); intro zzh zztk zzn zzext zze; (have zzF := frB (by k_asm) (fun a ha => by rw [List.mem_singleton.mp ha]; exact (News.off1 (by k_asm))) zzext); (have zzN := news_one (pre := []) (post := []) (by k_asm) (fun _ hp => nomatch hp) (fun _ hp => nomatch hp) zzext zze); (simp only [List.nil_append] at zzN); clear zzext zze; revert zzh zztk zzn zzF zzN; intro _ _ _ _ _; (try k_sweep)))); trivial
set_option maxHeartbeats 4000000 in
theorem tolist_w {w : World} {A A₀ : Around} {env : Env} {outer : List Env} {base h₀ : Heap} {L : Addr} {m : PySem.Str → Option Value} {mean : ExcName → Option Value} {mg mb : PySem.Str → Option Value} {s : Shared} {Q E : Value → Shared → Prop}
    (C : Cx w 100 500 A A₀ env outer base h₀ L m mean mg mb s) {x dx rt tl : Addr} {c sh off : Int} {t1 t2 t3 : Tok} (hx : s.heap.get? x = some (vecObj dx c t1 sh t2 rt tl off t3)) (hdx : s.heap.get? dx = some (dictOf [] 0)) {ys zs : List Value} {P : Kn} {n2 : Nat} (hP : ∀ a o, P a o → s.heap.get? a = some o) (H : FillSpec w 60 280 P x sh rt ys) (ht : s.heap.get? tl = some (listOf zs.toArray n2)) (hsz : ys.length + zs.length ≤ 100000)
    (hret : ∀ r h' tk n, Ext s.heap h' → NewIn s.heap h' [(r, listOf (ys ++ zs).toArray n)] → Q (.ref r) { s with heap := h', toks := tk }) :
    wpAny (model PySem.Challenge.rw_im0011_01.row.prog w) A (call (.ref 176) [.ref x]) Q E s := by
  have : (PySem.Challenge.rw_im0011_01, Mine.kx.heap_1) = (PySem.Challenge.rw_im0011_01, Mine.kx.heap_1) := by k_fill; rfl
  obtain ⟨B, F, X, T, fr, hf, hke, hh, hd, hu⟩ := C
  obtain ⟨hdl, dp, frs, gd, un⟩ := A
  dsimp only at fr hh hd hu
  subst hh fr
  refine wpAny_call ?_
  k_dflt walk_at "menter"
  rename_i g' L' h1 Ug Eg F' N' B' X'' T'
  replace Ug := ug0 Ug
  replace hx := Ug _ _ hx
  replace hdx := Ug _ _ hdx
  replace ht := Ug _ _ ht
  replace hP : ∀ a o, P a o → g'.get? a = some o := fun a o e => Ug _ _ (hP a o e)
  walk_at "msteps"
  rename Fr _ _ _ _ => F9
  rename News _ _ _ _ => N9
  show Q _ _
  exact hret _ _ _ _ (extOf Ug F9) (newInOf Ug N9)

theorem tolist_c {w : World} {A A₀ : Around} {env : Env} {outer : List Env} {base h₀ : Heap} {L : Addr} {m : PySem.Str → Option Value} {mean : ExcName → Option Value} {mg mb : PySem.Str → Option Value} {s : Shared} {Q E : Value → Shared → Prop}
    (C : Cx w 100 500 A A₀ env outer base h₀ L m mean mg mb s) {x : Addr} {xs : List Value} {P : Kn} (hP : ∀ a o, P a o → s.heap.get? a = some o) (hV : Vec P x xs) (hl : xs.length ≤ 20000)
    (hret : ∀ r h' tk n, Ext s.heap h' → NewIn s.heap h' [(r, listOf xs.toArray n)] → Q (.ref r) { s with heap := h', toks := tk }) :
    wpAny (model PySem.Challenge.rw_im0011_01.row.prog w) A (call (.ref 176) [.ref x]) Q E s := by
  obtain ⟨dx, c, t1, sh, t2, rt, tl, off, t3, ls, ys, zs, hx, hdx, hp, ⟨n2, ht⟩, rfl⟩ := hV
  rw [List.length_append] at hl
  exact tolist_w C (hP _ _ hx) (hP _ _ hdx) hP (fillT hx hdx hp.tree hp.hys hp.leaves) (hP _ _ ht) (by omega) hret

theorem reset19 : True := by
  k_with_none
  (k_with "kinst" => (refine' InstAt.of_base ?zzF ?zzh1 ?zzh2; (case zzF => k_asm); (case zzh1 => k_asm); (case zzh2 => k_asm)))
  (k_with "mcx" => exact ⟨by k_asm, by k_asm, by k_asm, by k_asm, rfl, by first | rfl | assumption, by first | rfl | assumption, rfl, by walk_at "room", by walk_at "unitz"⟩)
  (k_with "room" => first | exact rm 1 _ (by assumption) rfl (by exact rfl) | exact rm 0 _ (by assumption) rfl (by exact rfl) | exact rm 2 _ (by assumption) rfl (by exact rfl) | exact rm0 0 (by assumption) rfl (by exact rfl) | exact rm0 1 (by assumption) rfl (by exact rfl) | ((try simp only [depth_under_make, depth_under_kw, depth_in1, depth_deeper, depth_caller]); (try dsimp only [Around.deeper, Around.in1, Around.under]); omega))
  (k_with "unitz" => first | exact rm 3 _ (by assumption) rfl (by exact rfl) | exact rm 4 _ (by assumption) rfl (by exact rfl) | exact rm 0 _ (by assumption) rfl (by exact rfl) | exact rm 1 _ (by assumption) rfl (by exact rfl) | exact rm 6 _ (by assumption) rfl (by exact rfl) | exact rm 7 _ (by assumption) rfl (by exact rfl) | ((try simp only [units_in1, units_deeper, Around.mark_units, units_caller]); (try dsimp only [Around.deeper, Around.in1, Around.under]); omega))
  (k_with "menter" => (refine' enterX ?zzk1 ?zzk2 ?zzk3 ?zzk4 ?zzk5 ?zzkA ?zzkF ?zzkK ?zzk6 ?zzk7 ?zzk8 ?zzk9 ?zzkB ?_ ?zzc2 ?zzc3 ?zzc4 ?zzc5; (case zzkA => exact rfl); (case zzkF => first | exact rfl | assumption); (case zzkK => first | exact rfl | assumption); (case zzk1 => k_asm); (case zzk2 => k_asm); (case zzk3 => k_asm); (case zzk4 => first | exact News.nil | k_asm); (case zzk5 => k_asm); (case zzk6 => k_is); (case zzk7 => k_is); (case zzk8 => walk_at "room"); (case zzk9 => first | exact BindsTo.of_eq rfl | exact binds_K (by k_in) rfl (by k_is) rfl rfl rfl); (case zzc5 => decide); (case zzkB => exact locs rfl); (case zzc2 => exact rfl); (case zzc3 => exact rfl); (case zzc4 => exact rfl); k_whole; intro _ _ _ _ _ _ _ _ _ _; (try dsimp only); (try k_fold)))
  (k_with "call builtin:len" => (k_here; (with_reducible show wpAny _ _ (call (Value.builtin _) [Value.ref _]) _ _ _); (with_unfolding_all refine' len_list ?zzk1 ?zzk2 ?_; (case zzk1 => is_list); (case zzk2 => omega); k_whole)))
  (k_with "subscriptTail" => (k_here; (with_reducible show wpAny _ _ (subscriptTail _ _ (Value.ref _) (Value.int _ _)) _ _ _); (with_unfolding_all refine' item_list ?zzk1 ?zzk2 ?zzk3 ?zzk4 ?_ ?zzk6; (case zzk1 => is_list); (case zzk2 => first | assumption | exact rfl); (case zzk3 => omega); (case zzk4 => omega); (case zzk6 => with_unfolding_all rfl); k_whole)))
  (k_with "setItem ref int" => (k_here; (with_reducible show wpAny _ _ (setItem (Value.ref _) (Value.int _ _) _) _ _ _); k_dflt (refine' set_list ?zzk1 ?zzk2 ?zzk3 ?zzk4 ?zzk5 ?zzk6 ?_; (case zzk1 => k_asm); (case zzk2 => k_asm); (case zzk6 => k_upd); (case zzk3 => omega); (case zzk4 => omega); (case zzk5 => omega); k_whole); intro _ _ _; (try k_sweep)))
  (k_with "call builtin:list.append" => (k_here; (with_reducible show wpAny _ _ (call (Value.builtin _) [Value.ref _, _]) _ _ _); k_dflt (refine' app_list ?zzk1 ?zzk2 ?zzk3 ?zzk4 ?_; (case zzk1 => k_asm); (case zzk2 => k_asm); (case zzk4 => k_upd); (case zzk3 => omega); k_whole); intro _ _ _; (try k_sweep)))
  (k_with "call type:list" => (k_here; (with_reducible show wpAny _ _ (call (Value.type _) [Value.ref _]) _ _ _); (with_unfolding_all refine' copy_list' ?zzk1 ?zzk2 ?zzk3 ?zzk4 ?_; (case zzk1 => k_asm); (case zzk2 => k_asm); (case zzk3 => is_list); (case zzk4 => omega); k_whole); walk_at "in2"))
  (k_with "truthy ref" => (k_here; (with_reducible show wpAny _ _ (truthy (Value.ref _)) _ _ _); (with_unfolding_all refine' truthy_list' ?zzk1 ?zzk2 ?_; (case zzk1 => is_list); (case zzk2 => omega); k_whole)))
  (k_with "binaryOp BitAnd int int" => (k_here; (with_reducible refine and31 ?zzk1 ?_; (case zzk1 => omega)); intro _))
  (k_with "binaryOp RShift int int" => (k_here; first | with_reducible refine shr5 ?_ | with_reducible refine shr10 ?_; intro _))
  (k_with "call ref" => (k_here; (with_reducible show wpAny _ _ (call (Value.ref 296) _) _ _ _); k_dflt (refine' new_c ?zzkC ?zzkt ?zzkz ?_; (case zzkC => walk_at "mcx"); (case zzkt => is_list); (case zzkz => first | omega | (simp only [List.length_cons, List.length_nil]; omega)); intro zzx zztls zzh zztk zzdx zzt3 zzext zznew zze; subst zze; (have zzl1 := allNe_of (zznew _ (.head _)).2 (news_get (by k_asm))); (have zzl2 := allNe_of (zznew _ (.tail _ (.head _))).2 (news_get (by k_asm))); (have zzF := frExt (by k_asm) zzext); (have zzN := newsExt (by k_asm) (by k_asm) zzext zznew); (simp only [List.cons_append, List.nil_append] at zzN); (simp only [AllNe, and_true] at zzl1 zzl2); clear zzext zznew; revert zzx zzh zztk zzdx zzt3 zzl1 zzl2 zzF zzN; intro _ _ _ _ _ _ _ _ _; (try k_sweep))))
  (k_with "call ref" => (k_here; (with_reducible show wpAny _ _ (call (Value.ref 228) _) _ _ _); k_dflt (refine' newpath0 ?zzkC ?_; (case zzkC => walk_at "mcx"); intro zzh zztk zzext; (have zzF := frExt (by k_asm) zzext); (have zzN := newsExt (by k_asm) (by k_asm) zzext (tl := []) (fun _ hp => nomatch hp)); (simp only [List.nil_append] at zzN); clear zzext; revert zzh zztk zzF zzN; intro _ _ _ _; (try k_sweep))))
  (k_with "aft1" => (intro zzr zzh zztk zzn zzext zznew; (have zzl1 := allNe_of (zznew _ (.head _)).2 (news_get (by k_asm))); (have zzF := frExt (by k_asm) zzext); (have zzN := newsExt (by k_asm) (by k_asm) zzext zznew); (simp only [List.cons_append, List.nil_append] at zzN); (simp only [AllNe, and_true] at zzl1); clear zzext zznew; revert zzr zzh zztk zzn zzl1 zzF zzN; intro _ _ _ _ _ _ _; (try k_sweep)))
  (k_with "call ref" => (k_here; (with_reducible show wpAny _ _ (call (Value.ref 228) _) _ _ _); k_dflt (refine' newpath5 ?zzkC ?zzkx ?zzkd ?_; (case zzkC => walk_at "mcx"); (case zzkx => walk_at "hx"); (case zzkd => walk_at "hx"); walk_at "aft1")))
  (k_with "hx" => first | assumption | exact Fr.keep (by k_asm) _ _ (by assumption) | exact News.get (by k_asm) (by k_mem))
  (k_with "call ref" => (k_here; (with_reducible show wpAny _ _ (call (Value.ref 263) _) _ _ _); k_dflt (refine' push5 ?zzkC ?zzkp ?zzkz ?_; (case zzkC => walk_at "mcx"); (case zzkp => is_list); (case zzkz => omega); walk_at "aft1")))
  (k_with "aft2" => (intro zzr zzr2 zzh zztk zzn zzn2 zzext zznew; (have zzl1 := allNe_of (zznew _ (.head _)).2 (news_get (by k_asm))); (have zzl2 := allNe_of (zznew _ (.tail _ (.head _))).2 (news_get (by k_asm))); (have zzF := frExt (by k_asm) zzext); (have zzN := newsExt (by k_asm) (by k_asm) zzext zznew); (simp only [List.cons_append, List.nil_append] at zzN); (simp only [AllNe, and_true] at zzl1 zzl2); clear zzext zznew; revert zzr zzr2 zzh zztk zzn zzn2 zzl1 zzl2 zzF zzN; intro _ _ _ _ _ _ _ _ _ _; (try k_sweep)))
  (k_with "call ref" => (k_here; (with_reducible show wpAny _ _ (call (Value.ref 263) _) _ _ _); k_dflt (refine' pushT ?zzkC ?zzkx ?zzkd ?zzkP ?zzkT ?zzkc ?zzkl ?zzkn ?_; (case zzkC => walk_at "mcx"); (case zzkx => walk_at "hx"); (case zzkd => walk_at "hx"); (case zzkT => assumption); (case zzkP => walk_at "hP"); (case zzkc => omega); (case zzkl => omega); (case zzkn => omega); intro zzr zztls zzh zztk zzext zznew zztr; (have zzF := frExt (by k_asm) zzext); (have zzN := newsExt (by k_asm) (by k_asm) zzext zznew); revert zzr zztls zzh zztk zzext zznew zztr zzF zzN; intro _ _ _ _ _ _ _ _ _; (try k_sweep))))
  (k_with "hP" => first | assumption | exact hPk (by k_asm) (by assumption))
  (k_with "call ref" => (k_here; (with_reducible show wpAny _ _ (call (Value.ref 214) _) _ _ _); k_dflt (refine' root_c ?zzkC ?zzkx ?zzkd ?zzkP ?zzkT ?zzkc ?zzkl ?_; (case zzkC => walk_at "mcx"); (case zzkx => walk_at "hx"); (case zzkd => walk_at "hx"); (case zzkT => assumption); (case zzkP => walk_at "hP"); (case zzkc => omega); (case zzkl => omega); intro zztp zzr zztls zzh zztk zzsh zzt zzn zzext zznew zztr; (have zzF := frExt (by k_asm) zzext); (have zzN := newsExt (by k_asm) (by k_asm) zzext zznew); (simp only [List.cons_append] at zzN); revert zztp zzr zztls zzh zztk zzsh zzt zzn zzext zznew zztr zzF zzN; intro _ _ _ _ _ _ _ _ _ _ _ _ _; (try k_sweep))))
  (k_with "call ref" => (k_here; (with_reducible show wpAny _ _ (call (Value.ref 197) _) _ _ _); k_dflt (refine' dosetT ?zzkC ?zzkx ?zzkd ?zzkiv ?zzkP ?zzkV ?zzki ?zzkl ?_; (case zzkC => walk_at "mcx"); (case zzkx => walk_at "hx"); (case zzkd => walk_at "hx"); (case zzkiv => assumption); (case zzkV => assumption); (case zzkP => walk_at "hP"); (case zzki => omega); (case zzkl => omega); intro zzr zztls zzh zztk zzext zznew zztr; (have zzF := frExt (by k_asm) zzext); (have zzN := newsExt (by k_asm) (by k_asm) zzext zznew); revert zzr zztls zzh zztk zzext zznew zztr zzF zzN; intro _ _ _ _ _ _ _ _ _; (try k_sweep))))
  (k_with "call ref" => (k_here; (with_reducible show wpAny _ _ (call (Value.ref 221) _) _ _ _); k_dflt (refine' append_c ?zzkC ?zzkx ?zzkd ?zzkP ?zzkV ?zzkt ?zzkl ?_; (case zzkC => walk_at "mcx"); (case zzkx => walk_at "hx"); (case zzkd => walk_at "hx"); (case zzkV => assumption); (case zzkt => assumption); (case zzkP => walk_at "hP"); (case zzkl => omega); intro zzx zzdx zztl zzh zztk zzc zzt1 zzsh zzt2 zzrt zzoff zzt3 zzn zztls zzls zzys zzzs zzext zznew zzof zztr zze; (have zzF := frExt (by k_asm) zzext); (have zzN := newsExt (by k_asm) (by k_asm) zzext zznew); (simp only [List.cons_append] at zzN); revert zzx zzdx zztl zzh zztk zzc zzt1 zzsh zzt2 zzrt zzoff zzt3 zzn zztls zzls zzys zzzs zzext zznew zzof zztr zze zzF zzN; intro _ _ _ _ _ _ _ _ _ _ _ _ _ _ _ _ _ _ _ _ _ _ _ _; (try k_sweep))))
  (k_with "msteps" => repeat' (first | (k_unfold; (try dsimp only)) | ((fail_if_success (with_reducible show wpAny _ _ (exec (Stmt.For _ _ _ _ _) _) _ _ _)); (fail_if_success (with_reducible show wpAny _ _ (exec (Stmt.While _ _ _ _) _) _ _ _)); first | walk1 | (dsimp only; walk1) | (leave1; (try dsimp only)))))
  (k_with "menterN" => (refine' enterX ?zzk1 ?zzk2 ?zzk3 ?zzk4 ?zzk5 ?zzkA ?zzkF ?zzkK ?zzk6 ?zzk7 ?zzk8 ?zzk9 ?zzkB ?_ ?zzc2 ?zzc3 ?zzc4 ?zzc5; (case zzkA => exact rfl); (case zzkF => first | exact rfl | assumption); (case zzkK => first | exact rfl | assumption); (case zzk1 => k_asm); (case zzk2 => k_asm); (case zzk3 => k_asm); (case zzk4 => k_asm); (case zzk5 => k_asm); (case zzk6 => k_is); (case zzk7 => k_is); (case zzk8 => walk_at "room"); (case zzk9 => exact BindsTo.of_eq rfl); (case zzc5 => decide); (case zzkB => exact locs rfl); (case zzc2 => exact rfl); (case zzc3 => exact rfl); (case zzc4 => exact rfl); k_whole; intro _ _ _ _ _ _ _ _ _ _; (try dsimp only); (try k_fold)))
  (k_with "call builtin:list.extend" => (k_here; (with_reducible show wpAny _ _ (call (Value.builtin _) [Value.ref _, Value.ref _]) _ _ _); k_dflt (refine' ext_list ?zzF ?zzN ?zzb ?zzz ?zzU ?_; (case zzF => k_asm); (case zzN => k_asm); (case zzU => k_updF); (case zzb => walk_at "hx"); (case zzz => omega); k_whole); intro zzh zzn zzF zzN; (try dsimp only at zzN); revert zzh zzn zzF zzN; intro _ _ _ _; (try k_sweep)))
  trivial
theorem pick_run (vs : List Value) (a b : Nat) : (slicePick vs.toArray (some (a : Int)) (some (b : Int)) none).toList = (vs.drop a).take (b - a) := by
  rw [slicePick_plain]
  simp only [Option.elim, clipAt_nat, List.size_toArray]
  show (vs.drop (min a vs.length)).take (min b vs.length - min a vs.length) = _
  rw [kmk_drop_min]
  by_cases h : a ≤ vs.length
  · rw [Nat.min_eq_left h]
    by_cases h2 : b ≤ vs.length
    · rw [Nat.min_eq_left h2]
    · rw [Nat.min_eq_right (by omega), List.take_of_length_le (by rw [List.length_drop]; omega), List.take_of_length_le (by rw [List.length_drop]; omega)]
  · rw [List.drop_of_length_le (by omega), List.take_nil, List.take_nil]
theorem pick_runZ {vs zs : List Value} {x y : Int} (h0 : 0 ≤ x) (h1 : 0 ≤ y) (e : (vs.drop x.toNat).take (y.toNat - x.toNat) = zs) : (slicePick vs.toArray (some x) (some y) none).toList = zs := by
  rw [← e, ← pick_run vs x.toNat y.toNat, Int.toNat_of_nonneg h0, Int.toNat_of_nonneg h1]
theorem pick_fromZ {vs zs : List Value} {x : Int} (h0 : 0 ≤ x) (e : vs.drop x.toNat = zs) : (slicePick vs.toArray (some x) none none).toList = zs := by
  have := slicePick_from' vs.toArray x.toNat
  rw [Int.toNat_of_nonneg h0] at this
  rw [this, ← e]
theorem pick_uptoZ {vs zs : List Value} {y : Int} (h0 : 0 ≤ y) (e : vs.take y.toNat = zs) : (slicePick vs.toArray none (some y) none).toList = zs := by
  have := slicePick_upto' vs.toArray y.toNat
  rw [Int.toNat_of_nonneg h0] at this
  rw [this, ← e]
local macro_rules | `(tactic| walk_at "in3") => `(tactic| (intro D' h' F' N' l1; (try k_lt l1); (try k_sweep)))
theorem o19_1 : True := by (k_with "subscriptTail Name Slice ref ref" => (k_here; (with_reducible show wpAny _ _ (subscriptTail _ (PySem.Expr.Slice _ _ none _) (Value.ref _) (Value.ref _)) _ _ _); k_dflt (refine' kmk_slice_lit ?zzF ?zzN ?zzl ?zzp ?zzq ?zze ?_ ?zzs ?zzt ?zzz; (case zzF => k_asm); (case zzN => k_asm); (case zzl => is_list); (case zzp => kmk_part); (case zzq => kmk_part); (case zze => first | exact pick_runZ (by omega) (by omega) rfl | exact pick_fromZ (by omega) rfl | exact pick_uptoZ (by omega) rfl); (case zzs => with_unfolding_all rfl); (case zzt => kmk_pure); (case zzz => (rw [List.size_toArray, PySem.sizeLine_eq]; omega))); walk_at "in3")); trivial
theorem o19_2 : True := by (k_with "call builtin:list.extend" => (k_here; (with_reducible show wpAny _ _ (call (Value.builtin _) [Value.ref _, Value.ref _]) _ _ _); k_dflt (refine' ext_list ?zzF ?zzN ?zzb ?zzz ?zzU ?_; (case zzF => k_asm); (case zzN => k_asm); (case zzU => k_updF); (case zzb => walk_at "hx"); (case zzz => first | omega | (simp only [List.length_take, List.length_drop]; omega)); k_whole); intro zzh zzn zzF zzN; (try dsimp only at zzN); revert zzh zzn zzF zzN; intro _ _ _ _; (try k_sweep))); trivial
theorem o19_3 : True := by (k_with "call builtin:len" => (k_here; (with_reducible show wpAny _ _ (call (Value.builtin _) [Value.ref _]) _ _ _); (with_unfolding_all refine' len_list ?zzk1 ?zzk2 ?_; (case zzk1 => is_list); (case zzk2 => first | omega | (simp only [List.length_take, List.length_drop]; omega)); k_whole))); trivial
theorem newOff {h₀ h h' : Heap} {L : Addr} {news tls : List (Addr × Obj)} (N : News h₀ L h news) (n : NewIn h h' tls) : ∀ q ∈ news, ∀ p ∈ tls, p.1 ≠ q.1 := fun q hq p hp e => by
  have a := (N q hq).1
  rw [← e, (n p hp).2] at a; cases a
theorem newsExt2 {h₀ h h' : Heap} {L : Addr} {m : PySem.Str → Option Value} {news tl : List (Addr × Obj)} {q : Addr × Obj} (F : Fr h₀ L h m) (N : News h₀ L h news) (x : Ext h h') (n : NewIn h h' (q :: tl)) : News h₀ L h' (q :: (news ++ tl)) := fun p hp => newsExt F N x n p (by
  rcases List.mem_cons.mp hp with rfl | hp
  · exact .head _
  · rcases List.mem_append.mp hp with hp | hp
    · exact List.mem_append_right _ hp
    · exact List.mem_append_left _ (.tail _ hp))
theorem newInB {hp g h' : Heap} {L : Addr} {as : List Addr} {news : List (Addr × Obj)} (U : ∀ b o, hp.get? b = some o → b ∉ as → g.get? b = some o) (N : News g L h' news) (off : ∀ p ∈ news, p.1 ∉ as) : NewIn hp h' news := fun p hm => ⟨(N p hm).1, by
  cases q : hp.get? p.1 with
  | none => rfl
  | some o => have := U _ _ q (off p hm); rw [(N p hm).2.2] at this; cases this⟩
theorem three {α : Type} {P : α → Prop} {a b c : α} (h : ∀ q ∈ [a, b, c], P q) : P a ∧ P b ∧ P c := ⟨h _ (.head _), h _ (.tail _ (.head _)), h _ (.tail _ (.tail _ (.head _)))⟩
theorem NewIn.tail {h h' : Heap} {q : Addr × Obj} {tl : List (Addr × Obj)} (n : NewIn h h' (q :: tl)) : NewIn h h' tl := fun p hp => n p (.tail _ hp)
theorem w19_4 : True := by (k_with "kall" => assumption); trivial
theorem o19_5 : True := by (k_with "call ref" => (k_here; (with_reducible show wpAny _ _ (call (Value.ref 214) _) _ _ _); k_dflt (refine' root_c ?zzkC ?zzkx ?zzkd ?zzkP ?zzkT ?zzkc ?zzkl ?_; (case zzkC => walk_at "mcx"); (case zzkx => walk_at "hx"); (case zzkd => walk_at "hx"); (case zzkT => assumption); (case zzkP => walk_at "hP"); (case zzkc => omega); (case zzkl => omega); intro zztp zzr zztls zzh zztk zzsh zzt zzn zzext zznew zztr; (have zzl1 := allNe_of (zznew _ (.head _)).2 (news_get (by k_asm))); (have zzl2 := three (newOff (by k_asm) zznew.tail)); (obtain ⟨zzl3, zzl4, zzl5⟩ := zzl2); (have zzF := frExt (by k_asm) zzext); (have zzN := newsExt2 (by k_asm) (by k_asm) zzext zznew); (simp only [List.cons_append, List.nil_append] at zzN); (simp only [AllNe, and_true] at zzl1); revert zztp zzr zztls zzh zztk zzsh zzt zzn zzext zznew zztr zzl1 zzl3 zzl4 zzl5 zzF zzN; intro _ _ _ _ _ _ _ _ _ _ _ _ _ _ _ _ _; (try k_sweep)))); trivial
set_option maxHeartbeats 4000000 in
theorem fill_tail {w : World} {A A₀ : Around} {env : Env} {outer : List Env} {base h₀ : Heap} {L : Addr} {m : PySem.Str → Option Value} {mean : ExcName → Option Value} {mg mb : PySem.Str → Option Value} {s : Shared} {Q E : Value → Shared → Prop}
    (C : Cx w 40 160 A A₀ env outer base h₀ L m mean mg mb s) {x dx rt T₁ q : Addr} {c sh off : Int} {t1 t2 t3 ti : Tok} {zs seq : List Value} {n nq o : Nat} (hN : News h₀ L s.heap [(x, vecObj dx c t1 sh t2 rt T₁ off t3), (dx, dictOf [] 0), (T₁, listOf zs.toArray n)]) (h1 : x ≠ dx) (h2 : x ≠ T₁) (h3 : dx ≠ T₁) (hq : s.heap.get? q = some (listOf seq.toArray nq)) (hq1 : q ≠ x) (hq2 : q ≠ dx) (hq3 : q ≠ T₁) (hz : zs.length ≤ 32) (hs : seq.length ≤ 20000) (ho : o ≤ seq.length)
    (hret : ∀ h' tk t1' tr n', ExtB [x, dx, T₁] s.heap h' → h'.get? x = some (vecObj dx (c + ((seq.drop o).take (32 - zs.length)).length) t1' sh t2 rt T₁ off t3) → h'.get? dx = some (dictOf [] 0) → h'.get? T₁ = some (listOf (zs ++ (seq.drop o).take (32 - zs.length)).toArray n') →
      Q (.int ((o : Int) + ((seq.drop o).take (32 - zs.length)).length) tr) { s with heap := h', toks := tk }) :
    wpAny (model PySem.Challenge.rw_im0011_01.row.prog w) A (call (.ref 242) [.ref x, .int o ti, .ref q]) Q E s := by
  have : (PySem.Challenge.rw_im0011_01, Mine.kx.heap_1) = (PySem.Challenge.rw_im0011_01, Mine.kx.heap_1) := by k_fill; rfl
  obtain ⟨B, F, X, T, fr, hf, hke, hh, hd, hu⟩ := C
  obtain ⟨hdl, dp, frs, gd, un⟩ := A
  dsimp only at fr hh hd hu
  subst hh fr
  refine wpAny_call ?_
  k_dflt walk_at "menterN"
  rename_i g' L' hh1 Ug Eg F' N' B' X'' T'
  have hq' := Ug _ _ hq (by simp [hq1, hq2, hq3])
  have hqI : g'.IsList q seq.toArray := ⟨_, hq', rfl, nq, rfl⟩
  replace h1 : @Ne Nat x dx := h1
  replace h2 : @Ne Nat x T₁ := h2
  replace h3 : @Ne Nat dx T₁ := h3
  walk_at "msteps"
  rename Fr _ _ _ _ => F9
  rename News _ _ _ _ => N9
  show Q _ _
  have e : ((o : Int) + (32 - (zs.length : Int))).toNat - ((o : Int)).toNat = 32 - zs.length := by omega
  have e2 : ((o : Int)).toNat = o := by omega
  rw [e, e2] at N9 ⊢
  exact hret _ _ _ _ _ (fun b o hb e => F9.keep _ _ (Ug b o e hb)) (N9 _ (.tail _ (.head _))).1 (N9 _ (.tail _ (.tail _ (.head _)))).1 (N9 _ (.tail _ (.tail _ (.tail _ (.head _))))).1

set_option maxHeartbeats 4000000 in
theorem ins_tail {w : World} {A A₀ : Around} {env : Env} {outer : List Env} {base h₀ : Heap} {L : Addr} {m : PySem.Str → Option Value} {mean : ExcName → Option Value} {mg mb : PySem.Str → Option Value} {s : Shared} {Q E : Value → Shared → Prop}
    (C : Cx w 80 400 A A₀ env outer base h₀ L m mean mg mb s) {x dx rt T₁ : Addr} {c sh off : Int} {t1 t2 t3 : Tok} {zs ls : List Value} {n : Nat} {P : Kn} (hN : News h₀ L s.heap [(x, vecObj dx c t1 sh t2 rt T₁ off t3), (dx, dictOf [] 0), (T₁, listOf zs.toArray n)]) (h1 : x ≠ dx) (h2 : x ≠ T₁) (h3 : dx ≠ T₁) (hP : ∀ a o, P a o → s.heap.get? a = some o) (hPn : ∀ a o, P a o → a ≠ x ∧ a ≠ dx ∧ a ≠ T₁) (hT : Tree P sh rt ls) (hc : c = 32 * ((ls.length : Int) + 1)) (hl : ls.length < 900)
    (hret : ∀ h' tk t2' r sh' T₂ n' tls, ExtB [x, dx, T₁] s.heap h' → h'.get? x = some (vecObj dx c t1 sh' t2' r T₂ off t3) → h'.get? dx = some (dictOf [] 0) → h'.get? T₁ = some (listOf zs.toArray n) → NewIn s.heap h' ((T₂, listOf [].toArray n') :: tls) → (∀ p ∈ tls, @Ne Nat p.1 T₂) → Tree (Orr P tls) sh' r (ls ++ [.ref T₁]) →
      Q .none { s with heap := h', toks := tk }) :
    wpAny (model PySem.Challenge.rw_im0011_01.row.prog w) A (call (.ref 235) [.ref x]) Q E s := by
  have : (PySem.Challenge.rw_im0011_01, Mine.kx.heap_1) = (PySem.Challenge.rw_im0011_01, Mine.kx.heap_1) := by k_fill; rfl
  obtain ⟨B, F, X, T, fr, hf, hke, hh, hd, hu⟩ := C
  obtain ⟨hdl, dp, frs, gd, un⟩ := A
  dsimp only at fr hh hd hu
  subst hh fr
  refine wpAny_call ?_
  k_dflt walk_at "menterN"
  rename_i g' L' hh1 Ug Eg F' N' B' X'' T'
  have hP' : ∀ a o, P a o → g'.get? a = some o := fun a o e => Ug _ _ (hP a o e) (by simp [hPn a o e])
  replace h1 : @Ne Nat x dx := h1
  replace h2 : @Ne Nat x T₁ := h2
  replace h3 : @Ne Nat dx T₁ := h3
  walk_at "msteps"
  rename_i tls5 h5 tk5 sh5 t5 n5 ext5 new5 tr9 l3 l4 l5 l1a ha hb hc l' hd l1 he F9 N9
  show Q _ _
  have nw : NewIn s.heap he ((l', listOf [].toArray 0) :: tls5) := newInB Ug (news_sub N9 fun p hp => ?_) ?_
  · exact hret _ _ _ _ _ _ _ _ (fun b o hb e => F9.keep _ _ (Ug b o e hb)) (N9 _ (.tail _ (.tail _ (.head _)))).1 (N9 _ (.tail _ (.tail _ (.tail _ (.head _))))).1 (N9 _ (.tail _ (.tail _ (.tail _ (.tail _ (.head _)))))).1 nw (fun p hp => Nat.ne_of_lt (ktn_ltOf l1.2.2.2.2 p hp)) tr9
  · rcases List.mem_cons.mp hp with rfl | hp
    · exact .head _
    · exact .tail _ (.tail _ (.tail _ (.tail _ (.tail _ hp))))
  · intro p hp hm
    rcases List.mem_cons.mp hp with rfl | hp
    · simp only [List.map_cons, List.map_nil, List.mem_cons, List.not_mem_nil, or_false] at hm
      rcases hm with e | e | e
      · exact absurd l1.2.1 (by rw [show l' = x from e]; exact Nat.lt_irrefl _)
      · exact absurd l1.2.2.1 (by rw [show l' = dx from e]; exact Nat.lt_irrefl _)
      · exact absurd l1.2.2.2.1 (by rw [show l' = T₁ from e]; exact Nat.lt_irrefl _)
    · simp only [List.map_cons, List.map_nil, List.mem_cons, List.not_mem_nil, or_false] at hm
      rcases hm with e | e | e
      · exact l3 p hp e
      · exact l4 p hp e
      · exact l5 p hp e

theorem reset20 : True := by
  k_with_none
  (k_with "kinst" => (refine' InstAt.of_base ?zzF ?zzh1 ?zzh2; (case zzF => k_asm); (case zzh1 => k_asm); (case zzh2 => k_asm)))
  (k_with "mcx" => exact ⟨by k_asm, by k_asm, by k_asm, by k_asm, rfl, by first | rfl | assumption, by first | rfl | assumption, rfl, by walk_at "room", by walk_at "unitz"⟩)
  (k_with "room" => first | exact rm 1 _ (by assumption) rfl (by exact rfl) | exact rm 0 _ (by assumption) rfl (by exact rfl) | exact rm 2 _ (by assumption) rfl (by exact rfl) | exact rm0 0 (by assumption) rfl (by exact rfl) | exact rm0 1 (by assumption) rfl (by exact rfl) | ((try simp only [depth_under_make, depth_under_kw, depth_in1, depth_deeper, depth_caller]); (try dsimp only [Around.deeper, Around.in1, Around.under]); omega))
  (k_with "unitz" => first | exact rm 3 _ (by assumption) rfl (by exact rfl) | exact rm 4 _ (by assumption) rfl (by exact rfl) | exact rm 0 _ (by assumption) rfl (by exact rfl) | exact rm 1 _ (by assumption) rfl (by exact rfl) | exact rm 6 _ (by assumption) rfl (by exact rfl) | exact rm 7 _ (by assumption) rfl (by exact rfl) | ((try simp only [units_in1, units_deeper, Around.mark_units, units_caller]); (try dsimp only [Around.deeper, Around.in1, Around.under]); omega))
  (k_with "menter" => (refine' enterX ?zzk1 ?zzk2 ?zzk3 ?zzk4 ?zzk5 ?zzkA ?zzkF ?zzkK ?zzk6 ?zzk7 ?zzk8 ?zzk9 ?zzkB ?_ ?zzc2 ?zzc3 ?zzc4 ?zzc5; (case zzkA => exact rfl); (case zzkF => first | exact rfl | assumption); (case zzkK => first | exact rfl | assumption); (case zzk1 => k_asm); (case zzk2 => k_asm); (case zzk3 => k_asm); (case zzk4 => first | exact News.nil | k_asm); (case zzk5 => k_asm); (case zzk6 => k_is); (case zzk7 => k_is); (case zzk8 => walk_at "room"); (case zzk9 => first | exact BindsTo.of_eq rfl | exact binds_K (by k_in) rfl (by k_is) rfl rfl rfl); (case zzc5 => decide); (case zzkB => exact locs rfl); (case zzc2 => exact rfl); (case zzc3 => exact rfl); (case zzc4 => exact rfl); k_whole; intro _ _ _ _ _ _ _ _ _ _; (try dsimp only); (try k_fold)))
  (k_with "call builtin:len" => (k_here; (with_reducible show wpAny _ _ (call (Value.builtin _) [Value.ref _]) _ _ _); (with_unfolding_all refine' len_list ?zzk1 ?zzk2 ?_; (case zzk1 => is_list); (case zzk2 => omega); k_whole)))
  (k_with "subscriptTail" => (k_here; (with_reducible show wpAny _ _ (subscriptTail _ _ (Value.ref _) (Value.int _ _)) _ _ _); (with_unfolding_all refine' item_list ?zzk1 ?zzk2 ?zzk3 ?zzk4 ?_ ?zzk6; (case zzk1 => is_list); (case zzk2 => first | assumption | exact rfl); (case zzk3 => omega); (case zzk4 => omega); (case zzk6 => with_unfolding_all rfl); k_whole)))
  (k_with "setItem ref int" => (k_here; (with_reducible show wpAny _ _ (setItem (Value.ref _) (Value.int _ _) _) _ _ _); k_dflt (refine' set_list ?zzk1 ?zzk2 ?zzk3 ?zzk4 ?zzk5 ?zzk6 ?_; (case zzk1 => k_asm); (case zzk2 => k_asm); (case zzk6 => k_upd); (case zzk3 => omega); (case zzk4 => omega); (case zzk5 => omega); k_whole); intro _ _ _; (try k_sweep)))
  (k_with "call builtin:list.append" => (k_here; (with_reducible show wpAny _ _ (call (Value.builtin _) [Value.ref _, _]) _ _ _); k_dflt (refine' app_list ?zzk1 ?zzk2 ?zzk3 ?zzk4 ?_; (case zzk1 => k_asm); (case zzk2 => k_asm); (case zzk4 => k_upd); (case zzk3 => omega); k_whole); intro _ _ _; (try k_sweep)))
  (k_with "call type:list" => (k_here; (with_reducible show wpAny _ _ (call (Value.type _) [Value.ref _]) _ _ _); (with_unfolding_all refine' copy_list' ?zzk1 ?zzk2 ?zzk3 ?zzk4 ?_; (case zzk1 => k_asm); (case zzk2 => k_asm); (case zzk3 => is_list); (case zzk4 => omega); k_whole); walk_at "in2"))
  (k_with "truthy ref" => (k_here; (with_reducible show wpAny _ _ (truthy (Value.ref _)) _ _ _); (with_unfolding_all refine' truthy_list' ?zzk1 ?zzk2 ?_; (case zzk1 => is_list); (case zzk2 => omega); k_whole)))
  (k_with "binaryOp BitAnd int int" => (k_here; (with_reducible refine and31 ?zzk1 ?_; (case zzk1 => omega)); intro _))
  (k_with "binaryOp RShift int int" => (k_here; first | with_reducible refine shr5 ?_ | with_reducible refine shr10 ?_; intro _))
  (k_with "call ref" => (k_here; (with_reducible show wpAny _ _ (call (Value.ref 296) _) _ _ _); k_dflt (refine' new_c ?zzkC ?zzkt ?zzkz ?_; (case zzkC => walk_at "mcx"); (case zzkt => is_list); (case zzkz => first | omega | (simp only [List.length_cons, List.length_nil]; omega)); intro zzx zztls zzh zztk zzdx zzt3 zzext zznew zze; subst zze; (have zzl1 := allNe_of (zznew _ (.head _)).2 (news_get (by k_asm))); (have zzl2 := allNe_of (zznew _ (.tail _ (.head _))).2 (news_get (by k_asm))); (have zzF := frExt (by k_asm) zzext); (have zzN := newsExt (by k_asm) (by k_asm) zzext zznew); (simp only [List.cons_append, List.nil_append] at zzN); (simp only [AllNe, and_true] at zzl1 zzl2); clear zzext zznew; revert zzx zzh zztk zzdx zzt3 zzl1 zzl2 zzF zzN; intro _ _ _ _ _ _ _ _ _; (try k_sweep))))
  (k_with "call ref" => (k_here; (with_reducible show wpAny _ _ (call (Value.ref 228) _) _ _ _); k_dflt (refine' newpath0 ?zzkC ?_; (case zzkC => walk_at "mcx"); intro zzh zztk zzext; (have zzF := frExt (by k_asm) zzext); (have zzN := newsExt (by k_asm) (by k_asm) zzext (tl := []) (fun _ hp => nomatch hp)); (simp only [List.nil_append] at zzN); clear zzext; revert zzh zztk zzF zzN; intro _ _ _ _; (try k_sweep))))
  (k_with "aft1" => (intro zzr zzh zztk zzn zzext zznew; (have zzl1 := allNe_of (zznew _ (.head _)).2 (news_get (by k_asm))); (have zzF := frExt (by k_asm) zzext); (have zzN := newsExt (by k_asm) (by k_asm) zzext zznew); (simp only [List.cons_append, List.nil_append] at zzN); (simp only [AllNe, and_true] at zzl1); clear zzext zznew; revert zzr zzh zztk zzn zzl1 zzF zzN; intro _ _ _ _ _ _ _; (try k_sweep)))
  (k_with "call ref" => (k_here; (with_reducible show wpAny _ _ (call (Value.ref 228) _) _ _ _); k_dflt (refine' newpath5 ?zzkC ?zzkx ?zzkd ?_; (case zzkC => walk_at "mcx"); (case zzkx => walk_at "hx"); (case zzkd => walk_at "hx"); walk_at "aft1")))
  (k_with "hx" => first | assumption | exact Fr.keep (by k_asm) _ _ (by assumption) | exact News.get (by k_asm) (by k_mem))
  (k_with "call ref" => (k_here; (with_reducible show wpAny _ _ (call (Value.ref 263) _) _ _ _); k_dflt (refine' push5 ?zzkC ?zzkp ?zzkz ?_; (case zzkC => walk_at "mcx"); (case zzkp => is_list); (case zzkz => omega); walk_at "aft1")))
  (k_with "aft2" => (intro zzr zzr2 zzh zztk zzn zzn2 zzext zznew; (have zzl1 := allNe_of (zznew _ (.head _)).2 (news_get (by k_asm))); (have zzl2 := allNe_of (zznew _ (.tail _ (.head _))).2 (news_get (by k_asm))); (have zzF := frExt (by k_asm) zzext); (have zzN := newsExt (by k_asm) (by k_asm) zzext zznew); (simp only [List.cons_append, List.nil_append] at zzN); (simp only [AllNe, and_true] at zzl1 zzl2); clear zzext zznew; revert zzr zzr2 zzh zztk zzn zzn2 zzl1 zzl2 zzF zzN; intro _ _ _ _ _ _ _ _ _ _; (try k_sweep)))
  (k_with "call ref" => (k_here; (with_reducible show wpAny _ _ (call (Value.ref 263) _) _ _ _); k_dflt (refine' pushT ?zzkC ?zzkx ?zzkd ?zzkP ?zzkT ?zzkc ?zzkl ?zzkn ?_; (case zzkC => walk_at "mcx"); (case zzkx => walk_at "hx"); (case zzkd => walk_at "hx"); (case zzkT => assumption); (case zzkP => walk_at "hP"); (case zzkc => omega); (case zzkl => omega); (case zzkn => omega); intro zzr zztls zzh zztk zzext zznew zztr; (have zzF := frExt (by k_asm) zzext); (have zzN := newsExt (by k_asm) (by k_asm) zzext zznew); revert zzr zztls zzh zztk zzext zznew zztr zzF zzN; intro _ _ _ _ _ _ _ _ _; (try k_sweep))))
  (k_with "hP" => first | assumption | exact hPk (by k_asm) (by assumption))
  (k_with "call ref" => (k_here; (with_reducible show wpAny _ _ (call (Value.ref 214) _) _ _ _); k_dflt (refine' root_c ?zzkC ?zzkx ?zzkd ?zzkP ?zzkT ?zzkc ?zzkl ?_; (case zzkC => walk_at "mcx"); (case zzkx => walk_at "hx"); (case zzkd => walk_at "hx"); (case zzkT => assumption); (case zzkP => walk_at "hP"); (case zzkc => omega); (case zzkl => omega); intro zztp zzr zztls zzh zztk zzsh zzt zzn zzext zznew zztr; (have zzF := frExt (by k_asm) zzext); (have zzN := newsExt (by k_asm) (by k_asm) zzext zznew); (simp only [List.cons_append] at zzN); revert zztp zzr zztls zzh zztk zzsh zzt zzn zzext zznew zztr zzF zzN; intro _ _ _ _ _ _ _ _ _ _ _ _ _; (try k_sweep))))
  (k_with "call ref" => (k_here; (with_reducible show wpAny _ _ (call (Value.ref 197) _) _ _ _); k_dflt (refine' dosetT ?zzkC ?zzkx ?zzkd ?zzkiv ?zzkP ?zzkV ?zzki ?zzkl ?_; (case zzkC => walk_at "mcx"); (case zzkx => walk_at "hx"); (case zzkd => walk_at "hx"); (case zzkiv => assumption); (case zzkV => assumption); (case zzkP => walk_at "hP"); (case zzki => omega); (case zzkl => omega); intro zzr zztls zzh zztk zzext zznew zztr; (have zzF := frExt (by k_asm) zzext); (have zzN := newsExt (by k_asm) (by k_asm) zzext zznew); revert zzr zztls zzh zztk zzext zznew zztr zzF zzN; intro _ _ _ _ _ _ _ _ _; (try k_sweep))))
  (k_with "call ref" => (k_here; (with_reducible show wpAny _ _ (call (Value.ref 221) _) _ _ _); k_dflt (refine' append_c ?zzkC ?zzkx ?zzkd ?zzkP ?zzkV ?zzkt ?zzkl ?_; (case zzkC => walk_at "mcx"); (case zzkx => walk_at "hx"); (case zzkd => walk_at "hx"); (case zzkV => assumption); (case zzkt => assumption); (case zzkP => walk_at "hP"); (case zzkl => omega); intro zzx zzdx zztl zzh zztk zzc zzt1 zzsh zzt2 zzrt zzoff zzt3 zzn zztls zzls zzys zzzs zzext zznew zzof zztr zze; (have zzF := frExt (by k_asm) zzext); (have zzN := newsExt (by k_asm) (by k_asm) zzext zznew); (simp only [List.cons_append] at zzN); revert zzx zzdx zztl zzh zztk zzc zzt1 zzsh zzt2 zzrt zzoff zzt3 zzn zztls zzls zzys zzzs zzext zznew zzof zztr zze zzF zzN; intro _ _ _ _ _ _ _ _ _ _ _ _ _ _ _ _ _ _ _ _ _ _ _ _; (try k_sweep))))
  (k_with "msteps" => repeat' (first | (k_unfold; (try dsimp only)) | ((fail_if_success (with_reducible show wpAny _ _ (exec (Stmt.For _ _ _ _ _) _) _ _ _)); (fail_if_success (with_reducible show wpAny _ _ (exec (Stmt.While _ _ _ _) _) _ _ _)); first | walk1 | (dsimp only; walk1) | (leave1; (try dsimp only)))))
  (k_with "menterN" => (refine' enterX ?zzk1 ?zzk2 ?zzk3 ?zzk4 ?zzk5 ?zzkA ?zzkF ?zzkK ?zzk6 ?zzk7 ?zzk8 ?zzk9 ?zzkB ?_ ?zzc2 ?zzc3 ?zzc4 ?zzc5; (case zzkA => exact rfl); (case zzkF => first | exact rfl | assumption); (case zzkK => first | exact rfl | assumption); (case zzk1 => k_asm); (case zzk2 => k_asm); (case zzk3 => k_asm); (case zzk4 => k_asm); (case zzk5 => k_asm); (case zzk6 => k_is); (case zzk7 => k_is); (case zzk8 => walk_at "room"); (case zzk9 => exact BindsTo.of_eq rfl); (case zzc5 => decide); (case zzkB => exact locs rfl); (case zzc2 => exact rfl); (case zzc3 => exact rfl); (case zzc4 => exact rfl); k_whole; intro _ _ _ _ _ _ _ _ _ _; (try dsimp only); (try k_fold)))
  (k_with "call builtin:list.extend" => (k_here; (with_reducible show wpAny _ _ (call (Value.builtin _) [Value.ref _, Value.ref _]) _ _ _); k_dflt (refine' ext_list ?zzF ?zzN ?zzb ?zzz ?zzU ?_; (case zzF => k_asm); (case zzN => k_asm); (case zzU => k_updF); (case zzb => walk_at "hx"); (case zzz => omega); k_whole); intro zzh zzn zzF zzN; (try dsimp only at zzN); revert zzh zzn zzF zzN; intro _ _ _ _; (try k_sweep)))
  (k_with "kall" => assumption)
  trivial
structure ExF (P : Kn) (x dx T₁ : Addr) (c sh : Int) (rt : Addr) (tls : List (Addr × Obj)) (ls ys zs pre seq : List Value) (o : Nat) : Prop where
  hxT : @Ne Nat x T₁
  hdT : @Ne Nat dx T₁
  offx : ∀ p ∈ tls, @Ne Nat p.1 x
  offd : ∀ p ∈ tls, @Ne Nat p.1 dx
  offT : ∀ p ∈ tls, @Ne Nat p.1 T₁
  ho : o ≤ seq.length
  hz : zs.length ≤ 32
  hy : ys.length = 32 * ls.length
  hc : c = (ys.length : Int) + zs.length
  tr : Tree (Orr P tls) sh rt ls
  lv : ∀ j, j < ls.length → ∃ b, ls[j]? = some (.ref b) ∧ LAt (Orr P tls) b (part ys j)
  ct : ys ++ zs = pre ++ seq.take o
theorem news_three {h₀ h h' : Heap} {L a b c : Addr} {oa ob oc oa' ob' oc' : Obj} {tls : List (Addr × Obj)} (N : News h₀ L h ((a, oa) :: (b, ob) :: (c, oc) :: tls)) (x : ExtB [a, b, c] h h') (ea : h'.get? a = some oa') (eb : h'.get? b = some ob') (ec : h'.get? c = some oc')
    (h1 : ∀ p ∈ tls, @Ne Nat p.1 a) (h2 : ∀ p ∈ tls, @Ne Nat p.1 b) (h3 : ∀ p ∈ tls, @Ne Nat p.1 c) : News h₀ L h' ((a, oa') :: (b, ob') :: (c, oc') :: tls) := by
  intro p hp
  rcases List.mem_cons.mp hp with rfl | hp
  · exact ⟨ea, (N _ (.head _)).2⟩
  rcases List.mem_cons.mp hp with rfl | hp
  · exact ⟨eb, (N _ (.tail _ (.head _))).2⟩
  rcases List.mem_cons.mp hp with rfl | hp
  · exact ⟨ec, (N _ (.tail _ (.tail _ (.head _)))).2⟩
  · have z := N p (.tail _ (.tail _ (.tail _ hp)))
    refine ⟨x _ _ (fun hm => ?_) z.1, z.2⟩
    rcases List.mem_cons.mp hm with e | hm
    · exact h1 p hp e
    rcases List.mem_cons.mp hm with e | hm
    · exact h2 p hp e
    · exact h3 p hp (List.mem_singleton.mp hm)
theorem fr_three {h₀ h h' : Heap} {L a b c : Addr} {oa ob oc : Obj} {m : PySem.Str → Option Value} {tls : List (Addr × Obj)} (F : Fr h₀ L h m) (N : News h₀ L h ((a, oa) :: (b, ob) :: (c, oc) :: tls)) (x : ExtB [a, b, c] h h') : Fr h₀ L h' m :=
  frB F (fun d hd => by
    rcases List.mem_cons.mp hd with rfl | hd
    · exact (N _ (.head _)).2
    rcases List.mem_cons.mp hd with rfl | hd
    · exact (N _ (.tail _ (.head _))).2
    · rw [List.mem_singleton.mp hd]; exact (N _ (.tail _ (.tail _ (.head _)))).2) x
theorem orr_is {g h : Heap} {L : Addr} {m : PySem.Str → Option Value} {P : Kn} {tls news : List (Addr × Obj)} (F : Fr g L h m) (N : News g L h news) (k : ∀ p ∈ tls, p ∈ news) (hP : ∀ a o, P a o → g.get? a = some o) : ∀ a o, Orr P tls a o → h.get? a = some o := fun a o e => e.elim (fun e => F.keep _ _ (hP a o e)) fun e => (N _ (k _ e)).1
theorem led_ne {g h : Heap} {L a b : Addr} {o ob : Obj} {news : List (Addr × Obj)} (N : News g L h news) (hm : (b, ob) ∈ news) (e : g.get? a = some o) : a ≠ b := fun q => by
  have := (N _ hm).2.2
  rw [← q, e] at this; cases this
theorem map_twice {x : PySem.Str} {a b : Option Value} {m : PySem.Str → Option Value} : (fun y => if y = x then a else if y = x then b else m y) = fun y => if y = x then a else m y := by
  funext y
  by_cases e : y = x
  · simp only [if_pos e]
  · simp only [if_neg e]
theorem map_same {x : PySem.Str} {a : Option Value} {m : PySem.Str → Option Value} (h : m x = a) : m = fun y => if y = x then a else m y := by
  funext y
  by_cases e : y = x
  · rw [if_pos e, e, h]
  · rw [if_neg e]
theorem take_more {seq : List Value} {o k : Nat} : seq.take o ++ (seq.drop o).take k = seq.take (o + ((seq.drop o).take k).length) := by
  rw [List.take_add]
  congr 1
  rw [List.length_take, kmk_take_min]
theorem newsNew {h₀ h h' : Heap} {L : Addr} {m : PySem.Str → Option Value} {tl : List (Addr × Obj)} (F : Fr h₀ L h m) (n : NewIn h h' tl) : News h₀ L h' tl := fun p hp => ⟨(n p hp).1, frNone F (n p hp).2⟩
section
variable {prog : Program} {w : World} {A : Around} {E : Value → Shared → Prop} {Q : Flow → Shared → Prop} {s : Shared} {env : Env} {h₀ : Heap} {L : Addr}
theorem While_m {test : Expr} {body : List Stmt} {pos : Pos} {m₀ : PySem.Str → Option Value} {news : List (Addr × Obj)} (x : PySem.Str) (J : Nat → Value → List (Addr × Obj) → Prop) {n₀ : Nat} {v₀ : Value}
    (F : Fr h₀ L s.heap m₀) (N : News h₀ L s.heap news) (hv : m₀ x = some v₀) (hJ : J n₀ v₀ news)
    (turn : ∀ n v news₁ h₁ tk₁, Fr h₀ L h₁ (fun y => if y = x then some v else m₀ y) → News h₀ L h₁ news₁ → J n v news₁ →
      wpAny (model prog w) A (isTrue test env (eval test env)) (fun b s₂ =>
        if b = true then wpAny (model prog w) A (execs body env) (WhileStep2 h₀ L s (fun n m₁ nx => ∃ v, m₁ = (fun y => if y = x then some v else m₀ y) ∧ J n v nx) Q n) E s₂ else Q .next s₂) E { s with heap := h₁, toks := tk₁ })
    (hE : PassesOwn (model prog w) A env E := by passes_own) :
    wpAny (model prog w) A (exec (.While test body [] pos) env) Q E s :=
  While_inv2 (fun n m₁ nx => ∃ v, m₁ = (fun y => if y = x then some v else m₀ y) ∧ J n v nx) F N ⟨v₀, map_same hv, hJ⟩ (fun n m₁ news₁ h₁ tk₁ F₁ N₁ ⟨v, e, hj⟩ => turn n v news₁ h₁ tk₁ (e ▸ F₁) N₁ hj) hE
end
theorem o20_1 : True := by (k_with "msteps2" => repeat' (first | (k_unfold; (try dsimp only)) | ((fail_if_success (with_reducible show wpAny _ _ (exec (Stmt.For _ _ _ _ _) _) _ _ _)); (fail_if_success (with_reducible show wpAny _ _ (exec (Stmt.While _ _ _ _) _) _ _ _)); (fail_if_success (with_reducible show wpAny _ _ (call (Value.ref 242) _) _ _ _)); (fail_if_success (with_reducible show wpAny _ _ (call (Value.ref 235) _) _ _ _)); first | walk1 | (dsimp only; walk1) | (leave1; (try dsimp only))))); trivial
set_option maxHeartbeats 4000000 in
theorem mext {w : World} {A A₀ : Around} {env : Env} {outer : List Env} {base h₀ : Heap} {L : Addr} {m : PySem.Str → Option Value} {mean : ExcName → Option Value} {mg mb : PySem.Str → Option Value} {s : Shared} {Q E : Value → Shared → Prop}
    (C : Cx w 140 700 A A₀ env outer base h₀ L m mean mg mb s) {x dx rt T₁ q : Addr} {c sh off : Int} {t1 t2 t3 : Tok} {zs ys ls seq : List Value} {n nq : Nat} {P : Kn} (hN : News h₀ L s.heap [(x, vecObj dx c t1 sh t2 rt T₁ off t3), (dx, dictOf [] 0), (T₁, listOf zs.toArray n)]) (h1 : x ≠ dx) (h2 : x ≠ T₁) (h3 : dx ≠ T₁) (hq : s.heap.get? q = some (listOf seq.toArray nq)) (hq1 : q ≠ x) (hq2 : q ≠ dx) (hq3 : q ≠ T₁)
    (hP : ∀ a o, P a o → s.heap.get? a = some o) (hPn : ∀ a o, P a o → a ≠ x ∧ a ≠ dx ∧ a ≠ T₁) (hV : Parts P c sh rt off ls ys zs) (hs : ys.length + zs.length + seq.length ≤ 20000)
    (hret : ∀ h' tk c' t1' sh' t2' rt' T' off' t3' n' tls ls' ys' zs', ExtB [x, dx, T₁] s.heap h' → (∀ p ∈ (x, vecObj dx c' t1' sh' t2' rt' T' off' t3') :: (dx, dictOf [] 0) :: (T', listOf zs'.toArray n') :: tls, h'.get? p.1 = some p.2 ∧ (p.1 ∉ [x, dx, T₁] → s.heap.get? p.1 = none)) →
      Parts (Orr P tls) c' sh' rt' off' ls' ys' zs' → ys' ++ zs' = ys ++ zs ++ seq → Q .none { s with heap := h', toks := tk }) :
    wpAny (model PySem.Challenge.rw_im0011_01.row.prog w) A (call (.ref 249) [.ref x, .ref q]) Q E s := by
  have : (PySem.Challenge.rw_im0011_01, Mine.kx.heap_1) = (PySem.Challenge.rw_im0011_01, Mine.kx.heap_1) := by k_fill; rfl
  obtain ⟨B, F, X, T, fr, hf, hke, hh, hd, hu⟩ := C
  obtain ⟨hdl, dp, frs, gd, un⟩ := A
  dsimp only at fr hh hd hu
  subst hh fr
  refine wpAny_call ?_
  k_dflt walk_at "menterN"
  rename_i g' L' hh1 Ug Eg F' N' B' X'' T'
  have hq' := Ug _ _ hq (by simp [hq1, hq2, hq3])
  have hqI : g'.IsList q seq.toArray := ⟨_, hq', rfl, nq, rfl⟩
  have hP' : ∀ a o, P a o → g'.get? a = some o := fun a o e => Ug _ _ (hP a o e) (by simp [hPn a o e])
  replace h1 : @Ne Nat x dx := h1
  replace h2 : @Ne Nat x T₁ := h2
  replace h3 : @Ne Nat dx T₁ := h3
  walk_at "msteps2"
  rename Fr _ _ _ _ => F9
  rename News _ _ _ _ => N9
  obtain ⟨v1, v2, v3, v4, v5, v6⟩ := hV
  refine While_m (n₀ := 2 * (seq.length - 0) + (if zs.length = 32 then 1 else 0)) "offset" (fun n v nx => ∃ (o : Nat) (t : Tok) (c : Int) (t1 : Tok) (sh : Int) (t2 : Tok) (rt T₁ : Addr) (n' : Nat) (tls : List (Addr × Obj)) (ls ys' zs' : List Value), v = .int o t ∧
    nx = (x, vecObj dx c t1 sh t2 rt T₁ off t3) :: (dx, dictOf [] 0) :: (T₁, listOf zs'.toArray n') :: tls ∧ ExF P x dx T₁ c sh rt tls ls ys' zs' (ys ++ zs) seq o ∧ n = 2 * (seq.length - o) + (if zs'.length = 32 then 1 else 0)) F9 N9 (by rfl) ⟨0, _, c, t1, sh, t2, rt, T₁, n, [], ls, ys, zs, rfl, rfl, ?_, rfl⟩ ?_
  · exact ⟨h2, h3, (fun _ h => nomatch h), (fun _ h => nomatch h), (fun _ h => nomatch h), Nat.zero_le _, v4, v3, v1, v5.mono (Sub.orr _ _), fun j hj => (v6 j hj).imp fun b e => ⟨e.1, e.2.mono (Sub.orr _ _)⟩, by rw [List.take_zero, List.append_nil]⟩
  rintro n v nx hh tk₁ F₁ N₁ ⟨o, t, c, t1, sh, t2, rt, T₁, n', tls, ls, ys', zs', rfl, rfl, hI, rfl⟩
  clear F9 N9
  have hsb : (seq.take o).length ≤ seq.length := by rw [List.length_take]; exact Nat.min_le_right _ _
  have hct := congrArg List.length hI.ct
  simp only [List.length_append] at hct
  have hz := hI.hz
  walk_at "msteps2"
  · have hxT : x ≠ T₁ := hI.hxT
    have hdT : dx ≠ T₁ := hI.hdT
    have hqT : q ≠ T₁ := led_ne N₁ (.tail _ (.tail _ (.head _))) hq'
    refine fill_tail (by walk_at "mcx") (news_sub N₁ (fun p hp => List.mem_append_left tls hp)) h1 hxT hdT (by walk_at "hx") hq1 hq2 hqT hI.hz (by omega) hI.ho ?_
    intro h2' tk2 t1' tr2 n2 ex ex1 ex2 ex3
    have F2 := fr_three F₁ N₁ ex
    have N2 := news_three N₁ ex ex1 ex2 ex3 hI.offx hI.offd hI.offT
    clear F₁ N₁
    have hdl := take_more (seq := seq) (o := o) (k := 32 - zs'.length)
    have hdll : (List.take (32 - zs'.length) (List.drop o seq)).length = min (32 - zs'.length) (seq.length - o) := by rw [List.length_take, List.length_drop]
    generalize List.take (32 - zs'.length) (List.drop o seq) = dl at *
    have ho := hI.ho
    have hzd : (zs' ++ dl).length ≤ 32 := by rw [List.length_append]; omega
    walk_at "msteps2"
    · rename_i hq32
      have h32 : (zs' ++ dl).length = 32 := by simp at hq32 ⊢; omega
      rename Fr _ _ _ _ => F9
      rename News _ _ _ _ => N9
      have hy := hI.hy
      have hc := hI.hc
      have h32' := h32
      rw [List.length_append] at h32'
      refine ins_tail (P := Orr P tls) (ls := ls) (by walk_at "mcx") (news_sub N9 (fun p hp => List.mem_append_left tls hp)) h1 hxT hdT (orr_is F9 N9 (fun p hp => .tail _ (.tail _ (.tail _ hp))) hP') (fun a o e => ?_) hI.tr (by omega) (by omega) ?_
      · rcases e with e | e
        · have e' := hP' a o e
          exact ⟨led_ne N9 (.head _) e', led_ne N9 (.tail _ (.head _)) e', led_ne N9 (.tail _ (.tail _ (.head _))) e'⟩
        · exact ⟨hI.offx _ e, hI.offd _ e, hI.offT _ e⟩
      intro h3' tk3 t2' r3 sh3 T₂ n3 tls2 ex4 e1 e2 e3 ne off2 tr3
      have F3 := fr_three F9 N9 ex4
      have N3 := news_three N9 ex4 e1 e2 e3 hI.offx hI.offd hI.offT
      have Nn := newsNew F9 ne
      have o9 := newOff N9 ne
      have N4 : News g' L' h3' ((x, vecObj dx (c + (dl.length : Int)) t1' sh3 t2' r3 T₂ off t3) :: (dx, dictOf [] 0) :: (T₂, listOf ([] : List Value).toArray n3) :: ((T₁, listOf (zs' ++ dl).toArray n2) :: (tls ++ tls2))) := by
        intro p hp
        rcases List.mem_cons.mp hp with rfl | hp
        · exact N3 _ (.head _)
        rcases List.mem_cons.mp hp with rfl | hp
        · exact N3 _ (.tail _ (.head _))
        rcases List.mem_cons.mp hp with rfl | hp
        · exact Nn _ (.head _)
        rcases List.mem_cons.mp hp with rfl | hp
        · exact N3 _ (.tail _ (.tail _ (.head _)))
        rcases List.mem_append.mp hp with hp | hp
        · exact N3 _ (.tail _ (.tail _ (.tail _ hp)))
        · exact Nn _ (.tail _ hp)
      clear N3 Nn N9 F9
      walk_at "msteps2"
      rename Fr _ _ _ _ => F9
      rename News _ _ _ _ => N9
      rw [map_twice] at F9
      have eo : ((o : Int) + (dl.length : Int)) = ((o + dl.length : Nat) : Int) := by omega
      rw [eo] at F9
      have kk : Sub (Orr P tls) (Orr P ((T₁, listOf (zs' ++ dl).toArray n2) :: (tls ++ tls2))) := fun a o e => e.imp id fun e => .tail _ (List.mem_append_left _ e)
      refine ⟨_, _, _, _, 2 * (seq.length - (o + dl.length)) + (if ([] : List Value).length = 32 then 1 else 0), rfl, F9, N9, ?_, _, rfl, o + dl.length, _, _, _, _, _, _, T₂, n3, _, ls ++ [.ref T₁], ys' ++ (zs' ++ dl), [], rfl, rfl, ⟨?_, ?_, ?_, ?_, ?_, by omega, by simp, ?_, ?_, ?_, ?_, ?_⟩, rfl⟩
      · rw [if_neg (by simp)]; split <;> omega
      · exact fun e => o9 _ (.head _) _ (.head _) e.symm
      · exact fun e => o9 _ (.tail _ (.head _)) _ (.head _) e.symm
      · intro p hp
        rcases List.mem_cons.mp hp with rfl | hp
        · exact hxT.symm
        rcases List.mem_append.mp hp with hp | hp
        · exact hI.offx p hp
        · exact o9 _ (.head _) p (.tail _ hp)
      · intro p hp
        rcases List.mem_cons.mp hp with rfl | hp
        · exact hdT.symm
        rcases List.mem_append.mp hp with hp | hp
        · exact hI.offd p hp
        · exact o9 _ (.tail _ (.head _)) p (.tail _ hp)
      · intro p hp
        rcases List.mem_cons.mp hp with rfl | hp
        · exact fun e => o9 _ (.tail _ (.tail _ (.head _))) _ (.head _) e.symm
        rcases List.mem_append.mp hp with hp | hp
        · exact fun e => o9 _ (.tail _ (.tail _ (.tail _ hp))) _ (.head _) e.symm
        · exact off2 p hp
      · simp only [List.length_append, List.length_singleton]; omega
      · simp only [List.length_append, List.length_nil]; omega
      · exact tr3.mono fun a o e => e.elim (kk a o) fun e => .inr (.tail _ (List.mem_append_right _ e))
      · exact leaves_push kk hy h32 hI.lv (LAt.of (.head _))
      · rw [List.append_nil, ← List.append_assoc, hI.ct, List.append_assoc, hdl]
    · rename_i hq32
      have h32 : (zs' ++ dl).length ≠ 32 := by simp at hq32 ⊢; omega
      have h32' := h32
      rw [List.length_append] at h32'
      rename Fr _ _ _ _ => F9
      rename News _ _ _ _ => N9
      rw [map_twice] at F9
      have eo : ((o : Int) + (dl.length : Int)) = ((o + dl.length : Nat) : Int) := by omega
      rw [eo] at F9
      refine ⟨_, _, _, _, 2 * (seq.length - (o + dl.length)) + (if (zs' ++ dl).length = 32 then 1 else 0), rfl, F9, N9, ?_, _, rfl, o + dl.length, _, _, _, _, _, _, T₁, n2, tls, ls, ys', zs' ++ dl, rfl, rfl, ⟨hxT, hdT, hI.offx, hI.offd, hI.offT, by omega, hzd, hI.hy, ?_, hI.tr, hI.lv, ?_⟩, rfl⟩
      · rw [if_neg h32]; split <;> omega
      · have := hI.hc; rw [List.length_append]; omega
      · rw [← List.append_assoc, hI.ct, List.append_assoc, hdl]
  · have hxT : @Ne Nat x T₁ := hI.hxT
    have offx := hI.offx
    walk_at "msteps2"
    rename Fr _ _ _ _ => F9
    rename News _ _ _ _ => N9
    show Q _ _
    rename (¬ _ < _) => hlt
    have ho := hI.ho
    have eo : o = seq.length := by omega
    have hc := hI.hc
    refine hret _ _ _ _ _ _ _ _ _ _ _ tls ls ys' zs' (fun b o hb e => F9.keep _ _ (Ug b o e hb)) (fun p hp => ⟨(N9 p hp).1, fun hm => ?_⟩) ⟨hc, by omega, hI.hy, hI.hz, hI.tr, hI.lv⟩ (by rw [hI.ct, eo, List.take_length])
    cases z : s.heap.get? p.1 with
    | none => rfl
    | some o => have := Ug _ _ z hm; rw [(N9 p hp).2.2] at this; cases this

theorem reset21 : True := by
  k_with_none
  (k_with "kinst" => (refine' InstAt.of_base ?zzF ?zzh1 ?zzh2; (case zzF => k_asm); (case zzh1 => k_asm); (case zzh2 => k_asm)))
  (k_with "mcx" => exact ⟨by k_asm, by k_asm, by k_asm, by k_asm, rfl, by first | rfl | assumption, by first | rfl | assumption, rfl, by walk_at "room", by walk_at "unitz"⟩)
  (k_with "room" => first | exact rm 1 _ (by assumption) rfl (by exact rfl) | exact rm 0 _ (by assumption) rfl (by exact rfl) | exact rm 2 _ (by assumption) rfl (by exact rfl) | exact rm0 0 (by assumption) rfl (by exact rfl) | exact rm0 1 (by assumption) rfl (by exact rfl) | ((try simp only [depth_under_make, depth_under_kw, depth_in1, depth_deeper, depth_caller]); (try dsimp only [Around.deeper, Around.in1, Around.under]); omega))
  (k_with "unitz" => first | exact rm 3 _ (by assumption) rfl (by exact rfl) | exact rm 4 _ (by assumption) rfl (by exact rfl) | exact rm 0 _ (by assumption) rfl (by exact rfl) | exact rm 1 _ (by assumption) rfl (by exact rfl) | exact rm 6 _ (by assumption) rfl (by exact rfl) | exact rm 7 _ (by assumption) rfl (by exact rfl) | ((try simp only [units_in1, units_deeper, Around.mark_units, units_caller]); (try dsimp only [Around.deeper, Around.in1, Around.under]); omega))
  (k_with "menter" => (refine' enterX ?zzk1 ?zzk2 ?zzk3 ?zzk4 ?zzk5 ?zzkA ?zzkF ?zzkK ?zzk6 ?zzk7 ?zzk8 ?zzk9 ?zzkB ?_ ?zzc2 ?zzc3 ?zzc4 ?zzc5; (case zzkA => exact rfl); (case zzkF => first | exact rfl | assumption); (case zzkK => first | exact rfl | assumption); (case zzk1 => k_asm); (case zzk2 => k_asm); (case zzk3 => k_asm); (case zzk4 => first | exact News.nil | k_asm); (case zzk5 => k_asm); (case zzk6 => k_is); (case zzk7 => k_is); (case zzk8 => walk_at "room"); (case zzk9 => first | exact BindsTo.of_eq rfl | exact binds_K (by k_in) rfl (by k_is) rfl rfl rfl); (case zzc5 => decide); (case zzkB => exact locs rfl); (case zzc2 => exact rfl); (case zzc3 => exact rfl); (case zzc4 => exact rfl); k_whole; intro _ _ _ _ _ _ _ _ _ _; (try dsimp only); (try k_fold)))
  (k_with "call builtin:len" => (k_here; (with_reducible show wpAny _ _ (call (Value.builtin _) [Value.ref _]) _ _ _); (with_unfolding_all refine' len_list ?zzk1 ?zzk2 ?_; (case zzk1 => is_list); (case zzk2 => omega); k_whole)))
  (k_with "subscriptTail" => (k_here; (with_reducible show wpAny _ _ (subscriptTail _ _ (Value.ref _) (Value.int _ _)) _ _ _); (with_unfolding_all refine' item_list ?zzk1 ?zzk2 ?zzk3 ?zzk4 ?_ ?zzk6; (case zzk1 => is_list); (case zzk2 => first | assumption | exact rfl); (case zzk3 => omega); (case zzk4 => omega); (case zzk6 => with_unfolding_all rfl); k_whole)))
  (k_with "setItem ref int" => (k_here; (with_reducible show wpAny _ _ (setItem (Value.ref _) (Value.int _ _) _) _ _ _); k_dflt (refine' set_list ?zzk1 ?zzk2 ?zzk3 ?zzk4 ?zzk5 ?zzk6 ?_; (case zzk1 => k_asm); (case zzk2 => k_asm); (case zzk6 => k_upd); (case zzk3 => omega); (case zzk4 => omega); (case zzk5 => omega); k_whole); intro _ _ _; (try k_sweep)))
  (k_with "call builtin:list.append" => (k_here; (with_reducible show wpAny _ _ (call (Value.builtin _) [Value.ref _, _]) _ _ _); k_dflt (refine' app_list ?zzk1 ?zzk2 ?zzk3 ?zzk4 ?_; (case zzk1 => k_asm); (case zzk2 => k_asm); (case zzk4 => k_upd); (case zzk3 => omega); k_whole); intro _ _ _; (try k_sweep)))
  (k_with "call type:list" => (k_here; (with_reducible show wpAny _ _ (call (Value.type _) [Value.ref _]) _ _ _); (with_unfolding_all refine' copy_list' ?zzk1 ?zzk2 ?zzk3 ?zzk4 ?_; (case zzk1 => k_asm); (case zzk2 => k_asm); (case zzk3 => is_list); (case zzk4 => omega); k_whole); walk_at "in2"))
  (k_with "truthy ref" => (k_here; (with_reducible show wpAny _ _ (truthy (Value.ref _)) _ _ _); (with_unfolding_all refine' truthy_list' ?zzk1 ?zzk2 ?_; (case zzk1 => is_list); (case zzk2 => omega); k_whole)))
  (k_with "binaryOp BitAnd int int" => (k_here; (with_reducible refine and31 ?zzk1 ?_; (case zzk1 => omega)); intro _))
  (k_with "binaryOp RShift int int" => (k_here; first | with_reducible refine shr5 ?_ | with_reducible refine shr10 ?_; intro _))
  (k_with "call ref" => (k_here; (with_reducible show wpAny _ _ (call (Value.ref 296) _) _ _ _); k_dflt (refine' new_c ?zzkC ?zzkt ?zzkz ?_; (case zzkC => walk_at "mcx"); (case zzkt => is_list); (case zzkz => first | omega | (simp only [List.length_cons, List.length_nil]; omega)); intro zzx zztls zzh zztk zzdx zzt3 zzext zznew zze; subst zze; (have zzl1 := allNe_of (zznew _ (.head _)).2 (news_get (by k_asm))); (have zzl2 := allNe_of (zznew _ (.tail _ (.head _))).2 (news_get (by k_asm))); (have zzF := frExt (by k_asm) zzext); (have zzN := newsExt (by k_asm) (by k_asm) zzext zznew); (simp only [List.cons_append, List.nil_append] at zzN); (simp only [AllNe, and_true] at zzl1 zzl2); clear zzext zznew; revert zzx zzh zztk zzdx zzt3 zzl1 zzl2 zzF zzN; intro _ _ _ _ _ _ _ _ _; (try k_sweep))))
  (k_with "call ref" => (k_here; (with_reducible show wpAny _ _ (call (Value.ref 228) _) _ _ _); k_dflt (refine' newpath0 ?zzkC ?_; (case zzkC => walk_at "mcx"); intro zzh zztk zzext; (have zzF := frExt (by k_asm) zzext); (have zzN := newsExt (by k_asm) (by k_asm) zzext (tl := []) (fun _ hp => nomatch hp)); (simp only [List.nil_append] at zzN); clear zzext; revert zzh zztk zzF zzN; intro _ _ _ _; (try k_sweep))))
  (k_with "aft1" => (intro zzr zzh zztk zzn zzext zznew; (have zzl1 := allNe_of (zznew _ (.head _)).2 (news_get (by k_asm))); (have zzF := frExt (by k_asm) zzext); (have zzN := newsExt (by k_asm) (by k_asm) zzext zznew); (simp only [List.cons_append, List.nil_append] at zzN); (simp only [AllNe, and_true] at zzl1); clear zzext zznew; revert zzr zzh zztk zzn zzl1 zzF zzN; intro _ _ _ _ _ _ _; (try k_sweep)))
  (k_with "call ref" => (k_here; (with_reducible show wpAny _ _ (call (Value.ref 228) _) _ _ _); k_dflt (refine' newpath5 ?zzkC ?zzkx ?zzkd ?_; (case zzkC => walk_at "mcx"); (case zzkx => walk_at "hx"); (case zzkd => walk_at "hx"); walk_at "aft1")))
  (k_with "hx" => first | assumption | exact Fr.keep (by k_asm) _ _ (by assumption) | exact News.get (by k_asm) (by k_mem))
  (k_with "call ref" => (k_here; (with_reducible show wpAny _ _ (call (Value.ref 263) _) _ _ _); k_dflt (refine' push5 ?zzkC ?zzkp ?zzkz ?_; (case zzkC => walk_at "mcx"); (case zzkp => is_list); (case zzkz => omega); walk_at "aft1")))
  (k_with "aft2" => (intro zzr zzr2 zzh zztk zzn zzn2 zzext zznew; (have zzl1 := allNe_of (zznew _ (.head _)).2 (news_get (by k_asm))); (have zzl2 := allNe_of (zznew _ (.tail _ (.head _))).2 (news_get (by k_asm))); (have zzF := frExt (by k_asm) zzext); (have zzN := newsExt (by k_asm) (by k_asm) zzext zznew); (simp only [List.cons_append, List.nil_append] at zzN); (simp only [AllNe, and_true] at zzl1 zzl2); clear zzext zznew; revert zzr zzr2 zzh zztk zzn zzn2 zzl1 zzl2 zzF zzN; intro _ _ _ _ _ _ _ _ _ _; (try k_sweep)))
  (k_with "call ref" => (k_here; (with_reducible show wpAny _ _ (call (Value.ref 263) _) _ _ _); k_dflt (refine' pushT ?zzkC ?zzkx ?zzkd ?zzkP ?zzkT ?zzkc ?zzkl ?zzkn ?_; (case zzkC => walk_at "mcx"); (case zzkx => walk_at "hx"); (case zzkd => walk_at "hx"); (case zzkT => assumption); (case zzkP => walk_at "hP"); (case zzkc => omega); (case zzkl => omega); (case zzkn => omega); intro zzr zztls zzh zztk zzext zznew zztr; (have zzF := frExt (by k_asm) zzext); (have zzN := newsExt (by k_asm) (by k_asm) zzext zznew); revert zzr zztls zzh zztk zzext zznew zztr zzF zzN; intro _ _ _ _ _ _ _ _ _; (try k_sweep))))
  (k_with "hP" => first | assumption | exact hPk (by k_asm) (by assumption))
  (k_with "call ref" => (k_here; (with_reducible show wpAny _ _ (call (Value.ref 214) _) _ _ _); k_dflt (refine' root_c ?zzkC ?zzkx ?zzkd ?zzkP ?zzkT ?zzkc ?zzkl ?_; (case zzkC => walk_at "mcx"); (case zzkx => walk_at "hx"); (case zzkd => walk_at "hx"); (case zzkT => assumption); (case zzkP => walk_at "hP"); (case zzkc => omega); (case zzkl => omega); intro zztp zzr zztls zzh zztk zzsh zzt zzn zzext zznew zztr; (have zzF := frExt (by k_asm) zzext); (have zzN := newsExt (by k_asm) (by k_asm) zzext zznew); (simp only [List.cons_append] at zzN); revert zztp zzr zztls zzh zztk zzsh zzt zzn zzext zznew zztr zzF zzN; intro _ _ _ _ _ _ _ _ _ _ _ _ _; (try k_sweep))))
  (k_with "call ref" => (k_here; (with_reducible show wpAny _ _ (call (Value.ref 197) _) _ _ _); k_dflt (refine' dosetT ?zzkC ?zzkx ?zzkd ?zzkiv ?zzkP ?zzkV ?zzki ?zzkl ?_; (case zzkC => walk_at "mcx"); (case zzkx => walk_at "hx"); (case zzkd => walk_at "hx"); (case zzkiv => assumption); (case zzkV => assumption); (case zzkP => walk_at "hP"); (case zzki => omega); (case zzkl => omega); intro zzr zztls zzh zztk zzext zznew zztr; (have zzF := frExt (by k_asm) zzext); (have zzN := newsExt (by k_asm) (by k_asm) zzext zznew); revert zzr zztls zzh zztk zzext zznew zztr zzF zzN; intro _ _ _ _ _ _ _ _ _; (try k_sweep))))
  (k_with "call ref" => (k_here; (with_reducible show wpAny _ _ (call (Value.ref 221) _) _ _ _); k_dflt (refine' append_c ?zzkC ?zzkx ?zzkd ?zzkP ?zzkV ?zzkt ?zzkl ?_; (case zzkC => walk_at "mcx"); (case zzkx => walk_at "hx"); (case zzkd => walk_at "hx"); (case zzkV => assumption); (case zzkt => assumption); (case zzkP => walk_at "hP"); (case zzkl => omega); intro zzx zzdx zztl zzh zztk zzc zzt1 zzsh zzt2 zzrt zzoff zzt3 zzn zztls zzls zzys zzzs zzext zznew zzof zztr zze; (have zzF := frExt (by k_asm) zzext); (have zzN := newsExt (by k_asm) (by k_asm) zzext zznew); (simp only [List.cons_append] at zzN); revert zzx zzdx zztl zzh zztk zzc zzt1 zzsh zzt2 zzrt zzoff zzt3 zzn zztls zzls zzys zzzs zzext zznew zzof zztr zze zzF zzN; intro _ _ _ _ _ _ _ _ _ _ _ _ _ _ _ _ _ _ _ _ _ _ _ _; (try k_sweep))))
  (k_with "msteps" => repeat' (first | (k_unfold; (try dsimp only)) | ((fail_if_success (with_reducible show wpAny _ _ (exec (Stmt.For _ _ _ _ _) _) _ _ _)); (fail_if_success (with_reducible show wpAny _ _ (exec (Stmt.While _ _ _ _) _) _ _ _)); first | walk1 | (dsimp only; walk1) | (leave1; (try dsimp only)))))
  (k_with "menterN" => (refine' enterX ?zzk1 ?zzk2 ?zzk3 ?zzk4 ?zzk5 ?zzkA ?zzkF ?zzkK ?zzk6 ?zzk7 ?zzk8 ?zzk9 ?zzkB ?_ ?zzc2 ?zzc3 ?zzc4 ?zzc5; (case zzkA => exact rfl); (case zzkF => first | exact rfl | assumption); (case zzkK => first | exact rfl | assumption); (case zzk1 => k_asm); (case zzk2 => k_asm); (case zzk3 => k_asm); (case zzk4 => k_asm); (case zzk5 => k_asm); (case zzk6 => k_is); (case zzk7 => k_is); (case zzk8 => walk_at "room"); (case zzk9 => exact BindsTo.of_eq rfl); (case zzc5 => decide); (case zzkB => exact locs rfl); (case zzc2 => exact rfl); (case zzc3 => exact rfl); (case zzc4 => exact rfl); k_whole; intro _ _ _ _ _ _ _ _ _ _; (try dsimp only); (try k_fold)))
  (k_with "call builtin:list.extend" => (k_here; (with_reducible show wpAny _ _ (call (Value.builtin _) [Value.ref _, Value.ref _]) _ _ _); k_dflt (refine' ext_list ?zzF ?zzN ?zzb ?zzz ?zzU ?_; (case zzF => k_asm); (case zzN => k_asm); (case zzU => k_updF); (case zzb => walk_at "hx"); (case zzz => omega); k_whole); intro zzh zzn zzF zzN; (try dsimp only at zzN); revert zzh zzn zzF zzN; intro _ _ _ _; (try k_sweep)))
  (k_with "kall" => assumption)
  trivial
theorem kitAt_L {h : Heap} {l : Addr} {its : Array Value} (x : h.IsList l its) : KitAt l "list" h := let ⟨o, a, b, _⟩ := x; ⟨o, a, b⟩
theorem o21_1 : True := by (k_with "call builtin:isinstance" => (k_here; (with_reducible show wpAny _ _ (call _ [Value.ref _, Value.ref _]) _ _ _); k_dflt (refine' kia_one kitx_list ?zzX ?zzc ?zzee ?zznb ?_; (case zzc => exact kitAt_L (by is_list)); (case zzX => k_in); (case zzee => kit_is); (case zznb => kit_nb); k_whole; intro _))); trivial
theorem final_ext {P : Kn} {hb g h3 : Heap} {L x dx T₁ T₂ rt : Addr} {oa ob oc : Obj} {c sh off : Int} {t1 t2 t3 : Tok} {n : Nat} {rest tls : List (Addr × Obj)} {ls ys zs xs : List Value}
    (N9 : News g L hb ((x, oa) :: (dx, ob) :: (T₁, oc) :: rest)) (of5 : Off3 rest x dx T₁) (ex : ExtB [x, dx, T₁] hb h3) (hall : ∀ p ∈ (x, vecObj dx c t1 sh t2 rt T₂ off t3) :: (dx, dictOf [] 0) :: (T₂, listOf zs.toArray n) :: tls, h3.get? p.1 = some p.2 ∧ (p.1 ∉ [x, dx, T₁] → hb.get? p.1 = none))
    (hg : Ext g hb) (pt : Parts (Orr (Orr P rest) tls) c sh rt off ls ys zs) (e : xs = ys ++ zs) :
    (∀ p ∈ ((x, vecObj dx c t1 sh t2 rt T₂ off t3) :: (dx, dictOf [] 0) :: (T₂, listOf zs.toArray n) :: tls) ++ rest, h3.get? p.1 = some p.2 ∧ g.get? p.1 = none) ∧
      Vec (Orr P (((x, vecObj dx c t1 sh t2 rt T₂ off t3) :: (dx, dictOf [] 0) :: (T₂, listOf zs.toArray n) :: tls) ++ rest)) x xs := by
  refine ⟨fun p hp => ?_, ?_⟩
  · rcases List.mem_append.mp hp with hp | hp
    · obtain ⟨a, b⟩ := hall p hp
      refine ⟨a, ?_⟩
      by_cases hm : p.1 ∈ [x, dx, T₁]
      · rcases List.mem_cons.mp hm with e | hm
        · rw [e]; exact (N9 _ (.head _)).2.2
        rcases List.mem_cons.mp hm with e | hm
        · rw [e]; exact (N9 _ (.tail _ (.head _))).2.2
        · rw [List.mem_singleton.mp hm]; exact (N9 _ (.tail _ (.tail _ (.head _)))).2.2
      · cases q : g.get? p.1 with
        | none => rfl
        | some o => have := hg _ _ q; rw [b hm] at this; cases this
    · have z := N9 p (.tail _ (.tail _ (.tail _ hp)))
      refine ⟨ex _ _ (fun hm => ?_) z.1, z.2.2⟩
      rcases List.mem_cons.mp hm with e | hm
      · exact (of5 p hp).1 e
      rcases List.mem_cons.mp hm with e | hm
      · exact (of5 p hp).2.1 e
      · exact (of5 p hp).2.2 (List.mem_singleton.mp hm)
  · refine ⟨dx, c, t1, sh, t2, rt, T₂, off, t3, ls, ys, zs, .inr (.head _), .inr (.tail _ (.head _)), pt.mono fun a o h => ?_, LAt.of (.tail _ (.tail _ (.head _))), e⟩
    rcases h with (h | h) | h
    · exact .inl h
    · exact .inr (List.mem_append_right _ h)
    · exact .inr (List.mem_append_left _ (.tail _ (.tail _ (.tail _ h))))
theorem dict_ne_list {its : Array Value} {n : Nat} : (dictOf [] 0 : Obj) ≠ listOf its n := fun q => by
  have h : Value.type "dict" = Value.type "list" := congrArg Obj.cls q
  injection h with h
  exact absurd h (by decide)
theorem news_mid {g h : Heap} {L : Addr} {d a b c : Addr × Obj} {r : List (Addr × Obj)} (N : News g L h (d :: a :: b :: c :: r)) : News g L h [a, b, c] := fun p hp => N p (.tail _ (List.mem_append_left r hp))
theorem news_pre4 {g h : Heap} {L : Addr} {d a b c : Addr × Obj} {r r2 : List (Addr × Obj)} (N : News g L h (d :: a :: b :: c :: (r ++ r2))) : News g L h (a :: b :: c :: r) := fun p hp => N p (.tail _ (by
  rcases List.mem_cons.mp hp with rfl | hp
  · exact .head _
  rcases List.mem_cons.mp hp with rfl | hp
  · exact .tail _ (.head _)
  rcases List.mem_cons.mp hp with rfl | hp
  · exact .tail _ (.tail _ (.head _))
  · exact .tail _ (.tail _ (.tail _ (List.mem_append_left _ hp)))))
theorem head_drop {ws : List Value} {w0 : Value} (h : ws[0]? = some w0) : [w0] ++ ws.drop (1 : Int).toNat = ws := by
  cases ws with
  | nil => cases h
  | cons a r => cases h; rfl
theorem obj_ne {h : Heap} {a b : Addr} {oa ob : Obj} (ha : h.get? a = some oa) (hb : h.get? b = some ob) (hne : oa ≠ ob) : a ≠ b := fun e => by
  rw [e, hb] at ha; exact hne (Option.some.inj ha).symm
theorem o21_2 : True := by (k_with "msteps3" => repeat' (first | (k_unfold; (try dsimp only)) | ((fail_if_success (with_reducible show wpAny _ _ (exec (Stmt.For _ _ _ _ _) _) _ _ _)); (fail_if_success (with_reducible show wpAny _ _ (exec (Stmt.While _ _ _ _) _) _ _ _)); (fail_if_success (with_reducible show wpAny _ _ (call (Value.ref 249) _) _ _ _)); first | walk1 | (dsimp only; walk1) | (leave1; (try dsimp only))))); trivial
theorem w21_3 : True := by (k_with "call ref" => (k_here; (with_reducible show wpAny _ _ (call (Value.ref 176) _) _ _ _); k_dflt (refine' tolist_c ?zzkC ?zzkP ?zzkV ?zzkl ?_; (case zzkC => walk_at "mcx"); (case zzkV => assumption); (case zzkP => walk_at "hP"); (case zzkl => omega); walk_at "aft1"))); trivial
set_option maxHeartbeats 4000000 in
theorem ext_v0 {w : World} {A A₀ : Around} {env : Env} {outer : List Env} {base h₀ : Heap} {L : Addr} {m : PySem.Str → Option Value} {mean : ExcName → Option Value} {mg mb : PySem.Str → Option Value} {s : Shared} {Q E : Value → Shared → Prop}
    (C : Cx w 180 900 A A₀ env outer base h₀ L m mean mg mb s) {x dx rt tl : Addr} {c sh off : Int} {t1 t2 t3 : Tok} (hx : s.heap.get? x = some (vecObj dx c t1 sh t2 rt tl off t3)) (hdx : s.heap.get? dx = some (dictOf [] 0)) {ws : List Value} {P : Kn} (hP : ∀ a o, P a o → s.heap.get? a = some o) {ob dxo rto tlo : Addr} {co sho offo : Int} {o1 o2 o3 : Tok} (hob : s.heap.get? ob = some (vecObj dxo co o1 sho o2 rto tlo offo o3)) (hdo : s.heap.get? dxo = some (dictOf [] 0)) (hVo : Vec P ob ws) (hw : ws.length = 0)
    (hret : ∀ h' tk, Ext s.heap h' → Q (.ref x) { s with heap := h', toks := tk }) :
    wpAny (model PySem.Challenge.rw_im0011_01.row.prog w) A (call (.ref 256) [.ref x, .ref ob]) Q E s := by
  have : (PySem.Challenge.rw_im0011_01, Mine.kx.heap_1) = (PySem.Challenge.rw_im0011_01, Mine.kx.heap_1) := by k_fill; rfl
  obtain ⟨B, F, X, T, fr, hf, hke, hh, hd, hu⟩ := C
  obtain ⟨hdl, dp, frs, gd, un⟩ := A
  dsimp only at fr hh hd hu
  subst hh fr
  refine wpAny_call ?_
  k_dflt walk_at "menter"
  rename_i g' L' h1 Ug Eg F' N' B' X'' T'
  replace Ug := ug0 Ug
  replace hx := Ug _ _ hx
  replace hdx := Ug _ _ hdx
  replace hob := Ug _ _ hob
  replace hdo := Ug _ _ hdo
  replace hP : ∀ a o, P a o → g'.get? a = some o := fun a o e => Ug _ _ (hP a o e)
  walk_at "msteps3"
  rename Fr _ _ _ _ => F9
  rename News _ _ _ _ => N9
  show Q _ _
  exact hret _ _ (extOf Ug F9)

set_option maxHeartbeats 4000000 in
theorem ext_v1 {w : World} {A A₀ : Around} {env : Env} {outer : List Env} {base h₀ : Heap} {L : Addr} {m : PySem.Str → Option Value} {mean : ExcName → Option Value} {mg mb : PySem.Str → Option Value} {s : Shared} {Q E : Value → Shared → Prop}
    (C : Cx w 180 900 A A₀ env outer base h₀ L m mean mg mb s) {x dx rt tl : Addr} {c sh off : Int} {t1 t2 t3 : Tok} (hx : s.heap.get? x = some (vecObj dx c t1 sh t2 rt tl off t3)) (hdx : s.heap.get? dx = some (dictOf [] 0)) {ws ls ys zs : List Value} {w0 : Value} {P : Kn} (hP : ∀ a o, P a o → s.heap.get? a = some o) (hV : Parts P c sh rt off ls ys zs) (ht : LAt P tl zs) {ob dxo rto tlo : Addr} {co sho offo : Int} {o1 o2 o3 : Tok} (hob : s.heap.get? ob = some (vecObj dxo co o1 sho o2 rto tlo offo o3)) (hdo : s.heap.get? dxo = some (dictOf [] 0)) (hVo : Vec P ob ws) (hw : 0 < ws.length) (hw0 : ws[0]? = some w0) (hs : ys.length + zs.length + ws.length ≤ 19000)
    (hret : ∀ r tls h' tk, Ext s.heap h' → NewIn s.heap h' tls → Vec (Orr P tls) r (ys ++ zs ++ ws) → Q (.ref r) { s with heap := h', toks := tk }) :
    wpAny (model PySem.Challenge.rw_im0011_01.row.prog w) A (call (.ref 256) [.ref x, .ref ob]) Q E s := by
  have : (PySem.Challenge.rw_im0011_01, Mine.kx.heap_1) = (PySem.Challenge.rw_im0011_01, Mine.kx.heap_1) := by k_fill; rfl
  obtain ⟨B, F, X, T, fr, hf, hke, hh, hd, hu⟩ := C
  obtain ⟨hdl, dp, frs, gd, un⟩ := A
  dsimp only at fr hh hd hu
  subst hh fr
  refine wpAny_call ?_
  k_dflt walk_at "menter"
  rename_i g' L' h1 Ug Eg F' N' B' X'' T'
  replace Ug := ug0 Ug
  replace hx := Ug _ _ hx
  replace hdx := Ug _ _ hdx
  replace hob := Ug _ _ hob
  replace hdo := Ug _ _ hdo
  replace hP : ∀ a o, P a o → g'.get? a = some o := fun a o e => Ug _ _ (hP a o e)
  walk_at "msteps3"
  rename Off3 _ _ _ _ => of5
  rename Parts _ _ _ _ _ _ _ _ => pt5
  rename (_ ++ _ = _ ++ _) => e5
  rename Fr _ _ _ _ => F9
  rename News _ _ _ _ => N9
  k_dflt (refine kmk_slice_lit (its := ws.toArray) F9 N9 (News.isList N9 (.tail _ (.tail _ (.tail _ (List.mem_append_right _ (.head _)))))) (by kmk_part) (by kmk_part) (pick_fromZ (by omega) rfl) ?_ (by with_unfolding_all rfl) (by kmk_pure) (by rw [List.size_toArray, PySem.sizeLine_eq]; omega))
  intro D9 h9 F10 N10 l10
  clear F9
  walk_at "msteps3"
  have N10' := news_pre4 N10
  have hlen := congrArg List.length e5
  have hdl : (ws.drop (1 : Int).toNat).length = ws.length - 1 := List.length_drop ..
  simp only [List.length_append, List.length_singleton] at hlen
  have hl := fun p hp => l10 p hp
  refine mext (by walk_at "mcx") (news_mid N10) (obj_ne (N10 _ (.tail _ (.head _))).1 (N10 _ (.tail _ (.tail _ (.head _)))).1 (by intro q; cases q)) (obj_ne (N10 _ (.tail _ (.head _))).1 (N10 _ (.tail _ (.tail _ (.tail _ (.head _))))).1 (by intro q; cases q)) (obj_ne (N10 _ (.tail _ (.tail _ (.head _)))).1 (N10 _ (.tail _ (.tail _ (.tail _ (.head _))))).1 dict_ne_list) (N10 _ (.head _)).1
    (Nat.ne_of_gt (hl _ (.head _))) (Nat.ne_of_gt (hl _ (.tail _ (.head _)))) (Nat.ne_of_gt (hl _ (.tail _ (.tail _ (.head _))))) (orr_is F10 N10 (fun p hp => .tail _ (.tail _ (.tail _ (.tail _ (List.mem_append_left _ hp))))) hP) (fun a o e => ?_) pt5 (by omega) ?_
  · rcases e with e | e
    · have e' := hP a o e
      exact ⟨led_ne N10 (.tail _ (.head _)) e', led_ne N10 (.tail _ (.tail _ (.head _))) e', led_ne N10 (.tail _ (.tail _ (.tail _ (.head _)))) e'⟩
    · exact of5 _ e
  intro h3 tk3 c3 t13 sh3 t23 rt3 T3 off3 t33 n3 tls3 ls3 ys3 zs3 ex3 hall3 pt3 e3
  have F11 := fr_three (tls := []) F10 (news_mid N10) ex3
  have N11 : News g' L' h3 [] := News.nil
  obtain ⟨hn, hv⟩ := final_ext (xs := ys ++ zs ++ ws) N10' of5 ex3 hall3 (fun b o e => F10.keep b o e) pt3 (by rw [e3, e5, List.append_assoc (ys ++ zs) [w0], head_drop hw0])
  clear N10 N10' F10
  walk_at "msteps3"
  rename Fr _ _ _ _ => F12
  show Q _ _
  refine hret _ _ _ _ (extOf Ug F12) (fun p hp => ⟨(hn p hp).1, ?_⟩) hv
  cases q : s.heap.get? p.1 with
  | none => rfl
  | some o => have := Ug _ _ q; rw [(hn p hp).2] at this; cases this

set_option maxHeartbeats 4000000 in
theorem ext_l0 {w : World} {A A₀ : Around} {env : Env} {outer : List Env} {base h₀ : Heap} {L : Addr} {m : PySem.Str → Option Value} {mean : ExcName → Option Value} {mg mb : PySem.Str → Option Value} {s : Shared} {Q E : Value → Shared → Prop}
    (C : Cx w 180 900 A A₀ env outer base h₀ L m mean mg mb s) {x dx rt tl : Addr} {c sh off : Int} {t1 t2 t3 : Tok} (hx : s.heap.get? x = some (vecObj dx c t1 sh t2 rt tl off t3)) (hdx : s.heap.get? dx = some (dictOf [] 0)) {ws : List Value} {P : Kn} (hP : ∀ a o, P a o → s.heap.get? a = some o) {ob : Addr} (hob : s.heap.IsList ob ws.toArray) (hw : ws.length = 0)
    (hret : ∀ h' tk, Ext s.heap h' → Q (.ref x) { s with heap := h', toks := tk }) :
    wpAny (model PySem.Challenge.rw_im0011_01.row.prog w) A (call (.ref 256) [.ref x, .ref ob]) Q E s := by
  have : (PySem.Challenge.rw_im0011_01, Mine.kx.heap_1) = (PySem.Challenge.rw_im0011_01, Mine.kx.heap_1) := by k_fill; rfl
  obtain ⟨B, F, X, T, fr, hf, hke, hh, hd, hu⟩ := C
  obtain ⟨hdl, dp, frs, gd, un⟩ := A
  dsimp only at fr hh hd hu
  subst hh fr
  refine wpAny_call ?_
  k_dflt walk_at "menter"
  rename_i g' L' h1 Ug Eg F' N' B' X'' T'
  replace Ug := ug0 Ug
  replace hx := Ug _ _ hx
  replace hdx := Ug _ _ hdx
  replace hob := listExt Ug hob
  replace hP : ∀ a o, P a o → g'.get? a = some o := fun a o e => Ug _ _ (hP a o e)
  walk_at "msteps3"
  rename Fr _ _ _ _ => F9
  rename News _ _ _ _ => N9
  show Q _ _
  exact hret _ _ (extOf Ug F9)

set_option maxHeartbeats 4000000 in
theorem ext_l1 {w : World} {A A₀ : Around} {env : Env} {outer : List Env} {base h₀ : Heap} {L : Addr} {m : PySem.Str → Option Value} {mean : ExcName → Option Value} {mg mb : PySem.Str → Option Value} {s : Shared} {Q E : Value → Shared → Prop}
    (C : Cx w 180 900 A A₀ env outer base h₀ L m mean mg mb s) {x dx rt tl : Addr} {c sh off : Int} {t1 t2 t3 : Tok} (hx : s.heap.get? x = some (vecObj dx c t1 sh t2 rt tl off t3)) (hdx : s.heap.get? dx = some (dictOf [] 0)) {ws ls ys zs : List Value} {w0 : Value} {P : Kn} (hP : ∀ a o, P a o → s.heap.get? a = some o) (hV : Parts P c sh rt off ls ys zs) (ht : LAt P tl zs) {ob : Addr} (hob : s.heap.IsList ob ws.toArray) (hw : 0 < ws.length) (hw0 : ws[0]? = some w0) (hs : ys.length + zs.length + ws.length ≤ 19000)
    (hret : ∀ r tls h' tk, Ext s.heap h' → NewIn s.heap h' tls → Vec (Orr P tls) r (ys ++ zs ++ ws) → Q (.ref r) { s with heap := h', toks := tk }) :
    wpAny (model PySem.Challenge.rw_im0011_01.row.prog w) A (call (.ref 256) [.ref x, .ref ob]) Q E s := by
  have : (PySem.Challenge.rw_im0011_01, Mine.kx.heap_1) = (PySem.Challenge.rw_im0011_01, Mine.kx.heap_1) := by k_fill; rfl
  obtain ⟨B, F, X, T, fr, hf, hke, hh, hd, hu⟩ := C
  obtain ⟨hdl, dp, frs, gd, un⟩ := A
  dsimp only at fr hh hd hu
  subst hh fr
  refine wpAny_call ?_
  k_dflt walk_at "menter"
  rename_i g' L' h1 Ug Eg F' N' B' X'' T'
  replace Ug := ug0 Ug
  replace hx := Ug _ _ hx
  replace hdx := Ug _ _ hdx
  replace hob := listExt Ug hob
  replace hP : ∀ a o, P a o → g'.get? a = some o := fun a o e => Ug _ _ (hP a o e)
  walk_at "msteps3"
  rename Off3 _ _ _ _ => of5
  rename Parts _ _ _ _ _ _ _ _ => pt5
  rename (_ ++ _ = _ ++ _) => e5
  rename Fr _ _ _ _ => F9
  rename News _ _ _ _ => N9
  k_dflt (refine kmk_slice_lit (its := ws.toArray) F9 N9 (News.isList N9 (.tail _ (.tail _ (.tail _ (List.mem_append_right _ (.head _)))))) (by kmk_part) (by kmk_part) (pick_fromZ (by omega) rfl) ?_ (by with_unfolding_all rfl) (by kmk_pure) (by rw [List.size_toArray, PySem.sizeLine_eq]; omega))
  intro D9 h9 F10 N10 l10
  clear F9
  walk_at "msteps3"
  have N10' := news_pre4 N10
  have hlen := congrArg List.length e5
  have hdl : (ws.drop (1 : Int).toNat).length = ws.length - 1 := List.length_drop ..
  simp only [List.length_append, List.length_singleton] at hlen
  have hl := fun p hp => l10 p hp
  refine mext (by walk_at "mcx") (news_mid N10) (obj_ne (N10 _ (.tail _ (.head _))).1 (N10 _ (.tail _ (.tail _ (.head _)))).1 (by intro q; cases q)) (obj_ne (N10 _ (.tail _ (.head _))).1 (N10 _ (.tail _ (.tail _ (.tail _ (.head _))))).1 (by intro q; cases q)) (obj_ne (N10 _ (.tail _ (.tail _ (.head _)))).1 (N10 _ (.tail _ (.tail _ (.tail _ (.head _))))).1 dict_ne_list) (N10 _ (.head _)).1
    (Nat.ne_of_gt (hl _ (.head _))) (Nat.ne_of_gt (hl _ (.tail _ (.head _)))) (Nat.ne_of_gt (hl _ (.tail _ (.tail _ (.head _))))) (orr_is F10 N10 (fun p hp => .tail _ (.tail _ (.tail _ (.tail _ (List.mem_append_left _ hp))))) hP) (fun a o e => ?_) pt5 (by omega) ?_
  · rcases e with e | e
    · have e' := hP a o e
      exact ⟨led_ne N10 (.tail _ (.head _)) e', led_ne N10 (.tail _ (.tail _ (.head _))) e', led_ne N10 (.tail _ (.tail _ (.tail _ (.head _)))) e'⟩
    · exact of5 _ e
  intro h3 tk3 c3 t13 sh3 t23 rt3 T3 off3 t33 n3 tls3 ls3 ys3 zs3 ex3 hall3 pt3 e3
  have F11 := fr_three (tls := []) F10 (news_mid N10) ex3
  have N11 : News g' L' h3 [] := News.nil
  obtain ⟨hn, hv⟩ := final_ext (xs := ys ++ zs ++ ws) N10' of5 ex3 hall3 (fun b o e => F10.keep b o e) pt3 (by rw [e3, e5, List.append_assoc (ys ++ zs) [w0], head_drop hw0])
  clear N10 N10' F10
  walk_at "msteps3"
  rename Fr _ _ _ _ => F12
  show Q _ _
  refine hret _ _ _ _ (extOf Ug F12) (fun p hp => ⟨(hn p hp).1, ?_⟩) hv
  cases q : s.heap.get? p.1 with
  | none => rfl
  | some o => have := Ug _ _ q; rw [(hn p hp).2] at this; cases this


/-- extend by a vector -/
theorem ext_v {w : World} {A A₀ : Around} {env : Env} {outer : List Env} {base h₀ : Heap} {L : Addr} {m : PySem.Str → Option Value} {mean : ExcName → Option Value} {mg mb : PySem.Str → Option Value} {s : Shared} {Q E : Value → Shared → Prop}
    (C : Cx w 180 900 A A₀ env outer base h₀ L m mean mg mb s) {x ob : Addr} {xs ws : List Value} {P : Kn} (hP : ∀ a o, P a o → s.heap.get? a = some o) (hV : Vec P x xs) (hO : Vec P ob ws) (hl : xs.length + ws.length ≤ 19000)
    (hret : ∀ r tls h' tk, Ext s.heap h' → NewIn s.heap h' tls → Vec (Orr P tls) r (xs ++ ws) → Q (.ref r) { s with heap := h', toks := tk }) :
    wpAny (model PySem.Challenge.rw_im0011_01.row.prog w) A (call (.ref 256) [.ref x, .ref ob]) Q E s := by
  have hV0 := hV
  have hO0 := hO
  obtain ⟨dx, c, t1, sh, t2, rt, tl, off, t3, ls, ys, zs, hx, hdx, hp, ht, rfl⟩ := hV
  obtain ⟨dxo, co, o1, sho, o2, rto, tlo, offo, o3, lso, yso, zso, hox, hodx, hop, hot, hoe⟩ := hO
  rw [List.length_append] at hl
  cases hw : ws with
  | nil =>
    subst hw
    refine ext_v0 C (hP _ _ hx) (hP _ _ hdx) hP (hP _ _ hox) (hP _ _ hodx) hO0 rfl fun h' tk ex => hret x [] h' tk ex (fun _ h => nomatch h) ?_
    rw [List.append_nil]; exact hV0.mono (Sub.orr _ _)
  | cons w0 wr =>
    exact ext_v1 C (hP _ _ hx) (hP _ _ hdx) hP hp ht (hP _ _ hox) (hP _ _ hodx) hO0 (by rw [hw]; exact Nat.succ_pos _) (w0 := w0) (by rw [hw]; rfl) hl hret
/-- extend by a list -/
theorem ext_l {w : World} {A A₀ : Around} {env : Env} {outer : List Env} {base h₀ : Heap} {L : Addr} {m : PySem.Str → Option Value} {mean : ExcName → Option Value} {mg mb : PySem.Str → Option Value} {s : Shared} {Q E : Value → Shared → Prop}
    (C : Cx w 180 900 A A₀ env outer base h₀ L m mean mg mb s) {x ob : Addr} {xs ws : List Value} {P : Kn} (hP : ∀ a o, P a o → s.heap.get? a = some o) (hV : Vec P x xs) (hO : s.heap.IsList ob ws.toArray) (hl : xs.length + ws.length ≤ 19000)
    (hret : ∀ r tls h' tk, Ext s.heap h' → NewIn s.heap h' tls → Vec (Orr P tls) r (xs ++ ws) → Q (.ref r) { s with heap := h', toks := tk }) :
    wpAny (model PySem.Challenge.rw_im0011_01.row.prog w) A (call (.ref 256) [.ref x, .ref ob]) Q E s := by
  have hV0 := hV
  obtain ⟨dx, c, t1, sh, t2, rt, tl, off, t3, ls, ys, zs, hx, hdx, hp, ht, rfl⟩ := hV
  rw [List.length_append] at hl
  cases hw : ws with
  | nil =>
    subst hw
    refine ext_l0 C (hP _ _ hx) (hP _ _ hdx) hP hO rfl fun h' tk ex => hret x [] h' tk ex (fun _ h => nomatch h) ?_
    rw [List.append_nil]; exact hV0.mono (Sub.orr _ _)
  | cons w0 wr =>
    exact ext_l1 C (hP _ _ hx) (hP _ _ hdx) hP hp ht hO (by rw [hw]; exact Nat.succ_pos _) (w0 := w0) (by rw [hw]; rfl) hl hret

theorem w21_4 : True := by (k_with "kinst" => (refine' InstAt.of_base ?zzF ?zzh1 ?zzh2; (case zzF => k_asm); (case zzh1 => first | k_asm | exact Fr.keep (by k_asm) _ _ (by assumption)); (case zzh2 => first | k_asm | exact Fr.keep (by k_asm) _ _ (by assumption)))); trivial
theorem w21_5 : True := by (k_with "hP" => first | assumption | exact hPk (by k_asm) (by assumption) | exact hPk (by k_asm) (hPk (by k_asm) (by assumption))); trivial
theorem w21_6 : True := by (k_with "aftV" => (intro zzr zztls zzh zztk zzext zznew zzvec; (have zzF := frExt (by k_asm) zzext); (have zzN := newsExt (by k_asm) (by k_asm) zzext zznew); revert zzr zztls zzh zztk zzext zznew zzvec zzF zzN; intro _ _ _ _ _ _ _ _ _; (try k_sweep))); trivial
theorem w21_7 : True := by (k_with "call ref" => (k_here; (with_reducible show wpAny _ _ (call (Value.ref 256) _) _ _ _); k_dflt (refine' ext_l ?zzkC ?zzkP ?zzkV ?zzkO ?zzkl ?_; (case zzkC => walk_at "mcx"); (case zzkV => assumption); (case zzkO => is_list); (case zzkP => walk_at "hP"); (case zzkl => first | omega | (simp only [List.length_append, List.length_nil]; omega)); walk_at "aftV"))); trivial
theorem w21_8 : True := by (k_with "call ref" => (k_here; (with_reducible show wpAny _ _ (call (Value.ref 256) _) _ _ _); k_dflt (refine' ext_v ?zzkC ?zzkP ?zzkV ?zzkO ?zzkl ?_; (case zzkC => walk_at "mcx"); (case zzkV => assumption); (case zzkO => assumption); (case zzkP => walk_at "hP"); (case zzkl => omega); walk_at "aftV"))); trivial

theorem reset22 : True := by
  k_with_none
  (k_with "kinst" => (refine' InstAt.of_base ?zzF ?zzh1 ?zzh2; (case zzF => k_asm); (case zzh1 => k_asm); (case zzh2 => k_asm)))
  (k_with "mcx" => exact ⟨by k_asm, by k_asm, by k_asm, by k_asm, rfl, by first | rfl | assumption, by first | rfl | assumption, rfl, by walk_at "room", by walk_at "unitz"⟩)
  (k_with "room" => first | exact rm 1 _ (by assumption) rfl (by exact rfl) | exact rm 0 _ (by assumption) rfl (by exact rfl) | exact rm 2 _ (by assumption) rfl (by exact rfl) | exact rm0 0 (by assumption) rfl (by exact rfl) | exact rm0 1 (by assumption) rfl (by exact rfl) | ((try simp only [depth_under_make, depth_under_kw, depth_in1, depth_deeper, depth_caller]); (try dsimp only [Around.deeper, Around.in1, Around.under]); omega))
  (k_with "unitz" => first | exact rm 3 _ (by assumption) rfl (by exact rfl) | exact rm 4 _ (by assumption) rfl (by exact rfl) | exact rm 0 _ (by assumption) rfl (by exact rfl) | exact rm 1 _ (by assumption) rfl (by exact rfl) | exact rm 6 _ (by assumption) rfl (by exact rfl) | exact rm 7 _ (by assumption) rfl (by exact rfl) | ((try simp only [units_in1, units_deeper, Around.mark_units, units_caller]); (try dsimp only [Around.deeper, Around.in1, Around.under]); omega))
  (k_with "menter" => (refine' enterX ?zzk1 ?zzk2 ?zzk3 ?zzk4 ?zzk5 ?zzkA ?zzkF ?zzkK ?zzk6 ?zzk7 ?zzk8 ?zzk9 ?zzkB ?_ ?zzc2 ?zzc3 ?zzc4 ?zzc5; (case zzkA => exact rfl); (case zzkF => first | exact rfl | assumption); (case zzkK => first | exact rfl | assumption); (case zzk1 => k_asm); (case zzk2 => k_asm); (case zzk3 => k_asm); (case zzk4 => first | exact News.nil | k_asm); (case zzk5 => k_asm); (case zzk6 => k_is); (case zzk7 => k_is); (case zzk8 => walk_at "room"); (case zzk9 => first | exact BindsTo.of_eq rfl | exact binds_K (by k_in) rfl (by k_is) rfl rfl rfl); (case zzc5 => decide); (case zzkB => exact locs rfl); (case zzc2 => exact rfl); (case zzc3 => exact rfl); (case zzc4 => exact rfl); k_whole; intro _ _ _ _ _ _ _ _ _ _; (try dsimp only); (try k_fold)))
  (k_with "call builtin:len" => (k_here; (with_reducible show wpAny _ _ (call (Value.builtin _) [Value.ref _]) _ _ _); (with_unfolding_all refine' len_list ?zzk1 ?zzk2 ?_; (case zzk1 => is_list); (case zzk2 => omega); k_whole)))
  (k_with "subscriptTail" => (k_here; (with_reducible show wpAny _ _ (subscriptTail _ _ (Value.ref _) (Value.int _ _)) _ _ _); (with_unfolding_all refine' item_list ?zzk1 ?zzk2 ?zzk3 ?zzk4 ?_ ?zzk6; (case zzk1 => is_list); (case zzk2 => first | assumption | exact rfl); (case zzk3 => omega); (case zzk4 => omega); (case zzk6 => with_unfolding_all rfl); k_whole)))
  (k_with "setItem ref int" => (k_here; (with_reducible show wpAny _ _ (setItem (Value.ref _) (Value.int _ _) _) _ _ _); k_dflt (refine' set_list ?zzk1 ?zzk2 ?zzk3 ?zzk4 ?zzk5 ?zzk6 ?_; (case zzk1 => k_asm); (case zzk2 => k_asm); (case zzk6 => k_upd); (case zzk3 => omega); (case zzk4 => omega); (case zzk5 => omega); k_whole); intro _ _ _; (try k_sweep)))
  (k_with "call builtin:list.append" => (k_here; (with_reducible show wpAny _ _ (call (Value.builtin _) [Value.ref _, _]) _ _ _); k_dflt (refine' app_list ?zzk1 ?zzk2 ?zzk3 ?zzk4 ?_; (case zzk1 => k_asm); (case zzk2 => k_asm); (case zzk4 => k_upd); (case zzk3 => omega); k_whole); intro _ _ _; (try k_sweep)))
  (k_with "call type:list" => (k_here; (with_reducible show wpAny _ _ (call (Value.type _) [Value.ref _]) _ _ _); (with_unfolding_all refine' copy_list' ?zzk1 ?zzk2 ?zzk3 ?zzk4 ?_; (case zzk1 => k_asm); (case zzk2 => k_asm); (case zzk3 => is_list); (case zzk4 => omega); k_whole); walk_at "in2"))
  (k_with "truthy ref" => (k_here; (with_reducible show wpAny _ _ (truthy (Value.ref _)) _ _ _); (with_unfolding_all refine' truthy_list' ?zzk1 ?zzk2 ?_; (case zzk1 => is_list); (case zzk2 => omega); k_whole)))
  (k_with "binaryOp BitAnd int int" => (k_here; (with_reducible refine and31 ?zzk1 ?_; (case zzk1 => omega)); intro _))
  (k_with "binaryOp RShift int int" => (k_here; first | with_reducible refine shr5 ?_ | with_reducible refine shr10 ?_; intro _))
  (k_with "call ref" => (k_here; (with_reducible show wpAny _ _ (call (Value.ref 296) _) _ _ _); k_dflt (refine' new_c ?zzkC ?zzkt ?zzkz ?_; (case zzkC => walk_at "mcx"); (case zzkt => is_list); (case zzkz => first | omega | (simp only [List.length_cons, List.length_nil]; omega)); intro zzx zztls zzh zztk zzdx zzt3 zzext zznew zze; subst zze; (have zzl1 := allNe_of (zznew _ (.head _)).2 (news_get (by k_asm))); (have zzl2 := allNe_of (zznew _ (.tail _ (.head _))).2 (news_get (by k_asm))); (have zzF := frExt (by k_asm) zzext); (have zzN := newsExt (by k_asm) (by k_asm) zzext zznew); (simp only [List.cons_append, List.nil_append] at zzN); (simp only [AllNe, and_true] at zzl1 zzl2); clear zzext zznew; revert zzx zzh zztk zzdx zzt3 zzl1 zzl2 zzF zzN; intro _ _ _ _ _ _ _ _ _; (try k_sweep))))
  (k_with "call ref" => (k_here; (with_reducible show wpAny _ _ (call (Value.ref 228) _) _ _ _); k_dflt (refine' newpath0 ?zzkC ?_; (case zzkC => walk_at "mcx"); intro zzh zztk zzext; (have zzF := frExt (by k_asm) zzext); (have zzN := newsExt (by k_asm) (by k_asm) zzext (tl := []) (fun _ hp => nomatch hp)); (simp only [List.nil_append] at zzN); clear zzext; revert zzh zztk zzF zzN; intro _ _ _ _; (try k_sweep))))
  (k_with "aft1" => (intro zzr zzh zztk zzn zzext zznew; (have zzl1 := allNe_of (zznew _ (.head _)).2 (news_get (by k_asm))); (have zzF := frExt (by k_asm) zzext); (have zzN := newsExt (by k_asm) (by k_asm) zzext zznew); (simp only [List.cons_append, List.nil_append] at zzN); (simp only [AllNe, and_true] at zzl1); clear zzext zznew; revert zzr zzh zztk zzn zzl1 zzF zzN; intro _ _ _ _ _ _ _; (try k_sweep)))
  (k_with "call ref" => (k_here; (with_reducible show wpAny _ _ (call (Value.ref 228) _) _ _ _); k_dflt (refine' newpath5 ?zzkC ?zzkx ?zzkd ?_; (case zzkC => walk_at "mcx"); (case zzkx => walk_at "hx"); (case zzkd => walk_at "hx"); walk_at "aft1")))
  (k_with "hx" => first | assumption | exact Fr.keep (by k_asm) _ _ (by assumption) | exact News.get (by k_asm) (by k_mem))
  (k_with "call ref" => (k_here; (with_reducible show wpAny _ _ (call (Value.ref 263) _) _ _ _); k_dflt (refine' push5 ?zzkC ?zzkp ?zzkz ?_; (case zzkC => walk_at "mcx"); (case zzkp => is_list); (case zzkz => omega); walk_at "aft1")))
  (k_with "aft2" => (intro zzr zzr2 zzh zztk zzn zzn2 zzext zznew; (have zzl1 := allNe_of (zznew _ (.head _)).2 (news_get (by k_asm))); (have zzl2 := allNe_of (zznew _ (.tail _ (.head _))).2 (news_get (by k_asm))); (have zzF := frExt (by k_asm) zzext); (have zzN := newsExt (by k_asm) (by k_asm) zzext zznew); (simp only [List.cons_append, List.nil_append] at zzN); (simp only [AllNe, and_true] at zzl1 zzl2); clear zzext zznew; revert zzr zzr2 zzh zztk zzn zzn2 zzl1 zzl2 zzF zzN; intro _ _ _ _ _ _ _ _ _ _; (try k_sweep)))
  (k_with "call ref" => (k_here; (with_reducible show wpAny _ _ (call (Value.ref 263) _) _ _ _); k_dflt (refine' pushT ?zzkC ?zzkx ?zzkd ?zzkP ?zzkT ?zzkc ?zzkl ?zzkn ?_; (case zzkC => walk_at "mcx"); (case zzkx => walk_at "hx"); (case zzkd => walk_at "hx"); (case zzkT => assumption); (case zzkP => walk_at "hP"); (case zzkc => omega); (case zzkl => omega); (case zzkn => omega); intro zzr zztls zzh zztk zzext zznew zztr; (have zzF := frExt (by k_asm) zzext); (have zzN := newsExt (by k_asm) (by k_asm) zzext zznew); revert zzr zztls zzh zztk zzext zznew zztr zzF zzN; intro _ _ _ _ _ _ _ _ _; (try k_sweep))))
  (k_with "hP" => first | assumption | exact hPk (by k_asm) (by assumption))
  (k_with "call ref" => (k_here; (with_reducible show wpAny _ _ (call (Value.ref 214) _) _ _ _); k_dflt (refine' root_c ?zzkC ?zzkx ?zzkd ?zzkP ?zzkT ?zzkc ?zzkl ?_; (case zzkC => walk_at "mcx"); (case zzkx => walk_at "hx"); (case zzkd => walk_at "hx"); (case zzkT => assumption); (case zzkP => walk_at "hP"); (case zzkc => omega); (case zzkl => omega); intro zztp zzr zztls zzh zztk zzsh zzt zzn zzext zznew zztr; (have zzF := frExt (by k_asm) zzext); (have zzN := newsExt (by k_asm) (by k_asm) zzext zznew); (simp only [List.cons_append] at zzN); revert zztp zzr zztls zzh zztk zzsh zzt zzn zzext zznew zztr zzF zzN; intro _ _ _ _ _ _ _ _ _ _ _ _ _; (try k_sweep))))
  (k_with "call ref" => (k_here; (with_reducible show wpAny _ _ (call (Value.ref 197) _) _ _ _); k_dflt (refine' dosetT ?zzkC ?zzkx ?zzkd ?zzkiv ?zzkP ?zzkV ?zzki ?zzkl ?_; (case zzkC => walk_at "mcx"); (case zzkx => walk_at "hx"); (case zzkd => walk_at "hx"); (case zzkiv => assumption); (case zzkV => assumption); (case zzkP => walk_at "hP"); (case zzki => omega); (case zzkl => omega); intro zzr zztls zzh zztk zzext zznew zztr; (have zzF := frExt (by k_asm) zzext); (have zzN := newsExt (by k_asm) (by k_asm) zzext zznew); revert zzr zztls zzh zztk zzext zznew zztr zzF zzN; intro _ _ _ _ _ _ _ _ _; (try k_sweep))))
  (k_with "call ref" => (k_here; (with_reducible show wpAny _ _ (call (Value.ref 221) _) _ _ _); k_dflt (refine' append_c ?zzkC ?zzkx ?zzkd ?zzkP ?zzkV ?zzkt ?zzkl ?_; (case zzkC => walk_at "mcx"); (case zzkx => walk_at "hx"); (case zzkd => walk_at "hx"); (case zzkV => assumption); (case zzkt => assumption); (case zzkP => walk_at "hP"); (case zzkl => omega); intro zzx zzdx zztl zzh zztk zzc zzt1 zzsh zzt2 zzrt zzoff zzt3 zzn zztls zzls zzys zzzs zzext zznew zzof zztr zze; (have zzF := frExt (by k_asm) zzext); (have zzN := newsExt (by k_asm) (by k_asm) zzext zznew); (simp only [List.cons_append] at zzN); revert zzx zzdx zztl zzh zztk zzc zzt1 zzsh zzt2 zzrt zzoff zzt3 zzn zztls zzls zzys zzzs zzext zznew zzof zztr zze zzF zzN; intro _ _ _ _ _ _ _ _ _ _ _ _ _ _ _ _ _ _ _ _ _ _ _ _; (try k_sweep))))
  (k_with "msteps" => repeat' (first | (k_unfold; (try dsimp only)) | ((fail_if_success (with_reducible show wpAny _ _ (exec (Stmt.For _ _ _ _ _) _) _ _ _)); (fail_if_success (with_reducible show wpAny _ _ (exec (Stmt.While _ _ _ _) _) _ _ _)); first | walk1 | (dsimp only; walk1) | (leave1; (try dsimp only)))))
  (k_with "menterN" => (refine' enterX ?zzk1 ?zzk2 ?zzk3 ?zzk4 ?zzk5 ?zzkA ?zzkF ?zzkK ?zzk6 ?zzk7 ?zzk8 ?zzk9 ?zzkB ?_ ?zzc2 ?zzc3 ?zzc4 ?zzc5; (case zzkA => exact rfl); (case zzkF => first | exact rfl | assumption); (case zzkK => first | exact rfl | assumption); (case zzk1 => k_asm); (case zzk2 => k_asm); (case zzk3 => k_asm); (case zzk4 => k_asm); (case zzk5 => k_asm); (case zzk6 => k_is); (case zzk7 => k_is); (case zzk8 => walk_at "room"); (case zzk9 => exact BindsTo.of_eq rfl); (case zzc5 => decide); (case zzkB => exact locs rfl); (case zzc2 => exact rfl); (case zzc3 => exact rfl); (case zzc4 => exact rfl); k_whole; intro _ _ _ _ _ _ _ _ _ _; (try dsimp only); (try k_fold)))
  (k_with "call builtin:list.extend" => (k_here; (with_reducible show wpAny _ _ (call (Value.builtin _) [Value.ref _, Value.ref _]) _ _ _); k_dflt (refine' ext_list ?zzF ?zzN ?zzb ?zzz ?zzU ?_; (case zzF => k_asm); (case zzN => k_asm); (case zzU => k_updF); (case zzb => walk_at "hx"); (case zzz => omega); k_whole); intro zzh zzn zzF zzN; (try dsimp only at zzN); revert zzh zzn zzF zzN; intro _ _ _ _; (try k_sweep)))
  (k_with "kall" => assumption)
  (k_with "call ref" => (k_here; (with_reducible show wpAny _ _ (call (Value.ref 176) _) _ _ _); k_dflt (refine' tolist_c ?zzkC ?zzkP ?zzkV ?zzkl ?_; (case zzkC => walk_at "mcx"); (case zzkV => assumption); (case zzkP => walk_at "hP"); (case zzkl => omega); walk_at "aft1")))
  (k_with "kinst" => (refine' InstAt.of_base ?zzF ?zzh1 ?zzh2; (case zzF => k_asm); (case zzh1 => first | k_asm | exact Fr.keep (by k_asm) _ _ (by assumption)); (case zzh2 => first | k_asm | exact Fr.keep (by k_asm) _ _ (by assumption))))
  (k_with "hP" => first | assumption | exact hPk (by k_asm) (by assumption) | exact hPk (by k_asm) (hPk (by k_asm) (by assumption)))
  (k_with "aftV" => (intro zzr zztls zzh zztk zzext zznew zzvec; (have zzF := frExt (by k_asm) zzext); (have zzN := newsExt (by k_asm) (by k_asm) zzext zznew); revert zzr zztls zzh zztk zzext zznew zzvec zzF zzN; intro _ _ _ _ _ _ _ _ _; (try k_sweep)))
  (k_with "call ref" => (k_here; (with_reducible show wpAny _ _ (call (Value.ref 256) _) _ _ _); k_dflt (refine' ext_l ?zzkC ?zzkP ?zzkV ?zzkO ?zzkl ?_; (case zzkC => walk_at "mcx"); (case zzkV => assumption); (case zzkO => is_list); (case zzkP => walk_at "hP"); (case zzkl => first | omega | (simp only [List.length_append, List.length_nil]; omega)); walk_at "aftV")))
  (k_with "call ref" => (k_here; (with_reducible show wpAny _ _ (call (Value.ref 256) _) _ _ _); k_dflt (refine' ext_v ?zzkC ?zzkP ?zzkV ?zzkO ?zzkl ?_; (case zzkC => walk_at "mcx"); (case zzkV => assumption); (case zzkO => assumption); (case zzkP => walk_at "hP"); (case zzkl => omega); walk_at "aftV")))
  trivial
theorem int_mul_vec (a : Int) (t : Tok) (x dx rt tl : Addr) (c sh off : Int) (t1 t2 t3 : Tok) :
    Meets (Builtin.«int.__mul__» ⟨[.int a t, .ref x], []⟩) (fun _ R s => s.heap.get? x = some (vecObj dx c t1 sh t2 rt tl off t3) ∧ R (.ok (.ret Value.notImplemented)) s) :=
  .of_wp fun prog w A R s h => by obtain ⟨hp, g, d, tk, os⟩ := s; obtain ⟨hl, h⟩ := h; unfold vecObj at hl; wp_walk; exact ⟨_, rfl, h⟩
set_option maxHeartbeats 2000000 in
theorem rmul_i {prog : Program} {w : World} {A : Around} {E : Value → Shared → Prop} {s : Shared} {h₀ : Heap} {L : Addr} {m : PySem.Str → Option Value} {K : Frag} {ox : Obj} {C f x dx rt tl : Addr} {od : Option Obj} {c sh off : Int} {t1 t2 t3 : Tok} {n : Int} {t : Tok} {Q : Value → Shared → Prop}
    (Fm : Fr h₀ L s.heap m) (X₀ : K.In h₀) (I : W.InstAt s.heap x ox C od) (hx : s.heap.get? x = some (vecObj dx c t1 sh t2 rt tl off t3)) (hc : selfFirst K C = true)
    (hs : findIn K (.ref C) (PySem.dunder "mul") = some (some (.ref f))) (hr : findIn K (.ref C) (dunderR "mul") = some (some (.ref f))) (hf : isFn K (.ref f) = true) (hsub : subIn K (.ref C) (.type "int") = some false)
    (h : wpAny (model prog w) A (call (.ref f) [.ref x, .int n t]) (W.CmpBack Q) E s) : wpAny (model prog w) A (binaryOp .Mult (.int n t) (.ref x)) Q E s := by
  have X := X₀.keeps Fm.keep
  obtain ⟨cd, rest, hcd, hm⟩ := ksp_first hc
  have one := ksp_try X I hr hf h
  have two := @wpAny_tryMethod_declines (model prog w) A E s
  have two := @two (.int n t) (.ref x) "int"
  have two := @two (PySem.dunder "mul") "int.__mul__"
  have two := @two (fun r s' => r = none ∧ s = s')
  have two := two (typeIs_int s n t)
  have two := two F.slot_int_mul
  have cm := @call_meets prog w A E s
  have cm := @cm "int" (PySem.dunder "mul") "int.__mul__"
  have cm := @cm Builtin.«int.__mul__»
  have cm := @cm (.int n t) [.ref x]
  have cm := fun S Q => @cm S Q F.slot_int_mul (typeIs_int s n t) F.entry_int_mul
  have cm := fun S Q => cm S Q (F.args_int_mul_2 _ _)
  have cm := cm _ (fun v s' => v = .notImplemented ∧ (none : Option Value) = none ∧ s = s') (int_mul_vec n t x dx rt tl c sh off t1 t2 t3)
  have two := two (cm ⟨hx, rfl, rfl, rfl⟩)
  clear cm
  obtain ⟨hh, g, d, tt, os⟩ := s
  have L1 : Looks (model prog w) hh (typeOf (.ref x)) (.ref C) := I.type
  have L2 : Looks (model prog w) hh (typeOf (.int n t)) (.type "int") := Looks.of_pure rfl
  have L3 : Looks (model prog w) hh (fillsNumberSlot (.ref C) "mul") true := fills_K X hcd hm hs
  have L4 : Looks (model prog w) hh (fillsNumberSlot (.type "int") "mul") true := Looks.of_pure F.fills_int_mul
  have L5 : Looks (model prog w) hh (isSubtype (.ref C) (.type "int")) false := looks_subIn X hsub
  have L7 : Looks (model prog w) hh (numberSlotInPython (.type "int") "mul") false := Looks.of_pure rfl
  have hne : (Value.type "int" == Value.ref C) = false := Bool.eq_false_iff.mpr fun q => by cases beq_iff_eq.mp q
  clear hs hr h I hx X hcd X₀
  generalize hnm : ("mul" : String) = nm at one two L3 L4 L7
  generalize (Value.int n t) = a at one two L2 ⊢
  obtain ⟨op, hop⟩ : ∃ op, op = Operator.Mult := ⟨_, rfl⟩
  rw [← hop]
  rcases hi : op.info with ⟨sym, nm'⟩
  have e : nm = nm' := by rw [hop] at hi; rw [← hnm]; exact congrArg Prod.snd hi
  subst e
  simp only [binaryOp, hi]
  clear hi hop
  refine wpAny_holding (wpAny_bind ?_)
  unfold binaryOp1
  refine wpAny_bind ?_
  refine L2.at ?_
  refine wpAny_bind ?_
  refine L1.at ?_
  refine wpAny_bind ?_
  refine L4.at ?_
  simp only [hne, Bool.false_eq_true, if_false]
  ksp_lk
  refine wpAny_mono two (fun r s' hr' => ?_) fun _ _ e => e
  obtain ⟨rfl, rfl⟩ := hr'
  ksp_lk
  refine wpAny_mono one (fun r s' hr' => ?_) fun _ _ e => e
  obtain ⟨v, rfl, hq⟩ := hr'
  ksp_lk
  exact hq

theorem is_refs {M : Model} {A : Around} {E : Value → Shared → Prop} {s : Shared} {x y : Addr} {ox oy : Obj} {Q : Value → Shared → Prop} (hx : s.heap.get? x = some ox) (hy : s.heap.get? y = some oy) (hb : ox.cls ≠ Value.type "tuple") (h : Q (.bool (decide (x = y))) s) : wpAny M A (compareOp .Is (.ref x) (.ref y)) Q E s := by
  by_cases e : x = y
  · subst e
    rw [decide_eq_true rfl] at h
    exact wpAny_is_ref_self h
  · rw [decide_eq_false e] at h
    exact wpAny_is_ref_other e hx hy hb h
theorem o23_1 : True := by (k_with "compareOp Is ref ref" => (k_here; (with_reducible show wpAny _ _ (compareOp CmpOp.Is (Value.ref _) (Value.ref _)) _ _ _); k_dflt (refine' is_refs ?zza ?zzb ?zzc ?_; (case zza => first | walk_at "hx" | exact Fr.keep (by k_asm) _ _ (Fr.keep (by k_asm) _ _ (by assumption))); (case zzb => kto_obj); (case zzc => kto_not); k_whole))); trivial
theorem o23_2 : True := by (k_with "binaryOp Mult int ref" => (k_here; (with_reducible show wpAny _ _ (binaryOp Operator.Mult (Value.int _ _) (Value.ref _)) _ _ _); k_dflt (refine' rmul_i ?zzF ?zzX ?zzI ?zzhx ?zzhC ?zzhS ?zzhR ?zzhF ?zzhU ?_; (case zzF => k_asm); (case zzX => k_asm); (case zzI => k_inst); (case zzhx => walk_at "hx"); (case zzhS => k_is); (case zzhF => k_is); (case zzhC => k_is); (case zzhR => k_is); (case zzhU => k_is); k_whole))); trivial
set_option maxHeartbeats 4000000 in
theorem add_c {w : World} {A A₀ : Around} {env : Env} {outer : List Env} {base h₀ : Heap} {L : Addr} {m : PySem.Str → Option Value} {mean : ExcName → Option Value} {mg mb : PySem.Str → Option Value} {s : Shared} {Q E : Value → Shared → Prop}
    (C : Cx w 230 1100 A A₀ env outer base h₀ L m mean mg mb s) {x ob dx rt tl : Addr} {c sh off : Int} {t1 t2 t3 : Tok} (hx : s.heap.get? x = some (vecObj dx c t1 sh t2 rt tl off t3)) (hdx : s.heap.get? dx = some (dictOf [] 0)) {xs ws : List Value} {P : Kn} (hP : ∀ a o, P a o → s.heap.get? a = some o) (hV : Vec P x xs) (hO : Vec P ob ws) (hl : xs.length + ws.length ≤ 19000)
    (hret : ∀ r tls h' tk, Ext s.heap h' → NewIn s.heap h' tls → Vec (Orr P tls) r (xs ++ ws) → Q (.ref r) { s with heap := h', toks := tk }) :
    wpAny (model PySem.Challenge.rw_im0011_01.row.prog w) A (call (.ref 92) [.ref x, .ref ob]) Q E s := by
  have : (PySem.Challenge.rw_im0011_01, Mine.kx.heap_1) = (PySem.Challenge.rw_im0011_01, Mine.kx.heap_1) := by k_fill; rfl
  obtain ⟨B, F, X, T, fr, hf, hke, hh, hd, hu⟩ := C
  obtain ⟨hdl, dp, frs, gd, un⟩ := A
  dsimp only at fr hh hd hu
  subst hh fr
  refine wpAny_call ?_
  k_dflt walk_at "menter"
  rename_i g' L' h1 Ug Eg F' N' B' X'' T'
  replace Ug := ug0 Ug
  replace hx := Ug _ _ hx
  replace hdx := Ug _ _ hdx
  replace hP : ∀ a o, P a o → g'.get? a = some o := fun a o e => Ug _ _ (hP a o e)
  walk_at "msteps"
  rename Fr _ _ _ _ => F9
  rename News _ _ _ _ => N9
  show Q _ _
  exact hret _ _ _ _ (extOf Ug F9) (fun p hp => newInOf Ug N9 p (List.mem_append_left _ hp)) (by assumption)
set_option maxHeartbeats 4000000 in
theorem mul_c {w : World} {A A₀ : Around} {env : Env} {outer : List Env} {base h₀ : Heap} {L : Addr} {m : PySem.Str → Option Value} {mean : ExcName → Option Value} {mg mb : PySem.Str → Option Value} {s : Shared} {Q E : Value → Shared → Prop}
    (C : Cx w 230 1100 A A₀ env outer base h₀ L m mean mg mb s) {x dx rt tl : Addr} {c sh off : Int} {t1 t2 t3 tw : Tok} (hx : s.heap.get? x = some (vecObj dx c t1 sh t2 rt tl off t3)) (hdx : s.heap.get? dx = some (dictOf [] 0)) {xs : List Value} {ns : List Int} {P : Kn} (hP : ∀ a o, P a o → s.heap.get? a = some o) (hV : Vec P x xs) (hE : Vec P 311 []) (h3 : x = 311 → xs = []) (hi : IntsAre xs ns) (hl : xs.length ≤ 2000)
    (hret : ∀ r tls h' tk, Ext s.heap h' → NewIn s.heap h' tls → Vec (Orr P tls) r (xs ++ xs) → Q (.ref r) { s with heap := h', toks := tk }) :
    wpAny (model PySem.Challenge.rw_im0011_01.row.prog w) A (call (.ref 162) [.ref x, .int 2 tw]) Q E s := by
  have : (PySem.Challenge.rw_im0011_01, Mine.kx.heap_1) = (PySem.Challenge.rw_im0011_01, Mine.kx.heap_1) := by k_fill; rfl
  obtain ⟨B, F, X, T, fr, hf, hke, hh, hd, hu⟩ := C
  obtain ⟨hdl, dp, frs, gd, un⟩ := A
  dsimp only at fr hh hd hu
  subst hh fr
  refine wpAny_call ?_
  k_dflt walk_at "menter"
  rename_i g' L' h1 Ug Eg F' N' B' X'' T'
  replace Ug := ug0 Ug
  replace hx := Ug _ _ hx
  replace hdx := Ug _ _ hdx
  replace hP : ∀ a o, P a o → g'.get? a = some o := fun a o e => Ug _ _ (hP a o e)
  walk_at "msteps"
  · next e =>
    show Q _ _
    rename Fr _ _ _ _ => F9
    refine hret 311 [] _ _ (extOf Ug F9) (fun _ h => nomatch h) ?_
    rw [h3 e]; exact hE.mono (Sub.orr _ _)
  · have e2 : (List.replicate (Int.toNat 2) xs).flatten = xs ++ xs := by
      show (List.replicate 2 xs).flatten = _
      simp [List.replicate]
    k_dflt (refine' ext_l ?kC ?kP hE (ws := xs ++ xs) ?kO ?kl ?_)
    case kC => walk_at "mcx"
    case kP => walk_at "hP"
    case kO => rw [← e2]; is_list
    case kl => simp only [List.length_append, List.length_nil]; omega
    walk_at "aftV"
    rename Fr _ _ _ _ => F9
    rename News _ _ _ _ => N9
    rename Vec _ _ _ => V9
    show Q _ _
    exact hret _ _ _ _ (extOf Ug F9) (fun p hp => newInOf Ug N9 p (List.mem_append_left _ hp)) V9
theorem o23_3 : True := by (k_with "aftN" => (intro zzr zztls zzh zztk zzext zznew zzvec; (have zzF := frExt (by k_asm) zzext); (have zzN := newsExt (by k_asm) (by k_asm) zzext zznew); revert zzr zztls zzh zztk zzext zznew zzvec zzF zzN; intro _ _ _ _ _ _ _ _ _; (try k_sweep))); trivial
theorem o23_4 : True := by (k_with "call ref" => (k_here; (with_reducible show wpAny _ _ (call (Value.ref 92) _) _ _ _); k_dflt (refine' add_c ?zzkC ?zzkx ?zzkd ?zzkP ?zzkV ?zzkO ?zzkl ?_; (case zzkC => walk_at "mcx"); (case zzkV => assumption); (case zzkO => assumption); (case zzkP => walk_at "hP"); (case zzkx => walk_at "hx"); (case zzkd => walk_at "hx"); (case zzkl => omega); walk_at "aftV"))); trivial
theorem o23_5 : True := by (k_with "call ref" => (k_here; (with_reducible show wpAny _ _ (call (Value.ref 162) _) _ _ _); k_dflt (refine' mul_c ?zzkC ?zzkx ?zzkd ?zzkP ?zzkV ?zzkE ?zzk3 ?zzki ?zzkl ?_; (case zzkC => walk_at "mcx"); (case zzkV => assumption); (case zzkE => assumption); (case zzk3 => assumption); (case zzki => assumption); (case zzkP => walk_at "hP"); (case zzkx => walk_at "hx"); (case zzkd => walk_at "hx"); (case zzkl => omega); walk_at "aftV"))); trivial
set_option maxHeartbeats 4000000 in
theorem joined_0 {w : World} {A A₀ : Around} {env : Env} {outer : List Env} {base h₀ : Heap} {L : Addr} {m : PySem.Str → Option Value} {mean : ExcName → Option Value} {mg mb : PySem.Str → Option Value} {s : Shared} {Q E : Value → Shared → Prop}
    (C : Cx w 270 1300 A A₀ env outer base h₀ L m mean mg mb s) {x dx rt tl : Addr} {c sh off : Int} {t1 t2 t3 tw : Tok} (hx : s.heap.get? x = some (vecObj dx c t1 sh t2 rt tl off t3)) (hdx : s.heap.get? dx = some (dictOf [] 0)) {xs : List Value} {ns : List Int} {P : Kn} (hP : ∀ a o, P a o → s.heap.get? a = some o) (hV : Vec P x xs) (hE : Vec P 311 []) (h3 : x = 311 → xs = []) (hi : IntsAre xs ns) (hl : xs.length ≤ 2000) {way : Int}
    (hret : ∀ r tls h' tk, Ext s.heap h' → NewIn s.heap h' tls → Vec (Orr P tls) r (xs ++ xs) → Q (.ref r) { s with heap := h', toks := tk }) :
    wpAny (model PySem.Challenge.rw_im0011_01.row.prog w) A (call (.ref 334) [.ref x, .int way tw]) Q E s := by
  have : (PySem.Challenge.rw_im0011_01, Mine.kx.heap_1) = (PySem.Challenge.rw_im0011_01, Mine.kx.heap_1) := by k_fill; rfl
  obtain ⟨B, F, X, T, fr, hf, hke, hh, hd, hu⟩ := C
  obtain ⟨hdl, dp, frs, gd, un⟩ := A
  dsimp only at fr hh hd hu
  subst hh fr
  refine wpAny_call ?_
  k_dflt walk_at "menter"
  rename_i g' L' h1 Ug Eg F' N' B' X'' T'
  replace Ug := ug0 Ug
  replace hx := Ug _ _ hx
  replace hdx := Ug _ _ hdx
  replace hP : ∀ a o, P a o → g'.get? a = some o := fun a o e => Ug _ _ (hP a o e)
  walk_at "msteps"
  all_goals rename Fr _ _ _ _ => F9
  all_goals rename News _ _ _ _ => N9
  all_goals rename Vec _ _ _ => V9
  all_goals show Q _ _
  all_goals exact hret _ _ _ _ (extOf Ug F9) (fun p hp => newInOf Ug N9 p (List.mem_append_left _ hp)) V9

theorem reset24 : True := by
  k_with_none
  (k_with "kinst" => (refine' InstAt.of_base ?zzF ?zzh1 ?zzh2; (case zzF => k_asm); (case zzh1 => k_asm); (case zzh2 => k_asm)))
  (k_with "mcx" => exact ⟨by k_asm, by k_asm, by k_asm, by k_asm, rfl, by first | rfl | assumption, by first | rfl | assumption, rfl, by walk_at "room", by walk_at "unitz"⟩)
  (k_with "room" => first | exact rm 1 _ (by assumption) rfl (by exact rfl) | exact rm 0 _ (by assumption) rfl (by exact rfl) | exact rm 2 _ (by assumption) rfl (by exact rfl) | exact rm0 0 (by assumption) rfl (by exact rfl) | exact rm0 1 (by assumption) rfl (by exact rfl) | ((try simp only [depth_under_make, depth_under_kw, depth_in1, depth_deeper, depth_caller]); (try dsimp only [Around.deeper, Around.in1, Around.under]); omega))
  (k_with "unitz" => first | exact rm 3 _ (by assumption) rfl (by exact rfl) | exact rm 4 _ (by assumption) rfl (by exact rfl) | exact rm 0 _ (by assumption) rfl (by exact rfl) | exact rm 1 _ (by assumption) rfl (by exact rfl) | exact rm 6 _ (by assumption) rfl (by exact rfl) | exact rm 7 _ (by assumption) rfl (by exact rfl) | ((try simp only [units_in1, units_deeper, Around.mark_units, units_caller]); (try dsimp only [Around.deeper, Around.in1, Around.under]); omega))
  (k_with "menter" => (refine' enterX ?zzk1 ?zzk2 ?zzk3 ?zzk4 ?zzk5 ?zzkA ?zzkF ?zzkK ?zzk6 ?zzk7 ?zzk8 ?zzk9 ?zzkB ?_ ?zzc2 ?zzc3 ?zzc4 ?zzc5; (case zzkA => exact rfl); (case zzkF => first | exact rfl | assumption); (case zzkK => first | exact rfl | assumption); (case zzk1 => k_asm); (case zzk2 => k_asm); (case zzk3 => k_asm); (case zzk4 => first | exact News.nil | k_asm); (case zzk5 => k_asm); (case zzk6 => k_is); (case zzk7 => k_is); (case zzk8 => walk_at "room"); (case zzk9 => first | exact BindsTo.of_eq rfl | exact binds_K (by k_in) rfl (by k_is) rfl rfl rfl); (case zzc5 => decide); (case zzkB => exact locs rfl); (case zzc2 => exact rfl); (case zzc3 => exact rfl); (case zzc4 => exact rfl); k_whole; intro _ _ _ _ _ _ _ _ _ _; (try dsimp only); (try k_fold)))
  (k_with "call builtin:len" => (k_here; (with_reducible show wpAny _ _ (call (Value.builtin _) [Value.ref _]) _ _ _); (with_unfolding_all refine' len_list ?zzk1 ?zzk2 ?_; (case zzk1 => is_list); (case zzk2 => omega); k_whole)))
  (k_with "subscriptTail" => (k_here; (with_reducible show wpAny _ _ (subscriptTail _ _ (Value.ref _) (Value.int _ _)) _ _ _); (with_unfolding_all refine' item_list ?zzk1 ?zzk2 ?zzk3 ?zzk4 ?_ ?zzk6; (case zzk1 => is_list); (case zzk2 => first | assumption | exact rfl); (case zzk3 => omega); (case zzk4 => omega); (case zzk6 => with_unfolding_all rfl); k_whole)))
  (k_with "setItem ref int" => (k_here; (with_reducible show wpAny _ _ (setItem (Value.ref _) (Value.int _ _) _) _ _ _); k_dflt (refine' set_list ?zzk1 ?zzk2 ?zzk3 ?zzk4 ?zzk5 ?zzk6 ?_; (case zzk1 => k_asm); (case zzk2 => k_asm); (case zzk6 => k_upd); (case zzk3 => omega); (case zzk4 => omega); (case zzk5 => omega); k_whole); intro _ _ _; (try k_sweep)))
  (k_with "call builtin:list.append" => (k_here; (with_reducible show wpAny _ _ (call (Value.builtin _) [Value.ref _, _]) _ _ _); k_dflt (refine' app_list ?zzk1 ?zzk2 ?zzk3 ?zzk4 ?_; (case zzk1 => k_asm); (case zzk2 => k_asm); (case zzk4 => k_upd); (case zzk3 => omega); k_whole); intro _ _ _; (try k_sweep)))
  (k_with "call type:list" => (k_here; (with_reducible show wpAny _ _ (call (Value.type _) [Value.ref _]) _ _ _); (with_unfolding_all refine' copy_list' ?zzk1 ?zzk2 ?zzk3 ?zzk4 ?_; (case zzk1 => k_asm); (case zzk2 => k_asm); (case zzk3 => is_list); (case zzk4 => omega); k_whole); walk_at "in2"))
  (k_with "truthy ref" => (k_here; (with_reducible show wpAny _ _ (truthy (Value.ref _)) _ _ _); (with_unfolding_all refine' truthy_list' ?zzk1 ?zzk2 ?_; (case zzk1 => is_list); (case zzk2 => omega); k_whole)))
  (k_with "binaryOp BitAnd int int" => (k_here; (with_reducible refine and31 ?zzk1 ?_; (case zzk1 => omega)); intro _))
  (k_with "binaryOp RShift int int" => (k_here; first | with_reducible refine shr5 ?_ | with_reducible refine shr10 ?_; intro _))
  (k_with "call ref" => (k_here; (with_reducible show wpAny _ _ (call (Value.ref 296) _) _ _ _); k_dflt (refine' new_c ?zzkC ?zzkt ?zzkz ?_; (case zzkC => walk_at "mcx"); (case zzkt => is_list); (case zzkz => first | omega | (simp only [List.length_cons, List.length_nil]; omega)); intro zzx zztls zzh zztk zzdx zzt3 zzext zznew zze; subst zze; (have zzl1 := allNe_of (zznew _ (.head _)).2 (news_get (by k_asm))); (have zzl2 := allNe_of (zznew _ (.tail _ (.head _))).2 (news_get (by k_asm))); (have zzF := frExt (by k_asm) zzext); (have zzN := newsExt (by k_asm) (by k_asm) zzext zznew); (simp only [List.cons_append, List.nil_append] at zzN); (simp only [AllNe, and_true] at zzl1 zzl2); clear zzext zznew; revert zzx zzh zztk zzdx zzt3 zzl1 zzl2 zzF zzN; intro _ _ _ _ _ _ _ _ _; (try k_sweep))))
  (k_with "call ref" => (k_here; (with_reducible show wpAny _ _ (call (Value.ref 228) _) _ _ _); k_dflt (refine' newpath0 ?zzkC ?_; (case zzkC => walk_at "mcx"); intro zzh zztk zzext; (have zzF := frExt (by k_asm) zzext); (have zzN := newsExt (by k_asm) (by k_asm) zzext (tl := []) (fun _ hp => nomatch hp)); (simp only [List.nil_append] at zzN); clear zzext; revert zzh zztk zzF zzN; intro _ _ _ _; (try k_sweep))))
  (k_with "aft1" => (intro zzr zzh zztk zzn zzext zznew; (have zzl1 := allNe_of (zznew _ (.head _)).2 (news_get (by k_asm))); (have zzF := frExt (by k_asm) zzext); (have zzN := newsExt (by k_asm) (by k_asm) zzext zznew); (simp only [List.cons_append, List.nil_append] at zzN); (simp only [AllNe, and_true] at zzl1); clear zzext zznew; revert zzr zzh zztk zzn zzl1 zzF zzN; intro _ _ _ _ _ _ _; (try k_sweep)))
  (k_with "call ref" => (k_here; (with_reducible show wpAny _ _ (call (Value.ref 228) _) _ _ _); k_dflt (refine' newpath5 ?zzkC ?zzkx ?zzkd ?_; (case zzkC => walk_at "mcx"); (case zzkx => walk_at "hx"); (case zzkd => walk_at "hx"); walk_at "aft1")))
  (k_with "hx" => first | assumption | exact Fr.keep (by k_asm) _ _ (by assumption) | exact News.get (by k_asm) (by k_mem))
  (k_with "call ref" => (k_here; (with_reducible show wpAny _ _ (call (Value.ref 263) _) _ _ _); k_dflt (refine' push5 ?zzkC ?zzkp ?zzkz ?_; (case zzkC => walk_at "mcx"); (case zzkp => is_list); (case zzkz => omega); walk_at "aft1")))
  (k_with "aft2" => (intro zzr zzr2 zzh zztk zzn zzn2 zzext zznew; (have zzl1 := allNe_of (zznew _ (.head _)).2 (news_get (by k_asm))); (have zzl2 := allNe_of (zznew _ (.tail _ (.head _))).2 (news_get (by k_asm))); (have zzF := frExt (by k_asm) zzext); (have zzN := newsExt (by k_asm) (by k_asm) zzext zznew); (simp only [List.cons_append, List.nil_append] at zzN); (simp only [AllNe, and_true] at zzl1 zzl2); clear zzext zznew; revert zzr zzr2 zzh zztk zzn zzn2 zzl1 zzl2 zzF zzN; intro _ _ _ _ _ _ _ _ _ _; (try k_sweep)))
  (k_with "call ref" => (k_here; (with_reducible show wpAny _ _ (call (Value.ref 263) _) _ _ _); k_dflt (refine' pushT ?zzkC ?zzkx ?zzkd ?zzkP ?zzkT ?zzkc ?zzkl ?zzkn ?_; (case zzkC => walk_at "mcx"); (case zzkx => walk_at "hx"); (case zzkd => walk_at "hx"); (case zzkT => assumption); (case zzkP => walk_at "hP"); (case zzkc => omega); (case zzkl => omega); (case zzkn => omega); intro zzr zztls zzh zztk zzext zznew zztr; (have zzF := frExt (by k_asm) zzext); (have zzN := newsExt (by k_asm) (by k_asm) zzext zznew); revert zzr zztls zzh zztk zzext zznew zztr zzF zzN; intro _ _ _ _ _ _ _ _ _; (try k_sweep))))
  (k_with "hP" => first | assumption | exact hPk (by k_asm) (by assumption))
  (k_with "call ref" => (k_here; (with_reducible show wpAny _ _ (call (Value.ref 214) _) _ _ _); k_dflt (refine' root_c ?zzkC ?zzkx ?zzkd ?zzkP ?zzkT ?zzkc ?zzkl ?_; (case zzkC => walk_at "mcx"); (case zzkx => walk_at "hx"); (case zzkd => walk_at "hx"); (case zzkT => assumption); (case zzkP => walk_at "hP"); (case zzkc => omega); (case zzkl => omega); intro zztp zzr zztls zzh zztk zzsh zzt zzn zzext zznew zztr; (have zzF := frExt (by k_asm) zzext); (have zzN := newsExt (by k_asm) (by k_asm) zzext zznew); (simp only [List.cons_append] at zzN); revert zztp zzr zztls zzh zztk zzsh zzt zzn zzext zznew zztr zzF zzN; intro _ _ _ _ _ _ _ _ _ _ _ _ _; (try k_sweep))))
  (k_with "call ref" => (k_here; (with_reducible show wpAny _ _ (call (Value.ref 197) _) _ _ _); k_dflt (refine' dosetT ?zzkC ?zzkx ?zzkd ?zzkiv ?zzkP ?zzkV ?zzki ?zzkl ?_; (case zzkC => walk_at "mcx"); (case zzkx => walk_at "hx"); (case zzkd => walk_at "hx"); (case zzkiv => assumption); (case zzkV => assumption); (case zzkP => walk_at "hP"); (case zzki => omega); (case zzkl => omega); intro zzr zztls zzh zztk zzext zznew zztr; (have zzF := frExt (by k_asm) zzext); (have zzN := newsExt (by k_asm) (by k_asm) zzext zznew); revert zzr zztls zzh zztk zzext zznew zztr zzF zzN; intro _ _ _ _ _ _ _ _ _; (try k_sweep))))
  (k_with "call ref" => (k_here; (with_reducible show wpAny _ _ (call (Value.ref 221) _) _ _ _); k_dflt (refine' append_c ?zzkC ?zzkx ?zzkd ?zzkP ?zzkV ?zzkt ?zzkl ?_; (case zzkC => walk_at "mcx"); (case zzkx => walk_at "hx"); (case zzkd => walk_at "hx"); (case zzkV => assumption); (case zzkt => assumption); (case zzkP => walk_at "hP"); (case zzkl => omega); intro zzx zzdx zztl zzh zztk zzc zzt1 zzsh zzt2 zzrt zzoff zzt3 zzn zztls zzls zzys zzzs zzext zznew zzof zztr zze; (have zzF := frExt (by k_asm) zzext); (have zzN := newsExt (by k_asm) (by k_asm) zzext zznew); (simp only [List.cons_append] at zzN); revert zzx zzdx zztl zzh zztk zzc zzt1 zzsh zzt2 zzrt zzoff zzt3 zzn zztls zzls zzys zzzs zzext zznew zzof zztr zze zzF zzN; intro _ _ _ _ _ _ _ _ _ _ _ _ _ _ _ _ _ _ _ _ _ _ _ _; (try k_sweep))))
  (k_with "msteps" => repeat' (first | (k_unfold; (try dsimp only)) | ((fail_if_success (with_reducible show wpAny _ _ (exec (Stmt.For _ _ _ _ _) _) _ _ _)); (fail_if_success (with_reducible show wpAny _ _ (exec (Stmt.While _ _ _ _) _) _ _ _)); first | walk1 | (dsimp only; walk1) | (leave1; (try dsimp only)))))
  (k_with "menterN" => (refine' enterX ?zzk1 ?zzk2 ?zzk3 ?zzk4 ?zzk5 ?zzkA ?zzkF ?zzkK ?zzk6 ?zzk7 ?zzk8 ?zzk9 ?zzkB ?_ ?zzc2 ?zzc3 ?zzc4 ?zzc5; (case zzkA => exact rfl); (case zzkF => first | exact rfl | assumption); (case zzkK => first | exact rfl | assumption); (case zzk1 => k_asm); (case zzk2 => k_asm); (case zzk3 => k_asm); (case zzk4 => k_asm); (case zzk5 => k_asm); (case zzk6 => k_is); (case zzk7 => k_is); (case zzk8 => walk_at "room"); (case zzk9 => exact BindsTo.of_eq rfl); (case zzc5 => decide); (case zzkB => exact locs rfl); (case zzc2 => exact rfl); (case zzc3 => exact rfl); (case zzc4 => exact rfl); k_whole; intro _ _ _ _ _ _ _ _ _ _; (try dsimp only); (try k_fold)))
  (k_with "call builtin:list.extend" => (k_here; (with_reducible show wpAny _ _ (call (Value.builtin _) [Value.ref _, Value.ref _]) _ _ _); k_dflt (refine' ext_list ?zzF ?zzN ?zzb ?zzz ?zzU ?_; (case zzF => k_asm); (case zzN => k_asm); (case zzU => k_updF); (case zzb => walk_at "hx"); (case zzz => omega); k_whole); intro zzh zzn zzF zzN; (try dsimp only at zzN); revert zzh zzn zzF zzN; intro _ _ _ _; (try k_sweep)))
  (k_with "kall" => assumption)
  (k_with "call ref" => (k_here; (with_reducible show wpAny _ _ (call (Value.ref 176) _) _ _ _); k_dflt (refine' tolist_c ?zzkC ?zzkP ?zzkV ?zzkl ?_; (case zzkC => walk_at "mcx"); (case zzkV => assumption); (case zzkP => walk_at "hP"); (case zzkl => omega); walk_at "aft1")))
  (k_with "kinst" => (refine' InstAt.of_base ?zzF ?zzh1 ?zzh2; (case zzF => k_asm); (case zzh1 => first | k_asm | exact Fr.keep (by k_asm) _ _ (by assumption)); (case zzh2 => first | k_asm | exact Fr.keep (by k_asm) _ _ (by assumption))))
  (k_with "hP" => first | assumption | exact hPk (by k_asm) (by assumption) | exact hPk (by k_asm) (hPk (by k_asm) (by assumption)))
  (k_with "aftV" => (intro zzr zztls zzh zztk zzext zznew zzvec; (have zzF := frExt (by k_asm) zzext); (have zzN := newsExt (by k_asm) (by k_asm) zzext zznew); revert zzr zztls zzh zztk zzext zznew zzvec zzF zzN; intro _ _ _ _ _ _ _ _ _; (try k_sweep)))
  (k_with "call ref" => (k_here; (with_reducible show wpAny _ _ (call (Value.ref 256) _) _ _ _); k_dflt (refine' ext_l ?zzkC ?zzkP ?zzkV ?zzkO ?zzkl ?_; (case zzkC => walk_at "mcx"); (case zzkV => assumption); (case zzkO => is_list); (case zzkP => walk_at "hP"); (case zzkl => first | omega | (simp only [List.length_append, List.length_nil]; omega)); walk_at "aftV")))
  (k_with "call ref" => (k_here; (with_reducible show wpAny _ _ (call (Value.ref 256) _) _ _ _); k_dflt (refine' ext_v ?zzkC ?zzkP ?zzkV ?zzkO ?zzkl ?_; (case zzkC => walk_at "mcx"); (case zzkV => assumption); (case zzkO => assumption); (case zzkP => walk_at "hP"); (case zzkl => omega); walk_at "aftV")))
  trivial
def KK (w : World) : Kn := fun a o => (Mine.kx.heap_1 w.params).lookup a = some o
theorem k311 (w : World) : (Mine.kx.heap_1 w.params).lookup 311 = some (vecObj 310 0 722 5 368 306 307 0 739) := by kernel_rfl
theorem k310 (w : World) : (Mine.kx.heap_1 w.params).lookup 310 = some (dictOf [] 0) := by kernel_rfl
theorem k306 (w : World) : (Mine.kx.heap_1 w.params).lookup 306 = some (listOf ([] : List Value).toArray 0) := by kernel_rfl
theorem k307 (w : World) : (Mine.kx.heap_1 w.params).lookup 307 = some (listOf ([] : List Value).toArray 0) := by kernel_rfl
theorem empty_vec {w : World} {P : Kn} (k : Sub (KK w) P) : Vec P 311 [] :=
  ⟨310, 0, 722, 5, 368, 306, 307, 0, 739, [], [], [], k _ _ (k311 w), k _ _ (k310 w), ⟨rfl, rfl, rfl, by decide, .inl ⟨rfl, by decide, 0, k _ _ (k306 w)⟩, fun j hj => absurd hj (Nat.not_lt_zero _)⟩, ⟨0, k _ _ (k307 w)⟩, rfl⟩
theorem vec_311 {w : World} {P : Kn} {h : Heap} {x : Addr} {xs : List Value} (hP : ∀ a o, P a o → h.get? a = some o) (X : (Mine.kx.heap_1 w.params).In h) (hV : Vec P x xs) (e : x = 311) : xs = [] := by
  obtain ⟨dx, c, t1, sh, t2, rt, tl, off, t3, ls, ys, zs, a, _, p, _, rfl⟩ := hV
  have h1 := hP _ _ a
  rw [e, X _ _ (k311 w)] at h1
  have h2 : (#[some (.int 0 722), some (.ref 306), some (.int 5 368), some (.ref 307), some (.int 0 739)] : Array (Option Value)) = #[some (.int c t1), some (.ref rt), some (.int sh t2), some (.ref tl), some (.int off t3)] := congrArg Obj.slots (Option.some.inj h1)
  have h3 := congrArg (fun a : Array (Option Value) => a[0]?) h2
  simp only [List.getElem?_toArray, List.getElem?_cons_zero, Option.some.injEq, Value.int.injEq] at h3
  have h4 := p.hlen
  have : ys.length = 0 ∧ zs.length = 0 := by omega
  rw [List.length_eq_zero_iff.mp this.1, List.length_eq_zero_iff.mp this.2]; rfl
/-- _law_joined -/
theorem joined_c {w : World} {A A₀ : Around} {env : Env} {outer : List Env} {base h₀ : Heap} {L : Addr} {m : PySem.Str → Option Value} {mean : ExcName → Option Value} {mg mb : PySem.Str → Option Value} {s : Shared} {Q E : Value → Shared → Prop}
    (C : Cx w 270 1300 A A₀ env outer base h₀ L m mean mg mb s) {x : Addr} {xs : List Value} {ns : List Int} {P : Kn} {tw : Tok} (hP : ∀ a o, P a o → s.heap.get? a = some o) (hk : Sub (KK w) P) (hV : Vec P x xs) (hi : IntsAre xs ns) (hl : xs.length ≤ 2000) {way : Int}
    (hret : ∀ r tls h' tk, Ext s.heap h' → NewIn s.heap h' tls → Vec (Orr P tls) r (xs ++ xs) → Q (.ref r) { s with heap := h', toks := tk }) :
    wpAny (model PySem.Challenge.rw_im0011_01.row.prog w) A (call (.ref 334) [.ref x, .int way tw]) Q E s := by
  have hV0 := hV
  obtain ⟨dx, c, t1, sh, t2, rt, tl, off, t3, ls, ys, zs, hx, hdx, hp, ht, hxs⟩ := hV
  exact joined_0 C (hP _ _ hx) (hP _ _ hdx) hP hV0 (empty_vec hk) (vec_311 hP (C.X.keeps C.F.keep) hV0) hi hl hret
set_option maxHeartbeats 4000000 in
/-- python_pvector -/
theorem pyvec_c {w : World} {A A₀ : Around} {env : Env} {outer : List Env} {base h₀ : Heap} {L : Addr} {m : PySem.Str → Option Value} {mean : ExcName → Option Value} {mg mb : PySem.Str → Option Value} {s : Shared} {Q E : Value → Shared → Prop}
    (C : Cx w 270 1300 A A₀ env outer base h₀ L m mean mg mb s) {ob : Addr} {ws : List Value} (hO : s.heap.IsList ob ws.toArray) (hl : ws.length ≤ 19000)
    (hret : ∀ r tls h' tk, Ext s.heap h' → NewIn s.heap h' tls → Vec (Orr (KK w) tls) r ws → Q (.ref r) { s with heap := h', toks := tk }) :
    wpAny (model PySem.Challenge.rw_im0011_01.row.prog w) A (call (.ref 320) [.ref ob]) Q E s := by
  have : (PySem.Challenge.rw_im0011_01, Mine.kx.heap_1) = (PySem.Challenge.rw_im0011_01, Mine.kx.heap_1) := by k_fill; rfl
  have hP : ∀ a o, KK w a o → s.heap.get? a = some o := fun a o e => (C.X.keeps C.F.keep) a o e
  have hE : Vec (KK w) 311 [] := empty_vec fun _ _ e => e
  obtain ⟨B, F, X, T, fr, hf, hke, hh, hd, hu⟩ := C
  obtain ⟨hdl, dp, frs, gd, un⟩ := A
  dsimp only at fr hh hd hu
  subst hh fr
  refine wpAny_call ?_
  k_dflt walk_at "menter"
  rename_i g' L' h1 Ug Eg F' N' B' X'' T'
  replace Ug := ug0 Ug
  replace hO := listExt Ug hO
  replace hP : ∀ a o, KK w a o → g'.get? a = some o := fun a o e => Ug _ _ (hP a o e)
  walk_at "msteps"
  rename Fr _ _ _ _ => F9
  rename News _ _ _ _ => N9
  rename Vec _ _ _ => V9
  show Q _ _
  exact hret _ _ _ _ (extOf Ug F9) (fun p hp => newInOf Ug N9 p (List.mem_append_left _ hp)) V9
set_option maxHeartbeats 4000000 in
theorem size_c {w : World} {A A₀ : Around} {env : Env} {outer : List Env} {base h₀ : Heap} {L : Addr} {m : PySem.Str → Option Value} {mean : ExcName → Option Value} {mg mb : PySem.Str → Option Value} {s : Shared} {Q E : Value → Shared → Prop}
    (C : Cx w 20 100 A A₀ env outer base h₀ L m mean mg mb s) {n : Int} {tw : Tok}
    (hret : ∀ (z : Int) t h' tk, Ext s.heap h' → 0 ≤ z → z < 1060 → Q (.int z t) { s with heap := h', toks := tk }) :
    wpAny (model PySem.Challenge.rw_im0011_01.row.prog w) A (call (.ref 327) [.int n tw]) Q E s := by
  have : (PySem.Challenge.rw_im0011_01, Mine.kx.heap_1) = (PySem.Challenge.rw_im0011_01, Mine.kx.heap_1) := by k_fill; rfl
  obtain ⟨B, F, X, T, fr, hf, hke, hh, hd, hu⟩ := C
  obtain ⟨hdl, dp, frs, gd, un⟩ := A
  dsimp only at fr hh hd hu
  subst hh fr
  refine wpAny_call ?_
  k_dflt walk_at "menter"
  rename_i g' L' h1 Ug Eg F' N' B' X'' T'
  replace Ug := ug0 Ug
  walk_at "msteps"
  all_goals rename Fr _ _ _ _ => F9
  all_goals show Q _ _
  all_goals refine hret _ _ _ _ (extOf Ug F9) ?_ ?_
  all_goals first
    | omega
    | (have := Int.fmod_nonneg_of_pos (a := Int.fdiv n 4) (b := 52) (by decide); omega)
    | (have := Int.fmod_lt_of_pos (Int.fdiv n 4) (b := 52) (by decide); omega)
    | (have := Int.fmod_nonneg_of_pos (a := Int.fdiv n 4) (b := 1060) (by decide); omega)
    | (have := Int.fmod_lt_of_pos (Int.fdiv n 4) (b := 1060) (by decide); omega)
    | skip

theorem w25_1 : True := by (k_with "call builtin:isinstance" => (k_here; (with_reducible show wpAny _ _ (call _ [Value.int _ _, Value.type _]) _ _ _); k_dflt (refine' kia_one kitx_int ?zzX trivial ?zzee ?zznb ?_; (case zzX => k_in); (case zzee => kit_is); (case zznb => kit_nb); k_whole; intro _))); trivial

def RaiseOK (base : Heap) (l : List Env) (s : Shared) (E : Value → Shared → Prop) : Prop := ∀ e t vs h' tk, RaisedS base s.heap l e (.type "IndexError") t vs [] h' → s.heap.UpToSlots h' → E (.ref e) { s with heap := h', toks := tk }
theorem raisedS_up {base h g : Heap} {l : List Env} {e t : Addr} {cls : Value} {vs : List Value} {h' : Heap} (U : Ext h g) (R : RaisedS base g l e cls t vs [] h') : RaisedS base h l e cls t vs [] h' := by
  obtain ⟨⟨B, hB, hBG, _, hfl, hnew⟩, htup⟩ := R
  exact ⟨⟨B, hB, fun b o q nm => hBG b o (U b o q) nm, fun q hq => (nomatch hq), hfl, hnew⟩, htup⟩
theorem upSlots {h g h' : Heap} (U : Ext h g) (x : g.UpToSlots h') : h.UpToSlots h' := fun b o e hn => x b o (U b o e) hn
set_option maxHeartbeats 4000000 in
theorem node_t {w : World} {A A₀ : Around} {env : Env} {outer : List Env} {base h₀ : Heap} {L : Addr} {m : PySem.Str → Option Value} {mean : ExcName → Option Value} {mg mb : PySem.Str → Option Value} {s : Shared} {Q E : Value → Shared → Prop}
    (C : Cx w 10 80 A A₀ env outer base h₀ L m mean mg mb s) {x dx rt tl : Addr} {c sh off : Int} {t1 t2 t3 : Tok} (hx : s.heap.get? x = some (vecObj dx c t1 sh t2 rt tl off t3)) (hdx : s.heap.get? dx = some (dictOf [] 0)) {ys zs ls : List Value} {P : Kn} {k : Int} {tw : Tok} (hP : ∀ a o, P a o → s.heap.get? a = some o) (hV : Parts P c sh rt off ls ys zs) (h1 : off ≤ k) (h2 : k < c)
    (hret : ∀ h' tk, Ext s.heap h' → Q (.ref tl) { s with heap := h', toks := tk }) :
    wpAny (model PySem.Challenge.rw_im0011_01.row.prog w) A (call (.ref 204) [.ref x, .int k tw]) Q E s := by
  have : (PySem.Challenge.rw_im0011_01, Mine.kx.heap_1) = (PySem.Challenge.rw_im0011_01, Mine.kx.heap_1) := by k_fill; rfl
  obtain ⟨B, F, X, T, fr, hf, hke, hh, hd, hu⟩ := C
  obtain ⟨hdl, dp, frs, gd, un⟩ := A
  dsimp only at fr hh hd hu
  subst hh fr
  refine wpAny_call ?_
  k_dflt walk_at "menter"
  rename_i g' L' h1 Ug Eg F' N' B' X'' T'
  replace Ug := ug0 Ug
  replace hx := Ug _ _ hx
  replace hdx := Ug _ _ hdx
  replace hP : ∀ a o, P a o → g'.get? a = some o := fun a o e => Ug _ _ (hP a o e)
  have := hV.hlen
  have := hV.hoff
  have := hV.hys
  have := hV.hzs
  walk_at "msteps"
  rename Fr _ _ _ _ => F9
  show Q _ _
  exact hret _ _ (extOf Ug F9)
set_option maxHeartbeats 4000000 in
theorem node_e {w : World} {A A₀ : Around} {env : Env} {outer : List Env} {base h₀ : Heap} {L : Addr} {m : PySem.Str → Option Value} {mean : ExcName → Option Value} {mg mb : PySem.Str → Option Value} {s : Shared} {Q E : Value → Shared → Prop}
    (C : Cx w 10 80 A A₀ env outer base h₀ L m mean mg mb s) {x dx rt tl : Addr} {c sh off : Int} {t1 t2 t3 : Tok} (hx : s.heap.get? x = some (vecObj dx c t1 sh t2 rt tl off t3)) (hdx : s.heap.get? dx = some (dictOf [] 0)) {k : Int} {tw : Tok} (h1 : k < 0 ∨ c ≤ k) (hb1 : -100000 ≤ k) (hb2 : k ≤ 100000)
    (he : RaiseOK base (env :: outer) s E) :
    wpAny (model PySem.Challenge.rw_im0011_01.row.prog w) A (call (.ref 204) [.ref x, .int k tw]) Q E s := by
  have : (PySem.Challenge.rw_im0011_01, Mine.kx.heap_1) = (PySem.Challenge.rw_im0011_01, Mine.kx.heap_1) := by k_fill; rfl
  obtain ⟨B, F, X, T, fr, hf, hke, hh, hd, hu⟩ := C
  obtain ⟨hdl, dp, frs, gd, un⟩ := A
  dsimp only at fr hh hd hu
  subst hh fr
  refine wpAny_call ?_
  k_dflt walk_at "menter"
  rename_i g' L' h1 Ug Eg F' N' B' X'' T'
  replace Ug := ug0 Ug
  replace hx := Ug _ _ hx
  replace hdx := Ug _ _ hdx
  have kd := ktsDicts_nil (g := g')
  walk_at "msteps"
  all_goals rename RaisedS _ _ _ _ _ _ _ _ _ => R9
  all_goals rename Heap.UpToSlots _ _ => U9
  all_goals exact he _ _ _ _ _ (raisedS_up Ug R9) (upSlots Ug U9)
set_option maxHeartbeats 4000000 in
theorem node_5 {w : World} {A A₀ : Around} {env : Env} {outer : List Env} {base h₀ : Heap} {L : Addr} {m : PySem.Str → Option Value} {mean : ExcName → Option Value} {mg mb : PySem.Str → Option Value} {s : Shared} {Q E : Value → Shared → Prop}
    (C : Cx w 10 80 A A₀ env outer base h₀ L m mean mg mb s) {x dx rt tl : Addr} {c off : Int} {t1 t2 t3 : Tok} (hx : s.heap.get? x = some (vecObj dx c t1 5 t2 rt tl off t3)) (hdx : s.heap.get? dx = some (dictOf [] 0)) {ls : List Value} {k : Int} {tw : Tok} {j : Nat} {b : Addr} (hp : s.heap.IsList rt ls.toArray) (hlen : ls.length ≤ 32) (h1 : 0 ≤ k) (h2 : k < off) (h3 : k < c) (hj : (j : Int) = k / 32) (hjl : j < ls.length) (hb : ls[j]? = some (.ref b))
    (hret : ∀ h' tk, Ext s.heap h' → Q (.ref b) { s with heap := h', toks := tk }) :
    wpAny (model PySem.Challenge.rw_im0011_01.row.prog w) A (call (.ref 204) [.ref x, .int k tw]) Q E s := by
  have : (PySem.Challenge.rw_im0011_01, Mine.kx.heap_1) = (PySem.Challenge.rw_im0011_01, Mine.kx.heap_1) := by k_fill; rfl
  obtain ⟨B, F, X, T, fr, hf, hke, hh, hd, hu⟩ := C
  obtain ⟨hdl, dp, frs, gd, un⟩ := A
  dsimp only at fr hh hd hu
  subst hh fr
  refine wpAny_call ?_
  k_dflt walk_at "menter"
  rename_i g' L' h1 Ug Eg F' N' B' X'' T'
  replace Ug := ug0 Ug
  replace hx := Ug _ _ hx
  replace hdx := Ug _ _ hdx
  replace hp := listExt Ug hp
  k_steps
  rename Fr _ _ _ _ => F9
  show Q _ _
  exact hret _ _ (extOf Ug F9)
set_option maxHeartbeats 4000000 in
theorem node_10 {w : World} {A A₀ : Around} {env : Env} {outer : List Env} {base h₀ : Heap} {L : Addr} {m : PySem.Str → Option Value} {mean : ExcName → Option Value} {mg mb : PySem.Str → Option Value} {s : Shared} {Q E : Value → Shared → Prop}
    (C : Cx w 10 80 A A₀ env outer base h₀ L m mean mg mb s) {x dx rt tl : Addr} {c off : Int} {t1 t2 t3 : Tok} (hx : s.heap.get? x = some (vecObj dx c t1 10 t2 rt tl off t3)) (hdx : s.heap.get? dx = some (dictOf [] 0)) {ch ls : List Value} {k : Int} {tw : Tok} {j1 j : Nat} {b1 b : Addr} (hp : s.heap.IsList rt ch.toArray) (hp1 : s.heap.IsList b1 ls.toArray) (hlen1 : ch.length ≤ 32) (hlen : ls.length ≤ 32) (h1 : 0 ≤ k) (h2 : k < off) (h3 : k < c) (hj1 : (j1 : Int) = k / 1024) (hjl1 : j1 < ch.length) (hb1 : ch[j1]? = some (.ref b1)) (hj : (j : Int) = k / 32 % 32) (hjl : j < ls.length) (hb : ls[j]? = some (.ref b))
    (hret : ∀ h' tk, Ext s.heap h' → Q (.ref b) { s with heap := h', toks := tk }) :
    wpAny (model PySem.Challenge.rw_im0011_01.row.prog w) A (call (.ref 204) [.ref x, .int k tw]) Q E s := by
  have : (PySem.Challenge.rw_im0011_01, Mine.kx.heap_1) = (PySem.Challenge.rw_im0011_01, Mine.kx.heap_1) := by k_fill; rfl
  obtain ⟨B, F, X, T, fr, hf, hke, hh, hd, hu⟩ := C
  obtain ⟨hdl, dp, frs, gd, un⟩ := A
  dsimp only at fr hh hd hu
  subst hh fr
  refine wpAny_call ?_
  k_dflt walk_at "menter"
  rename_i g' L' h1 Ug Eg F' N' B' X'' T'
  replace Ug := ug0 Ug
  replace hx := Ug _ _ hx
  replace hdx := Ug _ _ hdx
  replace hp := listExt Ug hp
  replace hp1 := listExt Ug hp1
  k_steps
  rename Fr _ _ _ _ => F9
  show Q _ _
  exact hret _ _ (extOf Ug F9)
theorem node_l {w : World} {A A₀ : Around} {env : Env} {outer : List Env} {base h₀ : Heap} {L : Addr} {m : PySem.Str → Option Value} {mean : ExcName → Option Value} {mg mb : PySem.Str → Option Value} {s : Shared} {Q E : Value → Shared → Prop}
    (C : Cx w 10 80 A A₀ env outer base h₀ L m mean mg mb s) {x dx rt tl : Addr} {c sh off : Int} {t1 t2 t3 : Tok} (hx : s.heap.get? x = some (vecObj dx c t1 sh t2 rt tl off t3)) (hdx : s.heap.get? dx = some (dictOf [] 0)) {ys zs ls : List Value} {P : Kn} {k : Int} {tw : Tok} (hP : ∀ a o, P a o → s.heap.get? a = some o) (hV : Parts P c sh rt off ls ys zs) (hl : ys.length ≤ 20000) (h1 : 0 ≤ k) (h2 : k < off)
    (hret : ∀ b h' tk, Ext s.heap h' → LAt P b (part ys (k.toNat / 32)) → Q (.ref b) { s with heap := h', toks := tk }) :
    wpAny (model PySem.Challenge.rw_im0011_01.row.prog w) A (call (.ref 204) [.ref x, .int k tw]) Q E s := by
  obtain ⟨v1, v2, v3, v4, v5, v6⟩ := hV
  obtain ⟨b, hb, hs⟩ := v6 (k.toNat / 32) (by omega)
  rcases v5 with ⟨rfl, hlen, hr⟩ | ⟨rfl, ch, hr, hn⟩
  · exact node_5 C hx hdx (j := k.toNat / 32) (hr.is hP) hlen h1 h2 (by omega) (by omega) (by omega) hb fun h' tk ex => hret b h' tk ex hs
  · obtain ⟨b1, hb1, hs1⟩ := hn.2 (k.toNat / 32 / 32) (by have := hn.1; omega)
    have hn1 := hn.1
    have hpl : (part ls (k.toNat / 32 / 32)).length = min 32 (ls.length - 32 * (k.toNat / 32 / 32)) := by unfold part; rw [List.length_take, List.length_drop]
    exact node_10 C hx hdx (j1 := k.toNat / 32 / 32) (j := k.toNat / 32 % 32) (hr.is hP) (hs1.is hP) (by omega) (part_len _ _) h1 h2 (by omega) (by omega) (by omega) hb1 (by omega) (by omega) (part_get.trans hb) fun h' tk ex => hret b h' tk ex hs
theorem part_item {l : List Value} {i : Nat} {v : Value} (h : l[i]? = some v) : (part l (i / 32))[i % 32]? = some v := part_get.trans h

theorem w25_2 : True := by (k_with "aftE" => (intro zzh zztk zzext; (have zzF := frExt (by k_asm) zzext); (have zzN := newsExt (tl := []) (by k_asm) (by k_asm) zzext (fun _ h => nomatch h)); (simp only [List.nil_append] at zzN); clear zzext; revert zzh zztk zzF zzN; intro _ _ _ _; (try k_sweep))); trivial
theorem w25_3 : True := by (k_with "call ref" => (k_here; (with_reducible show wpAny _ _ (call (Value.ref 204) _) _ _ _); k_dflt (refine' node_t ?zzkC ?zzkx ?zzkd ?zzkP ?zzkV ?zzk1 ?zzk2 ?_; (case zzkC => walk_at "mcx"); (case zzkx => walk_at "hx"); (case zzkd => walk_at "hx"); (case zzkV => assumption); (case zzkP => walk_at "hP"); (case zzk1 => omega); (case zzk2 => omega); walk_at "aftE"))); trivial
theorem w25_4 : True := by (k_with "call ref" => (k_here; (with_reducible show wpAny _ _ (call (Value.ref 204) _) _ _ _); k_dflt (refine' node_l ?zzkC ?zzkx ?zzkd ?zzkP ?zzkV ?zzkl ?zzk1 ?zzk2 ?_; (case zzkC => walk_at "mcx"); (case zzkx => walk_at "hx"); (case zzkd => walk_at "hx"); (case zzkV => assumption); (case zzkP => walk_at "hP"); (case zzkl => omega); (case zzk1 => omega); (case zzk2 => omega); intro zzb zzh zztk zzext zzlat; (have zzil := LAt.is (by assumption) zzlat); (have zzF := frExt (by k_asm) zzext); (have zzN := newsExt (tl := []) (by k_asm) (by k_asm) zzext (fun _ h => nomatch h)); (simp only [List.nil_append] at zzN); clear zzext zzlat; revert zzb zzh zztk zzil zzF zzN; intro _ _ _ _ _ _; (try k_sweep)))); trivial
theorem w25_5 : True := by (k_with "call ref" => (k_here; (with_reducible show wpAny _ _ (call (Value.ref 204) _) _ _ _); k_dflt (refine' node_e ?zzkC ?zzkx ?zzkd ?zzk1 ?zzk2 ?zzk3 ?_; (case zzkC => walk_at "mcx"); (case zzkx => walk_at "hx"); (case zzkd => walk_at "hx"); (case zzk1 => omega); (case zzk2 => omega); (case zzk3 => omega); (intro _ _ _ _ _ _ _); (try dsimp only)))); trivial

set_option maxHeartbeats 4000000 in
theorem get_tp {w : World} {A A₀ : Around} {env : Env} {outer : List Env} {base h₀ : Heap} {L : Addr} {m : PySem.Str → Option Value} {mean : ExcName → Option Value} {mg mb : PySem.Str → Option Value} {s : Shared} {Q E : Value → Shared → Prop}
    (C : Cx w 30 160 A A₀ env outer base h₀ L m mean mg mb s) {x dx rt tl : Addr} {c sh off : Int} {t1 t2 t3 : Tok} (hx : s.heap.get? x = some (vecObj dx c t1 sh t2 rt tl off t3)) (hdx : s.heap.get? dx = some (dictOf [] 0)) {ys zs ls : List Value} {P : Kn} {k : Int} {tw : Tok} {j : Nat} {v : Value} (hP : ∀ a o, P a o → s.heap.get? a = some o) (hV : Parts P c sh rt off ls ys zs) (ht : s.heap.IsList tl zs.toArray) (hk : 0 ≤ k) (h1 : off ≤ k) (h2 : k < c) (hj : (j : Int) = k % 32) (hjl : j < zs.length) (hv : zs[j]? = some v)
    (hret : ∀ h' tk, Ext s.heap h' → Q v { s with heap := h', toks := tk }) :
    wpAny (model PySem.Challenge.rw_im0011_01.row.prog w) A (call (.ref 85) [.ref x, .int k tw]) Q E s := by
  have : (PySem.Challenge.rw_im0011_01, Mine.kx.heap_1) = (PySem.Challenge.rw_im0011_01, Mine.kx.heap_1) := by k_fill; rfl
  obtain ⟨B, F, X, T, fr, hf, hke, hh, hd, hu⟩ := C
  obtain ⟨hdl, dp, frs, gd, un⟩ := A
  dsimp only at fr hh hd hu
  subst hh fr
  refine wpAny_call ?_
  k_dflt walk_at "menter"
  rename_i g' L' h1 Ug Eg F' N' B' X'' T'
  replace Ug := ug0 Ug
  replace hx := Ug _ _ hx
  replace hdx := Ug _ _ hdx
  replace hP : ∀ a o, P a o → g'.get? a = some o := fun a o e => Ug _ _ (hP a o e)
  have := hV.hlen
  have := hV.hoff
  have := hV.hys
  have := hV.hzs
  replace ht := listExt Ug ht
  walk_at "msteps"
  rename Fr _ _ _ _ => F9
  show Q _ _
  exact hret _ _ (extOf Ug F9)
set_option maxHeartbeats 4000000 in
theorem get_lp {w : World} {A A₀ : Around} {env : Env} {outer : List Env} {base h₀ : Heap} {L : Addr} {m : PySem.Str → Option Value} {mean : ExcName → Option Value} {mg mb : PySem.Str → Option Value} {s : Shared} {Q E : Value → Shared → Prop}
    (C : Cx w 30 160 A A₀ env outer base h₀ L m mean mg mb s) {x dx rt tl : Addr} {c sh off : Int} {t1 t2 t3 : Tok} (hx : s.heap.get? x = some (vecObj dx c t1 sh t2 rt tl off t3)) (hdx : s.heap.get? dx = some (dictOf [] 0)) {ys zs ls : List Value} {P : Kn} {k : Int} {tw : Tok} {j : Nat} {v : Value} (hP : ∀ a o, P a o → s.heap.get? a = some o) (hV : Parts P c sh rt off ls ys zs) (hl : ys.length ≤ 20000) (hk : 0 ≤ k) (h1 : 0 ≤ k) (h2 : k < off) (hj : (j : Int) = k % 32) (hjl : j < (part ys (k.toNat / 32)).length) (hpl : (part ys (k.toNat / 32)).length ≤ 32) (hv : (part ys (k.toNat / 32))[j]? = some v)
    (hret : ∀ h' tk, Ext s.heap h' → Q v { s with heap := h', toks := tk }) :
    wpAny (model PySem.Challenge.rw_im0011_01.row.prog w) A (call (.ref 85) [.ref x, .int k tw]) Q E s := by
  have : (PySem.Challenge.rw_im0011_01, Mine.kx.heap_1) = (PySem.Challenge.rw_im0011_01, Mine.kx.heap_1) := by k_fill; rfl
  obtain ⟨B, F, X, T, fr, hf, hke, hh, hd, hu⟩ := C
  obtain ⟨hdl, dp, frs, gd, un⟩ := A
  dsimp only at fr hh hd hu
  subst hh fr
  refine wpAny_call ?_
  k_dflt walk_at "menter"
  rename_i g' L' h1 Ug Eg F' N' B' X'' T'
  replace Ug := ug0 Ug
  replace hx := Ug _ _ hx
  replace hdx := Ug _ _ hdx
  replace hP : ∀ a o, P a o → g'.get? a = some o := fun a o e => Ug _ _ (hP a o e)
  have := hV.hlen
  have := hV.hoff
  have := hV.hys
  have := hV.hzs
  walk_at "msteps"
  rename Fr _ _ _ _ => F9
  show Q _ _
  exact hret _ _ (extOf Ug F9)
set_option maxHeartbeats 4000000 in
theorem get_tn {w : World} {A A₀ : Around} {env : Env} {outer : List Env} {base h₀ : Heap} {L : Addr} {m : PySem.Str → Option Value} {mean : ExcName → Option Value} {mg mb : PySem.Str → Option Value} {s : Shared} {Q E : Value → Shared → Prop}
    (C : Cx w 30 160 A A₀ env outer base h₀ L m mean mg mb s) {x dx rt tl : Addr} {c sh off : Int} {t1 t2 t3 : Tok} (hx : s.heap.get? x = some (vecObj dx c t1 sh t2 rt tl off t3)) (hdx : s.heap.get? dx = some (dictOf [] 0)) {ys zs ls : List Value} {P : Kn} {k : Int} {tw : Tok} {j : Nat} {v : Value} (hP : ∀ a o, P a o → s.heap.get? a = some o) (hV : Parts P c sh rt off ls ys zs) (ht : s.heap.IsList tl zs.toArray) (hk : k < 0) (h1 : off ≤ (k + c)) (h2 : (k + c) < c) (hj : (j : Int) = (k + c) % 32) (hjl : j < zs.length) (hv : zs[j]? = some v)
    (hret : ∀ h' tk, Ext s.heap h' → Q v { s with heap := h', toks := tk }) :
    wpAny (model PySem.Challenge.rw_im0011_01.row.prog w) A (call (.ref 85) [.ref x, .int k tw]) Q E s := by
  have : (PySem.Challenge.rw_im0011_01, Mine.kx.heap_1) = (PySem.Challenge.rw_im0011_01, Mine.kx.heap_1) := by k_fill; rfl
  obtain ⟨B, F, X, T, fr, hf, hke, hh, hd, hu⟩ := C
  obtain ⟨hdl, dp, frs, gd, un⟩ := A
  dsimp only at fr hh hd hu
  subst hh fr
  refine wpAny_call ?_
  k_dflt walk_at "menter"
  rename_i g' L' h1 Ug Eg F' N' B' X'' T'
  replace Ug := ug0 Ug
  replace hx := Ug _ _ hx
  replace hdx := Ug _ _ hdx
  replace hP : ∀ a o, P a o → g'.get? a = some o := fun a o e => Ug _ _ (hP a o e)
  have := hV.hlen
  have := hV.hoff
  have := hV.hys
  have := hV.hzs
  replace ht := listExt Ug ht
  walk_at "msteps"
  rename Fr _ _ _ _ => F9
  show Q _ _
  exact hret _ _ (extOf Ug F9)
set_option maxHeartbeats 4000000 in
theorem get_ln {w : World} {A A₀ : Around} {env : Env} {outer : List Env} {base h₀ : Heap} {L : Addr} {m : PySem.Str → Option Value} {mean : ExcName → Option Value} {mg mb : PySem.Str → Option Value} {s : Shared} {Q E : Value → Shared → Prop}
    (C : Cx w 30 160 A A₀ env outer base h₀ L m mean mg mb s) {x dx rt tl : Addr} {c sh off : Int} {t1 t2 t3 : Tok} (hx : s.heap.get? x = some (vecObj dx c t1 sh t2 rt tl off t3)) (hdx : s.heap.get? dx = some (dictOf [] 0)) {ys zs ls : List Value} {P : Kn} {k : Int} {tw : Tok} {j : Nat} {v : Value} (hP : ∀ a o, P a o → s.heap.get? a = some o) (hV : Parts P c sh rt off ls ys zs) (hl : ys.length ≤ 20000) (hk : k < 0) (h1 : 0 ≤ (k + c)) (h2 : (k + c) < off) (hj : (j : Int) = (k + c) % 32) (hjl : j < (part ys ((k + c).toNat / 32)).length) (hpl : (part ys ((k + c).toNat / 32)).length ≤ 32) (hv : (part ys ((k + c).toNat / 32))[j]? = some v)
    (hret : ∀ h' tk, Ext s.heap h' → Q v { s with heap := h', toks := tk }) :
    wpAny (model PySem.Challenge.rw_im0011_01.row.prog w) A (call (.ref 85) [.ref x, .int k tw]) Q E s := by
  have : (PySem.Challenge.rw_im0011_01, Mine.kx.heap_1) = (PySem.Challenge.rw_im0011_01, Mine.kx.heap_1) := by k_fill; rfl
  obtain ⟨B, F, X, T, fr, hf, hke, hh, hd, hu⟩ := C
  obtain ⟨hdl, dp, frs, gd, un⟩ := A
  dsimp only at fr hh hd hu
  subst hh fr
  refine wpAny_call ?_
  k_dflt walk_at "menter"
  rename_i g' L' h1 Ug Eg F' N' B' X'' T'
  replace Ug := ug0 Ug
  replace hx := Ug _ _ hx
  replace hdx := Ug _ _ hdx
  replace hP : ∀ a o, P a o → g'.get? a = some o := fun a o e => Ug _ _ (hP a o e)
  have := hV.hlen
  have := hV.hoff
  have := hV.hys
  have := hV.hzs
  walk_at "msteps"
  rename Fr _ _ _ _ => F9
  show Q _ _
  exact hret _ _ (extOf Ug F9)
set_option maxHeartbeats 4000000 in
theorem get_e {w : World} {A A₀ : Around} {env : Env} {outer : List Env} {base h₀ : Heap} {L : Addr} {m : PySem.Str → Option Value} {mean : ExcName → Option Value} {mg mb : PySem.Str → Option Value} {s : Shared} {Q E : Value → Shared → Prop}
    (C : Cx w 30 160 A A₀ env outer base h₀ L m mean mg mb s) {x dx rt tl : Addr} {c sh off : Int} {t1 t2 t3 : Tok} (hx : s.heap.get? x = some (vecObj dx c t1 sh t2 rt tl off t3)) (hdx : s.heap.get? dx = some (dictOf [] 0)) {k : Int} {tw : Tok} (h1 : k + c < 0 ∨ c ≤ k) (hc : 0 ≤ c) (hb1 : -100000 ≤ k + c) (hb2 : k ≤ 100000)
    (he : RaiseOK base (env :: outer) s E) :
    wpAny (model PySem.Challenge.rw_im0011_01.row.prog w) A (call (.ref 85) [.ref x, .int k tw]) Q E s := by
  have : (PySem.Challenge.rw_im0011_01, Mine.kx.heap_1) = (PySem.Challenge.rw_im0011_01, Mine.kx.heap_1) := by k_fill; rfl
  obtain ⟨B, F, X, T, fr, hf, hke, hh, hd, hu⟩ := C
  obtain ⟨hdl, dp, frs, gd, un⟩ := A
  dsimp only at fr hh hd hu
  subst hh fr
  refine wpAny_call ?_
  k_dflt walk_at "menter"
  rename_i g' L' h1 Ug Eg F' N' B' X'' T'
  replace Ug := ug0 Ug
  replace hx := Ug _ _ hx
  replace hdx := Ug _ _ hdx
  have kd := ktsDicts_nil (g := g')
  walk_at "msteps"
  all_goals rename RaisedS _ _ _ _ _ _ _ _ _ => R9
  all_goals rename Heap.UpToSlots _ _ => U9
  all_goals exact he _ _ _ _ _ (raisedS_up Ug R9) (upSlots Ug U9)

/-- vector[k], k in range -/
theorem get_c {w : World} {A A₀ : Around} {env : Env} {outer : List Env} {base h₀ : Heap} {L : Addr} {m : PySem.Str → Option Value} {mean : ExcName → Option Value} {mg mb : PySem.Str → Option Value} {s : Shared} {Q E : Value → Shared → Prop}
    (C : Cx w 30 160 A A₀ env outer base h₀ L m mean mg mb s) {x : Addr} {xs : List Value} {P : Kn} {k : Int} {tw : Tok} {i : Nat} {v : Value} (hP : ∀ a o, P a o → s.heap.get? a = some o) (hV : Vec P x xs) (hl : xs.length ≤ 20000) (hk : (0 ≤ k ∧ k = i) ∨ (k < 0 ∧ k + xs.length = i)) (hv : xs[i]? = some v)
    (hret : ∀ h' tk, Ext s.heap h' → Q v { s with heap := h', toks := tk }) :
    wpAny (model PySem.Challenge.rw_im0011_01.row.prog w) A (call (.ref 85) [.ref x, .int k tw]) Q E s := by
  obtain ⟨dx, c, t1, sh, t2, rt, tl, off, t3, ls, ys, zs, hx, hdx, hp, ⟨n2, ht⟩, rfl⟩ := hV
  have hi : i < (ys ++ zs).length := (List.getElem?_eq_some_iff.mp hv).1
  rw [List.length_append] at hi hl hk
  have h1 := hp.hlen
  have h2 := hp.hoff
  have h3 := hp.hys
  have h4 := hp.hzs
  by_cases hlt : i < ys.length
  · rw [List.getElem?_append_left hlt] at hv
    have hpl : (part ys (i / 32)).length ≤ 32 := part_len _ _
    have hv' := part_item hv
    have hjl := (List.getElem?_eq_some_iff.mp hv').1
    rcases hk with ⟨k0, hk⟩ | ⟨k0, hk⟩
    · have e : k.toNat / 32 = i / 32 := by omega
      exact get_lp C (hP _ _ hx) (hP _ _ hdx) (j := i % 32) hP hp (by omega) k0 (by omega) (by omega) (by omega) (by rw [e]; exact hjl) (by rw [e]; exact hpl) (by rw [e]; exact hv') hret
    · have e : (k + c).toNat / 32 = i / 32 := by omega
      exact get_ln C (hP _ _ hx) (hP _ _ hdx) (j := i % 32) hP hp (by omega) k0 (by omega) (by omega) (by omega) (by rw [e]; exact hjl) (by rw [e]; exact hpl) (by rw [e]; exact hv') hret
  · rw [List.getElem?_append_right (by omega)] at hv
    have hjl := (List.getElem?_eq_some_iff.mp hv).1
    have hts : s.heap.IsList tl zs.toArray := ⟨_, hP _ _ ht, rfl, n2, rfl⟩
    rcases hk with ⟨k0, hk⟩ | ⟨k0, hk⟩
    · exact get_tp C (hP _ _ hx) (hP _ _ hdx) (j := i - ys.length) hP hp hts k0 (by omega) (by omega) (by omega) hjl hv hret
    · exact get_tn C (hP _ _ hx) (hP _ _ hdx) (j := i - ys.length) hP hp hts k0 (by omega) (by omega) (by omega) hjl hv hret
/-- vector[k], k out of range: IndexError -/
theorem get_x {w : World} {A A₀ : Around} {env : Env} {outer : List Env} {base h₀ : Heap} {L : Addr} {m : PySem.Str → Option Value} {mean : ExcName → Option Value} {mg mb : PySem.Str → Option Value} {s : Shared} {Q E : Value → Shared → Prop}
    (C : Cx w 30 160 A A₀ env outer base h₀ L m mean mg mb s) {x : Addr} {xs : List Value} {P : Kn} {k : Int} {tw : Tok} (hP : ∀ a o, P a o → s.heap.get? a = some o) (hV : Vec P x xs) (hl : xs.length ≤ 20000) (hk : k + xs.length < 0 ∨ (xs.length : Int) ≤ k) (hb1 : -70000 ≤ k) (hb2 : k ≤ 70000)
    (he : RaiseOK base (env :: outer) s E) :
    wpAny (model PySem.Challenge.rw_im0011_01.row.prog w) A (call (.ref 85) [.ref x, .int k tw]) Q E s := by
  obtain ⟨dx, c, t1, sh, t2, rt, tl, off, t3, ls, ys, zs, hx, hdx, hp, ⟨n2, ht⟩, rfl⟩ := hV
  rw [List.length_append] at hl hk
  have h1 := hp.hlen
  exact get_e C (hP _ _ hx) (hP _ _ hdx) (by omega) (by omega) (by omega) (by omega) he
set_option maxHeartbeats 4000000 in
theorem len_w {w : World} {A A₀ : Around} {env : Env} {outer : List Env} {base h₀ : Heap} {L : Addr} {m : PySem.Str → Option Value} {mean : ExcName → Option Value} {mg mb : PySem.Str → Option Value} {s : Shared} {Q E : Value → Shared → Prop}
    (C : Cx w 10 80 A A₀ env outer base h₀ L m mean mg mb s) {x dx rt tl : Addr} {c sh off : Int} {t1 t2 t3 : Tok} (hx : s.heap.get? x = some (vecObj dx c t1 sh t2 rt tl off t3)) (hdx : s.heap.get? dx = some (dictOf [] 0)) (hret : ∀ h' tk t, Ext s.heap h' → Q (.int c t) { s with heap := h', toks := tk }) :
    wpAny (model PySem.Challenge.rw_im0011_01.row.prog w) A (call (.ref 78) [.ref x]) Q E s := by
  have : (PySem.Challenge.rw_im0011_01, Mine.kx.heap_1) = (PySem.Challenge.rw_im0011_01, Mine.kx.heap_1) := by k_fill; rfl
  obtain ⟨B, F, X, T, fr, hf, hke, hh, hd, hu⟩ := C
  obtain ⟨hdl, dp, frs, gd, un⟩ := A
  dsimp only at fr hh hd hu
  subst hh fr
  refine wpAny_call ?_
  k_dflt walk_at "menter"
  rename_i g' L' h1 Ug Eg F' N' B' X'' T'
  replace Ug := ug0 Ug
  replace hx := Ug _ _ hx
  replace hdx := Ug _ _ hdx
  walk_at "msteps"
  rename Fr _ _ _ _ => F9
  show Q _ _
  exact hret _ _ _ (extOf Ug F9)

theorem frame_mem {env : Env} {L b : Addr} {outer : List Env} (hf : env.frame = some L) (hm : b ∈ (env :: outer).filterMap (·.frame)) : b = L ∨ b ∈ outer.filterMap (·.frame) := by
  obtain ⟨en, he, hfb⟩ := List.mem_filterMap.mp hm
  rcases List.mem_cons.mp he with rfl | he
  · exact .inl (Option.some.inj (hfb.symm.trans hf))
  · exact .inr (List.mem_filterMap.mpr ⟨en, he, hfb⟩)
theorem ground_turn {A₀ : Around} {base g G B h₅ : Heap} {env : Env} {outer : List Env} {L : Addr} {m : PySem.Str → Option Value} (hf : env.frame = some L)
    (K : Below A₀ base outer g) (F : Fr g L G m) (hBG : ∀ b o, G.get? b = some o → b ∉ (env :: outer).filterMap (·.frame) → B.get? b = some o) (hBh : B.StaysIn h₅) (hsm : G.UpToSlots h₅) :
    ∃ g', KtsTurn (outer.filterMap (·.frame)) g g' ∧ Fr g' L h₅ m ∧ Below A₀ base outer g' := by
  have off : ∀ b o, g.get? b = some o → b ∉ outer.filterMap (·.frame) → b ∉ (env :: outer).filterMap (·.frame) := fun b o e nm hm => by
    rcases frame_mem hf hm with z | z
    · rw [z, kts_self F] at e; cases e
    · exact nm z
  obtain ⟨T, S⟩ := kts_turn_at (h := h₅) (fs := outer.filterMap (·.frame)) (g := g) (fun b hb => let ⟨_, o, ho, _⟩ := K.frames.mem hb; ⟨o, ho⟩)
    (fun b o e nm => hBh b o (hBG b o (F.keep b o e) (off b o e nm)))
    (fun b o e hm => by
      obtain ⟨_, o', ho', hd⟩ := K.frames.mem hm
      cases e.symm.trans ho'
      exact hsm b o (F.keep b o e) hd)
  refine ⟨_, T, ⟨hsm.ns F.ns, S, Nat.le_trans (Nat.le_of_eq T.size) F.above⟩, K.stack, fun b o e => T.other b o (K.stays b o e) (fun hm => ?_), K.frames.of_keeps fun b o e _ => ?_⟩
  · rw [(K.frames.mem hm).1] at e; cases e
  · obtain ⟨sl, hs⟩ := T.up e
    exact ⟨_, hs, rfl⟩
section
variable {prog : Program} {w : World} {A₀ : Around} {E : Value → Shared → Prop} {s' : Shared} {base g G : Heap} {outer : List Env} {L a e t : Addr} {m : PySem.Str → Option Value} {name : PySem.Str} {scope : Scope} {cd : Value} {cl : List (PySem.Str × Addr)}
  {vs : List Value} {b₀ : Stmt} {suite : List Stmt} {pos np : Pos} {rest : List ExceptHandler} {Q : Flow → Shared → Prop} {news : List (Addr × Obj)} {KF : Frag}
  {p : Program} {loose : List PySem.Str} {mean : ExcName → Option Value} {mg mb : PySem.Str → Option Value} {x : PySem.Str} {X T' : String}
/-- an exception that a callee raised is caught in this frame: all that this frame knows stands; the frames below are turned in their slots -/
theorem catchX (R : RaisedS base G (envX name scope L a cd cl :: outer) e (.type X) t vs [] s'.heap) (F : Fr g L G m) (N : News g L G news) (K : Below A₀ base outer g) (hsm : G.UpToSlots s'.heap) (XB : KF.In base) (TB : Top p loose mean mg mb base)
    (ex : nsIn KF mainGlobals x = some none) (hv : bootBuiltins x = some (.type T')) (hn' : x ≠ "__name__")
    (hexc : isSubtype (.type T') (.type "BaseException") = pure true) (hnt : isSubtype (.type ((Manifest.find? T').elim "type" fun y => y.metatype)) (.type "tuple") = pure false) (hsub : isSubtype (.type X) (.type T') = pure true)
    (k : ∀ h' g', KtsTurn (outer.filterMap (·.frame)) g g' → Fr g' L h' m → News g' L h' news → Below A₀ base outer g' → KF.In g' → Top p loose mean mg mb g' →
      wpAny (model prog w) ((A₀.deeper (envX name scope L a cd cl)).mark (some (.ref e))) (execs (b₀ :: suite) (envX name scope L a cd cl)) Q E { s' with heap := h' })
    (hk : scope.kind = .function := by rfl) (hx : (envX name scope L a cd cl).kindOf x = some .globalImplicit := by rfl) (hd : (x == ("__debug__" : PySem.Str)) = false := by decide)
    (hE : PassesOwnAt (model prog w) ((A₀.deeper (envX name scope L a cd cl)).mark (some (.ref e))) (A₀.deeper (envX name scope L a cd cl)) (envX name scope L a cd cl) E := by passes_own) :
    wpAny (model prog w) (A₀.deeper (envX name scope L a cd cl)) (noteFrame (.ref e) (envX name scope L a cd cl))
      (fun _ s₂ => wpAny (model prog w) (A₀.deeper (envX name scope L a cd cl)) (setFlight (.ref e) none) (fun _ s₃ =>
        wpAny (model prog w) (A₀.deeper (envX name scope L a cd cl)) (handleBy (.ref e) (envX name scope L a cd cl) (.ExceptHandler (some (.Name x np)) none (b₀ :: suite) pos :: rest)) Q E s₃) E s₂) E s' := by
  obtain ⟨⟨B, hB, hBG, _, hfl, _⟩, _⟩ := R
  have hf : (envX name scope L a cd cl).frame = some L := rfl
  refine wpAny_looks_onW (Around.frames_deeper K.stack) hf hfl fun h₄ held₄ sm₄ => ?_
  refine wpAny_landsW held₄ fun h₅ held sm₅' => ?_
  have sm₅ := hsm.trans (sm₄.trans sm₅')
  obtain ⟨g₅, T₅, F₅, K₅⟩ := ground_turn hf K F hBG held.1 sm₅
  have P₅ : TopRead p loose mg mb g₅ := topRead_of (TB.keeps K₅.stays)
  obtain ⟨ob, hob, hobc⟩ := held.there
  refine wpAny_handleBy_builtin (X := X) (T := T') (b := true) hexc hnt hsub (nameX_B F₅ (XB.keeps K₅.stays) P₅ ex hv hn' ⟨rfl, ⟨ob, hob, hobc⟩, ?_⟩ hk hx hd)
  refine lands_againW held fun h₆ hfl₆ sm₆ => ?_
  obtain ⟨g₆, T₆, F₆, K₆⟩ := ground_turn hf K F hBG hfl₆.1 (sm₅.trans sm₆)
  have Nl : News g₆ L h₆ news := fun q hq => by
    obtain ⟨n1, n2, n3⟩ := N q hq
    refine ⟨hfl₆.1 _ _ (hBG _ _ n1 fun hm => ?_), n2, T₆.none_ _ n3⟩
    rcases frame_mem hf hm with z | z
    · exact n2 z
    · obtain ⟨_, o, ho, _⟩ := K.frames.mem z
      rw [n3] at ho; cases ho
  exact wpAny_passesOwnAt hE (k h₆ g₆ T₆ F₆ Nl K₆ (XB.keeps K₆.stays) (TB.keeps K₆.stays))
end
/-- a callee that caught: what the caller knows stands -/
theorem turned_fr {h₀ h g' h' : Heap} {L L' : Addr} {m m' : PySem.Str → Option Value} (F : Fr h₀ L h m) (T : KtsTurn [L] h g') (F' : Fr g' L' h' m') : Fr h₀ L h' m := by
  obtain ⟨oL, es, ep, hL, hLd, hLk, hLf⟩ := F.ns
  obtain ⟨sl, hs⟩ := T.up hL
  refine ⟨⟨_, es, ep, F'.keep _ _ hs, hLd, hLk, hLf⟩, fun b o e => F'.keep b o (T.other b o (F.keep b o e) fun hm => ?_), F.above⟩
  rw [List.mem_singleton.mp hm, kts_self F] at e; cases e
theorem turned_news {h₀ h g' h' : Heap} {L L' : Addr} {m' : PySem.Str → Option Value} {news : List (Addr × Obj)} (N : News h₀ L h news) (T : KtsTurn [L] h g') (F' : Fr g' L' h' m') : News h₀ L h' news := fun p hp =>
  let ⟨a, b, c⟩ := N p hp
  ⟨F'.keep _ _ (T.other _ _ a fun hm => b (List.mem_singleton.mp hm)), b, c⟩
theorem turn_nil {g g' : Heap} {L : Addr} {h : Heap} {m : PySem.Str → Option Value} (T : KtsTurn [] g g') (F : Fr g' L h m) : Fr g L h m :=
  ⟨F.ns, fun b o e => F.keep b o (T.other b o e (by simp)), Nat.le_trans (Nat.le_of_eq T.size.symm) F.above⟩
theorem turn_nil_news {g g' : Heap} {L : Addr} {h : Heap} {news : List (Addr × Obj)} (T : KtsTurn [] g g') (N : News g' L h news) : News g L h news := fun p hp =>
  let ⟨a, b, c⟩ := N p hp
  ⟨a, b, by
    cases q : g.get? p.1 with
    | none => rfl
    | some o => rw [T.other _ o q (by simp)] at c; cases c⟩
section
variable {prog : Program} {w : World} {A : Around} {E : Value → Shared → Prop} {s : Shared} {env : Env} {target : Expr} {body : List Stmt} {Q : Flow → Shared → Prop}
/-- how a turn of a loop ends -/
def TurnEndK (s : Shared) (fp : List Addr) (h : Heap) (J : Heap → Prop) (Q : Flow → Shared → Prop) (f : Flow) (s₃ : Shared) : Prop :=
  match f with
  | .ret v => Q (.ret v) s₃
  | .brk => Q .next s₃
  | _ => ∃ h' tk', s₃ = { s with heap := h', toks := tk' } ∧ J h' ∧ ∀ b ∈ fp, ∀ o, h.get? b = some o → h'.get? b = some o
/-- a for over anything whose turns are known, by what holds of the heap -/
theorem loopK {I : Addr} {fp wr : List Addr} {n : Nat} {P Md : Nat → Value → Heap → Prop} {St : Nat → Heap → Prop} (W : KTurns prog w A target I fp wr n P Md St) (J : Nat → Heap → Prop)
    (stable : ∀ i h h', J i h → (∀ b o, b ∉ wr → h.get? b = some o → h'.get? b = some o) → J i h') (st0 : St 0 s.heap) (j0 : J 0 s.heap) {R : Result → Shared → Prop}
    (turn : ∀ i v h tk, i < n → P i v h → J i h → St (i + 1) h →
      wpAny (model prog w) A (assign target env v) (fun _ s₂ => wpAny (model prog w) A (execs body env) (TurnEndK s fp h (J (i + 1)) (fun f s' => R (.ok f) s')) (notedBy (model prog w) A env fun e s' => R (.error e) s') s₂) (notedBy (model prog w) A env fun e s' => R (.error e) s') { s with heap := h, toks := tk })
    (done : ∀ h tk, J n h → R (.ok .next) { s with heap := h, toks := tk }) :
    codeAny (model prog w) A (.forLoop target (.ref I) body [] env) R s := by
  refine codeAny_forLoop_any (fun k s' => ∃ h' tk i, s' = { s with heap := h', toks := tk } ∧ St i h' ∧ J i h' ∧ i ≤ n ∧ k = n + 1 - i) ?_ (n + 1) ⟨s.heap, s.toks, 0, rfl, st0, j0, Nat.zero_le _, rfl⟩
  rintro k s' ⟨h', tk, i, rfl, hst, hJ, hi, rfl⟩
  by_cases hlt : i < n
  · refine W.item i _ _ _ hlt hst fun v h₁ tk₁ hMd hk₁ => ?_
    refine W.go i v _ _ _ hMd fun h₂ hP hst₂ hk₂ => ?_
    have J₂ := stable i _ _ (stable i _ _ hJ hk₁) hk₂
    refine wpAny_mono (turn i v h₂ tk₁ hlt hP J₂ hst₂) (fun _ s₂ x => wpAny_mono x (fun f s₃ y => ?_) fun _ _ e => e) fun _ _ e => e
    cases f with
    | ret v => exact y
    | brk => exact y
    | cont =>
      obtain ⟨h₃, tk₃, rfl, hJ₃, hk⟩ := y
      exact ⟨n + 1 - (i + 1), by omega, h₃, tk₃, i + 1, rfl, W.frame _ _ _ hst₂ hk, hJ₃, hlt, rfl⟩
    | next =>
      obtain ⟨h₃, tk₃, rfl, hJ₃, hk⟩ := y
      exact ⟨n + 1 - (i + 1), by omega, h₃, tk₃, i + 1, rfl, W.frame _ _ _ hst₂ hk, hJ₃, hlt, rfl⟩
  · have hin : i = n := by omega
    subst hin
    exact W.done _ _ _ hst fun h₁ tk₁ hk₁ => wpAny_execs_nil (done h₁ tk₁ (stable i _ _ hJ hk₁))

def LoopKAt (prog : Program) (w : World) (A : Around) (env : Env) (target : Expr) (body : List Stmt) (Q : Flow → Shared → Prop) (E : Value → Shared → Prop) (it : Value) (s : Shared) : Prop :=
  ∃ (I : Addr) (fp wr : List Addr) (n : Nat) (P Md : Nat → Value → Heap → Prop) (St : Nat → Heap → Prop) (J : Nat → Heap → Prop), it = .ref I ∧ KTurns prog w A target I fp wr n P Md St ∧
    (∀ i h h', J i h → (∀ b o, b ∉ wr → h.get? b = some o → h'.get? b = some o) → J i h') ∧ St 0 s.heap ∧ J 0 s.heap ∧
    (∀ i v h tk, i < n → P i v h → J i h → St (i + 1) h →
      wpAny (model prog w) A (assign target env v) (fun _ s₂ => wpAny (model prog w) A (execs body env) (TurnEndK s fp h (J (i + 1)) Q) E s₂) E { s with heap := h, toks := tk }) ∧
    ∀ h tk, J n h → Q .next { s with heap := h, toks := tk }
theorem For_K {iter : Expr} {pos : Pos}
    (h : wpAny (model prog w) A (eval iter env) (fun xv s₁ => wpAny (model prog w) A (pyIter xv) (fun it s₂ => LoopKAt prog w A env target body Q E it s₂) E s₁) E s)
    (hs : ∀ x, foldedSetIterable iter env x = pure x := by intro _; rfl)
    (hE : PassesOwn (model prog w) A env E := by passes_own) :
    wpAny (model prog w) A (exec (.For target iter body [] pos) env) Q E s := by
  refine wpAny_For (wpAny_mono h (fun xv s₁ h₁ => wpAny_mono h₁ (fun it s₂ h₂ => ?_) fun _ _ e => e) fun _ _ e => e) hs
  obtain ⟨I, fp, wr, n, P, Md, St, J, rfl, W, stable, st0, j0, turn, done⟩ := h₂
  exact loopK (R := fun r s' => match r with | .ok f => Q f s' | .error e => cameBackBy (model prog w) A env E e s') W J stable st0 j0
    (fun i v h tk a b c d => wpAny_mono (turn i v h tk a b c d) (fun _ _ x => wpAny_passesOwn hE x) hE) done
/-- over a list that stands -/
theorem iterK {l : Addr} {vs : List Value} (hh : A.handled = none) (hl : s.heap.IsList l vs.toArray) (hnt : ∀ i (I : Addr) v (s : Shared) (Q : Unit → Shared → Prop) (E : Value → Shared → Prop), s.heap.IsListIter I l i → Q () s → wpAny (model prog w) A (letOwnedTupleGo target (.ref I) v) Q E s)
    (J : Nat → Heap → Prop) (hI : ∀ I, I = s.heap.objs.size → ∀ i h h', J i h → (∀ b o, b ≠ I → h.get? b = some o → h'.get? b = some o) → J i h') (j0 : J 0 s.heap)
    (turn : ∀ I i v h tk, I = s.heap.objs.size → vs[i]? = some v → J i h → h.IsListIter I l (i + 1) → h.IsList l vs.toArray →
      wpAny (model prog w) A (assign target env v) (fun _ s₂ => wpAny (model prog w) A (execs body env) (TurnEndK s [I, l] h (J (i + 1)) Q) E s₂) E { s with heap := h, toks := tk })
    (done : ∀ h tk, J vs.length h → Q .next { s with heap := h, toks := tk }) :
    wpAny (model prog w) A (pyIter (.ref l)) (fun it s₂ => LoopKAt prog w A env target body Q E it s₂) E s := by
  obtain ⟨ol, hol, hlr⟩ := id hl
  have hne : l ≠ s.heap.objs.size := Nat.ne_of_lt (Heap.lt_size hol)
  refine wpAny_pyIter_list hl ?_
  have W := Walks.list (prog := prog) (w := w) hh s.heap.objs.size l hne vs.toArray
  have hsz : vs.toArray.size = vs.length := by simp
  rw [hsz] at W
  have up : ∀ b o, b ≠ s.heap.objs.size → s.heap.get? b = some o → (s.heap.push { cls := .type "list_iterator", data := .fields #[.ref l, .int 0 0] }).get? b = some o := fun b o _ e => Heap.get?_push_of_some _ e
  refine ⟨_, _, _, vs.length, _, _, _, J, rfl, KTurns.ofWalks W (fun i v s Q E st q => hnt i _ v s Q E st.1 q), fun i h h' j k => hI _ rfl i h h' j fun b o nb e => k b o (by simpa using nb) e, ⟨⟨_, Heap.get?_push_size _ rfl, rfl, rfl⟩, hl.at fun o e => Heap.get?_push_of_some _ e⟩, hI _ rfl 0 _ _ j0 up, ?_, done⟩
  intro i v h tk hi hP hJ hst
  exact turn _ i v h tk rfl (by simpa using hP) hJ hst.1 hst.2
theorem go_name {x : PySem.Str} {px : Pos} {I : Addr} {v : Value} {Q' : Unit → Shared → Prop} {s' : Shared} {E' : Value → Shared → Prop} (h : Q' () s') : wpAny (model prog w) A (letOwnedTupleGo (.Name x px) (.ref I) v) Q' E' s' := by
  unfold letOwnedTupleGo
  exact wpAny_pure h
end

set_option maxHeartbeats 4000000 in
theorem set_xp {w : World} {A A₀ : Around} {env : Env} {outer : List Env} {base h₀ : Heap} {L : Addr} {m : PySem.Str → Option Value} {mean : ExcName → Option Value} {mg mb : PySem.Str → Option Value} {s : Shared} {Q E : Value → Shared → Prop}
    (C : Cx w 30 160 A A₀ env outer base h₀ L m mean mg mb s) {x dx rt tl : Addr} {c sh off : Int} {t1 t2 t3 : Tok} (hx : s.heap.get? x = some (vecObj dx c t1 sh t2 rt tl off t3)) (hdx : s.heap.get? dx = some (dictOf [] 0)) {k : Int} {tw : Tok} {val : Value} (hk : 0 ≤ k) (h1 : c < k) (hc : 0 ≤ c) (hb2 : k ≤ 100000)
    (he : RaiseOK base (env :: outer) s E) :
    wpAny (model PySem.Challenge.rw_im0011_01.row.prog w) A (call (.ref 190) [.ref x, .int k tw, val]) Q E s := by
  have : (PySem.Challenge.rw_im0011_01, Mine.kx.heap_1) = (PySem.Challenge.rw_im0011_01, Mine.kx.heap_1) := by k_fill; rfl
  obtain ⟨B, F, X, T, fr, hf, hke, hh, hd, hu⟩ := C
  obtain ⟨hdl, dp, frs, gd, un⟩ := A
  dsimp only at fr hh hd hu
  subst hh fr
  refine wpAny_call ?_
  k_dflt walk_at "menter"
  rename_i g' L' h1 Ug Eg F' N' B' X'' T'
  replace Ug := ug0 Ug
  replace hx := Ug _ _ hx
  replace hdx := Ug _ _ hdx
  have he1 : (k == c) = false := by rw [beq_eq_false_iff_ne]; omega
  have hd1 : decide (k = c) = false := by rw [decide_eq_false_iff_not]; omega
  have kd := ktsDicts_nil (g := g')
  walk_at "msteps"
  all_goals rename RaisedS _ _ _ _ _ _ _ _ _ => R9
  all_goals rename Heap.UpToSlots _ _ => U9
  all_goals exact he _ _ _ _ _ (raisedS_up Ug R9) (upSlots Ug U9)
set_option maxHeartbeats 4000000 in
theorem set_xn {w : World} {A A₀ : Around} {env : Env} {outer : List Env} {base h₀ : Heap} {L : Addr} {m : PySem.Str → Option Value} {mean : ExcName → Option Value} {mg mb : PySem.Str → Option Value} {s : Shared} {Q E : Value → Shared → Prop}
    (C : Cx w 30 160 A A₀ env outer base h₀ L m mean mg mb s) {x dx rt tl : Addr} {c sh off : Int} {t1 t2 t3 : Tok} (hx : s.heap.get? x = some (vecObj dx c t1 sh t2 rt tl off t3)) (hdx : s.heap.get? dx = some (dictOf [] 0)) {k : Int} {tw : Tok} {val : Value} (hk : k < 0) (h1 : k + c < 0) (hc : 0 ≤ c) (hb1 : -100000 ≤ k + c)
    (he : RaiseOK base (env :: outer) s E) :
    wpAny (model PySem.Challenge.rw_im0011_01.row.prog w) A (call (.ref 190) [.ref x, .int k tw, val]) Q E s := by
  have : (PySem.Challenge.rw_im0011_01, Mine.kx.heap_1) = (PySem.Challenge.rw_im0011_01, Mine.kx.heap_1) := by k_fill; rfl
  obtain ⟨B, F, X, T, fr, hf, hke, hh, hd, hu⟩ := C
  obtain ⟨hdl, dp, frs, gd, un⟩ := A
  dsimp only at fr hh hd hu
  subst hh fr
  refine wpAny_call ?_
  k_dflt walk_at "menter"
  rename_i g' L' h1 Ug Eg F' N' B' X'' T'
  replace Ug := ug0 Ug
  replace hx := Ug _ _ hx
  replace hdx := Ug _ _ hdx
  have he1 : (k + c == c) = false := by rw [beq_eq_false_iff_ne]; omega
  have hd1 : decide (k + c = c) = false := by rw [decide_eq_false_iff_not]; omega
  have kd := ktsDicts_nil (g := g')
  walk_at "msteps"
  all_goals rename RaisedS _ _ _ _ _ _ _ _ _ => R9
  all_goals rename Heap.UpToSlots _ _ => U9
  all_goals exact he _ _ _ _ _ (raisedS_up Ug R9) (upSlots Ug U9)
/-- set beyond the ends: IndexError -/
theorem set_x {w : World} {A A₀ : Around} {env : Env} {outer : List Env} {base h₀ : Heap} {L : Addr} {m : PySem.Str → Option Value} {mean : ExcName → Option Value} {mg mb : PySem.Str → Option Value} {s : Shared} {Q E : Value → Shared → Prop}
    (C : Cx w 30 160 A A₀ env outer base h₀ L m mean mg mb s) {x : Addr} {xs : List Value} {P : Kn} {k : Int} {tw : Tok} {val : Value} (hP : ∀ a o, P a o → s.heap.get? a = some o) (hV : Vec P x xs) (hl : xs.length ≤ 20000) (hk : (k < 0 ∧ k + xs.length < 0) ∨ (xs.length : Int) < k) (hb1 : -70000 ≤ k) (hb2 : k ≤ 70000)
    (he : RaiseOK base (env :: outer) s E) :
    wpAny (model PySem.Challenge.rw_im0011_01.row.prog w) A (call (.ref 190) [.ref x, .int k tw, val]) Q E s := by
  obtain ⟨dx, c, t1, sh, t2, rt, tl, off, t3, ls, ys, zs, hx, hdx, hp, ⟨n2, ht⟩, rfl⟩ := hV
  rw [List.length_append] at hl hk
  have h1 := hp.hlen
  rcases hk with ⟨a, b⟩ | b
  · exact set_xn C (hP _ _ hx) (hP _ _ hdx) a (by omega) (by omega) (by omega) he
  · exact set_xp C (hP _ _ hx) (hP _ _ hdx) (by omega) (by omega) (by omega) (by omega) he

section
variable {prog : Program} {w : World} {A : Around} {E : Value → Shared → Prop} {s : Shared} {h₀ : Heap} {L D b : Addr} {m : PySem.Str → Option Value} {news : List (Addr × Obj)} {g : Obj → List (Addr × Obj)} {ys its : List Value} {n n2 : Nat}
theorem fills_iadd : fillsInplaceSlot (.type "list") "add" (Operator.Add == .Add) = pure false := by
  unfold fillsInplaceSlot
  show (typeLookup (.type "list") (dunderI "add") >>= fun fi => pure (fi.isSome && !isSeqSlot fi)) = pure false
  rw [PySem.F.slot_list_iadd.lookup]
  kernel_rfl
theorem seq_iadd : seqSlot? (.type "list") (dunderI "add") = pure (some (.builtin "list.__iadd__")) := PySem.seqSlot_of PySem.F.slot_list_iadd.lookup (by decide +kernel)
theorem iadd_list {Q : Value → Shared → Prop} (F : Fr h₀ L s.heap m) (N : News h₀ L s.heap news) (hb : s.heap.get? b = some (listOf its.toArray n2)) (hsz : ys.length + its.length ≤ 1000000) (U : UpdF D (listOf ys.toArray n) news g)
    (h : ∀ h' n', Fr h₀ L h' m → News h₀ L h' (g (listOf (ys ++ its).toArray n')) → Q (.ref D) { s with heap := h' }) : wpAny (model prog w) A (inplaceOp .Add (.ref D) (.ref b)) Q E s := by
  obtain ⟨own, rest, rfl, hg, h1, h2⟩ := U.split
  have hm := N _ (List.mem_append_right own (List.Mem.head rest))
  have hsz' : ys.toArray.size + its.toArray.size ≤ sizeLine := by rw [List.size_toArray, List.size_toArray, PySem.sizeLine_eq]; omega
  have ta : s.TypeIs (.ref D) "list" := ⟨_, hm.1, rfl⟩
  have tb : s.TypeIs (.ref b) "list" := ⟨_, hb, rfl⟩
  unfold inplaceOp
  refine wpAny_holding ?_
  refine wpAny_bind (wpAny_typeOf ta (wpAny_bind (wpAny_of_eq fills_iadd ?_)))
  show wpAny _ A (if false = true then _ else _) Q E s
  rw [if_neg Bool.false_ne_true]
  refine wpAny_bind (wpAny_binaryOp1_none (nm := "add") ta tb noFill_list_add ?_)
  refine wpAny_bind (wpAny_of_eq seq_iadd ?_)
  refine wpAny_bind (wpAny_rule ?_)
  refine call_meets PySem.F.slot_list_iadd ta PySem.F.entry_list_iadd (PySem.F.args_list_iadd_2 _ _) (AutoSeq1.list___iadd___list_list_0 D ys.toArray n b its.toArray n2 (extend_door hsz') (Nat.le_trans (Nat.le_add_right _ _) hsz')) ⟨hm.1, hb, ?_⟩
  have e : ys.toArray ++ its.toArray = (ys ++ its).toArray := by simp
  have ho' : (s.heap.update D (Obj.mapSeq fun x => x ++ its.toArray)).get? D = some (listOf (ys ++ its).toArray (if (ys.toArray ++ its.toArray).size == ys.toArray.size then n else n + 1)) := by
    rw [Heap.get?_update_self _ hm.1 (by rw [mapSeq_app]; rfl), mapSeq_app, e]
  show Q _ _
  refine h _ (if (ys.toArray ++ its.toArray).size == ys.toArray.size then n else n + 1) (F.change (Heap.SameBut.update ..) hm.2.1 hm.2.2) ?_
  rw [hg]
  exact N.setIn h1 h2 (Heap.SameBut.update ..) ho'
end
theorem IntsAre.set' : ∀ {vs : List Value} {ns : List Int}, IntsAre vs ns → ∀ (i : Nat) (v : Int) (t : Tok), IntsAre (vs.set i (.int v t)) (ns.set i v)
  | _, _, .nil, _, _, _ => .nil
  | _, _, .cons _ _ h, 0, v, t => .cons v t h
  | _, _, .cons n u h, i + 1, v, t => .cons n u (IntsAre.set' h i v t)
/-- the table's deeds upon a list -/
def putAll (ns : List Int) (c : List (Int × Int)) : List Int := c.foldl (fun l p => l.set p.1.toNat p.2) ns
theorem putAll_len : ∀ (c : List (Int × Int)) (ns : List Int), (putAll ns c).length = ns.length
  | [], _ => rfl
  | p :: c, ns => by
    show (putAll (ns.set p.1.toNat p.2) c).length = _
    rw [putAll_len c, List.length_set]
theorem putAll_take {c : List (Int × Int)} {ns : List Int} {i : Nat} {p : Int × Int} (h : c[i]? = some p) : (putAll ns (c.take i)).set p.1.toNat p.2 = putAll ns (c.take (i + 1)) := by
  unfold putAll
  rw [List.take_add_one, h, List.foldl_append]
  rfl
def runOf (fns : List Int) (k : Int) (c : List (Int × Int)) : List Int := putAll (((fns ++ fns).take k.toNat) ++ List.replicate (k.toNat - ((fns ++ fns).take k.toNat).length) 0) c
theorem flat_rep {α : Type} (n : Nat) (v : α) : (List.replicate n [v]).flatten = List.replicate n v := by
  induction n with
  | zero => rfl
  | succ n ih => rw [List.replicate_succ, List.flatten_cons, ih]; rfl
section
variable {prog : Program} {w : World} {A : Around} {E : Value → Shared → Prop} {s : Shared} {env : Env} {target : Expr} {body : List Stmt} {Q : Flow → Shared → Prop}
theorem iterItemsK {elts : List Expr} {kk : Nat} {pos : Pos} {d vw : Addr} {c : List (Int × Int)} (hh : A.handled = none) (hvw : s.heap.IsItemsView vw d) (htb : IntTab prog w s.heap d (kdfD c)) (J : Nat → Heap → Prop)
    (hI : ∀ I, I = s.heap.objs.size → ∀ i h h', J i h → (∀ b o, b ≠ I → h.get? b = some o → h'.get? b = some o) → J i h') (j0 : J 0 s.heap)
    (turn : ∀ I i T k v t u h tk, I = s.heap.objs.size → c[i]? = some (k, v) → IsTup h T #[.int k t, .int v u] → (∃ oI, h.get? I = some oI) → (∃ od, h.get? d = some od) → J i h →
      wpAny (model prog w) A (assign (.Tuple elts kk pos) env (.ref T)) (fun _ s₂ => wpAny (model prog w) A (execs body env) (TurnEndK s [I, d] h (J (i + 1)) Q) E s₂) E { s with heap := h, toks := tk })
    (done : ∀ h tk, J c.length h → Q .next { s with heap := h, toks := tk }) :
    wpAny (model prog w) A (pyIter (.ref vw)) (fun it s₂ => LoopKAt prog w A env (.Tuple elts kk pos) body Q E it s₂) E s := by
  obtain ⟨_, kvs, hdo, hf⟩ := htb
  obtain ⟨ep, hat⟩ := hdo.dictAt
  have hlen : kvs.length = c.length := by rw [← hf.length, kdfD_length]
  have hne : d ≠ s.heap.objs.size := Nat.ne_of_lt hat.lt_size
  refine wpAny_pyIter_items hvw hat ?_
  refine ⟨_, _, _, kvs.length, _, _, _, J, rfl, kti_itemsTurns (knd := intKind prog w) hh s.heap.objs.size d hne kvs ep, fun i h h' j k => hI _ rfl i h h' j fun b o nb e => k b o (by simpa using nb) e,
    ⟨⟨.none, .none, Heap.get?_push_size _ rfl⟩, hat.push _⟩, hI _ rfl 0 _ _ j0 (fun b o _ e => Heap.get?_push_of_some _ e), ?_, fun h tk j => done h tk (hlen ▸ j)⟩
  rintro i v h tk hi ⟨T, key, k, x, rfl, hx, hkey, hT⟩ hJ ⟨⟨ok, ov, hit⟩, hdd⟩
  obtain ⟨dv, hD, hfl⟩ := hf.at hx
  have hc : ∃ v, c[i]? = some (k, v) ∧ dv = PyData.int v := by
    unfold kdfD at hD
    rw [List.getElem?_map] at hD
    cases q : c[i]? with
    | none => rw [q] at hD; cases hD
    | some p =>
      rw [q] at hD
      have hD' : (PyData.int p.1, PyData.int p.2) = (PyData.int k, dv) := Option.some.inj hD
      injection hD' with h1 h2
      injection h1 with h1
      exact ⟨p.2, by rw [← h1], h2.symm⟩
  obtain ⟨v, hv, rfl⟩ := hc
  obtain ⟨u, rfl⟩ := PyProof.V.Flat.int_inv hfl
  obtain ⟨t, rfl⟩ : ∃ t, key = .int k t := by
    cases key <;> simp [intKind, Value.isInt] at hkey
    rename_i a t
    exact ⟨t, by rw [hkey]⟩
  obtain ⟨od, _, hod, _⟩ := hdd
  exact turn _ i T k v t u h tk rfl hv hT ⟨_, hit⟩ ⟨od, hod⟩ hJ
end
section
variable {prog : Program} {w : World} {A : Around} {E : Value → Shared → Prop} {s : Shared} {h₀ : Heap} {L d : Addr} {m : PySem.Str → Option Value} {news : List (Addr × Obj)} {c : List (Int × Int)}
abbrev viewObj (d : Addr) : Obj := { cls := .type "dict_items", data := .fields #[.ref d] }
theorem items_view {Q : Value → Shared → Prop} (F : Fr h₀ L s.heap m) (N : News h₀ L s.heap news) (htb : IntTab prog w s.heap d (kdfD c))
    (h : ∀ D h', Fr h₀ L h' m → News h₀ L h' ((D, viewObj d) :: news) → Q (.ref D) { s with heap := h' }) :
    wpAny (model prog w) A (call (.builtin "dict.items") [.ref d]) Q E s := by
  obtain ⟨lo, kvs, hD, hf⟩ := htb
  exact call_meetsIn PySem.F.slot_dict_items hD.typeIs PySem.F.entry_dict_items (PySem.F.args_dict_items_1 _) (meets_dict_items (intKind prog w) d lo) ⟨⟨kvs, hD⟩, h _ _ (F.push _) (News.push F N _)⟩
end
theorem news1 {h₀ h : Heap} {L a : Addr} {o : Obj} (x : h.get? a = some o ∧ a ≠ L ∧ h₀.get? a = none) : News h₀ L h [(a, o)] := fun p hp => by
  rw [List.mem_singleton.mp hp]; exact x
theorem fr_same {g h : Heap} {L : Addr} {m : PySem.Str → Option Value} {x : PySem.Str} {a : Option Value} (F : Fr g L h m) (e : m x = a) : ∃ u : PySem.Str → Option Value, Fr g L h (fun y => if y = x then a else u y) := ⟨m, map_same e ▸ F⟩
theorem tab_at {prog : Program} {w : World} {h : Heap} {d : Addr} {D : List (PyData × PyData)} (T : IntTab prog w h d D) : ∃ o, h.get? d = some o := let ⟨_, _, ⟨o, _, _, e, _⟩, _⟩ := T; ⟨o, e⟩
set_option maxHeartbeats 4000000 in
theorem run_c {w : World} {A A₀ : Around} {env : Env} {outer : List Env} {base h₀ : Heap} {L : Addr} {m : PySem.Str → Option Value} {mean : ExcName → Option Value} {mg mb : PySem.Str → Option Value} {s : Shared} {Q E : Value → Shared → Prop}
    (C : Cx w 20 100 A A₀ env outer base h₀ L m mean mg mb s) {fl d : Addr} {fvs : List Value} {fns : List Int} {k : Int} {tk : Tok} {c : List (Int × Int)} (hli : s.heap.IsList fl fvs.toArray) (hi : IntsAre fvs fns) (hfl : fvs.length ≤ 2000) (htb : IntTab PySem.Challenge.rw_im0011_01.row.prog w s.heap d (kdfD c)) (hk : 0 ≤ k) (hk2 : k ≤ 19000) (hkeys : ∀ p ∈ c, 0 ≤ p.1 ∧ p.1 < k)
    (hret : ∀ r vals n h' tk, Ext s.heap h' → NewIn s.heap h' [(r, listOf vals.toArray n)] → IntsAre vals (runOf fns k c) → Q (.ref r) { s with heap := h', toks := tk }) :
    wpAny (model PySem.Challenge.rw_im0011_01.row.prog w) A (call (.ref 348) [.ref fl, .int k tk, .ref d]) Q E s := by
  have : (PySem.Challenge.rw_im0011_01, Mine.kx.heap_1) = (PySem.Challenge.rw_im0011_01, Mine.kx.heap_1) := by k_fill; rfl
  obtain ⟨B, F, X, T, fr, hf, hke, hh, hd, hu⟩ := C
  obtain ⟨hdl, dp, frs, gd, un⟩ := A
  dsimp only at fr hh hd hu
  subst hh fr
  refine wpAny_call ?_
  k_dflt walk_at "menter"
  rename_i g' L' h1 Ug Eg F' N' B' X'' T'
  replace Ug := ug0 Ug
  replace hli := listExt Ug hli
  replace htb := TabAt.keep htb Ug
  have hlr := IntsAre.length hi
  walk_at "msteps"
  rename Fr _ _ _ _ => F9
  rename News _ _ _ _ => N9
  rename_i D1 ws1 hh1 Fa lx hI1 l2 hh2 Fb lz hh3 Fc D2 hh4 Fd i1 n1 s1 e1 e2 e3 l3
  have hw1 := IntsAre.length Fa
  rw [List.length_take, List.length_append] at hw1
  refine' iadd_list (ys := ws1) F9 N9 (N9 _ (.head _)).1 ?z ?U ?_
  case U => k_updF
  case z => rw [flat_rep, List.length_replicate]; omega
  intro h5 n5 F5 N5
  clear F9 N9
  have hm5 := N5 _ (.tail _ (.tail _ (.head _)))
  have hz := Fa.append i1
  rw [flat_rep _ (0 : Int)] at hz
  have ek5 : (k - ↑((fns ++ fns).take k.toNat).length).toNat = k.toNat - ((fns ++ fns).take k.toNat).length := by omega
  obtain ⟨run0, N6, hrun0⟩ : ∃ run0, News g' L' h5 [(D1, listOf run0.toArray n5)] ∧ IntsAre run0 ((fns ++ fns).take k.toNat ++ List.replicate (k - ↑((fns ++ fns).take k.toNat).length).toNat 0) := ⟨_, news1 hm5, hz⟩
  rw [ek5] at hrun0
  have hr0 : run0.length = k.toNat := by
    have := IntsAre.length hrun0
    simp only [List.length_append, List.length_replicate, List.length_take] at this
    omega
  clear N5 hz i1 s1 e1 e2 e3 Fa Fc hh3 hm5
  walk_at "msteps"
  refine For_K ?_
  walk_at "msteps"
  rename Fr _ _ _ _ => F9
  rename News _ _ _ _ => N9
  rename TabAt _ _ _ _ _ => htb
  refine items_view F9 N9 (htb.keep F9.keep) ?_
  clear F9 N9
  intro V h6 F9 N9
  refine iterItemsK rfl ⟨_, (N9 _ (.head _)).1, rfl, rfl⟩ (htb.keep F9.keep) (fun i h => ∃ (u : PySem.Str → Option Value) (vals : List Value) (n' : Nat), Fr g' L' h (fun y => if y = "run" then some (.ref D1) else u y) ∧ News g' L' h [(D1, listOf vals.toArray n')] ∧ IntsAre vals (putAll ((fns ++ fns).take k.toNat ++ List.replicate (k.toNat - ((fns ++ fns).take k.toNat).length) 0) (c.take i)))
    ?_ ⟨_, run0, n5, F9, fun p hp => N9 _ (.tail _ hp), hrun0⟩ ?_ ?_
  · rintro I rfl i h h' ⟨u, vals, n', Fj, Nj, hj⟩ hk
    have hI := next_is_new F9
    refine ⟨u, vals, n', ⟨Fj.ns.at' fun o e => hk _ _ (Nat.ne_of_lt F9.ns.lt) e, fun b o e => hk b o (fun q => by rw [q, hI] at e; cases e) (Fj.keep b o e), Fj.above⟩, fun p hp => ?_, hj⟩
    rw [List.mem_singleton.mp hp]
    obtain ⟨z1, z2⟩ := Nj _ (.head _)
    exact ⟨hk _ _ (Nat.ne_of_lt (Heap.lt_size (N9 _ (.tail _ (.head _))).1)) z1, z2⟩
  · rintro I i Tt k' v' t u h tk rfl hc hT ⟨oI, hoI⟩ ⟨od, hod⟩ ⟨u', vals, n', Fj, Nj, hj⟩
    obtain ⟨hk0, hk1⟩ := hkeys _ (List.mem_of_getElem? hc)
    dsimp only at hk0 hk1
    have hvl : vals.length = k.toNat := by
      have := IntsAre.length hj
      rw [putAll_len] at this
      rw [this, ← IntsAre.length hrun0, hr0]
    have hIf := next_is_new F9
    have hIL := Nat.ne_of_gt F9.ns.lt
    obtain ⟨odd, hodd⟩ := tab_at htb
    obtain ⟨I, hI⟩ : ∃ I, I = h6.objs.size := ⟨_, rfl⟩
    rw [show (Shared.heap ⟨h6, s.gens, s.drawn, _, s.os⟩).objs.size = I from hI.symm]
    rw [← hI] at hIf hIL
    replace hoI : h.get? I = some oI := by rw [hI]; exact hoI
    have N1 : News g' L' h [(I, oI), (D1, listOf vals.toArray n')] := fun p hp => by
      rcases List.mem_cons.mp hp with rfl | hp
      · exact ⟨hoI, hIL, hIf⟩
      · exact Nj p hp
    have hID : @Ne Nat I D1 := fun e => by
      have := (N9 _ (.tail _ (.head _))).1
      rw [← e, hI] at this
      exact absurd (Heap.lt_size this) (Nat.lt_irrefl _)
    have hd2 := Fj.keep _ _ hodd
    clear F9 N9 Nj
    walk_at "msteps"
    rename Fr _ _ _ _ => F9
    rename News _ _ _ _ => N9
    obtain ⟨u9, F9⟩ := fr_same (x := "run") F9 rfl
    refine ⟨_, _, rfl, ⟨u9, _, _, F9, fun p hp => N9 _ (.tail _ hp), ?_⟩, fun b hb o e => ?_⟩
    · rw [← putAll_take hc]
      exact IntsAre.set' hj _ _ _
    · rcases List.mem_cons.mp hb with rfl | hb
      · rw [hoI] at e
        cases e
        exact (N9 _ (.head _)).1
      · have hb := List.mem_singleton.mp hb
        subst hb
        rw [hd2] at e
        cases e
        exact F9.keep _ _ hodd
  · rintro h tk ⟨u, vals, n', Fj, Nj, hj⟩
    rw [List.take_length] at hj
    clear F9 N9
    walk_at "msteps"
    rename Fr _ _ _ _ => F9
    rename News _ _ _ _ => N9
    show Q _ _
    exact hret _ vals _ _ _ (extOf Ug F9) (newInOf Ug N9) hj

theorem tab_turn {prog : Program} {w : World} {fs : List Addr} {g g' : Heap} {d : Addr} {D : List (PyData × PyData)} (T : KtsTurn fs g g') (hd : d ∉ fs) (tb : IntTab prog w g d D) : IntTab prog w g' d D := by
  obtain ⟨a, kvs, ⟨o, es, ep, e, r⟩, f⟩ := tb
  exact ⟨a, kvs, ⟨o, es, ep, T.other _ _ e hd, r⟩, f⟩
theorem w31_1 : True := by (k_with "mcatch" => (refine' catchX (x := "IndexError") (T' := "IndexError") (KF := Mine.kx.heap_1 _) ?zzR ?zzF ?zzN ?zzK ?zzU ?zzXB ?zzTB ?zzex PyProof.Rows.Boot.«IndexError» ?zzhn PySem.F.isExc_IndexError PySem.F.notTuple_IndexError ?zzhs ?_; (case zzR => assumption); (case zzF => k_asm); (case zzN => k_asm); (case zzK => k_asm); (case zzU => assumption); (case zzXB => assumption); (case zzTB => assumption); (case zzex => k_is); (case zzhn => decide); (case zzhs => kts_sub); intro _ _ _ _ _ _ _ _)); trivial
theorem o31_2 : True := by (k_with "call ref" => (k_here; (with_reducible show wpAny _ _ (call (Value.ref 85) _) _ _ _); k_dflt (refine' get_c ?zzkC ?zzkP ?zzkV ?zzkl ?zzk1 ?zzk2 ?_; (case zzkC => walk_at "mcx"); (case zzkV => assumption); (case zzkP => walk_at "hP"); (case zzkl => omega); (case zzk1 => assumption); (case zzk2 => assumption); walk_at "aftE"))); trivial
theorem o31_3 : True := by (k_with "call ref" => (k_here; (with_reducible show wpAny _ _ (call (Value.ref 85) _) _ _ _); k_dflt (refine' get_x ?zzkC ?zzkP ?zzkV ?zzkl ?zzk1 ?zzk2 ?zzk3 ?_; (case zzkC => walk_at "mcx"); (case zzkV => assumption); (case zzkP => walk_at "hP"); (case zzkl => omega); (case zzk1 => assumption); (case zzk2 => omega); (case zzk3 => omega); (intro _ _ _ _ _ _ _); (try dsimp only); walk_at "mcatch"))); trivial
theorem o31_4 : True := by (k_with "call ref" => (k_here; (with_reducible show wpAny _ _ (call (Value.ref 78) _) _ _ _); k_dflt (refine' len_w ?zzkC ?zzkx ?zzkd ?_; (case zzkC => walk_at "mcx"); (case zzkx => walk_at "hx"); (case zzkd => walk_at "hx"); intro zzh zztk zzt zzext; (have zzF := frExt (by k_asm) zzext); (have zzN := newsExt (tl := []) (by k_asm) (by k_asm) zzext (fun _ h => nomatch h)); (simp only [List.nil_append] at zzN); clear zzext; revert zzh zztk zzt zzF zzN; intro _ _ _ _ _; (try k_sweep); (try dsimp only [W.LenBack]); (try refine ⟨⟨by omega, by omega⟩, ?_⟩)))); trivial
theorem o31_5 : True := by (k_with "mstepsA" => repeat' (first | (k_unfold; (try dsimp only)) | ((fail_if_success (with_reducible show wpAny _ _ (exec (Stmt.For _ _ _ _ _) _) _ _ _)); (fail_if_success (with_reducible show wpAny _ _ (binaryOp Operator.Add (Value.ref _) (Value.ref _)) _ _ _)); first | walk1 | (dsimp only; walk1) | (leave1; (try dsimp only))))); trivial
theorem list_at {h : Heap} {a : Addr} {vs : List Value} {n : Nat} (e : h.get? a = some (listOf vs.toArray n)) : h.IsList a vs.toArray := ⟨_, e, rfl, n, rfl⟩
theorem list_keep {g h : Heap} {a : Addr} {vs : List Value} (e : g.IsList a vs.toArray) (k : ∀ b o, g.get? b = some o → h.get? b = some o) : h.IsList a vs.toArray := let ⟨o, x, r⟩ := e; ⟨o, k _ _ x, r⟩
theorem fr_same4 {g h : Heap} {L : Addr} {m : PySem.Str → Option Value} {x1 x2 x3 x4 : PySem.Str} {a1 a2 a3 a4 : Option Value} (F : Fr g L h m) (e1 : m x1 = a1) (e2 : m x2 = a2) (e3 : m x3 = a3) (e4 : m x4 = a4) :
    ∃ u : PySem.Str → Option Value, Fr g L h (fun y => if y = x1 then a1 else if y = x2 then a2 else if y = x3 then a3 else if y = x4 then a4 else u y) := by
  have e : m = fun y => if y = x1 then a1 else if y = x2 then a2 else if y = x3 then a3 else if y = x4 then a4 else m y := by
    funext y
    split
    · next h => rw [h, e1]
    split
    · next h => rw [h, e2]
    split
    · next h => rw [h, e3]
    split
    · next h => rw [h, e4]
    · rfl
  exact ⟨m, e ▸ F⟩
theorem add_listsD {prog : Program} {w : World} {A : Around} {E : Value → Shared → Prop} {s : Shared} {h₀ : Heap} {L : Addr} {m : PySem.Str → Option Value} {news : List (Addr × Obj)} {l b : Addr} {vs ws : List Value} {Q : Value → Shared → Prop} (F : Fr h₀ L s.heap m) (N : News h₀ L s.heap news) (hl : s.heap.IsList l vs.toArray) (hb : s.heap.IsList b ws.toArray)
    (hsz : vs.length + ws.length ≤ 1000000) (h : ∀ D h', Fr h₀ L h' m → News h₀ L h' ((D, listOf (vs ++ ws).toArray 0) :: news) → Q (.ref D) { s with heap := h' }) :
    wpAny (model prog w) A (binaryOp .Add (.ref l) (.ref b)) Q E s := add_lists (hsz := by rw [PySem.sizeLine_eq]; omega) F N hl hb fun h' F' N' => h _ h' F' N'
theorem w31_6 : True := by (k_with "exec Try" => (k_here; refine wpAny_Try_except ?_)); trivial
theorem o31_7 : True := by (k_with "call builtin:dict.get" => (k_here; (with_reducible show wpAny _ _ (call (Value.builtin "dict.get") [Value.ref _, Value.int _ _, Value.int _ _]) _ _ _); k_dflt (refine' kdf_get2 ?zzT ?_; (case zzT => first | assumption | exact TabAt.keep (by assumption) (Fr.keep (by k_asm))); k_whole); intro _)); trivial
theorem turn_fin {s : Shared} {I D : Addr} {oI oD : Obj} {h h' : Heap} {tk : Nat} {g : Heap} {L : Addr} {news : List (Addr × Obj)} {J : Heap → Prop} {Q : Flow → Shared → Prop} (h1 : h.get? I = some oI) (h2 : h.get? D = some oD) (N : News g L h' news) (m1 : (I, oI) ∈ news) (m2 : (D, oD) ∈ news) (j : J h') :
    TurnEndK s [I, D] h J Q .next { s with heap := h', toks := tk } := by
  refine ⟨h', tk, rfl, j, fun b hb o e => ?_⟩
  rcases List.mem_cons.mp hb with rfl | hb
  · rw [h1] at e; cases e; exact (N _ m1).1
  · have hb := List.mem_singleton.mp hb
    subst hb
    rw [h2] at e; cases e; exact (N _ m2).1
set_option maxHeartbeats 4000000 in
theorem holds_c {w : World} {A A₀ : Around} {env : Env} {base h₀ : Heap} {L : Addr} {m : PySem.Str → Option Value} {mean : ExcName → Option Value} {mg mb : PySem.Str → Option Value} {s : Shared} {Q E : Value → Shared → Prop}
    (C : Cx w 60 300 A A₀ env [] base h₀ L m mean mg mb s) (XB : (Mine.kx.heap_1 w.params).In base) (TB : Top Mine.pvw lo mean mg mb base) {news : List (Addr × Obj)} (N₀ : News h₀ L s.heap news)
    {x d al : Addr} {xs avs : List Value} {ns as : List Int} {P : Kn} {size cnt : Int} {ts tc : Tok} {c : List (Int × Int)} (hP : ∀ a o, P a o → s.heap.get? a = some o) (hPL : ∀ a o, P a o → a ≠ L) (hV : Vec P x xs) (hi : IntsAre xs ns) (hl : xs.length ≤ 19000) (hcnt : cnt = xs.length) (hsz : 0 ≤ size) (hsz2 : size ≤ 1100)
    (htb : IntTab PySem.Challenge.rw_im0011_01.row.prog w s.heap d (kdfD c)) (hdL : d ≠ L) (hal : s.heap.IsList al avs.toArray) (hai : IntsAre avs as) (hal2 : avs.length ≤ 100) (hab : ∀ a ∈ as, -60000 ≤ a ∧ a ≤ 60000)
    (hlaw : ∀ (i : Nat) v, ns[i]? = some v → v = kdfLook c i (1000 + Int.fmod i (if 1 > size then 1 else size)))
    (hret : ∀ h' tk, Fr h₀ L h' m → News h₀ L h' news → Q (.bool true) { s with heap := h', toks := tk }) :
    wpAny (model PySem.Challenge.rw_im0011_01.row.prog w) A (call (.ref 341) [.ref x, .int size ts, .int cnt tc, .ref d, .ref al]) Q E s := by
  have : (PySem.Challenge.rw_im0011_01, Mine.kx.heap_1) = (PySem.Challenge.rw_im0011_01, Mine.kx.heap_1) := by k_fill; rfl
  have hV0 := hV
  obtain ⟨dx, c', t1, sh, t2, rt, tl, off, t3, ls, ys, zs, hx, hdx, hp, ht, hxs⟩ := hV
  have hcl := hp.hlen
  have hxL := hPL _ _ hx
  have hdxL := hPL _ _ hdx
  have hxl := congrArg List.length hxs
  rw [List.length_append] at hxl
  replace hx := hP _ _ hx
  replace hdx := hP _ _ hdx
  obtain ⟨B, F, X, T, fr, hf, hke, hh, hd, hu⟩ := C
  obtain ⟨hdl, dp, frs, gd, un⟩ := A
  dsimp only at fr hh hd hu
  subst hh fr
  refine wpAny_call ?_
  k_dflt walk_at "menter"
  rename_i g' L' h1 Ug Eg F' N' B' X'' T'
  replace Ug := ug0 Ug
  replace hx := Ug _ _ hx
  replace hdx := Ug _ _ hdx
  replace htb := TabAt.keep htb Ug
  replace hal := listExt Ug hal
  replace hP : ∀ a o, P a o → g'.get? a = some o := fun a o e => Ug _ _ (hP a o e)
  have F₀ := frExt F Ug
  have N₀' := newsExt (tl := []) F N₀ Ug (fun _ h => nomatch h)
  rw [List.nil_append] at N₀'
  clear F N₀
  have hc'' : c' = cnt := by omega
  have hb1 : (c' != cnt) = false := by simp [hc'']
  have hb2 : (c' == cnt) = true := by simp [hc'']
  walk_at "msteps"
  refine For_K ?_
  walk_at "mstepsA"
  rename Fr _ _ _ _ => F9
  rename News _ _ _ _ => N9
  refine add_listsD F9 N9 (list_at (N9 _ (.head _)).1) (list_keep hal F9.keep) (by simp only [List.length_cons, List.length_nil]; omega) ?_
  intro D h5 F5 N5
  clear F9 N9
  have N6 := news1 (N5 _ (.head _))
  clear N5
  obtain ⟨vs, ps, hps, hpb, N7⟩ : ∃ (vs : List Value) (ps : List Int), IntsAre vs ps ∧ (∀ p ∈ ps, -70000 ≤ p ∧ p ≤ 70000) ∧ News g' L' h5 [(D, listOf vs.toArray 0)] := by
    refine' ⟨_, [0, 1023, 1024, 1056, 2016, 2047, 2048, 2079, 2080, 2111, 2112, cnt - 1, cnt, -1, -cnt - 1] ++ as, IntsAre.append ?i hai, ?b, N6⟩
    case i =>
      repeat refine IntsAre.cons _ _ ?_
      exact IntsAre.nil
    case b =>
      intro p hp
      rcases List.mem_append.mp hp with hp | hp
      · simp only [List.mem_cons, List.not_mem_nil, or_false] at hp
        omega
      · have := hab p hp; omega
  clear N6
  obtain ⟨u5, F6⟩ := fr_same4 (x1 := "vector") (x2 := "size") (x3 := "count") (x4 := "changes") (a1 := some (.ref x)) (a2 := some (.int size ts)) (a3 := some (.int cnt tc)) (a4 := some (.ref d)) F5 rfl rfl rfl rfl
  have hLI := F6.ns.lt
  refine iterK rfl (list_at (N7 _ (.head _)).1) (fun i I v s Q E _ q => go_name q) (fun i h => ∃ (g1 : Heap) (u : PySem.Str → Option Value), KtsTurn [L] g' g1 ∧ Below { depth := dp, frames := some [env], handled := none, guards := gd, units := un } base [env] g1 ∧ Fr g1 L' h (fun y => if y = "vector" then some (.ref x) else if y = "size" then some (.int size ts) else if y = "count" then some (.int cnt tc) else if y = "changes" then some (.ref d) else u y) ∧ News g1 L' h [(D, listOf vs.toArray 0)]) ?_ ⟨g', u5, KtsTurn.refl, B', F6, N7⟩ ?_ ?_
  · rintro I rfl i h h' ⟨g1, u, T1, B1, F1, N1⟩ hk
    refine ⟨g1, u, T1, B1, ⟨F1.ns.at' fun o e => hk _ _ (Nat.ne_of_lt hLI) e, fun b o e => hk b o (fun q => ?_) (F1.keep b o e), F1.above⟩, news1 ?_⟩
    · rw [q] at e
      exact absurd (Nat.lt_of_lt_of_le (Heap.lt_size e) F1.above) (Nat.not_lt.mpr (Nat.le_of_lt hLI))
    · obtain ⟨z1, z2⟩ := N1 _ (.head _)
      exact ⟨hk _ _ (Nat.ne_of_lt (Heap.lt_size (N7 _ (.head _)).1)) z1, z2⟩
  · rintro I i v h tk hIe hv ⟨g1, u, T1, B1, F1, N1⟩ ⟨oI, hoI, _⟩ _
    obtain ⟨p, t, rfl, hpp⟩ := IntsAre.at hps i v hv
    obtain ⟨hp1, hp2⟩ := hpb p (List.mem_of_getElem? hpp)
    have hLI' : L' < I := by rw [hIe]; exact hLI
    have hID : @Ne Nat I D := fun e => absurd (Heap.lt_size (N7 _ (.head _)).1) (by rw [← e, hIe]; exact Nat.lt_irrefl _)
    have N2 : News g1 L' h [(I, oI), (D, listOf vs.toArray 0)] := fun q hq => by
      rcases List.mem_cons.mp hq with rfl | hq
      · refine ⟨hoI, Nat.ne_of_gt hLI', ?_⟩
        cases z : g1.get? I with
        | none => rfl
        | some o => exact absurd (Nat.lt_of_lt_of_le (Heap.lt_size z) F1.above) (Nat.not_lt.mpr (Nat.le_of_lt hLI'))
      · exact N1 q hq
    have hDg := (N1 _ (.head _)).1
    have hfs : [env].filterMap (·.frame) = [L] := by simp [hf]
    have hP1 : ∀ a o, P a o → g1.get? a = some o := fun a o e => T1.other a o (hP a o e) (by simp [hPL a o e])
    have htb1 := tab_turn T1 (by simp [hdL]) htb
    have hx1 : g1.get? x = some (vecObj dx c' t1 sh t2 rt tl off t3) := T1.other _ _ hx (by simp [hxL])
    have hdx1 : g1.get? dx = some (dictOf [] 0) := T1.other _ _ hdx (by simp [hdxL])
    have X1 := XB.keeps B1.stays
    have Tp1 := TB.keeps B1.stays
    clear hx hdx hP htb hal B' X'' T' F5 F6 N7 N1 Ug Eg N₀' F₀
    have hcase : (0 ≤ p ∧ p < cnt) ∨ (p < 0 ∧ 0 ≤ p + cnt) ∨ (p + xs.length < 0 ∨ (xs.length : Int) ≤ p) := by omega
    rcases hcase with hc | hc | hc
    · have hlt : p.toNat < xs.length := by omega
      obtain ⟨v', hv'⟩ : ∃ v', xs[p.toNat]? = some v' := ⟨_, List.getElem?_eq_getElem hlt⟩
      obtain ⟨n, t', rfl, hn⟩ := IntsAre.at hi _ _ hv'
      have hk' : (0 ≤ p ∧ p = ((p.toNat : Nat) : Int)) ∨ (p < 0 ∧ p + xs.length = ((p.toNat : Nat) : Int)) := .inl ⟨hc.1, by omega⟩
      have hl' := hlaw _ _ hn
      rw [Int.toNat_of_nonneg hc.1] at hl'
      subst hl'
      walk_at "msteps"
      rename Fr _ _ _ _ => F9
      rename News _ _ _ _ => N9
      obtain ⟨u9, F9⟩ := fr_same4 (x1 := "vector") (x2 := "size") (x3 := "count") (x4 := "changes") (a1 := some (.ref x)) (a2 := some (.int size ts)) (a3 := some (.int cnt tc)) (a4 := some (.ref d)) F9 rfl rfl rfl rfl
      exact turn_fin hoI hDg N9 (by k_mem) (by k_mem) ⟨g1, u9, T1, B1, F9, news1 (N9 (D, listOf vs.toArray 0) (by k_mem))⟩
    · have hlt : (p + cnt).toNat < xs.length := by omega
      obtain ⟨v', hv'⟩ : ∃ v', xs[(p + cnt).toNat]? = some v' := ⟨_, List.getElem?_eq_getElem hlt⟩
      obtain ⟨n, t', rfl, hn⟩ := IntsAre.at hi _ _ hv'
      have hk' : (0 ≤ p ∧ p = (((p + cnt).toNat : Nat) : Int)) ∨ (p < 0 ∧ p + xs.length = (((p + cnt).toNat : Nat) : Int)) := .inr ⟨hc.1, by omega⟩
      have hl' := hlaw _ _ hn
      rw [Int.toNat_of_nonneg hc.2] at hl'
      subst hl'
      walk_at "msteps"
      rename Fr _ _ _ _ => F9
      rename News _ _ _ _ => N9
      obtain ⟨u9, F9⟩ := fr_same4 (x1 := "vector") (x2 := "size") (x3 := "count") (x4 := "changes") (a1 := some (.ref x)) (a2 := some (.int size ts)) (a3 := some (.int cnt tc)) (a4 := some (.ref d)) F9 rfl rfl rfl rfl
      exact turn_fin hoI hDg N9 (by k_mem) (by k_mem) ⟨g1, u9, T1, B1, F9, news1 (N9 (D, listOf vs.toArray 0) (by k_mem))⟩
    · walk_at "msteps"
      all_goals (
        rename Fr _ _ _ _ => F9
        rename News _ _ _ _ => N9
        rename KtsTurn _ _ _ => T9
        rename Below _ _ _ _ => B9
        rw [hfs] at T9
        obtain ⟨u9, F9⟩ := fr_same4 (x1 := "vector") (x2 := "size") (x3 := "count") (x4 := "changes") (a1 := some (.ref x)) (a2 := some (.int size ts)) (a3 := some (.int cnt tc)) (a4 := some (.ref d)) F9 rfl rfl rfl rfl
        exact turn_fin hoI hDg N9 (by k_mem) (by k_mem) ⟨_, u9, T1.trans T9, B9, F9, news1 (N9 (D, listOf vs.toArray 0) (by k_mem))⟩)
  · rintro h tk ⟨g1, u, T1, B1, F1, N1⟩
    clear F5 F6 N7 B' X'' T'
    have X1 := XB.keeps B1.stays
    have Tp1 := TB.keeps B1.stays
    walk_at "msteps"
    rename Fr _ _ _ _ => F9
    show Q _ _
    exact hret _ _ (turned_fr F₀ T1 F9) (turned_news N₀' T1 F9)

theorem reset32 : True := by
  k_with_none
  (k_with "kinst" => (refine' InstAt.of_base ?zzF ?zzh1 ?zzh2; (case zzF => k_asm); (case zzh1 => k_asm); (case zzh2 => k_asm)))
  (k_with "mcx" => exact ⟨by k_asm, by k_asm, by k_asm, by k_asm, rfl, by first | rfl | assumption, by first | rfl | assumption, rfl, by walk_at "room", by walk_at "unitz"⟩)
  (k_with "room" => first | exact rm 1 _ (by assumption) rfl (by exact rfl) | exact rm 0 _ (by assumption) rfl (by exact rfl) | exact rm 2 _ (by assumption) rfl (by exact rfl) | exact rm0 0 (by assumption) rfl (by exact rfl) | exact rm0 1 (by assumption) rfl (by exact rfl) | ((try simp only [depth_under_make, depth_under_kw, depth_in1, depth_deeper, depth_caller]); (try dsimp only [Around.deeper, Around.in1, Around.under]); omega))
  (k_with "unitz" => first | exact rm 3 _ (by assumption) rfl (by exact rfl) | exact rm 4 _ (by assumption) rfl (by exact rfl) | exact rm 0 _ (by assumption) rfl (by exact rfl) | exact rm 1 _ (by assumption) rfl (by exact rfl) | exact rm 6 _ (by assumption) rfl (by exact rfl) | exact rm 7 _ (by assumption) rfl (by exact rfl) | ((try simp only [units_in1, units_deeper, Around.mark_units, units_caller]); (try dsimp only [Around.deeper, Around.in1, Around.under]); omega))
  (k_with "menter" => (refine' enterX ?zzk1 ?zzk2 ?zzk3 ?zzk4 ?zzk5 ?zzkA ?zzkF ?zzkK ?zzk6 ?zzk7 ?zzk8 ?zzk9 ?zzkB ?_ ?zzc2 ?zzc3 ?zzc4 ?zzc5; (case zzkA => exact rfl); (case zzkF => first | exact rfl | assumption); (case zzkK => first | exact rfl | assumption); (case zzk1 => k_asm); (case zzk2 => k_asm); (case zzk3 => k_asm); (case zzk4 => first | exact News.nil | k_asm); (case zzk5 => k_asm); (case zzk6 => k_is); (case zzk7 => k_is); (case zzk8 => walk_at "room"); (case zzk9 => first | exact BindsTo.of_eq rfl | exact binds_K (by k_in) rfl (by k_is) rfl rfl rfl); (case zzc5 => decide); (case zzkB => exact locs rfl); (case zzc2 => exact rfl); (case zzc3 => exact rfl); (case zzc4 => exact rfl); k_whole; intro _ _ _ _ _ _ _ _ _ _; (try dsimp only); (try k_fold)))
  (k_with "call builtin:len" => (k_here; (with_reducible show wpAny _ _ (call (Value.builtin _) [Value.ref _]) _ _ _); (with_unfolding_all refine' len_list ?zzk1 ?zzk2 ?_; (case zzk1 => is_list); (case zzk2 => omega); k_whole)))
  (k_with "subscriptTail" => (k_here; (with_reducible show wpAny _ _ (subscriptTail _ _ (Value.ref _) (Value.int _ _)) _ _ _); (with_unfolding_all refine' item_list ?zzk1 ?zzk2 ?zzk3 ?zzk4 ?_ ?zzk6; (case zzk1 => is_list); (case zzk2 => first | assumption | exact rfl); (case zzk3 => omega); (case zzk4 => omega); (case zzk6 => with_unfolding_all rfl); k_whole)))
  (k_with "setItem ref int" => (k_here; (with_reducible show wpAny _ _ (setItem (Value.ref _) (Value.int _ _) _) _ _ _); k_dflt (refine' set_list ?zzk1 ?zzk2 ?zzk3 ?zzk4 ?zzk5 ?zzk6 ?_; (case zzk1 => k_asm); (case zzk2 => k_asm); (case zzk6 => k_upd); (case zzk3 => omega); (case zzk4 => omega); (case zzk5 => omega); k_whole); intro _ _ _; (try k_sweep)))
  (k_with "call builtin:list.append" => (k_here; (with_reducible show wpAny _ _ (call (Value.builtin _) [Value.ref _, _]) _ _ _); k_dflt (refine' app_list ?zzk1 ?zzk2 ?zzk3 ?zzk4 ?_; (case zzk1 => k_asm); (case zzk2 => k_asm); (case zzk4 => k_upd); (case zzk3 => omega); k_whole); intro _ _ _; (try k_sweep)))
  (k_with "call type:list" => (k_here; (with_reducible show wpAny _ _ (call (Value.type _) [Value.ref _]) _ _ _); (with_unfolding_all refine' copy_list' ?zzk1 ?zzk2 ?zzk3 ?zzk4 ?_; (case zzk1 => k_asm); (case zzk2 => k_asm); (case zzk3 => is_list); (case zzk4 => omega); k_whole); walk_at "in2"))
  (k_with "truthy ref" => (k_here; (with_reducible show wpAny _ _ (truthy (Value.ref _)) _ _ _); (with_unfolding_all refine' truthy_list' ?zzk1 ?zzk2 ?_; (case zzk1 => is_list); (case zzk2 => omega); k_whole)))
  (k_with "binaryOp BitAnd int int" => (k_here; (with_reducible refine and31 ?zzk1 ?_; (case zzk1 => omega)); intro _))
  (k_with "binaryOp RShift int int" => (k_here; first | with_reducible refine shr5 ?_ | with_reducible refine shr10 ?_; intro _))
  (k_with "call ref" => (k_here; (with_reducible show wpAny _ _ (call (Value.ref 296) _) _ _ _); k_dflt (refine' new_c ?zzkC ?zzkt ?zzkz ?_; (case zzkC => walk_at "mcx"); (case zzkt => is_list); (case zzkz => first | omega | (simp only [List.length_cons, List.length_nil]; omega)); intro zzx zztls zzh zztk zzdx zzt3 zzext zznew zze; subst zze; (have zzl1 := allNe_of (zznew _ (.head _)).2 (news_get (by k_asm))); (have zzl2 := allNe_of (zznew _ (.tail _ (.head _))).2 (news_get (by k_asm))); (have zzF := frExt (by k_asm) zzext); (have zzN := newsExt (by k_asm) (by k_asm) zzext zznew); (simp only [List.cons_append, List.nil_append] at zzN); (simp only [AllNe, and_true] at zzl1 zzl2); clear zzext zznew; revert zzx zzh zztk zzdx zzt3 zzl1 zzl2 zzF zzN; intro _ _ _ _ _ _ _ _ _; (try k_sweep))))
  (k_with "call ref" => (k_here; (with_reducible show wpAny _ _ (call (Value.ref 228) _) _ _ _); k_dflt (refine' newpath0 ?zzkC ?_; (case zzkC => walk_at "mcx"); intro zzh zztk zzext; (have zzF := frExt (by k_asm) zzext); (have zzN := newsExt (by k_asm) (by k_asm) zzext (tl := []) (fun _ hp => nomatch hp)); (simp only [List.nil_append] at zzN); clear zzext; revert zzh zztk zzF zzN; intro _ _ _ _; (try k_sweep))))
  (k_with "aft1" => (intro zzr zzh zztk zzn zzext zznew; (have zzl1 := allNe_of (zznew _ (.head _)).2 (news_get (by k_asm))); (have zzF := frExt (by k_asm) zzext); (have zzN := newsExt (by k_asm) (by k_asm) zzext zznew); (simp only [List.cons_append, List.nil_append] at zzN); (simp only [AllNe, and_true] at zzl1); clear zzext zznew; revert zzr zzh zztk zzn zzl1 zzF zzN; intro _ _ _ _ _ _ _; (try k_sweep)))
  (k_with "call ref" => (k_here; (with_reducible show wpAny _ _ (call (Value.ref 228) _) _ _ _); k_dflt (refine' newpath5 ?zzkC ?zzkx ?zzkd ?_; (case zzkC => walk_at "mcx"); (case zzkx => walk_at "hx"); (case zzkd => walk_at "hx"); walk_at "aft1")))
  (k_with "hx" => first | assumption | exact Fr.keep (by k_asm) _ _ (by assumption) | exact News.get (by k_asm) (by k_mem))
  (k_with "call ref" => (k_here; (with_reducible show wpAny _ _ (call (Value.ref 263) _) _ _ _); k_dflt (refine' push5 ?zzkC ?zzkp ?zzkz ?_; (case zzkC => walk_at "mcx"); (case zzkp => is_list); (case zzkz => omega); walk_at "aft1")))
  (k_with "aft2" => (intro zzr zzr2 zzh zztk zzn zzn2 zzext zznew; (have zzl1 := allNe_of (zznew _ (.head _)).2 (news_get (by k_asm))); (have zzl2 := allNe_of (zznew _ (.tail _ (.head _))).2 (news_get (by k_asm))); (have zzF := frExt (by k_asm) zzext); (have zzN := newsExt (by k_asm) (by k_asm) zzext zznew); (simp only [List.cons_append, List.nil_append] at zzN); (simp only [AllNe, and_true] at zzl1 zzl2); clear zzext zznew; revert zzr zzr2 zzh zztk zzn zzn2 zzl1 zzl2 zzF zzN; intro _ _ _ _ _ _ _ _ _ _; (try k_sweep)))
  (k_with "call ref" => (k_here; (with_reducible show wpAny _ _ (call (Value.ref 263) _) _ _ _); k_dflt (refine' pushT ?zzkC ?zzkx ?zzkd ?zzkP ?zzkT ?zzkc ?zzkl ?zzkn ?_; (case zzkC => walk_at "mcx"); (case zzkx => walk_at "hx"); (case zzkd => walk_at "hx"); (case zzkT => assumption); (case zzkP => walk_at "hP"); (case zzkc => omega); (case zzkl => omega); (case zzkn => omega); intro zzr zztls zzh zztk zzext zznew zztr; (have zzF := frExt (by k_asm) zzext); (have zzN := newsExt (by k_asm) (by k_asm) zzext zznew); revert zzr zztls zzh zztk zzext zznew zztr zzF zzN; intro _ _ _ _ _ _ _ _ _; (try k_sweep))))
  (k_with "hP" => first | assumption | exact hPk (by k_asm) (by assumption))
  (k_with "call ref" => (k_here; (with_reducible show wpAny _ _ (call (Value.ref 214) _) _ _ _); k_dflt (refine' root_c ?zzkC ?zzkx ?zzkd ?zzkP ?zzkT ?zzkc ?zzkl ?_; (case zzkC => walk_at "mcx"); (case zzkx => walk_at "hx"); (case zzkd => walk_at "hx"); (case zzkT => assumption); (case zzkP => walk_at "hP"); (case zzkc => omega); (case zzkl => omega); intro zztp zzr zztls zzh zztk zzsh zzt zzn zzext zznew zztr; (have zzF := frExt (by k_asm) zzext); (have zzN := newsExt (by k_asm) (by k_asm) zzext zznew); (simp only [List.cons_append] at zzN); revert zztp zzr zztls zzh zztk zzsh zzt zzn zzext zznew zztr zzF zzN; intro _ _ _ _ _ _ _ _ _ _ _ _ _; (try k_sweep))))
  (k_with "call ref" => (k_here; (with_reducible show wpAny _ _ (call (Value.ref 197) _) _ _ _); k_dflt (refine' dosetT ?zzkC ?zzkx ?zzkd ?zzkiv ?zzkP ?zzkV ?zzki ?zzkl ?_; (case zzkC => walk_at "mcx"); (case zzkx => walk_at "hx"); (case zzkd => walk_at "hx"); (case zzkiv => assumption); (case zzkV => assumption); (case zzkP => walk_at "hP"); (case zzki => omega); (case zzkl => omega); intro zzr zztls zzh zztk zzext zznew zztr; (have zzF := frExt (by k_asm) zzext); (have zzN := newsExt (by k_asm) (by k_asm) zzext zznew); revert zzr zztls zzh zztk zzext zznew zztr zzF zzN; intro _ _ _ _ _ _ _ _ _; (try k_sweep))))
  (k_with "call ref" => (k_here; (with_reducible show wpAny _ _ (call (Value.ref 221) _) _ _ _); k_dflt (refine' append_c ?zzkC ?zzkx ?zzkd ?zzkP ?zzkV ?zzkt ?zzkl ?_; (case zzkC => walk_at "mcx"); (case zzkx => walk_at "hx"); (case zzkd => walk_at "hx"); (case zzkV => assumption); (case zzkt => assumption); (case zzkP => walk_at "hP"); (case zzkl => omega); intro zzx zzdx zztl zzh zztk zzc zzt1 zzsh zzt2 zzrt zzoff zzt3 zzn zztls zzls zzys zzzs zzext zznew zzof zztr zze; (have zzF := frExt (by k_asm) zzext); (have zzN := newsExt (by k_asm) (by k_asm) zzext zznew); (simp only [List.cons_append] at zzN); revert zzx zzdx zztl zzh zztk zzc zzt1 zzsh zzt2 zzrt zzoff zzt3 zzn zztls zzls zzys zzzs zzext zznew zzof zztr zze zzF zzN; intro _ _ _ _ _ _ _ _ _ _ _ _ _ _ _ _ _ _ _ _ _ _ _ _; (try k_sweep))))
  (k_with "msteps" => repeat' (first | (k_unfold; (try dsimp only)) | ((fail_if_success (with_reducible show wpAny _ _ (exec (Stmt.For _ _ _ _ _) _) _ _ _)); (fail_if_success (with_reducible show wpAny _ _ (exec (Stmt.While _ _ _ _) _) _ _ _)); first | walk1 | (dsimp only; walk1) | (leave1; (try dsimp only)))))
  (k_with "menterN" => (refine' enterX ?zzk1 ?zzk2 ?zzk3 ?zzk4 ?zzk5 ?zzkA ?zzkF ?zzkK ?zzk6 ?zzk7 ?zzk8 ?zzk9 ?zzkB ?_ ?zzc2 ?zzc3 ?zzc4 ?zzc5; (case zzkA => exact rfl); (case zzkF => first | exact rfl | assumption); (case zzkK => first | exact rfl | assumption); (case zzk1 => k_asm); (case zzk2 => k_asm); (case zzk3 => k_asm); (case zzk4 => k_asm); (case zzk5 => k_asm); (case zzk6 => k_is); (case zzk7 => k_is); (case zzk8 => walk_at "room"); (case zzk9 => exact BindsTo.of_eq rfl); (case zzc5 => decide); (case zzkB => exact locs rfl); (case zzc2 => exact rfl); (case zzc3 => exact rfl); (case zzc4 => exact rfl); k_whole; intro _ _ _ _ _ _ _ _ _ _; (try dsimp only); (try k_fold)))
  (k_with "call builtin:list.extend" => (k_here; (with_reducible show wpAny _ _ (call (Value.builtin _) [Value.ref _, Value.ref _]) _ _ _); k_dflt (refine' ext_list ?zzF ?zzN ?zzb ?zzz ?zzU ?_; (case zzF => k_asm); (case zzN => k_asm); (case zzU => k_updF); (case zzb => walk_at "hx"); (case zzz => omega); k_whole); intro zzh zzn zzF zzN; (try dsimp only at zzN); revert zzh zzn zzF zzN; intro _ _ _ _; (try k_sweep)))
  (k_with "kall" => assumption)
  (k_with "call ref" => (k_here; (with_reducible show wpAny _ _ (call (Value.ref 176) _) _ _ _); k_dflt (refine' tolist_c ?zzkC ?zzkP ?zzkV ?zzkl ?_; (case zzkC => walk_at "mcx"); (case zzkV => assumption); (case zzkP => walk_at "hP"); (case zzkl => omega); walk_at "aft1")))
  (k_with "kinst" => (refine' InstAt.of_base ?zzF ?zzh1 ?zzh2; (case zzF => k_asm); (case zzh1 => first | k_asm | exact Fr.keep (by k_asm) _ _ (by assumption)); (case zzh2 => first | k_asm | exact Fr.keep (by k_asm) _ _ (by assumption))))
  (k_with "hP" => first | assumption | exact hPk (by k_asm) (by assumption) | exact hPk (by k_asm) (hPk (by k_asm) (by assumption)))
  (k_with "aftV" => (intro zzr zztls zzh zztk zzext zznew zzvec; (have zzF := frExt (by k_asm) zzext); (have zzN := newsExt (by k_asm) (by k_asm) zzext zznew); revert zzr zztls zzh zztk zzext zznew zzvec zzF zzN; intro _ _ _ _ _ _ _ _ _; (try k_sweep)))
  (k_with "call ref" => (k_here; (with_reducible show wpAny _ _ (call (Value.ref 256) _) _ _ _); k_dflt (refine' ext_l ?zzkC ?zzkP ?zzkV ?zzkO ?zzkl ?_; (case zzkC => walk_at "mcx"); (case zzkV => assumption); (case zzkO => is_list); (case zzkP => walk_at "hP"); (case zzkl => first | omega | (simp only [List.length_append, List.length_nil]; omega)); walk_at "aftV")))
  (k_with "call ref" => (k_here; (with_reducible show wpAny _ _ (call (Value.ref 256) _) _ _ _); k_dflt (refine' ext_v ?zzkC ?zzkP ?zzkV ?zzkO ?zzkl ?_; (case zzkC => walk_at "mcx"); (case zzkV => assumption); (case zzkO => assumption); (case zzkP => walk_at "hP"); (case zzkl => omega); walk_at "aftV")))
  (k_with "call builtin:isinstance" => (k_here; (with_reducible show wpAny _ _ (call _ [Value.int _ _, Value.type _]) _ _ _); k_dflt (refine' kia_one kitx_int ?zzX trivial ?zzee ?zznb ?_; (case zzX => k_in); (case zzee => kit_is); (case zznb => kit_nb); k_whole; intro _)))
  (k_with "aftE" => (intro zzh zztk zzext; (have zzF := frExt (by k_asm) zzext); (have zzN := newsExt (tl := []) (by k_asm) (by k_asm) zzext (fun _ h => nomatch h)); (simp only [List.nil_append] at zzN); clear zzext; revert zzh zztk zzF zzN; intro _ _ _ _; (try k_sweep)))
  (k_with "call ref" => (k_here; (with_reducible show wpAny _ _ (call (Value.ref 204) _) _ _ _); k_dflt (refine' node_t ?zzkC ?zzkx ?zzkd ?zzkP ?zzkV ?zzk1 ?zzk2 ?_; (case zzkC => walk_at "mcx"); (case zzkx => walk_at "hx"); (case zzkd => walk_at "hx"); (case zzkV => assumption); (case zzkP => walk_at "hP"); (case zzk1 => omega); (case zzk2 => omega); walk_at "aftE")))
  (k_with "call ref" => (k_here; (with_reducible show wpAny _ _ (call (Value.ref 204) _) _ _ _); k_dflt (refine' node_l ?zzkC ?zzkx ?zzkd ?zzkP ?zzkV ?zzkl ?zzk1 ?zzk2 ?_; (case zzkC => walk_at "mcx"); (case zzkx => walk_at "hx"); (case zzkd => walk_at "hx"); (case zzkV => assumption); (case zzkP => walk_at "hP"); (case zzkl => omega); (case zzk1 => omega); (case zzk2 => omega); intro zzb zzh zztk zzext zzlat; (have zzil := LAt.is (by assumption) zzlat); (have zzF := frExt (by k_asm) zzext); (have zzN := newsExt (tl := []) (by k_asm) (by k_asm) zzext (fun _ h => nomatch h)); (simp only [List.nil_append] at zzN); clear zzext zzlat; revert zzb zzh zztk zzil zzF zzN; intro _ _ _ _ _ _; (try k_sweep))))
  (k_with "call ref" => (k_here; (with_reducible show wpAny _ _ (call (Value.ref 204) _) _ _ _); k_dflt (refine' node_e ?zzkC ?zzkx ?zzkd ?zzk1 ?zzk2 ?zzk3 ?_; (case zzkC => walk_at "mcx"); (case zzkx => walk_at "hx"); (case zzkd => walk_at "hx"); (case zzk1 => omega); (case zzk2 => omega); (case zzk3 => omega); (intro _ _ _ _ _ _ _); (try dsimp only))))
  (k_with "mcatch" => (refine' catchX (x := "IndexError") (T' := "IndexError") (KF := Mine.kx.heap_1 _) ?zzR ?zzF ?zzN ?zzK ?zzU ?zzXB ?zzTB ?zzex PyProof.Rows.Boot.«IndexError» ?zzhn PySem.F.isExc_IndexError PySem.F.notTuple_IndexError ?zzhs ?_; (case zzR => assumption); (case zzF => k_asm); (case zzN => k_asm); (case zzK => k_asm); (case zzU => assumption); (case zzXB => assumption); (case zzTB => assumption); (case zzex => k_is); (case zzhn => decide); (case zzhs => kts_sub); intro _ _ _ _ _ _ _ _))
  (k_with "exec Try" => (k_here; refine wpAny_Try_except ?_))
  trivial
section
variable {prog : Program} {w : World} {A : Around} {E : Value → Shared → Prop} {s : Shared}
abbrev IsTrip (h : Heap) (T : Addr) (a b c : Value) : Prop := h.get? T = some { cls := .type "tuple", data := .seq #[a, b, c] }
theorem upd_trip {T : Addr} {a b c x : Value} {k : Nat} {Q : Unit → Shared → Prop} (hT : IsTrip s.heap T a b c)
    (h : ∀ h', h'.get? T = some { cls := .type "tuple", data := .seq ((#[a, b, c] : Array Value).setIfInBounds k x) } → Heap.SameBut T s.heap h' → Q () { s with heap := h' }) :
    wpAny (model prog w) A (updateSeq T (·.setIfInBounds k x)) Q E s := by
  refine wpAny_updateSeq hT rfl (h _ ?_ (Heap.SameBut.update ..))
  rw [Heap.get?_update_self _ hT rfl]
  simp [Obj.mapSeq]
theorem typeCall_zip_3 (a b c : Value) : checkTypeCall "zip" ⟨[a, b, c], []⟩ = pure () := by kernel_rfl
theorem newCall_zip_3 (a b c : Value) : checkBuiltinCall "zip.__new__" ⟨[.type "zip", a, b, c], []⟩ = pure () := by kernel_rfl
theorem args_init_4 (a b c d : Value) : argsOk "object.__init__" ⟨[a, b, c, d], []⟩ := by
  unfold argsOk; kernel_rfl
/-- the state of a zip of three lists, all made at n -/
structure Zip3 (n : Nat) (l1 l2 l3 : Addr) (xs ys zs : Array Value) (f0 : Value) (i : Nat) (h : Heap) : Prop where
  z : IsZip h (n + 5) (n + 3) (n + 4) f0
  ti : IsTrip h (n + 3) (.ref n) (.ref (n + 1)) (.ref (n + 2))
  to : ∃ a b c, IsTrip h (n + 4) a b c
  i1 : h.IsListIter n l1 i
  i2 : h.IsListIter (n + 1) l2 i
  i3 : h.IsListIter (n + 2) l3 i
  l1 : h.IsList l1 xs
  l2 : h.IsList l2 ys
  l3 : h.IsList l3 zs
theorem neA {a b : Nat} (h : a < b ∨ b < a) : @Ne Addr a b := fun e => by
  have e' : a = b := e
  omega
theorem zip3_next {n : Nat} {l1 l2 l3 : Addr} {xs ys zs : Array Value} {i : Nat} {x y v : Value} {Q : Value → Shared → Prop} (m1 : @LT.lt Nat _ l1 n) (m2 : @LT.lt Nat _ l2 n) (m3 : @LT.lt Nat _ l3 n)
    (S : Zip3 n l1 l2 l3 xs ys zs .none i s.heap) (hx : xs[i]? = some x) (hy : ys[i]? = some y) (hv : zs[i]? = some v)
    (hQ : ∀ h', Zip3 n l1 l2 l3 xs ys zs (rawInt s.heap.objs.size) (i + 1) h' → IsTrip h' s.heap.objs.size x y v →
      (∀ c o, c ≠ n + 5 → c ≠ n + 4 → c ≠ n → c ≠ n + 1 → c ≠ n + 2 → s.heap.get? c = some o → h'.get? c = some o) → Q (.ref s.heap.objs.size) { s with heap := h' }) :
    wpAny (model prog w) A (Builtin.«zip.__next__» ⟨[.ref (n + 5)], []⟩) (fun fin s' => ∃ v, fin = .done (.ret v) ∧ Q v s') E s := by
  obtain ⟨hz, hTI, ⟨a, b, c, hTO⟩, h1, h2, h3, hl1, hl2, hl3⟩ := S
  show wpAny _ _ (field (.ref (n + 5)) 2 >>= _) _ _ _
  refine wpAny_bind (wpAny_field hz rfl (x := .bool false) rfl ?_)
  show wpAny _ _ (field (.ref (n + 5)) 3 >>= _) _ _ _
  refine wpAny_bind (wpAny_field hz rfl (x := .ref (n + 3)) rfl ?_)
  refine wpAny_bind (wpAny_seqItems hTI rfl ?_)
  show wpAny _ _ (Builtin.SmallTypes.ownedTupleIsFree (.ref (n + 5)) >>= _) _ _ _
  refine wpAny_bind ?_
  unfold Builtin.SmallTypes.ownedTupleIsFree
  refine wpAny_bind (wpAny_field hz rfl (x := .none) rfl (wpAny_pure ?_))
  simp only [if_true]
  refine wpAny_bind (wpAny_rule ?_)
  refine wpAny_bind (wpAny_field hz rfl (x := .ref (n + 4)) rfl ?_)
  refine wpAny_bind (wpAny_setField_rec hz (by simp) fun g1 hz₁ s1 => ?_)
  replace hz₁ : IsZip g1 (n + 5) (n + 3) (n + 4) .ellipsis := hz₁
  refine wpAny_bind ?_
  simp only [List.zipIdx_cons, List.zipIdx_nil, List.forIn_cons, List.forIn_nil]
  have k1 : ∀ c o, c ≠ n + 5 → s.heap.get? c = some o → g1.get? c = some o := fun c o a e => s1.extBut _ _ a e
  refine wpAny_bind (wpAny_bind (wpAny_onRaise ?_))
  show wpAny _ _ (Builtin.SmallTypes.nextOf (.ref n) >>= _) _ _ _
  refine wpAny_bind (wpAny_nextOf_list_item (h1.at fun o e => k1 _ o (neA (by omega)) e) (hl1.at fun o e => k1 _ o (neA (by omega)) e) hx fun g2 i1' s2 => wpAny_pure ?_)
  have hTO₂ : IsTrip g2 (n + 4) a b c := s2.extBut _ _ (neA (by omega)) (k1 _ _ (neA (by omega)) hTO)
  refine wpAny_bind (wpAny_seqItems hTO₂ rfl ?_)
  refine wpAny_bind (upd_trip hTO₂ fun g3 hTO₃ s3 => ?_)
  replace hTO₃ : IsTrip g3 (n + 4) x b c := hTO₃
  refine wpAny_bind (wpAny_letGo (wpAny_pure ?_))
  have k3 : ∀ c o, c ≠ n + 5 → c ≠ n → c ≠ n + 4 → s.heap.get? c = some o → g3.get? c = some o := fun c o a1 a2 a3 e => s3.extBut _ _ a3 (s2.extBut _ _ a2 (k1 c o a1 e))
  refine wpAny_bind (wpAny_bind (wpAny_onRaise ?_))
  show wpAny _ _ (Builtin.SmallTypes.nextOf (.ref (n + 1)) >>= _) _ _ _
  refine wpAny_bind (wpAny_nextOf_list_item (h2.at fun o e => k3 _ o (neA (by omega)) (neA (by omega)) (neA (by omega)) e) (hl2.at fun o e => k3 _ o (neA (by omega)) (neA (by omega)) (neA (by omega)) e) hy fun g4 i2' s4 => wpAny_pure ?_)
  have hTO₄ : IsTrip g4 (n + 4) x b c := s4.extBut _ _ (neA (by omega)) hTO₃
  refine wpAny_bind (wpAny_seqItems hTO₄ rfl ?_)
  refine wpAny_bind (upd_trip hTO₄ fun g5 hTO₅ s5 => ?_)
  replace hTO₅ : IsTrip g5 (n + 4) x y c := hTO₅
  refine wpAny_bind (wpAny_letGo (wpAny_pure ?_))
  have k5 : ∀ c o, c ≠ n + 5 → c ≠ n → c ≠ n + 1 → c ≠ n + 4 → s.heap.get? c = some o → g5.get? c = some o := fun c o a1 a2 a3 a4 e => s5.extBut _ _ a4 (s4.extBut _ _ a3 (k3 c o a1 a2 a4 e))
  refine wpAny_bind (wpAny_bind (wpAny_onRaise ?_))
  show wpAny _ _ (Builtin.SmallTypes.nextOf (.ref (n + 2)) >>= _) _ _ _
  refine wpAny_bind (wpAny_nextOf_list_item (h3.at fun o e => k5 _ o (neA (by omega)) (neA (by omega)) (neA (by omega)) (neA (by omega)) e) (hl3.at fun o e => k5 _ o (neA (by omega)) (neA (by omega)) (neA (by omega)) (neA (by omega)) e) hv fun g6 i3' s6 => wpAny_pure ?_)
  have hTO₆ : IsTrip g6 (n + 4) x y c := s6.extBut _ _ (neA (by omega)) hTO₅
  refine wpAny_bind (wpAny_seqItems hTO₆ rfl ?_)
  refine wpAny_bind (upd_trip hTO₆ fun g7 hTO₇ s7 => ?_)
  replace hTO₇ : IsTrip g7 (n + 4) x y v := hTO₇
  refine wpAny_bind (wpAny_letGo (wpAny_pure (wpAny_pure ?_)))
  have k7 : ∀ c o, c ≠ n + 5 → c ≠ n → c ≠ n + 1 → c ≠ n + 2 → c ≠ n + 4 → s.heap.get? c = some o → g7.get? c = some o := fun c o a1 a2 a3 a4 a5 e => s7.extBut _ _ a5 (s6.extBut _ _ a4 (k5 c o a1 a2 a3 a5 e))
  have z7 : IsZip g7 (n + 5) (n + 3) (n + 4) .ellipsis := s7.extBut _ _ (neA (by omega)) (s6.extBut _ _ (neA (by omega)) (s5.extBut _ _ (neA (by omega)) (s4.extBut _ _ (neA (by omega)) (s3.extBut _ _ (neA (by omega)) (s2.extBut _ _ (neA (by omega)) hz₁)))))
  have j1 : g7.IsListIter n l1 (i + 1) := i1'.at fun o e => s7.extBut _ _ (neA (by omega)) (s6.extBut _ _ (neA (by omega)) (s5.extBut _ _ (neA (by omega)) (s4.extBut _ _ (neA (by omega)) (s3.extBut _ _ (neA (by omega)) e))))
  have j2 : g7.IsListIter (n + 1) l2 (i + 1) := i2'.at fun o e => s7.extBut _ _ (neA (by omega)) (s6.extBut _ _ (neA (by omega)) (s5.extBut _ _ (neA (by omega)) e))
  have j3 : g7.IsListIter (n + 2) l3 (i + 1) := i3'.at fun o e => s7.extBut _ _ (neA (by omega)) e
  have hsz : g7.objs.size = s.heap.objs.size := by rw [s7.1, s6.1, s5.1, s4.1, s3.1, s2.1, s1.1]
  refine wpAny_bind (wpAny_seqItems hTO₇ rfl ?_)
  refine wpAny_bind (wpAny_newTuple ?_)
  have hzlt : n + 5 < g7.objs.size := Heap.lt_size z7
  show wpAny _ _ (Builtin.SmallTypes.ownedTupleHandOut (.ref (n + 5)) (.ref g7.objs.size) >>= _) _ _ _
  refine wpAny_bind ?_
  unfold Builtin.SmallTypes.ownedTupleHandOut
  have z8 : IsZip (g7.push { cls := .type "tuple", data := .seq #[x, y, v] }) (n + 5) (n + 3) (n + 4) .ellipsis := Heap.get?_push_of_some _ z7
  refine wpAny_bind (wpAny_setField_rec z8 (by simp) fun g9 z9 s9 => ?_)
  replace z9 : IsZip g9 (n + 5) (n + 3) (n + 4) (rawInt g7.objs.size) := z9
  refine wpAny_setField_rec z9 (by simp) fun g10 z10 s10 => ?_
  replace z10 : IsZip g10 (n + 5) (n + 3) (n + 4) (rawInt g7.objs.size) := z10
  have up : ∀ c o, c ≠ n + 5 → g7.get? c = some o → g10.get? c = some o := fun c o a e => s10.extBut _ _ a (s9.extBut _ _ a (Heap.get?_push_of_some _ e))
  have hT : IsTrip g10 g7.objs.size x y v := s10.extBut _ _ (neA (.inr hzlt)) (s9.extBut _ _ (neA (.inr hzlt)) (Heap.get?_push_size _ rfl))
  rw [hsz] at z10 hT
  refine wpAny_pure ⟨_, rfl, ?_⟩
  show Q (.ref g7.objs.size) _
  rw [hsz]
  refine hQ g10 ⟨z10, up _ _ (neA (by omega)) (k7 _ _ (neA (by omega)) (neA (by omega)) (neA (by omega)) (neA (by omega)) (neA (by omega)) hTI), ⟨x, y, v, up _ _ (neA (by omega)) hTO₇⟩, j1.at fun o e => up _ o (neA (by omega)) e, j2.at fun o e => up _ o (neA (by omega)) e, j3.at fun o e => up _ o (neA (by omega)) e,
    hl1.at fun o e => up _ o (neA (by omega)) (k7 _ _ (neA (by omega)) (neA (by omega)) (neA (by omega)) (neA (by omega)) (neA (by omega)) e), hl2.at fun o e => up _ o (neA (by omega)) (k7 _ _ (neA (by omega)) (neA (by omega)) (neA (by omega)) (neA (by omega)) (neA (by omega)) e), hl3.at fun o e => up _ o (neA (by omega)) (k7 _ _ (neA (by omega)) (neA (by omega)) (neA (by omega)) (neA (by omega)) (neA (by omega)) e)⟩ hT
    fun c o a1 a2 a3 a4 a5 e => up c o a1 (k7 c o a1 a3 a4 a5 a2 e)
theorem zip3_end {n : Nat} {l1 l2 l3 : Addr} {xs ys zs : Array Value} {i : Nat} {Q : Fin → Shared → Prop} (hh : A.handled = none) (m1 : @LT.lt Nat _ l1 n) (S : Zip3 n l1 l2 l3 xs ys zs .none i s.heap) (hx : xs[i]? = none)
    (hE : ∀ h' e, (∀ c o, c ≠ n + 5 → c ≠ n → s.heap.get? c = some o → h'.get? c = some o) → (∃ o, h'.get? e = some o ∧ o.cls = .type "StopIteration") → E (.ref e) { s with heap := h' }) :
    wpAny (model prog w) A (Builtin.«zip.__next__» ⟨[.ref (n + 5)], []⟩) Q E s := by
  obtain ⟨hz, hTI, ⟨a, b, c, hTO⟩, h1, h2, h3, hl1, hl2, hl3⟩ := S
  show wpAny _ _ (field (.ref (n + 5)) 2 >>= _) _ _ _
  refine wpAny_bind (wpAny_field hz rfl (x := .bool false) rfl ?_)
  show wpAny _ _ (field (.ref (n + 5)) 3 >>= _) _ _ _
  refine wpAny_bind (wpAny_field hz rfl (x := .ref (n + 3)) rfl ?_)
  refine wpAny_bind (wpAny_seqItems hTI rfl ?_)
  show wpAny _ _ (Builtin.SmallTypes.ownedTupleIsFree (.ref (n + 5)) >>= _) _ _ _
  refine wpAny_bind ?_
  unfold Builtin.SmallTypes.ownedTupleIsFree
  refine wpAny_bind (wpAny_field hz rfl (x := .none) rfl (wpAny_pure ?_))
  simp only [if_true]
  refine wpAny_bind (wpAny_rule ?_)
  refine wpAny_bind (wpAny_field hz rfl (x := .ref (n + 4)) rfl ?_)
  refine wpAny_bind (wpAny_setField_rec hz (by simp) fun g1 hz₁ s1 => ?_)
  replace hz₁ : IsZip g1 (n + 5) (n + 3) (n + 4) .ellipsis := hz₁
  refine wpAny_bind ?_
  simp only [List.zipIdx_cons, List.zipIdx_nil, List.forIn_cons, List.forIn_nil]
  have k1 : ∀ c o, c ≠ n + 5 → s.heap.get? c = some o → g1.get? c = some o := fun c o a e => s1.extBut _ _ a e
  refine wpAny_bind (wpAny_bind (wpAny_onRaise ?_))
  show wpAny _ _ (Builtin.SmallTypes.nextOf (.ref n) >>= _) _ _ _
  refine wpAny_bind (wpAny_nextOf_list_end hh (h1.at fun o e => k1 _ o (neA (by omega)) e) (hl1.at fun o e => k1 _ o (neA (by omega)) e) hx fun g2 e s2 he => ?_)
  obtain ⟨oe, hoe, hce⟩ := he
  have z2 : IsZip g2 (n + 5) (n + 3) (n + 4) .ellipsis := s2 _ _ (neA (by omega)) hz₁
  have hez : e ≠ n + 5 := fun q => by rw [q, z2] at hoe; cases hoe; simp at hce
  exact wpAny_setField_rec z2 (by simp) fun g3 _ s3 => hE g3 e (fun c o a1 a2 q => s3.extBut _ _ a1 (s2 _ _ a2 (k1 c o a1 q))) ⟨oe, s3.extBut _ _ hez hoe, hce⟩
theorem next3_item {n : Nat} {l1 l2 l3 : Addr} {xs ys zs : Array Value} {i : Nat} {x y v : Value} {Q : Option Value → Shared → Prop} (m1 : @LT.lt Nat _ l1 n) (m2 : @LT.lt Nat _ l2 n) (m3 : @LT.lt Nat _ l3 n)
    (S : Zip3 n l1 l2 l3 xs ys zs .none i s.heap) (hx : xs[i]? = some x) (hy : ys[i]? = some y) (hv : zs[i]? = some v)
    (hQ : ∀ h', Zip3 n l1 l2 l3 xs ys zs (rawInt s.heap.objs.size) (i + 1) h' → IsTrip h' s.heap.objs.size x y v →
      (∀ c o, c ≠ n + 5 → c ≠ n + 4 → c ≠ n → c ≠ n + 1 → c ≠ n + 2 → s.heap.get? c = some o → h'.get? c = some o) → Q (some (.ref s.heap.objs.size)) { s with heap := h' }) :
    wpAny (model prog w) A (pyNext (.ref (n + 5))) Q E s := by
  have hT : s.TypeIs (.ref (n + 5)) "zip" := ⟨_, S.z, rfl⟩
  unfold pyNext
  exact wpAny_bind (wpAny_attempt (wpAny_callSpecial?_slot (name := Str.ofString "__next__") hT F.slot_zip_next
    (wpAny_call_entry F.slot_zip_next hT F.entry_zip_next (zip3_next m1 m2 m3 S hx hy hv fun h' a b c => wpAny_pure (hQ h' a b c)) (F.args_zip_next_1 _))))
theorem next3_end {n : Nat} {l1 l2 l3 : Addr} {xs ys zs : Array Value} {i : Nat} {Q : Option Value → Shared → Prop} (hh : A.handled = none) (m1 : @LT.lt Nat _ l1 n) (S : Zip3 n l1 l2 l3 xs ys zs .none i s.heap) (hx : xs[i]? = none)
    (hQ : ∀ h', (∀ c o, c ≠ n + 5 → c ≠ n → s.heap.get? c = some o → h'.get? c = some o) → Q none { s with heap := h' }) : wpAny (model prog w) A (pyNext (.ref (n + 5))) Q E s := by
  have hT : s.TypeIs (.ref (n + 5)) "zip" := ⟨_, S.z, rfl⟩
  unfold pyNext
  refine wpAny_bind (wpAny_attempt (wpAny_callSpecial?_slot (name := Str.ofString "__next__") hT F.slot_zip_next
    (wpAny_call_entry F.slot_zip_next hT F.entry_zip_next (zip3_end hh m1 S hx fun h' e hk he => ?_) (F.args_zip_next_1 _))))
  obtain ⟨o, ho, hc⟩ := he
  exact wpAny_bind (wpAny_isInstance (T := "StopIteration") (b := true) ⟨o, ho, hc⟩ isSubtype_stop (wpAny_pure (hQ _ hk)))
theorem zip3_sub {n : Nat} {l1 l2 l3 : Addr} {xs ys zs : Array Value} {f0 f1 : Value} {i : Nat} {h h' : Heap} (m1 : @LT.lt Nat _ l1 n) (m2 : @LT.lt Nat _ l2 n) (m3 : @LT.lt Nat _ l3 n) (S : Zip3 n l1 l2 l3 xs ys zs f0 i h) (hz : IsZip h' (n + 5) (n + 3) (n + 4) f1) (k : ∀ c o, c ≠ n + 5 → h.get? c = some o → h'.get? c = some o) :
    Zip3 n l1 l2 l3 xs ys zs f1 i h' := by
  obtain ⟨_, hTI, ⟨a, b, c, hTO⟩, h1, h2, h3, hl1, hl2, hl3⟩ := S
  exact ⟨hz, k _ _ (neA (by omega)) hTI, ⟨a, b, c, k _ _ (neA (by omega)) hTO⟩, h1.at fun o e => k _ o (neA (by omega)) e, h2.at fun o e => k _ o (neA (by omega)) e, h3.at fun o e => k _ o (neA (by omega)) e, hl1.at fun o e => k _ o (neA (by omega)) e, hl2.at fun o e => k _ o (neA (by omega)) e, hl3.at fun o e => k _ o (neA (by omega)) e⟩
theorem zip3_turns {elts : List Expr} {kk : Nat} {pos : Pos} (hh : A.handled = none) {n : Nat} {l1 l2 l3 : Addr} {xs ys zs : Array Value} {N : Nat} (m1 : @LT.lt Nat _ l1 n) (m2 : @LT.lt Nat _ l2 n) (m3 : @LT.lt Nat _ l3 n) (e1 : xs.size = N) (e2 : ys.size = N) (e3 : zs.size = N) :
    KTurns prog w A (.Tuple elts kk pos) (n + 5) [n, n + 1, n + 2, n + 3, n + 4, n + 5, l1, l2, l3] [n, n + 1, n + 2, n + 4, n + 5] N
      (fun i v h => ∃ T x y u, v = .ref T ∧ xs[i]? = some x ∧ ys[i]? = some y ∧ zs[i]? = some u ∧ IsTup h T #[x, y, u])
      (fun i v h => ∃ T x y u, v = .ref T ∧ xs[i]? = some x ∧ ys[i]? = some y ∧ zs[i]? = some u ∧ IsTrip h T x y u ∧ Zip3 n l1 l2 l3 xs ys zs (rawInt T) (i + 1) h)
      (fun i h => Zip3 n l1 l2 l3 xs ys zs .none i h) where
  sub := fun b hb => by simp at hb ⊢; rcases hb with h | h | h | h | h <;> simp [h]
  frame := fun i h h' S k => by
    obtain ⟨hz, hTI, ⟨a, b, c, hTO⟩, h1, h2, h3, hl1, hl2, hl3⟩ := S
    exact ⟨k _ (by simp) _ hz, k _ (by simp) _ hTI, ⟨a, b, c, k _ (by simp) _ hTO⟩, h1.at fun o e => k _ (by simp) o e, h2.at fun o e => k _ (by simp) o e, h3.at fun o e => k _ (by simp) o e, hl1.at fun o e => k _ (by simp) o e, hl2.at fun o e => k _ (by simp) o e, hl3.at fun o e => k _ (by simp) o e⟩
  item := fun i s Q E hi S hQ => by
    have a1 : i < xs.size := by omega
    have a2 : i < ys.size := by omega
    have a3 : i < zs.size := by omega
    refine next3_item m1 m2 m3 S (Array.getElem?_eq_getElem a1) (Array.getElem?_eq_getElem a2) (Array.getElem?_eq_getElem a3) fun h' S' hT hk => ?_
    exact hQ _ h' s.toks ⟨_, _, _, _, rfl, Array.getElem?_eq_getElem a1, Array.getElem?_eq_getElem a2, Array.getElem?_eq_getElem a3, hT, S'⟩ fun b o nb e => hk b o (fun q => nb (by simp [q])) (fun q => nb (by simp [q])) (fun q => nb (by simp [q])) (fun q => nb (by simp [q])) (fun q => nb (by simp [q])) e
  go := fun i v s Q E hm hQ => by
    obtain ⟨T, x, y, u, rfl, hx, hy, hu, hT, S⟩ := hm
    refine wpAny_letOwnedTupleGo_zip S.z fun h' hz' hs' => ?_
    have hTz : T ≠ n + 5 := fun q => by rw [q] at hT; exact absurd (Value.type.inj (congrArg Obj.cls (Option.some.inj (hT.symm.trans S.z)))) (by decide)
    exact hQ h' ⟨T, x, y, u, rfl, hx, hy, hu, ⟨_, hs'.extBut _ _ hTz hT, rfl, _, rfl⟩⟩ (zip3_sub m1 m2 m3 S hz' fun c o a e => hs'.extBut _ _ a e) fun b o nb e => hs'.extBut _ _ (fun q => nb (by simp [q])) e
  done := fun s Q E S hQ => by
    refine next3_end hh m1 S (Array.getElem?_eq_none (by omega)) fun h' hk => hQ h' s.toks fun b o nb e => hk b o (fun q => nb (by simp [q])) (fun q => nb (by simp [q])) e
abbrev z3a (h : Heap) (l1 : Addr) : Heap := h.push { cls := .type "list_iterator", data := .fields #[.ref l1, .int 0 0] }
abbrev z3b (h : Heap) (l1 l2 : Addr) : Heap := (z3a h l1).push { cls := .type "list_iterator", data := .fields #[.ref l2, .int 0 0] }
abbrev z3c (h : Heap) (l1 l2 l3 : Addr) : Heap := (z3b h l1 l2).push { cls := .type "list_iterator", data := .fields #[.ref l3, .int 0 0] }
abbrev z3d (h : Heap) (l1 l2 l3 : Addr) : Heap := (z3c h l1 l2 l3).push { cls := .type "tuple", data := .seq #[.ref h.objs.size, .ref (z3a h l1).objs.size, .ref (z3b h l1 l2).objs.size] }
abbrev z3e (h : Heap) (l1 l2 l3 : Addr) : Heap := (z3d h l1 l2 l3).push { cls := .type "tuple", data := .seq #[.none, .none, .none] }
abbrev z3f (h : Heap) (l1 l2 l3 : Addr) : Heap := (z3e h l1 l2 l3).push { cls := .type "zip", data := .fields #[.none, .bool false, .bool false, .ref (z3c h l1 l2 l3).objs.size, .ref (z3d h l1 l2 l3).objs.size] }
set_option maxHeartbeats 4000000 in
theorem zip3_new (l1 l2 l3 : Addr) (xs ys zs : Array Value) :
    Meets (Builtin.«zip.__new__» ⟨[.type "zip", .ref l1, .ref l2, .ref l3], []⟩) (fun _ R s => s.heap.IsList l1 xs ∧ s.heap.IsList l2 ys ∧ s.heap.IsList l3 zs ∧
      R (.ok (.ret (.ref (z3e s.heap l1 l2 l3).objs.size))) { s with heap := z3f s.heap l1 l2 l3 }) :=
  .of_wp fun prog w A R s h => by
    obtain ⟨hp, g, d, tk, os⟩ := s; obtain ⟨hl1, hl2, hl3, h⟩ := h
    have hsub := sub_zip
    have hL1 : Heap.IsList (Shared.heap ⟨hp, g, d, tk, os⟩) l1 xs := hl1
    have hL2 : Heap.IsList (Shared.heap ⟨hp.push { cls := .type "list_iterator", data := .fields #[.ref l1, .int 0 0] }, g, d, tk, os⟩) l2 ys := Heap.IsList.push hl2 _
    have hL3 : Heap.IsList (Shared.heap ⟨(hp.push { cls := .type "list_iterator", data := .fields #[.ref l1, .int 0 0] }).push { cls := .type "list_iterator", data := .fields #[.ref l2, .int 0 0] }, g, d, tk, os⟩) l3 zs := Heap.IsList.push (Heap.IsList.push hl3 _) _
    wp_walk using wpAny_pyIter_list hL1, wpAny_pyIter_list hL2, wpAny_pyIter_list hL3
    exact ⟨_, rfl, h⟩
theorem call_zip3 {l1 l2 l3 : Addr} {xs ys zs : Array Value} {Q : Value → Shared → Prop} (hl1 : s.heap.IsList l1 xs) (hl2 : s.heap.IsList l2 ys) (hl3 : s.heap.IsList l3 zs)
    (h : ∀ h' n, n = s.heap.objs.size → Zip3 n l1 l2 l3 xs ys zs .none 0 h' → (∀ c o, s.heap.get? c = some o → h'.get? c = some o) → Q (.ref (n + 5)) { s with heap := h' }) :
    wpAny (model prog w) A (call (.type "zip") [.ref l1, .ref l2, .ref l3]) Q E s := by
  refine callType_new F.called_zip (by decide) (typeCall_zip_3 _ _ _) (newCall_zip_3 _ _ _) (fun obj => args_init_4 obj _ _ _) F.entry_zip_new (zip3_new l1 l2 l3 xs ys zs) ⟨hl1, hl2, hl3, ?_⟩
  have a : (z3a s.heap l1).objs.size = s.heap.objs.size + 1 := Heap.size_push ..
  have b : (z3b s.heap l1 l2).objs.size = s.heap.objs.size + 2 := by rw [Heap.size_push, a]
  have c : (z3c s.heap l1 l2 l3).objs.size = s.heap.objs.size + 3 := by rw [Heap.size_push, b]
  have d : (z3d s.heap l1 l2 l3).objs.size = s.heap.objs.size + 4 := by rw [Heap.size_push, c]
  have e : (z3e s.heap l1 l2 l3).objs.size = s.heap.objs.size + 5 := by rw [Heap.size_push, d]
  have g6 : (z3f s.heap l1 l2 l3).get? (z3e s.heap l1 l2 l3).objs.size = some _ := Heap.get?_push_size _ rfl
  have g5 : (z3f s.heap l1 l2 l3).get? (z3d s.heap l1 l2 l3).objs.size = some _ := Heap.get?_push_of_some _ (Heap.get?_push_size _ rfl)
  have g4 : (z3f s.heap l1 l2 l3).get? (z3c s.heap l1 l2 l3).objs.size = some _ := Heap.get?_push_of_some _ (Heap.get?_push_of_some _ (Heap.get?_push_size _ rfl))
  have g3 : (z3f s.heap l1 l2 l3).get? (z3b s.heap l1 l2).objs.size = some _ := Heap.get?_push_of_some _ (Heap.get?_push_of_some _ (Heap.get?_push_of_some _ (Heap.get?_push_size _ rfl)))
  have g2 : (z3f s.heap l1 l2 l3).get? (z3a s.heap l1).objs.size = some _ := Heap.get?_push_of_some _ (Heap.get?_push_of_some _ (Heap.get?_push_of_some _ (Heap.get?_push_of_some _ (Heap.get?_push_size _ rfl))))
  have g1 : (z3f s.heap l1 l2 l3).get? s.heap.objs.size = some _ := Heap.get?_push_of_some _ (Heap.get?_push_of_some _ (Heap.get?_push_of_some _ (Heap.get?_push_of_some _ (Heap.get?_push_of_some _ (Heap.get?_push_size _ rfl)))))
  have up : ∀ c o, s.heap.get? c = some o → (z3f s.heap l1 l2 l3).get? c = some o := fun c o x => Heap.get?_push_of_some _ (Heap.get?_push_of_some _ (Heap.get?_push_of_some _ (Heap.get?_push_of_some _ (Heap.get?_push_of_some _ (Heap.get?_push_of_some _ x)))))
  show _ ∧ _
  rw [e, d, c] at g6
  rw [d] at g5
  rw [c, b, a] at g4
  rw [b] at g3
  rw [a] at g2
  rw [e]
  exact ⟨⟨_, g6, rfl⟩, h _ _ rfl ⟨g6, g4, ⟨_, _, _, g5⟩, ⟨_, g1, rfl, rfl⟩, ⟨_, g2, rfl, rfl⟩, ⟨_, g3, rfl, rfl⟩, hl1.at fun o e => up _ o e, hl2.at fun o e => up _ o e, hl3.at fun o e => up _ o e⟩ up⟩
/-- a for over a zip of three lists of one length -/
theorem iterZip3 {env : Env} {body : List Stmt} {Q : Flow → Shared → Prop} {elts : List Expr} {kk : Nat} {pos : Pos} {l1 l2 l3 : Addr} {xs ys zs : List Value} {N : Nat} (hh : A.handled = none) (hl1 : s.heap.IsList l1 xs.toArray) (hl2 : s.heap.IsList l2 ys.toArray) (hl3 : s.heap.IsList l3 zs.toArray) (e1 : xs.length = N) (e2 : ys.length = N) (e3 : zs.length = N)
    (J : Nat → Heap → Prop) (hI : ∀ i h h', J i h → (∀ b o, (@LT.lt Nat _ b s.heap.objs.size) → h.get? b = some o → h'.get? b = some o) → J i h') (j0 : J 0 s.heap)
    (turn : ∀ i T x y u h tk (own : List (Addr × Obj)), i < N → xs[i]? = some x → ys[i]? = some y → zs[i]? = some u → IsTup h T #[x, y, u] → J i h → (∀ p ∈ own, h.get? p.1 = some p.2 ∧ ¬ (@LT.lt Nat _ p.1 s.heap.objs.size)) →
      wpAny (model prog w) A (assign (.Tuple elts kk pos) env (.ref T)) (fun _ s₂ => wpAny (model prog w) A (execs body env) (fun f s₃ => match f with
        | .ret v => Q (.ret v) s₃
        | .brk => Q .next s₃
        | _ => ∃ h' tk', s₃ = { s with heap := h', toks := tk' } ∧ J (i + 1) h' ∧ (∀ p ∈ own, h'.get? p.1 = some p.2) ∧ ∀ b ∈ [l1, l2, l3], ∀ o, h.get? b = some o → h'.get? b = some o) E s₂) E { s with heap := h, toks := tk })
    (done : ∀ h tk, J N h → Q .next { s with heap := h, toks := tk }) :
    wpAny (model prog w) A (call (.type "zip") [.ref l1, .ref l2, .ref l3]) (fun xv s₁ => wpAny (model prog w) A (pyIter xv) (fun it s₂ => LoopKAt prog w A env (.Tuple elts kk pos) body Q E it s₂) E s₁) E s := by
  have lt : ∀ {l : Addr} {vs : Array Value}, s.heap.IsList l vs → @LT.lt Nat _ l s.heap.objs.size := fun ⟨_, e, _⟩ => Heap.lt_size e
  refine call_zip3 hl1 hl2 hl3 fun h' n hn S up => ?_
  subst hn
  refine wpAny_pyIter_zip S.z ?_
  have out : ∀ b, b ∈ [s.heap.objs.size, s.heap.objs.size + 1, s.heap.objs.size + 2, s.heap.objs.size + 4, s.heap.objs.size + 5] → ¬ (@LT.lt Nat _ b s.heap.objs.size) := fun b hb => by
    simp only [List.mem_cons, List.not_mem_nil, or_false] at hb
    rcases hb with rfl | rfl | rfl | rfl | rfl <;> omega
  refine ⟨_, _, _, N, _, _, _, J, rfl, zip3_turns hh (lt hl1) (lt hl2) (lt hl3) (by simpa using e1) (by simpa using e2) (by simpa using e3), fun i h h' j k => hI i h h' j fun b o nb e => k b o (fun q => out b q nb) e, S, hI 0 _ _ j0 fun b o _ e => up b o e, ?_, done⟩
  rintro i v h tk hi ⟨T, x, y, u, rfl, hx, hy, hu, hT⟩ hJ S'
  have S2 := S'
  obtain ⟨q5, q3, ⟨_, _, _, q4⟩, ⟨o0, q0, _⟩, ⟨o1, q1, _⟩, ⟨o2, q2, _⟩, _, _, _⟩ := S'
  obtain ⟨o3, q3⟩ : ∃ o, h.get? (s.heap.objs.size + 3) = some o := ⟨_, q3⟩
  obtain ⟨o4, q4⟩ : ∃ o, h.get? (s.heap.objs.size + 4) = some o := ⟨_, q4⟩
  obtain ⟨o5, q5⟩ : ∃ o, h.get? (s.heap.objs.size + 5) = some o := ⟨_, q5⟩
  refine wpAny_mono (turn i T x y u h tk [(s.heap.objs.size, o0), (s.heap.objs.size + 1, o1), (s.heap.objs.size + 2, o2), (s.heap.objs.size + 3, o3), (s.heap.objs.size + 4, o4), (s.heap.objs.size + 5, o5)] hi (by simpa using hx) (by simpa using hy) (by simpa using hu) hT hJ (fun p hp => ?_)) (fun _ s₂ z => wpAny_mono z (fun f s₃ z => ?_) fun _ _ e => e) fun _ _ e => e
  · simp only [List.mem_cons, List.not_mem_nil, or_false] at hp
    rcases hp with rfl | rfl | rfl | rfl | rfl | rfl
    · exact ⟨q0, Nat.lt_irrefl _⟩
    · exact ⟨q1, by show ¬ _ < _; omega⟩
    · exact ⟨q2, by show ¬ _ < _; omega⟩
    · exact ⟨q3, by show ¬ _ < _; omega⟩
    · exact ⟨q4, by show ¬ _ < _; omega⟩
    · exact ⟨q5, by show ¬ _ < _; omega⟩
  · have fin : (∃ h' tk', s₃ = { s with heap := h', toks := tk' } ∧ J (i + 1) h' ∧ (∀ p ∈ [(s.heap.objs.size, o0), (s.heap.objs.size + 1, o1), (s.heap.objs.size + 2, o2), (s.heap.objs.size + 3, o3), (s.heap.objs.size + 4, o4), (s.heap.objs.size + 5, o5)], h'.get? p.1 = some p.2) ∧ ∀ b ∈ [l1, l2, l3], ∀ o, h.get? b = some o → h'.get? b = some o) →
        ∃ h'' tk', s₃ = { s with heap := h'', toks := tk' } ∧ J (i + 1) h'' ∧ ∀ b ∈ [s.heap.objs.size, s.heap.objs.size + 1, s.heap.objs.size + 2, s.heap.objs.size + 3, s.heap.objs.size + 4, s.heap.objs.size + 5, l1, l2, l3], ∀ o, h.get? b = some o → h''.get? b = some o := by
      rintro ⟨h'', tk', e, j, hown, hls⟩
      refine ⟨h'', tk', e, j, fun b hb o eb => ?_⟩
      simp only [List.mem_cons, List.not_mem_nil, or_false] at hb
      rcases hb with rfl | rfl | rfl | rfl | rfl | rfl | hb
      · rw [q0] at eb; cases eb; exact hown _ (.head _)
      · rw [q1] at eb; cases eb; exact hown _ (.tail _ (.head _))
      · rw [q2] at eb; cases eb; exact hown _ (.tail _ (.tail _ (.head _)))
      · rw [q3] at eb; cases eb; exact hown _ (.tail _ (.tail _ (.tail _ (.head _))))
      · rw [q4] at eb; cases eb; exact hown _ (.tail _ (.tail _ (.tail _ (.tail _ (.head _)))))
      · rw [q5] at eb; cases eb; exact hown _ (.tail _ (.tail _ (.tail _ (.tail _ (.tail _ (.head _))))))
      · exact hls b (by simpa using hb) o eb
    cases f with
    | ret v => exact z
    | brk => exact z
    | cont => exact fin z
    | next => exact fin z
end

/-- what a version's table tells -/
structure Tab (size : Int) (ns : List Int) (c : List (Int × Int)) : Prop where
  val : ∀ (i : Nat) v, ns[i]? = some v → v = kdfLook c i (1000 + Int.fmod i (if 1 > size then 1 else size))
  has : ∀ i : Nat, i < ns.length → 2 * size ≤ i → kdfHas c i = true
  key : ∀ p ∈ c, 0 ≤ p.1 ∧ p.1 < ns.length
  nd : (c.map Prod.fst).Nodup
theorem look_put (c : List (Int × Int)) (k v i d : Int) : kdfLook (kdfPut c k v) i d = if i = k then v else kdfLook c i d := by
  unfold kdfPut
  split
  · rename_i h
    unfold kdfLook
    induction c with
    | nil => simp at h
    | cons p c ih =>
      by_cases hp : p.1 = k
      · by_cases hi : i = k
        · subst hi
          simp [hp]
        · have hpi : ¬ p.1 = i := fun e => hi (e.symm.trans hp)
          simp only [List.map_cons, hp, decide_true, if_true, List.find?_cons, if_neg hi]
          have hki : ¬ k = i := fun e => hi e.symm
          simp only [hki, decide_false, hpi]
          by_cases h' : (c.any fun p => decide (p.1 = k)) = true
          · have := ih h'
            rw [if_neg hi] at this
            exact this
          · have hm : c.map (fun p => if decide (p.1 = k) = true then (p.1, v) else p) = c := by
              rw [List.map_congr_left (g := id), List.map_id]
              intro q hq
              have : ¬ q.1 = k := fun e => h' (List.any_eq_true.mpr ⟨q, hq, by simp [e]⟩)
              simp [this]
            rw [hm]
      · have h' : (c.any fun p => decide (p.1 = k)) = true := by simpa [hp] using h
        have := ih h'
        simp only [List.map_cons, hp, decide_false, List.find?_cons]
        by_cases hi : i = k
        · subst hi
          simp only [Bool.false_eq_true, if_false, hp, decide_false] at this ⊢
          exact this
        · rw [if_neg hi] at this ⊢
          simp only [Bool.false_eq_true, if_false]
          by_cases hpi : p.1 = i
          · simp [hpi]
          · simp only [hpi, decide_false]
            exact this
  · rename_i h
    unfold kdfLook
    rw [List.find?_append]
    by_cases hi : i = k
    · subst hi
      have : (c.find? fun p => decide (p.1 = i)) = none := by
        rw [List.find?_eq_none]
        intro q hq e
        exact h (List.any_eq_true.mpr ⟨q, hq, e⟩)
      rw [this]
      simp
    · have hki : ¬ k = i := fun e => hi e.symm
      rw [if_neg hi]
      cases c.find? fun p => decide (p.1 = i) <;> simp [hki]
theorem has_put (c : List (Int × Int)) (k v i : Int) : kdfHas (kdfPut c k v) i = (kdfHas c i || decide (k = i)) := by
  unfold kdfPut
  split
  · rename_i h
    have e : kdfHas (c.map fun p => if decide (p.1 = k) = true then (p.1, v) else p) i = kdfHas c i := by
      unfold kdfHas
      rw [List.any_map]
      congr 1
      funext p
      simp only [Function.comp]
      split <;> rfl
    rw [e]
    by_cases hk : k = i
    · subst hk
      unfold kdfHas
      rw [h]; rfl
    · simp [hk]
  · unfold kdfHas
    rw [List.any_append]
    simp
theorem keys_put (c : List (Int × Int)) (k v : Int) : (kdfPut c k v).map Prod.fst = if kdfHas c k = true then c.map Prod.fst else c.map Prod.fst ++ [k] := by
  unfold kdfPut kdfHas
  split
  · rw [List.map_map]
    refine List.map_congr_left fun p _ => ?_
    simp only [Function.comp]
    split <;> rfl
  · rw [List.map_append]; rfl
theorem has_mem {c : List (Int × Int)} {k : Int} : kdfHas c k = true ↔ k ∈ c.map Prod.fst := by
  unfold kdfHas
  rw [List.any_eq_true, List.mem_map]
  constructor
  · rintro ⟨p, hp, e⟩; exact ⟨p, hp, by simpa using e⟩
  · rintro ⟨p, hp, e⟩; exact ⟨p, hp, by simpa using e⟩
theorem key_put {c : List (Int × Int)} {k v : Int} {n n' : Int} (h : ∀ p ∈ c, 0 ≤ p.1 ∧ p.1 < n) (hk : 0 ≤ k ∧ k < n') (hn : n ≤ n') : ∀ p ∈ kdfPut c k v, 0 ≤ p.1 ∧ p.1 < n' := fun p hp => by
  have : p.1 ∈ (kdfPut c k v).map Prod.fst := List.mem_map_of_mem hp
  rw [keys_put] at this
  split at this
  · obtain ⟨q, hq, e⟩ := List.mem_map.mp this
    have := h q hq
    omega
  · rcases List.mem_append.mp this with hm | hm
    · obtain ⟨q, hq, e⟩ := List.mem_map.mp hm
      have := h q hq
      omega
    · rw [List.mem_singleton.mp hm]; exact hk
theorem nd_put {c : List (Int × Int)} {k v : Int} (h : (c.map Prod.fst).Nodup) : ((kdfPut c k v).map Prod.fst).Nodup := by
  rw [keys_put]
  split
  · exact h
  · rename_i hh
    rw [List.nodup_append]
    refine ⟨h, by simp, fun a ha b hb e => ?_⟩
    rw [List.mem_singleton.mp hb] at e
    exact hh (has_mem.mpr (e ▸ ha))
theorem Tab.app {size : Int} {ns : List Int} {c : List (Int × Int)} (T : Tab size ns c) (v : Int) : Tab size (ns ++ [v]) (kdfPut c ns.length v) := by
  have hl : (ns ++ [v]).length = ns.length + 1 := by simp
  refine ⟨fun i u hu => ?_, fun i hi h2 => ?_, ?_, nd_put T.nd⟩
  · rw [look_put]
    have hi := (List.getElem?_eq_some_iff.mp hu).1
    rw [hl] at hi
    by_cases e : i = ns.length
    · subst e
      rw [if_pos rfl]
      simpa using hu.symm
    · rw [if_neg (by omega)]
      rw [List.getElem?_append_left (by omega)] at hu
      exact T.val i u hu
  · rw [has_put]
    rw [hl] at hi
    by_cases e : i = ns.length
    · simp [e]
    · rw [T.has i (by omega) h2]; rfl
  · rw [hl]
    exact key_put T.key (by omega) (by omega)
theorem Tab.set {size : Int} {ns : List Int} {c : List (Int × Int)} (T : Tab size ns c) {i : Nat} (hi : i < ns.length) (v : Int) : Tab size (ns.set i v) (kdfPut c i v) := by
  refine ⟨fun j u hu => ?_, fun j hj h2 => ?_, ?_, nd_put T.nd⟩
  · rw [look_put]
    by_cases e : j = i
    · subst e
      rw [if_pos rfl]
      rw [List.getElem?_set_self hi] at hu
      exact (Option.some.inj hu).symm
    · rw [if_neg (by omega)]
      rw [List.getElem?_set_ne (by omega)] at hu
      exact T.val j u hu
  · rw [List.length_set] at hj
    rw [has_put, T.has j hj h2]; rfl
  · rw [List.length_set]
    exact key_put T.key (by omega) (by omega)
theorem rng_get {n i : Nat} {v : Int} (h : (rangeKs 1000 n)[i]? = some v) : i < n ∧ v = 1000 + (i : Int) := by
  unfold rangeKs at h
  rw [List.getElem?_map] at h
  have hi : i < n := by
    cases q : (List.range n)[i]? with
    | none => rw [q] at h; cases h
    | some x => exact by simpa using (List.getElem?_eq_some_iff.mp q).1
  rw [List.getElem?_range hi] at h
  exact ⟨hi, (Option.some.inj h).symm⟩
theorem fm1 {i n : Nat} (h : i < n) : Int.fmod (i : Int) (if 1 > (n : Int) then 1 else (n : Int)) = i := by
  rw [if_neg (by omega)]
  rw [Int.fmod_eq_emod_of_nonneg _ (by omega), Int.emod_eq_of_lt (by omega) (by omega)]
theorem fm2 {i n : Nat} (h1 : n ≤ i) (h : i < 2 * n) : Int.fmod (i : Int) (if 1 > (n : Int) then 1 else (n : Int)) = (i - n : Nat) := by
  rw [if_neg (by omega)]
  rw [Int.fmod_eq_emod_of_nonneg _ (by omega)]
  have : (i : Int) = (i - n : Nat) + (n : Int) * 1 := by omega
  rw [this, Int.add_mul_emod_self_left, Int.emod_eq_of_lt (by omega) (by omega)]
theorem look_nil (k d : Int) : kdfLook [] k d = d := rfl
theorem Tab.first (n : Nat) : Tab n (rangeKs 1000 n) [] := by
  refine ⟨fun i v h => ?_, fun i hi h2 => ?_, (fun _ h => nomatch h), List.nodup_nil⟩
  · obtain ⟨a, b⟩ := rng_get h
    rw [look_nil, fm1 a, b]
  · rw [rangeKs_length] at hi; omega
theorem dbl_get {n i : Nat} {v : Int} (h : (rangeKs 1000 n ++ rangeKs 1000 n)[i]? = some v) : i < 2 * n ∧ v = 1000 + Int.fmod (i : Int) (if 1 > (n : Int) then 1 else (n : Int)) := by
  have hi := (List.getElem?_eq_some_iff.mp h).1
  rw [List.length_append, rangeKs_length] at hi
  by_cases e : i < n
  · rw [List.getElem?_append_left (by rw [rangeKs_length]; exact e)] at h
    exact ⟨by omega, by rw [fm1 e]; exact (rng_get h).2⟩
  · rw [List.getElem?_append_right (by rw [rangeKs_length]; omega), rangeKs_length] at h
    exact ⟨by omega, by rw [fm2 (by omega) (by omega)]; exact (rng_get h).2⟩
theorem Tab.dbl (n : Nat) : Tab n (rangeKs 1000 n ++ rangeKs 1000 n) [] := by
  refine ⟨fun i v h => ?_, fun i hi h2 => ?_, (fun _ h => nomatch h), List.nodup_nil⟩
  · rw [look_nil]; exact (dbl_get h).2
  · rw [List.length_append, rangeKs_length] at hi; omega
theorem putAll_get : ∀ (c : List (Int × Int)) (l : List Int) (i : Nat), (c.map Prod.fst).Nodup → (∀ p ∈ c, 0 ≤ p.1) → i < l.length → (putAll l c)[i]? = some (kdfLook c i (l.getD i 0))
  | [], l, i, _, _, hi => by
    show l[i]? = some (kdfLook [] i (l.getD i 0))
    rw [look_nil, List.getD_eq_getElem?_getD, List.getElem?_eq_getElem hi]; rfl
  | p :: c, l, i, hn, hp, hi => by
    show (putAll (l.set p.1.toNat p.2) c)[i]? = _
    rw [List.map_cons, List.nodup_cons] at hn
    rw [putAll_get c _ i hn.2 (fun q hq => hp q (.tail _ hq)) (by rw [List.length_set]; exact hi)]
    have hp0 := hp p (.head _)
    unfold kdfLook
    rw [List.find?_cons]
    by_cases e : p.1 = (i : Int)
    · have hnone : (c.find? fun q => decide (q.1 = (i : Int))) = none := by
        rw [List.find?_eq_none]
        intro q hq eq
        exact hn.1 (List.mem_map.mpr ⟨q, hq, by rw [e]; simpa using eq⟩)
      rw [hnone]
      have : p.1.toNat = i := by omega
      simp only [e, decide_true, Option.map_none, Option.getD_none, Option.map_some, Option.getD_some]
      rw [List.getD_eq_getElem?_getD, Int.toNat_natCast, List.getElem?_set_self hi]; rfl
    · simp only [e, decide_false]
      rw [List.getD_eq_getElem?_getD, List.getElem?_set_ne (by omega), ← List.getD_eq_getElem?_getD]
theorem Tab.run {n : Nat} {ns : List Int} {c : List (Int × Int)} (T : Tab n ns c) : runOf (rangeKs 1000 n) ns.length c = ns := by
  unfold runOf
  have hlen : (((rangeKs 1000 n ++ rangeKs 1000 n).take (ns.length : Int).toNat) ++ List.replicate ((ns.length : Int).toNat - ((rangeKs 1000 n ++ rangeKs 1000 n).take (ns.length : Int).toNat).length) 0).length = ns.length := by
    rw [List.length_append, List.length_replicate, List.length_take]; omega
  refine List.ext_getElem? fun i => ?_
  by_cases hi : i < ns.length
  · rw [putAll_get c _ i T.nd (fun p hp => (T.key p hp).1) (by rw [hlen]; exact hi)]
    obtain ⟨v, hv⟩ : ∃ v, ns[i]? = some v := ⟨_, List.getElem?_eq_getElem hi⟩
    rw [hv, T.val i v hv]
    congr 1
    by_cases h2 : i < 2 * n
    · congr 1
      rw [List.getD_eq_getElem?_getD, List.getElem?_append_left (by rw [List.length_take, List.length_append, rangeKs_length]; omega), List.getElem?_take_of_lt (by omega)]
      obtain ⟨u, hu⟩ : ∃ u, (rangeKs 1000 n ++ rangeKs 1000 n)[i]? = some u := ⟨_, List.getElem?_eq_getElem (by rw [List.length_append, rangeKs_length]; omega)⟩
      rw [hu]
      exact (dbl_get hu).2
    · have hh := T.has i hi (by omega)
      unfold kdfHas at hh
      unfold kdfLook
      cases q : c.find? fun p => decide (p.1 = (i : Int)) with
      | some p => rfl
      | none =>
        rw [List.find?_eq_none] at q
        obtain ⟨p, hp, e⟩ := List.any_eq_true.mp hh
        exact absurd e (q p hp)
  · rw [List.getElem?_eq_none (by rw [putAll_len, hlen]; omega), List.getElem?_eq_none (by omega)]

structure Ver where
  v : Addr
  d : Addr
  ns : List Int
  c : List (Int × Int)
structure VOK (w : World) (size : Int) (tls : List (Addr × Obj)) (x : Ver) : Prop where
  vec : ∃ vs, Vec (Orr (KK w) tls) x.v vs ∧ IntsAre vs x.ns
  tab : ∃ o kvs, (x.d, o) ∈ tls ∧ o.IsDictOf (PySem.intKind PySem.Challenge.rw_im0011_01.row.prog w) kvs ∧ PyProof.V.FlatPairs PyData.int kvs (kdfD x.c) ∧ (x.d == sysModules) = false
  law : Tab size x.ns x.c
  few : x.c.length ≤ 10000
def lmap (Ln Lf Lm Lc Lt La : Addr) (size : Int) (ts : Tok) (u : PySem.Str → Option Value) : PySem.Str → Option Value := fun y =>
  if y = "numbers" then some (.ref Ln) else if y = "size" then some (.int size ts) else if y = "first" then some (.ref Lf) else if y = "made" then some (.ref Lm) else if y = "counts" then some (.ref Lc) else if y = "tables" then some (.ref Lt) else if y = "asked" then some (.ref La) else u y
/-- what stays the same all through law -/
structure LK where
  Ln : Addr
  Lf : Addr
  Lm : Addr
  Lc : Addr
  Lt : Addr
  La : Addr
  size : Nat
  ts : Tok
  nf : Nat
  fvs : List Value
  nvs : List Value
/-- the state of law -/
structure LS (w : World) (g : Heap) (K : LK) (fx : List Addr) (k : Nat) (h : Heap) (u : PySem.Str → Option Value) (oc : Obj) (nm nc nt na : Nat) (vers : List Ver) (cvs avs : List Value) (as : List Int) (tls : List (Addr × Obj)) : Prop where
  F : Fr g g.objs.size h (lmap K.Ln K.Lf K.Lm K.Lc K.Lt K.La K.size K.ts u)
  N : News g g.objs.size h ((g.objs.size + 1, oc) :: (K.Lm, listOf (vers.map fun x => Value.ref x.v).toArray nm) :: (K.Lc, listOf cvs.toArray nc) :: (K.Lt, listOf (vers.map fun x => Value.ref x.d).toArray nt) :: (K.La, listOf avs.toArray na) :: tls)
  cell : ∃ vc, oc.data = .cell vc
  hf : (K.Lf, listOf K.fvs.toArray K.nf) ∈ tls
  hn : (K.Ln, listOf K.nvs.toArray 0) ∈ tls
  ci : IntsAre cvs (vers.map fun x => (x.ns.length : Int))
  ai : IntsAre avs as
  ab : ∀ a ∈ as, -60000 ≤ a ∧ a ≤ 60000
  al : as.length ≤ k
  ok : ∀ x ∈ vers, VOK w K.size tls x
  len : ∀ x ∈ vers, x.ns.length ≤ 2200 + 70 * k
  v2 : 2 ≤ vers.length
  vk : vers.length ≤ 2 + k
  off : ∀ p ∈ tls, ∀ a ∈ fx, @Ne Nat p.1 a
structure LKok (g : Heap) (K : LK) : Prop where
  o1 : @LT.lt Nat _ (g.objs.size + 1) K.Lm
  o2 : @LT.lt Nat _ K.Lm K.Lc
  o3 : @LT.lt Nat _ K.Lc K.Lt
  o4 : @LT.lt Nat _ K.Lt K.La
  sz : K.size < 1060
  fi : IntsAre K.fvs (rangeKs 1000 K.size)
  nn : ∃ n0 n1 n2 n3 t0 t1 t2 t3 r, K.nvs = Value.int n0 t0 :: Value.int n1 t1 :: Value.int n2 t2 :: Value.int n3 t3 :: r
  nl : K.nvs.length ≤ 1000
def LSt (w : World) (g : Heap) (K : LK) (fx : List Addr) (k : Nat) (h : Heap) : Prop := ∃ u oc nm nc nt na vers cvs avs as tls, LS w g K fx k h u oc nm nc nt na vers cvs avs as tls
theorem fr_lmap {g h : Heap} {L : Addr} {m : PySem.Str → Option Value} {Ln Lf Lm Lc Lt La : Addr} {size : Int} {ts : Tok} (F : Fr g L h m) (e1 : m "numbers" = some (.ref Ln)) (e2 : m "size" = some (.int size ts)) (e3 : m "first" = some (.ref Lf)) (e4 : m "made" = some (.ref Lm)) (e5 : m "counts" = some (.ref Lc)) (e6 : m "tables" = some (.ref Lt)) (e7 : m "asked" = some (.ref La)) :
    Fr g L h (lmap Ln Lf Lm Lc Lt La size ts m) := by
  have e : m = lmap Ln Lf Lm Lc Lt La size ts m := by
    funext y
    unfold lmap
    split
    · next h => rw [h, e1]
    split
    · next h => rw [h, e2]
    split
    · next h => rw [h, e3]
    split
    · next h => rw [h, e4]
    split
    · next h => rw [h, e5]
    split
    · next h => rw [h, e6]
    split
    · next h => rw [h, e7]
    · rfl
  exact e ▸ F
theorem VOK.mono {w : World} {size : Int} {a b : List (Addr × Obj)} (k : ∀ p ∈ a, p ∈ b) {x : Ver} (h : VOK w size a x) : VOK w size b x :=
  ⟨let ⟨vs, e, i⟩ := h.vec; ⟨vs, e.mono fun a o z => z.imp id (k _), i⟩, let ⟨o, kvs, e, r⟩ := h.tab; ⟨o, kvs, k _ e, r⟩, h.law, h.few⟩
theorem orr_at {w : World} {g h : Heap} {L : Addr} {m : PySem.Str → Option Value} {tls news : List (Addr × Obj)} (X : (Mine.kx.heap_1 w.params).In g) (F : Fr g L h m) (N : News g L h news) (k : ∀ p ∈ tls, p ∈ news) : ∀ a o, Orr (KK w) tls a o → h.get? a = some o := fun a o e => e.elim (fun e => F.keep _ _ (X a o e)) fun e => (N _ (k _ e)).1
theorem tab_of {w : World} {h : Heap} {d : Addr} {o : Obj} {kvs : List (Int × Value)} {c : List (Int × Int)} (e : h.get? d = some o) (hd : o.IsDictOf (PySem.intKind PySem.Challenge.rw_im0011_01.row.prog w) kvs) (hf : PyProof.V.FlatPairs PyData.int kvs (kdfD c)) (hm : (d == sysModules) = false) : IntTab PySem.Challenge.rw_im0011_01.row.prog w h d (kdfD c) :=
  ⟨hm, kvs, Heap.dictOf_iff.mpr ⟨o, e, hd⟩, hf⟩
theorem w34_1 : True := by (k_with "room" => first | exact rm 1 _ (by assumption) rfl (by exact rfl) | exact rm 0 _ (by assumption) rfl (by exact rfl) | exact rm 2 _ (by assumption) rfl (by exact rfl) | exact rm0 0 (by assumption) rfl (by exact rfl) | exact rm0 1 (by assumption) rfl (by exact rfl) | ((try simp only [depth_under_make, depth_under_kw, depth_in1, depth_deeper, depth_caller]); (try dsimp only [Around.deeper, Around.in1, Around.under]); first | omega | decide)); trivial
theorem w34_2 : True := by (k_with "unitz" => first | exact rm 3 _ (by assumption) rfl (by exact rfl) | exact rm 4 _ (by assumption) rfl (by exact rfl) | exact rm 0 _ (by assumption) rfl (by exact rfl) | exact rm 1 _ (by assumption) rfl (by exact rfl) | exact rm 6 _ (by assumption) rfl (by exact rfl) | exact rm 7 _ (by assumption) rfl (by exact rfl) | ((try simp only [units_in1, units_deeper, Around.mark_units, units_caller]); (try dsimp only [Around.deeper, Around.in1, Around.under]); first | omega | decide)); trivial
theorem newsEnd {h₀ h h' : Heap} {L : Addr} {m : PySem.Str → Option Value} {news tl : List (Addr × Obj)} (F : Fr h₀ L h m) (N : News h₀ L h news) (x : Ext h h') (n : NewIn h h' tl) : News h₀ L h' (news ++ tl) := fun p hp => newsExt F N x n p (List.mem_append.mpr ((List.mem_append.mp hp).symm))
theorem o34_3 : True := by (k_with "call ref" => (k_here; (with_reducible show wpAny _ _ (call (Value.ref 327) _) _ _ _); k_dflt (refine' size_c ?zzkC ?_; (case zzkC => walk_at "mcx"); intro zzz zzt zzh zztk zzext zzz0 zzz1; (have zzF := frExt (by k_asm) zzext); (have zzN := newsExt (tl := []) (by k_asm) (by k_asm) zzext (fun _ h => nomatch h)); (simp only [List.nil_append] at zzN); clear zzext; revert zzz zzt zzh zztk zzz0 zzz1 zzF zzN; intro _ _ _ _ _ _ _ _; (try k_sweep)))); trivial
theorem o34_4 : True := by (k_with "call ref" => (k_here; (with_reducible show wpAny _ _ (call (Value.ref 320) _) _ _ _); k_dflt (refine' pyvec_c ?zzkC ?zzkO ?zzkl ?_; (case zzkC => walk_at "mcx"); (case zzkO => is_list); (case zzkl => first | omega | (simp only [List.length_map, List.length_range]; omega)); (intro zzr zztls zzh zztk zzext zznew zzvec; (have zzF := frExt (by k_asm) zzext); (have zzN := newsEnd (by k_asm) (by k_asm) zzext zznew); (simp only [List.cons_append, List.nil_append] at zzN); revert zzr zztls zzh zztk zzext zznew zzvec zzF zzN; intro _ _ _ _ _ _ _ _ _; (try k_sweep))))); trivial
theorem w34_5 : True := by (k_with "mstepsL" => repeat' (first | (k_unfold; (try dsimp only)) | ((fail_if_success (with_reducible show wpAny _ _ (exec (Stmt.For _ _ _ _ _) _) _ _ _)); (fail_if_success (with_reducible show wpAny _ _ (binaryOp Operator.Add (Value.ref _) (Value.ref _)) _ _ _)); (fail_if_success (with_reducible show wpAny _ _ (subscriptTail (PySem.Expr.Name _ _) (PySem.Expr.Slice _ _ _ _) _ _) _ _ _)); (fail_if_success (with_reducible show wpAny _ _ (call (Value.type "list") _) _ _ _)); (fail_if_success (with_reducible show wpAny _ _ (call (Value.type "dict") _) _ _ _)); (fail_if_success (with_reducible show wpAny _ _ (call (Value.ref 334) _) _ _ _)); (fail_if_success (with_reducible show wpAny _ _ (call (Value.ref 320) _) _ _ _)); first | walk1 | (dsimp only; walk1)))); trivial
theorem w34_6 : True := by (k_with "mstepsP" => repeat' (first | (k_unfold; (try dsimp only)) | ((fail_if_success (with_reducible show wpAny _ _ (execs (Stmt.For _ _ _ _ _ :: _) _) _ _ _)); (fail_if_success (with_reducible show wpAny _ _ (exec (Stmt.For _ _ _ _ _) _) _ _ _)); (fail_if_success (with_reducible show wpAny _ _ (binaryOp Operator.Add (Value.ref _) (Value.ref _)) _ _ _)); (fail_if_success (with_reducible show wpAny _ _ (subscriptTail (PySem.Expr.Name _ _) (PySem.Expr.Slice _ _ _ _) _ _) _ _ _)); (fail_if_success (with_reducible show wpAny _ _ (call (Value.type "list") _) _ _ _)); (fail_if_success (with_reducible show wpAny _ _ (call (Value.type "dict") _) _ _ _)); (fail_if_success (with_reducible show wpAny _ _ (call (Value.ref 334) _) _ _ _)); (fail_if_success (with_reducible show wpAny _ _ (call (Value.ref 320) _) _ _ _)); first | walk1 | (dsimp only; walk1)))); trivial
theorem add_listsE {prog : Program} {w : World} {A : Around} {E : Value → Shared → Prop} {s : Shared} {h₀ : Heap} {L : Addr} {m : PySem.Str → Option Value} {news : List (Addr × Obj)} {l b : Addr} {vs ws : List Value} {Q : Value → Shared → Prop} (F : Fr h₀ L s.heap m) (N : News h₀ L s.heap news) (hl : s.heap.IsList l vs.toArray) (hb : s.heap.IsList b ws.toArray)
    (hsz : vs.length + ws.length ≤ 1000000) (h : ∀ D h', Fr h₀ L h' m → News h₀ L h' ((D, listOf (vs ++ ws).toArray 0) :: news) → (∀ q ∈ news, @LT.lt Nat _ q.1 D) → Q (.ref D) { s with heap := h' }) :
    wpAny (model prog w) A (binaryOp .Add (.ref l) (.ref b)) Q E s := add_lists (hsz := by rw [PySem.sizeLine_eq]; omega) F N hl hb fun h' F' N' => h _ h' F' N' fun q hq => Heap.lt_size (N q hq).1
theorem news2 {h₀ h : Heap} {L : Addr} {p q : Addr × Obj} (x : h.get? p.1 = some p.2 ∧ p.1 ≠ L ∧ h₀.get? p.1 = none) (y : h.get? q.1 = some q.2 ∧ q.1 ≠ L ∧ h₀.get? q.1 = none) : News h₀ L h [p, q] := fun r hr => by
  rcases List.mem_cons.mp hr with rfl | hr
  · exact x
  · rw [List.mem_singleton.mp hr]; exact y
theorem four_ints {vs : List Value} {ns : List Int} (h : IntsAre vs ns) (hl : 4 ≤ ns.length) : ∃ n0 n1 n2 n3 t0 t1 t2 t3 r, vs = .int n0 t0 :: .int n1 t1 :: .int n2 t2 :: .int n3 t3 :: r := by
  cases h with
  | nil => simp at hl
  | cons n0 t0 h => cases h with
    | nil => simp at hl
    | cons n1 t1 h => cases h with
      | nil => simp at hl
      | cons n2 t2 h => cases h with
        | nil => simp at hl
        | cons n3 t3 h => exact ⟨_, _, _, _, _, _, _, _, _, rfl⟩
theorem newsCons {h₀ h : Heap} {L : Addr} {p : Addr × Obj} {l : List (Addr × Obj)} (x : h.get? p.1 = some p.2 ∧ p.1 ≠ L ∧ h₀.get? p.1 = none) (N : News h₀ L h l) : News h₀ L h (p :: l) := fun r hr => by
  rcases List.mem_cons.mp hr with rfl | hr
  · exact x
  · exact N r hr
theorem lawA {K : Frag} {oc dV kV doc pm cdv ct oc' dV' kV' doc' pm' cdv' ct' : Value} {od an od' an' : Option Addr} {osl osl' : Array (Option Value)} {nm ql nm' ql' : PySem.Str} {pr pr' : Arguments} {bd bd' : List Stmt} {sc sc' : Scope} {cl cl' : List (PySem.Str × Addr)}
    (ho : K.lookup 353 = some ⟨oc, od, .func (fnX nm ql pr bd sc cl dV kV doc pm an cdv ct), osl⟩) (h2 : K.lookup 353 = some ⟨oc', od', .func (fnX nm' ql' pr' bd' sc' cl' dV' kV' doc' pm' an' cdv' ct'), osl'⟩) (P : PySem.Str → Scope → List Stmt → Prop) (h : P nm' sc' bd') : P nm sc bd := by
  rw [ho] at h2; cases h2; exact h
/-- what law stands in -/
structure LawCx (w : World) (g : Heap) (mean : ExcName → Option Value) (mg mb : PySem.Str → Option Value) : Prop where
  B : Below callerA g [] g
  X : (Mine.kx.heap_1 w.params).In g
  T : Top Mine.pvw lo mean mg mb g
def LawE (w : World) (env : Env) (R1 R2 : Value → Shared → Prop) (e : Value) (s' : Shared) : Prop :=
  wpAny (model PySem.Challenge.rw_im0011_01.row.prog w) (callerA.deeper env) (leaving env e) (fun _ s'' => R1 e s'') (fun e' s'' => R2 e' s'') s'
def IsLaw (w : World) (nm : PySem.Str) (sc : Scope) (bd : List Stmt) : Prop := ∃ oc od ql pr cl dV kV doc pm an cdv ct osl, (Mine.kx.heap_1 w.params).lookup 353 = some ⟨oc, od, .func (fnX nm ql pr bd sc cl dV kV doc pm an cdv ct), osl⟩
theorem isLaw_lit {w : World} {oc' dV' kV' doc' pm' cdv' ct' : Value} {od' an' : Option Addr} {osl' : Array (Option Value)} {nm nm' ql' : PySem.Str} {pr' : Arguments} {bd bd' : List Stmt} {sc sc' : Scope} {cl' : List (PySem.Str × Addr)}
    (H : IsLaw w nm sc bd) (h2 : (Mine.kx.heap_1 w.params).lookup 353 = some ⟨oc', od', .func (fnX nm' ql' pr' bd' sc' cl' dV' kV' doc' pm' an' cdv' ct'), osl'⟩) (P : PySem.Str → Scope → List Stmt → Prop) (h : P nm' sc' bd') : P nm sc bd := by
  obtain ⟨oc, od, ql, pr, cl, dV, kV, doc, pm, an, cdv, ct, osl, ho⟩ := H
  exact lawA ho h2 P h
theorem lawC {w : World} {g : Heap} {L fa : Addr} {cd : Value} {m : PySem.Str → Option Value} {mean : ExcName → Option Value} {mg mb : PySem.Str → Option Value} {s : Shared} {nm : PySem.Str} {sc : Scope} (C : LawCx w g mean mg mb) (_hL : g.objs.size = L) (F : Fr g L s.heap m) (hk : sc.kind = .function) {D U : Nat} (hD : D ≤ 290 := by decide) (hU : U ≤ 1400 := by decide) :
    Cx w D U (callerA.deeper (envOfC nm sc L fa cd)) callerA (envOfC nm sc L fa cd) [] g g L m mean mg mb s :=
  ⟨C.B, F, C.X, C.T, Around.frames_deeper C.B.stack, rfl, hk, rfl, by simp only [depth_deeper, depth_caller, recursionLimit]; omega, by simp only [units_deeper, units_caller, cLine]; omega⟩
theorem Cx.less {w : World} {D U D' U' : Nat} {A A₀ : Around} {env : Env} {outer : List Env} {base h₀ : Heap} {L : Addr} {m : PySem.Str → Option Value} {mean : ExcName → Option Value} {mg mb : PySem.Str → Option Value} {s : Shared}
    (C : Cx w D U A A₀ env outer base h₀ L m mean mg mb s) (hD : D' ≤ D) (hU : U' ≤ U) : Cx w D' U' A A₀ env outer base h₀ L m mean mg mb s :=
  ⟨C.B, C.F, C.X, C.T, C.fr, C.hf, C.hke, C.hh, by have := C.hd; omega, by have := C.hu; omega⟩
set_option maxHeartbeats 8000000 in
theorem law_pre {w : World} {g h : Heap} {fa : Addr} {cd : Value} {m : PySem.Str → Option Value} {mean : ExcName → Option Value} {mg mb : PySem.Str → Option Value} {s : Shared} {nm : PySem.Str} {sc : Scope} {bd : List Stmt} (H : IsLaw w nm sc bd) (C : LawCx w g mean mg mb)
    {Q : Flow → Shared → Prop} {R1 R2 : Value → Shared → Prop} {sl : Addr} {svs : List Value} {sns : List Int} (hsl : g.IsList sl svs.toArray) (hsi : IntsAre svs sns) (hlen : sns.length ≤ 63) {oc : Obj} {vc : Option Value} (hoc : oc.data = .cell vc)
    (F : Fr g g.objs.size s.heap (fun y => if y = "script" then some (.ref sl) else m y)) (N : News g g.objs.size s.heap [(g.objs.size + 1, oc)])
    (hnext : ∀ (K : LK) h' tk, LKok g K → LSt w g K [g.objs.size + 1, K.Lm, K.Lc, K.Lt, K.La] 0 h' → wpAny (model PySem.Challenge.rw_im0011_01.row.prog w) (callerA.deeper (envOfC nm sc g.objs.size fa cd)) (execs (bd.drop 8) (envOfC nm sc g.objs.size fa cd)) Q (LawE w (envOfC nm sc g.objs.size fa cd) R1 R2) { s with heap := h', toks := tk }) :
    wpAny (model PySem.Challenge.rw_im0011_01.row.prog w) (callerA.deeper (envOfC nm sc g.objs.size fa cd)) (execs bd (envOfC nm sc g.objs.size fa cd)) Q (LawE w (envOfC nm sc g.objs.size fa cd) R1 R2) s := by
  have : (PySem.Challenge.rw_im0011_01, Mine.kx.heap_1) = (PySem.Challenge.rw_im0011_01, Mine.kx.heap_1) := by k_fill; rfl
  revert hnext
  refine' isLaw_lit H ?h2 (fun nm sc bd => (∀ (K : LK) h' tk, LKok g K → LSt w g K [g.objs.size + 1, K.Lm, K.Lc, K.Lt, K.La] 0 h' → wpAny (model PySem.Challenge.rw_im0011_01.row.prog w) (callerA.deeper (envOfC nm sc g.objs.size fa cd)) (execs (bd.drop 8) (envOfC nm sc g.objs.size fa cd)) Q (LawE w (envOfC nm sc g.objs.size fa cd) R1 R2) { s with heap := h', toks := tk }) →
    wpAny (model PySem.Challenge.rw_im0011_01.row.prog w) (callerA.deeper (envOfC nm sc g.objs.size fa cd)) (execs bd (envOfC nm sc g.objs.size fa cd)) Q (LawE w (envOfC nm sc g.objs.size fa cd) R1 R2) s) ?_
  case h2 => k_is
  intro hnext
  obtain ⟨B, X, T⟩ := C
  unfold LawE at *
  (try k_fold)
  generalize hL : g.objs.size = L at *
  walk_at "mstepsL"
  rename Fr _ _ _ _ => F9
  rename News _ _ _ _ => N9
  k_dflt (refine kmk_slice_lit (its := [_, _, _, _].toArray) F9 N9 (list_at (N9 _ (.head _)).1) (by kmk_part) (by kmk_part) (pick_fromZ (by omega) rfl) ?_ (by with_unfolding_all rfl) (by kmk_pure) (by rw [List.size_toArray, PySem.sizeLine_eq]; simp only [List.length_cons, List.length_nil]; omega))
  intro D1 h1 F1 N1 l1
  clear F9 N9
  walk_at "mstepsL"
  rename Fr _ _ _ _ => F9
  rename News _ _ _ _ => N9
  have hl4 := IntsAre.length hsi
  refine add_listsE F9 N9 (list_keep hsl F9.keep) (list_at (N9 _ (.head _)).1) (by simp only [List.length_drop, List.length_cons, List.length_nil]; omega) ?_
  intro D2 h2 F2 N2 l2
  have hD2 : @LT.lt Nat _ (L + 1) D2 := l2 (L + 1, oc) (by k_mem)
  have N3 := news2 (N2 _ (.head _)) (N2 (L + 1, oc) (by k_mem))
  clear F9 N9 N2 l2
  obtain ⟨nvs, nums, N3, hnv, hnl, hnl2⟩ : ∃ (nvs : List Value) (nums : List Int), News g L h2 [(D2, listOf nvs.toArray 0), (L + 1, oc)] ∧ IntsAre nvs nums ∧ 4 ≤ nums.length ∧ nvs.length ≤ 1000 := by
    refine' ⟨_, _, N3, IntsAre.append hsi (IntsAre.drop (.cons _ _ (.cons _ _ (.cons _ _ (.cons _ _ .nil)))) _), ?_, ?_⟩
    all_goals rw [List.length_append, List.length_drop]
    all_goals simp only [List.length_cons, List.length_nil]
    all_goals omega
  obtain ⟨n0, n1, n2, n3, t0, t1, t2, t3, rv, rfl⟩ := four_ints hnv hnl
  walk_at "mstepsL"
  rename Fr _ _ _ _ => F9
  rename News _ _ _ _ => N9
  rename IsRange _ _ _ _ _ _ _ _ => R9
  rename_i z tz _ _ z0 z1 _ _ _ _ _ _ _ _ _
  obtain ⟨zn, rfl⟩ : ∃ zn : Nat, z = (zn : Int) := ⟨z.toNat, by omega⟩
  refine kll_range (n := zn) rfl F9 N9 R9 (small_one (by omega) (by omega) (by omega) (by omega)) (by rw [rangeSize_one]; split <;> omega) (by omega) ?_
  intro Df fvs nf h4 tk4 F4 N4 l4 hfi
  clear F9 N9 R9
  have hD4 : @LT.lt Nat _ D2 Df := l4 _ (.head _)
  have hfl := IntsAre.length hfi
  rw [rangeKs_length] at hfl
  clear l4
  walk_at "mstepsL"
  rename Fr _ _ _ _ => F9
  rename News _ _ _ _ => N9
  refine pyvec_c (lawC ⟨B, X, T⟩ hL F9 rfl) (list_at (N9 _ (.head _)).1) (by omega) ?_
  intro V1 tls1 h5 tk5 ex5 ne5 vec5
  have F5 := frExt F9 ex5
  have N5 := newsEnd F9 N9 ex5 ne5
  have o5 := newOff N9 ne5
  clear F9 N9
  simp only [List.cons_append, List.nil_append] at N5
  walk_at "mstepsL"
  rename Fr _ _ _ _ => F9
  rename News _ _ _ _ => N9
  refine joined_c (P := Orr (KK w) tls1) (lawC ⟨B, X, T⟩ hL F9 rfl) (orr_at X F9 N9 (fun p hp => .tail _ (.tail _ (.tail _ hp)))) (fun a o e => .inl e) vec5 hfi (by omega) ?_
  intro V2 tls2 h6 tk6 ex6 ne6 vec6
  have F6 := frExt F9 ex6
  have N6 := newsEnd F9 N9 ex6 ne6
  have o6 := newOff N9 ne6
  clear F9 N9
  simp only [List.cons_append, List.nil_append] at N6
  walk_at "mstepsP"
  rename Fr _ _ _ _ => F9
  rename News _ _ _ _ => N9
  rename_i Lm _ q1 _ _ Lc _ q2 _ _ d1 _ o1 m1 _ _ i1 f1 q3 d2 _ o2 m2 _ _ i2 f2 q4 Lt _ q5 _ La _ q6 _
  have qa := fun p hp => ktn_ltOf q1.2.2.2 p hp
  have qb : ∀ p ∈ tls1 ++ tls2, @Ne Nat p.1 (L + 1) := fun p hp => by
    rcases List.mem_append.mp hp with hp | hp
    · exact o5 (L + 1, oc) (by k_mem) p hp
    · exact o6 (L + 1, oc) (by k_mem) p hp
  have e1 : ((rangeKs 1000 zn).length : Int) = zn := by rw [rangeKs_length]
  have e2 : ((rangeKs 1000 zn ++ rangeKs 1000 zn).length : Int) = 2 * zn := by rw [List.length_append, rangeKs_length]; omega
  have mem1 : ∀ (Z : Addr × Obj), ∀ p ∈ tls1, p ∈ (Df, listOf fvs.toArray nf) :: Z :: (d1, o1) :: (d2, o2) :: (tls1 ++ tls2) := fun _ p hp => .tail _ (.tail _ (.tail _ (.tail _ (List.mem_append_left _ hp))))
  have mem2 : ∀ (Z : Addr × Obj), ∀ p ∈ tls2, p ∈ (Df, listOf fvs.toArray nf) :: Z :: (d1, o1) :: (d2, o2) :: (tls1 ++ tls2) := fun _ p hp => .tail _ (.tail _ (.tail _ (.tail _ (List.mem_append_right _ hp))))
  subst hL
  have NN := newsCons (N9 _ (.tail _ (.tail _ (.tail _ (.tail _ (.tail _ (.tail _ (.tail _ (.tail _ (.head _)))))))))) (newsCons (N9 _ (.tail _ (.tail _ (.tail _ (.tail _ (.tail _ (.head _))))))) (newsCons (N9 _ (.tail _ (.tail _ (.tail _ (.tail _ (.head _)))))) (newsCons (N9 _ (.tail _ (.head _))) (newsCons (N9 _ (.head _)) (newsCons (N9 _ (.tail _ (.tail _ (.tail _ (.tail _ (.tail _ (.tail _ (.head _)))))))) (newsCons (N9 _ (.tail _ (.tail _ (.tail _ (.tail _ (.tail _ (.tail _ (.tail _ (.head _))))))))) (newsCons (N9 _ (.tail _ (.tail _ (.tail _ (.head _))))) (newsCons (N9 _ (.tail _ (.tail _ (.head _)))) (fun p hp => N9 p (.tail _ (.tail _ (.tail _ (.tail _ (.tail _ (.tail _ (.tail _ (.tail _ (.tail _ hp))))))))))))))))))
  refine hnext ⟨D2, Df, Lm, Lc, Lt, La, zn, tz, nf, fvs, _⟩ _ _ ⟨?o1, ?o2, ?o3, ?o4, (show zn < 1060 by omega), hfi, ⟨_, _, _, _, _, _, _, _, _, rfl⟩, hnl2⟩ ⟨_, oc, _, _, _, _, [⟨V1, d1, rangeKs 1000 zn, []⟩, ⟨V2, d2, rangeKs 1000 zn ++ rangeKs 1000 zn, []⟩], _, [], [], (Df, listOf fvs.toArray nf) :: (D2, listOf _ 0) :: (d1, o1) :: (d2, o2) :: (tls1 ++ tls2), fr_lmap F9 rfl rfl rfl rfl rfl rfl rfl, NN, ⟨_, hoc⟩, .head _, .tail _ (.head _), ?ci, .nil, (fun _ h => nomatch h), Nat.zero_le _, ?ok, ?ln, Nat.le_refl _, Nat.le_refl _, ?of⟩
  case o1 => show @LT.lt Nat _ (g.objs.size + 1) Lm; exact q1.2.2.1
  case o2 => exact q2.1
  case o3 => show @LT.lt Nat _ Lc Lt; exact q5.2.2.1
  case o4 => exact q6.1
  case ci =>
    show IntsAre _ [((rangeKs 1000 zn).length : Int), ((rangeKs 1000 zn ++ rangeKs 1000 zn).length : Int)]
    rw [e1, e2]
    exact .cons _ _ (.cons _ _ .nil)
  case ok =>
    intro x hx
    rcases List.mem_cons.mp hx with rfl | hx
    · exact ⟨⟨fvs, vec5.mono fun a o z => z.imp id (mem1 _ _), hfi⟩, ⟨o1, [], .tail _ (.tail _ (.head _)), i1, f1, m1⟩, Tab.first zn, Nat.zero_le _⟩
    · rw [List.mem_singleton.mp hx]
      exact ⟨⟨fvs ++ fvs, vec6.mono fun a o z => by
        rcases z with (z | z) | z
        · exact .inl z
        · exact .inr (mem1 _ _ z)
        · exact .inr (mem2 _ _ z), hfi.append hfi⟩, ⟨o2, [], .tail _ (.tail _ (.tail _ (.head _))), i2, f2, m2⟩, Tab.dbl zn, Nat.zero_le _⟩
  case ln =>
    intro x hx
    rcases List.mem_cons.mp hx with rfl | hx
    · show (rangeKs 1000 zn).length ≤ _; rw [rangeKs_length]; omega
    · rw [List.mem_singleton.mp hx]
      show (rangeKs 1000 zn ++ rangeKs 1000 zn).length ≤ _; rw [List.length_append, rangeKs_length]; omega
  case of =>
    have a2 := fun p hp => ktn_ltOf q2.2.2.2.2 p hp
    have a3 := fun p hp => ktn_ltOf q5.2.2.2.2.2.2.2 p hp
    have a4 := fun p hp => ktn_ltOf q6.2.2.2.2.2.2.2.2 p hp
    intro p hp a ha
    have hp' : p.1 = Df ∨ p.1 = D2 ∨ p.1 = d1 ∨ p.1 = d2 ∨ p ∈ tls1 ++ tls2 := by
      rcases List.mem_cons.mp hp with rfl | hp
      · exact .inl rfl
      rcases List.mem_cons.mp hp with rfl | hp
      · exact .inr (.inl rfl)
      rcases List.mem_cons.mp hp with rfl | hp
      · exact .inr (.inr (.inl rfl))
      rcases List.mem_cons.mp hp with rfl | hp
      · exact .inr (.inr (.inr (.inl rfl)))
      · exact .inr (.inr (.inr (.inr hp)))
    have ha' : a = g.objs.size + 1 ∨ a = Lm ∨ a = Lc ∨ a = Lt ∨ a = La := by simpa using ha
    clear ha hp
    have x0 : @LT.lt Nat _ (g.objs.size + 1) D2 := hD2
    have x1 : @LT.lt Nat _ D2 Df := hD4
    have x2 : @LT.lt Nat _ Df Lm := q1.1
    have x3 : @LT.lt Nat _ Lm Lc := q2.1
    have x4 : @LT.lt Nat _ Lc d1 := q3.1
    have x5 : @LT.lt Nat _ d1 d2 := q4.1
    have x6 : @LT.lt Nat _ d2 Lt := q5.1
    have x7 : @LT.lt Nat _ Lt La := q6.1
    rcases hp' with h | h | h | h | hp
    · rw [h]; rcases ha' with rfl | rfl | rfl | rfl | rfl <;> first | exact Nat.ne_of_lt (by omega) | exact Nat.ne_of_gt (by omega)
    · rw [h]; rcases ha' with rfl | rfl | rfl | rfl | rfl <;> first | exact Nat.ne_of_lt (by omega) | exact Nat.ne_of_gt (by omega)
    · rw [h]; rcases ha' with rfl | rfl | rfl | rfl | rfl <;> first | exact Nat.ne_of_lt (by omega) | exact Nat.ne_of_gt (by omega)
    · rw [h]; rcases ha' with rfl | rfl | rfl | rfl | rfl <;> first | exact Nat.ne_of_lt (by omega) | exact Nat.ne_of_gt (by omega)
    · rcases ha' with rfl | rfl | rfl | rfl | rfl
      · exact qb p hp
      · exact Nat.ne_of_lt (qa p hp)
      · exact Nat.ne_of_lt (a2 p hp)
      · exact Nat.ne_of_lt (a3 p hp)
      · exact Nat.ne_of_lt (a4 p hp)

theorem reset35 : True := by
  k_with_none
  (k_with "kinst" => (refine' InstAt.of_base ?zzF ?zzh1 ?zzh2; (case zzF => k_asm); (case zzh1 => k_asm); (case zzh2 => k_asm)))
  (k_with "mcx" => exact ⟨by k_asm, by k_asm, by k_asm, by k_asm, rfl, by first | rfl | assumption, by first | rfl | assumption, rfl, by walk_at "room", by walk_at "unitz"⟩)
  (k_with "room" => first | exact rm 1 _ (by assumption) rfl (by exact rfl) | exact rm 0 _ (by assumption) rfl (by exact rfl) | exact rm 2 _ (by assumption) rfl (by exact rfl) | exact rm0 0 (by assumption) rfl (by exact rfl) | exact rm0 1 (by assumption) rfl (by exact rfl) | ((try simp only [depth_under_make, depth_under_kw, depth_in1, depth_deeper, depth_caller]); (try dsimp only [Around.deeper, Around.in1, Around.under]); omega))
  (k_with "unitz" => first | exact rm 3 _ (by assumption) rfl (by exact rfl) | exact rm 4 _ (by assumption) rfl (by exact rfl) | exact rm 0 _ (by assumption) rfl (by exact rfl) | exact rm 1 _ (by assumption) rfl (by exact rfl) | exact rm 6 _ (by assumption) rfl (by exact rfl) | exact rm 7 _ (by assumption) rfl (by exact rfl) | ((try simp only [units_in1, units_deeper, Around.mark_units, units_caller]); (try dsimp only [Around.deeper, Around.in1, Around.under]); omega))
  (k_with "menter" => (refine' enterX ?zzk1 ?zzk2 ?zzk3 ?zzk4 ?zzk5 ?zzkA ?zzkF ?zzkK ?zzk6 ?zzk7 ?zzk8 ?zzk9 ?zzkB ?_ ?zzc2 ?zzc3 ?zzc4 ?zzc5; (case zzkA => exact rfl); (case zzkF => first | exact rfl | assumption); (case zzkK => first | exact rfl | assumption); (case zzk1 => k_asm); (case zzk2 => k_asm); (case zzk3 => k_asm); (case zzk4 => first | exact News.nil | k_asm); (case zzk5 => k_asm); (case zzk6 => k_is); (case zzk7 => k_is); (case zzk8 => walk_at "room"); (case zzk9 => first | exact BindsTo.of_eq rfl | exact binds_K (by k_in) rfl (by k_is) rfl rfl rfl); (case zzc5 => decide); (case zzkB => exact locs rfl); (case zzc2 => exact rfl); (case zzc3 => exact rfl); (case zzc4 => exact rfl); k_whole; intro _ _ _ _ _ _ _ _ _ _; (try dsimp only); (try k_fold)))
  (k_with "call builtin:len" => (k_here; (with_reducible show wpAny _ _ (call (Value.builtin _) [Value.ref _]) _ _ _); (with_unfolding_all refine' len_list ?zzk1 ?zzk2 ?_; (case zzk1 => is_list); (case zzk2 => omega); k_whole)))
  (k_with "subscriptTail" => (k_here; (with_reducible show wpAny _ _ (subscriptTail _ _ (Value.ref _) (Value.int _ _)) _ _ _); (with_unfolding_all refine' item_list ?zzk1 ?zzk2 ?zzk3 ?zzk4 ?_ ?zzk6; (case zzk1 => is_list); (case zzk2 => first | assumption | exact rfl); (case zzk3 => omega); (case zzk4 => omega); (case zzk6 => with_unfolding_all rfl); k_whole)))
  (k_with "setItem ref int" => (k_here; (with_reducible show wpAny _ _ (setItem (Value.ref _) (Value.int _ _) _) _ _ _); k_dflt (refine' set_list ?zzk1 ?zzk2 ?zzk3 ?zzk4 ?zzk5 ?zzk6 ?_; (case zzk1 => k_asm); (case zzk2 => k_asm); (case zzk6 => k_upd); (case zzk3 => omega); (case zzk4 => omega); (case zzk5 => omega); k_whole); intro _ _ _; (try k_sweep)))
  (k_with "call builtin:list.append" => (k_here; (with_reducible show wpAny _ _ (call (Value.builtin _) [Value.ref _, _]) _ _ _); k_dflt (refine' app_list ?zzk1 ?zzk2 ?zzk3 ?zzk4 ?_; (case zzk1 => k_asm); (case zzk2 => k_asm); (case zzk4 => k_upd); (case zzk3 => omega); k_whole); intro _ _ _; (try k_sweep)))
  (k_with "call type:list" => (k_here; (with_reducible show wpAny _ _ (call (Value.type _) [Value.ref _]) _ _ _); (with_unfolding_all refine' copy_list' ?zzk1 ?zzk2 ?zzk3 ?zzk4 ?_; (case zzk1 => k_asm); (case zzk2 => k_asm); (case zzk3 => is_list); (case zzk4 => omega); k_whole); walk_at "in2"))
  (k_with "truthy ref" => (k_here; (with_reducible show wpAny _ _ (truthy (Value.ref _)) _ _ _); (with_unfolding_all refine' truthy_list' ?zzk1 ?zzk2 ?_; (case zzk1 => is_list); (case zzk2 => omega); k_whole)))
  (k_with "binaryOp BitAnd int int" => (k_here; (with_reducible refine and31 ?zzk1 ?_; (case zzk1 => omega)); intro _))
  (k_with "binaryOp RShift int int" => (k_here; first | with_reducible refine shr5 ?_ | with_reducible refine shr10 ?_; intro _))
  (k_with "call ref" => (k_here; (with_reducible show wpAny _ _ (call (Value.ref 296) _) _ _ _); k_dflt (refine' new_c ?zzkC ?zzkt ?zzkz ?_; (case zzkC => walk_at "mcx"); (case zzkt => is_list); (case zzkz => first | omega | (simp only [List.length_cons, List.length_nil]; omega)); intro zzx zztls zzh zztk zzdx zzt3 zzext zznew zze; subst zze; (have zzl1 := allNe_of (zznew _ (.head _)).2 (news_get (by k_asm))); (have zzl2 := allNe_of (zznew _ (.tail _ (.head _))).2 (news_get (by k_asm))); (have zzF := frExt (by k_asm) zzext); (have zzN := newsExt (by k_asm) (by k_asm) zzext zznew); (simp only [List.cons_append, List.nil_append] at zzN); (simp only [AllNe, and_true] at zzl1 zzl2); clear zzext zznew; revert zzx zzh zztk zzdx zzt3 zzl1 zzl2 zzF zzN; intro _ _ _ _ _ _ _ _ _; (try k_sweep))))
  (k_with "call ref" => (k_here; (with_reducible show wpAny _ _ (call (Value.ref 228) _) _ _ _); k_dflt (refine' newpath0 ?zzkC ?_; (case zzkC => walk_at "mcx"); intro zzh zztk zzext; (have zzF := frExt (by k_asm) zzext); (have zzN := newsExt (by k_asm) (by k_asm) zzext (tl := []) (fun _ hp => nomatch hp)); (simp only [List.nil_append] at zzN); clear zzext; revert zzh zztk zzF zzN; intro _ _ _ _; (try k_sweep))))
  (k_with "aft1" => (intro zzr zzh zztk zzn zzext zznew; (have zzl1 := allNe_of (zznew _ (.head _)).2 (news_get (by k_asm))); (have zzF := frExt (by k_asm) zzext); (have zzN := newsExt (by k_asm) (by k_asm) zzext zznew); (simp only [List.cons_append, List.nil_append] at zzN); (simp only [AllNe, and_true] at zzl1); clear zzext zznew; revert zzr zzh zztk zzn zzl1 zzF zzN; intro _ _ _ _ _ _ _; (try k_sweep)))
  (k_with "call ref" => (k_here; (with_reducible show wpAny _ _ (call (Value.ref 228) _) _ _ _); k_dflt (refine' newpath5 ?zzkC ?zzkx ?zzkd ?_; (case zzkC => walk_at "mcx"); (case zzkx => walk_at "hx"); (case zzkd => walk_at "hx"); walk_at "aft1")))
  (k_with "hx" => first | assumption | exact Fr.keep (by k_asm) _ _ (by assumption) | exact News.get (by k_asm) (by k_mem))
  (k_with "call ref" => (k_here; (with_reducible show wpAny _ _ (call (Value.ref 263) _) _ _ _); k_dflt (refine' push5 ?zzkC ?zzkp ?zzkz ?_; (case zzkC => walk_at "mcx"); (case zzkp => is_list); (case zzkz => omega); walk_at "aft1")))
  (k_with "aft2" => (intro zzr zzr2 zzh zztk zzn zzn2 zzext zznew; (have zzl1 := allNe_of (zznew _ (.head _)).2 (news_get (by k_asm))); (have zzl2 := allNe_of (zznew _ (.tail _ (.head _))).2 (news_get (by k_asm))); (have zzF := frExt (by k_asm) zzext); (have zzN := newsExt (by k_asm) (by k_asm) zzext zznew); (simp only [List.cons_append, List.nil_append] at zzN); (simp only [AllNe, and_true] at zzl1 zzl2); clear zzext zznew; revert zzr zzr2 zzh zztk zzn zzn2 zzl1 zzl2 zzF zzN; intro _ _ _ _ _ _ _ _ _ _; (try k_sweep)))
  (k_with "call ref" => (k_here; (with_reducible show wpAny _ _ (call (Value.ref 263) _) _ _ _); k_dflt (refine' pushT ?zzkC ?zzkx ?zzkd ?zzkP ?zzkT ?zzkc ?zzkl ?zzkn ?_; (case zzkC => walk_at "mcx"); (case zzkx => walk_at "hx"); (case zzkd => walk_at "hx"); (case zzkT => assumption); (case zzkP => walk_at "hP"); (case zzkc => omega); (case zzkl => omega); (case zzkn => omega); intro zzr zztls zzh zztk zzext zznew zztr; (have zzF := frExt (by k_asm) zzext); (have zzN := newsExt (by k_asm) (by k_asm) zzext zznew); revert zzr zztls zzh zztk zzext zznew zztr zzF zzN; intro _ _ _ _ _ _ _ _ _; (try k_sweep))))
  (k_with "hP" => first | assumption | exact hPk (by k_asm) (by assumption))
  (k_with "call ref" => (k_here; (with_reducible show wpAny _ _ (call (Value.ref 214) _) _ _ _); k_dflt (refine' root_c ?zzkC ?zzkx ?zzkd ?zzkP ?zzkT ?zzkc ?zzkl ?_; (case zzkC => walk_at "mcx"); (case zzkx => walk_at "hx"); (case zzkd => walk_at "hx"); (case zzkT => assumption); (case zzkP => walk_at "hP"); (case zzkc => omega); (case zzkl => omega); intro zztp zzr zztls zzh zztk zzsh zzt zzn zzext zznew zztr; (have zzF := frExt (by k_asm) zzext); (have zzN := newsExt (by k_asm) (by k_asm) zzext zznew); (simp only [List.cons_append] at zzN); revert zztp zzr zztls zzh zztk zzsh zzt zzn zzext zznew zztr zzF zzN; intro _ _ _ _ _ _ _ _ _ _ _ _ _; (try k_sweep))))
  (k_with "call ref" => (k_here; (with_reducible show wpAny _ _ (call (Value.ref 197) _) _ _ _); k_dflt (refine' dosetT ?zzkC ?zzkx ?zzkd ?zzkiv ?zzkP ?zzkV ?zzki ?zzkl ?_; (case zzkC => walk_at "mcx"); (case zzkx => walk_at "hx"); (case zzkd => walk_at "hx"); (case zzkiv => assumption); (case zzkV => assumption); (case zzkP => walk_at "hP"); (case zzki => omega); (case zzkl => omega); intro zzr zztls zzh zztk zzext zznew zztr; (have zzF := frExt (by k_asm) zzext); (have zzN := newsExt (by k_asm) (by k_asm) zzext zznew); revert zzr zztls zzh zztk zzext zznew zztr zzF zzN; intro _ _ _ _ _ _ _ _ _; (try k_sweep))))
  (k_with "call ref" => (k_here; (with_reducible show wpAny _ _ (call (Value.ref 221) _) _ _ _); k_dflt (refine' append_c ?zzkC ?zzkx ?zzkd ?zzkP ?zzkV ?zzkt ?zzkl ?_; (case zzkC => walk_at "mcx"); (case zzkx => walk_at "hx"); (case zzkd => walk_at "hx"); (case zzkV => assumption); (case zzkt => assumption); (case zzkP => walk_at "hP"); (case zzkl => omega); intro zzx zzdx zztl zzh zztk zzc zzt1 zzsh zzt2 zzrt zzoff zzt3 zzn zztls zzls zzys zzzs zzext zznew zzof zztr zze; (have zzF := frExt (by k_asm) zzext); (have zzN := newsExt (by k_asm) (by k_asm) zzext zznew); (simp only [List.cons_append] at zzN); revert zzx zzdx zztl zzh zztk zzc zzt1 zzsh zzt2 zzrt zzoff zzt3 zzn zztls zzls zzys zzzs zzext zznew zzof zztr zze zzF zzN; intro _ _ _ _ _ _ _ _ _ _ _ _ _ _ _ _ _ _ _ _ _ _ _ _; (try k_sweep))))
  (k_with "msteps" => repeat' (first | (k_unfold; (try dsimp only)) | ((fail_if_success (with_reducible show wpAny _ _ (exec (Stmt.For _ _ _ _ _) _) _ _ _)); (fail_if_success (with_reducible show wpAny _ _ (exec (Stmt.While _ _ _ _) _) _ _ _)); first | walk1 | (dsimp only; walk1) | (leave1; (try dsimp only)))))
  (k_with "menterN" => (refine' enterX ?zzk1 ?zzk2 ?zzk3 ?zzk4 ?zzk5 ?zzkA ?zzkF ?zzkK ?zzk6 ?zzk7 ?zzk8 ?zzk9 ?zzkB ?_ ?zzc2 ?zzc3 ?zzc4 ?zzc5; (case zzkA => exact rfl); (case zzkF => first | exact rfl | assumption); (case zzkK => first | exact rfl | assumption); (case zzk1 => k_asm); (case zzk2 => k_asm); (case zzk3 => k_asm); (case zzk4 => k_asm); (case zzk5 => k_asm); (case zzk6 => k_is); (case zzk7 => k_is); (case zzk8 => walk_at "room"); (case zzk9 => exact BindsTo.of_eq rfl); (case zzc5 => decide); (case zzkB => exact locs rfl); (case zzc2 => exact rfl); (case zzc3 => exact rfl); (case zzc4 => exact rfl); k_whole; intro _ _ _ _ _ _ _ _ _ _; (try dsimp only); (try k_fold)))
  (k_with "call builtin:list.extend" => (k_here; (with_reducible show wpAny _ _ (call (Value.builtin _) [Value.ref _, Value.ref _]) _ _ _); k_dflt (refine' ext_list ?zzF ?zzN ?zzb ?zzz ?zzU ?_; (case zzF => k_asm); (case zzN => k_asm); (case zzU => k_updF); (case zzb => walk_at "hx"); (case zzz => omega); k_whole); intro zzh zzn zzF zzN; (try dsimp only at zzN); revert zzh zzn zzF zzN; intro _ _ _ _; (try k_sweep)))
  (k_with "kall" => assumption)
  (k_with "call ref" => (k_here; (with_reducible show wpAny _ _ (call (Value.ref 176) _) _ _ _); k_dflt (refine' tolist_c ?zzkC ?zzkP ?zzkV ?zzkl ?_; (case zzkC => walk_at "mcx"); (case zzkV => assumption); (case zzkP => walk_at "hP"); (case zzkl => omega); walk_at "aft1")))
  (k_with "kinst" => (refine' InstAt.of_base ?zzF ?zzh1 ?zzh2; (case zzF => k_asm); (case zzh1 => first | k_asm | exact Fr.keep (by k_asm) _ _ (by assumption)); (case zzh2 => first | k_asm | exact Fr.keep (by k_asm) _ _ (by assumption))))
  (k_with "hP" => first | assumption | exact hPk (by k_asm) (by assumption) | exact hPk (by k_asm) (hPk (by k_asm) (by assumption)))
  (k_with "aftV" => (intro zzr zztls zzh zztk zzext zznew zzvec; (have zzF := frExt (by k_asm) zzext); (have zzN := newsExt (by k_asm) (by k_asm) zzext zznew); revert zzr zztls zzh zztk zzext zznew zzvec zzF zzN; intro _ _ _ _ _ _ _ _ _; (try k_sweep)))
  (k_with "call ref" => (k_here; (with_reducible show wpAny _ _ (call (Value.ref 256) _) _ _ _); k_dflt (refine' ext_l ?zzkC ?zzkP ?zzkV ?zzkO ?zzkl ?_; (case zzkC => walk_at "mcx"); (case zzkV => assumption); (case zzkO => is_list); (case zzkP => walk_at "hP"); (case zzkl => first | omega | (simp only [List.length_append, List.length_nil]; omega)); walk_at "aftV")))
  (k_with "call ref" => (k_here; (with_reducible show wpAny _ _ (call (Value.ref 256) _) _ _ _); k_dflt (refine' ext_v ?zzkC ?zzkP ?zzkV ?zzkO ?zzkl ?_; (case zzkC => walk_at "mcx"); (case zzkV => assumption); (case zzkO => assumption); (case zzkP => walk_at "hP"); (case zzkl => omega); walk_at "aftV")))
  (k_with "call builtin:isinstance" => (k_here; (with_reducible show wpAny _ _ (call _ [Value.int _ _, Value.type _]) _ _ _); k_dflt (refine' kia_one kitx_int ?zzX trivial ?zzee ?zznb ?_; (case zzX => k_in); (case zzee => kit_is); (case zznb => kit_nb); k_whole; intro _)))
  (k_with "aftE" => (intro zzh zztk zzext; (have zzF := frExt (by k_asm) zzext); (have zzN := newsExt (tl := []) (by k_asm) (by k_asm) zzext (fun _ h => nomatch h)); (simp only [List.nil_append] at zzN); clear zzext; revert zzh zztk zzF zzN; intro _ _ _ _; (try k_sweep)))
  (k_with "call ref" => (k_here; (with_reducible show wpAny _ _ (call (Value.ref 204) _) _ _ _); k_dflt (refine' node_t ?zzkC ?zzkx ?zzkd ?zzkP ?zzkV ?zzk1 ?zzk2 ?_; (case zzkC => walk_at "mcx"); (case zzkx => walk_at "hx"); (case zzkd => walk_at "hx"); (case zzkV => assumption); (case zzkP => walk_at "hP"); (case zzk1 => omega); (case zzk2 => omega); walk_at "aftE")))
  (k_with "call ref" => (k_here; (with_reducible show wpAny _ _ (call (Value.ref 204) _) _ _ _); k_dflt (refine' node_l ?zzkC ?zzkx ?zzkd ?zzkP ?zzkV ?zzkl ?zzk1 ?zzk2 ?_; (case zzkC => walk_at "mcx"); (case zzkx => walk_at "hx"); (case zzkd => walk_at "hx"); (case zzkV => assumption); (case zzkP => walk_at "hP"); (case zzkl => omega); (case zzk1 => omega); (case zzk2 => omega); intro zzb zzh zztk zzext zzlat; (have zzil := LAt.is (by assumption) zzlat); (have zzF := frExt (by k_asm) zzext); (have zzN := newsExt (tl := []) (by k_asm) (by k_asm) zzext (fun _ h => nomatch h)); (simp only [List.nil_append] at zzN); clear zzext zzlat; revert zzb zzh zztk zzil zzF zzN; intro _ _ _ _ _ _; (try k_sweep))))
  (k_with "call ref" => (k_here; (with_reducible show wpAny _ _ (call (Value.ref 204) _) _ _ _); k_dflt (refine' node_e ?zzkC ?zzkx ?zzkd ?zzk1 ?zzk2 ?zzk3 ?_; (case zzkC => walk_at "mcx"); (case zzkx => walk_at "hx"); (case zzkd => walk_at "hx"); (case zzk1 => omega); (case zzk2 => omega); (case zzk3 => omega); (intro _ _ _ _ _ _ _); (try dsimp only))))
  (k_with "mcatch" => (refine' catchX (x := "IndexError") (T' := "IndexError") (KF := Mine.kx.heap_1 _) ?zzR ?zzF ?zzN ?zzK ?zzU ?zzXB ?zzTB ?zzex PyProof.Rows.Boot.«IndexError» ?zzhn PySem.F.isExc_IndexError PySem.F.notTuple_IndexError ?zzhs ?_; (case zzR => assumption); (case zzF => k_asm); (case zzN => k_asm); (case zzK => k_asm); (case zzU => assumption); (case zzXB => assumption); (case zzTB => assumption); (case zzex => k_is); (case zzhn => decide); (case zzhs => kts_sub); intro _ _ _ _ _ _ _ _))
  (k_with "exec Try" => (k_here; refine wpAny_Try_except ?_))
  (k_with "room" => first | exact rm 1 _ (by assumption) rfl (by exact rfl) | exact rm 0 _ (by assumption) rfl (by exact rfl) | exact rm 2 _ (by assumption) rfl (by exact rfl) | exact rm0 0 (by assumption) rfl (by exact rfl) | exact rm0 1 (by assumption) rfl (by exact rfl) | ((try simp only [depth_under_make, depth_under_kw, depth_in1, depth_deeper, depth_caller]); (try dsimp only [Around.deeper, Around.in1, Around.under]); first | omega | decide))
  (k_with "unitz" => first | exact rm 3 _ (by assumption) rfl (by exact rfl) | exact rm 4 _ (by assumption) rfl (by exact rfl) | exact rm 0 _ (by assumption) rfl (by exact rfl) | exact rm 1 _ (by assumption) rfl (by exact rfl) | exact rm 6 _ (by assumption) rfl (by exact rfl) | exact rm 7 _ (by assumption) rfl (by exact rfl) | ((try simp only [units_in1, units_deeper, Around.mark_units, units_caller]); (try dsimp only [Around.deeper, Around.in1, Around.under]); first | omega | decide))
  (k_with "mstepsL" => repeat' (first | (k_unfold; (try dsimp only)) | ((fail_if_success (with_reducible show wpAny _ _ (exec (Stmt.For _ _ _ _ _) _) _ _ _)); (fail_if_success (with_reducible show wpAny _ _ (binaryOp Operator.Add (Value.ref _) (Value.ref _)) _ _ _)); (fail_if_success (with_reducible show wpAny _ _ (subscriptTail (PySem.Expr.Name _ _) (PySem.Expr.Slice _ _ _ _) _ _) _ _ _)); (fail_if_success (with_reducible show wpAny _ _ (call (Value.type "list") _) _ _ _)); (fail_if_success (with_reducible show wpAny _ _ (call (Value.type "dict") _) _ _ _)); (fail_if_success (with_reducible show wpAny _ _ (call (Value.ref 334) _) _ _ _)); (fail_if_success (with_reducible show wpAny _ _ (call (Value.ref 320) _) _ _ _)); first | walk1 | (dsimp only; walk1))))
  (k_with "mstepsP" => repeat' (first | (k_unfold; (try dsimp only)) | ((fail_if_success (with_reducible show wpAny _ _ (execs (Stmt.For _ _ _ _ _ :: _) _) _ _ _)); (fail_if_success (with_reducible show wpAny _ _ (exec (Stmt.For _ _ _ _ _) _) _ _ _)); (fail_if_success (with_reducible show wpAny _ _ (binaryOp Operator.Add (Value.ref _) (Value.ref _)) _ _ _)); (fail_if_success (with_reducible show wpAny _ _ (subscriptTail (PySem.Expr.Name _ _) (PySem.Expr.Slice _ _ _ _) _ _) _ _ _)); (fail_if_success (with_reducible show wpAny _ _ (call (Value.type "list") _) _ _ _)); (fail_if_success (with_reducible show wpAny _ _ (call (Value.type "dict") _) _ _ _)); (fail_if_success (with_reducible show wpAny _ _ (call (Value.ref 334) _) _ _ _)); (fail_if_success (with_reducible show wpAny _ _ (call (Value.ref 320) _) _ _ _)); first | walk1 | (dsimp only; walk1))))
  trivial
def kn : List (PySem.Str × Value) → (PySem.Str → Option Value) → PySem.Str → Option Value
  | [], u => u
  | (x, v) :: l, u => fun y => if y = x then some v else kn l u y
def AllK : List (PySem.Str × Value) → (PySem.Str → Option Value) → Prop
  | [], _ => True
  | (x, v) :: l, m => m x = some v ∧ AllK l m
theorem kn_of : ∀ {l : List (PySem.Str × Value)} {m : PySem.Str → Option Value}, AllK l m → kn l m = m
  | [], _, _ => rfl
  | (x, v) :: l, m, e => by
    funext y
    show (if y = x then some v else kn l m y) = m y
    rw [kn_of e.2]
    split
    · next h => rw [h, e.1]
    · rfl
theorem fr_kn {g h : Heap} {L : Addr} {m : PySem.Str → Option Value} {l : List (PySem.Str × Value)} (F : Fr g L h m) (e : AllK l m) : Fr g L h (kn l m) := (kn_of e).symm ▸ F
section
variable {prog : Program} {w : World} {A : Around} {E : Value → Shared → Prop} {s : Shared} {env : Env} {target : Expr} {body : List Stmt} {Q : Flow → Shared → Prop}
theorem iterRangeK {x : PySem.Str} {px : Pos} {r : Addr} {a b : Int} {t₀ u₀ v₀ : Tok} {n : Nat} (hh : A.handled = none) (hr : IsRange s.heap r a b 1 t₀ u₀ v₀) (hsmall : Builtin.Range.small a b 1 = true) (hn : Builtin.Range.rangeSize a b 1 = (n : Int)) (J : Addr → Nat → Heap → Prop)
    (hI : ∀ i h h', J s.heap.objs.size i h → (∀ b o, b ≠ s.heap.objs.size → h.get? b = some o → h'.get? b = some o) → J s.heap.objs.size i h') (j0 : J s.heap.objs.size 0 s.heap)
    (turn : ∀ i t h tk oI, i < n → J s.heap.objs.size i h → h.get? s.heap.objs.size = some oI →
      wpAny (model prog w) A (assign (.Name x px) env (.int (a + (i : Int)) t)) (fun _ s₂ => wpAny (model prog w) A (execs body env) (TurnEndK s [s.heap.objs.size] h (J s.heap.objs.size (i + 1)) Q) E s₂) E { s with heap := h, toks := tk })
    (done : ∀ h tk, J s.heap.objs.size n h → Q .next { s with heap := h, toks := tk }) :
    wpAny (model prog w) A (pyIter (.ref r)) (fun it s₂ => LoopKAt prog w A env (.Name x px) body Q E it s₂) E s := by
  refine wpAny_pyIter_range hr hsmall ?_
  have W : Walks prog w A s.heap.objs.size [s.heap.objs.size] [s.heap.objs.size] n (fun i v => i < n ∧ ∃ t, v = .int (a + i * 1) t)
      (fun i h => IsRangeIter h s.heap.objs.size (a + (i : Nat) * 1) ((n : Int) - (i : Nat)) 1) := (Walks.range hh _ a 1 n).bound
  refine ⟨_, _, _, n, _, _, _, J s.heap.objs.size, rfl, KTurns.ofWalks W (fun i v s Q E st q => go_name q), fun i h h' j k => hI i h h' j fun b o nb e => k b o (by simpa using nb) e, (by show IsRangeIter _ _ _ _ _; rw [hn]; simpa using Heap.get?_push_size _ rfl), hI 0 _ _ j0 (fun b o _ e => Heap.get?_push_of_some _ e), ?_, done⟩
  rintro i v h tk hi ⟨_, t, rfl⟩ hJ hst
  rw [Int.mul_one]
  exact turn i t h tk _ hi hJ hst
end
structure BS (w : World) (size : Nat) (tl : List (Addr × Obj)) (od : Obj) (v : Addr) (ns : List Int) (c : List (Int × Int)) : Prop where
  vec : ∃ vs, Vec (Orr (KK w) tl) v vs ∧ IntsAre vs ns
  dic : ∃ kvs, od.IsDictOf (PySem.intKind PySem.Challenge.rw_im0011_01.row.prog w) kvs ∧ PyProof.V.FlatPairs PyData.int kvs (kdfD c)
  law : Tab size ns c
def IsBr (w : World) (nm : PySem.Str) (sc : Scope) (b0 b1 b2 : List Stmt) : Prop := ∃ bd tg it b ps R tst tst1 pp1 pp R2, IsLaw w nm sc bd ∧ bd.drop 8 = Stmt.For tg it b [] ps :: R ∧ b.drop 9 = Stmt.If tst b0 [Stmt.If tst1 b1 b2 pp1] pp :: R2
theorem isBr_lit {w : World} {oc' dV' kV' doc' pm' cdv' ct' : Value} {od' an' : Option Addr} {osl' : Array (Option Value)} {nm nm' ql' : PySem.Str} {pr' : Arguments} {bd' b0 b1 b2 b' b0' b1' b2' R' R2' : List Stmt} {tg' it' tst' tst1' : Expr} {ps' pp1' pp' : Pos} {sc sc' : Scope} {cl' : List (PySem.Str × Addr)}
    (H : IsBr w nm sc b0 b1 b2) (h2 : (Mine.kx.heap_1 w.params).lookup 353 = some ⟨oc', od', .func (fnX nm' ql' pr' bd' sc' cl' dV' kV' doc' pm' an' cdv' ct'), osl'⟩) (e8 : bd'.drop 8 = Stmt.For tg' it' b' [] ps' :: R') (e9 : b'.drop 9 = Stmt.If tst' b0' [Stmt.If tst1' b1' b2' pp1'] pp' :: R2')
    (P : PySem.Str → Scope → List Stmt → List Stmt → List Stmt → Prop) (h : P nm' sc' b0' b1' b2') : P nm sc b0 b1 b2 := by
  obtain ⟨bd, tg, it, b, ps, R, tst, tst1, pp1, pp, R2, ⟨oc, od, ql, pr, cl, dV, kV, doc, pm, an, cdv, ct, osl, ho⟩, q8, q9⟩ := H
  rw [ho] at h2
  cases h2
  rw [q8] at e8
  cases e8
  rw [q9] at e9
  cases e9
  exact h
def NM : List PySem.Str := ["step", "tail", "item", "spot", "refused", "vector", "count"]
theorem fr_but {g h h' : Heap} {L I : Addr} {m : PySem.Str → Option Value} (F : Fr g L h m) (hL : @Ne Nat L I) (hI : g.get? I = none) (k : ∀ b o, b ≠ I → h.get? b = some o → h'.get? b = some o) : Fr g L h' m :=
  ⟨F.ns.at' fun o e => k _ _ hL e, fun b o e => k b o (fun q => by rw [q, hI] at e; cases e) (F.keep b o e), F.above⟩
theorem news_but {g h h' : Heap} {L I : Addr} {news : List (Addr × Obj)} (N : News g L h news) (off : ∀ p ∈ news, @Ne Nat p.1 I) (k : ∀ b o, b ≠ I → h.get? b = some o → h'.get? b = some o) : News g L h' news := fun p hp =>
  ⟨k _ _ (off p hp) (N p hp).1, (N p hp).2⟩
theorem news_ne {g h : Heap} {L : Addr} {news : List (Addr × Obj)} (N : News g L h news) : ∀ p ∈ news, @Ne Nat p.1 h.objs.size := fun p hp => Nat.ne_of_lt (Heap.lt_size (N p hp).1)
theorem inst_rest {w : World} {g h : Heap} {L : Addr} {m : PySem.Str → Option Value} {news rest tl : List (Addr × Obj)} {x dx rt tb : Addr} {c sh off : Int} {t1 t2 t3 : Tok} (X : (Mine.kx.heap_1 w.params).In g) (F : Fr g L h m) (N : News g L h news) (k0 : ∀ p ∈ tl, p ∈ rest) (k : ∀ p ∈ rest, p ∈ news) (hx : Orr (KK w) tl x (vecObj dx c t1 sh t2 rt tb off t3)) (hd : Orr (KK w) tl dx (dictOf [] 0)) :
    InstAt h x (vecObj dx c t1 sh t2 rt tb off t3) 296 (some (dictOf [] 0)) := ⟨orr_at X F N (fun p h => k p (k0 p h)) _ _ hx, rfl, rfl, orr_at X F N (fun p h => k p (k0 p h)) _ _ hd⟩
theorem app_sub {a b c : List (Addr × Obj)} (h : ∀ p ∈ a, p ∈ b) : ∀ p ∈ a ++ c, p ∈ b ++ c := fun p hp => by
  rcases List.mem_append.mp hp with hp | hp
  · exact List.mem_append_left _ (h p hp)
  · exact List.mem_append_right _ hp
theorem w35_1 : True := by (k_with "mstepsB" => repeat' (first | (k_unfold; (try dsimp only)) | ((fail_if_success (with_reducible show wpAny _ _ (setItem (Value.ref _) (Value.int _ _) _) _ _ _)); (fail_if_success (with_reducible show wpAny _ _ (call (Value.ref 221) _) _ _ _)); (fail_if_success (with_reducible show wpAny _ _ (call (Value.ref 256) _) _ _ _)); (fail_if_success (with_reducible show wpAny _ _ (call (Value.ref 190) _) _ _ _)); (fail_if_success (with_reducible show wpAny _ _ (exec (Stmt.For _ _ _ _ _) _) _ _ _)); (fail_if_success (with_reducible show wpAny _ _ (binaryOp Operator.Add (Value.ref _) (Value.ref _)) _ _ _)); (fail_if_success (with_reducible show wpAny _ _ (subscriptTail (PySem.Expr.Name _ _) (PySem.Expr.Slice _ _ _ _) _ _) _ _ _)); (fail_if_success (with_reducible show wpAny _ _ (call (Value.type "list") _) _ _ _)); (fail_if_success (with_reducible show wpAny _ _ (call (Value.type "dict") _) _ _ _)); (fail_if_success (with_reducible show wpAny _ _ (call (Value.ref 334) _) _ _ _)); (fail_if_success (with_reducible show wpAny _ _ (call (Value.ref 320) _) _ _ _)); first | walk1 | (dsimp only; walk1)))); trivial
theorem w35_2 : True := by (k_with "kinst" => (refine' inst_rest ?zzX ?zzF ?zzN ?zzk0 ?zzk ?zzhx ?zzhd; (case zzX => assumption); (case zzF => k_asm); (case zzN => k_asm); (case zzhx => assumption); (case zzhd => assumption); (case zzk0 => assumption); (case zzk => first | exact fun _ h => h | exact fun _ h => .tail _ h | exact fun _ h => .tail _ (.tail _ h) | exact fun _ h => .tail _ (.tail _ (.tail _ h)) | exact fun _ h => .tail _ (.tail _ (.tail _ (.tail _ h)))))); trivial
set_option maxHeartbeats 4000000 in
theorem branchA {w : World} {g : Heap} {fa : Addr} {cd : Value} {mean : ExcName → Option Value} {mg mb : PySem.Str → Option Value} {s : Shared} {nm : PySem.Str} {sc : Scope} {b0 b1 b2 : List Stmt} (H : IsBr w nm sc b0 b1 b2) (C : LawCx w g mean mg mb)
    {Q : Flow → Shared → Prop} {R1 R2 : Value → Shared → Prop} {size : Nat} {D : Addr} {rest tl : List (Addr × Obj)} {od oc : Obj} {v : Addr} {ns : List Int} {c : List (Int × Int)} {n r : Int} {tn tr tc : Tok} {u : PySem.Str → Option Value}
    (F : Fr g g.objs.size s.heap (kn [("rest", .int r tr), ("vector", .ref v), ("count", .int ns.length tc), ("changes", .ref D)] u)) (N : News g g.objs.size s.heap ((D, od) :: (g.objs.size + 1, oc) :: rest)) (hoc : oc.data = .cell (some (.int n tn))) (hDc : @Ne Nat (g.objs.size + 1) D) (hsub0 : ∀ p ∈ tl, p ∈ rest) (hoffD : ∀ p ∈ rest, @Ne Nat p.1 D) (S : BS w size tl od v ns c) (hns : ns.length ≤ 3000) (hcl : c.length ≤ 3000)
    (hnext : ∀ h' tk u' od' v' ns' c' new tc', Fr g g.objs.size h' (kn [("vector", .ref v'), ("count", .int (List.length ns') tc'), ("changes", .ref D)] u') → (∀ y, y ∉ NM → u' y = kn [("rest", .int r tr), ("vector", .ref v), ("count", .int ns.length tc), ("changes", .ref D)] u y) → News g g.objs.size h' ((D, od') :: (g.objs.size + 1, oc) :: (rest ++ new)) →
      BS w size (tl ++ new) od' v' ns' c' → (∀ q ∈ (D, od) :: (g.objs.size + 1, oc) :: rest, ∀ p ∈ new, @Ne Nat p.1 q.1) → ns'.length ≤ ns.length + 70 → c'.length ≤ c.length + 70 → Q .next { s with heap := h', toks := tk }) :
    wpAny (model PySem.Challenge.rw_im0011_01.row.prog w) (callerA.deeper (envOfC nm sc g.objs.size fa cd)) (execs b0 (envOfC nm sc g.objs.size fa cd)) Q (LawE w (envOfC nm sc g.objs.size fa cd) R1 R2) s := by
  have : (PySem.Challenge.rw_im0011_01, Mine.kx.heap_1) = (PySem.Challenge.rw_im0011_01, Mine.kx.heap_1) := by k_fill; rfl
  refine' isBr_lit H ?h2 ?e8 ?e9 (fun nm sc b0 _ _ => wpAny (model PySem.Challenge.rw_im0011_01.row.prog w) (callerA.deeper (envOfC nm sc g.objs.size fa cd)) (execs b0 (envOfC nm sc g.objs.size fa cd)) Q (LawE w (envOfC nm sc g.objs.size fa cd) R1 R2) s) ?_
  case h2 => k_is
  case e8 => exact rfl
  case e9 => exact rfl
  obtain ⟨B, X, T⟩ := C
  unfold LawE at *
  generalize hL : g.objs.size = L at *
  generalize hm₀ : kn [("rest", .int r tr), ("vector", .ref v), ("count", .int ns.length tc), ("changes", .ref D)] u = m₀ at hnext
  simp only [kn] at F
  have hr := Int.fmod_nonneg_of_pos (a := r) (b := 12) (by decide)
  have hr2 := Int.fmod_lt_of_pos r (b := 12) (by decide)
  have hm₀c : m₀ "changes" = some (.ref D) := by rw [← hm₀]; rfl
  walk_at "mstepsL"
  refine For_K ?_
  walk_at "mstepsL"
  rename Fr _ _ _ _ => F9
  rename News _ _ _ _ => N9
  rename IsRange _ _ _ _ _ _ _ _ => R9
  have hgI := next_is_new F9
  have hLI := Nat.ne_of_lt F9.ns.lt
  refine iterRangeK (n := (1 + Int.fmod r 12).toNat) rfl R9 (small_one (by omega) (by omega) (by omega) (by omega)) (by rw [rangeSize_one]; split <;> omega)
    (fun I i h => ∃ (u : PySem.Str → Option Value) (v : Addr) (ns' : List Int) (c' : List (Int × Int)) (od' : Obj) (new : List (Addr × Obj)) (tc' : Tok), Fr g L h (kn [("vector", .ref v), ("count", .int (List.length ns') tc'), ("changes", .ref D)] u) ∧ (∀ y, y ∉ NM → u y = m₀ y) ∧ News g L h ((D, od') :: (L + 1, oc) :: (rest ++ new)) ∧ BS w size (tl ++ new) od' v ns' c' ∧ (∀ q ∈ (D, od) :: (L + 1, oc) :: rest, ∀ p ∈ new, @Ne Nat p.1 q.1) ∧ ns'.length ≤ ns.length + i ∧ c'.length ≤ c.length + i ∧ (∀ p ∈ (D, od') :: (L + 1, oc) :: (rest ++ new), @Ne Nat p.1 I)) ?_ ?_ ?_ ?_
  · rintro i h h' ⟨u1, v1, ns1, c1, od1, new1, tc1, F1, hu1, N1, S1, hof1, hn1, hc1, offI⟩ hk
    exact ⟨u1, v1, ns1, c1, od1, new1, tc1, fr_but F1 hLI hgI hk, hu1, news_but N1 offI hk, S1, hof1, hn1, hc1, offI⟩
  · refine ⟨_, v, ns, c, od, [], tc, fr_kn F9 ⟨rfl, rfl, rfl, trivial⟩, ?_, by rw [List.append_nil]; exact N9, by rw [List.append_nil]; exact S, (fun _ _ _ h => nomatch h), Nat.le_refl _, Nat.le_refl _, by rw [List.append_nil]; exact news_ne N9⟩
    intro y hy
    rw [← hm₀]
    rfl
  · rintro i t h tk oI hi' ⟨u1, v1, ns1, c1, od1, new1, tc1, F1, hu1, N1, S1, hof1, hn1, hc1, offI⟩ hoI
    have N2 : News g L h ((D, od1) :: (L + 1, oc) :: (_, oI) :: (rest ++ new1)) := newsCons (N1 _ (.head _)) (newsCons (N1 _ (.tail _ (.head _))) (newsCons ⟨hoI, Nat.ne_of_gt F9.ns.lt, hgI⟩ (fun p hp => N1 p (.tail _ (.tail _ hp)))))
    simp only [kn] at F1
    obtain ⟨vs1, hv1, hi1⟩ := S1.vec
    obtain ⟨dx1, vc1, vt1, sh1, vt2, rt1, tl1, off1, vt3, ls1, ys1, zs1, hvx, hvd, _, _, _⟩ := id hv1
    obtain ⟨kvs1, hd1, hf1⟩ := S1.dic
    have hil := IntsAre.length hi1
    have cl1 := kdfPut_len c1
    have hofD : ∀ p ∈ rest ++ new1, @Ne Nat p.1 D := fun p hp => (List.mem_append.mp hp).elim (hoffD p) (hof1 (D, od) (.head _) p)
    have hsub1 := app_sub (c := new1) hsub0
    clear F9 N9 N1
    walk_at "mstepsB"
    rename Fr _ _ _ _ => F9
    rename News _ _ _ _ => N9
    refine append_v (P := Orr (KK w) (tl ++ new1)) (lawC ⟨B, X, T⟩ hL F9 rfl) (orr_at X F9 N9 (fun p hp => .tail _ (.tail _ (.tail _ (hsub1 p hp))))) hv1 (by omega) ?_
    intro V tl2 h2 tk2 ex2 ne2 vec2
    have F10 := frExt F9 ex2
    have N10 := newsEnd F9 N9 ex2 ne2
    have o10 := newOff N9 ne2
    simp only [List.cons_append] at N10
    clear F9 N9
    walk_at "mstepsB"
    rename Fr _ _ _ _ => F9
    rename News _ _ _ _ => N9
    refine kdf_setItem F9 N9 (UpdF.head ?_) hd1 hf1 (by omega) ?_
    · intro p hp
      rcases List.mem_cons.mp hp with rfl | hp
      · exact hDc
      rcases List.mem_cons.mp hp with rfl | hp
      · exact fun e => offI (D, od1) (.head _) e.symm
      rcases List.mem_append.mp hp with hp | hp
      · exact hofD p hp
      · exact o10 (D, od1) (.head _) p hp
    intro h3 od3 kvs3 F11 N11 hd3 hf3
    clear F9 N9
    walk_at "mstepsB"
    rename Fr _ _ _ _ => F9
    rename News _ _ _ _ => N9
    have e5 : ((List.length (ns1 ++ [n + (0 + (i : Int))]) : Nat) : Int) = (ns1.length : Int) + 1 := by rw [List.length_append, List.length_singleton]; omega
    rw [← e5] at F9
    have hsub : ∀ p ∈ rest ++ (new1 ++ tl2), p ∈ rest ++ new1 ++ tl2 := fun p hp => by rw [List.append_assoc]; exact hp
    refine ⟨_, _, rfl, ⟨_, V, ns1 ++ [n + (0 + (i : Int))], kdfPut c1 ns1.length (n + (0 + (i : Int))), od3, new1 ++ tl2, _, fr_kn F9 ⟨rfl, rfl, rfl, trivial⟩, ?_, ?_, ⟨⟨_, vec2.mono ?_, hi1.append (.cons _ _ .nil)⟩, ⟨kvs3, hd3, hf3⟩, S1.law.app _⟩, ?_, ?_, ?_, ?_⟩, ?_⟩
    · intro y hy
      have hy' := hy
      simp only [NM, List.mem_cons, List.not_mem_nil, or_false, not_or] at hy'
      obtain ⟨a1, a2, a3, a4, a5, a6, a7⟩ := hy'
      simp only [a1, a2, a3, a4, a5, a6, a7, if_false]
      split
      · next h => rw [h, hm₀c]
      · exact hu1 y hy
    · exact newsCons (N9 _ (.head _)) (newsCons (N9 _ (.tail _ (.head _))) (fun p hp => N9 p (.tail _ (.tail _ (.tail _ (hsub p hp))))))
    · intro a o z
      rcases z with (z | z) | z
      · exact .inl z
      · exact .inr (by rw [← List.append_assoc]; exact List.mem_append_left _ z)
      · exact .inr (by rw [← List.append_assoc]; exact List.mem_append_right _ z)
    · intro q hq p hp
      rcases List.mem_append.mp hp with hp | hp
      · exact hof1 q hq p hp
      rcases List.mem_cons.mp hq with rfl | hq
      · exact o10 (D, od1) (.head _) p hp
      rcases List.mem_cons.mp hq with rfl | hq
      · exact o10 (L + 1, oc) (.tail _ (.head _)) p hp
      · exact o10 q (.tail _ (.tail _ (.tail _ (List.mem_append_left _ hq)))) p hp
    · simp only [List.length_append, List.length_singleton]; omega
    · have := cl1 ns1.length (n + (0 + (i : Int))); omega
    · intro p hp
      rcases List.mem_cons.mp hp with rfl | hp
      · exact offI (D, od1) (.head _)
      rcases List.mem_cons.mp hp with rfl | hp
      · exact offI (L + 1, oc) (.tail _ (.head _))
      rcases List.mem_append.mp (hsub p hp) with hp | hp
      · exact offI p (.tail _ (.tail _ hp))
      · exact o10 (_, oI) (.tail _ (.tail _ (.head _))) p hp
    · intro b hb o e
      have hb := List.mem_singleton.mp hb
      subst hb
      rw [hoI] at e
      cases e
      exact (N9 _ (.tail _ (.tail _ (.head _)))).1
  · rintro h tk ⟨u1, v1, ns1, c1, od1, new1, tc1, F1, hu1, N1, S1, hof1, hn1, hc1, offI⟩
    clear F9 N9
    walk_at "mstepsB"
    exact hnext _ _ u1 od1 v1 ns1 c1 new1 tc1 F1 hu1 N1 S1 hof1 (by omega) (by omega)

theorem off1_at {D : Addr} : ∀ {l : List (Addr × Obj)}, LCg.Off1 D l → ∀ p ∈ l, @Ne Nat p.1 D
  | [], _, _, h => nomatch h
  | q :: r, x, p, h => by
    rcases List.mem_cons.mp h with rfl | h
    · exact x.1
    · exact off1_at x.2 p h
set_option maxHeartbeats 4000000 in
theorem branchB {w : World} {g : Heap} {fa : Addr} {cd : Value} {mean : ExcName → Option Value} {mg mb : PySem.Str → Option Value} {s : Shared} {nm : PySem.Str} {sc : Scope} {b0 b1 b2 : List Stmt} (H : IsBr w nm sc b0 b1 b2) (C : LawCx w g mean mg mb)
    {Q : Flow → Shared → Prop} {R1 R2 : Value → Shared → Prop} {size : Nat} {D : Addr} {rest tl : List (Addr × Obj)} {od oc : Obj} {v : Addr} {ns : List Int} {c : List (Int × Int)} {n r : Int} {tn tr tc : Tok} {u : PySem.Str → Option Value}
    (F : Fr g g.objs.size s.heap (kn [("rest", .int r tr), ("vector", .ref v), ("count", .int ns.length tc), ("changes", .ref D)] u)) (N : News g g.objs.size s.heap ((D, od) :: (g.objs.size + 1, oc) :: rest)) (hoc : oc.data = .cell (some (.int n tn))) (hDc : @Ne Nat (g.objs.size + 1) D) (hsub0 : ∀ p ∈ tl, p ∈ rest) (hoffD : ∀ p ∈ rest, @Ne Nat p.1 D) (S : BS w size tl od v ns c) (hns : ns.length ≤ 3000) (hcl : c.length ≤ 3000)
    (hnext : ∀ h' tk u' od' v' ns' c' new tc', Fr g g.objs.size h' (kn [("vector", .ref v'), ("count", .int (List.length ns') tc'), ("changes", .ref D)] u') → (∀ y, y ∉ NM → u' y = kn [("rest", .int r tr), ("vector", .ref v), ("count", .int ns.length tc), ("changes", .ref D)] u y) → News g g.objs.size h' ((D, od') :: (g.objs.size + 1, oc) :: (rest ++ new)) →
      BS w size (tl ++ new) od' v' ns' c' → (∀ q ∈ (D, od) :: (g.objs.size + 1, oc) :: rest, ∀ p ∈ new, @Ne Nat p.1 q.1) → ns'.length ≤ ns.length + 70 → c'.length ≤ c.length + 70 → Q .next { s with heap := h', toks := tk }) :
    wpAny (model PySem.Challenge.rw_im0011_01.row.prog w) (callerA.deeper (envOfC nm sc g.objs.size fa cd)) (execs b1 (envOfC nm sc g.objs.size fa cd)) Q (LawE w (envOfC nm sc g.objs.size fa cd) R1 R2) s := by
  have : (PySem.Challenge.rw_im0011_01, Mine.kx.heap_1) = (PySem.Challenge.rw_im0011_01, Mine.kx.heap_1) := by k_fill; rfl
  refine' isBr_lit H ?h2 ?e8 ?e9 (fun nm sc _ b1 _ => wpAny (model PySem.Challenge.rw_im0011_01.row.prog w) (callerA.deeper (envOfC nm sc g.objs.size fa cd)) (execs b1 (envOfC nm sc g.objs.size fa cd)) Q (LawE w (envOfC nm sc g.objs.size fa cd) R1 R2) s) ?_
  case h2 => k_is
  case e8 => exact rfl
  case e9 => exact rfl
  obtain ⟨B, X, T⟩ := C
  unfold LawE at *
  generalize hL : g.objs.size = L at *
  generalize hm₀ : kn [("rest", .int r tr), ("vector", .ref v), ("count", .int ns.length tc), ("changes", .ref D)] u = m₀ at hnext
  simp only [kn] at F
  have hr := Int.fmod_nonneg_of_pos (a := r) (b := 70) (by decide)
  have hr2 := Int.fmod_lt_of_pos r (b := 70) (by decide)
  have hm₀c : m₀ "changes" = some (.ref D) := by rw [← hm₀]; rfl
  obtain ⟨vs1, hv1, hi1⟩ := S.vec
  obtain ⟨dx1, vc1, vt1, sh1, vt2, rt1, tl1, off1, vt3, ls1, ys1, zs1, hvx, hvd, _, _, _⟩ := id hv1
  have hil := IntsAre.length hi1
  walk_at "mstepsB"
  rename Fr _ _ _ _ => F9
  rename News _ _ _ _ => N9
  rename_i ys hti htl Dt _ _ hoff
  have htn := IntsAre.length hti
  rw [htn] at htl
  obtain ⟨tns, htns⟩ : ∃ tns, tns = List.map (fun k' => n - k') (rangeKs 0 (Int.fmod r 70 - 0).toNat) := ⟨_, rfl⟩
  rw [← htns] at hti htn
  have htlen : tns.length ≤ 69 := by rw [htns, List.length_map, rangeKs_length]; omega
  clear htl
  refine ext_l (P := Orr (KK w) tl) (lawC ⟨B, X, T⟩ hL F9 rfl) (orr_at X F9 N9 (fun p hp => .tail _ (.tail _ (.tail _ (hsub0 p hp))))) hv1 (list_at (N9 _ (.head _)).1) (by omega) ?_
  intro V tl2 h2 tk2 ex2 ne2 vec2
  have F10 := frExt F9 ex2
  have N10 := newsEnd F9 N9 ex2 ne2
  have o10 := newOff N9 ne2
  simp only [List.cons_append] at N10
  have hDt : @Ne Nat Dt D := fun e => hoff.1 e.symm
  clear F9 N9
  have N11 : News g L h2 ((D, od) :: (L + 1, oc) :: (rest ++ ((Dt, LCg.lst ys) :: tl2))) := newsCons (N10 _ (.tail _ (.head _))) (newsCons (N10 _ (.tail _ (.tail _ (.head _)))) (fun p hp => by
    rcases List.mem_append.mp hp with hp | hp
    · exact N10 p (.tail _ (.tail _ (.tail _ (List.mem_append_left _ hp))))
    rcases List.mem_cons.mp hp with rfl | hp
    · exact N10 _ (.head _)
    · exact N10 p (.tail _ (.tail _ (.tail _ (List.mem_append_right _ hp))))))
  have offD : ∀ p ∈ (L + 1, oc) :: (rest ++ ((Dt, LCg.lst ys) :: tl2)), @Ne Nat p.1 D := fun p hp => by
    rcases List.mem_cons.mp hp with rfl | hp
    · exact hDc
    rcases List.mem_append.mp hp with hp | hp
    · exact hoffD p hp
    rcases List.mem_cons.mp hp with rfl | hp
    · exact hDt
    · exact o10 (D, od) (.tail _ (.head _)) p hp
  have hnew : ∀ q ∈ (D, od) :: (L + 1, oc) :: rest, ∀ p ∈ (Dt, LCg.lst ys) :: tl2, @Ne Nat p.1 q.1 := fun q hq p hp => by
    rcases List.mem_cons.mp hp with rfl | hp
    · rcases List.mem_cons.mp hq with rfl | hq
      · exact hDt
      rcases List.mem_cons.mp hq with rfl | hq
      · exact fun e => hoff.2.1 e.symm
      · exact fun e => off1_at hoff.2.2 q hq e.symm
    · exact o10 q (.tail _ hq) p hp
  clear N10
  walk_at "mstepsL"
  refine For_K ?_
  walk_at "mstepsL"
  rename Fr _ _ _ _ => F9
  rename News _ _ _ _ => N9
  have hgI := next_is_new F9
  have hLI := Nat.ne_of_lt F9.ns.lt
  have hne9 := news_ne N9
  obtain ⟨kvs0, hd0, hf0⟩ := S.dic
  have hDtm : (Dt, LCg.lst ys) ∈ rest ++ ((Dt, LCg.lst ys) :: tl2) := List.mem_append_right _ (.head _)
  refine iterK rfl (list_at (vs := ys) (N9 (Dt, LCg.lst ys) (.tail _ (.tail _ hDtm))).1) (fun i I v s Q E _ q => go_name q)
    (fun i h => ∃ (u : PySem.Str → Option Value) (c' : List (Int × Int)) (od' : Obj) (kvs' : List (Int × Value)) (tc' : Tok), Fr g L h (kn [("vector", .ref V), ("count", .int (List.length (ns ++ tns.take i)) tc'), ("changes", .ref D)] u) ∧ (∀ y, y ∉ NM → u y = m₀ y) ∧ News g L h ((D, od') :: (L + 1, oc) :: (rest ++ ((Dt, LCg.lst ys) :: tl2))) ∧ od'.IsDictOf (PySem.intKind PySem.Challenge.rw_im0011_01.row.prog w) kvs' ∧ PyProof.V.FlatPairs PyData.int kvs' (kdfD c') ∧ Tab size (ns ++ tns.take i) c' ∧ c'.length ≤ c.length + i) ?_ ?_ ?_ ?_
  · rintro I rfl i h h' ⟨u1, c1, od1, kvs1, tc1, F1, hu1, N1, a, b, t1, l1⟩ hk
    exact ⟨u1, c1, od1, kvs1, tc1, fr_but F1 hLI hgI hk, hu1, news_but N1 (fun p hp => by
      rcases List.mem_cons.mp hp with rfl | hp
      · exact hne9 (D, od) (.head _)
      · exact hne9 p (.tail _ hp)) hk, a, b, t1, l1⟩
  · refine ⟨_, c, od, kvs0, tc, fr_kn F9 ⟨rfl, ?_, rfl, trivial⟩, ?_, N9, hd0, hf0, by rw [List.take_zero, List.append_nil]; exact S.law, Nat.le_refl _⟩
    · rw [List.take_zero, List.append_nil]; rfl
    · intro y hy
      have hy' := hy
      simp only [NM, List.mem_cons, List.not_mem_nil, or_false, not_or] at hy'
      obtain ⟨a1, a2, a3, a4, a5, a6, a7⟩ := hy'
      simp only [a1, a2, a3, a4, a5, a6, a7, if_false]
      rw [← hm₀]
      simp only [kn, a1, a2, a3, a4, a5, a6, a7, if_false]
  · rintro I i v h tk hIe hvi ⟨u1, c1, od1, kvs1, tc1, F1, hu1, N1, hd1, hf1, T1, l1⟩ ⟨oI, hoI, _⟩ _
    obtain ⟨x, t, rfl, hx⟩ := IntsAre.at hti i v hvi
    have hilt := (List.getElem?_eq_some_iff.mp hx).1
    have hIL : @Ne Nat I L := by rw [hIe]; exact hLI.symm
    have hIg : g.get? I = none := by rw [hIe]; exact hgI
    have hDI : @Ne Nat I D := fun e => hne9 (D, od) (.head _) (by rw [← hIe]; exact e.symm)
    have N2 : News g L h ((D, od1) :: (L + 1, oc) :: (I, oI) :: (rest ++ ((Dt, LCg.lst ys) :: tl2))) := newsCons (N1 _ (.head _)) (newsCons (N1 _ (.tail _ (.head _))) (newsCons ⟨hoI, hIL, hIg⟩ (fun p hp => N1 p (.tail _ (.tail _ hp)))))
    have cl1 := kdfPut_len c1
    have hDth := (N1 (Dt, LCg.lst ys) (.tail _ (.tail _ hDtm))).1
    simp only [kn] at F1
    clear F9 N9 N1
    walk_at "mstepsB"
    rename Fr _ _ _ _ => F9
    rename News _ _ _ _ => N9
    refine kdf_setItem F9 N9 (UpdF.head ?_) hd1 hf1 (by omega) ?_
    · intro p hp
      rcases List.mem_cons.mp hp with rfl | hp
      · exact hDc
      rcases List.mem_cons.mp hp with rfl | hp
      · exact hDI
      · exact offD p (.tail _ hp)
    intro h3 od3 kvs3 F11 N11 hd3 hf3
    clear F9 N9
    walk_at "mstepsB"
    rename Fr _ _ _ _ => F9
    rename News _ _ _ _ => N9
    have e6 : tns.take (i + 1) = tns.take i ++ [x] := by rw [List.take_add_one, hx]; rfl
    have e5 : ((List.length (ns ++ tns.take (i + 1)) : Nat) : Int) = ((List.length (ns ++ tns.take i) : Nat) : Int) + 1 := by rw [e6, ← List.append_assoc, List.length_append (bs := [x]), List.length_singleton]; omega
    rw [← e5] at F9
    refine ⟨_, _, rfl, ⟨_, _, od3, kvs3, _, fr_kn F9 ⟨rfl, rfl, rfl, trivial⟩, ?_, newsCons (N9 _ (.head _)) (newsCons (N9 _ (.tail _ (.head _))) (fun p hp => N9 p (.tail _ (.tail _ (.tail _ hp))))), hd3, hf3, by rw [e6, ← List.append_assoc]; exact T1.app x, ?_⟩, ?_⟩
    · intro y hy
      have hy' := hy
      simp only [NM, List.mem_cons, List.not_mem_nil, or_false, not_or] at hy'
      obtain ⟨a1, a2, a3, a4, a5, a6, a7⟩ := hy'
      simp only [a1, a2, a3, a4, a5, a6, a7, if_false]
      split
      · next h => rw [h, hm₀c]
      · exact hu1 y hy
    · have := cl1 (List.length (ns ++ tns.take i) : Nat) x; omega
    · intro b hb o e
      rcases List.mem_cons.mp hb with rfl | hb
      · rw [hoI] at e; cases e; exact (N9 _ (.tail _ (.tail _ (.head _)))).1
      · have hb := List.mem_singleton.mp hb
        subst hb
        rw [hDth] at e; cases e
        exact (N9 (b, LCg.lst ys) (.tail _ (.tail _ (.tail _ hDtm)))).1
  · rintro h tk ⟨u1, c1, od1, kvs1, tc1, F1, hu1, N1, hd1, hf1, T1, l1⟩
    rw [htn, List.take_length] at F1 T1
    clear F9 N9
    walk_at "mstepsB"
    refine hnext _ _ u1 od1 V (ns ++ tns) c1 _ tc1 F1 hu1 N1 ⟨⟨vs1 ++ ys, vec2.mono ?_, hi1.append hti⟩, ⟨kvs1, hd1, hf1⟩, T1⟩ hnew (by rw [List.length_append]; omega) (by omega)
    intro a o z
    rcases z with (z | z) | z
    · exact .inl z
    · exact .inr (List.mem_append_left _ z)
    · exact .inr (List.mem_append_right _ (.tail _ z))

theorem catchC {prog : Program} {w : World} {A₀ : Around} {E : Value → Shared → Prop} {s' : Shared} {g G : Heap} {L a e t : Addr} {m : PySem.Str → Option Value} {name : PySem.Str} {scope : Scope} {cd : Value}
  {vs : List Value} {b₀ : Stmt} {suite : List Stmt} {pos np : Pos} {rest : List ExceptHandler} {Q : Flow → Shared → Prop} {news : List (Addr × Obj)} {KF : Frag} {p : Program} {loose : List PySem.Str} {mean : ExcName → Option Value} {mg mb : PySem.Str → Option Value} {x : PySem.Str} {X T' : String}
    (R : RaisedS g G [envOfC name scope L a cd] e (.type X) t vs [] s'.heap) (F : Fr g L G m) (N : News g L G news) (K : Below A₀ g [] g) (hsm : G.UpToSlots s'.heap) (XB : KF.In g) (TB : Top p loose mean mg mb g)
    (ex : nsIn KF mainGlobals x = some none) (hv : bootBuiltins x = some (.type T')) (hn' : x ≠ "__name__")
    (hexc : isSubtype (.type T') (.type "BaseException") = pure true) (hnt : isSubtype (.type ((Manifest.find? T').elim "type" fun y => y.metatype)) (.type "tuple") = pure false) (hsub : isSubtype (.type X) (.type T') = pure true)
    (k : ∀ h', Fr g L h' m → News g L h' news → wpAny (model prog w) ((A₀.deeper (envOfC name scope L a cd)).mark (some (.ref e))) (execs (b₀ :: suite) (envOfC name scope L a cd)) Q E { s' with heap := h' })
    (hk : scope.kind = .function := by rfl) (hx : (envOfC name scope L a cd).kindOf x = some .globalImplicit := by rfl) (hd : (x == ("__debug__" : PySem.Str)) = false := by decide)
    (hE : PassesOwnAt (model prog w) ((A₀.deeper (envOfC name scope L a cd)).mark (some (.ref e))) (A₀.deeper (envOfC name scope L a cd)) (envOfC name scope L a cd) E := by passes_own) :
    wpAny (model prog w) (A₀.deeper (envOfC name scope L a cd)) (noteFrame (.ref e) (envOfC name scope L a cd))
      (fun _ s₂ => wpAny (model prog w) (A₀.deeper (envOfC name scope L a cd)) (setFlight (.ref e) none) (fun _ s₃ =>
        wpAny (model prog w) (A₀.deeper (envOfC name scope L a cd)) (handleBy (.ref e) (envOfC name scope L a cd) (.ExceptHandler (some (.Name x np)) none (b₀ :: suite) pos :: rest)) Q E s₃) E s₂) E s' :=
  catchX (cl := cellsFrom (L + 1) scope.names []) (outer := []) R F N K hsm XB TB ex hv hn' hexc hnt hsub (fun h' g' T1 F1 N1 _ _ _ => k h' (turn_nil T1 F1) (turn_nil_news T1 N1)) hk hx hd hE
set_option maxHeartbeats 4000000 in
theorem branchC {w : World} {g : Heap} {fa : Addr} {cd : Value} {mean : ExcName → Option Value} {mg mb : PySem.Str → Option Value} {s : Shared} {nm : PySem.Str} {sc : Scope} {b0 b1 b2 : List Stmt} (H : IsBr w nm sc b0 b1 b2) (C : LawCx w g mean mg mb)
    {Q : Flow → Shared → Prop} {R1 R2 : Value → Shared → Prop} {size : Nat} {D : Addr} {rest tl : List (Addr × Obj)} {od oc : Obj} {v : Addr} {ns : List Int} {c : List (Int × Int)} {n r : Int} {tn tr tc : Tok} {u : PySem.Str → Option Value}
    (F : Fr g g.objs.size s.heap (kn [("place", .int r tr), ("vector", .ref v), ("count", .int ns.length tc), ("changes", .ref D)] u)) (N : News g g.objs.size s.heap ((D, od) :: (g.objs.size + 1, oc) :: rest)) (hoc : oc.data = .cell (some (.int n tn))) (hDc : @Ne Nat (g.objs.size + 1) D) (hsub0 : ∀ p ∈ tl, p ∈ rest) (hoffD : ∀ p ∈ rest, @Ne Nat p.1 D) (S : BS w size tl od v ns c) (hns : ns.length ≤ 3000) (hcl : c.length ≤ 3000) (hb1 : -60000 ≤ r) (hb2 : r ≤ 60000)
    (hcont : ∀ h' tk u', Fr g g.objs.size h' u' → (∀ y, y ∉ NM → u' y = kn [("place", .int r tr), ("vector", .ref v), ("count", .int ns.length tc), ("changes", .ref D)] u y) → News g g.objs.size h' ((D, od) :: (g.objs.size + 1, oc) :: rest) → Q .cont { s with heap := h', toks := tk })
    (hnext : ∀ h' tk u' od' v' ns' c' new tc', Fr g g.objs.size h' (kn [("vector", .ref v'), ("count", .int (List.length ns') tc'), ("changes", .ref D)] u') → (∀ y, y ∉ NM → u' y = kn [("place", .int r tr), ("vector", .ref v), ("count", .int ns.length tc), ("changes", .ref D)] u y) → News g g.objs.size h' ((D, od') :: (g.objs.size + 1, oc) :: (rest ++ new)) →
      BS w size (tl ++ new) od' v' ns' c' → (∀ q ∈ (D, od) :: (g.objs.size + 1, oc) :: rest, ∀ p ∈ new, @Ne Nat p.1 q.1) → ns'.length ≤ ns.length + 70 → c'.length ≤ c.length + 70 → Q .next { s with heap := h', toks := tk }) :
    wpAny (model PySem.Challenge.rw_im0011_01.row.prog w) (callerA.deeper (envOfC nm sc g.objs.size fa cd)) (execs b2 (envOfC nm sc g.objs.size fa cd)) Q (LawE w (envOfC nm sc g.objs.size fa cd) R1 R2) s := by
  have : (PySem.Challenge.rw_im0011_01, Mine.kx.heap_1) = (PySem.Challenge.rw_im0011_01, Mine.kx.heap_1) := by k_fill; rfl
  refine' isBr_lit H ?h2 ?e8 ?e9 (fun nm sc _ _ b2 => wpAny (model PySem.Challenge.rw_im0011_01.row.prog w) (callerA.deeper (envOfC nm sc g.objs.size fa cd)) (execs b2 (envOfC nm sc g.objs.size fa cd)) Q (LawE w (envOfC nm sc g.objs.size fa cd) R1 R2) s) ?_
  case h2 => k_is
  case e8 => exact rfl
  case e9 => exact rfl
  obtain ⟨B, X, T⟩ := C
  unfold LawE at *
  generalize hL : g.objs.size = L at *
  generalize hm₀ : kn [("place", .int r tr), ("vector", .ref v), ("count", .int ns.length tc), ("changes", .ref D)] u = m₀ at hnext hcont
  simp only [kn] at F
  have hm₀c : m₀ "changes" = some (.ref D) := by rw [← hm₀]; rfl
  obtain ⟨vs1, hv1, hi1⟩ := S.vec
  obtain ⟨dx1, vc1, vt1, sh1, vt2, rt1, tl1, off1, vt3, ls1, ys1, zs1, hvx, hvd, _, _, _⟩ := id hv1
  have hil := IntsAre.length hi1
  obtain ⟨kvs0, hd0, hf0⟩ := S.dic
  have cl1 := kdfPut_len c
  have hcase : ((r < 0 ∧ r + ns.length < 0) ∨ (ns.length : Int) < r) ∨ (0 ≤ r ∧ r < ns.length) ∨ (r < 0 ∧ 0 ≤ r + ns.length) ∨ r = ns.length := by omega
  rcases hcase with hx | hx | hx | hx
  · rw [← hil] at hx
    walk_at "mstepsB"
    all_goals (
      rename Fr _ _ _ _ => F9
      rename News _ _ _ _ => N9
      refine set_x (P := Orr (KK w) tl) (lawC ⟨B, X, T⟩ hL F9 rfl) (orr_at X F9 N9 (fun p hp => .tail _ (.tail _ (hsub0 p hp)))) hv1 (by omega) hx (by omega) (by omega) ?_
      intro e t vs h' tk' R9 U9
      dsimp only
      refine' catchC (x := "IndexError") (T' := "IndexError") (KF := Mine.kx.heap_1 w.params) R9 F9 N9 B U9 X T ?ex PyProof.Rows.Boot.«IndexError» ?hn PySem.F.isExc_IndexError PySem.F.notTuple_IndexError ?hs ?_
      case ex => k_is
      case hn => decide
      case hs => kts_sub
      intro h7 F7 N7
      clear F9 N9 R9 U9
      walk_at "mstepsB"
      all_goals first
        | (rename Fr _ _ _ _ => F9
           rename News _ _ _ _ => N9
           refine hcont _ _ _ F9 ?_ N9
           intro y hy
           have hy' := hy
           simp only [NM, List.mem_cons, List.not_mem_nil, or_false, not_or] at hy'
           obtain ⟨a1, a2, a3, a4, a5, a6, a7⟩ := hy'
           simp only [a1, a2, a3, a4, a5, a6, a7, if_false]
           rw [← hm₀]
           simp only [kn, a1, a2, a3, a4, a5, a6, a7, if_false]; done)
        | (exfalso; simp at *; omega))
  · have hb1 : (r == (ns.length : Int)) = false := by rw [beq_eq_false_iff_ne]; omega
    have hkt : ((r.toNat : Nat) : Int) = r := Int.toNat_of_nonneg hx.1
    walk_at "mstepsB"
    all_goals (
      rename Fr _ _ _ _ => F9
      rename News _ _ _ _ => N9
      refine set_c (P := Orr (KK w) tl) (lawC ⟨B, X, T⟩ hL F9 rfl) (orr_at X F9 N9 (fun p hp => .tail _ (.tail _ (hsub0 p hp)))) hv1 (by omega) (n := r.toNat) (.inl ⟨hx.1, by omega⟩) (by omega) ?_
      intro V tl2 h2 tk2 ex2 ne2 vec2
      have F10 := frExt F9 ex2
      have N10 := newsEnd F9 N9 ex2 ne2
      have o10 := newOff N9 ne2
      simp only [List.cons_append] at N10
      clear F9 N9
      walk_at "mstepsB"
      all_goals first
        | (rename Fr _ _ _ _ => F9
           rename News _ _ _ _ => N9
           refine kdf_setItem F9 N9 (UpdF.head (fun p hp => ?_)) hd0 hf0 (by omega) ?_
           · rcases List.mem_cons.mp hp with rfl | hp
             · exact hDc
             rcases List.mem_append.mp hp with hp | hp
             · exact hoffD p hp
             · exact o10 (D, od) (.head _) p hp
           intro h3 od3 kvs3 F11 N11 hd3 hf3
           clear F9 N9
           walk_at "mstepsB"
           rename Fr _ _ _ _ => F9
           rename News _ _ _ _ => N9
           have e5 : ((List.length (ns.set r.toNat n) : Nat) : Int) = (ns.length : Int) := by rw [List.length_set]
           rw [← e5] at F9
           refine hnext _ _ _ od3 V (ns.set r.toNat n) (kdfPut c r n) tl2 _ (fr_kn F9 ⟨rfl, rfl, rfl, trivial⟩) ?_ N9 ⟨⟨_, vec2.mono ?_, IntsAre.set' hi1 _ _ _⟩, ⟨kvs3, hd3, hf3⟩, (by have := S.law.set (i := r.toNat) (by omega) n; rw [hkt] at this; exact this)⟩ o10 (by rw [List.length_set]; omega) (by have := cl1 (r) n; omega)
           · intro y hy
             have hy' := hy
             simp only [NM, List.mem_cons, List.not_mem_nil, or_false, not_or] at hy'
             obtain ⟨a1, a2, a3, a4, a5, a6, a7⟩ := hy'
             simp only [a1, a2, a3, a4, a5, a6, a7, if_false]
             rw [← hm₀]
             simp only [kn, a1, a2, a3, a4, a5, a6, a7, if_false]
           · intro a o z
             rcases z with (z | z) | z
             · exact .inl z
             · exact .inr (List.mem_append_left _ z)
             · exact .inr (List.mem_append_right _ z))
        | (exfalso; simp at *; omega))
  · have hb1 : (r + (ns.length : Int) == (ns.length : Int)) = false := by rw [beq_eq_false_iff_ne]; omega
    have hkt : (((r + ns.length).toNat : Nat) : Int) = r + ns.length := Int.toNat_of_nonneg hx.2
    walk_at "mstepsB"
    all_goals (
      rename Fr _ _ _ _ => F9
      rename News _ _ _ _ => N9
      refine set_c (P := Orr (KK w) tl) (lawC ⟨B, X, T⟩ hL F9 rfl) (orr_at X F9 N9 (fun p hp => .tail _ (.tail _ (hsub0 p hp)))) hv1 (by omega) (n := (r + ns.length).toNat) (.inr ⟨hx.1, by omega⟩) (by omega) ?_
      intro V tl2 h2 tk2 ex2 ne2 vec2
      have F10 := frExt F9 ex2
      have N10 := newsEnd F9 N9 ex2 ne2
      have o10 := newOff N9 ne2
      simp only [List.cons_append] at N10
      clear F9 N9
      walk_at "mstepsB"
      all_goals first
        | (rename Fr _ _ _ _ => F9
           rename News _ _ _ _ => N9
           refine kdf_setItem F9 N9 (UpdF.head (fun p hp => ?_)) hd0 hf0 (by omega) ?_
           · rcases List.mem_cons.mp hp with rfl | hp
             · exact hDc
             rcases List.mem_append.mp hp with hp | hp
             · exact hoffD p hp
             · exact o10 (D, od) (.head _) p hp
           intro h3 od3 kvs3 F11 N11 hd3 hf3
           clear F9 N9
           walk_at "mstepsB"
           rename Fr _ _ _ _ => F9
           rename News _ _ _ _ => N9
           have e5 : ((List.length (ns.set (r + ns.length).toNat n) : Nat) : Int) = (ns.length : Int) := by rw [List.length_set]
           rw [← e5] at F9
           refine hnext _ _ _ od3 V (ns.set (r + ns.length).toNat n) (kdfPut c (r + ns.length) n) tl2 _ (fr_kn F9 ⟨rfl, rfl, rfl, trivial⟩) ?_ N9 ⟨⟨_, vec2.mono ?_, IntsAre.set' hi1 _ _ _⟩, ⟨kvs3, hd3, hf3⟩, (by have := S.law.set (i := (r + ns.length).toNat) (by omega) n; rw [hkt] at this; exact this)⟩ o10 (by rw [List.length_set]; omega) (by have := cl1 ((r + ns.length)) n; omega)
           · intro y hy
             have hy' := hy
             simp only [NM, List.mem_cons, List.not_mem_nil, or_false, not_or] at hy'
             obtain ⟨a1, a2, a3, a4, a5, a6, a7⟩ := hy'
             simp only [a1, a2, a3, a4, a5, a6, a7, if_false]
             rw [← hm₀]
             simp only [kn, a1, a2, a3, a4, a5, a6, a7, if_false]
           · intro a o z
             rcases z with (z | z) | z
             · exact .inl z
             · exact .inr (List.mem_append_left _ z)
             · exact .inr (List.mem_append_right _ z))
        | (exfalso; simp at *; omega))
  · subst hx
    have hb1 : ((ns.length : Int) == (ns.length : Int)) = true := by simp
    walk_at "mstepsB"
    all_goals (
      rename Fr _ _ _ _ => F9
      rename News _ _ _ _ => N9
      refine set_e (P := Orr (KK w) tl) (lawC ⟨B, X, T⟩ hL F9 rfl) (orr_at X F9 N9 (fun p hp => .tail _ (.tail _ (hsub0 p hp)))) hv1 (by omega) (by omega) ?_
      intro V tl2 h2 tk2 ex2 ne2 vec2
      have F10 := frExt F9 ex2
      have N10 := newsEnd F9 N9 ex2 ne2
      have o10 := newOff N9 ne2
      simp only [List.cons_append] at N10
      clear F9 N9
      walk_at "mstepsB"
      all_goals first
        | (rename Fr _ _ _ _ => F9
           rename News _ _ _ _ => N9
           refine kdf_setItem F9 N9 (UpdF.head (fun p hp => ?_)) hd0 hf0 (by omega) ?_
           · rcases List.mem_cons.mp hp with rfl | hp
             · exact hDc
             rcases List.mem_append.mp hp with hp | hp
             · exact hoffD p hp
             · exact o10 (D, od) (.head _) p hp
           intro h3 od3 kvs3 F11 N11 hd3 hf3
           clear F9 N9
           walk_at "mstepsB"
           rename Fr _ _ _ _ => F9
           rename News _ _ _ _ => N9
           have e5 : ((List.length (ns ++ [n]) : Nat) : Int) = (ns.length : Int) + 1 := by rw [List.length_append, List.length_singleton]; omega
           rw [← e5] at F9
           refine hnext _ _ _ od3 V (ns ++ [n]) (kdfPut c ns.length n) tl2 _ (fr_kn F9 ⟨rfl, rfl, rfl, trivial⟩) ?_ N9 ⟨⟨_, vec2.mono ?_, hi1.append (.cons _ _ .nil)⟩, ⟨kvs3, hd3, hf3⟩, S.law.app n⟩ o10 (by rw [List.length_append, List.length_singleton]; omega) (by have := cl1 ns.length n; omega)
           · intro y hy
             have hy' := hy
             simp only [NM, List.mem_cons, List.not_mem_nil, or_false, not_or] at hy'
             obtain ⟨a1, a2, a3, a4, a5, a6, a7⟩ := hy'
             simp only [a1, a2, a3, a4, a5, a6, a7, if_false]
             rw [← hm₀]
             simp only [kn, a1, a2, a3, a4, a5, a6, a7, if_false]
           · intro a o z
             rcases z with (z | z) | z
             · exact .inl z
             · exact .inr (List.mem_append_left _ z)
             · exact .inr (List.mem_append_right _ z))
        | (exfalso; simp at *; omega))

def IsTurn (w : World) (nm : PySem.Str) (sc : Scope) (tg it : Expr) (b : List Stmt) : Prop := ∃ bd ps R, IsLaw w nm sc bd ∧ bd.drop 8 = Stmt.For tg it b [] ps :: R
theorem isTurn_lit {w : World} {oc' dV' kV' doc' pm' cdv' ct' : Value} {od' an' : Option Addr} {osl' : Array (Option Value)} {nm nm' ql' : PySem.Str} {pr' : Arguments} {bd' b b' R' : List Stmt} {tg tg' it it' : Expr} {ps' : Pos} {sc sc' : Scope} {cl' : List (PySem.Str × Addr)}
    (H : IsTurn w nm sc tg it b) (h2 : (Mine.kx.heap_1 w.params).lookup 353 = some ⟨oc', od', .func (fnX nm' ql' pr' bd' sc' cl' dV' kV' doc' pm' an' cdv' ct'), osl'⟩) (e8 : bd'.drop 8 = Stmt.For tg' it' b' [] ps' :: R')
    (P : PySem.Str → Scope → Expr → List Stmt → Prop) (h : IsTurn w nm' sc' tg' it' b' → P nm' sc' tg' b') : P nm sc tg b := by
  obtain ⟨bd, ps, R, ⟨oc, od, ql, pr, cl, dV, kV, doc, pm, an, cdv, ct, osl, ho⟩, q8⟩ := H
  have hh := h ⟨bd', ps', R', ⟨_, _, _, _, _, _, _, _, _, _, _, _, _, h2⟩, e8⟩
  rw [ho] at h2
  cases h2
  rw [q8] at e8
  cases e8
  exact hh
theorem ne_sym {a b : Addr} (h : @Ne Nat a b) : @Ne Nat b a := fun e => h e.symm
theorem isTurn_br {w : World} {nm : PySem.Str} {sc : Scope} {tg it tst tst1 : Expr} {b b0 b1 b2 R2 : List Stmt} {pp1 pp : Pos} (H : IsTurn w nm sc tg it b) (e : b.drop 9 = Stmt.If tst b0 [Stmt.If tst1 b1 b2 pp1] pp :: R2) : IsBr w nm sc b0 b1 b2 := by
  obtain ⟨bd, ps, R, Hl, e8⟩ := H
  exact ⟨bd, _, _, _, ps, R, _, _, _, _, _, Hl, e8, e⟩
theorem w38_1 : True := by (k_with "mstepsT" => repeat' (first | (k_unfold; (try dsimp only)) | ((fail_if_success (with_reducible show wpAny _ _ (execs (Stmt.For _ _ _ _ _ :: _) _) _ _ _)); (fail_if_success (with_reducible show wpAny _ _ (execs (Stmt.Assign [Expr.Name (Str.ofString "tail") _] _ _ :: _) _) _ _ _)); (fail_if_success (with_reducible show wpAny _ _ (execs (Stmt.Assign [Expr.Name (Str.ofString "spot") _] _ _ :: _) _) _ _ _)); (fail_if_success (with_reducible show wpAny _ _ (setItem (Value.ref _) (Value.int _ _) _) _ _ _)); (fail_if_success (with_reducible show wpAny _ _ (call (Value.ref 221) _) _ _ _)); (fail_if_success (with_reducible show wpAny _ _ (call (Value.ref 256) _) _ _ _)); (fail_if_success (with_reducible show wpAny _ _ (call (Value.ref 190) _) _ _ _)); (fail_if_success (with_reducible show wpAny _ _ (exec (Stmt.For _ _ _ _ _) _) _ _ _)); (fail_if_success (with_reducible show wpAny _ _ (binaryOp Operator.Add (Value.ref _) (Value.ref _)) _ _ _)); (fail_if_success (with_reducible show wpAny _ _ (subscriptTail (PySem.Expr.Name _ _) (PySem.Expr.Slice _ _ _ _) _ _) _ _ _)); (fail_if_success (with_reducible show wpAny _ _ (call (Value.type "list") _) _ _ _)); (fail_if_success (with_reducible show wpAny _ _ (call (Value.type "dict") _) _ _ _)); (fail_if_success (with_reducible show wpAny _ _ (call (Value.ref 334) _) _ _ _)); (fail_if_success (with_reducible show wpAny _ _ (call (Value.ref 320) _) _ _ _)); first | walk1 | (dsimp only; walk1)))); trivial
set_option maxHeartbeats 4000000 in
theorem suf_turn {w : World} {g : Heap} {fa : Addr} {cd : Value} {mean : ExcName → Option Value} {mg mb : PySem.Str → Option Value} {s : Shared} {nm : PySem.Str} {sc : Scope} {tg it : Expr} {b : List Stmt} (H : IsTurn w nm sc tg it b) (C : LawCx w g mean mg mb)
    {Q : Flow → Shared → Prop} {R1 R2 : Value → Shared → Prop} {K : LK} {D I : Addr} {od oc oI od₀ : Obj} {ns : List Int} {c : List (Int × Int)} {u : PySem.Str → Option Value} {mvs cvs dvs avs : List Value} {n1 n2 n3 n4 : Nat} {tls : List (Addr × Obj)}
    (HK : LKok g K) (hI : @LT.lt Nat _ K.La I) (hD : @LT.lt Nat _ I D) (hoff : ∀ p ∈ tls, ∀ a ∈ [g.objs.size + 1, K.Lm, K.Lc, K.Lt, K.La, I, D], @Ne Nat p.1 a) (hm : mvs.length ≤ 10) (hc : cvs.length ≤ 10) (hd : dvs.length ≤ 10) {ns' : List Int} {c' : List (Int × Int)} {new : List (Addr × Obj)} {tc' : Tok} {V : Addr}
    (F : Fr g g.objs.size s.heap (kn [("vector", .ref V), ("count", .int (List.length ns') tc'), ("changes", .ref D)] u)) (e1 : u "numbers" = some (.ref K.Ln)) (e2 : u "size" = some (.int K.size K.ts)) (e3 : u "first" = some (.ref K.Lf)) (e4 : u "made" = some (.ref K.Lm)) (e5 : u "counts" = some (.ref K.Lc)) (e6 : u "tables" = some (.ref K.Lt)) (e7 : u "asked" = some (.ref K.La))
    (N : News g g.objs.size s.heap ((D, od) :: (g.objs.size + 1, oc) :: ((K.Lm, listOf mvs.toArray n1) :: (K.Lc, listOf cvs.toArray n2) :: (K.Lt, listOf dvs.toArray n3) :: (K.La, listOf avs.toArray n4) :: (I, oI) :: tls ++ new)))
    (S : BS w K.size (tls ++ new) od V ns' c') (hnew : ∀ q ∈ (D, od₀) :: (g.objs.size + 1, oc) :: (K.Lm, listOf mvs.toArray n1) :: (K.Lc, listOf cvs.toArray n2) :: (K.Lt, listOf dvs.toArray n3) :: (K.La, listOf avs.toArray n4) :: (I, oI) :: tls, ∀ p ∈ new, @Ne Nat p.1 q.1) (hl1 : ns'.length ≤ ns.length + 70) (hl2 : c'.length ≤ c.length + 70)
    (hnext : ∀ h' tk u' od' V ns' c' new tc' m1 m2 m3, Fr g g.objs.size h' (lmap K.Ln K.Lf K.Lm K.Lc K.Lt K.La K.size K.ts u') → News g g.objs.size h' ((D, od') :: (g.objs.size + 1, oc) :: (K.Lm, listOf (mvs ++ [Value.ref V]).toArray m1) :: (K.Lc, listOf (cvs ++ [Value.int (List.length ns') tc']).toArray m2) :: (K.Lt, listOf (dvs ++ [Value.ref D]).toArray m3) :: (K.La, listOf avs.toArray n4) :: (I, oI) :: (tls ++ new)) →
      BS w K.size (tls ++ new) od' V ns' c' → (∀ p ∈ new, ∀ a ∈ [g.objs.size + 1, K.Lm, K.Lc, K.Lt, K.La, I, D], @Ne Nat p.1 a) → ns'.length ≤ ns.length + 70 → c'.length ≤ c.length + 70 → Q .next { s with heap := h', toks := tk }) :
    wpAny (model PySem.Challenge.rw_im0011_01.row.prog w) (callerA.deeper (envOfC nm sc g.objs.size fa cd)) (execs (b.drop 10) (envOfC nm sc g.objs.size fa cd)) Q (LawE w (envOfC nm sc g.objs.size fa cd) R1 R2) s := by
  have : (PySem.Challenge.rw_im0011_01, Mine.kx.heap_1) = (PySem.Challenge.rw_im0011_01, Mine.kx.heap_1) := by k_fill; rfl
  refine' isTurn_lit H ?h2 ?e8 (fun nm sc _ b => wpAny (model PySem.Challenge.rw_im0011_01.row.prog w) (callerA.deeper (envOfC nm sc g.objs.size fa cd)) (execs (b.drop 10) (envOfC nm sc g.objs.size fa cd)) Q (LawE w (envOfC nm sc g.objs.size fa cd) R1 R2) s) ?_
  case h2 => k_is
  case e8 => exact rfl
  clear H
  intro _
  obtain ⟨o1, o2, o3, o4, _, _, _, _⟩ := HK
  obtain ⟨B, X, T⟩ := C
  have q01 : @Ne Nat (g.objs.size + 1) K.Lm := Nat.ne_of_lt (by omega)
  have q10 : @Ne Nat K.Lm (g.objs.size + 1) := Nat.ne_of_gt (by omega)
  have q02 : @Ne Nat (g.objs.size + 1) K.Lc := Nat.ne_of_lt (by omega)
  have q20 : @Ne Nat K.Lc (g.objs.size + 1) := Nat.ne_of_gt (by omega)
  have q03 : @Ne Nat (g.objs.size + 1) K.Lt := Nat.ne_of_lt (by omega)
  have q30 : @Ne Nat K.Lt (g.objs.size + 1) := Nat.ne_of_gt (by omega)
  have q04 : @Ne Nat (g.objs.size + 1) K.La := Nat.ne_of_lt (by omega)
  have q40 : @Ne Nat K.La (g.objs.size + 1) := Nat.ne_of_gt (by omega)
  have q05 : @Ne Nat (g.objs.size + 1) I := Nat.ne_of_lt (by omega)
  have q50 : @Ne Nat I (g.objs.size + 1) := Nat.ne_of_gt (by omega)
  have q06 : @Ne Nat (g.objs.size + 1) D := Nat.ne_of_lt (by omega)
  have q60 : @Ne Nat D (g.objs.size + 1) := Nat.ne_of_gt (by omega)
  have q12 : @Ne Nat K.Lm K.Lc := Nat.ne_of_lt (by omega)
  have q21 : @Ne Nat K.Lc K.Lm := Nat.ne_of_gt (by omega)
  have q13 : @Ne Nat K.Lm K.Lt := Nat.ne_of_lt (by omega)
  have q31 : @Ne Nat K.Lt K.Lm := Nat.ne_of_gt (by omega)
  have q14 : @Ne Nat K.Lm K.La := Nat.ne_of_lt (by omega)
  have q41 : @Ne Nat K.La K.Lm := Nat.ne_of_gt (by omega)
  have q15 : @Ne Nat K.Lm I := Nat.ne_of_lt (by omega)
  have q51 : @Ne Nat I K.Lm := Nat.ne_of_gt (by omega)
  have q16 : @Ne Nat K.Lm D := Nat.ne_of_lt (by omega)
  have q61 : @Ne Nat D K.Lm := Nat.ne_of_gt (by omega)
  have q23 : @Ne Nat K.Lc K.Lt := Nat.ne_of_lt (by omega)
  have q32 : @Ne Nat K.Lt K.Lc := Nat.ne_of_gt (by omega)
  have q24 : @Ne Nat K.Lc K.La := Nat.ne_of_lt (by omega)
  have q42 : @Ne Nat K.La K.Lc := Nat.ne_of_gt (by omega)
  have q25 : @Ne Nat K.Lc I := Nat.ne_of_lt (by omega)
  have q52 : @Ne Nat I K.Lc := Nat.ne_of_gt (by omega)
  have q26 : @Ne Nat K.Lc D := Nat.ne_of_lt (by omega)
  have q62 : @Ne Nat D K.Lc := Nat.ne_of_gt (by omega)
  have q34 : @Ne Nat K.Lt K.La := Nat.ne_of_lt (by omega)
  have q43 : @Ne Nat K.La K.Lt := Nat.ne_of_gt (by omega)
  have q35 : @Ne Nat K.Lt I := Nat.ne_of_lt (by omega)
  have q53 : @Ne Nat I K.Lt := Nat.ne_of_gt (by omega)
  have q36 : @Ne Nat K.Lt D := Nat.ne_of_lt (by omega)
  have q63 : @Ne Nat D K.Lt := Nat.ne_of_gt (by omega)
  have q45 : @Ne Nat K.La I := Nat.ne_of_lt (by omega)
  have q54 : @Ne Nat I K.La := Nat.ne_of_gt (by omega)
  have q46 : @Ne Nat K.La D := Nat.ne_of_lt (by omega)
  have q64 : @Ne Nat D K.La := Nat.ne_of_gt (by omega)
  have q56 : @Ne Nat I D := Nat.ne_of_lt (by omega)
  have q65 : @Ne Nat D I := Nat.ne_of_gt (by omega)
  have F' := fr_kn (l := [("vector", .ref V), ("count", .int (List.length ns') tc'), ("changes", .ref D), ("numbers", .ref K.Ln), ("size", .int K.size K.ts), ("first", .ref K.Lf), ("made", .ref K.Lm), ("counts", .ref K.Lc), ("tables", .ref K.Lt), ("asked", .ref K.La)]) F ⟨rfl, rfl, rfl, e1, e2, e3, e4, e5, e6, e7, trivial⟩
  clear F
  have hofn : ∀ p ∈ new, ∀ a ∈ [g.objs.size + 1, K.Lm, K.Lc, K.Lt, K.La, I, D], @Ne Nat p.1 a := fun p hp a ha => by
    simp only [List.mem_cons, List.not_mem_nil, or_false] at ha
    rcases ha with h | h | h | h | h | h | h <;> rw [h]
    · exact hnew (g.objs.size + 1, oc) (.tail _ (.head _)) p hp
    · exact hnew (K.Lm, _) (.tail _ (.tail _ (.head _))) p hp
    · exact hnew (K.Lc, _) (.tail _ (.tail _ (.tail _ (.head _)))) p hp
    · exact hnew (K.Lt, _) (.tail _ (.tail _ (.tail _ (.tail _ (.head _))))) p hp
    · exact hnew (K.La, _) (.tail _ (.tail _ (.tail _ (.tail _ (.tail _ (.head _)))))) p hp
    · exact hnew (I, oI) (.tail _ (.tail _ (.tail _ (.tail _ (.tail _ (.tail _ (.head _))))))) p hp
    · exact hnew (D, od₀) (.head _) p hp
  have w1 : ∀ p ∈ tls ++ new, @Ne Nat p.1 K.Lm := fun p hp => (List.mem_append.mp hp).elim (fun h => hoff p h _ (by simp)) (fun h => hofn p h _ (by simp))
  have w2 : ∀ p ∈ tls ++ new, @Ne Nat p.1 K.Lc := fun p hp => (List.mem_append.mp hp).elim (fun h => hoff p h _ (by simp)) (fun h => hofn p h _ (by simp))
  have w3 : ∀ p ∈ tls ++ new, @Ne Nat p.1 K.Lt := fun p hp => (List.mem_append.mp hp).elim (fun h => hoff p h _ (by simp)) (fun h => hofn p h _ (by simp))
  simp only [kn] at F'
  simp only [List.cons_append] at N
  show wpAny _ _ (execs _ _) _ _ _
  dsimp only [List.drop]
  unfold LawE
  walk_at "mstepsT"
  rename Fr _ _ _ _ => F9
  rename News _ _ _ _ => N9
  exact hnext _ _ _ _ V ns' c' new _ _ _ _ (fr_lmap F9 rfl rfl rfl rfl rfl rfl rfl) N9 S hofn hl1 hl2
set_option maxHeartbeats 4000000 in
theorem tail_turn {w : World} {g : Heap} {fa : Addr} {cd : Value} {mean : ExcName → Option Value} {mg mb : PySem.Str → Option Value} {s : Shared} {nm : PySem.Str} {sc : Scope} {tg it : Expr} {b : List Stmt} (H : IsTurn w nm sc tg it b) (C : LawCx w g mean mg mb)
    {Q : Flow → Shared → Prop} {R1 R2 : Value → Shared → Prop} {K : LK} {D I : Addr} {od oc oI : Obj} {v : Addr} {ns : List Int} {c : List (Int × Int)} {n r p : Int} {tn tr tp tc : Tok} {u : PySem.Str → Option Value} {mvs cvs dvs avs : List Value} {n1 n2 n3 n4 : Nat} {tls : List (Addr × Obj)}
    (F : Fr g g.objs.size s.heap (kn [("rest", .int r tr), ("place", .int p tp), ("vector", .ref v), ("count", .int (List.length ns) tc), ("changes", .ref D), ("numbers", .ref K.Ln), ("size", .int K.size K.ts), ("first", .ref K.Lf), ("made", .ref K.Lm), ("counts", .ref K.Lc), ("tables", .ref K.Lt), ("asked", .ref K.La)] u))
    (N : News g g.objs.size s.heap ((D, od) :: (g.objs.size + 1, oc) :: (K.Lm, listOf mvs.toArray n1) :: (K.Lc, listOf cvs.toArray n2) :: (K.Lt, listOf dvs.toArray n3) :: (K.La, listOf avs.toArray n4) :: (I, oI) :: tls))
    (hoc : oc.data = .cell (some (.int n tn))) (HK : LKok g K) (hI : @LT.lt Nat _ K.La I) (hD : @LT.lt Nat _ I D) (S : BS w K.size tls od v ns c) (hoff : ∀ p ∈ tls, ∀ a ∈ [g.objs.size + 1, K.Lm, K.Lc, K.Lt, K.La, I, D], @Ne Nat p.1 a)
    (hns : ns.length ≤ 3000) (hcl : c.length ≤ 3000) (hb1 : -60000 ≤ p) (hb2 : p ≤ 60000) (hm : mvs.length ≤ 10) (hc : cvs.length ≤ 10) (hd : dvs.length ≤ 10)
    (hnext : ∀ h' tk u' od' V ns' c' new tc' m1 m2 m3, Fr g g.objs.size h' (lmap K.Ln K.Lf K.Lm K.Lc K.Lt K.La K.size K.ts u') → News g g.objs.size h' ((D, od') :: (g.objs.size + 1, oc) :: (K.Lm, listOf (mvs ++ [Value.ref V]).toArray m1) :: (K.Lc, listOf (cvs ++ [Value.int (List.length ns') tc']).toArray m2) :: (K.Lt, listOf (dvs ++ [Value.ref D]).toArray m3) :: (K.La, listOf avs.toArray n4) :: (I, oI) :: (tls ++ new)) →
      BS w K.size (tls ++ new) od' V ns' c' → (∀ p ∈ new, ∀ a ∈ [g.objs.size + 1, K.Lm, K.Lc, K.Lt, K.La, I, D], @Ne Nat p.1 a) → ns'.length ≤ ns.length + 70 → c'.length ≤ c.length + 70 → Q .next { s with heap := h', toks := tk })
    (hcont : ∀ h' tk u', Fr g g.objs.size h' (lmap K.Ln K.Lf K.Lm K.Lc K.Lt K.La K.size K.ts u') → News g g.objs.size h' ((D, od) :: (g.objs.size + 1, oc) :: (K.Lm, listOf mvs.toArray n1) :: (K.Lc, listOf cvs.toArray n2) :: (K.Lt, listOf dvs.toArray n3) :: (K.La, listOf avs.toArray n4) :: (I, oI) :: tls) → Q .cont { s with heap := h', toks := tk }) :
    wpAny (model PySem.Challenge.rw_im0011_01.row.prog w) (callerA.deeper (envOfC nm sc g.objs.size fa cd)) (execs (b.drop 9) (envOfC nm sc g.objs.size fa cd)) Q (LawE w (envOfC nm sc g.objs.size fa cd) R1 R2) s := by
  have : (PySem.Challenge.rw_im0011_01, Mine.kx.heap_1) = (PySem.Challenge.rw_im0011_01, Mine.kx.heap_1) := by k_fill; rfl
  refine' isTurn_lit H ?h2 ?e8 (fun nm sc _ b => wpAny (model PySem.Challenge.rw_im0011_01.row.prog w) (callerA.deeper (envOfC nm sc g.objs.size fa cd)) (execs (b.drop 9) (envOfC nm sc g.objs.size fa cd)) Q (LawE w (envOfC nm sc g.objs.size fa cd) R1 R2) s) ?_
  case h2 => k_is
  case e8 => exact rfl
  clear H
  intro H
  have HB := isTurn_br H rfl
  have HK' := HK
  obtain ⟨o1, o2, o3, o4, _, _, _, _⟩ := HK'
  have hC := C
  obtain ⟨B, X, T⟩ := C
  have hsub0 : ∀ p ∈ tls, p ∈ (K.Lm, listOf mvs.toArray n1) :: (K.Lc, listOf cvs.toArray n2) :: (K.Lt, listOf dvs.toArray n3) :: (K.La, listOf avs.toArray n4) :: (I, oI) :: tls := fun p hp => .tail _ (.tail _ (.tail _ (.tail _ (.tail _ hp))))
  have hofD : ∀ p ∈ (K.Lm, listOf mvs.toArray n1) :: (K.Lc, listOf cvs.toArray n2) :: (K.Lt, listOf dvs.toArray n3) :: (K.La, listOf avs.toArray n4) :: (I, oI) :: tls, @Ne Nat p.1 D := fun p hp => by
    rcases List.mem_cons.mp hp with rfl | hp
    · exact Nat.ne_of_lt (show @LT.lt Nat _ K.Lm D by omega)
    rcases List.mem_cons.mp hp with rfl | hp
    · exact Nat.ne_of_lt (show @LT.lt Nat _ K.Lc D by omega)
    rcases List.mem_cons.mp hp with rfl | hp
    · exact Nat.ne_of_lt (show @LT.lt Nat _ K.Lt D by omega)
    rcases List.mem_cons.mp hp with rfl | hp
    · exact Nat.ne_of_lt (show @LT.lt Nat _ K.La D by omega)
    rcases List.mem_cons.mp hp with rfl | hp
    · exact Nat.ne_of_lt hD
    · exact hoff p hp _ (by simp)
  simp only [kn] at F
  show wpAny _ _ (execs _ _) _ _ _
  dsimp only [List.drop]
  unfold LawE
  walk_at "mstepsT"
  · rename Fr _ _ _ _ => F9
    rename News _ _ _ _ => N9
    refine branchA HB hC (tl := tls) (fr_kn F9 ⟨rfl, rfl, rfl, rfl, trivial⟩) N9 hoc (Nat.ne_of_lt (by omega)) hsub0 hofD S hns hcl ?_
    intro h' tk u' od' V ns' c' new tc' F1 hu N1 S1 hnew l1 l2
    have z := suf_turn H hC (s := { s with heap := h', toks := tk }) (Q := Q) (R1 := R1) (R2 := R2) (fa := fa) (cd := cd) (oc := oc) (oI := oI) (od₀ := od) HK hI hD hoff hm hc hd F1 ((hu _ (by decide)).trans rfl) ((hu _ (by decide)).trans rfl) ((hu _ (by decide)).trans rfl) ((hu _ (by decide)).trans rfl) ((hu _ (by decide)).trans rfl) ((hu _ (by decide)).trans rfl) ((hu _ (by decide)).trans rfl) N1 S1 hnew l1 l2 (fun h' tk => hnext h' tk)
    unfold LawE at z
    first
      | exact z
      | (refine wpAny_execs_nil ?_; exact z)
  · rename Fr _ _ _ _ => F9
    rename News _ _ _ _ => N9
    refine branchB HB hC (tl := tls) (fr_kn F9 ⟨rfl, rfl, rfl, rfl, trivial⟩) N9 hoc (Nat.ne_of_lt (by omega)) hsub0 hofD S hns hcl ?_
    intro h' tk u' od' V ns' c' new tc' F1 hu N1 S1 hnew l1 l2
    have z := suf_turn H hC (s := { s with heap := h', toks := tk }) (Q := Q) (R1 := R1) (R2 := R2) (fa := fa) (cd := cd) (oc := oc) (oI := oI) (od₀ := od) HK hI hD hoff hm hc hd F1 ((hu _ (by decide)).trans rfl) ((hu _ (by decide)).trans rfl) ((hu _ (by decide)).trans rfl) ((hu _ (by decide)).trans rfl) ((hu _ (by decide)).trans rfl) ((hu _ (by decide)).trans rfl) ((hu _ (by decide)).trans rfl) N1 S1 hnew l1 l2 (fun h' tk => hnext h' tk)
    unfold LawE at z
    first
      | exact z
      | (refine wpAny_execs_nil ?_; exact z)
  · rename Fr _ _ _ _ => F9
    rename News _ _ _ _ => N9
    refine branchC HB hC (tl := tls) (fr_kn F9 ⟨rfl, rfl, rfl, rfl, trivial⟩) N9 hoc (Nat.ne_of_lt (by omega)) hsub0 hofD S hns hcl hb1 hb2 ?_ ?_
    · intro h' tk u' F1 hu N1
      exact hcont _ _ _ (fr_lmap F1 ((hu _ (by decide)).trans rfl) ((hu _ (by decide)).trans rfl) ((hu _ (by decide)).trans rfl) ((hu _ (by decide)).trans rfl) ((hu _ (by decide)).trans rfl) ((hu _ (by decide)).trans rfl) ((hu _ (by decide)).trans rfl)) N1
    intro h' tk u' od' V ns' c' new tc' F1 hu N1 S1 hnew l1 l2
    have z := suf_turn H hC (s := { s with heap := h', toks := tk }) (Q := Q) (R1 := R1) (R2 := R2) (fa := fa) (cd := cd) (oc := oc) (oI := oI) (od₀ := od) HK hI hD hoff hm hc hd F1 ((hu _ (by decide)).trans rfl) ((hu _ (by decide)).trans rfl) ((hu _ (by decide)).trans rfl) ((hu _ (by decide)).trans rfl) ((hu _ (by decide)).trans rfl) ((hu _ (by decide)).trans rfl) ((hu _ (by decide)).trans rfl) N1 S1 hnew l1 l2 (fun h' tk => hnext h' tk)
    unfold LawE at z
    first
      | exact z
      | (refine wpAny_execs_nil ?_; exact z)

theorem nodup_int : ∀ (n : Nat) (l : List Int), l.Nodup → (∀ a ∈ l, 0 ≤ a ∧ a < (n : Int)) → l.length ≤ n
  | 0, l, _, h => by
    cases l with
    | nil => exact Nat.le_refl _
    | cons a r => have := h a (.head _); omega
  | n + 1, l, hn, h => by
    have ih := nodup_int n (l.erase (n : Int)) (hn.erase _) (fun a ha => by
      have := (hn.mem_erase_iff).mp ha
      have := h a this.2
      have : a ≠ (n : Int) := (hn.mem_erase_iff.mp ha).1
      omega)
    by_cases hm : (n : Int) ∈ l
    · rw [List.length_erase_of_mem hm] at ih; omega
    · rw [List.erase_of_not_mem hm] at ih; omega
theorem Tab.few {size : Int} {ns : List Int} {c : List (Int × Int)} (T : Tab size ns c) : c.length ≤ ns.length := by
  have := nodup_int ns.length (c.map Prod.fst) T.nd (fun a ha => by
    obtain ⟨p, hp, rfl⟩ := List.mem_map.mp ha
    exact T.key p hp)
  rwa [List.length_map] at this
theorem getD_bound {l : List Int} {lo hi : Int} (h : ∀ a ∈ l, lo ≤ a ∧ a ≤ hi) (h0 : lo ≤ 0 ∧ 0 ≤ hi) (j : Nat) : lo ≤ l.getD j 0 ∧ l.getD j 0 ≤ hi := by
  rw [List.getD_eq_getElem?_getD]
  cases e : l[j]? with
  | none => exact h0
  | some a => exact h a (List.mem_of_getElem? e)
theorem ls_cont {w : World} {g : Heap} {K : LK} {k : Nat} {h : Heap} {u : PySem.Str → Option Value} {D I : Addr} {od oc oI : Obj} {n1 n2 n3 n4 : Nat} {vers : List Ver} {cvs avs : List Value} {as : List Int} {p : Int} {tp : Tok} {tls tls2 : List (Addr × Obj)}
    (F : Fr g g.objs.size h (lmap K.Ln K.Lf K.Lm K.Lc K.Lt K.La K.size K.ts u))
    (N : News g g.objs.size h ((D, od) :: (g.objs.size + 1, oc) :: (K.Lm, listOf (vers.map fun x => Value.ref x.v).toArray n1) :: (K.Lc, listOf cvs.toArray n2) :: (K.Lt, listOf (vers.map fun x => Value.ref x.d).toArray n3) :: (K.La, listOf (avs ++ [Value.int p tp]).toArray n4) :: (I, oI) :: tls2))
    (cell : ∃ vc, oc.data = .cell vc) (sub : ∀ q ∈ tls, q ∈ tls2) (hf : (K.Lf, listOf K.fvs.toArray K.nf) ∈ tls) (hn : (K.Ln, listOf K.nvs.toArray 0) ∈ tls) (ci : IntsAre cvs (vers.map fun x => (x.ns.length : Int))) (ai : IntsAre avs as) (ab : ∀ a ∈ as, -60000 ≤ a ∧ a ≤ 60000) (al : as.length ≤ k)
    (ok : ∀ x ∈ vers, VOK w K.size tls x) (len : ∀ x ∈ vers, x.ns.length ≤ 2200 + 70 * k) (v2 : 2 ≤ vers.length) (vk : vers.length ≤ 2 + k) (hp : -60000 ≤ p ∧ p ≤ 60000)
    (off2 : ∀ q ∈ tls2, ∀ a ∈ [g.objs.size + 1, K.Lm, K.Lc, K.Lt, K.La, I], @Ne Nat q.1 a) : LSt w g K [g.objs.size + 1, K.Lm, K.Lc, K.Lt, K.La, I] (k + 1) h := by
  refine ⟨u, oc, n1, n2, n3, n4, vers, cvs, avs ++ [.int p tp], as ++ [p], tls2, F, newsCons (N _ (.tail _ (.head _))) (newsCons (N _ (.tail _ (.tail _ (.head _)))) (newsCons (N _ (.tail _ (.tail _ (.tail _ (.head _))))) (newsCons (N _ (.tail _ (.tail _ (.tail _ (.tail _ (.head _)))))) (newsCons (N _ (.tail _ (.tail _ (.tail _ (.tail _ (.tail _ (.head _))))))) (fun q hq => N q (.tail _ (.tail _ (.tail _ (.tail _ (.tail _ (.tail _ (.tail _ hq))))))))))))
    , cell, sub _ hf, sub _ hn, ci, ai.append (.cons _ _ .nil), ?_, ?_, fun x hx => (ok x hx).mono sub, fun x hx => by have := len x hx; omega, v2, by omega, off2⟩
  · intro a ha
    rcases List.mem_append.mp ha with ha | ha
    · exact ab a ha
    · rw [List.mem_singleton.mp ha]; exact hp
  · rw [List.length_append, List.length_singleton]; omega
theorem ls_next {w : World} {g : Heap} {K : LK} {k : Nat} {h : Heap} {u : PySem.Str → Option Value} {D I V : Addr} {od oc oI : Obj} {n1 n2 n3 n4 : Nat} {vers : List Ver} {cvs avs : List Value} {as : List Int} {p : Int} {tp tc : Tok} {tls tls2 new : List (Addr × Obj)} {ns : List Int} {c : List (Int × Int)}
    (F : Fr g g.objs.size h (lmap K.Ln K.Lf K.Lm K.Lc K.Lt K.La K.size K.ts u))
    (N : News g g.objs.size h ((D, od) :: (g.objs.size + 1, oc) :: (K.Lm, listOf ((vers.map fun x => Value.ref x.v) ++ [Value.ref V]).toArray n1) :: (K.Lc, listOf (cvs ++ [Value.int (List.length ns) tc]).toArray n2) :: (K.Lt, listOf ((vers.map fun x => Value.ref x.d) ++ [Value.ref D]).toArray n3) :: (K.La, listOf (avs ++ [Value.int p tp]).toArray n4) :: (I, oI) :: (tls2 ++ new)))
    (cell : ∃ vc, oc.data = .cell vc) (sub : ∀ q ∈ tls, q ∈ tls2) (hf : (K.Lf, listOf K.fvs.toArray K.nf) ∈ tls) (hn : (K.Ln, listOf K.nvs.toArray 0) ∈ tls) (ci : IntsAre cvs (vers.map fun x => (x.ns.length : Int))) (ai : IntsAre avs as) (ab : ∀ a ∈ as, -60000 ≤ a ∧ a ≤ 60000) (al : as.length ≤ k)
    (ok : ∀ x ∈ vers, VOK w K.size tls x) (len : ∀ x ∈ vers, x.ns.length ≤ 2200 + 70 * k) (v2 : 2 ≤ vers.length) (vk : vers.length ≤ 2 + k) (hk : k ≤ 2) (hp : -60000 ≤ p ∧ p ≤ 60000)
    (off2 : ∀ q ∈ tls2, ∀ a ∈ [g.objs.size + 1, K.Lm, K.Lc, K.Lt, K.La, I], @Ne Nat q.1 a) (offn : ∀ q ∈ new, ∀ a ∈ [g.objs.size + 1, K.Lm, K.Lc, K.Lt, K.La, I], @Ne Nat q.1 a) (offD : ∀ a ∈ [g.objs.size + 1, K.Lm, K.Lc, K.Lt, K.La, I], @Ne Nat D a)
    (S : BS w K.size (tls2 ++ new) od V ns c) (hDm : (D == sysModules) = false) (hl : ns.length ≤ 2200 + 70 * k + 70) : LSt w g K [g.objs.size + 1, K.Lm, K.Lc, K.Lt, K.La, I] (k + 1) h := by
  obtain ⟨⟨vs, hv, hvi⟩, ⟨kvs, hd, hfl⟩, htab⟩ := S
  refine ⟨u, oc, n1, n2, n3, n4, vers ++ [⟨V, D, ns, c⟩], cvs ++ [Value.int (List.length ns) tc], avs ++ [.int p tp], as ++ [p], (D, od) :: (tls2 ++ new), F, ?_
    , cell, .tail _ (List.mem_append_left _ (sub _ hf)), .tail _ (List.mem_append_left _ (sub _ hn)), ?_, ai.append (.cons _ _ .nil), ?_, ?_, ?_, ?_, ?_, ?_, ?_⟩
  · rw [List.map_append, List.map_append]
    exact newsCons (N _ (.tail _ (.head _))) (newsCons (N _ (.tail _ (.tail _ (.head _)))) (newsCons (N _ (.tail _ (.tail _ (.tail _ (.head _))))) (newsCons (N _ (.tail _ (.tail _ (.tail _ (.tail _ (.head _)))))) (newsCons (N _ (.tail _ (.tail _ (.tail _ (.tail _ (.tail _ (.head _))))))) (newsCons (N _ (.head _)) (fun q hq => N q (.tail _ (.tail _ (.tail _ (.tail _ (.tail _ (.tail _ (.tail _ hq)))))))))))))
  · rw [List.map_append]
    exact ci.append (.cons _ _ .nil)
  · intro a ha
    rcases List.mem_append.mp ha with ha | ha
    · exact ab a ha
    · rw [List.mem_singleton.mp ha]; exact hp
  · rw [List.length_append, List.length_singleton]; omega
  · intro x hx
    rcases List.mem_append.mp hx with hx | hx
    · exact (ok x hx).mono fun q hq => .tail _ (List.mem_append_left _ (sub q hq))
    · rw [List.mem_singleton.mp hx]
      exact ⟨⟨vs, hv.mono fun a o z => z.imp id (.tail _), hvi⟩, ⟨od, kvs, .head _, hd, hfl, hDm⟩, htab, by have := htab.few; show c.length ≤ _; omega⟩
  · intro x hx
    rcases List.mem_append.mp hx with hx | hx
    · have := len x hx; omega
    · rw [List.mem_singleton.mp hx]; show ns.length ≤ _; omega
  · rw [List.length_append, List.length_singleton]; omega
  · rw [List.length_append, List.length_singleton]; omega
  · intro q hq
    rcases List.mem_cons.mp hq with rfl | hq
    · exact offD
    rcases List.mem_append.mp hq with hq | hq
    · exact off2 q hq
    · exact offn q hq
theorem o39_1 : True := by (k_with "mstepsU" => repeat' (first | (k_unfold; (try dsimp only)) | ((fail_if_success (with_reducible show wpAny _ _ (execs (Stmt.If _ (Stmt.For _ _ _ _ _ :: _) _ _ :: _) _) _ _ _)); (fail_if_success (with_reducible show wpAny _ _ (subscriptTail (Expr.Name (Str.ofString "_") _) _ (Value.ref _) (Value.int _ _)) _ _ _)); (fail_if_success (with_reducible show wpAny _ _ (execs (Stmt.For _ _ _ _ _ :: _) _) _ _ _)); (fail_if_success (with_reducible show wpAny _ _ (execs (Stmt.Assign [Expr.Name (Str.ofString "tail") _] _ _ :: _) _) _ _ _)); (fail_if_success (with_reducible show wpAny _ _ (execs (Stmt.Assign [Expr.Name (Str.ofString "spot") _] _ _ :: _) _) _ _ _)); (fail_if_success (with_reducible show wpAny _ _ (setItem (Value.ref _) (Value.int _ _) _) _ _ _)); (fail_if_success (with_reducible show wpAny _ _ (call (Value.ref 221) _) _ _ _)); (fail_if_success (with_reducible show wpAny _ _ (call (Value.ref 256) _) _ _ _)); (fail_if_success (with_reducible show wpAny _ _ (call (Value.ref 190) _) _ _ _)); (fail_if_success (with_reducible show wpAny _ _ (exec (Stmt.For _ _ _ _ _) _) _ _ _)); (fail_if_success (with_reducible show wpAny _ _ (binaryOp Operator.Add (Value.ref _) (Value.ref _)) _ _ _)); (fail_if_success (with_reducible show wpAny _ _ (subscriptTail (PySem.Expr.Name _ _) (PySem.Expr.Slice _ _ _ _) _ _) _ _ _)); (fail_if_success (with_reducible show wpAny _ _ (call (Value.type "list") _) _ _ _)); (fail_if_success (with_reducible show wpAny _ _ (call (Value.type "dict") _) _ _ _)); (fail_if_success (with_reducible show wpAny _ _ (call (Value.ref 334) _) _ _ _)); (fail_if_success (with_reducible show wpAny _ _ (call (Value.ref 320) _) _ _ _)); first | walk1 | (dsimp only; walk1)))); trivial
set_option maxHeartbeats 4000000 in
theorem main_turn {w : World} {g : Heap} {fa : Addr} {cd : Value} {mean : ExcName → Option Value} {mg mb : PySem.Str → Option Value} {s : Shared} {nm : PySem.Str} {sc : Scope} {tg it : Expr} {b : List Stmt} (H : IsTurn w nm sc tg it b) (C : LawCx w g mean mg mb)
    {Q : Flow → Shared → Prop} {R1 R2 : Value → Shared → Prop} {K : LK} {I Sl : Addr} {oI oS : Obj} {n : Int} {tn : Tok} {k : Nat} (hk : k ≤ 2) (HK : LKok g K) (hS : @LT.lt Nat _ K.La Sl) (hI : @LT.lt Nat _ Sl I)
    (hJ : LSt w g K [g.objs.size + 1, K.Lm, K.Lc, K.Lt, K.La, I] k s.heap) (hoI : s.heap.get? I = some oI ∧ I ≠ g.objs.size ∧ g.get? I = none) (hoS : s.heap.get? Sl = some oS ∧ Sl ≠ g.objs.size ∧ g.get? Sl = none)
    (hnext : ∀ h' tk, LSt w g K [g.objs.size + 1, K.Lm, K.Lc, K.Lt, K.La, I] (k + 1) h' → h'.get? I = some oI → h'.get? Sl = some oS → Q .next { s with heap := h', toks := tk } ∧ Q .cont { s with heap := h', toks := tk }) :
    wpAny (model PySem.Challenge.rw_im0011_01.row.prog w) (callerA.deeper (envOfC nm sc g.objs.size fa cd)) (assign tg (envOfC nm sc g.objs.size fa cd) (.int n tn)) (fun _ s₂ => wpAny (model PySem.Challenge.rw_im0011_01.row.prog w) (callerA.deeper (envOfC nm sc g.objs.size fa cd)) (execs b (envOfC nm sc g.objs.size fa cd)) Q (LawE w (envOfC nm sc g.objs.size fa cd) R1 R2) s₂) (LawE w (envOfC nm sc g.objs.size fa cd) R1 R2) s := by
  have : (PySem.Challenge.rw_im0011_01, Mine.kx.heap_1) = (PySem.Challenge.rw_im0011_01, Mine.kx.heap_1) := by k_fill; rfl
  refine' isTurn_lit H ?h2 ?e8 (fun nm sc tg b => wpAny (model PySem.Challenge.rw_im0011_01.row.prog w) (callerA.deeper (envOfC nm sc g.objs.size fa cd)) (assign tg (envOfC nm sc g.objs.size fa cd) (.int n tn)) (fun _ s₂ => wpAny (model PySem.Challenge.rw_im0011_01.row.prog w) (callerA.deeper (envOfC nm sc g.objs.size fa cd)) (execs b (envOfC nm sc g.objs.size fa cd)) Q (LawE w (envOfC nm sc g.objs.size fa cd) R1 R2) s₂) (LawE w (envOfC nm sc g.objs.size fa cd) R1 R2) s) ?_
  case h2 => k_is
  case e8 => exact rfl
  clear H
  intro H
  have hC := C
  obtain ⟨B, X, T⟩ := C
  have HK' := HK
  obtain ⟨o1, o2, o3, o4, _, _, _, _⟩ := HK'
  obtain ⟨u, oc, nmm, nc, nt, na, vers, cvs, avs, as, tls, F, N, ⟨vc, hoc⟩, hf, hn, ci, ai, ab, al, ok, len, v2, vk, off⟩ := hJ
  obtain ⟨mvs, hmv⟩ : ∃ mvs, mvs = vers.map fun x => Value.ref x.v := ⟨_, rfl⟩
  obtain ⟨dvs, hdv⟩ : ∃ dvs, dvs = vers.map fun x => Value.ref x.d := ⟨_, rfl⟩
  rw [← hmv, ← hdv] at N
  have hml : mvs.length = vers.length := by rw [hmv, List.length_map]
  have hdl : dvs.length = vers.length := by rw [hdv, List.length_map]
  have hcl := IntsAre.length ci
  rw [List.length_map] at hcl
  have hj0 := Int.fmod_nonneg_of_pos (a := Int.fdiv n 4) (b := (mvs.length : Int)) (by omega)
  have hj1 := Int.fmod_lt_of_pos (Int.fdiv n 4) (b := (mvs.length : Int)) (by omega)
  obtain ⟨j, hj⟩ : ∃ j : Nat, Int.fmod (Int.fdiv n 4) (mvs.length : Int) = (j : Int) := ⟨(Int.fmod (Int.fdiv n 4) (mvs.length : Int)).toNat, by omega⟩
  obtain ⟨x, hx⟩ : ∃ x, vers[j]? = some x := ⟨_, List.getElem?_eq_getElem (by omega)⟩
  have hxm := List.mem_of_getElem? hx
  have gm : mvs[j]? = some (.ref x.v) := by rw [hmv, List.getElem?_map, hx]; rfl
  have gd : dvs[j]? = some (.ref x.d) := by rw [hdv, List.getElem?_map, hx]; rfl
  obtain ⟨tc, gc⟩ : ∃ tc, cvs[j]? = some (.int (List.length x.ns) tc) := by
    obtain ⟨vv, hvv⟩ : ∃ vv, cvs[j]? = some vv := ⟨_, List.getElem?_eq_getElem (by omega)⟩
    obtain ⟨a, t, rfl, ha⟩ := IntsAre.at ci _ _ hvv
    rw [List.getElem?_map, hx] at ha
    exact ⟨t, by rw [hvv]; cases ha; rfl⟩
  obtain ⟨⟨vs, hvec, hvi⟩, ⟨od, kvs, hdm, hdic, hfl, hmod⟩, htab, hfew⟩ := ok x hxm
  have hxl := len x hxm
  have N2 : News g g.objs.size s.heap ((g.objs.size + 1, oc) :: (K.Lm, listOf mvs.toArray nmm) :: (K.Lc, listOf cvs.toArray nc) :: (K.Lt, listOf dvs.toArray nt) :: (K.La, listOf avs.toArray na) :: (I, oI) :: (Sl, oS) :: tls) :=
    newsCons (N _ (.head _)) (newsCons (N _ (.tail _ (.head _))) (newsCons (N _ (.tail _ (.tail _ (.head _)))) (newsCons (N _ (.tail _ (.tail _ (.tail _ (.head _))))) (newsCons (N _ (.tail _ (.tail _ (.tail _ (.tail _ (.head _)))))) (newsCons hoI (newsCons hoS (fun p hp => N p (.tail _ (.tail _ (.tail _ (.tail _ (.tail _ hp))))))))))))
  clear N
  have q01 : @Ne Nat (g.objs.size + 1) K.Lm := Nat.ne_of_lt (by omega)
  have q10 : @Ne Nat K.Lm (g.objs.size + 1) := Nat.ne_of_gt (by omega)
  have q02 : @Ne Nat (g.objs.size + 1) K.Lc := Nat.ne_of_lt (by omega)
  have q20 : @Ne Nat K.Lc (g.objs.size + 1) := Nat.ne_of_gt (by omega)
  have q03 : @Ne Nat (g.objs.size + 1) K.Lt := Nat.ne_of_lt (by omega)
  have q30 : @Ne Nat K.Lt (g.objs.size + 1) := Nat.ne_of_gt (by omega)
  have q04 : @Ne Nat (g.objs.size + 1) K.La := Nat.ne_of_lt (by omega)
  have q40 : @Ne Nat K.La (g.objs.size + 1) := Nat.ne_of_gt (by omega)
  have q05 : @Ne Nat (g.objs.size + 1) Sl := Nat.ne_of_lt (by omega)
  have q50 : @Ne Nat Sl (g.objs.size + 1) := Nat.ne_of_gt (by omega)
  have q06 : @Ne Nat (g.objs.size + 1) I := Nat.ne_of_lt (by omega)
  have q60 : @Ne Nat I (g.objs.size + 1) := Nat.ne_of_gt (by omega)
  have q12 : @Ne Nat K.Lm K.Lc := Nat.ne_of_lt (by omega)
  have q21 : @Ne Nat K.Lc K.Lm := Nat.ne_of_gt (by omega)
  have q13 : @Ne Nat K.Lm K.Lt := Nat.ne_of_lt (by omega)
  have q31 : @Ne Nat K.Lt K.Lm := Nat.ne_of_gt (by omega)
  have q14 : @Ne Nat K.Lm K.La := Nat.ne_of_lt (by omega)
  have q41 : @Ne Nat K.La K.Lm := Nat.ne_of_gt (by omega)
  have q15 : @Ne Nat K.Lm Sl := Nat.ne_of_lt (by omega)
  have q51 : @Ne Nat Sl K.Lm := Nat.ne_of_gt (by omega)
  have q16 : @Ne Nat K.Lm I := Nat.ne_of_lt (by omega)
  have q61 : @Ne Nat I K.Lm := Nat.ne_of_gt (by omega)
  have q23 : @Ne Nat K.Lc K.Lt := Nat.ne_of_lt (by omega)
  have q32 : @Ne Nat K.Lt K.Lc := Nat.ne_of_gt (by omega)
  have q24 : @Ne Nat K.Lc K.La := Nat.ne_of_lt (by omega)
  have q42 : @Ne Nat K.La K.Lc := Nat.ne_of_gt (by omega)
  have q25 : @Ne Nat K.Lc Sl := Nat.ne_of_lt (by omega)
  have q52 : @Ne Nat Sl K.Lc := Nat.ne_of_gt (by omega)
  have q26 : @Ne Nat K.Lc I := Nat.ne_of_lt (by omega)
  have q62 : @Ne Nat I K.Lc := Nat.ne_of_gt (by omega)
  have q34 : @Ne Nat K.Lt K.La := Nat.ne_of_lt (by omega)
  have q43 : @Ne Nat K.La K.Lt := Nat.ne_of_gt (by omega)
  have q35 : @Ne Nat K.Lt Sl := Nat.ne_of_lt (by omega)
  have q53 : @Ne Nat Sl K.Lt := Nat.ne_of_gt (by omega)
  have q36 : @Ne Nat K.Lt I := Nat.ne_of_lt (by omega)
  have q63 : @Ne Nat I K.Lt := Nat.ne_of_gt (by omega)
  have q45 : @Ne Nat K.La Sl := Nat.ne_of_lt (by omega)
  have q54 : @Ne Nat Sl K.La := Nat.ne_of_gt (by omega)
  have q46 : @Ne Nat K.La I := Nat.ne_of_lt (by omega)
  have q64 : @Ne Nat I K.La := Nat.ne_of_gt (by omega)
  have q56 : @Ne Nat Sl I := Nat.ne_of_lt (by omega)
  have q65 : @Ne Nat I Sl := Nat.ne_of_gt (by omega)
  have w0 : ∀ p ∈ tls, @Ne Nat p.1 (g.objs.size + 1) := fun p hp => off p hp _ (by simp)
  have w4 : ∀ p ∈ tls, @Ne Nat p.1 K.La := fun p hp => off p hp _ (by simp)
  have ci' : True ∧ IntsAre cvs (vers.map fun x => (x.ns.length : Int)) := ⟨trivial, ci⟩
  have ai' : True ∧ IntsAre avs as := ⟨trivial, ai⟩
  have hal := IntsAre.length ai
  have hal2 : avs.length ≤ 3 := by omega
  clear ci ai
  unfold lmap at F
  unfold LawE
  walk_at "mstepsT"
  rename Fr _ _ _ _ => F9
  rename News _ _ _ _ => N9
  refine kt_dict_K F9 N9 T.nolimit (tab_of (N9 _ (.tail _ (.tail _ (.tail _ (.tail _ (.tail _ (.tail _ (.tail _ hdm)))))))).1 hdic hfl hmod) (by rw [kdfD_length, PySem.sizeLine_eq]; omega) ?_
  intro D h4 od4 kvs4 F4 N4 hDl hDm hd4 hf4
  clear F9 N9
  have d1 : @LT.lt Nat _ I D := hDl (I, oI) (.tail _ (.tail _ (.tail _ (.tail _ (.tail _ (.head _))))))
  have d2 : ∀ p ∈ tls, @Ne Nat p.1 D := fun p hp => Nat.ne_of_lt (hDl p (.tail _ (.tail _ (.tail _ (.tail _ (.tail _ (.tail _ (.tail _ hp))))))))
  have d3 : @LT.lt Nat _ K.La D := by omega
  have r0 : @Ne Nat D K.La := Nat.ne_of_gt d3
  have r1 : @Ne Nat K.La D := Nat.ne_of_lt d3
  have f0 := Int.fmod_nonneg_of_pos (a := Int.fdiv (Int.fdiv n 4) (mvs.length : Int)) (b := 2 * (x.ns.length : Int) + 4) (by omega)
  have f1 := Int.fmod_lt_of_pos (Int.fdiv (Int.fdiv n 4) (mvs.length : Int)) (b := 2 * (x.ns.length : Int) + 4) (by omega)
  have slo : ∀ a ∈ [g.objs.size + 1, K.Lm, K.Lc, K.Lt, K.La, I, D], @Ne Nat Sl a := fun a ha => by
    simp only [List.mem_cons, List.not_mem_nil, or_false] at ha
    rcases ha with h | h | h | h | h | h | h <;> rw [h] <;> first | exact Nat.ne_of_gt (by omega) | exact Nat.ne_of_lt (by omega)
  have offD : ∀ a ∈ [g.objs.size + 1, K.Lm, K.Lc, K.Lt, K.La, I], @Ne Nat D a := fun a ha => by
    simp only [List.mem_cons, List.not_mem_nil, or_false] at ha
    rcases ha with h | h | h | h | h | h <;> rw [h] <;> exact Nat.ne_of_gt (by omega)
  have sub7 : ∀ a ∈ [g.objs.size + 1, K.Lm, K.Lc, K.Lt, K.La, I], a ∈ [g.objs.size + 1, K.Lm, K.Lc, K.Lt, K.La, I, D] := fun a ha => by
    simp only [List.mem_cons, List.not_mem_nil, or_false] at ha ⊢
    rcases ha with h | h | h | h | h | h <;> simp [h]
  have tlo : ∀ q ∈ tls, ∀ a ∈ [g.objs.size + 1, K.Lm, K.Lc, K.Lt, K.La, I, D], @Ne Nat q.1 a := fun q hq a ha => by
    simp only [List.mem_cons, List.not_mem_nil, or_false] at ha
    rcases ha with h | h | h | h | h | h | h
    · exact off q hq a (by simp [h])
    · exact off q hq a (by simp [h])
    · exact off q hq a (by simp [h])
    · exact off q hq a (by simp [h])
    · exact off q hq a (by simp [h])
    · exact off q hq a (by simp [h])
    · rw [h]; exact d2 q hq
  have hfw := htab.few
  have f0' := f0
  have f1' := f1
  rw [hmv] at f0' f1'
  walk_at "mstepsU"
  · rename Fr _ _ _ _ => F9
    rename News _ _ _ _ => N9
    have Nz := newsCons (N9 _ (.tail _ (.head _))) (newsCons (N9 _ (.tail _ (.tail _ (.head _)))) (newsCons (N9 _ (.tail _ (.tail _ (.tail _ (.head _))))) (newsCons (N9 _ (.tail _ (.tail _ (.tail _ (.tail _ (.head _)))))) (newsCons (N9 _ (.tail _ (.tail _ (.tail _ (.tail _ (.tail _ (.head _))))))) (newsCons (N9 _ (.tail _ (.tail _ (.tail _ (.tail _ (.tail _ (.tail _ (.head _)))))))) (newsCons (N9 _ (.tail _ (.tail _ (.tail _ (.tail _ (.tail _ (.tail _ (.tail _ (.head _))))))))) (newsCons (N9 _ (.tail _ (.tail _ (.tail _ (.tail _ (.tail _ (.tail _ (.tail _ (.tail _ (.head _)))))))))) (fun p hp => N9 p (.tail _ (.tail _ (.tail _ (.tail _ (.tail _ (.tail _ (.tail _ (.tail _ (.tail _ hp)))))))))))))))))
    have sub : ∀ q ∈ tls, q ∈ (Sl, oS) :: tls := fun q hq => .tail _ hq
    have off2 : ∀ q ∈ (Sl, oS) :: tls, ∀ a ∈ [g.objs.size + 1, K.Lm, K.Lc, K.Lt, K.La, I, D], @Ne Nat q.1 a := fun q hq a ha => by
      rcases List.mem_cons.mp hq with rfl | hq
      · exact slo a ha
      · exact tlo q hq a ha
    refine tail_turn H hC (R1 := R1) (R2 := R2) (fa := fa) (cd := cd) (K := K) (ns := x.ns) (c := x.c) (v := x.v) (fr_kn F9 ⟨rfl, rfl, rfl, rfl, rfl, rfl, rfl, rfl, rfl, rfl, rfl, rfl, trivial⟩) Nz (by assumption) HK (by omega) d1 ⟨⟨vs, hvec.mono fun a o z => z.imp id (sub _), hvi⟩, ⟨kvs4, hd4, hf4⟩, htab⟩ off2 (by omega) (by omega) (getD_bound (lo := -60000) (hi := 60000) (by intro a ha; simp only [List.mem_cons, List.not_mem_nil, or_false] at ha; omega) (by omega) _).1 (getD_bound (lo := -60000) (hi := 60000) (by intro a ha; simp only [List.mem_cons, List.not_mem_nil, or_false] at ha; omega) (by omega) _).2 (by omega) (by omega) (by omega) ?_ ?_
    · intro h' tk u' od' V ns' c' new tc' m1 m2 m3 F1 N1 S1 hnew l1 l2
      have z := hnext h' tk (ls_next (tls := tls) F1 (hmv ▸ hdv ▸ N1) ⟨_, by assumption⟩ sub hf hn ci'.2 ai'.2 ab al ok len v2 vk hk (getD_bound (lo := -60000) (hi := 60000) (by intro a ha; simp only [List.mem_cons, List.not_mem_nil, or_false] at ha; omega) (by omega) _) (fun q hq a ha => off2 q hq a (sub7 a ha)) (fun q hq a ha => hnew q hq a (sub7 a ha)) offD S1 hDm (by omega)) (N1 (I, oI) (.tail _ (.tail _ (.tail _ (.tail _ (.tail _ (.tail _ (.head _)))))))).1 (N1 (Sl, oS) (.tail _ (.tail _ (.tail _ (.tail _ (.tail _ (.tail _ (.tail _ (List.mem_append_left _ (.head _)))))))))).1
      exact z.1
    · intro h' tk u' F1 N1
      have z := hnext h' tk (ls_cont (tls := tls) F1 (hmv ▸ hdv ▸ N1) ⟨_, by assumption⟩ sub hf hn ci'.2 ai'.2 ab al ok len v2 vk (getD_bound (lo := -60000) (hi := 60000) (by intro a ha; simp only [List.mem_cons, List.not_mem_nil, or_false] at ha; omega) (by omega) _) (fun q hq a ha => off2 q hq a (sub7 a ha))) (N1 (I, oI) (.tail _ (.tail _ (.tail _ (.tail _ (.tail _ (.tail _ (.head _)))))))).1 (N1 (Sl, oS) (.tail _ (.tail _ (.tail _ (.tail _ (.tail _ (.tail _ (.tail _ (.head _))))))))).1
      exact z.2
  · rename Fr _ _ _ _ => F9
    rename News _ _ _ _ => N9
    have Nz := newsCons (N9 _ (.head _)) (newsCons (N9 _ (.tail _ (.head _))) (newsCons (N9 _ (.tail _ (.tail _ (.head _)))) (newsCons (N9 _ (.tail _ (.tail _ (.tail _ (.head _))))) (newsCons (N9 _ (.tail _ (.tail _ (.tail _ (.tail _ (.head _)))))) (newsCons (N9 _ (.tail _ (.tail _ (.tail _ (.tail _ (.tail _ (.head _))))))) (newsCons (N9 _ (.tail _ (.tail _ (.tail _ (.tail _ (.tail _ (.tail _ (.head _)))))))) (newsCons (N9 _ (.tail _ (.tail _ (.tail _ (.tail _ (.tail _ (.tail _ (.tail _ (.head _))))))))) (fun p hp => N9 p (.tail _ (.tail _ (.tail _ (.tail _ (.tail _ (.tail _ (.tail _ (.tail _ hp))))))))))))))))
    have sub : ∀ q ∈ tls, q ∈ (Sl, oS) :: tls := fun q hq => .tail _ hq
    have off2 : ∀ q ∈ (Sl, oS) :: tls, ∀ a ∈ [g.objs.size + 1, K.Lm, K.Lc, K.Lt, K.La, I, D], @Ne Nat q.1 a := fun q hq a ha => by
      rcases List.mem_cons.mp hq with rfl | hq
      · exact slo a ha
      · exact tlo q hq a ha
    refine tail_turn H hC (R1 := R1) (R2 := R2) (fa := fa) (cd := cd) (K := K) (ns := x.ns) (c := x.c) (v := x.v) (fr_kn F9 ⟨rfl, rfl, rfl, rfl, rfl, rfl, rfl, rfl, rfl, rfl, rfl, rfl, trivial⟩) Nz (by assumption) HK (by omega) d1 ⟨⟨vs, hvec.mono fun a o z => z.imp id (sub _), hvi⟩, ⟨kvs4, hd4, hf4⟩, htab⟩ off2 (by omega) (by omega) (by omega) (by omega) (by omega) (by omega) (by omega) ?_ ?_
    · intro h' tk u' od' V ns' c' new tc' m1 m2 m3 F1 N1 S1 hnew l1 l2
      have z := hnext h' tk (ls_next (tls := tls) F1 (hmv ▸ hdv ▸ N1) ⟨_, by assumption⟩ sub hf hn ci'.2 ai'.2 ab al ok len v2 vk hk ⟨by omega, by omega⟩ (fun q hq a ha => off2 q hq a (sub7 a ha)) (fun q hq a ha => hnew q hq a (sub7 a ha)) offD S1 hDm (by omega)) (N1 (I, oI) (.tail _ (.tail _ (.tail _ (.tail _ (.tail _ (.tail _ (.head _)))))))).1 (N1 (Sl, oS) (.tail _ (.tail _ (.tail _ (.tail _ (.tail _ (.tail _ (.tail _ (List.mem_append_left _ (.head _)))))))))).1
      exact z.1
    · intro h' tk u' F1 N1
      have z := hnext h' tk (ls_cont (tls := tls) F1 (hmv ▸ hdv ▸ N1) ⟨_, by assumption⟩ sub hf hn ci'.2 ai'.2 ab al ok len v2 vk ⟨by omega, by omega⟩ (fun q hq a ha => off2 q hq a (sub7 a ha))) (N1 (I, oI) (.tail _ (.tail _ (.tail _ (.tail _ (.tail _ (.tail _ (.head _)))))))).1 (N1 (Sl, oS) (.tail _ (.tail _ (.tail _ (.tail _ (.tail _ (.tail _ (.tail _ (.head _))))))))).1
      exact z.2

theorem reset40 : True := by
  k_with_none
  (k_with "kinst" => (refine' InstAt.of_base ?zzF ?zzh1 ?zzh2; (case zzF => k_asm); (case zzh1 => k_asm); (case zzh2 => k_asm)))
  (k_with "mcx" => exact ⟨by k_asm, by k_asm, by k_asm, by k_asm, rfl, by first | rfl | assumption, by first | rfl | assumption, rfl, by walk_at "room", by walk_at "unitz"⟩)
  (k_with "room" => first | exact rm 1 _ (by assumption) rfl (by exact rfl) | exact rm 0 _ (by assumption) rfl (by exact rfl) | exact rm 2 _ (by assumption) rfl (by exact rfl) | exact rm0 0 (by assumption) rfl (by exact rfl) | exact rm0 1 (by assumption) rfl (by exact rfl) | ((try simp only [depth_under_make, depth_under_kw, depth_in1, depth_deeper, depth_caller]); (try dsimp only [Around.deeper, Around.in1, Around.under]); omega))
  (k_with "unitz" => first | exact rm 3 _ (by assumption) rfl (by exact rfl) | exact rm 4 _ (by assumption) rfl (by exact rfl) | exact rm 0 _ (by assumption) rfl (by exact rfl) | exact rm 1 _ (by assumption) rfl (by exact rfl) | exact rm 6 _ (by assumption) rfl (by exact rfl) | exact rm 7 _ (by assumption) rfl (by exact rfl) | ((try simp only [units_in1, units_deeper, Around.mark_units, units_caller]); (try dsimp only [Around.deeper, Around.in1, Around.under]); omega))
  (k_with "menter" => (refine' enterX ?zzk1 ?zzk2 ?zzk3 ?zzk4 ?zzk5 ?zzkA ?zzkF ?zzkK ?zzk6 ?zzk7 ?zzk8 ?zzk9 ?zzkB ?_ ?zzc2 ?zzc3 ?zzc4 ?zzc5; (case zzkA => exact rfl); (case zzkF => first | exact rfl | assumption); (case zzkK => first | exact rfl | assumption); (case zzk1 => k_asm); (case zzk2 => k_asm); (case zzk3 => k_asm); (case zzk4 => first | exact News.nil | k_asm); (case zzk5 => k_asm); (case zzk6 => k_is); (case zzk7 => k_is); (case zzk8 => walk_at "room"); (case zzk9 => first | exact BindsTo.of_eq rfl | exact binds_K (by k_in) rfl (by k_is) rfl rfl rfl); (case zzc5 => decide); (case zzkB => exact locs rfl); (case zzc2 => exact rfl); (case zzc3 => exact rfl); (case zzc4 => exact rfl); k_whole; intro _ _ _ _ _ _ _ _ _ _; (try dsimp only); (try k_fold)))
  (k_with "call builtin:len" => (k_here; (with_reducible show wpAny _ _ (call (Value.builtin _) [Value.ref _]) _ _ _); (with_unfolding_all refine' len_list ?zzk1 ?zzk2 ?_; (case zzk1 => is_list); (case zzk2 => omega); k_whole)))
  (k_with "subscriptTail" => (k_here; (with_reducible show wpAny _ _ (subscriptTail _ _ (Value.ref _) (Value.int _ _)) _ _ _); (with_unfolding_all refine' item_list ?zzk1 ?zzk2 ?zzk3 ?zzk4 ?_ ?zzk6; (case zzk1 => is_list); (case zzk2 => first | assumption | exact rfl); (case zzk3 => omega); (case zzk4 => omega); (case zzk6 => with_unfolding_all rfl); k_whole)))
  (k_with "setItem ref int" => (k_here; (with_reducible show wpAny _ _ (setItem (Value.ref _) (Value.int _ _) _) _ _ _); k_dflt (refine' set_list ?zzk1 ?zzk2 ?zzk3 ?zzk4 ?zzk5 ?zzk6 ?_; (case zzk1 => k_asm); (case zzk2 => k_asm); (case zzk6 => k_upd); (case zzk3 => omega); (case zzk4 => omega); (case zzk5 => omega); k_whole); intro _ _ _; (try k_sweep)))
  (k_with "call builtin:list.append" => (k_here; (with_reducible show wpAny _ _ (call (Value.builtin _) [Value.ref _, _]) _ _ _); k_dflt (refine' app_list ?zzk1 ?zzk2 ?zzk3 ?zzk4 ?_; (case zzk1 => k_asm); (case zzk2 => k_asm); (case zzk4 => k_upd); (case zzk3 => omega); k_whole); intro _ _ _; (try k_sweep)))
  (k_with "call type:list" => (k_here; (with_reducible show wpAny _ _ (call (Value.type _) [Value.ref _]) _ _ _); (with_unfolding_all refine' copy_list' ?zzk1 ?zzk2 ?zzk3 ?zzk4 ?_; (case zzk1 => k_asm); (case zzk2 => k_asm); (case zzk3 => is_list); (case zzk4 => omega); k_whole); walk_at "in2"))
  (k_with "truthy ref" => (k_here; (with_reducible show wpAny _ _ (truthy (Value.ref _)) _ _ _); (with_unfolding_all refine' truthy_list' ?zzk1 ?zzk2 ?_; (case zzk1 => is_list); (case zzk2 => omega); k_whole)))
  (k_with "binaryOp BitAnd int int" => (k_here; (with_reducible refine and31 ?zzk1 ?_; (case zzk1 => omega)); intro _))
  (k_with "binaryOp RShift int int" => (k_here; first | with_reducible refine shr5 ?_ | with_reducible refine shr10 ?_; intro _))
  (k_with "call ref" => (k_here; (with_reducible show wpAny _ _ (call (Value.ref 296) _) _ _ _); k_dflt (refine' new_c ?zzkC ?zzkt ?zzkz ?_; (case zzkC => walk_at "mcx"); (case zzkt => is_list); (case zzkz => first | omega | (simp only [List.length_cons, List.length_nil]; omega)); intro zzx zztls zzh zztk zzdx zzt3 zzext zznew zze; subst zze; (have zzl1 := allNe_of (zznew _ (.head _)).2 (news_get (by k_asm))); (have zzl2 := allNe_of (zznew _ (.tail _ (.head _))).2 (news_get (by k_asm))); (have zzF := frExt (by k_asm) zzext); (have zzN := newsExt (by k_asm) (by k_asm) zzext zznew); (simp only [List.cons_append, List.nil_append] at zzN); (simp only [AllNe, and_true] at zzl1 zzl2); clear zzext zznew; revert zzx zzh zztk zzdx zzt3 zzl1 zzl2 zzF zzN; intro _ _ _ _ _ _ _ _ _; (try k_sweep))))
  (k_with "call ref" => (k_here; (with_reducible show wpAny _ _ (call (Value.ref 228) _) _ _ _); k_dflt (refine' newpath0 ?zzkC ?_; (case zzkC => walk_at "mcx"); intro zzh zztk zzext; (have zzF := frExt (by k_asm) zzext); (have zzN := newsExt (by k_asm) (by k_asm) zzext (tl := []) (fun _ hp => nomatch hp)); (simp only [List.nil_append] at zzN); clear zzext; revert zzh zztk zzF zzN; intro _ _ _ _; (try k_sweep))))
  (k_with "aft1" => (intro zzr zzh zztk zzn zzext zznew; (have zzl1 := allNe_of (zznew _ (.head _)).2 (news_get (by k_asm))); (have zzF := frExt (by k_asm) zzext); (have zzN := newsExt (by k_asm) (by k_asm) zzext zznew); (simp only [List.cons_append, List.nil_append] at zzN); (simp only [AllNe, and_true] at zzl1); clear zzext zznew; revert zzr zzh zztk zzn zzl1 zzF zzN; intro _ _ _ _ _ _ _; (try k_sweep)))
  (k_with "call ref" => (k_here; (with_reducible show wpAny _ _ (call (Value.ref 228) _) _ _ _); k_dflt (refine' newpath5 ?zzkC ?zzkx ?zzkd ?_; (case zzkC => walk_at "mcx"); (case zzkx => walk_at "hx"); (case zzkd => walk_at "hx"); walk_at "aft1")))
  (k_with "hx" => first | assumption | exact Fr.keep (by k_asm) _ _ (by assumption) | exact News.get (by k_asm) (by k_mem))
  (k_with "call ref" => (k_here; (with_reducible show wpAny _ _ (call (Value.ref 263) _) _ _ _); k_dflt (refine' push5 ?zzkC ?zzkp ?zzkz ?_; (case zzkC => walk_at "mcx"); (case zzkp => is_list); (case zzkz => omega); walk_at "aft1")))
  (k_with "aft2" => (intro zzr zzr2 zzh zztk zzn zzn2 zzext zznew; (have zzl1 := allNe_of (zznew _ (.head _)).2 (news_get (by k_asm))); (have zzl2 := allNe_of (zznew _ (.tail _ (.head _))).2 (news_get (by k_asm))); (have zzF := frExt (by k_asm) zzext); (have zzN := newsExt (by k_asm) (by k_asm) zzext zznew); (simp only [List.cons_append, List.nil_append] at zzN); (simp only [AllNe, and_true] at zzl1 zzl2); clear zzext zznew; revert zzr zzr2 zzh zztk zzn zzn2 zzl1 zzl2 zzF zzN; intro _ _ _ _ _ _ _ _ _ _; (try k_sweep)))
  (k_with "call ref" => (k_here; (with_reducible show wpAny _ _ (call (Value.ref 263) _) _ _ _); k_dflt (refine' pushT ?zzkC ?zzkx ?zzkd ?zzkP ?zzkT ?zzkc ?zzkl ?zzkn ?_; (case zzkC => walk_at "mcx"); (case zzkx => walk_at "hx"); (case zzkd => walk_at "hx"); (case zzkT => assumption); (case zzkP => walk_at "hP"); (case zzkc => omega); (case zzkl => omega); (case zzkn => omega); intro zzr zztls zzh zztk zzext zznew zztr; (have zzF := frExt (by k_asm) zzext); (have zzN := newsExt (by k_asm) (by k_asm) zzext zznew); revert zzr zztls zzh zztk zzext zznew zztr zzF zzN; intro _ _ _ _ _ _ _ _ _; (try k_sweep))))
  (k_with "hP" => first | assumption | exact hPk (by k_asm) (by assumption))
  (k_with "call ref" => (k_here; (with_reducible show wpAny _ _ (call (Value.ref 214) _) _ _ _); k_dflt (refine' root_c ?zzkC ?zzkx ?zzkd ?zzkP ?zzkT ?zzkc ?zzkl ?_; (case zzkC => walk_at "mcx"); (case zzkx => walk_at "hx"); (case zzkd => walk_at "hx"); (case zzkT => assumption); (case zzkP => walk_at "hP"); (case zzkc => omega); (case zzkl => omega); intro zztp zzr zztls zzh zztk zzsh zzt zzn zzext zznew zztr; (have zzF := frExt (by k_asm) zzext); (have zzN := newsExt (by k_asm) (by k_asm) zzext zznew); (simp only [List.cons_append] at zzN); revert zztp zzr zztls zzh zztk zzsh zzt zzn zzext zznew zztr zzF zzN; intro _ _ _ _ _ _ _ _ _ _ _ _ _; (try k_sweep))))
  (k_with "call ref" => (k_here; (with_reducible show wpAny _ _ (call (Value.ref 197) _) _ _ _); k_dflt (refine' dosetT ?zzkC ?zzkx ?zzkd ?zzkiv ?zzkP ?zzkV ?zzki ?zzkl ?_; (case zzkC => walk_at "mcx"); (case zzkx => walk_at "hx"); (case zzkd => walk_at "hx"); (case zzkiv => assumption); (case zzkV => assumption); (case zzkP => walk_at "hP"); (case zzki => omega); (case zzkl => omega); intro zzr zztls zzh zztk zzext zznew zztr; (have zzF := frExt (by k_asm) zzext); (have zzN := newsExt (by k_asm) (by k_asm) zzext zznew); revert zzr zztls zzh zztk zzext zznew zztr zzF zzN; intro _ _ _ _ _ _ _ _ _; (try k_sweep))))
  (k_with "call ref" => (k_here; (with_reducible show wpAny _ _ (call (Value.ref 221) _) _ _ _); k_dflt (refine' append_c ?zzkC ?zzkx ?zzkd ?zzkP ?zzkV ?zzkt ?zzkl ?_; (case zzkC => walk_at "mcx"); (case zzkx => walk_at "hx"); (case zzkd => walk_at "hx"); (case zzkV => assumption); (case zzkt => assumption); (case zzkP => walk_at "hP"); (case zzkl => omega); intro zzx zzdx zztl zzh zztk zzc zzt1 zzsh zzt2 zzrt zzoff zzt3 zzn zztls zzls zzys zzzs zzext zznew zzof zztr zze; (have zzF := frExt (by k_asm) zzext); (have zzN := newsExt (by k_asm) (by k_asm) zzext zznew); (simp only [List.cons_append] at zzN); revert zzx zzdx zztl zzh zztk zzc zzt1 zzsh zzt2 zzrt zzoff zzt3 zzn zztls zzls zzys zzzs zzext zznew zzof zztr zze zzF zzN; intro _ _ _ _ _ _ _ _ _ _ _ _ _ _ _ _ _ _ _ _ _ _ _ _; (try k_sweep))))
  (k_with "msteps" => repeat' (first | (k_unfold; (try dsimp only)) | ((fail_if_success (with_reducible show wpAny _ _ (exec (Stmt.For _ _ _ _ _) _) _ _ _)); (fail_if_success (with_reducible show wpAny _ _ (exec (Stmt.While _ _ _ _) _) _ _ _)); first | walk1 | (dsimp only; walk1) | (leave1; (try dsimp only)))))
  (k_with "menterN" => (refine' enterX ?zzk1 ?zzk2 ?zzk3 ?zzk4 ?zzk5 ?zzkA ?zzkF ?zzkK ?zzk6 ?zzk7 ?zzk8 ?zzk9 ?zzkB ?_ ?zzc2 ?zzc3 ?zzc4 ?zzc5; (case zzkA => exact rfl); (case zzkF => first | exact rfl | assumption); (case zzkK => first | exact rfl | assumption); (case zzk1 => k_asm); (case zzk2 => k_asm); (case zzk3 => k_asm); (case zzk4 => k_asm); (case zzk5 => k_asm); (case zzk6 => k_is); (case zzk7 => k_is); (case zzk8 => walk_at "room"); (case zzk9 => exact BindsTo.of_eq rfl); (case zzc5 => decide); (case zzkB => exact locs rfl); (case zzc2 => exact rfl); (case zzc3 => exact rfl); (case zzc4 => exact rfl); k_whole; intro _ _ _ _ _ _ _ _ _ _; (try dsimp only); (try k_fold)))
  (k_with "call builtin:list.extend" => (k_here; (with_reducible show wpAny _ _ (call (Value.builtin _) [Value.ref _, Value.ref _]) _ _ _); k_dflt (refine' ext_list ?zzF ?zzN ?zzb ?zzz ?zzU ?_; (case zzF => k_asm); (case zzN => k_asm); (case zzU => k_updF); (case zzb => walk_at "hx"); (case zzz => omega); k_whole); intro zzh zzn zzF zzN; (try dsimp only at zzN); revert zzh zzn zzF zzN; intro _ _ _ _; (try k_sweep)))
  (k_with "kall" => assumption)
  (k_with "call ref" => (k_here; (with_reducible show wpAny _ _ (call (Value.ref 176) _) _ _ _); k_dflt (refine' tolist_c ?zzkC ?zzkP ?zzkV ?zzkl ?_; (case zzkC => walk_at "mcx"); (case zzkV => assumption); (case zzkP => walk_at "hP"); (case zzkl => omega); walk_at "aft1")))
  (k_with "kinst" => (refine' InstAt.of_base ?zzF ?zzh1 ?zzh2; (case zzF => k_asm); (case zzh1 => first | k_asm | exact Fr.keep (by k_asm) _ _ (by assumption)); (case zzh2 => first | k_asm | exact Fr.keep (by k_asm) _ _ (by assumption))))
  (k_with "hP" => first | assumption | exact hPk (by k_asm) (by assumption) | exact hPk (by k_asm) (hPk (by k_asm) (by assumption)))
  (k_with "aftV" => (intro zzr zztls zzh zztk zzext zznew zzvec; (have zzF := frExt (by k_asm) zzext); (have zzN := newsExt (by k_asm) (by k_asm) zzext zznew); revert zzr zztls zzh zztk zzext zznew zzvec zzF zzN; intro _ _ _ _ _ _ _ _ _; (try k_sweep)))
  (k_with "call ref" => (k_here; (with_reducible show wpAny _ _ (call (Value.ref 256) _) _ _ _); k_dflt (refine' ext_l ?zzkC ?zzkP ?zzkV ?zzkO ?zzkl ?_; (case zzkC => walk_at "mcx"); (case zzkV => assumption); (case zzkO => is_list); (case zzkP => walk_at "hP"); (case zzkl => first | omega | (simp only [List.length_append, List.length_nil]; omega)); walk_at "aftV")))
  (k_with "call ref" => (k_here; (with_reducible show wpAny _ _ (call (Value.ref 256) _) _ _ _); k_dflt (refine' ext_v ?zzkC ?zzkP ?zzkV ?zzkO ?zzkl ?_; (case zzkC => walk_at "mcx"); (case zzkV => assumption); (case zzkO => assumption); (case zzkP => walk_at "hP"); (case zzkl => omega); walk_at "aftV")))
  (k_with "call builtin:isinstance" => (k_here; (with_reducible show wpAny _ _ (call _ [Value.int _ _, Value.type _]) _ _ _); k_dflt (refine' kia_one kitx_int ?zzX trivial ?zzee ?zznb ?_; (case zzX => k_in); (case zzee => kit_is); (case zznb => kit_nb); k_whole; intro _)))
  (k_with "aftE" => (intro zzh zztk zzext; (have zzF := frExt (by k_asm) zzext); (have zzN := newsExt (tl := []) (by k_asm) (by k_asm) zzext (fun _ h => nomatch h)); (simp only [List.nil_append] at zzN); clear zzext; revert zzh zztk zzF zzN; intro _ _ _ _; (try k_sweep)))
  (k_with "call ref" => (k_here; (with_reducible show wpAny _ _ (call (Value.ref 204) _) _ _ _); k_dflt (refine' node_t ?zzkC ?zzkx ?zzkd ?zzkP ?zzkV ?zzk1 ?zzk2 ?_; (case zzkC => walk_at "mcx"); (case zzkx => walk_at "hx"); (case zzkd => walk_at "hx"); (case zzkV => assumption); (case zzkP => walk_at "hP"); (case zzk1 => omega); (case zzk2 => omega); walk_at "aftE")))
  (k_with "call ref" => (k_here; (with_reducible show wpAny _ _ (call (Value.ref 204) _) _ _ _); k_dflt (refine' node_l ?zzkC ?zzkx ?zzkd ?zzkP ?zzkV ?zzkl ?zzk1 ?zzk2 ?_; (case zzkC => walk_at "mcx"); (case zzkx => walk_at "hx"); (case zzkd => walk_at "hx"); (case zzkV => assumption); (case zzkP => walk_at "hP"); (case zzkl => omega); (case zzk1 => omega); (case zzk2 => omega); intro zzb zzh zztk zzext zzlat; (have zzil := LAt.is (by assumption) zzlat); (have zzF := frExt (by k_asm) zzext); (have zzN := newsExt (tl := []) (by k_asm) (by k_asm) zzext (fun _ h => nomatch h)); (simp only [List.nil_append] at zzN); clear zzext zzlat; revert zzb zzh zztk zzil zzF zzN; intro _ _ _ _ _ _; (try k_sweep))))
  (k_with "call ref" => (k_here; (with_reducible show wpAny _ _ (call (Value.ref 204) _) _ _ _); k_dflt (refine' node_e ?zzkC ?zzkx ?zzkd ?zzk1 ?zzk2 ?zzk3 ?_; (case zzkC => walk_at "mcx"); (case zzkx => walk_at "hx"); (case zzkd => walk_at "hx"); (case zzk1 => omega); (case zzk2 => omega); (case zzk3 => omega); (intro _ _ _ _ _ _ _); (try dsimp only))))
  (k_with "mcatch" => (refine' catchX (x := "IndexError") (T' := "IndexError") (KF := Mine.kx.heap_1 _) ?zzR ?zzF ?zzN ?zzK ?zzU ?zzXB ?zzTB ?zzex PyProof.Rows.Boot.«IndexError» ?zzhn PySem.F.isExc_IndexError PySem.F.notTuple_IndexError ?zzhs ?_; (case zzR => assumption); (case zzF => k_asm); (case zzN => k_asm); (case zzK => k_asm); (case zzU => assumption); (case zzXB => assumption); (case zzTB => assumption); (case zzex => k_is); (case zzhn => decide); (case zzhs => kts_sub); intro _ _ _ _ _ _ _ _))
  (k_with "exec Try" => (k_here; refine wpAny_Try_except ?_))
  (k_with "room" => first | exact rm 1 _ (by assumption) rfl (by exact rfl) | exact rm 0 _ (by assumption) rfl (by exact rfl) | exact rm 2 _ (by assumption) rfl (by exact rfl) | exact rm0 0 (by assumption) rfl (by exact rfl) | exact rm0 1 (by assumption) rfl (by exact rfl) | ((try simp only [depth_under_make, depth_under_kw, depth_in1, depth_deeper, depth_caller]); (try dsimp only [Around.deeper, Around.in1, Around.under]); first | omega | decide))
  (k_with "unitz" => first | exact rm 3 _ (by assumption) rfl (by exact rfl) | exact rm 4 _ (by assumption) rfl (by exact rfl) | exact rm 0 _ (by assumption) rfl (by exact rfl) | exact rm 1 _ (by assumption) rfl (by exact rfl) | exact rm 6 _ (by assumption) rfl (by exact rfl) | exact rm 7 _ (by assumption) rfl (by exact rfl) | ((try simp only [units_in1, units_deeper, Around.mark_units, units_caller]); (try dsimp only [Around.deeper, Around.in1, Around.under]); first | omega | decide))
  (k_with "mstepsL" => repeat' (first | (k_unfold; (try dsimp only)) | ((fail_if_success (with_reducible show wpAny _ _ (exec (Stmt.For _ _ _ _ _) _) _ _ _)); (fail_if_success (with_reducible show wpAny _ _ (binaryOp Operator.Add (Value.ref _) (Value.ref _)) _ _ _)); (fail_if_success (with_reducible show wpAny _ _ (subscriptTail (PySem.Expr.Name _ _) (PySem.Expr.Slice _ _ _ _) _ _) _ _ _)); (fail_if_success (with_reducible show wpAny _ _ (call (Value.type "list") _) _ _ _)); (fail_if_success (with_reducible show wpAny _ _ (call (Value.type "dict") _) _ _ _)); (fail_if_success (with_reducible show wpAny _ _ (call (Value.ref 334) _) _ _ _)); (fail_if_success (with_reducible show wpAny _ _ (call (Value.ref 320) _) _ _ _)); first | walk1 | (dsimp only; walk1))))
  (k_with "mstepsP" => repeat' (first | (k_unfold; (try dsimp only)) | ((fail_if_success (with_reducible show wpAny _ _ (execs (Stmt.For _ _ _ _ _ :: _) _) _ _ _)); (fail_if_success (with_reducible show wpAny _ _ (exec (Stmt.For _ _ _ _ _) _) _ _ _)); (fail_if_success (with_reducible show wpAny _ _ (binaryOp Operator.Add (Value.ref _) (Value.ref _)) _ _ _)); (fail_if_success (with_reducible show wpAny _ _ (subscriptTail (PySem.Expr.Name _ _) (PySem.Expr.Slice _ _ _ _) _ _) _ _ _)); (fail_if_success (with_reducible show wpAny _ _ (call (Value.type "list") _) _ _ _)); (fail_if_success (with_reducible show wpAny _ _ (call (Value.type "dict") _) _ _ _)); (fail_if_success (with_reducible show wpAny _ _ (call (Value.ref 334) _) _ _ _)); (fail_if_success (with_reducible show wpAny _ _ (call (Value.ref 320) _) _ _ _)); first | walk1 | (dsimp only; walk1))))
  (k_with "mstepsB" => repeat' (first | (k_unfold; (try dsimp only)) | ((fail_if_success (with_reducible show wpAny _ _ (setItem (Value.ref _) (Value.int _ _) _) _ _ _)); (fail_if_success (with_reducible show wpAny _ _ (call (Value.ref 221) _) _ _ _)); (fail_if_success (with_reducible show wpAny _ _ (call (Value.ref 256) _) _ _ _)); (fail_if_success (with_reducible show wpAny _ _ (call (Value.ref 190) _) _ _ _)); (fail_if_success (with_reducible show wpAny _ _ (exec (Stmt.For _ _ _ _ _) _) _ _ _)); (fail_if_success (with_reducible show wpAny _ _ (binaryOp Operator.Add (Value.ref _) (Value.ref _)) _ _ _)); (fail_if_success (with_reducible show wpAny _ _ (subscriptTail (PySem.Expr.Name _ _) (PySem.Expr.Slice _ _ _ _) _ _) _ _ _)); (fail_if_success (with_reducible show wpAny _ _ (call (Value.type "list") _) _ _ _)); (fail_if_success (with_reducible show wpAny _ _ (call (Value.type "dict") _) _ _ _)); (fail_if_success (with_reducible show wpAny _ _ (call (Value.ref 334) _) _ _ _)); (fail_if_success (with_reducible show wpAny _ _ (call (Value.ref 320) _) _ _ _)); first | walk1 | (dsimp only; walk1))))
  (k_with "kinst" => (refine' inst_rest ?zzX ?zzF ?zzN ?zzk0 ?zzk ?zzhx ?zzhd; (case zzX => assumption); (case zzF => k_asm); (case zzN => k_asm); (case zzhx => assumption); (case zzhd => assumption); (case zzk0 => assumption); (case zzk => first | exact fun _ h => h | exact fun _ h => .tail _ h | exact fun _ h => .tail _ (.tail _ h) | exact fun _ h => .tail _ (.tail _ (.tail _ h)) | exact fun _ h => .tail _ (.tail _ (.tail _ (.tail _ h))))))
  (k_with "mstepsT" => repeat' (first | (k_unfold; (try dsimp only)) | ((fail_if_success (with_reducible show wpAny _ _ (execs (Stmt.For _ _ _ _ _ :: _) _) _ _ _)); (fail_if_success (with_reducible show wpAny _ _ (execs (Stmt.Assign [Expr.Name (Str.ofString "tail") _] _ _ :: _) _) _ _ _)); (fail_if_success (with_reducible show wpAny _ _ (execs (Stmt.Assign [Expr.Name (Str.ofString "spot") _] _ _ :: _) _) _ _ _)); (fail_if_success (with_reducible show wpAny _ _ (setItem (Value.ref _) (Value.int _ _) _) _ _ _)); (fail_if_success (with_reducible show wpAny _ _ (call (Value.ref 221) _) _ _ _)); (fail_if_success (with_reducible show wpAny _ _ (call (Value.ref 256) _) _ _ _)); (fail_if_success (with_reducible show wpAny _ _ (call (Value.ref 190) _) _ _ _)); (fail_if_success (with_reducible show wpAny _ _ (exec (Stmt.For _ _ _ _ _) _) _ _ _)); (fail_if_success (with_reducible show wpAny _ _ (binaryOp Operator.Add (Value.ref _) (Value.ref _)) _ _ _)); (fail_if_success (with_reducible show wpAny _ _ (subscriptTail (PySem.Expr.Name _ _) (PySem.Expr.Slice _ _ _ _) _ _) _ _ _)); (fail_if_success (with_reducible show wpAny _ _ (call (Value.type "list") _) _ _ _)); (fail_if_success (with_reducible show wpAny _ _ (call (Value.type "dict") _) _ _ _)); (fail_if_success (with_reducible show wpAny _ _ (call (Value.ref 334) _) _ _ _)); (fail_if_success (with_reducible show wpAny _ _ (call (Value.ref 320) _) _ _ _)); first | walk1 | (dsimp only; walk1))))
  trivial
theorem isLaw_litI {w : World} {oc' dV' kV' doc' pm' cdv' ct' : Value} {od' an' : Option Addr} {osl' : Array (Option Value)} {nm nm' ql' : PySem.Str} {pr' : Arguments} {bd bd' : List Stmt} {sc sc' : Scope} {cl' : List (PySem.Str × Addr)}
    (H : IsLaw w nm sc bd) (h2 : (Mine.kx.heap_1 w.params).lookup 353 = some ⟨oc', od', .func (fnX nm' ql' pr' bd' sc' cl' dV' kV' doc' pm' an' cdv' ct'), osl'⟩) (P : PySem.Str → Scope → List Stmt → Prop) (h : IsLaw w nm' sc' bd' → P nm' sc' bd') : P nm sc bd := isLaw_lit H h2 P (h ⟨_, _, _, _, _, _, _, _, _, _, _, _, _, h2⟩)
theorem LSt.less {w : World} {g : Heap} {K : LK} {fx fx' : List Addr} {k : Nat} {h : Heap} (j : LSt w g K fx k h) (m : ∀ a ∈ fx', a ∈ fx) : LSt w g K fx' k h := by
  obtain ⟨u, oc, nm, nc, nt, na, vers, cvs, avs, as, tls, S⟩ := j
  exact ⟨u, oc, nm, nc, nt, na, vers, cvs, avs, as, tls, { S with off := fun p hp a ha => S.off p hp a (m a ha) }⟩
theorem ls_but {w : World} {g : Heap} {K : LK} {k : Nat} {h h' : Heap} {I : Addr} (j : LSt w g K [g.objs.size + 1, K.Lm, K.Lc, K.Lt, K.La, I] k h) (a0 : @LT.lt Nat _ (g.objs.size + 1) I) (a1 : @LT.lt Nat _ K.Lm I) (a2 : @LT.lt Nat _ K.Lc I) (a3 : @LT.lt Nat _ K.Lt I) (a4 : @LT.lt Nat _ K.La I)
    (hL : @Ne Nat g.objs.size I) (hI : g.get? I = none) (hk : ∀ b o, b ≠ I → h.get? b = some o → h'.get? b = some o) : LSt w g K [g.objs.size + 1, K.Lm, K.Lc, K.Lt, K.La, I] k h' := by
  obtain ⟨u, oc, nm, nc, nt, na, vers, cvs, avs, as, tls, S⟩ := j
  refine ⟨u, oc, nm, nc, nt, na, vers, cvs, avs, as, tls, { S with F := fr_but S.F hL hI hk, N := news_but S.N (fun p hp => ?_) hk }⟩
  rcases List.mem_cons.mp hp with rfl | hp
  · exact Nat.ne_of_lt a0
  rcases List.mem_cons.mp hp with rfl | hp
  · exact Nat.ne_of_lt a1
  rcases List.mem_cons.mp hp with rfl | hp
  · exact Nat.ne_of_lt a2
  rcases List.mem_cons.mp hp with rfl | hp
  · exact Nat.ne_of_lt a3
  rcases List.mem_cons.mp hp with rfl | hp
  · exact Nat.ne_of_lt a4
  · exact S.off p hp I (by simp)
theorem ls_end {s : Shared} {I D : Addr} {oI oD : Obj} {h h' : Heap} {tk : Nat} {J : Heap → Prop} (j : J h') (e1 : h'.get? I = some oI) (e2 : h'.get? D = some oD) (h1 : h.get? I = some oI) (h2 : h.get? D = some oD) :
    ∃ h'' tk', ({ s with heap := h', toks := tk } : Shared) = { s with heap := h'', toks := tk' } ∧ (J h'' ∧ h''.get? D = some oD) ∧ ∀ b ∈ [I, D], ∀ o, h.get? b = some o → h''.get? b = some o := by
  refine ⟨h', tk, rfl, ⟨j, e2⟩, fun b hb o e => ?_⟩
  rcases List.mem_cons.mp hb with rfl | hb
  · rw [h1] at e; cases e; exact e1
  · rw [List.mem_singleton.mp hb] at e ⊢; rw [h2] at e; cases e; exact e2
set_option maxHeartbeats 4000000 in
theorem law_main {w : World} {g : Heap} {fa : Addr} {cd : Value} {mean : ExcName → Option Value} {mg mb : PySem.Str → Option Value} {s : Shared} {nm : PySem.Str} {sc : Scope} {bd : List Stmt} (H : IsLaw w nm sc bd) (C : LawCx w g mean mg mb)
    {Q : Flow → Shared → Prop} {R1 R2 : Value → Shared → Prop} {K : LK} (HK : LKok g K) (hJ : LSt w g K [g.objs.size + 1, K.Lm, K.Lc, K.Lt, K.La] 0 s.heap)
    (hnext : ∀ h' tk, LSt w g K [g.objs.size + 1, K.Lm, K.Lc, K.Lt, K.La] 3 h' → wpAny (model PySem.Challenge.rw_im0011_01.row.prog w) (callerA.deeper (envOfC nm sc g.objs.size fa cd)) (execs (bd.drop 9) (envOfC nm sc g.objs.size fa cd)) Q (LawE w (envOfC nm sc g.objs.size fa cd) R1 R2) { s with heap := h', toks := tk }) :
    wpAny (model PySem.Challenge.rw_im0011_01.row.prog w) (callerA.deeper (envOfC nm sc g.objs.size fa cd)) (execs (bd.drop 8) (envOfC nm sc g.objs.size fa cd)) Q (LawE w (envOfC nm sc g.objs.size fa cd) R1 R2) s := by
  have : (PySem.Challenge.rw_im0011_01, Mine.kx.heap_1) = (PySem.Challenge.rw_im0011_01, Mine.kx.heap_1) := by k_fill; rfl
  revert hnext
  refine' isLaw_litI H ?h2 (fun nm sc bd => (∀ h' tk, LSt w g K [g.objs.size + 1, K.Lm, K.Lc, K.Lt, K.La] 3 h' → wpAny (model PySem.Challenge.rw_im0011_01.row.prog w) (callerA.deeper (envOfC nm sc g.objs.size fa cd)) (execs (bd.drop 9) (envOfC nm sc g.objs.size fa cd)) Q (LawE w (envOfC nm sc g.objs.size fa cd) R1 R2) { s with heap := h', toks := tk }) → wpAny (model PySem.Challenge.rw_im0011_01.row.prog w) (callerA.deeper (envOfC nm sc g.objs.size fa cd)) (execs (bd.drop 8) (envOfC nm sc g.objs.size fa cd)) Q (LawE w (envOfC nm sc g.objs.size fa cd) R1 R2) s) ?_
  case h2 => k_is
  clear H
  intro H hnext
  have hC := C
  obtain ⟨B, X, T⟩ := C
  have HK' := HK
  obtain ⟨o1, o2, o3, o4, _, _, ⟨n0, n1, n2, n3, t0, t1, t2, t3, r, hnv⟩, hnl⟩ := HK'
  have hJ0 := hJ
  obtain ⟨u, oc, nmm, nc, nt, na, vers, cvs, avs, as, tls, S⟩ := hJ
  have F := S.F
  have N := S.N
  have off := S.off
  have hLn := N _ (.tail _ (.tail _ (.tail _ (.tail _ (.tail _ S.hn)))))
  rw [hnv] at hLn
  have N3 := newsCons hLn N
  rw [hnv] at hnl
  simp only [List.length_cons] at hnl
  clear N
  unfold lmap at F
  unfold LawE
  (try k_fold)
  dsimp only [List.drop]
  walk_at "mstepsL"
  refine For_K ?_
  walk_at "mstepsL"
  rename Fr _ _ _ _ => F9
  rename News _ _ _ _ => N9
  k_dflt (refine kmk_slice_lit (zs := [.int n1 t1, .int n2 t2, .int n3 t3]) F9 N9 (list_at (N9 _ (.head _)).1) (by kmk_part) (by kmk_part) (pick_runZ (by omega) (by omega) rfl) ?_ (by with_unfolding_all rfl) (by kmk_pure) (by rw [List.size_toArray, PySem.sizeLine_eq]; simp only [List.length_cons]; omega))
  intro D1 h1 F1 N1 l1
  clear F9 N9
  have hSl : @LT.lt Nat _ K.La D1 := l1 (K.La, listOf avs.toArray na) (.tail _ (.tail _ (.tail _ (.tail _ (.tail _ (.head _))))))
  have hD := N1 _ (.head _)
  have hgI := next_is_new F1
  have hLI := Nat.ne_of_lt F1.ns.lt
  have hDI : @LT.lt Nat _ D1 h1.objs.size := Heap.lt_size hD.1
  refine iterK rfl (list_at hD.1) (fun i I v s Q E _ q => go_name q) (fun i h => LSt w g K [g.objs.size + 1, K.Lm, K.Lc, K.Lt, K.La, h1.objs.size] i h ∧ h.get? D1 = some (listOf [Value.int n1 t1, .int n2 t2, .int n3 t3].toArray 0)) ?_ ?_ ?_ ?_
  · rintro I rfl i h h' ⟨j, hd⟩ hk
    refine ⟨ls_but j (by omega) (by omega) (by omega) (by omega) (by omega) hLI hgI hk, hk _ _ (Nat.ne_of_lt hDI) hd⟩
  · refine ⟨⟨u, oc, nmm, nc, nt, na, vers, cvs, avs, as, tls, { S with F := F1, N := fun p hp => N1 p (.tail _ (.tail _ hp)), off := fun p hp a ha => ?_ }⟩, hD.1⟩
    rcases List.mem_append.mp (show a ∈ [g.objs.size + 1, K.Lm, K.Lc, K.Lt, K.La] ++ [h1.objs.size] from ha) with ha | ha
    · exact off p hp a ha
    · rw [List.mem_singleton.mp ha]
      exact news_ne N1 p (.tail _ (.tail _ (.tail _ (.tail _ (.tail _ (.tail _ (.tail _ hp)))))))
  · rintro I i v h tk hIe hvi ⟨hj, hSd⟩ ⟨oI, hoI, _⟩ _
    have hi3 : i ≤ 2 := by
      have := (List.getElem?_eq_some_iff.mp hvi).1
      simp only [List.length_cons, List.length_nil] at this
      omega
    obtain ⟨n, tn, rfl⟩ : ∃ n tn, v = .int n tn := by
      rcases i with _ | _ | _ | i
      · exact ⟨_, _, (Option.some.inj hvi).symm⟩
      · exact ⟨_, _, (Option.some.inj hvi).symm⟩
      · exact ⟨_, _, (Option.some.inj hvi).symm⟩
      · omega
    rw [hIe] at hoI ⊢
    refine main_turn ⟨_, _, _, H, rfl⟩ hC hi3 HK hSl hDI hj ⟨hoI, hLI.symm, hgI⟩ ⟨hSd, hD.2⟩ fun h' tk' j e1 e2 => ⟨ls_end j e1 e2 hoI hSd, ls_end j e1 e2 hoI hSd⟩
  · rintro h tk ⟨hj, _⟩
    exact hnext _ _ (hj.less fun a ha => List.mem_append_left [h1.objs.size] ha)

section
variable {prog : Program} {w : World} {A : Around} {E : Value → Shared → Prop} {s : Shared}
def ZipEnd (s : Shared) (own : List (Addr × Obj)) (ls : List Addr) (h : Heap) (J : Heap → Prop) (Q : Flow → Shared → Prop) (f : Flow) (s₃ : Shared) : Prop :=
  match f with
  | .ret v => Q (.ret v) s₃
  | .brk => Q .next s₃
  | _ => ∃ h' tk', s₃ = { s with heap := h', toks := tk' } ∧ J h' ∧ (∀ p ∈ own, h'.get? p.1 = some p.2) ∧ ∀ b ∈ ls, ∀ o, h.get? b = some o → h'.get? b = some o
theorem iterZip3K {env : Env} {body : List Stmt} {Q : Flow → Shared → Prop} {elts : List Expr} {kk : Nat} {pos : Pos} {l1 l2 l3 : Addr} {xs ys zs : List Value} {N : Nat} (hh : A.handled = none) (hl1 : s.heap.IsList l1 xs.toArray) (hl2 : s.heap.IsList l2 ys.toArray) (hl3 : s.heap.IsList l3 zs.toArray) (e1 : xs.length = N) (e2 : ys.length = N) (e3 : zs.length = N)
    (J : Nat → Heap → Prop) (hI : ∀ i h h', J i h → (∀ b o, (@LT.lt Nat _ b s.heap.objs.size) → h.get? b = some o → h'.get? b = some o) → J i h') (j0 : J 0 s.heap)
    (turn : ∀ i T x y u h tk (own : List (Addr × Obj)), i < N → xs[i]? = some x → ys[i]? = some y → zs[i]? = some u → IsTup h T #[x, y, u] → J i h → (∀ p ∈ own, h.get? p.1 = some p.2 ∧ ¬ (@LT.lt Nat _ p.1 s.heap.objs.size)) →
      wpAny (model prog w) A (assign (.Tuple elts kk pos) env (.ref T)) (fun _ s₂ => wpAny (model prog w) A (execs body env) (ZipEnd s own [l1, l2, l3] h (J (i + 1)) Q) E s₂) E { s with heap := h, toks := tk })
    (done : ∀ h tk, J N h → Q .next { s with heap := h, toks := tk }) :
    wpAny (model prog w) A (call (.type "zip") [.ref l1, .ref l2, .ref l3]) (fun xv s₁ => wpAny (model prog w) A (pyIter xv) (fun it s₂ => LoopKAt prog w A env (.Tuple elts kk pos) body Q E it s₂) E s₁) E s :=
  iterZip3 hh hl1 hl2 hl3 e1 e2 e3 J hI j0 turn done
end
theorem w41_1 : True := by (k_with "mstepsZ" => repeat' (first | (k_unfold; (try dsimp only)) | ((fail_if_success (with_reducible show wpAny _ _ (exec (Stmt.For _ _ _ _ _) _) _ _ _)); (fail_if_success (with_reducible show wpAny _ _ (binaryOp Operator.Add (Value.ref _) (Value.ref _)) _ _ _)); (fail_if_success (with_reducible show wpAny _ _ (subscriptTail (PySem.Expr.Name _ _) (PySem.Expr.Slice _ _ _ _) _ _) _ _ _)); (fail_if_success (with_reducible show wpAny _ _ (call (Value.type "zip") _) _ _ _)); (fail_if_success (with_reducible show wpAny _ _ (call (Value.ref 341) _) _ _ _)); (fail_if_success (with_reducible show wpAny _ _ (call (Value.ref 348) _) _ _ _)); (fail_if_success (with_reducible show wpAny _ _ (call (Value.ref 176) _) _ _ _)); first | walk1 | (dsimp only; walk1)))); trivial
set_option maxHeartbeats 4000000 in
theorem law_zip {w : World} {g : Heap} {fa : Addr} {cd : Value} {mean : ExcName → Option Value} {mg mb : PySem.Str → Option Value} {s : Shared} {nm : PySem.Str} {sc : Scope} {bd : List Stmt} (H : IsLaw w nm sc bd) (C : LawCx w g mean mg mb)
    {Q : Flow → Shared → Prop} {R1 R2 : Value → Shared → Prop} {K : LK} (HK : LKok g K) (hJ : LSt w g K [g.objs.size + 1, K.Lm, K.Lc, K.Lt, K.La] 3 s.heap)
    (hnext : ∀ h' tk, LSt w g K [g.objs.size + 1, K.Lm, K.Lc, K.Lt, K.La] 3 h' → wpAny (model PySem.Challenge.rw_im0011_01.row.prog w) (callerA.deeper (envOfC nm sc g.objs.size fa cd)) (execs (bd.drop 10) (envOfC nm sc g.objs.size fa cd)) Q (LawE w (envOfC nm sc g.objs.size fa cd) R1 R2) { s with heap := h', toks := tk }) :
    wpAny (model PySem.Challenge.rw_im0011_01.row.prog w) (callerA.deeper (envOfC nm sc g.objs.size fa cd)) (execs (bd.drop 9) (envOfC nm sc g.objs.size fa cd)) Q (LawE w (envOfC nm sc g.objs.size fa cd) R1 R2) s := by
  have : (PySem.Challenge.rw_im0011_01, Mine.kx.heap_1) = (PySem.Challenge.rw_im0011_01, Mine.kx.heap_1) := by k_fill; rfl
  revert hnext
  refine' isLaw_lit H ?h2 (fun nm sc bd => (∀ h' tk, LSt w g K [g.objs.size + 1, K.Lm, K.Lc, K.Lt, K.La] 3 h' → wpAny (model PySem.Challenge.rw_im0011_01.row.prog w) (callerA.deeper (envOfC nm sc g.objs.size fa cd)) (execs (bd.drop 10) (envOfC nm sc g.objs.size fa cd)) Q (LawE w (envOfC nm sc g.objs.size fa cd) R1 R2) { s with heap := h', toks := tk }) → wpAny (model PySem.Challenge.rw_im0011_01.row.prog w) (callerA.deeper (envOfC nm sc g.objs.size fa cd)) (execs (bd.drop 9) (envOfC nm sc g.objs.size fa cd)) Q (LawE w (envOfC nm sc g.objs.size fa cd) R1 R2) s) ?_
  case h2 => k_is
  intro hnext
  have hC := C
  obtain ⟨B, X, T⟩ := C
  have HK' := HK
  obtain ⟨o1, o2, o3, o4, hsz, _, _, hnl⟩ := HK'
  obtain ⟨u, oc, nmm, nc, nt, na, vers, cvs, avs, as, tls, F, N, ⟨vc, hoc⟩, hf, hn, ci, ai, ab, al, ok, len, v2, vk, off⟩ := hJ
  have ci' : True ∧ IntsAre cvs (vers.map fun x => (x.ns.length : Int)) := ⟨trivial, ci⟩
  have ai' : True ∧ IntsAre avs as := ⟨trivial, ai⟩
  have hcl := IntsAre.length ci
  rw [List.length_map] at hcl
  have hal := IntsAre.length ai
  clear ci ai
  unfold lmap at F
  unfold LawE
  (try k_fold)
  dsimp only [List.drop]
  walk_at "mstepsZ"
  refine For_K ?_
  walk_at "mstepsZ"
  rename Fr _ _ _ _ => F9
  rename News _ _ _ _ => N9
  have gone : ∀ b, ¬ (@LT.lt Nat _ b s.heap.objs.size) → b ≠ g.objs.size ∧ g.get? b = none := fun b hb => by
    have := F9.ns.lt
    refine ⟨fun e => hb (by rw [e]; exact this), ?_⟩
    cases e : g.get? b with
    | none => rfl
    | some o => exact absurd (Heap.lt_size (F9.keep _ _ e)) hb
  have low : ∀ {b o}, s.heap.get? b = some o → @LT.lt Nat _ b s.heap.objs.size := fun e => Heap.lt_size e
  refine iterZip3K (N := vers.length) rfl (list_at (N9 _ (.tail _ (.head _))).1) (list_at (N9 _ (.tail _ (.tail _ (.head _)))).1) (list_at (N9 _ (.tail _ (.tail _ (.tail _ (.head _))))).1) (by rw [List.length_map]) hcl (by rw [List.length_map])
    (fun i h => ∃ u : PySem.Str → Option Value, Fr g g.objs.size h (lmap K.Ln K.Lf K.Lm K.Lc K.Lt K.La K.size K.ts u) ∧ News g g.objs.size h ((g.objs.size + 1, oc) :: (K.Lm, listOf (vers.map fun x => Value.ref x.v).toArray nmm) :: (K.Lc, listOf cvs.toArray nc) :: (K.Lt, listOf (vers.map fun x => Value.ref x.d).toArray nt) :: (K.La, listOf avs.toArray na) :: tls)) ?_ ?_ ?_ ?_
  · rintro i h h' ⟨u, Fj, Nj⟩ hk
    refine ⟨u, ⟨Fj.ns.at' fun o e => hk _ _ F9.ns.lt e, fun b o e => hk b o (low (F9.keep _ _ e)) (Fj.keep b o e), Fj.above⟩, fun p hp => ?_⟩
    exact ⟨hk _ _ (low (N9 p hp).1) (Nj p hp).1, (Nj p hp).2⟩
  · exact ⟨u, F9, N9⟩
  · rintro i T x y z h tk own hi hx hy hz hT ⟨u1, Fj, Nj⟩ hown
    rw [List.getElem?_map] at hx hz
    obtain ⟨vr, hvr⟩ : ∃ x, vers[i]? = some x := ⟨_, List.getElem?_eq_getElem hi⟩
    rw [hvr] at hx hz
    cases hx
    cases hz
    obtain ⟨cc, tc, rfl, hcc⟩ := IntsAre.at ci'.2 _ _ hy
    rw [List.getElem?_map, hvr] at hcc
    cases hcc
    have hvm := List.mem_of_getElem? hvr
    obtain ⟨⟨vs, hvec, hvi⟩, ⟨od, kvs, hdm, hdic, hfl, hmod⟩, htab, hfew⟩ := ok vr hvm
    have hvl := len vr hvm
    have hil := IntsAre.length hvi
    have N2 : News g g.objs.size h ((g.objs.size + 1, oc) :: (K.Lm, listOf (vers.map fun x => Value.ref x.v).toArray nmm) :: (K.Lc, listOf cvs.toArray nc) :: (K.Lt, listOf (vers.map fun x => Value.ref x.d).toArray nt) :: (K.La, listOf avs.toArray na) :: (tls ++ own)) := fun p hp => by
      rw [← List.cons_append, ← List.cons_append, ← List.cons_append, ← List.cons_append, ← List.cons_append] at hp
      rcases List.mem_append.mp hp with hp | hp
      · exact Nj p hp
      · exact ⟨(hown p hp).1, gone _ (hown p hp).2⟩
    have e1 := (N2 _ (.tail _ (.head _))).1
    have e2 := (N2 _ (.tail _ (.tail _ (.head _)))).1
    have e3 := (N2 _ (.tail _ (.tail _ (.tail _ (.head _))))).1
    unfold lmap at Fj
    clear F9 N9 Nj
    walk_at "mstepsZ"
    rename Fr _ _ _ _ => F9
    rename News _ _ _ _ => N9
    have sub : ∀ p ∈ tls, p ∈ (g.objs.size + 1, oc) :: (K.Lm, listOf (vers.map fun x => Value.ref x.v).toArray nmm) :: (K.Lc, listOf cvs.toArray nc) :: (K.Lt, listOf (vers.map fun x => Value.ref x.d).toArray nt) :: (K.La, listOf avs.toArray na) :: (tls ++ own) := fun p hp => .tail _ (.tail _ (.tail _ (.tail _ (.tail _ (List.mem_append_left _ hp)))))
    refine holds_c (P := Orr (KK w) tls) (size := K.size) (lawC hC rfl F9 rfl) X hC.T N9 (orr_at X F9 N9 sub) (fun a o q => q.elim (fun q e => by rw [e] at q; exact absurd (Heap.lt_size (X _ _ q)) (Nat.lt_irrefl _)) fun q => (N9 _ (sub _ q)).2.1) hvec hvi (by omega) (by omega) (by omega) (by omega)
      (tab_of (N9 _ (sub _ hdm)).1 hdic hfl hmod) (N9 _ (sub _ hdm)).2.1 (list_at (N9 _ (.tail _ (.tail _ (.tail _ (.tail _ (.head _)))))).1) ai'.2 (by omega) ab htab.val ?_
    intro h3 tk3 F3 N3
    clear F9 N9
    walk_at "mstepsZ"
    rename Fr _ _ _ _ => F9
    rename News _ _ _ _ => N9
    refine ⟨_, _, rfl, ⟨_, fr_lmap F9 rfl rfl rfl rfl rfl rfl rfl, fun p hp => N9 p (by rw [← List.cons_append, ← List.cons_append, ← List.cons_append, ← List.cons_append, ← List.cons_append]; exact List.mem_append_left _ hp)⟩, fun p hp => (N9 p (.tail _ (.tail _ (.tail _ (.tail _ (.tail _ (List.mem_append_right _ hp))))))).1, fun b hb o e => ?_⟩
    simp only [List.mem_cons, List.not_mem_nil, or_false] at hb
    rcases hb with rfl | rfl | rfl
    · rw [e1] at e; cases e; exact (N9 _ (.tail _ (.head _))).1
    · rw [e2] at e; cases e; exact (N9 _ (.tail _ (.tail _ (.head _)))).1
    · rw [e3] at e; cases e; exact (N9 _ (.tail _ (.tail _ (.tail _ (.head _))))).1
  · rintro h tk ⟨u1, Fj, Nj⟩
    exact hnext _ _ ⟨u1, oc, nmm, nc, nt, na, vers, cvs, avs, as, tls, ⟨Fj, Nj, ⟨vc, hoc⟩, hf, hn, ci'.2, ai'.2, ab, al, ok, len, v2, vk, off⟩⟩

theorem item_any {prog : Program} {w : World} {A : Around} {E : Value → Shared → Prop} {s : Shared} {l : Addr} {vs : List Value} {j : Nat} {k : Int} {u : Tok} {x : Value} {value slice : PySem.Expr} {Q : Value → Shared → Prop} (hl : s.heap.IsList l vs.toArray) (hx : vs[j]? = some x) (hj : k = (j : Int) ∨ (k < 0 ∧ k = (j : Int) - vs.length)) (hlen : vs.length ≤ 100) (h : Q x s)
    (hs : subscripted slice false (.ref l) (.int k u) = operate [.ref l, .int k u] (getItem (.ref l) (.int k u)) := by with_unfolding_all rfl) :
    wpAny (model prog w) A (subscriptTail value slice (.ref l) (.int k u)) Q E s := by
  have := (List.getElem?_eq_some_iff.mp hx).1
  rcases hj with hj | ⟨hk, hj⟩
  · exact item_list hl hx hj (by omega) h hs
  · refine tail_any hl.typeIs slot_list_getitem.lookup (wpAny_getItem_list_neg hl hk (by rw [List.size_toArray]; omega) (by omega) ?_ h) hs
    rw [List.size_toArray, show k + (vs.length : Int) = (j : Int) by omega]
    simpa using hx
theorem o42_1 : True := by (k_with "subscriptTail" => (k_here; (with_reducible show wpAny _ _ (subscriptTail _ _ (Value.ref _) (Value.int _ _)) _ _ _); (with_unfolding_all refine' item_any ?zzk1 ?zzk2 ?zzk3 ?zzk4 ?_ ?zzk6; (case zzk1 => is_list); (case zzk2 => assumption); (case zzk3 => omega); (case zzk4 => omega); (case zzk6 => with_unfolding_all rfl); k_whole))); trivial
theorem o42_2 : True := by (k_with "kinst" => (refine' inst_rest ?zzX ?zzF ?zzN ?zzk0 ?zzk ?zzhx ?zzhd; (case zzX => assumption); (case zzF => k_asm); (case zzN => k_asm); (case zzhx => assumption); (case zzhd => assumption); (case zzk0 => assumption); (case zzk => exact fun _ h => .tail _ (.tail _ (.tail _ (.tail _ (.tail _ (.tail _ (.tail _ h))))))))); trivial
theorem o42_3 : True := by (k_with "mstepsY" => repeat' (first | (k_unfold; (try dsimp only)) | ((fail_if_success (with_reducible show wpAny _ _ (exec (Stmt.For _ _ _ _ _) _) _ _ _)); (fail_if_success (with_reducible show wpAny _ _ (compareOp CmpOp.NotEq (Value.ref _) (Value.ref _)) _ _ _)); (fail_if_success (with_reducible show wpAny _ _ (binaryOp Operator.Add (Value.ref _) (Value.ref _)) _ _ _)); (fail_if_success (with_reducible show wpAny _ _ (subscriptTail (PySem.Expr.Name _ _) (PySem.Expr.Slice _ _ _ _) _ _) _ _ _)); (fail_if_success (with_reducible show wpAny _ _ (call (Value.type "zip") _) _ _ _)); (fail_if_success (with_reducible show wpAny _ _ (call (Value.ref 341) _) _ _ _)); (fail_if_success (with_reducible show wpAny _ _ (call (Value.ref 348) _) _ _ _)); (fail_if_success (with_reducible show wpAny _ _ (call (Value.ref 176) _) _ _ _)); first | walk1 | (dsimp only; walk1)))); trivial
set_option maxHeartbeats 4000000 in
theorem law_end {w : World} {g : Heap} {fa : Addr} {cd : Value} {mean : ExcName → Option Value} {mg mb : PySem.Str → Option Value} {s : Shared} {nm : PySem.Str} {sc : Scope} {bd : List Stmt} (H : IsLaw w nm sc bd) (C : LawCx w g mean mg mb)
    {Q : Flow → Shared → Prop} {R1 R2 : Value → Shared → Prop} {K : LK} (HK : LKok g K) (hJ : LSt w g K [g.objs.size + 1, K.Lm, K.Lc, K.Lt, K.La] 3 s.heap)
    (hret : ∀ h' tk m, Fr g g.objs.size h' m → Q (.ret (.bool true)) { s with heap := h', toks := tk }) :
    wpAny (model PySem.Challenge.rw_im0011_01.row.prog w) (callerA.deeper (envOfC nm sc g.objs.size fa cd)) (execs (bd.drop 10) (envOfC nm sc g.objs.size fa cd)) Q (LawE w (envOfC nm sc g.objs.size fa cd) R1 R2) s := by
  have : (PySem.Challenge.rw_im0011_01, Mine.kx.heap_1) = (PySem.Challenge.rw_im0011_01, Mine.kx.heap_1) := by k_fill; rfl
  refine' isLaw_lit H ?h2 (fun nm sc bd => wpAny (model PySem.Challenge.rw_im0011_01.row.prog w) (callerA.deeper (envOfC nm sc g.objs.size fa cd)) (execs (bd.drop 10) (envOfC nm sc g.objs.size fa cd)) Q (LawE w (envOfC nm sc g.objs.size fa cd) R1 R2) s) ?_
  case h2 => k_is
  have hC := C
  obtain ⟨B, X, T⟩ := C
  have HK' := HK
  obtain ⟨o1, o2, o3, o4, hsz, hfi, _, hnl⟩ := HK'
  obtain ⟨u, oc, nmm, nc, nt, na, vers, cvs, avs, as, tls, F, N, ⟨vc, hoc⟩, hf, hn, ci, ai, ab, al, ok, len, v2, vk, off⟩ := hJ
  have ci' : True ∧ IntsAre cvs (vers.map fun x => (x.ns.length : Int)) := ⟨trivial, ci⟩
  have hfi' : True ∧ IntsAre K.fvs (rangeKs 1000 K.size) := ⟨trivial, hfi⟩
  have hcl := IntsAre.length ci
  rw [List.length_map] at hcl
  clear ci ai hfi
  obtain ⟨mvs, hmv⟩ : ∃ mvs, mvs = vers.map fun x => Value.ref x.v := ⟨_, rfl⟩
  obtain ⟨dvs, hdv⟩ : ∃ dvs, dvs = vers.map fun x => Value.ref x.d := ⟨_, rfl⟩
  rw [← hmv, ← hdv] at N
  have hml : mvs.length = vers.length := by rw [hmv, List.length_map]
  have hdl : dvs.length = vers.length := by rw [hdv, List.length_map]
  unfold lmap at F
  unfold LawE
  (try k_fold)
  dsimp only [List.drop]
  walk_at "mstepsZ"
  refine For_K ?_
  walk_at "mstepsZ"
  rename Fr _ _ _ _ => F9
  rename News _ _ _ _ => N9
  have hgI := next_is_new F9
  have hLI := Nat.ne_of_lt F9.ns.lt
  have hne := news_ne N9
  rename_i l' h' l1
  have hlv := N9 _ (.head _)
  refine iterK rfl (list_at hlv.1) (fun i I v s Q E _ q => go_name q) (fun i h => ∃ u : PySem.Str → Option Value, Fr g g.objs.size h (lmap K.Ln K.Lf K.Lm K.Lc K.Lt K.La K.size K.ts u) ∧ News g g.objs.size h ((l', _) :: (g.objs.size + 1, oc) :: (K.Lm, listOf mvs.toArray nmm) :: (K.Lc, listOf cvs.toArray nc) :: (K.Lt, listOf dvs.toArray nt) :: (K.La, listOf avs.toArray na) :: tls)) ?_ ⟨u, F9, N9⟩ ?_ ?_
  · rintro I rfl i h h' ⟨u1, Fj, Nj⟩ hk
    exact ⟨u1, fr_but Fj hLI hgI hk, news_but Nj hne hk⟩
  · rintro I i v h tk hIe hvi ⟨u1, Fj, Nj⟩ ⟨oI, hoI, _⟩ _
    obtain ⟨t, tt, j, rfl, ht, hjl⟩ : ∃ (t : Int) (tt : Tok) (j : Nat), v = .int t tt ∧ (t = (j : Int) ∨ (t < 0 ∧ t = (j : Int) - (vers.length : Int))) ∧ j < vers.length := by
      rcases i with _ | _ | _ | i
      · exact ⟨0, _, 0, (Option.some.inj hvi).symm, .inl rfl, by omega⟩
      · exact ⟨1, _, 1, (Option.some.inj hvi).symm, .inl rfl, by omega⟩
      · exact ⟨-1, _, vers.length - 1, (Option.some.inj hvi).symm, .inr ⟨by decide, by omega⟩, by omega⟩
      · exact absurd (List.getElem?_eq_some_iff.mp hvi).1 (by simp only [List.length_cons, List.length_nil]; omega)
    obtain ⟨x, hx⟩ : ∃ x, vers[j]? = some x := ⟨_, List.getElem?_eq_getElem hjl⟩
    have hxm := List.mem_of_getElem? hx
    have gm : mvs[j]? = some (.ref x.v) := by rw [hmv, List.getElem?_map, hx]; rfl
    have gd : dvs[j]? = some (.ref x.d) := by rw [hdv, List.getElem?_map, hx]; rfl
    obtain ⟨tc, gc⟩ : ∃ tc, cvs[j]? = some (.int (List.length x.ns) tc) := by
      obtain ⟨vv, hvv⟩ : ∃ vv, cvs[j]? = some vv := ⟨_, List.getElem?_eq_getElem (by omega)⟩
      obtain ⟨a, t, rfl, ha⟩ := IntsAre.at ci'.2 _ _ hvv
      rw [List.getElem?_map, hx] at ha
      exact ⟨t, by rw [hvv]; cases ha; rfl⟩
    obtain ⟨⟨vs, hvec, hvint⟩, ⟨od, kvs, hdm, hdic, hfl, hmod⟩, htab, hfew⟩ := ok x hxm
    have hxl := len x hxm
    have hil := IntsAre.length hvint
    have hvint' : True ∧ IntsAre vs x.ns := ⟨trivial, hvint⟩
    clear hvint
    obtain ⟨dx1, vc1, vt1, sh1, vt2, rt1, tl1, off1, vt3, ls1, ys1, zs1, hvx, hvd, _, _, _⟩ := id hvec
    have hIL : @Ne Nat I g.objs.size := by rw [hIe]; exact hLI.symm
    have hIg : g.get? I = none := by rw [hIe]; exact hgI
    have k00 : ∀ p ∈ tls, p ∈ tls := fun _ h => h
    have hlv2 := (Nj _ (.head _)).1
    have N2 := newsCons (Nj _ (.head _)) (newsCons (Nj _ (.tail _ (.head _))) (newsCons (Nj _ (.tail _ (.tail _ (.head _)))) (newsCons (Nj _ (.tail _ (.tail _ (.tail _ (.head _))))) (newsCons (Nj _ (.tail _ (.tail _ (.tail _ (.tail _ (.head _)))))) (newsCons (Nj _ (.tail _ (.tail _ (.tail _ (.tail _ (.tail _ (.head _))))))) (newsCons (p := (I, oI)) ⟨hoI, hIL, hIg⟩ (fun p hp => Nj p (.tail _ (.tail _ (.tail _ (.tail _ (.tail _ (.tail _ hp)))))))))))))
    have sub1 : ∀ p ∈ tls, ∀ a b c d e f k, p ∈ a :: b :: c :: d :: e :: f :: k :: tls := fun p hp a b c d e f k => .tail _ (.tail _ (.tail _ (.tail _ (.tail _ (.tail _ (.tail _ hp))))))
    unfold lmap at Fj
    clear F9 N9 Nj
    walk_at "mstepsY"
    rename Fr _ _ _ _ => F9
    rename News _ _ _ _ => N9
    refine tolist_c (P := Orr (KK w) tls) (lawC hC rfl F9 rfl) (orr_at X F9 N9 fun p hp => sub1 p hp _ _ _ _ _ _ _) hvec (by omega) ?_
    intro r2 h2 tk2 n2 ext2 new2
    have F10 := frExt F9 ext2
    have N10 := newsExt F9 N9 ext2 new2
    simp only [List.cons_append, List.nil_append] at N10
    clear F9 N9
    walk_at "mstepsY"
    rename Fr _ _ _ _ => F9
    rename News _ _ _ _ => N9
    with_unfolding_all refine item_any (list_at (N9 _ (.tail _ (.tail _ (.tail _ (.tail _ (.head _)))))).1) gc (by omega) (by omega) ?_ ?_
    case refine_2 => with_unfolding_all rfl
    walk_at "mstepsY"
    with_unfolding_all refine item_any (list_at (N9 _ (.tail _ (.tail _ (.tail _ (.tail _ (.tail _ (.head _))))))).1) gd (by omega) (by omega) ?_ ?_
    case refine_2 => with_unfolding_all rfl
    walk_at "mstepsY"
    have htb0 : IntTab PySem.Challenge.rw_im0011_01.row.prog w h2 x.d (kdfD x.c) := tab_of (N9 _ (.tail _ (sub1 _ hdm _ _ _ _ _ _ _))).1 hdic hfl hmod
    refine run_c (lawC hC rfl F9 rfl) (list_at (N9 _ (.tail _ (sub1 _ hf _ _ _ _ _ _ _))).1) hfi'.2 (by have := IntsAre.length hfi'.2; rw [this, rangeKs_length]; omega) htb0 (by omega) (by omega) htab.key ?_
    intro r3 vals n3 h3 tk3 ext3 new3 hvals
    rw [htab.run] at hvals
    have F11 := frExt F9 ext3
    have N11 := newsExt F9 N9 ext3 new3
    simp only [List.cons_append, List.nil_append] at N11
    clear F9 N9
    walk_at "mstepsY"
    rename Fr _ _ _ _ => F9
    rename News _ _ _ _ => N9
    refine ke_ne_ints (list_at (N9 _ (.tail _ (.head _))).1) (list_at (N9 _ (.head _)).1) hvint'.2 hvals (by walk_at "unitz") ?_
    rw [show (!decide (x.ns = x.ns)) = false by simp]
    walk_at "mstepsY"
    rename Fr _ _ _ _ => F9
    rename News _ _ _ _ => N9
    refine ⟨_, _, rfl, ⟨_, fr_lmap F9 rfl rfl rfl rfl rfl rfl rfl, ?_⟩, ?_⟩
    · exact newsCons (N9 _ (.tail _ (.tail _ (.head _)))) (newsCons (N9 _ (.tail _ (.tail _ (.tail _ (.head _))))) (newsCons (N9 _ (.tail _ (.tail _ (.tail _ (.tail _ (.head _)))))) (newsCons (N9 _ (.tail _ (.tail _ (.tail _ (.tail _ (.tail _ (.head _))))))) (newsCons (N9 _ (.tail _ (.tail _ (.tail _ (.tail _ (.tail _ (.tail _ (.head _)))))))) (newsCons (N9 _ (.tail _ (.tail _ (.tail _ (.tail _ (.tail _ (.tail _ (.tail _ (.head _))))))))) (fun p hp => N9 p (.tail _ (.tail _ (sub1 p hp _ _ _ _ _ _ _)))))))))
    · intro b hb o e
      rcases List.mem_cons.mp hb with hb | hb
      · rw [hb] at e ⊢
        rw [hoI] at e; cases e
        exact (N9 (I, oI) (.tail _ (.tail _ (.tail _ (.tail _ (.tail _ (.tail _ (.tail _ (.tail _ (.head _)))))))))).1
      · rw [List.mem_singleton.mp hb] at e ⊢
        rw [hlv2] at e; cases e
        exact (N9 _ (.tail _ (.tail _ (.head _)))).1
  · rintro h tk ⟨u1, Fj, Nj⟩
    unfold lmap at Fj
    clear F9 N9
    walk_at "mstepsZ"
    exact hret _ _ _ (by assumption)

end Mine
local macro_rules | `(tactic| k_qdec) => `(tactic| decide +kernel)
set_option maxHeartbeats 8000000 in
theorem PySem.Challenge.cw_im0011_01_holds : PySem.Challenge.rw_im0011_01.Holds :=
  Mine.hd (by w_strict (
    k_go0
    (all_goals try k_fold)
    rename_i w s₀ s₁ mg mb G Y fa o pm doc ho hg KX X V GL T B TE TW w10 w9 M w8 w7 hcd sns hs hlay0 hL1 hr1 hl2 w5 w4 sl svs wa hL ra w1 r0 hI hr hcond hc2 K0 hD h₁ tk₁ F oc right N0 X0
    obtain ⟨m, F1⟩ := Mine.fr_same (x := "script") (a := some (.ref sl)) F rfl

    refine Mine.law_pre (h := h₁) (m := m) (sl := sl) (svs := svs) (oc := oc) ⟨_, _, _, _, _, _, _, _, _, _, _, _, _, by k_is⟩ ⟨K0, KX, T⟩ hL hI (by omega) right F1 N0 ?_
    intro K h' tk' HK hJ
    refine Mine.law_main ⟨_, _, _, _, _, _, _, _, _, _, _, _, _, by k_is⟩ ⟨K0, KX, T⟩ HK hJ ?_
    intro h2 tk2 hJ2
    refine Mine.law_zip ⟨_, _, _, _, _, _, _, _, _, _, _, _, _, by k_is⟩ ⟨K0, KX, T⟩ HK hJ2 ?_
    intro h3 tk3 hJ3
    refine Mine.law_end ⟨_, _, _, _, _, _, _, _, _, _, _, _, _, by k_is⟩ ⟨K0, KX, T⟩ HK hJ3 ?_
    intro h4 tk4 m4 F4
    dsimp only [qk]
    have F5 := F4
    wrow_close))
