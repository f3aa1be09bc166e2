import PyProof.Rows.All
import Wide.All
import OpenK.AllK
import Wide.FinOn
import PySem.Challenge.RW_bj5010_01
open PySem PySem.W PyProof.Rows
set_option Elab.async false
set_option maxRecDepth 100000
set_option maxHeartbeats 8000000
open_top bjT for PySem.Challenge.rw_bj5010_01
namespace Bj

theorem fillK (P : Params) : Challenge.rw_bj5010_01 = Challenge.rw_bj5010_01 ∧ bjT.heap_39 P = bjT.heap_39 P := by
  k_fill
  exact ⟨rfl, rfl⟩

abbrev NE : Value → Shared → Prop := fun _ _ => False
abbrev Led := List (Addr × Obj)

/-- what a frame's code may lean on -/
structure Gd (w : World) (A : Around) (env : Env) (h₀ : Heap) (r : Nat) : Prop where
  X : (bjT.heap_39 w.params).In h₀
  T : ∃ p loose mg mb, TopRead p loose mg mb h₀
  hke : env.scope.kind = .function
  hgl : env.globals = mainGlobals
  hbl : env.builtins = builtinsNs
  hd : A.depth + r < recursionLimit
  hu : A.units + 10 * r < cLine
  hh : A.handled = none

theorem Gd.weaken {w : World} {A : Around} {env : Env} {h₀ : Heap} {r r' : Nat} (G : Gd w A env h₀ r) (h : r' ≤ r) : Gd w A env h₀ r' :=
  ⟨G.X, G.T, G.hke, G.hgl, G.hbl, by have := G.hd; omega, by have := G.hu; omega, G.hh⟩

/-- the ledger's entry at d made o -/
def put (d : Addr) (o : Obj) (N : Led) : Led := (d, o) :: N.filter fun p => p.1 != d

theorem mem_put {d : Addr} {o : Obj} {N : Led} {p : Addr × Obj} : p ∈ put d o N ↔ p = (d, o) ∨ (p.1 ≠ d ∧ p ∈ N) := by
  unfold put
  rw [List.mem_cons, List.mem_filter]
  constructor
  · rintro (h | ⟨h, e⟩)
    · exact .inl h
    · exact .inr ⟨bne_iff_ne.mp e, h⟩
  · rintro (h | ⟨e, h⟩)
    · exact .inl h
    · exact .inr ⟨h, bne_iff_ne.mpr e⟩
theorem mem_put_self {d : Addr} {o : Obj} {N : Led} : (d, o) ∈ put d o N := mem_put.mpr (.inl rfl)
theorem mem_put_ne {d a : Addr} {o o' : Obj} {N : Led} (h : (a, o') ∈ N) (e : a ≠ d) : (a, o') ∈ put d o N := mem_put.mpr (.inr ⟨e, h⟩)

theorem News.sub {h₀ h : Heap} {L : Addr} {N N' : Led} (x : News h₀ L h N) (s : ∀ p ∈ N', p ∈ N) : News h₀ L h N' := fun p hp => x p (s p hp)
theorem News.uniq {h₀ h : Heap} {L : Addr} {N : Led} (x : News h₀ L h N) {a : Addr} {o o' : Obj} (h1 : (a, o) ∈ N) (h2 : (a, o') ∈ N) : o = o' := by
  have e1 := (x _ h1).1
  have e2 := (x _ h2).1
  rw [e1] at e2; exact Option.some.inj e2
theorem News.filt {h₀ h : Heap} {L : Addr} {N : Led} (x : News h₀ L h N) {d : Addr} {o : Obj} (hm : (d, o) ∈ N) : News h₀ L h ((d, o) :: N.filter fun p => p.1 != d) := by
  intro p hp
  rcases List.mem_cons.mp hp with rfl | hp
  · exact x _ hm
  · exact x _ (List.mem_filter.mp hp).1
theorem filt_ne {N : Led} {d : Addr} : ∀ p ∈ N.filter (fun p => p.1 != d), p.1 ≠ d := fun _ hp => bne_iff_ne.mp (List.mem_filter.mp hp).2

section
variable {prog : Program} {w : World} {A : Around} {env : Env} {h₀ : Heap} {s : Shared} {m : Str → Option Value} {N : Led} {r : Nat} {x : Str} {v : Value} {pos : Pos}

/-! names -/
theorem nameL {Q : Value → Shared → Prop} (G : Gd w A env h₀ r) (F : Fr h₀ env.locals s.heap m) (hx : env.scope.names.lookup x = some .local) (hdb : (x == ("__debug__" : Str)) = false) (hv : m x = some v) (h : Q v s) :
    wpAny (model prog w) A (eval (.Name x pos) env) Q NE s := wpAny_Name (wpAny_loadName_local G.hke hx F.ns hv h) hdb
theorem nameG {Q : Value → Shared → Prop} (G : Gd w A env h₀ r) (F : Fr h₀ env.locals s.heap m) (hx : env.scope.names.lookup x = some .globalImplicit) (hdb : (x == ("__debug__" : Str)) = false)
    (e : nsIn (bjT.heap_39 w.params) mainGlobals x = some (some v)) (h : Q v s) :
    wpAny (model prog w) A (eval (.Name x pos) env) Q NE s := by
  obtain ⟨p, loose, mg, mb, T⟩ := G.T
  exact Calls.Name_function_global G.hke hx (Calls.loadGlobal_global (env := env) (G.hgl ▸ T.g.keeps F.keep) (mg_of G.X T.g e) h) hdb
theorem nameB {Q : Value → Shared → Prop} (G : Gd w A env h₀ r) (F : Fr h₀ env.locals s.heap m) (hx : env.scope.names.lookup x = some .globalImplicit) (hdb : (x == ("__debug__" : Str)) = false)
    (e : nsIn (bjT.heap_39 w.params) mainGlobals x = some none) (hv : bootBuiltins x = some v) (hn : x ≠ "__name__") (h : Q v s) :
    wpAny (model prog w) A (eval (.Name x pos) env) Q NE s := by
  obtain ⟨p, loose, mg, mb, T⟩ := G.T
  exact Calls.Name_function_global G.hke hx (Calls.loadGlobal_builtin (env := env) (G.hgl ▸ T.g.keeps F.keep) (mg_none_of G.X T.g e) (G.hbl ▸ T.b.keeps F.keep) ((T.builtins x hn).trans hv) h) hdb
theorem storeL {Q : Unit → Shared → Prop} (G : Gd w A env h₀ r) (F : Fr h₀ env.locals s.heap m) (N' : News h₀ env.locals s.heap N) (hx : env.scope.names.lookup x = some .local)
    (h : ∀ h', Fr h₀ env.locals h' (fun y => if y = x then some v else m y) → News h₀ env.locals h' N → Q () { s with heap := h', toks := s.toks + 1 }) :
    wpAny (model prog w) A (storeName env x v) Q NE s :=
  wpAny_storeName_local hx F.ns (fun h' hn hs => h h' (F.set hn hs) (N'.set hs)) (by rw [G.hke]; rfl)

theorem m_here {x : Str} {v : Value} {u : Option Value} : (if x = x then some v else u) = some v := if_pos rfl
theorem m_there {x z : Str} {v : Value} {u t : Option Value} (h : z ≠ x) (e : u = t) : (if z = x then some v else u) = t := (if_neg h).trans e
end

/-! a def entered -/
section
variable {prog : Program} {w : World} {A : Around} {env : Env} {h₀ : Heap} {s : Shared} {m : Str → Option Value} {N : Led} {r : Nat}

def Lv (h₀ : Heap) (L : Addr) (m : Str → Option Value) (g : Heap) (L' : Addr) (Q : Value → Shared → Prop) (v : Value) (s' : Shared) : Prop :=
  ∃ m' N', Fr g L' s'.heap m' ∧ News g L' s'.heap N' ∧ (Fr h₀ L s'.heap m → News h₀ L s'.heap N' → Q v s')

theorem hide_fr {L : Addr} (F : Fr h₀ L s.heap m) (N' : News h₀ L s.heap N) :
    Fr h₀ L (hideAll s.heap (N.map (·.1))) m ∧ h₀.StaysIn (hideAll s.heap (N.map (·.1))) := by
  have nm : ∀ b o, h₀.get? b = some o → b ∉ N.map (·.1) := fun b o e q => by
    obtain ⟨p, hp, rfl⟩ := List.mem_map.mp q
    rw [(N' p hp).2.2] at e; cases e
  have st : h₀.StaysIn (hideAll s.heap (N.map (·.1))) := fun b o e => hideAll_get _ (F.keep b o e) (nm b o e)
  obtain ⟨oL, es, ep, hL, hLd, hLk, hLf⟩ := F.ns
  have nL : L ∉ N.map (·.1) := fun q => by
    obtain ⟨p, hp, e⟩ := List.mem_map.mp q
    exact (N' p hp).2.1 e
  exact ⟨⟨⟨oL, es, ep, hideAll_get _ hL nL, hLd, hLk, hLf⟩, st, F.above⟩, st⟩

theorem enterCode {name qual : Str} {params : Arguments} {body : List Stmt} {scope : Scope} {dV kV doc pm cdv ct oc : Value} {an od : Option Addr} {osl : Array (Option Value)} {f : Addr} {args : Args} {binds : List (Str × Value)} {R : Result → Shared → Prop}
    (G : Gd w A env h₀ (r + 1)) (F : Fr h₀ env.locals s.heap m) (N' : News h₀ env.locals s.heap N)
    (ho : (bjT.heap_39 w.params).lookup f = some ⟨oc, od, .func (fnOf name qual params body scope dV kV doc pm an cdv ct), osl⟩) (hcd : codeIn (bjT.heap_39 w.params) cdv qual = true)
    (hbind : bindArgs (fnOf name qual params body scope dV kV doc pm an cdv ct) args = pure binds) (hloc : (binds.all fun x => decide (scope.names.lookup x.1 = some .local)) = true)
    (h : ∀ g L' h₁, Gd w (A.deeper (envOf qual scope L' f cdv)) (envOf qual scope L' f cdv) g r → Fr g L' h₁ (fun y => binds.reverse.lookup y) → News g L' h₁ N →
      wpAny (model prog w) (A.deeper (envOf qual scope L' f cdv)) (execs body (envOf qual scope L' f cdv))
        (fun fl s' => Lv h₀ env.locals m g L' (fun v s' => R (.ok (.ret v)) s') (match fl with | .ret v => v | _ => .none) s') NE { s with heap := h₁, toks := s.toks + binds.length })
    (hco : scope.isCoroutine = false) (hgen : scope.isGenerator = false) (hk : scope.kind = .function) (hcell : (scope.names.all fun x => decide (x.2 ≠ .cell)) = true) : codeAny (model prog w) A (.call (.ref f) args) R s := by
  obtain ⟨p, loose, mg, mb, T⟩ := G.T
  have Xs := G.X.keeps F.keep
  refine codeAny_call_def (fd := fnOf name qual params body scope dV kV doc pm an cdv ct) (body := body) (binds := binds) (by have := G.hd; omega) (Xs _ _ ho) rfl (T.nolimit.keeps F.keep) (codeRec_of Xs hcd) rfl (BindsTo.of_eq hbind)
    (fun x hx => of_decide_eq_true (List.all_eq_true.mp hcell x hx)) (locs hloc) (fun h₁ hns hk₁ => ?_) hco hgen hk
  obtain ⟨FG, st⟩ := hide_fr F N'
  refine wpAny_mono (h (hideAll s.heap (N.map (·.1))) s.heap.objs.size h₁ ⟨G.X.keeps (fun b o e => st b o e), ⟨p, loose, mg, mb, T.keeps (fun b o e => st b o e)⟩, hk, rfl, rfl, ?_, ?_, G.hh⟩
    ⟨hns, fun b o e => hk₁ b o (of_hideAll _ e), Nat.le_of_eq (hideAll_size _ _)⟩
    (fun p hp => ⟨hk₁ _ _ (N' p hp).1, Nat.ne_of_lt (Heap.lt_size (N' p hp).1), hideAll_none _ (List.mem_map_of_mem hp)⟩)) (fun fl s' hl => ?_) fun _ _ y => y.elim
  · show A.depth + 1 + r < _; have := G.hd; omega
  · show A.units + 3 + 10 * r < _; have := G.hu; omega
  · obtain ⟨m', N₂, F', N₂', k⟩ := hl
    obtain ⟨oL, es, ep, hL, hLd, hLk, hLf⟩ := FG.ns
    refine k ⟨⟨oL, es, ep, F'.keep _ oL hL, hLd, hLk, hLf⟩, fun b o e => F'.keep b o (st b o e), F.above⟩ fun p hp => ⟨(N₂' p hp).1, fun q => ?_, ?_⟩
    · have := (N₂' p hp).2.2; rw [q, hL] at this; cases this
    · cases q : h₀.get? p.1 with
      | none => rfl
      | some o => have := (N₂' p hp).2.2; rw [st _ _ q] at this; cases this

theorem callRet {f : Value} {pos : List Value} {Q : Value → Shared → Prop} (h : codeAny (model prog w) A (.call f ⟨pos, []⟩) (fun r s' => match r with | .ok (.ret v) => Q v s' | _ => False) s) :
    wpAny (model prog w) A (call f pos []) Q NE s := wpAny_call (codeAny_mono h fun r s' z => by
      rcases r with e | (v | _ | _ | _) <;> exact z)
end

theorem fillK1 (P : Params) : Challenge.rw_bj5010_01 = Challenge.rw_bj5010_01 ∧ bjT.heap_39 P = bjT.heap_39 P := by
  k_fill
  exact ⟨rfl, rfl⟩
noncomputable def P0 : Params := { strHash := fun _ => 0, shareClass := fun _ => 0, mergeTok := id, idOf := fun _ => 0, idOfShared := fun _ _ => 0, followText := fun _ => true, idOfImm := fun _ => 0 }
noncomputable def fdOf (f : Addr) : FuncData := match (bjT.heap_39 P0).lookup f with
  | some ⟨_, _, .func fd, _⟩ => fd
  | _ => default
noncomputable def stmtsOf (f : Addr) : List Stmt := match (fdOf f).body with
  | .stmts b => b
  | _ => []

noncomputable def scS28 : {x : Scope // x = (fdOf 28).scope} := by
  refine ⟨?b, ?h⟩
  case h => conv => rhs; whnf
noncomputable def sc28 : Scope := scS28.1
noncomputable def bdS28 : {x : List Stmt // x = stmtsOf 28} := by
  refine ⟨?b, ?h⟩
  case h => conv => rhs; whnf
noncomputable def bd28 : List Stmt := bdS28.1
noncomputable def pmS28 : {x : Arguments // x = (fdOf 28).params} := by
  refine ⟨?b, ?h⟩
  case h => conv => rhs; whnf
noncomputable def pm28 : Arguments := pmS28.1
noncomputable def quS28 : {x : Str // x = (fdOf 28).qualname} := by
  refine ⟨?b, ?h⟩
  case h => exact rfl
noncomputable def qu28 : Str := quS28.1
theorem look28 (P : Params) : (bjT.heap_39 P).lookup 28 = some ⟨.type "function", none, .func (fnOf (fdOf 28).name qu28 pm28 bd28 sc28 (fdOf 28).defaults (fdOf 28).kwdefaults (fdOf 28).doc (fdOf 28).pyModule (fdOf 28).annotations (.ref 27) .none), #[]⟩ := rfl
theorem code28 (P : Params) : codeIn (bjT.heap_39 P) (.ref 27) qu28 = true := rfl

noncomputable def scS49 : {x : Scope // x = (fdOf 49).scope} := by
  refine ⟨?b, ?h⟩
  case h => conv => rhs; whnf
noncomputable def sc49 : Scope := scS49.1
noncomputable def bdS49 : {x : List Stmt // x = stmtsOf 49} := by
  refine ⟨?b, ?h⟩
  case h => conv => rhs; whnf
noncomputable def bd49 : List Stmt := bdS49.1
noncomputable def pmS49 : {x : Arguments // x = (fdOf 49).params} := by
  refine ⟨?b, ?h⟩
  case h => conv => rhs; whnf
noncomputable def pm49 : Arguments := pmS49.1
noncomputable def quS49 : {x : Str // x = (fdOf 49).qualname} := by
  refine ⟨?b, ?h⟩
  case h => exact rfl
noncomputable def qu49 : Str := quS49.1
theorem look49 (P : Params) : (bjT.heap_39 P).lookup 49 = some ⟨.type "function", none, .func (fnOf (fdOf 49).name qu49 pm49 bd49 sc49 (fdOf 49).defaults (fdOf 49).kwdefaults (fdOf 49).doc (fdOf 49).pyModule (fdOf 49).annotations (.ref 48) .none), #[]⟩ := rfl
theorem code49 (P : Params) : codeIn (bjT.heap_39 P) (.ref 48) qu49 = true := rfl

noncomputable def scS56 : {x : Scope // x = (fdOf 56).scope} := by
  refine ⟨?b, ?h⟩
  case h => conv => rhs; whnf
noncomputable def sc56 : Scope := scS56.1
noncomputable def bdS56 : {x : List Stmt // x = stmtsOf 56} := by
  refine ⟨?b, ?h⟩
  case h => conv => rhs; whnf
noncomputable def bd56 : List Stmt := bdS56.1
noncomputable def pmS56 : {x : Arguments // x = (fdOf 56).params} := by
  refine ⟨?b, ?h⟩
  case h => conv => rhs; whnf
noncomputable def pm56 : Arguments := pmS56.1
noncomputable def quS56 : {x : Str // x = (fdOf 56).qualname} := by
  refine ⟨?b, ?h⟩
  case h => exact rfl
noncomputable def qu56 : Str := quS56.1
theorem look56 (P : Params) : (bjT.heap_39 P).lookup 56 = some ⟨.type "function", none, .func (fnOf (fdOf 56).name qu56 pm56 bd56 sc56 (fdOf 56).defaults (fdOf 56).kwdefaults (fdOf 56).doc (fdOf 56).pyModule (fdOf 56).annotations (.ref 55) .none), #[]⟩ := rfl
theorem code56 (P : Params) : codeIn (bjT.heap_39 P) (.ref 55) qu56 = true := rfl

noncomputable def scS70 : {x : Scope // x = (fdOf 70).scope} := by
  refine ⟨?b, ?h⟩
  case h => conv => rhs; whnf
noncomputable def sc70 : Scope := scS70.1
noncomputable def bdS70 : {x : List Stmt // x = stmtsOf 70} := by
  refine ⟨?b, ?h⟩
  case h => conv => rhs; whnf
noncomputable def bd70 : List Stmt := bdS70.1
noncomputable def pmS70 : {x : Arguments // x = (fdOf 70).params} := by
  refine ⟨?b, ?h⟩
  case h => conv => rhs; whnf
noncomputable def pm70 : Arguments := pmS70.1
noncomputable def quS70 : {x : Str // x = (fdOf 70).qualname} := by
  refine ⟨?b, ?h⟩
  case h => exact rfl
noncomputable def qu70 : Str := quS70.1
theorem look70 (P : Params) : (bjT.heap_39 P).lookup 70 = some ⟨.type "function", none, .func (fnOf (fdOf 70).name qu70 pm70 bd70 sc70 (fdOf 70).defaults (fdOf 70).kwdefaults (fdOf 70).doc (fdOf 70).pyModule (fdOf 70).annotations (.ref 69) .none), #[]⟩ := rfl
theorem code70 (P : Params) : codeIn (bjT.heap_39 P) (.ref 69) qu70 = true := rfl

noncomputable def scS77 : {x : Scope // x = (fdOf 77).scope} := by
  refine ⟨?b, ?h⟩
  case h => conv => rhs; whnf
noncomputable def sc77 : Scope := scS77.1
noncomputable def bdS77 : {x : List Stmt // x = stmtsOf 77} := by
  refine ⟨?b, ?h⟩
  case h => conv => rhs; whnf
noncomputable def bd77 : List Stmt := bdS77.1
noncomputable def pmS77 : {x : Arguments // x = (fdOf 77).params} := by
  refine ⟨?b, ?h⟩
  case h => conv => rhs; whnf
noncomputable def pm77 : Arguments := pmS77.1
noncomputable def quS77 : {x : Str // x = (fdOf 77).qualname} := by
  refine ⟨?b, ?h⟩
  case h => exact rfl
noncomputable def qu77 : Str := quS77.1
theorem look77 (P : Params) : (bjT.heap_39 P).lookup 77 = some ⟨.type "function", none, .func (fnOf (fdOf 77).name qu77 pm77 bd77 sc77 (fdOf 77).defaults (fdOf 77).kwdefaults (fdOf 77).doc (fdOf 77).pyModule (fdOf 77).annotations (.ref 76) .none), #[]⟩ := rfl
theorem code77 (P : Params) : codeIn (bjT.heap_39 P) (.ref 76) qu77 = true := rfl

noncomputable def scS84 : {x : Scope // x = (fdOf 84).scope} := by
  refine ⟨?b, ?h⟩
  case h => conv => rhs; whnf
noncomputable def sc84 : Scope := scS84.1
noncomputable def bdS84 : {x : List Stmt // x = stmtsOf 84} := by
  refine ⟨?b, ?h⟩
  case h => conv => rhs; whnf
noncomputable def bd84 : List Stmt := bdS84.1
noncomputable def pmS84 : {x : Arguments // x = (fdOf 84).params} := by
  refine ⟨?b, ?h⟩
  case h => conv => rhs; whnf
noncomputable def pm84 : Arguments := pmS84.1
noncomputable def quS84 : {x : Str // x = (fdOf 84).qualname} := by
  refine ⟨?b, ?h⟩
  case h => exact rfl
noncomputable def qu84 : Str := quS84.1
theorem look84 (P : Params) : (bjT.heap_39 P).lookup 84 = some ⟨.type "function", none, .func (fnOf (fdOf 84).name qu84 pm84 bd84 sc84 (fdOf 84).defaults (fdOf 84).kwdefaults (fdOf 84).doc (fdOf 84).pyModule (fdOf 84).annotations (.ref 83) .none), #[]⟩ := rfl
theorem code84 (P : Params) : codeIn (bjT.heap_39 P) (.ref 83) qu84 = true := rfl

noncomputable def scS91 : {x : Scope // x = (fdOf 91).scope} := by
  refine ⟨?b, ?h⟩
  case h => conv => rhs; whnf
noncomputable def sc91 : Scope := scS91.1
noncomputable def bdS91 : {x : List Stmt // x = stmtsOf 91} := by
  refine ⟨?b, ?h⟩
  case h => conv => rhs; whnf
noncomputable def bd91 : List Stmt := bdS91.1
noncomputable def pmS91 : {x : Arguments // x = (fdOf 91).params} := by
  refine ⟨?b, ?h⟩
  case h => conv => rhs; whnf
noncomputable def pm91 : Arguments := pmS91.1
noncomputable def quS91 : {x : Str // x = (fdOf 91).qualname} := by
  refine ⟨?b, ?h⟩
  case h => exact rfl
noncomputable def qu91 : Str := quS91.1
theorem look91 (P : Params) : (bjT.heap_39 P).lookup 91 = some ⟨.type "function", none, .func (fnOf (fdOf 91).name qu91 pm91 bd91 sc91 (fdOf 91).defaults (fdOf 91).kwdefaults (fdOf 91).doc (fdOf 91).pyModule (fdOf 91).annotations (.ref 90) .none), #[]⟩ := rfl
theorem code91 (P : Params) : codeIn (bjT.heap_39 P) (.ref 90) qu91 = true := rfl

noncomputable def scS99 : {x : Scope // x = (fdOf 99).scope} := by
  refine ⟨?b, ?h⟩
  case h => conv => rhs; whnf
noncomputable def sc99 : Scope := scS99.1
noncomputable def bdS99 : {x : List Stmt // x = stmtsOf 99} := by
  refine ⟨?b, ?h⟩
  case h => conv => rhs; whnf
noncomputable def bd99 : List Stmt := bdS99.1
noncomputable def pmS99 : {x : Arguments // x = (fdOf 99).params} := by
  refine ⟨?b, ?h⟩
  case h => conv => rhs; whnf
noncomputable def pm99 : Arguments := pmS99.1
noncomputable def quS99 : {x : Str // x = (fdOf 99).qualname} := by
  refine ⟨?b, ?h⟩
  case h => exact rfl
noncomputable def qu99 : Str := quS99.1
theorem look99 (P : Params) : (bjT.heap_39 P).lookup 99 = some ⟨.type "function", none, .func (fnOf (fdOf 99).name qu99 pm99 bd99 sc99 (fdOf 99).defaults (fdOf 99).kwdefaults (fdOf 99).doc (fdOf 99).pyModule (fdOf 99).annotations (.ref 98) .none), #[]⟩ := rfl
theorem code99 (P : Params) : codeIn (bjT.heap_39 P) (.ref 98) qu99 = true := rfl

noncomputable def scS106 : {x : Scope // x = (fdOf 106).scope} := by
  refine ⟨?b, ?h⟩
  case h => conv => rhs; whnf
noncomputable def sc106 : Scope := scS106.1
noncomputable def bdS106 : {x : List Stmt // x = stmtsOf 106} := by
  refine ⟨?b, ?h⟩
  case h => conv => rhs; whnf
noncomputable def bd106 : List Stmt := bdS106.1
noncomputable def pmS106 : {x : Arguments // x = (fdOf 106).params} := by
  refine ⟨?b, ?h⟩
  case h => conv => rhs; whnf
noncomputable def pm106 : Arguments := pmS106.1
noncomputable def quS106 : {x : Str // x = (fdOf 106).qualname} := by
  refine ⟨?b, ?h⟩
  case h => exact rfl
noncomputable def qu106 : Str := quS106.1
theorem look106 (P : Params) : (bjT.heap_39 P).lookup 106 = some ⟨.type "function", none, .func (fnOf (fdOf 106).name qu106 pm106 bd106 sc106 (fdOf 106).defaults (fdOf 106).kwdefaults (fdOf 106).doc (fdOf 106).pyModule (fdOf 106).annotations (.ref 105) .none), #[]⟩ := rfl
theorem code106 (P : Params) : codeIn (bjT.heap_39 P) (.ref 105) qu106 = true := rfl

noncomputable def scS113 : {x : Scope // x = (fdOf 113).scope} := by
  refine ⟨?b, ?h⟩
  case h => conv => rhs; whnf
noncomputable def sc113 : Scope := scS113.1
noncomputable def bdS113 : {x : List Stmt // x = stmtsOf 113} := by
  refine ⟨?b, ?h⟩
  case h => conv => rhs; whnf
noncomputable def bd113 : List Stmt := bdS113.1
noncomputable def pmS113 : {x : Arguments // x = (fdOf 113).params} := by
  refine ⟨?b, ?h⟩
  case h => conv => rhs; whnf
noncomputable def pm113 : Arguments := pmS113.1
noncomputable def quS113 : {x : Str // x = (fdOf 113).qualname} := by
  refine ⟨?b, ?h⟩
  case h => exact rfl
noncomputable def qu113 : Str := quS113.1
theorem look113 (P : Params) : (bjT.heap_39 P).lookup 113 = some ⟨.type "function", none, .func (fnOf (fdOf 113).name qu113 pm113 bd113 sc113 (fdOf 113).defaults (fdOf 113).kwdefaults (fdOf 113).doc (fdOf 113).pyModule (fdOf 113).annotations (.ref 112) .none), #[]⟩ := rfl
theorem code113 (P : Params) : codeIn (bjT.heap_39 P) (.ref 112) qu113 = true := rfl

noncomputable def scS120 : {x : Scope // x = (fdOf 120).scope} := by
  refine ⟨?b, ?h⟩
  case h => conv => rhs; whnf
noncomputable def sc120 : Scope := scS120.1
noncomputable def bdS120 : {x : List Stmt // x = stmtsOf 120} := by
  refine ⟨?b, ?h⟩
  case h => conv => rhs; whnf
noncomputable def bd120 : List Stmt := bdS120.1
noncomputable def pmS120 : {x : Arguments // x = (fdOf 120).params} := by
  refine ⟨?b, ?h⟩
  case h => conv => rhs; whnf
noncomputable def pm120 : Arguments := pmS120.1
noncomputable def quS120 : {x : Str // x = (fdOf 120).qualname} := by
  refine ⟨?b, ?h⟩
  case h => exact rfl
noncomputable def qu120 : Str := quS120.1
theorem look120 (P : Params) : (bjT.heap_39 P).lookup 120 = some ⟨.type "function", none, .func (fnOf (fdOf 120).name qu120 pm120 bd120 sc120 (fdOf 120).defaults (fdOf 120).kwdefaults (fdOf 120).doc (fdOf 120).pyModule (fdOf 120).annotations (.ref 119) .none), #[]⟩ := rfl
theorem code120 (P : Params) : codeIn (bjT.heap_39 P) (.ref 119) qu120 = true := rfl

noncomputable def scS127 : {x : Scope // x = (fdOf 127).scope} := by
  refine ⟨?b, ?h⟩
  case h => conv => rhs; whnf
noncomputable def sc127 : Scope := scS127.1
noncomputable def bdS127 : {x : List Stmt // x = stmtsOf 127} := by
  refine ⟨?b, ?h⟩
  case h => conv => rhs; whnf
noncomputable def bd127 : List Stmt := bdS127.1
noncomputable def pmS127 : {x : Arguments // x = (fdOf 127).params} := by
  refine ⟨?b, ?h⟩
  case h => conv => rhs; whnf
noncomputable def pm127 : Arguments := pmS127.1
noncomputable def quS127 : {x : Str // x = (fdOf 127).qualname} := by
  refine ⟨?b, ?h⟩
  case h => exact rfl
noncomputable def qu127 : Str := quS127.1
theorem look127 (P : Params) : (bjT.heap_39 P).lookup 127 = some ⟨.type "function", none, .func (fnOf (fdOf 127).name qu127 pm127 bd127 sc127 (fdOf 127).defaults (fdOf 127).kwdefaults (fdOf 127).doc (fdOf 127).pyModule (fdOf 127).annotations (.ref 126) .none), #[]⟩ := rfl
theorem code127 (P : Params) : codeIn (bjT.heap_39 P) (.ref 126) qu127 = true := rfl

noncomputable def scS134 : {x : Scope // x = (fdOf 134).scope} := by
  refine ⟨?b, ?h⟩
  case h => conv => rhs; whnf
noncomputable def sc134 : Scope := scS134.1
noncomputable def bdS134 : {x : List Stmt // x = stmtsOf 134} := by
  refine ⟨?b, ?h⟩
  case h => conv => rhs; whnf
noncomputable def bd134 : List Stmt := bdS134.1
noncomputable def pmS134 : {x : Arguments // x = (fdOf 134).params} := by
  refine ⟨?b, ?h⟩
  case h => conv => rhs; whnf
noncomputable def pm134 : Arguments := pmS134.1
noncomputable def quS134 : {x : Str // x = (fdOf 134).qualname} := by
  refine ⟨?b, ?h⟩
  case h => exact rfl
noncomputable def qu134 : Str := quS134.1
theorem look134 (P : Params) : (bjT.heap_39 P).lookup 134 = some ⟨.type "function", none, .func (fnOf (fdOf 134).name qu134 pm134 bd134 sc134 (fdOf 134).defaults (fdOf 134).kwdefaults (fdOf 134).doc (fdOf 134).pyModule (fdOf 134).annotations (.ref 133) .none), #[]⟩ := rfl
theorem code134 (P : Params) : codeIn (bjT.heap_39 P) (.ref 133) qu134 = true := rfl

theorem pg59 (P : Params) : plainGet (bjT.heap_39 P) 59 "" = true := by k_dflt k_is
theorem hdi59 (P : Params) : hasDictIn (bjT.heap_39 P) 59 = true := by k_dflt k_is
theorem sa59 (P : Params) : findIn (bjT.heap_39 P) (.ref 59) "__setattr__" = some (some (.builtin "object.__setattr__")) := by k_dflt k_is
theorem po59 (P : Params) : plainOver (bjT.heap_39 P) 59 = true := by k_dflt k_is
theorem mk59 (P : Params) : makesIn (bjT.heap_39 P) 59 = true := by k_dflt k_is
theorem fi59_i (P : Params) : findIn (bjT.heap_39 P) (.ref 59) "i" = some none := by k_dflt k_is
theorem ti59_i (P : Params) : takerIn (bjT.heap_39 P) 59 "i" = some none := by k_dflt k_is
theorem fi59_point (P : Params) : findIn (bjT.heap_39 P) (.ref 59) "point" = some none := by k_dflt k_is
theorem ti59_point (P : Params) : takerIn (bjT.heap_39 P) 59 "point" = some none := by k_dflt k_is
theorem fi59_x (P : Params) : findIn (bjT.heap_39 P) (.ref 59) "x" = some none := by k_dflt k_is
theorem ti59_x (P : Params) : takerIn (bjT.heap_39 P) 59 "x" = some none := by k_dflt k_is
theorem fi59_y (P : Params) : findIn (bjT.heap_39 P) (.ref 59) "y" = some none := by k_dflt k_is
theorem ti59_y (P : Params) : takerIn (bjT.heap_39 P) 59 "y" = some none := by k_dflt k_is
theorem fi59_prev (P : Params) : findIn (bjT.heap_39 P) (.ref 59) "prev" = some none := by k_dflt k_is
theorem ti59_prev (P : Params) : takerIn (bjT.heap_39 P) 59 "prev" = some none := by k_dflt k_is
theorem fi59_next (P : Params) : findIn (bjT.heap_39 P) (.ref 59) "next" = some none := by k_dflt k_is
theorem ti59_next (P : Params) : takerIn (bjT.heap_39 P) 59 "next" = some none := by k_dflt k_is
theorem fi59_z (P : Params) : findIn (bjT.heap_39 P) (.ref 59) "z" = some none := by k_dflt k_is
theorem ti59_z (P : Params) : takerIn (bjT.heap_39 P) 59 "z" = some none := by k_dflt k_is
theorem fi59_prev_z (P : Params) : findIn (bjT.heap_39 P) (.ref 59) "prev_z" = some none := by k_dflt k_is
theorem ti59_prev_z (P : Params) : takerIn (bjT.heap_39 P) 59 "prev_z" = some none := by k_dflt k_is
theorem fi59_next_z (P : Params) : findIn (bjT.heap_39 P) (.ref 59) "next_z" = some none := by k_dflt k_is
theorem ti59_next_z (P : Params) : takerIn (bjT.heap_39 P) 59 "next_z" = some none := by k_dflt k_is
theorem fi59_steiner (P : Params) : findIn (bjT.heap_39 P) (.ref 59) "steiner" = some none := by k_dflt k_is
theorem ti59_steiner (P : Params) : takerIn (bjT.heap_39 P) 59 "steiner" = some none := by k_dflt k_is
theorem pg31 (P : Params) : plainGet (bjT.heap_39 P) 31 "" = true := by k_dflt k_is
theorem hdi31 (P : Params) : hasDictIn (bjT.heap_39 P) 31 = true := by k_dflt k_is
theorem sa31 (P : Params) : findIn (bjT.heap_39 P) (.ref 31) "__setattr__" = some (some (.builtin "object.__setattr__")) := by k_dflt k_is
theorem po31 (P : Params) : plainOver (bjT.heap_39 P) 31 = true := by k_dflt k_is
theorem mk31 (P : Params) : makesIn (bjT.heap_39 P) 31 = true := by k_dflt k_is
theorem fi31_x (P : Params) : findIn (bjT.heap_39 P) (.ref 31) "x" = some none := by k_dflt k_is
theorem ti31_x (P : Params) : takerIn (bjT.heap_39 P) 31 "x" = some none := by k_dflt k_is
theorem fi31_y (P : Params) : findIn (bjT.heap_39 P) (.ref 31) "y" = some none := by k_dflt k_is
theorem ti31_y (P : Params) : takerIn (bjT.heap_39 P) 31 "y" = some none := by k_dflt k_is
theorem fi59_bool (P : Params) : findIn (bjT.heap_39 P) (.ref 59) "__bool__" = some none := by k_dflt k_is
theorem fi59_len (P : Params) : findIn (bjT.heap_39 P) (.ref 59) "__len__" = some none := by k_dflt k_is
theorem fi59_init (P : Params) : findIn (bjT.heap_39 P) (.ref 59) "__init__" = some (some (.ref 49)) := by k_dflt k_is
theorem fi59_eq (P : Params) : findIn (bjT.heap_39 P) (.ref 59) "__eq__" = some (some (.ref 56)) := by k_dflt k_is
theorem fi59_ne (P : Params) : findIn (bjT.heap_39 P) (.ref 59) "__ne__" = some (some (.builtin "object.__ne__")) := by k_dflt k_is
theorem fi31_init (P : Params) : findIn (bjT.heap_39 P) (.ref 31) "__init__" = some (some (.ref 28)) := by k_dflt k_is
theorem ng (P : Params) : noGet (bjT.heap_39 P) none = true := rfl
theorem gl_31 (P : Params) : nsIn (bjT.heap_39 P) mainGlobals "Point" = some (some (.ref 31)) := by k_dflt k_is
theorem kp_31 (P : Params) : keepIn (bjT.heap_39 P) (.ref 31) = true := by k_dflt k_is
theorem gl_59 (P : Params) : nsIn (bjT.heap_39 P) mainGlobals "Node" = some (some (.ref 59)) := by k_dflt k_is
theorem kp_59 (P : Params) : keepIn (bjT.heap_39 P) (.ref 59) = true := by k_dflt k_is
theorem gl_70 (P : Params) : nsIn (bjT.heap_39 P) mainGlobals "linked_list" = some (some (.ref 70)) := by k_dflt k_is
theorem kp_70 (P : Params) : keepIn (bjT.heap_39 P) (.ref 70) = true := by k_dflt k_is
theorem gl_77 (P : Params) : nsIn (bjT.heap_39 P) mainGlobals "signed_area" = some (some (.ref 77)) := by k_dflt k_is
theorem kp_77 (P : Params) : keepIn (bjT.heap_39 P) (.ref 77) = true := by k_dflt k_is
theorem gl_84 (P : Params) : nsIn (bjT.heap_39 P) mainGlobals "insert_node" = some (some (.ref 84)) := by k_dflt k_is
theorem kp_84 (P : Params) : keepIn (bjT.heap_39 P) (.ref 84) = true := by k_dflt k_is
theorem gl_91 (P : Params) : nsIn (bjT.heap_39 P) mainGlobals "remove_node" = some (some (.ref 91)) := by k_dflt k_is
theorem kp_91 (P : Params) : keepIn (bjT.heap_39 P) (.ref 91) = true := by k_dflt k_is
theorem gl_92 (P : Params) : nsIn (bjT.heap_39 P) mainGlobals "_law_more" = some (some (.ref 92)) := by k_dflt k_is
theorem gl_99 (P : Params) : nsIn (bjT.heap_39 P) mainGlobals "_law_twice" = some (some (.ref 99)) := by k_dflt k_is
theorem kp_99 (P : Params) : keepIn (bjT.heap_39 P) (.ref 99) = true := by k_dflt k_is
theorem gl_106 (P : Params) : nsIn (bjT.heap_39 P) mainGlobals "_law_links" = some (some (.ref 106)) := by k_dflt k_is
theorem kp_106 (P : Params) : keepIn (bjT.heap_39 P) (.ref 106) = true := by k_dflt k_is
theorem gl_113 (P : Params) : nsIn (bjT.heap_39 P) mainGlobals "_law_chain" = some (some (.ref 113)) := by k_dflt k_is
theorem kp_113 (P : Params) : keepIn (bjT.heap_39 P) (.ref 113) = true := by k_dflt k_is
theorem gl_120 (P : Params) : nsIn (bjT.heap_39 P) mainGlobals "_law_spot" = some (some (.ref 120)) := by k_dflt k_is
theorem kp_120 (P : Params) : keepIn (bjT.heap_39 P) (.ref 120) = true := by k_dflt k_is
theorem gl_127 (P : Params) : nsIn (bjT.heap_39 P) mainGlobals "_law_linked" = some (some (.ref 127)) := by k_dflt k_is
theorem kp_127 (P : Params) : keepIn (bjT.heap_39 P) (.ref 127) = true := by k_dflt k_is
theorem gl_134 (P : Params) : nsIn (bjT.heap_39 P) mainGlobals "_law_fresh" = some (some (.ref 134)) := by k_dflt k_is
theorem kp_134 (P : Params) : keepIn (bjT.heap_39 P) (.ref 134) = true := by k_dflt k_is
theorem gn_len (P : Params) : nsIn (bjT.heap_39 P) mainGlobals "len" = some none := by k_dflt k_is
theorem gn_range (P : Params) : nsIn (bjT.heap_39 P) mainGlobals "range" = some none := by k_dflt k_is
theorem gn_list (P : Params) : nsIn (bjT.heap_39 P) mainGlobals "list" = some none := by k_dflt k_is
theorem gn_reversed (P : Params) : nsIn (bjT.heap_39 P) mainGlobals "reversed" = some none := by k_dflt k_is

def stt (s₀ : Shared) (h : Heap) (t : Nat) : Shared := { s₀ with heap := h, toks := t }

section
variable {prog : Program} {w : World} {A : Around} {env : Env} {h₀ : Heap} {s₀ : Shared} {h : Heap} {t : Nat} {m : Str → Option Value} {N : Led} {r : Nat} {x : Str} {v : Value} {pos pos' : Pos}

/-! statements -/
theorem s_nil {Q : Flow → Shared → Prop} (k : Q .next (stt s₀ h t)) : wpAny (model prog w) A (execs [] env) Q NE (stt s₀ h t) := wpAny_execs_nil k
theorem s_assign {value : Expr} {rest : List Stmt} {Q : Flow → Shared → Prop}
    (k : wpAny (model prog w) A (eval value env) (fun v σ => wpAny (model prog w) A (storeName env x v) (fun _ σ' => wpAny (model prog w) A (execs rest env) Q NE σ') NE σ) NE (stt s₀ h t))
    (hs : swapsWith value (some (.Name x pos')) pos.line env = pure false) :
    wpAny (model prog w) A (execs (.Assign [.Name x pos'] value pos :: rest) env) Q NE (stt s₀ h t) :=
  wpAny_execs_cons (wpAny_Assign_Name k hs)
theorem s_assignAttr {value o : Expr} {attr : Str} {rest : List Stmt} {Q : Flow → Shared → Prop}
    (k : wpAny (model prog w) A (eval value env) (fun v σ => wpAny (model prog w) A (eval o env) (fun ov σ' => wpAny (model prog w) A (setAttr ov attr v) (fun _ σ'' => wpAny (model prog w) A (execs rest env) Q NE σ'') NE σ') NE σ) NE (stt s₀ h t))
    (hs : swapsWith value (some (.Attribute o attr pos')) pos.line env = pure false) :
    wpAny (model prog w) A (execs (.Assign [.Attribute o attr pos'] value pos :: rest) env) Q NE (stt s₀ h t) :=
  wpAny_execs_cons (plainObj_wpAny_Assign_Attribute k hs)
def thenR (prog : Program) (w : World) (A : Around) (env : Env) (rest : List Stmt) (Q : Flow → Shared → Prop) : Flow → Shared → Prop
  | .next, σ => wpAny (model prog w) A (execs rest env) Q NE σ
  | f, σ => Q f σ
theorem s_nilR {rest : List Stmt} {Q : Flow → Shared → Prop} (k : wpAny (model prog w) A (execs rest env) Q NE (stt s₀ h t)) :
    wpAny (model prog w) A (execs [] env) (thenR prog w A env rest Q) NE (stt s₀ h t) := wpAny_execs_nil k
theorem s_if {test : Expr} {body orelse rest : List Stmt} {Q : Flow → Shared → Prop}
    (k : wpAny (model prog w) A (isTrue test env (eval test env)) (fun b σ => if b = true then wpAny (model prog w) A (execs body env) (thenR prog w A env rest Q) NE σ else wpAny (model prog w) A (execs orelse env) (thenR prog w A env rest Q) NE σ) NE (stt s₀ h t)) :
    wpAny (model prog w) A (execs (.If test body orelse pos :: rest) env) Q NE (stt s₀ h t) := by
  refine wpAny_execs_cons (wpAny_mono (wpAny_If k) (fun f σ z => ?_) fun _ _ z => z)
  cases f <;> exact z
def onlyN (P : Shared → Prop) : Flow → Shared → Prop
  | .next, σ => P σ
  | _, _ => False
theorem s_nilN {P : Shared → Prop} (k : P (stt s₀ h t)) : wpAny (model prog w) A (execs [] env) (onlyN P) NE (stt s₀ h t) := wpAny_execs_nil k
theorem s_ifJ {test : Expr} {body orelse rest : List Stmt} {Q : Flow → Shared → Prop} (P : Shared → Prop)
    (k : wpAny (model prog w) A (isTrue test env (eval test env)) (fun b σ => if b = true then wpAny (model prog w) A (execs body env) (onlyN P) NE σ else wpAny (model prog w) A (execs orelse env) (onlyN P) NE σ) NE (stt s₀ h t))
    (j : ∀ σ, P σ → wpAny (model prog w) A (execs rest env) Q NE σ) :
    wpAny (model prog w) A (execs (.If test body orelse pos :: rest) env) Q NE (stt s₀ h t) := by
  refine s_if (wpAny_mono k (fun b σ z => ?_) fun _ _ z => z)
  have up : ∀ (f : Flow) (σ : Shared), onlyN P f σ → thenR prog w A env rest Q f σ := fun f σ z => by
    cases f <;> first | exact j _ z | exact z.elim
  cases b
  · exact wpAny_mono z up fun _ _ z => z
  · exact wpAny_mono z up fun _ _ z => z
theorem s_ret {e : Expr} {rest : List Stmt} {Q : Flow → Shared → Prop} (k : wpAny (model prog w) A (eval e env) (fun v σ => Q (.ret v) σ) NE (stt s₀ h t)) :
    wpAny (model prog w) A (execs (.Return (some e) pos :: rest) env) Q NE (stt s₀ h t) :=
  wpAny_execs_cons (wpAny_Return_some k)
theorem s_aug {op : Operator} {value : Expr} {rest : List Stmt} {Q : Flow → Shared → Prop}
    (k : wpAny (model prog w) A (loadName env x) (fun old σ => wpAny (model prog w) A (eval value env) (fun v σ₁ => wpAny (model prog w) A (inplaceOp op old v) (fun r σ₂ => wpAny (model prog w) A (storeName env x r) (fun _ σ' => wpAny (model prog w) A (execs rest env) Q NE σ') NE σ₂) NE σ₁) NE σ) NE (stt s₀ h t)) :
    wpAny (model prog w) A (execs (.AugAssign (.Name x pos') op value pos :: rest) env) Q NE (stt s₀ h t) :=
  wpAny_execs_cons (wpAny_AugAssign_Name k)
theorem s_expr {e : Expr} {rest : List Stmt} {Q : Flow → Shared → Prop} (k : wpAny (model prog w) A (eval e env) (fun v σ => v = .none ∧ wpAny (model prog w) A (execs rest env) Q NE σ) NE (stt s₀ h t))
    (hi : interactive env = false) (hs : swapsWith e none pos.line env = pure false) :
    wpAny (model prog w) A (execs (.Expr e pos :: rest) env) Q NE (stt s₀ h t) :=
  wpAny_execs_cons (wpAny_Expr (wpAny_mono k (fun v σ z => by obtain ⟨rfl, z⟩ := z; exact z) fun _ _ z => z) hi hs)

/-! names, constants, attributes -/
theorem e_L {Q : Value → Shared → Prop} (G : Gd w A env h₀ r) (F : Fr h₀ env.locals h m) (hx : env.scope.names.lookup x = some .local) (hv : m x = some v) (k : Q v (stt s₀ h t)) (hdb : (x == ("__debug__" : Str)) = false) :
    wpAny (model prog w) A (eval (.Name x pos) env) Q NE (stt s₀ h t) := nameL (s := stt s₀ h t) G F hx hdb hv k
theorem l_L {Q : Value → Shared → Prop} (G : Gd w A env h₀ r) (F : Fr h₀ env.locals h m) (hx : env.scope.names.lookup x = some .local) (hv : m x = some v) (k : Q v (stt s₀ h t)) :
    wpAny (model prog w) A (loadName env x) Q NE (stt s₀ h t) := wpAny_loadName_local (s := stt s₀ h t) G.hke hx F.ns hv k
theorem e_st {Q : Unit → Shared → Prop} (G : Gd w A env h₀ r) (F : Fr h₀ env.locals h m) (N' : News h₀ env.locals h N) (hx : env.scope.names.lookup x = some .local)
    (k : ∀ h' t', Fr h₀ env.locals h' (fun y => if y = x then some v else m y) → News h₀ env.locals h' N → Q () (stt s₀ h' t')) :
    wpAny (model prog w) A (storeName env x v) Q NE (stt s₀ h t) := storeL (s := stt s₀ h t) G F N' hx fun h' F' N'' => k h' _ F' N''
theorem e_attr {o : Expr} {attr : Str} {Q : Value → Shared → Prop} (k : wpAny (model prog w) A (eval o env) (fun ov σ => wpAny (model prog w) A (getAttr ov attr true) Q NE σ) NE (stt s₀ h t))
    (he : eval (.Attribute o attr pos) env = (do
      let ov ← eval o env
      standAt pos.atName
      let r ← holding [ov] (getAttr ov attr true)
      letTemporaryGo o ov r
      pure r)) :
    wpAny (model prog w) A (eval (.Attribute o attr pos) env) Q NE (stt s₀ h t) := Attribute_any_ k he
theorem e_int {i : Int} {kk : Nat} {Q : Value → Shared → Prop} (k : ∀ u t', Q (.int i u) (stt s₀ h t')) : wpAny (model prog w) A (eval (.Constant (.int i) kk pos) env) Q NE (stt s₀ h t) := wpAny_Constant_int (k _ _)
theorem e_bool {b : Bool} {kk : Nat} {Q : Value → Shared → Prop} (k : Q (.bool b) (stt s₀ h t)) : wpAny (model prog w) A (eval (.Constant (.bool b) kk pos) env) Q NE (stt s₀ h t) := Constant_bool k
theorem e_none {kk : Nat} {Q : Value → Shared → Prop} (k : Q .none (stt s₀ h t)) : wpAny (model prog w) A (eval (.Constant .none kk pos) env) Q NE (stt s₀ h t) := Constant_none k
theorem t_plain {e : Expr} {whole : Sem Value} {Q : Bool → Shared → Prop} (k : wpAny (model prog w) A whole (fun v σ => wpAny (model prog w) A (truthy v) Q NE σ) NE (stt s₀ h t))
    (he : isTrue e env whole = (do let v ← whole; standAt e.pos; holding [v] (truthy v))) : wpAny (model prog w) A (isTrue e env whole) Q NE (stt s₀ h t) := isTrue_plain k he
end

/-! a def entered and left -/
section
variable {prog : Program} {w : World} {A : Around} {env : Env} {h₀ : Heap} {s₀ : Shared} {h : Heap} {t : Nat} {m : Str → Option Value} {N : Led} {r : Nat}
def retOf : Flow → Value
  | .ret v => v
  | _ => .none
theorem enter {Q : Value → Shared → Prop} {name qual : Str} {params : Arguments} {body : List Stmt} {scope : Scope} {dV kV doc pm cdv ct oc : Value} {an od : Option Addr} {osl : Array (Option Value)} {f : Addr} {args : List Value} {binds : List (Str × Value)}
    (G : Gd w A env h₀ (r + 1)) (F : Fr h₀ env.locals h m) (N' : News h₀ env.locals h N)
    (ho : (bjT.heap_39 w.params).lookup f = some ⟨oc, od, .func (fnOf name qual params body scope dV kV doc pm an cdv ct), osl⟩) (hcd : codeIn (bjT.heap_39 w.params) cdv qual = true)
    (hbind : bindArgs (fnOf name qual params body scope dV kV doc pm an cdv ct) ⟨args, []⟩ = pure binds) (hloc : (binds.all fun x => decide (scope.names.lookup x.1 = some .local)) = true)
    (hco : scope.isCoroutine = false) (hgen : scope.isGenerator = false) (hk : scope.kind = .function) (hcell : (scope.names.all fun x => decide (x.2 ≠ .cell)) = true)
    (k : ∀ g L' h₁ t₁, Gd w (A.deeper (envOf qual scope L' f cdv)) (envOf qual scope L' f cdv) g r → Fr g (envOf qual scope L' f cdv).locals h₁ (fun y => binds.reverse.lookup y) → News g (envOf qual scope L' f cdv).locals h₁ N →
      wpAny (model prog w) (A.deeper (envOf qual scope L' f cdv)) (execs body (envOf qual scope L' f cdv))
        (fun fl σ => Lv h₀ env.locals m g (envOf qual scope L' f cdv).locals Q (retOf fl) σ) NE (stt s₀ h₁ t₁)) :
    wpAny (model prog w) A (call (.ref f) args []) Q NE (stt s₀ h t) := by
  refine callRet (enterCode (s := stt s₀ h t) G F N' ho hcd hbind hloc (fun g L' h₁ G' F' N₁ => wpAny_mono (k g L' h₁ _ G' F' N₁) (fun fl σ z => ?_) fun _ _ z => z) hco hgen hk hcell)
  cases fl <;> exact z
theorem lv {L L' : Addr} {g h' : Heap} {t' : Nat} {m' : Str → Option Value} {N₂ : Led} {Q : Value → Shared → Prop} {v : Value} (F' : Fr g L' h' m') (N' : News g L' h' N₂)
    (k : Fr h₀ L h' m → News h₀ L h' N₂ → Q v (stt s₀ h' t')) : Lv h₀ L m g L' Q v (stt s₀ h' t') := ⟨m', N₂, F', N', k⟩
end

/-! nodes -/
structure Nd where
  d : Addr
  k : Nat → Tok
  i : Int
  it : Tok
  pt : Addr
  x : Int
  xt : Tok
  y : Int
  yt : Tok
  prev : Option Addr
  next : Option Addr
  zt : Tok
  pz : Option Addr
  nz : Option Addr
def Nd.s_prev (n : Nd) (o : Option Addr) : Nd := { n with prev := o }
def Nd.s_next (n : Nd) (o : Option Addr) : Nd := { n with next := o }
def Nd.s_pz (n : Nd) (o : Option Addr) : Nd := { n with pz := o }
def Nd.s_nz (n : Nd) (o : Option Addr) : Nd := { n with nz := o }
abbrev orf : Option Addr → Value
  | none => .none
  | some a => .ref a
theorem handed_orf (o : Option Addr) : handedIn (orf o) = true := by cases o <;> rfl

def nodeL (P : Params) (n : Nd) : List DictEntry :=
  [⟨PyData.keyHash P "i", .str "i" (n.k 0), .int n.i n.it⟩, ⟨PyData.keyHash P "point", .str "point" (n.k 1), .ref n.pt⟩, ⟨PyData.keyHash P "x", .str "x" (n.k 2), .int n.x n.xt⟩, ⟨PyData.keyHash P "y", .str "y" (n.k 3), .int n.y n.yt⟩,
   ⟨PyData.keyHash P "prev", .str "prev" (n.k 4), orf n.prev⟩, ⟨PyData.keyHash P "next", .str "next" (n.k 5), orf n.next⟩, ⟨PyData.keyHash P "z", .str "z" (n.k 6), .int 0 n.zt⟩, ⟨PyData.keyHash P "prev_z", .str "prev_z" (n.k 7), orf n.pz⟩,
   ⟨PyData.keyHash P "next_z", .str "next_z" (n.k 8), orf n.nz⟩, ⟨PyData.keyHash P "steiner", .str "steiner" (n.k 9), .bool false⟩]
def nodeD (P : Params) (n : Nd) : Obj := dictOf (nodeL P n) 10

def HasN (P : Params) (N : Led) (x : Addr) (n : Nd) : Prop := (x, instObj 59 n.d) ∈ N ∧ (n.d, nodeD P n) ∈ N

structure Tab (P : Params) (N : Led) (S : Addr → Prop) (nd : Addr → Nd) : Prop where
  has : ∀ a, S a → HasN P N a (nd a)
  inj : ∀ a b, S a → S b → (nd a).d = (nd b).d → a = b

def upd (nd : Addr → Nd) (x : Addr) (n : Nd) : Addr → Nd := fun a => if a = x then n else nd a
theorem upd_self {nd : Addr → Nd} {x : Addr} {n : Nd} : upd nd x n x = n := if_pos rfl
theorem upd_ne {nd : Addr → Nd} {x a : Addr} {n : Nd} (h : a ≠ x) : upd nd x n a = nd a := if_neg h

def Keep (P : Params) (N N' : Led) : Prop := ∀ p ∈ N, (∀ n, p.2 ≠ nodeD P n) → p ∈ N'
theorem Keep.refl {P : Params} {N : Led} : Keep P N N := fun _ h _ => h
theorem Keep.trans {P : Params} {N N' N'' : Led} (a : Keep P N N') (b : Keep P N' N'') : Keep P N N'' := fun p h n => b p (a p h n) n
theorem Keep.put {P : Params} {N : Led} {h₀ h : Heap} {L : Addr} (x : News h₀ L h N) {d : Addr} {n : Nd} {o : Obj} (hm : (d, nodeD P n) ∈ N) : Keep P N (put d o N) := fun p hp hn => by
  refine mem_put.mpr (.inr ⟨fun e => ?_, hp⟩)
  obtain ⟨a, o'⟩ := p
  dsimp only at e; subst e
  exact hn n (News.uniq x hp hm)

theorem Tab.set {P : Params} {N : Led} {S : Addr → Prop} {nd : Addr → Nd} {h₀ h : Heap} {L : Addr} (T : Tab P N S nd) (N' : News h₀ L h N) {x : Addr} (hx : S x) (n' : Nd) (hd : n'.d = (nd x).d) :
    Tab P (put (nd x).d (nodeD P n') N) S (upd nd x n') := by
  have inst : ∀ a, S a → (a, instObj 59 (nd a).d) ∈ put (nd x).d (nodeD P n') N := fun a ha => by
    refine mem_put_ne (T.has a ha).1 fun e => ?_
    have e1 := (T.has a ha).1
    rw [e] at e1
    have := News.uniq N' e1 (T.has x hx).2
    cases this
  refine ⟨fun a ha => ?_, fun a b ha hb e => ?_⟩
  · by_cases hax : a = x
    · subst hax
      rw [upd_self]
      exact ⟨hd ▸ inst a ha, hd ▸ mem_put_self⟩
    · rw [upd_ne hax]
      exact ⟨inst a ha, mem_put_ne (T.has a ha).2 fun e => hax (T.inj a x ha hx e)⟩
  · have dd : ∀ a, (upd nd x n' a).d = (nd a).d := fun a => by
      by_cases hax : a = x
      · subst hax; rw [upd_self, hd]
      · rw [upd_ne hax]
    rw [dd, dd] at e
    exact T.inj a b ha hb e

section
variable {prog : Program} {w : World} {A : Around} {env : Env} {h₀ : Heap} {s₀ : Shared} {h : Heap} {t : Nat} {m : Str → Option Value} {N : Led} {r : Nat} {x : Addr} {n : Nd} {nm : Str} {v : Value} {S : Addr → Prop} {nd : Addr → Nd}

theorem getN {b : Bool} {Q : Value → Shared → Prop} (G : Gd w A env h₀ r) (F : Fr h₀ env.locals h m) (N' : News h₀ env.locals h N) (hn : HasN w.params N x n)
    (hf : findIn (bjT.heap_39 w.params) (.ref 59) nm = some none) (hl : getL nm (nodeL w.params n) = some (some v)) (hv : handedIn v = true) (k : Q v (stt s₀ h (t + 1))) :
    wpAny (model prog w) A (getAttr (.ref x) nm b) Q NE (stt s₀ h t) :=
  get_own (s := stt s₀ h t) F G.X (InstAt.of_news N' hn.1 hn.2) (pg59 _) (hdi59 _) hf (ng _) hl hv k

theorem setN {n' : Nd} {Q : Unit → Shared → Prop} (G : Gd w A env h₀ r) (F : Fr h₀ env.locals h m) (N' : News h₀ env.locals h N) (hn : HasN w.params N x n)
    (ht : takerIn (bjT.heap_39 w.params) 59 nm = some none) (hl : (getL nm (nodeL w.params n)).isSome = true) (e : ∀ hh kk, putL nm hh kk v (nodeL w.params n) = nodeL w.params n') (e2 : putN nm (nodeL w.params n) 10 = 10)
    (k : ∀ h' t', Fr h₀ env.locals h' m → News h₀ env.locals h' (put n.d (nodeD w.params n') N) → Q () (stt s₀ h' t')) :
    wpAny (model prog w) A (setAttr (.ref x) nm v) Q NE (stt s₀ h t) :=
  set_dict (s := stt s₀ h t) F G.X (News.filt N' hn.2) (InstAt.of_news N' hn.1 hn.2) rfl (sa59 _) (po59 _) ht (hdi59 _) hl (by rw [e, e2]) (.head filt_ne) (Nat.le_of_ble_eq_true rfl) fun h' F' N'' => k h' _ F' N''

theorem tgetx {b : Bool} {Q : Value → Shared → Prop} (G : Gd w A env h₀ r) (F : Fr h₀ env.locals h m) (N' : News h₀ env.locals h N) (T : Tab w.params N S nd) (hx : S x)
    (hf : findIn (bjT.heap_39 w.params) (.ref 59) nm = some none) (hl : getL nm (nodeL w.params (nd x)) = some (some v)) (hv : handedIn v = true) (k : ∀ t', Q v (stt s₀ h t')) :
    wpAny (model prog w) A (getAttr (.ref x) nm b) Q NE (stt s₀ h t) := getN G F N' (T.has x hx) hf hl hv (k _)

theorem tg_i {b : Bool} {Q : Value → Shared → Prop} (G : Gd w A env h₀ r) (F : Fr h₀ env.locals h m) (N' : News h₀ env.locals h N) (T : Tab w.params N S nd) (hx : S x) (k : ∀ t', Q (.int (nd x).i (nd x).it) (stt s₀ h t')) :
    wpAny (model prog w) A (getAttr (.ref x) "i" b) Q NE (stt s₀ h t) := tgetx G F N' T hx (fi59_i _) rfl rfl k
theorem tg_point {b : Bool} {Q : Value → Shared → Prop} (G : Gd w A env h₀ r) (F : Fr h₀ env.locals h m) (N' : News h₀ env.locals h N) (T : Tab w.params N S nd) (hx : S x) (k : ∀ t', Q (.ref (nd x).pt) (stt s₀ h t')) :
    wpAny (model prog w) A (getAttr (.ref x) "point" b) Q NE (stt s₀ h t) := tgetx G F N' T hx (fi59_point _) rfl rfl k
theorem tg_x {b : Bool} {Q : Value → Shared → Prop} (G : Gd w A env h₀ r) (F : Fr h₀ env.locals h m) (N' : News h₀ env.locals h N) (T : Tab w.params N S nd) (hx : S x) (k : ∀ t', Q (.int (nd x).x (nd x).xt) (stt s₀ h t')) :
    wpAny (model prog w) A (getAttr (.ref x) "x" b) Q NE (stt s₀ h t) := tgetx G F N' T hx (fi59_x _) rfl rfl k
theorem tg_y {b : Bool} {Q : Value → Shared → Prop} (G : Gd w A env h₀ r) (F : Fr h₀ env.locals h m) (N' : News h₀ env.locals h N) (T : Tab w.params N S nd) (hx : S x) (k : ∀ t', Q (.int (nd x).y (nd x).yt) (stt s₀ h t')) :
    wpAny (model prog w) A (getAttr (.ref x) "y" b) Q NE (stt s₀ h t) := tgetx G F N' T hx (fi59_y _) rfl rfl k
theorem tg_prev {b : Bool} {Q : Value → Shared → Prop} (G : Gd w A env h₀ r) (F : Fr h₀ env.locals h m) (N' : News h₀ env.locals h N) (T : Tab w.params N S nd) (hx : S x) (k : ∀ t', Q (orf (nd x).prev) (stt s₀ h t')) :
    wpAny (model prog w) A (getAttr (.ref x) "prev" b) Q NE (stt s₀ h t) := tgetx G F N' T hx (fi59_prev _) rfl (handed_orf _) k
theorem tg_next {b : Bool} {Q : Value → Shared → Prop} (G : Gd w A env h₀ r) (F : Fr h₀ env.locals h m) (N' : News h₀ env.locals h N) (T : Tab w.params N S nd) (hx : S x) (k : ∀ t', Q (orf (nd x).next) (stt s₀ h t')) :
    wpAny (model prog w) A (getAttr (.ref x) "next" b) Q NE (stt s₀ h t) := tgetx G F N' T hx (fi59_next _) rfl (handed_orf _) k
theorem tg_z {b : Bool} {Q : Value → Shared → Prop} (G : Gd w A env h₀ r) (F : Fr h₀ env.locals h m) (N' : News h₀ env.locals h N) (T : Tab w.params N S nd) (hx : S x) (k : ∀ t', Q (.int 0 (nd x).zt) (stt s₀ h t')) :
    wpAny (model prog w) A (getAttr (.ref x) "z" b) Q NE (stt s₀ h t) := tgetx G F N' T hx (fi59_z _) rfl rfl k
theorem tg_pz {b : Bool} {Q : Value → Shared → Prop} (G : Gd w A env h₀ r) (F : Fr h₀ env.locals h m) (N' : News h₀ env.locals h N) (T : Tab w.params N S nd) (hx : S x) (k : ∀ t', Q (orf (nd x).pz) (stt s₀ h t')) :
    wpAny (model prog w) A (getAttr (.ref x) "prev_z" b) Q NE (stt s₀ h t) := tgetx G F N' T hx (fi59_prev_z _) rfl (handed_orf _) k
theorem tg_nz {b : Bool} {Q : Value → Shared → Prop} (G : Gd w A env h₀ r) (F : Fr h₀ env.locals h m) (N' : News h₀ env.locals h N) (T : Tab w.params N S nd) (hx : S x) (k : ∀ t', Q (orf (nd x).nz) (stt s₀ h t')) :
    wpAny (model prog w) A (getAttr (.ref x) "next_z" b) Q NE (stt s₀ h t) := tgetx G F N' T hx (fi59_next_z _) rfl (handed_orf _) k
theorem tg_st {b : Bool} {Q : Value → Shared → Prop} (G : Gd w A env h₀ r) (F : Fr h₀ env.locals h m) (N' : News h₀ env.locals h N) (T : Tab w.params N S nd) (hx : S x) (k : ∀ t', Q (.bool false) (stt s₀ h t')) :
    wpAny (model prog w) A (getAttr (.ref x) "steiner" b) Q NE (stt s₀ h t) := tgetx G F N' T hx (fi59_steiner _) rfl rfl k

theorem tsetx {n' : Nd} {Q : Unit → Shared → Prop} (G : Gd w A env h₀ r) (F : Fr h₀ env.locals h m) (N' : News h₀ env.locals h N) (T : Tab w.params N S nd) (hx : S x)
    (ht : takerIn (bjT.heap_39 w.params) 59 nm = some none) (hl : (getL nm (nodeL w.params (nd x))).isSome = true) (e : ∀ hh kk, putL nm hh kk v (nodeL w.params (nd x)) = nodeL w.params n') (e2 : putN nm (nodeL w.params (nd x)) 10 = 10) (hd : n'.d = (nd x).d)
    (k : ∀ h' t' N₁, Fr h₀ env.locals h' m → News h₀ env.locals h' N₁ → Keep w.params N N₁ → Tab w.params N₁ S (upd nd x n') → Q () (stt s₀ h' t')) :
    wpAny (model prog w) A (setAttr (.ref x) nm v) Q NE (stt s₀ h t) :=
  setN G F N' (T.has x hx) ht hl e e2 fun h' t' F' N'' => k h' t' _ F' N'' (Keep.put N' (T.has x hx).2) (T.set N' hx n' hd)

theorem ts_prev {o : Option Addr} {Q : Unit → Shared → Prop} (G : Gd w A env h₀ r) (F : Fr h₀ env.locals h m) (N' : News h₀ env.locals h N) (T : Tab w.params N S nd) (hx : S x)
    (k : ∀ h' t' N₁, Fr h₀ env.locals h' m → News h₀ env.locals h' N₁ → Keep w.params N N₁ → Tab w.params N₁ S (upd nd x ((nd x).s_prev o)) → Q () (stt s₀ h' t')) :
    wpAny (model prog w) A (setAttr (.ref x) "prev" (orf o)) Q NE (stt s₀ h t) := tsetx (n' := (nd x).s_prev o) G F N' T hx (ti59_prev _) rfl (fun _ _ => rfl) rfl rfl k
theorem ts_next {o : Option Addr} {Q : Unit → Shared → Prop} (G : Gd w A env h₀ r) (F : Fr h₀ env.locals h m) (N' : News h₀ env.locals h N) (T : Tab w.params N S nd) (hx : S x)
    (k : ∀ h' t' N₁, Fr h₀ env.locals h' m → News h₀ env.locals h' N₁ → Keep w.params N N₁ → Tab w.params N₁ S (upd nd x ((nd x).s_next o)) → Q () (stt s₀ h' t')) :
    wpAny (model prog w) A (setAttr (.ref x) "next" (orf o)) Q NE (stt s₀ h t) := tsetx (n' := (nd x).s_next o) G F N' T hx (ti59_next _) rfl (fun _ _ => rfl) rfl rfl k
theorem ts_pz {o : Option Addr} {Q : Unit → Shared → Prop} (G : Gd w A env h₀ r) (F : Fr h₀ env.locals h m) (N' : News h₀ env.locals h N) (T : Tab w.params N S nd) (hx : S x)
    (k : ∀ h' t' N₁, Fr h₀ env.locals h' m → News h₀ env.locals h' N₁ → Keep w.params N N₁ → Tab w.params N₁ S (upd nd x ((nd x).s_pz o)) → Q () (stt s₀ h' t')) :
    wpAny (model prog w) A (setAttr (.ref x) "prev_z" (orf o)) Q NE (stt s₀ h t) := tsetx (n' := (nd x).s_pz o) G F N' T hx (ti59_prev_z _) rfl (fun _ _ => rfl) rfl rfl k
theorem ts_nz {o : Option Addr} {Q : Unit → Shared → Prop} (G : Gd w A env h₀ r) (F : Fr h₀ env.locals h m) (N' : News h₀ env.locals h N) (T : Tab w.params N S nd) (hx : S x)
    (k : ∀ h' t' N₁, Fr h₀ env.locals h' m → News h₀ env.locals h' N₁ → Keep w.params N N₁ → Tab w.params N₁ S (upd nd x ((nd x).s_nz o)) → Q () (stt s₀ h' t')) :
    wpAny (model prog w) A (setAttr (.ref x) "next_z" (orf o)) Q NE (stt s₀ h t) := tsetx (n' := (nd x).s_nz o) G F N' T hx (ti59_next_z _) rfl (fun _ _ => rfl) rfl rfl k
theorem ts_prevR {o : Addr} {Q : Unit → Shared → Prop} (G : Gd w A env h₀ r) (F : Fr h₀ env.locals h m) (N' : News h₀ env.locals h N) (T : Tab w.params N S nd) (hx : S x)
    (k : ∀ h' t' N₁, Fr h₀ env.locals h' m → News h₀ env.locals h' N₁ → Keep w.params N N₁ → Tab w.params N₁ S (upd nd x ((nd x).s_prev (some o))) → Q () (stt s₀ h' t')) :
    wpAny (model prog w) A (setAttr (.ref x) "prev" (.ref o)) Q NE (stt s₀ h t) := ts_prev (o := some o) G F N' T hx k
theorem ts_nextR {o : Addr} {Q : Unit → Shared → Prop} (G : Gd w A env h₀ r) (F : Fr h₀ env.locals h m) (N' : News h₀ env.locals h N) (T : Tab w.params N S nd) (hx : S x)
    (k : ∀ h' t' N₁, Fr h₀ env.locals h' m → News h₀ env.locals h' N₁ → Keep w.params N N₁ → Tab w.params N₁ S (upd nd x ((nd x).s_next (some o))) → Q () (stt s₀ h' t')) :
    wpAny (model prog w) A (setAttr (.ref x) "next" (.ref o)) Q NE (stt s₀ h t) := ts_next (o := some o) G F N' T hx k
theorem ts_pzR {o : Addr} {Q : Unit → Shared → Prop} (G : Gd w A env h₀ r) (F : Fr h₀ env.locals h m) (N' : News h₀ env.locals h N) (T : Tab w.params N S nd) (hx : S x)
    (k : ∀ h' t' N₁, Fr h₀ env.locals h' m → News h₀ env.locals h' N₁ → Keep w.params N N₁ → Tab w.params N₁ S (upd nd x ((nd x).s_pz (some o))) → Q () (stt s₀ h' t')) :
    wpAny (model prog w) A (setAttr (.ref x) "prev_z" (.ref o)) Q NE (stt s₀ h t) := ts_pz (o := some o) G F N' T hx k
theorem ts_nzR {o : Addr} {Q : Unit → Shared → Prop} (G : Gd w A env h₀ r) (F : Fr h₀ env.locals h m) (N' : News h₀ env.locals h N) (T : Tab w.params N S nd) (hx : S x)
    (k : ∀ h' t' N₁, Fr h₀ env.locals h' m → News h₀ env.locals h' N₁ → Keep w.params N N₁ → Tab w.params N₁ S (upd nd x ((nd x).s_nz (some o))) → Q () (stt s₀ h' t')) :
    wpAny (model prog w) A (setAttr (.ref x) "next_z" (.ref o)) Q NE (stt s₀ h t) := ts_nz (o := some o) G F N' T hx k
end

section
local macro_rules | `(tactic| walk_at "bj_m") => `(tactic| first | (with_reducible assumption) | (with_reducible exact m_here) | ((with_reducible refine m_there ?hmt ?_); (case hmt => decide); walk_at "bj_m") | rfl)
local macro_rules | `(tactic| walk_at "bj_a") => `(tactic| (with_reducible assumption))
local macro_rules | `(tactic| walk_at "bj") => `(tactic| first
  | (with_reducible refine s_nilR ?_)
  | ((with_reducible refine' s_assignAttr ?_ ?hs); (case hs => rfl))
  | ((with_reducible refine' s_assign ?_ ?hs); (case hs => rfl))
  | (with_reducible refine' s_if ?_)
  | (with_reducible refine' s_ret ?_)
  | (with_reducible refine' s_aug ?_)
  | ((with_reducible refine' e_L ?G ?F ?hx ?hv ?_ ?hdb); (case G => walk_at "bj_a"); (case F => walk_at "bj_a"); (case hx => rfl); (case hdb => rfl); (case hv => walk_at "bj_m"))
  | ((with_reducible refine' l_L ?G ?F ?hx ?hv ?_); (case G => walk_at "bj_a"); (case F => walk_at "bj_a"); (case hx => rfl); (case hv => walk_at "bj_m"))
  | ((with_reducible refine' e_st ?G ?F ?N ?hx ?_); (case G => walk_at "bj_a"); (case F => walk_at "bj_a"); (case N => walk_at "bj_a"); (case hx => rfl); intro h' t' F' N')
  | ((with_reducible refine' e_attr ?_ ?he); (case he => with_unfolding_all rfl))
  | ((with_reducible refine' t_plain ?_ ?he); (case he => rfl))
  | (with_reducible refine' e_none ?_)
  | (with_reducible refine' e_bool ?_)
  | ((with_reducible refine' e_int ?_); intro u' t'))
local macro_rules | `(tactic| walk_at "bj_g5") => `(tactic| ((case G => walk_at "bj_a"); (case F => walk_at "bj_a"); (case N => walk_at "bj_a"); (case T => walk_at "bj_a"); (case hS => walk_at "bj_a")))
local macro_rules | `(tactic| walk_at "bj_get") => `(tactic| first
  | ((with_reducible refine' tg_next ?G ?F ?N ?T ?hS ?_); (case G => walk_at "bj_a"); (case F => walk_at "bj_a"); (case N => walk_at "bj_a"); (case T => walk_at "bj_a"); (case hS => walk_at "bj_a"); intro t')
  | ((with_reducible refine' tg_prev ?G ?F ?N ?T ?hS ?_); (case G => walk_at "bj_a"); (case F => walk_at "bj_a"); (case N => walk_at "bj_a"); (case T => walk_at "bj_a"); (case hS => walk_at "bj_a"); intro t')
  | ((with_reducible refine' tg_pz ?G ?F ?N ?T ?hS ?_); (case G => walk_at "bj_a"); (case F => walk_at "bj_a"); (case N => walk_at "bj_a"); (case T => walk_at "bj_a"); (case hS => walk_at "bj_a"); intro t')
  | ((with_reducible refine' tg_nz ?G ?F ?N ?T ?hS ?_); (case G => walk_at "bj_a"); (case F => walk_at "bj_a"); (case N => walk_at "bj_a"); (case T => walk_at "bj_a"); (case hS => walk_at "bj_a"); intro t')
  | ((with_reducible refine' tg_i ?G ?F ?N ?T ?hS ?_); (case G => walk_at "bj_a"); (case F => walk_at "bj_a"); (case N => walk_at "bj_a"); (case T => walk_at "bj_a"); (case hS => walk_at "bj_a"); intro t')
  | ((with_reducible refine' tg_point ?G ?F ?N ?T ?hS ?_); (case G => walk_at "bj_a"); (case F => walk_at "bj_a"); (case N => walk_at "bj_a"); (case T => walk_at "bj_a"); (case hS => walk_at "bj_a"); intro t')
  | ((with_reducible refine' tg_x ?G ?F ?N ?T ?hS ?_); (case G => walk_at "bj_a"); (case F => walk_at "bj_a"); (case N => walk_at "bj_a"); (case T => walk_at "bj_a"); (case hS => walk_at "bj_a"); intro t')
  | ((with_reducible refine' tg_y ?G ?F ?N ?T ?hS ?_); (case G => walk_at "bj_a"); (case F => walk_at "bj_a"); (case N => walk_at "bj_a"); (case T => walk_at "bj_a"); (case hS => walk_at "bj_a"); intro t')
  | ((with_reducible refine' tg_z ?G ?F ?N ?T ?hS ?_); (case G => walk_at "bj_a"); (case F => walk_at "bj_a"); (case N => walk_at "bj_a"); (case T => walk_at "bj_a"); (case hS => walk_at "bj_a"); intro t')
  | ((with_reducible refine' tg_st ?G ?F ?N ?T ?hS ?_); (case G => walk_at "bj_a"); (case F => walk_at "bj_a"); (case N => walk_at "bj_a"); (case T => walk_at "bj_a"); (case hS => walk_at "bj_a"); intro t'))
local macro_rules | `(tactic| walk_at "bj_set") => `(tactic| (first
  | (with_reducible refine' ts_prev ?G ?F ?N ?T ?hS ?_)
  | (with_reducible refine' ts_next ?G ?F ?N ?T ?hS ?_)
  | (with_reducible refine' ts_pz ?G ?F ?N ?T ?hS ?_)
  | (with_reducible refine' ts_nz ?G ?F ?N ?T ?hS ?_)
  | (with_reducible refine' ts_prevR ?G ?F ?N ?T ?hS ?_)
  | (with_reducible refine' ts_nextR ?G ?F ?N ?T ?hS ?_)
  | (with_reducible refine' ts_pzR ?G ?F ?N ?T ?hS ?_)
  | (with_reducible refine' ts_nzR ?G ?F ?N ?T ?hS ?_)))
theorem t_node {prog : Program} {w : World} {A : Around} {env : Env} {h₀ : Heap} {s₀ : Shared} {h : Heap} {t : Nat} {m : Str → Option Value} {N : Led} {r : Nat} {x : Addr} {S : Addr → Prop} {nd : Addr → Nd} {Q : Bool → Shared → Prop}
    (G : Gd w A env h₀ r) (F : Fr h₀ env.locals h m) (N' : News h₀ env.locals h N) (T : Tab w.params N S nd) (hx : S x) (k : Q true (stt s₀ h t)) : wpAny (model prog w) A (truthy (.ref x)) Q NE (stt s₀ h t) :=
  truthy_K0 (s := stt s₀ h t) F G.X (InstAt.of_news N' (T.has x hx).1 (T.has x hx).2) (fi59_bool _) (fi59_len _) k

def rm1 (nd : Addr → Nd) (a b : Addr) : Addr → Nd := upd nd a ((nd a).s_prev (some b))
def rm2 (nd : Addr → Nd) (p b : Addr) : Addr → Nd := upd nd b ((nd b).s_next (nd p).next)
def rm3 (nd : Addr → Nd) (p : Addr) : Addr → Nd := match (nd p).pz with
  | some z => upd nd z ((nd z).s_nz (nd p).nz)
  | none => nd
def rm4 (nd : Addr → Nd) (p : Addr) : Addr → Nd := match (nd p).nz with
  | some z => upd nd z ((nd z).s_pz (nd p).pz)
  | none => nd
def rmv (nd : Addr → Nd) (p a b : Addr) : Addr → Nd := rm4 (rm3 (rm2 (rm1 nd a b) p b) p) p

theorem rm1_prev {nd : Addr → Nd} {p a b : Addr} (eb : (nd p).prev = some b) : (rm1 nd a b p).prev = some b := by
  unfold rm1 upd
  split
  · rfl
  · exact eb
theorem rm2_pz {nd : Addr → Nd} {p a b x : Addr} : (rm2 (rm1 nd a b) p b x).pz = (nd x).pz := by
  unfold rm2 rm1 upd
  split
  · rename_i e; subst e; unfold Nd.s_next; dsimp only; split
    · rename_i e; subst e; rfl
    · rfl
  · split
    · rename_i e; subst e; rfl
    · rfl
theorem rm2_nz {nd : Addr → Nd} {p a b x : Addr} : (rm2 (rm1 nd a b) p b x).nz = (nd x).nz := by
  unfold rm2 rm1 upd
  split
  · rename_i e; subst e; unfold Nd.s_next; dsimp only; split
    · rename_i e; subst e; rfl
    · rfl
  · split
    · rename_i e; subst e; rfl
    · rfl

theorem rem_call {prog : Program} {w : World} {A : Around} {env : Env} {h₀ : Heap} {s₀ : Shared} {h : Heap} {t : Nat} {m : Str → Option Value} {N : Led} {r : Nat} {Q : Value → Shared → Prop} {p a b : Addr} {S : Addr → Prop} {nd : Addr → Nd}
    (G : Gd w A env h₀ (r + 1)) (F : Fr h₀ env.locals h m) (N' : News h₀ env.locals h N) (T : Tab w.params N S nd) (hp : S p) (ea : (nd p).next = some a) (ha : S a) (eb : (nd p).prev = some b) (hb : S b)
    (hpz : ∀ z, (nd p).pz = some z → S z) (hnz : ∀ z, (rm3 (rm2 (rm1 nd a b) p b) p p).nz = some z → S z)
    (k : ∀ h' t' N₁, Fr h₀ env.locals h' m → News h₀ env.locals h' N₁ → Keep w.params N N₁ → Tab w.params N₁ S (rmv nd p a b) → Q .none (stt s₀ h' t')) :
    wpAny (model prog w) A (call (.ref 91) [.ref p] []) Q NE (stt s₀ h t) := by
  refine enter (binds := [("p", .ref p)]) G F N' (look91 _) (code91 _) rfl rfl rfl rfl rfl rfl fun g L' h₁ t₁ G' F' N₁ => ?_
  unfold bd91 bdS91
  dsimp only
  iterate 3 walk_at "bj"
  walk_at "bj_get"
  iterate 2 walk_at "bj"
  walk_at "bj_get"
  rw [ea, eb]
  (with_reducible refine' ts_prev ?G ?F ?N ?T ?hS ?_); walk_at "bj_g5"
  clear F' N₁
  intro h₁' t₁' N₁' F' N₁ K₁ T₁
  replace T₁ : Tab w.params N₁' S (rm1 nd a b) := T₁
  iterate 3 walk_at "bj"
  walk_at "bj_get"
  iterate 2 walk_at "bj"
  walk_at "bj_get"
  rw [rm1_prev eb]
  (with_reducible refine' ts_next ?G ?F ?N ?T ?hS ?_); walk_at "bj_g5"
  clear F' N₁
  intro h₂' t₂' N₂' F' N₂ K₂ T₂
  replace T₂ : Tab w.params N₂' S (rm2 (rm1 nd a b) p b) := T₂
  have K₂' := K₁.trans K₂
  clear T T₁ K₁ K₂
  have hpz' : ∀ z, (rm2 (rm1 nd a b) p b p).pz = some z → S z := fun z hz => hpz z (rm2_pz ▸ hz)
  unfold rmv at k
  generalize rm2 (rm1 nd a b) p b = nd₂ at T₂ hpz' k hnz
  refine s_ifJ (fun σ => ∃ h' t' N₃, σ = stt s₀ h' t' ∧ Fr g (envOf qu91 sc91 L' 91 (.ref 90)).locals h' (fun y => List.lookup y [(Str.ofString "p", Value.ref p)].reverse) ∧ News g (envOf qu91 sc91 L' 91 (.ref 90)).locals h' N₃ ∧ Keep w.params N N₃ ∧ Tab w.params N₃ S (rm3 nd₂ p)) ?_ ?_
  · iterate 3 walk_at "bj"
    walk_at "bj_get"
    unfold rm3
    cases e : (nd₂ p).pz with
    | none =>
      refine truthy_none ?_
      rw [if_neg (by decide)]
      exact s_nilN ⟨_, _, _, rfl, F', N₂, K₂', T₂⟩
    | some z =>
      have hz := hpz' z e
      refine t_node G' F' N₂ T₂ hz ?_
      rw [if_pos rfl]
      iterate 3 walk_at "bj"
      walk_at "bj_get"
      iterate 2 walk_at "bj"
      walk_at "bj_get"
      rw [e]
      (with_reducible refine' ts_nz ?G ?F ?N ?T ?hS ?_); walk_at "bj_g5"
      clear F' N₂
      intro h₃' t₃' N₃' F' N₃ K₃ T₃
      exact s_nilN ⟨_, _, _, rfl, F', N₃, K₂'.trans K₃, T₃⟩
  clear F' N₂ T₂
  rintro σ ⟨h₃, t₃, N₃, rfl, F', N₃', K₃, T₃⟩
  generalize rm3 nd₂ p = nd₃ at hnz k T₃
  iterate 4 walk_at "bj"
  walk_at "bj_get"
  unfold rm4 at k
  cases e : (nd₃ p).nz with
  | none =>
    rw [e] at k
    refine truthy_none ?_
    rw [if_neg (by decide)]
    refine s_nilR (s_nil ?_)
    exact lv F' N₃' fun F N => k _ _ _ F N K₃ T₃
  | some z =>
    have hz := hnz z e
    rw [e] at k
    refine t_node G' F' N₃' T₃ hz ?_
    rw [if_pos rfl]
    iterate 3 walk_at "bj"
    walk_at "bj_get"
    iterate 2 walk_at "bj"
    walk_at "bj_get"
    rw [e]
    (with_reducible refine' ts_pz ?G ?F ?N ?T ?hS ?_); walk_at "bj_g5"
    clear F' N₃'
    intro h₄' t₄' N₄' F' N₄ K₄ T₄
    refine s_nilR (s_nil ?_)
    exact lv F' N₄ fun F N => k _ _ _ F N (K₃.trans K₄) T₄
end

section
local macro_rules | `(tactic| walk_at "bj_m") => `(tactic| first | (with_reducible assumption) | (with_reducible exact m_here) | ((with_reducible refine m_there ?hmt ?_); (case hmt => decide); walk_at "bj_m") | rfl)
local macro_rules | `(tactic| walk_at "bj_a") => `(tactic| (with_reducible assumption))
local macro_rules | `(tactic| walk_at "bj") => `(tactic| first
  | (with_reducible refine s_nilR ?_)
  | ((with_reducible refine' s_assignAttr ?_ ?hs); (case hs => rfl))
  | ((with_reducible refine' s_assign ?_ ?hs); (case hs => rfl))
  | (with_reducible refine' s_if ?_)
  | (with_reducible refine' s_ret ?_)
  | (with_reducible refine' s_aug ?_)
  | ((with_reducible refine' e_L ?G ?F ?hx ?hv ?_ ?hdb); (case G => walk_at "bj_a"); (case F => walk_at "bj_a"); (case hx => rfl); (case hdb => rfl); (case hv => walk_at "bj_m"))
  | ((with_reducible refine' l_L ?G ?F ?hx ?hv ?_); (case G => walk_at "bj_a"); (case F => walk_at "bj_a"); (case hx => rfl); (case hv => walk_at "bj_m"))
  | ((with_reducible refine' e_st ?G ?F ?N ?hx ?_); (case G => walk_at "bj_a"); (case F => walk_at "bj_a"); (case N => walk_at "bj_a"); (case hx => rfl); intro h' t' F' N')
  | ((with_reducible refine' e_attr ?_ ?he); (case he => with_unfolding_all rfl))
  | ((with_reducible refine' t_plain ?_ ?he); (case he => rfl))
  | (with_reducible refine' e_none ?_)
  | (with_reducible refine' e_bool ?_)
  | ((with_reducible refine' e_int ?_); intro u' t'))
local macro_rules | `(tactic| walk_at "bj_g5") => `(tactic| ((case G => walk_at "bj_a"); (case F => walk_at "bj_a"); (case N => walk_at "bj_a"); (case T => walk_at "bj_a"); (case hS => walk_at "bj_a")))
local macro_rules | `(tactic| walk_at "bj_get") => `(tactic| first
  | ((with_reducible refine' tg_next ?G ?F ?N ?T ?hS ?_); (case G => walk_at "bj_a"); (case F => walk_at "bj_a"); (case N => walk_at "bj_a"); (case T => walk_at "bj_a"); (case hS => walk_at "bj_a"); intro t')
  | ((with_reducible refine' tg_prev ?G ?F ?N ?T ?hS ?_); (case G => walk_at "bj_a"); (case F => walk_at "bj_a"); (case N => walk_at "bj_a"); (case T => walk_at "bj_a"); (case hS => walk_at "bj_a"); intro t')
  | ((with_reducible refine' tg_pz ?G ?F ?N ?T ?hS ?_); (case G => walk_at "bj_a"); (case F => walk_at "bj_a"); (case N => walk_at "bj_a"); (case T => walk_at "bj_a"); (case hS => walk_at "bj_a"); intro t')
  | ((with_reducible refine' tg_nz ?G ?F ?N ?T ?hS ?_); (case G => walk_at "bj_a"); (case F => walk_at "bj_a"); (case N => walk_at "bj_a"); (case T => walk_at "bj_a"); (case hS => walk_at "bj_a"); intro t')
  | ((with_reducible refine' tg_i ?G ?F ?N ?T ?hS ?_); (case G => walk_at "bj_a"); (case F => walk_at "bj_a"); (case N => walk_at "bj_a"); (case T => walk_at "bj_a"); (case hS => walk_at "bj_a"); intro t')
  | ((with_reducible refine' tg_point ?G ?F ?N ?T ?hS ?_); (case G => walk_at "bj_a"); (case F => walk_at "bj_a"); (case N => walk_at "bj_a"); (case T => walk_at "bj_a"); (case hS => walk_at "bj_a"); intro t')
  | ((with_reducible refine' tg_x ?G ?F ?N ?T ?hS ?_); (case G => walk_at "bj_a"); (case F => walk_at "bj_a"); (case N => walk_at "bj_a"); (case T => walk_at "bj_a"); (case hS => walk_at "bj_a"); intro t')
  | ((with_reducible refine' tg_y ?G ?F ?N ?T ?hS ?_); (case G => walk_at "bj_a"); (case F => walk_at "bj_a"); (case N => walk_at "bj_a"); (case T => walk_at "bj_a"); (case hS => walk_at "bj_a"); intro t')
  | ((with_reducible refine' tg_z ?G ?F ?N ?T ?hS ?_); (case G => walk_at "bj_a"); (case F => walk_at "bj_a"); (case N => walk_at "bj_a"); (case T => walk_at "bj_a"); (case hS => walk_at "bj_a"); intro t')
  | ((with_reducible refine' tg_st ?G ?F ?N ?T ?hS ?_); (case G => walk_at "bj_a"); (case F => walk_at "bj_a"); (case N => walk_at "bj_a"); (case T => walk_at "bj_a"); (case hS => walk_at "bj_a"); intro t'))
local macro_rules | `(tactic| walk_at "bj_set") => `(tactic| (first
  | (with_reducible refine' ts_prev ?G ?F ?N ?T ?hS ?_)
  | (with_reducible refine' ts_next ?G ?F ?N ?T ?hS ?_)
  | (with_reducible refine' ts_pz ?G ?F ?N ?T ?hS ?_)
  | (with_reducible refine' ts_nz ?G ?F ?N ?T ?hS ?_)
  | (with_reducible refine' ts_prevR ?G ?F ?N ?T ?hS ?_)
  | (with_reducible refine' ts_nextR ?G ?F ?N ?T ?hS ?_)
  | (with_reducible refine' ts_pzR ?G ?F ?N ?T ?hS ?_)
  | (with_reducible refine' ts_nzR ?G ?F ?N ?T ?hS ?_)))
/-! points, and what is made -/
structure Pt where
  d : Addr
  k0 : Tok
  k1 : Tok
  x : Int
  xt : Tok
  y : Int
  yt : Tok
def ptL (P : Params) (p : Pt) : List DictEntry := [⟨PyData.keyHash P "x", .str "x" p.k0, .int p.x p.xt⟩, ⟨PyData.keyHash P "y", .str "y" p.k1, .int p.y p.yt⟩]
def ptD (P : Params) (p : Pt) : Obj := dictOf (ptL P p) 2
def HasP (P : Params) (N : Led) (a : Addr) (p : Pt) : Prop := (a, instObj 31 p.d) ∈ N ∧ (p.d, ptD P p) ∈ N

theorem ne_ref {P : Params} {c : Addr} {dd : Option Addr} {da : Data} {sl : Array (Option Value)} : ∀ n, (⟨.ref c, dd, da, sl⟩ : Obj) ≠ nodeD P n := fun n e => by
  have := congrArg Obj.cls e
  cases this
theorem ne_seq {P : Params} {T : String} {vs : Array Value} {k : Nat} : ∀ n, ({ cls := .type T, data := .seq vs k } : Obj) ≠ nodeD P n := fun n e => by
  have := congrArg Obj.data e
  cases this
theorem ne_pt {P : Params} {p : Pt} : ∀ n, ptD P p ≠ nodeD P n := fun n e => by
  have := congrArg Obj.data e
  injection this with _ h
  cases h
theorem HasP.keep {P : Params} {N N' : Led} {a : Addr} {p : Pt} (H : HasP P N a p) (K : Keep P N N') : HasP P N' a p := ⟨K _ H.1 ne_ref, K _ H.2 ne_pt⟩
theorem HasP.sub {P : Params} {N N' : Led} {a : Addr} {p : Pt} (H : HasP P N a p) (K : ∀ q ∈ N, q ∈ N') : HasP P N' a p := ⟨K _ H.1, K _ H.2⟩
theorem Keep.of_sub {P : Params} {N N' : Led} (K : ∀ q ∈ N, q ∈ N') : Keep P N N' := fun p h _ => K p h

section
variable {prog : Program} {w : World} {A : Around} {env : Env} {h₀ : Heap} {s₀ : Shared} {h : Heap} {t : Nat} {m : Str → Option Value} {N : Led} {r : Nat} {x dx C : Addr} {nm : Str} {v : Value} {pos : Pos}

theorem getP {b : Bool} {p : Pt} {Q : Value → Shared → Prop} (G : Gd w A env h₀ r) (F : Fr h₀ env.locals h m) (N' : News h₀ env.locals h N) (hn : HasP w.params N x p)
    (hf : findIn (bjT.heap_39 w.params) (.ref 31) nm = some none) (hl : getL nm (ptL w.params p) = some (some v)) (hv : handedIn v = true) (k : ∀ t', Q v (stt s₀ h t')) :
    wpAny (model prog w) A (getAttr (.ref x) nm b) Q NE (stt s₀ h t) :=
  get_own (s := stt s₀ h t) F G.X (InstAt.of_news N' hn.1 hn.2) (pg31 _) (hdi31 _) hf (ng _) hl hv (k _)
theorem p_x {b : Bool} {p : Pt} {Q : Value → Shared → Prop} (G : Gd w A env h₀ r) (F : Fr h₀ env.locals h m) (N' : News h₀ env.locals h N) (hn : HasP w.params N x p) (k : ∀ t', Q (.int p.x p.xt) (stt s₀ h t')) :
    wpAny (model prog w) A (getAttr (.ref x) "x" b) Q NE (stt s₀ h t) := getP G F N' hn (fi31_x _) rfl rfl k
theorem p_y {b : Bool} {p : Pt} {Q : Value → Shared → Prop} (G : Gd w A env h₀ r) (F : Fr h₀ env.locals h m) (N' : News h₀ env.locals h N) (hn : HasP w.params N x p) (k : ∀ t', Q (.int p.y p.yt) (stt s₀ h t')) :
    wpAny (model prog w) A (getAttr (.ref x) "y" b) Q NE (stt s₀ h t) := getP G F N' hn (fi31_y _) rfl rfl k

/-- a store of a new name into an object's own dict -/
theorem setI {es : List DictEntry} {n : Nat} {Q : Unit → Shared → Prop} (G : Gd w A env h₀ r) (F : Fr h₀ env.locals h m) (N' : News h₀ env.locals h N) (h1 : (x, instObj C dx) ∈ N) (h2 : (dx, dictOf es n) ∈ N)
    (hs : findIn (bjT.heap_39 w.params) (.ref C) "__setattr__" = some (some (.builtin "object.__setattr__"))) (hp : plainOver (bjT.heap_39 w.params) C = true) (ht : takerIn (bjT.heap_39 w.params) C nm = some none) (hh : hasDictIn (bjT.heap_39 w.params) C = true)
    (hl : (getL nm es).isSome = true) (e : ∀ hh kk, putL nm hh kk v es = es ++ [⟨hh, kk, v⟩]) (e2 : putN nm es n = n + 1) (hz : es.length < 1000)
    (k : ∀ h' t' kk N₁, Fr h₀ env.locals h' m → News h₀ env.locals h' N₁ → (∀ p ∈ N, p.1 ≠ dx → p ∈ N₁) → (dx, dictOf (es ++ [⟨PyData.keyHash w.params nm, .str nm kk, v⟩]) (n + 1)) ∈ N₁ → Q () (stt s₀ h' t')) :
    wpAny (model prog w) A (setAttr (.ref x) nm v) Q NE (stt s₀ h t) :=
  set_dict (s := stt s₀ h t) F G.X (News.filt N' h2) (InstAt.of_news N' h1 h2) rfl hs hp ht hh hl (by rw [e, e2]) (.head filt_ne) (by rw [List.length_append]; exact hz)
    fun h' F' N'' => k h' _ _ _ F' N'' (fun p hp hne => mem_put.mpr (.inr ⟨hne, hp⟩)) (.head _)

theorem under_gd {vals : List Value} (G : Gd w A env h₀ (r + 1)) : Gd w (A.under (.builtin "type.__call__" ⟨.ref C :: vals, []⟩)) env h₀ r :=
  ⟨G.X, G.T, G.hke, G.hgl, G.hbl, by rw [depth_under_make]; have := G.hd; omega, by rw [units_under_make]; have := G.hu; omega, G.hh⟩

/-- an own class made: its __init__ entered -/
theorem enterInit {Q : Value → Shared → Prop} {name qual : Str} {params : Arguments} {body : List Stmt} {scope : Scope} {dV kV doc pm cdv ct oc : Value} {an od : Option Addr} {osl : Array (Option Value)} {f : Addr} {args : List Value} {binds : Value → List (Str × Value)}
    (G : Gd w A env h₀ (r + 2)) (F : Fr h₀ env.locals h m) (N' : News h₀ env.locals h N) (hm : makesIn (bjT.heap_39 w.params) C = true) (hi : findIn (bjT.heap_39 w.params) (.ref C) "__init__" = some (some (.ref f)))
    (hf : typeIn (bjT.heap_39 w.params) (.ref f) = some (.type "function"))
    (ho : (bjT.heap_39 w.params).lookup f = some ⟨oc, od, .func (fnOf name qual params body scope dV kV doc pm an cdv ct), osl⟩) (hcd : codeIn (bjT.heap_39 w.params) cdv qual = true)
    (hbind : ∀ x, bindArgs (fnOf name qual params body scope dV kV doc pm an cdv ct) ⟨x :: args, []⟩ = pure (binds x)) (hloc : ∀ x, ((binds x).all fun x => decide (scope.names.lookup x.1 = some .local)) = true)
    (hco : scope.isCoroutine = false) (hgen : scope.isGenerator = false) (hk : scope.kind = .function) (hcell : (scope.names.all fun x => decide (x.2 ≠ .cell)) = true)
    (k : ∀ x dx A' g L' h₁ t₁, (∀ p ∈ N, p.1 < dx) → dx < x → Gd w A' (envOf qual scope L' f cdv) g r → Fr g (envOf qual scope L' f cdv).locals h₁ (fun y => (binds (.ref x)).reverse.lookup y) → News g (envOf qual scope L' f cdv).locals h₁ ((x, instObj C dx) :: (dx, dictOf [] 0) :: N) →
      wpAny (model prog w) A' (execs body (envOf qual scope L' f cdv))
        (fun fl σ => Lv h₀ env.locals m g (envOf qual scope L' f cdv).locals (fun v σ => v = .none ∧ Q (.ref x) σ) (retOf fl) σ) NE (stt s₀ h₁ t₁)) :
    wpAny (model prog w) A (call (.ref C) args []) Q NE (stt s₀ h t) := by
  refine callRet (make_K (s := stt s₀ h t) F N' (G.X.keeps F.keep) hm hi hf fun x dx h' F₁ N₁ l1 l2 => ?_)
  refine codeAny_mono (R := fun r s' => match r with | .ok (.ret v) => v = .none ∧ Q (.ref x) s' | _ => False) ?_ fun r s' z => ?_
  · refine enterCode (s := stt s₀ h' t) (under_gd G) F₁ N₁ ho hcd (hbind _) (hloc _) (fun g L' h₁ G' F' N₂ => wpAny_mono (k x dx _ g L' h₁ _ l1 l2 G' F' N₂) (fun fl σ z => ?_) fun _ _ z => z) hco hgen hk hcell
    cases fl <;> exact z
  · rcases r with e | (v | _ | _ | _) <;> exact z

theorem mkPoint {Q : Value → Shared → Prop} {px py : Int} {pxt pyt : Tok} (G : Gd w A env h₀ (r + 2)) (F : Fr h₀ env.locals h m) (N' : News h₀ env.locals h N)
    (k : ∀ h' t' a p, Fr h₀ env.locals h' m → News h₀ env.locals h' ((a, instObj 31 p.d) :: (p.d, ptD w.params p) :: N) → (∀ q ∈ N, q.1 < p.d) → p.d < a → p.x = px → p.y = py → Q (.ref a) (stt s₀ h' t')) :
    wpAny (model prog w) A (call (.ref 31) [.int px pxt, .int py pyt] []) Q NE (stt s₀ h t) := by
  refine enterInit (binds := fun x => [("self", x), ("x", .int px pxt), ("y", .int py pyt)]) G F N' (mk31 _) (fi31_init _) rfl (look28 _) (code28 _) (fun _ => rfl) (fun _ => rfl) rfl rfl rfl rfl fun x dx A' g L' h₁ t₁ l1 l2 G' F' N₁ => ?_
  unfold bd28 bdS28
  dsimp only
  iterate 3 walk_at "bj"
  refine setI (es := []) G' F' N₁ (.head _) (.tail _ (.head _)) (sa31 _) (po31 _) (ti31_x _) (hdi31 _) rfl (fun _ _ => rfl) rfl (Nat.le_of_ble_eq_true rfl) ?_
  intro h₂ t₂ kk₂ N₂ F₂ N₂' K₂ e₂
  have i₂ := K₂ _ (.head _) (Nat.ne_of_gt l2)
  iterate 3 walk_at "bj"
  refine setI G' F₂ N₂' i₂ e₂ (sa31 _) (po31 _) (ti31_y _) (hdi31 _) rfl (fun _ _ => rfl) rfl (Nat.le_of_ble_eq_true rfl) ?_
  intro h₃ t₃ kk₃ N₃ F₃ N₃' K₃ e₃
  have i₃ := K₃ _ i₂ (Nat.ne_of_gt l2)
  refine s_nil (lv F₃ N₃' fun F N => ⟨rfl, k _ _ x ⟨dx, kk₂, kk₃, px, pxt, py, pyt⟩ F (News.sub N ?_) l1 l2 rfl rfl⟩)
  intro p hp
  rcases List.mem_cons.mp hp with rfl | hp
  · exact i₃
  rcases List.mem_cons.mp hp with rfl | hp
  · exact e₃
  · have hne := Nat.ne_of_lt (l1 p hp)
    exact K₃ _ (K₂ _ (.tail _ (.tail _ hp)) hne) hne
end
end

section
local macro_rules | `(tactic| walk_at "bj_m") => `(tactic| first | (with_reducible assumption) | (with_reducible exact m_here) | ((with_reducible refine m_there ?hmt ?_); (case hmt => decide); walk_at "bj_m") | rfl)
local macro_rules | `(tactic| walk_at "bj_a") => `(tactic| (with_reducible assumption))
local macro_rules | `(tactic| walk_at "bj") => `(tactic| first
  | (with_reducible refine s_nilR ?_)
  | ((with_reducible refine' s_assignAttr ?_ ?hs); (case hs => rfl))
  | ((with_reducible refine' s_assign ?_ ?hs); (case hs => rfl))
  | (with_reducible refine' s_if ?_)
  | (with_reducible refine' s_ret ?_)
  | (with_reducible refine' s_aug ?_)
  | ((with_reducible refine' e_L ?G ?F ?hx ?hv ?_ ?hdb); (case G => walk_at "bj_a"); (case F => walk_at "bj_a"); (case hx => rfl); (case hdb => rfl); (case hv => walk_at "bj_m"))
  | ((with_reducible refine' l_L ?G ?F ?hx ?hv ?_); (case G => walk_at "bj_a"); (case F => walk_at "bj_a"); (case hx => rfl); (case hv => walk_at "bj_m"))
  | ((with_reducible refine' e_st ?G ?F ?N ?hx ?_); (case G => walk_at "bj_a"); (case F => walk_at "bj_a"); (case N => walk_at "bj_a"); (case hx => rfl); intro h' t' F' N')
  | ((with_reducible refine' e_attr ?_ ?he); (case he => with_unfolding_all rfl))
  | ((with_reducible refine' t_plain ?_ ?he); (case he => rfl))
  | (with_reducible refine' e_none ?_)
  | (with_reducible refine' e_bool ?_)
  | ((with_reducible refine' e_int ?_); intro u' t'))
local macro_rules | `(tactic| walk_at "bj_g5") => `(tactic| ((case G => walk_at "bj_a"); (case F => walk_at "bj_a"); (case N => walk_at "bj_a"); (case T => walk_at "bj_a"); (case hS => walk_at "bj_a")))
local macro_rules | `(tactic| walk_at "bj_get") => `(tactic| first
  | ((with_reducible refine' tg_next ?G ?F ?N ?T ?hS ?_); (case G => walk_at "bj_a"); (case F => walk_at "bj_a"); (case N => walk_at "bj_a"); (case T => walk_at "bj_a"); (case hS => walk_at "bj_a"); intro t')
  | ((with_reducible refine' tg_prev ?G ?F ?N ?T ?hS ?_); (case G => walk_at "bj_a"); (case F => walk_at "bj_a"); (case N => walk_at "bj_a"); (case T => walk_at "bj_a"); (case hS => walk_at "bj_a"); intro t')
  | ((with_reducible refine' tg_pz ?G ?F ?N ?T ?hS ?_); (case G => walk_at "bj_a"); (case F => walk_at "bj_a"); (case N => walk_at "bj_a"); (case T => walk_at "bj_a"); (case hS => walk_at "bj_a"); intro t')
  | ((with_reducible refine' tg_nz ?G ?F ?N ?T ?hS ?_); (case G => walk_at "bj_a"); (case F => walk_at "bj_a"); (case N => walk_at "bj_a"); (case T => walk_at "bj_a"); (case hS => walk_at "bj_a"); intro t')
  | ((with_reducible refine' tg_i ?G ?F ?N ?T ?hS ?_); (case G => walk_at "bj_a"); (case F => walk_at "bj_a"); (case N => walk_at "bj_a"); (case T => walk_at "bj_a"); (case hS => walk_at "bj_a"); intro t')
  | ((with_reducible refine' tg_point ?G ?F ?N ?T ?hS ?_); (case G => walk_at "bj_a"); (case F => walk_at "bj_a"); (case N => walk_at "bj_a"); (case T => walk_at "bj_a"); (case hS => walk_at "bj_a"); intro t')
  | ((with_reducible refine' tg_x ?G ?F ?N ?T ?hS ?_); (case G => walk_at "bj_a"); (case F => walk_at "bj_a"); (case N => walk_at "bj_a"); (case T => walk_at "bj_a"); (case hS => walk_at "bj_a"); intro t')
  | ((with_reducible refine' tg_y ?G ?F ?N ?T ?hS ?_); (case G => walk_at "bj_a"); (case F => walk_at "bj_a"); (case N => walk_at "bj_a"); (case T => walk_at "bj_a"); (case hS => walk_at "bj_a"); intro t')
  | ((with_reducible refine' tg_z ?G ?F ?N ?T ?hS ?_); (case G => walk_at "bj_a"); (case F => walk_at "bj_a"); (case N => walk_at "bj_a"); (case T => walk_at "bj_a"); (case hS => walk_at "bj_a"); intro t')
  | ((with_reducible refine' tg_st ?G ?F ?N ?T ?hS ?_); (case G => walk_at "bj_a"); (case F => walk_at "bj_a"); (case N => walk_at "bj_a"); (case T => walk_at "bj_a"); (case hS => walk_at "bj_a"); intro t'))
local macro_rules | `(tactic| walk_at "bj_set") => `(tactic| (first
  | (with_reducible refine' ts_prev ?G ?F ?N ?T ?hS ?_)
  | (with_reducible refine' ts_next ?G ?F ?N ?T ?hS ?_)
  | (with_reducible refine' ts_pz ?G ?F ?N ?T ?hS ?_)
  | (with_reducible refine' ts_nz ?G ?F ?N ?T ?hS ?_)
  | (with_reducible refine' ts_prevR ?G ?F ?N ?T ?hS ?_)
  | (with_reducible refine' ts_nextR ?G ?F ?N ?T ?hS ?_)
  | (with_reducible refine' ts_pzR ?G ?F ?N ?T ?hS ?_)
  | (with_reducible refine' ts_nzR ?G ?F ?N ?T ?hS ?_)))
section
variable {prog : Program} {w : World} {A : Around} {env : Env} {h₀ : Heap} {s₀ : Shared} {h : Heap} {t : Nat} {m : Str → Option Value} {N : Led} {r : Nat} {x dx C : Addr} {nm : Str} {v : Value} {pos : Pos}
theorem mkNode {Q : Value → Shared → Prop} {i : Int} {it : Tok} {pa : Addr} {p : Pt} (G : Gd w A env h₀ (r + 2)) (F : Fr h₀ env.locals h m) (N' : News h₀ env.locals h N) (H : HasP w.params N pa p)
    (k : ∀ h' t' a n, Fr h₀ env.locals h' m → News h₀ env.locals h' ((a, instObj 59 n.d) :: (n.d, nodeD w.params n) :: N) → (∀ q ∈ N, q.1 < n.d) → n.d < a →
      n.i = i → n.pt = pa → n.x = p.x → n.y = p.y → n.prev = none → n.next = none → n.pz = none → n.nz = none → Q (.ref a) (stt s₀ h' t')) :
    wpAny (model prog w) A (call (.ref 59) [.int i it, .ref pa] []) Q NE (stt s₀ h t) := by
  refine enterInit (binds := fun x => [("self", x), ("i", .int i it), ("point", .ref pa)]) G F N' (mk59 _) (fi59_init _) rfl (look49 _) (code49 _) (fun _ => rfl) (fun _ => rfl) rfl rfl rfl rfl fun x dx A' g L' h₁ t₁ l1 l2 G' F' N₁ => ?_
  have H₁ : HasP w.params ((x, instObj 59 dx) :: (dx, dictOf [] 0) :: N) pa p := H.sub fun q hq => .tail _ (.tail _ hq)
  have hpd : ∀ q ∈ N, q.1 ≠ dx := fun q hq => Nat.ne_of_lt (l1 q hq)
  have K₁ : ∀ q ∈ N, q ∈ (x, instObj 59 dx) :: (dx, dictOf [] 0) :: N := fun q hq => .tail _ (.tail _ hq)
  have i₁ : (x, instObj 59 dx) ∈ (x, instObj 59 dx) :: (dx, dictOf [] 0) :: N := .head _
  have e₁ : (dx, dictOf [] 0) ∈ (x, instObj 59 dx) :: (dx, dictOf [] 0) :: N := .tail _ (.head _)
  generalize (x, instObj 59 dx) :: (dx, dictOf [] 0) :: N = N₁₁ at N₁ H₁ K₁ i₁ e₁
  unfold bd49 bdS49
  dsimp only
  iterate 3 walk_at "bj"
  refine setI (es := []) G' F' N₁ i₁ e₁ (sa59 _) (po59 _) (ti59_i _) (hdi59 _) rfl (fun _ _ => rfl) rfl (Nat.le_of_ble_eq_true rfl) ?_
  intro h2 t2 kk2 L2 F2 M2 J2 e2
  have i2 := J2 _ i₁ (Nat.ne_of_gt l2)
  have K2 : ∀ q ∈ N, q ∈ L2 := fun q hq => J2 _ (K₁ q hq) (hpd q hq)
  have H2 : HasP w.params L2 pa p := H.sub K2
  clear F' N₁ J2 K₁ i₁ e₁ H₁
  iterate 3 walk_at "bj"
  refine setI G' F2 M2 i2 e2 (sa59 _) (po59 _) (ti59_point _) (hdi59 _) rfl (fun _ _ => rfl) rfl (Nat.le_of_ble_eq_true rfl) ?_
  intro h3 t3 kk3 L3 F3 M3 J3 e3
  have i3 := J3 _ i2 (Nat.ne_of_gt l2)
  have K3 : ∀ q ∈ N, q ∈ L3 := fun q hq => J3 _ (K2 q hq) (hpd q hq)
  have H3 : HasP w.params L3 pa p := H.sub K3
  clear F2 M2 J3 K2 i2 e2 H2
  iterate 3 walk_at "bj"
  refine p_x G' F3 M3 H3 fun t' => ?_
  walk_at "bj"
  refine setI G' F3 M3 i3 e3 (sa59 _) (po59 _) (ti59_x _) (hdi59 _) rfl (fun _ _ => rfl) rfl (Nat.le_of_ble_eq_true rfl) ?_
  intro h4 t4 kk4 L4 F4 M4 J4 e4
  have i4 := J4 _ i3 (Nat.ne_of_gt l2)
  have K4 : ∀ q ∈ N, q ∈ L4 := fun q hq => J4 _ (K3 q hq) (hpd q hq)
  have H4 : HasP w.params L4 pa p := H.sub K4
  clear F3 M3 J4 K3 i3 e3 H3
  iterate 3 walk_at "bj"
  refine p_y G' F4 M4 H4 fun t' => ?_
  walk_at "bj"
  refine setI G' F4 M4 i4 e4 (sa59 _) (po59 _) (ti59_y _) (hdi59 _) rfl (fun _ _ => rfl) rfl (Nat.le_of_ble_eq_true rfl) ?_
  intro h5 t5 kk5 L5 F5 M5 J5 e5
  have i5 := J5 _ i4 (Nat.ne_of_gt l2)
  have K5 : ∀ q ∈ N, q ∈ L5 := fun q hq => J5 _ (K4 q hq) (hpd q hq)
  have H5 : HasP w.params L5 pa p := H.sub K5
  clear F4 M4 J5 K4 i4 e4 H4
  walk_at "bj"
  walk_at "bj"
  walk_at "bj"
  refine setI G' F5 M5 i5 e5 (sa59 _) (po59 _) (ti59_prev _) (hdi59 _) rfl (fun _ _ => rfl) rfl (Nat.le_of_ble_eq_true rfl) ?_
  intro h6 t6 kk6 L6 F6 M6 J6 e6
  have i6 := J6 _ i5 (Nat.ne_of_gt l2)
  have K6 : ∀ q ∈ N, q ∈ L6 := fun q hq => J6 _ (K5 q hq) (hpd q hq)
  have H6 : HasP w.params L6 pa p := H.sub K6
  clear F5 M5 J6 K5 i5 e5 H5
  walk_at "bj"
  walk_at "bj"
  walk_at "bj"
  refine setI G' F6 M6 i6 e6 (sa59 _) (po59 _) (ti59_next _) (hdi59 _) rfl (fun _ _ => rfl) rfl (Nat.le_of_ble_eq_true rfl) ?_
  intro h7 t7 kk7 L7 F7 M7 J7 e7
  have i7 := J7 _ i6 (Nat.ne_of_gt l2)
  have K7 : ∀ q ∈ N, q ∈ L7 := fun q hq => J7 _ (K6 q hq) (hpd q hq)
  have H7 : HasP w.params L7 pa p := H.sub K7
  clear F6 M6 J7 K6 i6 e6 H6
  walk_at "bj"
  (with_reducible refine' e_int ?_); intro uz tz
  walk_at "bj"
  refine setI G' F7 M7 i7 e7 (sa59 _) (po59 _) (ti59_z _) (hdi59 _) rfl (fun _ _ => rfl) rfl (Nat.le_of_ble_eq_true rfl) ?_
  intro h8 t8 kk8 L8 F8 M8 J8 e8
  have i8 := J8 _ i7 (Nat.ne_of_gt l2)
  have K8 : ∀ q ∈ N, q ∈ L8 := fun q hq => J8 _ (K7 q hq) (hpd q hq)
  have H8 : HasP w.params L8 pa p := H.sub K8
  clear F7 M7 J8 K7 i7 e7 H7
  walk_at "bj"
  walk_at "bj"
  walk_at "bj"
  refine setI G' F8 M8 i8 e8 (sa59 _) (po59 _) (ti59_prev_z _) (hdi59 _) rfl (fun _ _ => rfl) rfl (Nat.le_of_ble_eq_true rfl) ?_
  intro h9 t9 kk9 L9 F9 M9 J9 e9
  have i9 := J9 _ i8 (Nat.ne_of_gt l2)
  have K9 : ∀ q ∈ N, q ∈ L9 := fun q hq => J9 _ (K8 q hq) (hpd q hq)
  have H9 : HasP w.params L9 pa p := H.sub K9
  clear F8 M8 J9 K8 i8 e8 H8
  walk_at "bj"
  walk_at "bj"
  walk_at "bj"
  refine setI G' F9 M9 i9 e9 (sa59 _) (po59 _) (ti59_next_z _) (hdi59 _) rfl (fun _ _ => rfl) rfl (Nat.le_of_ble_eq_true rfl) ?_
  intro h10 t10 kk10 L10 F10 M10 J10 e10
  have i10 := J10 _ i9 (Nat.ne_of_gt l2)
  have K10 : ∀ q ∈ N, q ∈ L10 := fun q hq => J10 _ (K9 q hq) (hpd q hq)
  have H10 : HasP w.params L10 pa p := H.sub K10
  clear F9 M9 J10 K9 i9 e9 H9
  walk_at "bj"
  walk_at "bj"
  walk_at "bj"
  refine setI G' F10 M10 i10 e10 (sa59 _) (po59 _) (ti59_steiner _) (hdi59 _) rfl (fun _ _ => rfl) rfl (Nat.le_of_ble_eq_true rfl) ?_
  intro h11 t11 kk11 L11 F11 M11 J11 e11
  have i11 := J11 _ i10 (Nat.ne_of_gt l2)
  have K11 : ∀ q ∈ N, q ∈ L11 := fun q hq => J11 _ (K10 q hq) (hpd q hq)
  have H11 : HasP w.params L11 pa p := H.sub K11
  clear F10 M10 J11 K10 i10 e10 H10
  refine s_nil (lv F11 M11 fun F N => ⟨rfl, k _ _ x ⟨dx, fun j => [kk2, kk3, kk4, kk5, kk6, kk7, kk8, kk9, kk10, kk11].getD j 0, i, it, pa, p.x, p.xt, p.y, p.yt, none, none, uz, none, none⟩ F (News.sub N ?_) l1 l2 rfl rfl rfl rfl rfl rfl rfl rfl⟩)
  intro q hq
  rcases List.mem_cons.mp hq with rfl | hq
  · exact i11
  rcases List.mem_cons.mp hq with rfl | hq
  · exact e11
  · exact K11 _ hq
end
end

section
/-! more steps: tests, ints, identity, calls -/
section
variable {prog : Program} {w : World} {A : Around} {env : Env} {h₀ : Heap} {s₀ : Shared} {h : Heap} {t : Nat} {m : Str → Option Value} {N : Led} {r : Nat} {pos pos' : Pos} {S : Addr → Prop} {nd : Addr → Nd}

theorem if_t {a b : Prop} (k : a) : if true = true then a else b := k
theorem if_nt {a b : Prop} (k : b) : if (!true) = true then a else b := k
theorem if_nf {a b : Prop} (k : a) : if (!false) = true then a else b := k
theorem if_f {a b : Prop} (k : b) : if false = true then a else b := k

theorem t_cmp {l rr : Expr} {op : CmpOp} {whole : Sem Value} {Q : Bool → Shared → Prop}
    (k : wpAny (model prog w) A (eval l env) (fun a σ => wpAny (model prog w) A (eval rr env) (fun b σ₁ => wpAny (model prog w) A (compareOp op a b) (fun c σ₂ => wpAny (model prog w) A (truthy c) Q NE σ₂) NE σ₁) NE σ) NE (stt s₀ h t))
    (hm : behindInMarks op rr = false) : wpAny (model prog w) A (isTrue (.Compare l [op] [rr] pos) env whole) Q NE (stt s₀ h t) := wpAny_isTrue_Compare1 k hm
theorem e_cmp {l rr : Expr} {op : CmpOp} {Q : Value → Shared → Prop}
    (k : wpAny (model prog w) A (eval l env) (fun a σ => wpAny (model prog w) A (eval rr env) (fun b σ₁ => wpAny (model prog w) A (compareOp op a b) Q NE σ₁) NE σ) NE (stt s₀ h t))
    (hm : behindInMarks op rr = false) : wpAny (model prog w) A (eval (.Compare l [op] [rr] pos) env) Q NE (stt s₀ h t) := wpAny_Compare1 k hm
theorem e_bin {l rr : Expr} {op : Operator} {Q : Value → Shared → Prop}
    (k : wpAny (model prog w) A (eval l env) (fun a σ => wpAny (model prog w) A (eval rr env) (fun b σ₁ => wpAny (model prog w) A (binaryOp op a b) Q NE σ₁) NE σ) NE (stt s₀ h t)) :
    wpAny (model prog w) A (eval (.BinOp l op rr pos) env) Q NE (stt s₀ h t) := wpAny_BinOp k
theorem t_not {x : Expr} {whole : Sem Value} {Q : Bool → Shared → Prop} (k : wpAny (model prog w) A (isTrue x env (eval x env)) (fun c σ => Q (!c) σ) NE (stt s₀ h t)) :
    wpAny (model prog w) A (isTrue (.UnaryOp .Not x pos) env whole) Q NE (stt s₀ h t) := isTrue_not k
theorem t_and {x : Expr} {rest : List Expr} {whole : Sem Value} {Q : Bool → Shared → Prop}
    (k : wpAny (model prog w) A (isTrue x env (eval x env)) (fun c σ => if c = true then wpAny (model prog w) A (isTrue (.BoolOp .And rest pos) env whole) Q NE σ else Q false σ) NE (stt s₀ h t)) :
    wpAny (model prog w) A (isTrue (.BoolOp .And (x :: rest) pos) env whole) Q NE (stt s₀ h t) := isTrue_and k
theorem t_or {x : Expr} {rest : List Expr} {whole : Sem Value} {Q : Bool → Shared → Prop}
    (k : wpAny (model prog w) A (isTrue x env (eval x env)) (fun c σ => if c = true then Q true σ else wpAny (model prog w) A (isTrue (.BoolOp .Or rest pos) env whole) Q NE σ) NE (stt s₀ h t)) :
    wpAny (model prog w) A (isTrue (.BoolOp .Or (x :: rest) pos) env whole) Q NE (stt s₀ h t) := isTrue_or k
theorem t_andN {whole : Sem Value} {Q : Bool → Shared → Prop} (k : Q true (stt s₀ h t)) : wpAny (model prog w) A (isTrue (.BoolOp .And [] pos) env whole) Q NE (stt s₀ h t) := isTrue_and_nil k
theorem t_orN {whole : Sem Value} {Q : Bool → Shared → Prop} (k : Q false (stt s₀ h t)) : wpAny (model prog w) A (isTrue (.BoolOp .Or [] pos) env whole) Q NE (stt s₀ h t) := isTrue_or_nil k
theorem e_ifx {test body orelse : Expr} {Q : Value → Shared → Prop}
    (k : wpAny (model prog w) A (isTrue test env (eval test env)) (fun c σ => if c = true then wpAny (model prog w) A (eval body env) Q NE σ else wpAny (model prog w) A (eval orelse env) Q NE σ) NE (stt s₀ h t)) :
    wpAny (model prog w) A (eval (.IfExp test body orelse pos) env) Q NE (stt s₀ h t) := IfExp_ k
theorem e_and {e₁ e₂ : Expr} {rest : List Expr} {Q : Value → Shared → Prop}
    (k : wpAny (model prog w) A (eval e₁ env) (fun v σ => wpAny (model prog w) A (truthy v) (fun c σ₁ => if c = true then wpAny (model prog w) A (eval (.BoolOp .And (e₂ :: rest) pos) env) Q NE σ₁ else Q v σ₁) NE σ) NE (stt s₀ h t)) :
    wpAny (model prog w) A (eval (.BoolOp .And (e₁ :: e₂ :: rest) pos) env) Q NE (stt s₀ h t) := BoolOp_and k
theorem e_and1 {e₁ : Expr} {op : BoolOp} {Q : Value → Shared → Prop} (k : wpAny (model prog w) A (eval e₁ env) Q NE (stt s₀ h t)) :
    wpAny (model prog w) A (eval (.BoolOp op [e₁] pos) env) Q NE (stt s₀ h t) := BoolOp_one k
theorem e_un {x : Expr} {op : UnaryOp} {Q : Value → Shared → Prop} (k : wpAny (model prog w) A (eval x env) (fun v σ => wpAny (model prog w) A (unaryOp op v) Q NE σ) NE (stt s₀ h t)) :
    wpAny (model prog w) A (eval (.UnaryOp op x pos) env) Q NE (stt s₀ h t) := UnaryOp_ k
theorem tb_bool {b : Bool} {Q : Bool → Shared → Prop} (k : Q b (stt s₀ h t)) : wpAny (model prog w) A (truthy (.bool b)) Q NE (stt s₀ h t) := wpAny_truthy_bool k
theorem tb_none {Q : Bool → Shared → Prop} (k : Q false (stt s₀ h t)) : wpAny (model prog w) A (truthy .none) Q NE (stt s₀ h t) := truthy_none k

section
variable {a b : Int} {ta tb : Tok} {Q : Value → Shared → Prop}
theorem o_add (k : ∀ u t', Q (.int (a + b) u) (stt s₀ h t')) : wpAny (model prog w) A (binaryOp .Add (.int a ta) (.int b tb)) Q NE (stt s₀ h t) := add_int (s := stt s₀ h t) (k _ _)
theorem o_iadd (k : ∀ u t', Q (.int (a + b) u) (stt s₀ h t')) : wpAny (model prog w) A (inplaceOp .Add (.int a ta) (.int b tb)) Q NE (stt s₀ h t) := iadd_int (s := stt s₀ h t) (k _ _)
theorem o_isub (k : ∀ u t', Q (.int (a - b) u) (stt s₀ h t')) : wpAny (model prog w) A (inplaceOp .Sub (.int a ta) (.int b tb)) Q NE (stt s₀ h t) := isub_int (s := stt s₀ h t) (k _ _)
theorem o_sub (k : ∀ u t', Q (.int (a - b) u) (stt s₀ h t')) : wpAny (model prog w) A (binaryOp .Sub (.int a ta) (.int b tb)) Q NE (stt s₀ h t) := sub_int (s := stt s₀ h t) (k _ _)
theorem o_mod (hb : b ≠ 0) (k : ∀ u t', Q (.int (a.fmod b) u) (stt s₀ h t')) : wpAny (model prog w) A (binaryOp .Mod (.int a ta) (.int b tb)) Q NE (stt s₀ h t) := mod_int (s := stt s₀ h t) hb (k _ _)
theorem o_mul (hm : IntMulOk a b) (k : ∀ u t', Q (.int (a * b) u) (stt s₀ h t')) : wpAny (model prog w) A (binaryOp .Mult (.int a ta) (.int b tb)) Q NE (stt s₀ h t) := mul_int (s := stt s₀ h t) (k _ _) hm
theorem o_neg (k : ∀ u t', Q (.int (-a) u) (stt s₀ h t')) : wpAny (model prog w) A (unaryOp .USub (.int a ta)) Q NE (stt s₀ h t) := neg_int (s := stt s₀ h t) (k _ _)
theorem c_eq (k : Q (.bool (a == b)) (stt s₀ h t)) : wpAny (model prog w) A (compareOp .Eq (.int a ta) (.int b tb)) Q NE (stt s₀ h t) := eq_int (s := stt s₀ h t) k
theorem c_ne (k : Q (.bool (a != b)) (stt s₀ h t)) : wpAny (model prog w) A (compareOp .NotEq (.int a ta) (.int b tb)) Q NE (stt s₀ h t) := ne_int (s := stt s₀ h t) k
theorem c_lt (k : Q (.bool (decide (a < b))) (stt s₀ h t)) : wpAny (model prog w) A (compareOp .Lt (.int a ta) (.int b tb)) Q NE (stt s₀ h t) := lt_int (s := stt s₀ h t) k
theorem c_gt (k : Q (.bool (decide (b < a))) (stt s₀ h t)) : wpAny (model prog w) A (compareOp .Gt (.int a ta) (.int b tb)) Q NE (stt s₀ h t) := gt_int (s := stt s₀ h t) k
theorem c_le (k : Q (.bool (decide (a ≤ b))) (stt s₀ h t)) : wpAny (model prog w) A (compareOp .LtE (.int a ta) (.int b tb)) Q NE (stt s₀ h t) := le_int (s := stt s₀ h t) k
theorem c_ge (k : Q (.bool (decide (b ≤ a))) (stt s₀ h t)) : wpAny (model prog w) A (compareOp .GtE (.int a ta) (.int b tb)) Q NE (stt s₀ h t) := ge_int (s := stt s₀ h t) k
theorem c_isB {c d : Bool} (k : Q (.bool (c == d)) (stt s₀ h t)) : wpAny (model prog w) A (compareOp .Is (.bool c) (.bool d)) Q NE (stt s₀ h t) := is_bool k
theorem c_isnB {c d : Bool} (k : Q (.bool (c != d)) (stt s₀ h t)) : wpAny (model prog w) A (compareOp .IsNot (.bool c) (.bool d)) Q NE (stt s₀ h t) := isnot_bool k
theorem c_eqB {c d : Bool} (k : Q (.bool (c == d)) (stt s₀ h t)) : wpAny (model prog w) A (compareOp .Eq (.bool c) (.bool d)) Q NE (stt s₀ h t) := eq_bool k
theorem c_neB {c d : Bool} (k : Q (.bool (c != d)) (stt s₀ h t)) : wpAny (model prog w) A (compareOp .NotEq (.bool c) (.bool d)) Q NE (stt s₀ h t) := ne_bool k
end
section
variable {x y : Addr} {ox oy : Obj} {Q : Value → Shared → Prop}
theorem c_isRN (k : Q (.bool false) (stt s₀ h t)) : wpAny (model prog w) A (compareOp .Is (.ref x) .none) Q NE (stt s₀ h t) := is_ref_none k
theorem c_isNN (k : Q (.bool true) (stt s₀ h t)) : wpAny (model prog w) A (compareOp .Is .none .none) Q NE (stt s₀ h t) := is_none_none k
theorem c_isnRN (k : Q (.bool true) (stt s₀ h t)) : wpAny (model prog w) A (compareOp .IsNot (.ref x) .none) Q NE (stt s₀ h t) := isnot_ref_none k
theorem c_isnNR (k : Q (.bool true) (stt s₀ h t)) : wpAny (model prog w) A (compareOp .IsNot .none (.ref x)) Q NE (stt s₀ h t) := wpAny_isNot_other rfl (by intro e; cases e) k
theorem c_isnNN (k : Q (.bool false) (stt s₀ h t)) : wpAny (model prog w) A (compareOp .IsNot .none .none) Q NE (stt s₀ h t) := isnot_none_none k
theorem c_isnRS (k : Q (.bool false) (stt s₀ h t)) : wpAny (model prog w) A (compareOp .IsNot (.ref x) (.ref x)) Q NE (stt s₀ h t) := wpAny_isNot_ref_self k
theorem c_isRS (k : Q (.bool true) (stt s₀ h t)) : wpAny (model prog w) A (compareOp .Is (.ref x) (.ref x)) Q NE (stt s₀ h t) := wpAny_is_ref_self k
theorem c_isR (N' : News h₀ env.locals h N) (hx : (x, ox) ∈ N) (hy : (y, oy) ∈ N) (ht : ox.cls ≠ .type "tuple") (k : Q (.bool (x == y)) (stt s₀ h t)) : wpAny (model prog w) A (compareOp .Is (.ref x) (.ref y)) Q NE (stt s₀ h t) := by
  by_cases e : x = y
  · subst e; exact wpAny_is_ref_self (by rw [beq_self_eq_true] at k; exact k)
  · exact wpAny_is_ref_other e (N' _ hx).1 (N' _ hy).1 ht (by rw [beq_eq_false_iff_ne.mpr e] at k; exact k)
theorem c_isnR (N' : News h₀ env.locals h N) (hx : (x, ox) ∈ N) (hy : (y, oy) ∈ N) (ht : ox.cls ≠ .type "tuple") (k : Q (.bool (x != y)) (stt s₀ h t)) : wpAny (model prog w) A (compareOp .IsNot (.ref x) (.ref y)) Q NE (stt s₀ h t) := by
  by_cases e : x = y
  · subst e; exact wpAny_isNot_ref_self (by rw [bne_self_eq_false] at k; exact k)
  · exact wpAny_isNot_ref_other e (N' _ hx).1 (N' _ hy).1 ht (by rw [bne_iff_ne.mpr e] at k; exact k)
end

/-! calls -/
theorem e_callG {x : Str} {xp : Pos} {e : Expr} {rest : List Expr} {f : Addr} {Q : Value → Shared → Prop} (G : Gd w A env h₀ r) (F : Fr h₀ env.locals h m) (hx : env.scope.names.lookup x = some .globalImplicit) (hdb : (x == ("__debug__" : Str)) = false)
    (eg : nsIn (bjT.heap_39 w.params) mainGlobals x = some (some (.ref f))) (hk : keepIn (bjT.heap_39 w.params) (.ref f) = true)
    (k : wpAny (model prog w) A (spliced (backTo pos (starEach (e :: rest) env))) (fun vs σ => (bjT.heap_39 w.params).In σ.heap ∧ wpAny (model prog w) A (call (.ref f) vs []) Q NE σ) NE (stt s₀ h t))
    (hc : eval (.Call (.Name x xp) (e :: rest) [] pos) env = (do callWith pos (← eval (.Name x xp) env) [] (backTo pos (starEach (e :: rest) env)) (backToKw pos (keywordEach [] env))))
    (he : starEach (e :: rest) env = (false, eval e env) :: starEach rest env) (hplain : (backTo pos (starEach rest env)).any (·.1) = false) :
    wpAny (model prog w) A (eval (.Call (.Name x xp) (e :: rest) [] pos) env) Q NE (stt s₀ h t) :=
  Call_ (nameG (s := stt s₀ h t) G F hx hdb eg (callWith_K G.X hk k he hplain)) hc
theorem a_cons {e : Expr} {rest : List Expr} {Q : List Value → Shared → Prop}
    (k : wpAny (model prog w) A (eval e env) (fun v σ => wpAny (model prog w) A (spliced (backTo pos (starEach rest env))) (fun vs σ₁ => Q (v :: vs) σ₁) NE σ) NE (stt s₀ h t))
    (he : starEach (e :: rest) env = (false, eval e env) :: starEach rest env) : wpAny (model prog w) A (spliced (backTo pos (starEach (e :: rest) env))) Q NE (stt s₀ h t) := spliced_more k he
theorem a_nil {Q : List Value → Shared → Prop} (k : Q [] (stt s₀ h t)) : wpAny (model prog w) A (spliced (backTo pos (starEach [] env))) Q NE (stt s₀ h t) := spliced_none k
theorem a_in {P : Prop} (G : Gd w A env h₀ r) (F : Fr h₀ env.locals h m) (k : P) : (bjT.heap_39 w.params).In (stt s₀ h t).heap ∧ P := ⟨G.X.keeps F.keep, k⟩
theorem e_callB {x : Str} {xp : Pos} {e : Expr} {rest : List Expr} {id : String} {Q : Value → Shared → Prop} (G : Gd w A env h₀ r) (F : Fr h₀ env.locals h m) (hx : env.scope.names.lookup x = some .globalImplicit) (hdb : (x == ("__debug__" : Str)) = false)
    (eg : nsIn (bjT.heap_39 w.params) mainGlobals x = some none) (hv : bootBuiltins x = some (.builtin id)) (hn : x ≠ "__name__")
    (k : wpAny (model prog w) A (spliced (backTo pos (starEach (e :: rest) env))) (fun vs σ => wpAny (model prog w) A (call (.builtin id) vs []) Q NE σ) NE (stt s₀ h t))
    (hc : eval (.Call (.Name x xp) (e :: rest) [] pos) env = (do callWith pos (← eval (.Name x xp) env) [] (backTo pos (starEach (e :: rest) env)) (backToKw pos (keywordEach [] env))))
    (he : starEach (e :: rest) env = (false, eval e env) :: starEach rest env) (hplain : (backTo pos (starEach rest env)).any (·.1) = false) :
    wpAny (model prog w) A (eval (.Call (.Name x xp) (e :: rest) [] pos) env) Q NE (stt s₀ h t) :=
  Call_ (nameB (s := stt s₀ h t) G F hx hdb eg hv hn (PyProof.Rows.callWith_builtin1 k he hplain)) hc
theorem e_callT {x : Str} {xp : Pos} {e : Expr} {rest : List Expr} {id : String} {Q : Value → Shared → Prop} (G : Gd w A env h₀ r) (F : Fr h₀ env.locals h m) (hx : env.scope.names.lookup x = some .globalImplicit) (hdb : (x == ("__debug__" : Str)) = false)
    (eg : nsIn (bjT.heap_39 w.params) mainGlobals x = some none) (hv : bootBuiltins x = some (.type id)) (hn : x ≠ "__name__")
    (k : wpAny (model prog w) A (spliced (backTo pos (starEach (e :: rest) env))) (fun vs σ => wpAny (model prog w) A (call (.type id) vs []) Q NE σ) NE (stt s₀ h t))
    (hc : eval (.Call (.Name x xp) (e :: rest) [] pos) env = (do callWith pos (← eval (.Name x xp) env) [] (backTo pos (starEach (e :: rest) env)) (backToKw pos (keywordEach [] env))))
    (he : starEach (e :: rest) env = (false, eval e env) :: starEach rest env) (hplain : (backTo pos (starEach rest env)).any (·.1) = false) :
    wpAny (model prog w) A (eval (.Call (.Name x xp) (e :: rest) [] pos) env) Q NE (stt s₀ h t) :=
  Call_ (nameB (s := stt s₀ h t) G F hx hdb eg hv hn (PyProof.Rows.callWith_type1 k he hplain)) hc

/-! a table and a new node -/
def plus (S : Addr → Prop) (p : Addr) : Addr → Prop := fun a => a = p ∨ S a
theorem Tab.add {P : Params} {p : Addr} {n : Nd} (T : Tab P N S nd) (l1 : ∀ q ∈ N, q.1 < n.d) (l2 : n.d < p) :
    Tab P ((p, instObj 59 n.d) :: (n.d, nodeD P n) :: N) (plus S p) (upd nd p n) := by
  have ne : ∀ a, S a → a ≠ p := fun a ha e => by
    have h1 := l1 _ (T.has a ha).1
    dsimp only at h1
    exact absurd (e ▸ h1 : p < n.d) (Nat.not_lt.mpr (Nat.le_of_lt l2))
  have dl : ∀ a, S a → (nd a).d < n.d := fun a ha => l1 _ (T.has a ha).2
  refine ⟨?_, ?_⟩
  · rintro a (rfl | ha)
    · rw [upd_self]; exact ⟨.head _, .tail _ (.head _)⟩
    · rw [upd_ne (ne a ha)]
      exact ⟨.tail _ (.tail _ (T.has a ha).1), .tail _ (.tail _ (T.has a ha).2)⟩
  · rintro a b (rfl | ha) (rfl | hb) e
    · rfl
    · rw [upd_self, upd_ne (ne b hb)] at e
      exact absurd (dl b hb) (by rw [← e]; exact Nat.lt_irrefl _)
    · rw [upd_self, upd_ne (ne a ha)] at e
      exact absurd (dl a ha) (by rw [e]; exact Nat.lt_irrefl _)
    · rw [upd_ne (ne a ha), upd_ne (ne b hb)] at e
      exact T.inj a b ha hb e
end
end

section
local macro_rules | `(tactic| walk_at "bj_gn") => `(tactic| first | with_reducible exact gn_len _ | with_reducible exact gn_range _ | with_reducible exact gn_list _ | with_reducible exact gn_reversed _)
local macro_rules | `(tactic| walk_at "bj_bt") => `(tactic| first | with_reducible exact PySem.boot_len | with_reducible exact PyProof.Rows.boot_range | with_reducible exact PyProof.Rows.boot_list | with_reducible exact PyProof.Rows.boot_reversed)
local macro_rules | `(tactic| walk_at "bj_gl") => `(tactic| first | with_reducible exact gl_31 _ | with_reducible exact gl_59 _ | with_reducible exact gl_70 _ | with_reducible exact gl_77 _ | with_reducible exact gl_84 _ | with_reducible exact gl_91 _ | with_reducible exact gl_92 _ | with_reducible exact gl_99 _ | with_reducible exact gl_106 _ | with_reducible exact gl_113 _ | with_reducible exact gl_120 _ | with_reducible exact gl_127 _ | with_reducible exact gl_134 _)
local macro_rules | `(tactic| walk_at "bj_kp") => `(tactic| first | with_reducible exact kp_31 _ | with_reducible exact kp_59 _ | with_reducible exact kp_70 _ | with_reducible exact kp_77 _ | with_reducible exact kp_84 _ | with_reducible exact kp_91 _ | with_reducible exact kp_99 _ | with_reducible exact kp_106 _ | with_reducible exact kp_113 _ | with_reducible exact kp_120 _ | with_reducible exact kp_127 _ | with_reducible exact kp_134 _)
local macro_rules | `(tactic| walk_at "bj_m") => `(tactic| first | (with_reducible assumption) | (with_reducible exact m_here) | ((with_reducible refine m_there ?hmt ?_); (case hmt => decide); walk_at "bj_m") | rfl)
local macro_rules | `(tactic| walk_at "bj_a") => `(tactic| (with_reducible assumption))
local macro_rules | `(tactic| walk_at "bj") => `(tactic| first
  | (with_reducible refine s_nilR ?_)
  | ((with_reducible refine' s_assignAttr ?_ ?hs); (case hs => rfl))
  | ((with_reducible refine' s_assign ?_ ?hs); (case hs => rfl))
  | (with_reducible refine' s_if ?_)
  | (with_reducible refine' s_ret ?_)
  | (with_reducible refine' s_aug ?_)
  | ((with_reducible refine' e_L ?G ?F ?hx ?hv ?_ ?hdb); (case G => walk_at "bj_a"); (case F => walk_at "bj_a"); (case hx => rfl); (case hdb => rfl); (case hv => walk_at "bj_m"))
  | ((with_reducible refine' l_L ?G ?F ?hx ?hv ?_); (case G => walk_at "bj_a"); (case F => walk_at "bj_a"); (case hx => rfl); (case hv => walk_at "bj_m"))
  | ((with_reducible refine' e_st ?G ?F ?N ?hx ?_); (case G => walk_at "bj_a"); (case F => walk_at "bj_a"); (case N => walk_at "bj_a"); (case hx => rfl); intro h' t' F' N')
  | ((with_reducible refine' e_attr ?_ ?he); (case he => with_unfolding_all rfl))
  | ((with_reducible refine' t_cmp ?_ ?hm); (case hm => with_unfolding_all rfl))
  | ((with_reducible refine' e_cmp ?_ ?hm); (case hm => with_unfolding_all rfl))
  | (with_reducible refine' e_bin ?_)
  | (with_reducible refine' t_not ?_)
  | (with_reducible refine' t_and ?_)
  | (with_reducible refine' t_or ?_)
  | (with_reducible refine' t_andN ?_)
  | (with_reducible refine' t_orN ?_)
  | (with_reducible refine' e_ifx ?_)
  | (with_reducible refine' e_and ?_)
  | (with_reducible refine' e_and1 ?_)
  | (with_reducible refine' e_un ?_)
  | (with_reducible refine' tb_bool ?_)
  | (with_reducible refine' tb_none ?_)
  | ((with_reducible refine' o_add ?_); intro u' t')
  | ((with_reducible refine' o_iadd ?_); intro u' t')
  | ((with_reducible refine' o_isub ?_); intro u' t')
  | ((with_reducible refine' o_sub ?_); intro u' t')
  | ((with_reducible refine' o_mod ?_ ?_); (decide); intro u' t')
  | ((with_reducible refine' o_neg ?_); intro u' t')
  | (with_reducible refine' c_eq ?_)
  | (with_reducible refine' c_ne ?_)
  | (with_reducible refine' c_lt ?_)
  | (with_reducible refine' c_gt ?_)
  | (with_reducible refine' c_le ?_)
  | (with_reducible refine' c_ge ?_)
  | (with_reducible refine' c_isB ?_)
  | (with_reducible refine' c_isnB ?_)
  | (with_reducible refine' c_eqB ?_)
  | (with_reducible refine' c_neB ?_)
  | (with_reducible refine' c_isRN ?_)
  | (with_reducible refine' c_isNN ?_)
  | (with_reducible refine' c_isnRN ?_)
  | (with_reducible refine' c_isnNR ?_)
  | (with_reducible refine' c_isnNN ?_)
  | (with_reducible refine' c_isnRS ?_)
  | (with_reducible refine' c_isRS ?_)
  | (with_reducible refine' if_t ?_)
  | (with_reducible refine' if_f ?_)
  | (with_reducible refine' if_nt ?_)
  | (with_reducible refine' if_nf ?_)
  | ((with_reducible refine' e_callG ?G ?F ?hx ?hdb ?eg ?hk ?_ ?hc ?he ?hp); (case G => walk_at "bj_a"); (case F => walk_at "bj_a"); (case hx => rfl); (case hdb => rfl); (case eg => walk_at "bj_gl"); (case hk => walk_at "bj_kp"); (case hc => rfl); (case he => rfl); (case hp => rfl))
  | ((with_reducible refine' e_callB ?G ?F ?hx ?hdb ?eg ?hv ?hn ?_ ?hc ?he ?hp); (case G => walk_at "bj_a"); (case F => walk_at "bj_a"); (case hx => rfl); (case hdb => rfl); (case eg => walk_at "bj_gn"); (case hv => walk_at "bj_bt"); (case hn => decide); (case hc => rfl); (case he => rfl); (case hp => rfl))
  | ((with_reducible refine' e_callT ?G ?F ?hx ?hdb ?eg ?hv ?hn ?_ ?hc ?he ?hp); (case G => walk_at "bj_a"); (case F => walk_at "bj_a"); (case hx => rfl); (case hdb => rfl); (case eg => walk_at "bj_gn"); (case hv => walk_at "bj_bt"); (case hn => decide); (case hc => rfl); (case he => rfl); (case hp => rfl))
  | ((with_reducible refine' o_len ?N ?hm ?hf ?_); (case N => walk_at "bj_a"); (case hm => walk_at "bj_a"); (case hf => walk_at "bj_a"); intro u' t')
  | ((with_reducible refine' o_range ?F ?N ?_); (case F => walk_at "bj_a"); (case N => walk_at "bj_a"); intro rg' h' t' a' b' c' R' F' N')
  | (with_reducible refine' e_sub ?_)
  | ((with_reducible refine' s_for ?G ?hx ?_ ?hs); (case G => walk_at "bj_a"); (case hx => rfl); (case hs => intro _; rfl))
  | ((with_reducible refine' a_cons ?_ ?he); (case he => rfl))
  | (with_reducible refine' a_nil ?_)
  | ((with_reducible refine' a_in ?G ?F ?_); (case G => walk_at "bj_a"); (case F => walk_at "bj_a"))
  | ((with_reducible refine' t_plain ?_ ?he); (case he => rfl))
  | (with_reducible refine' e_none ?_)
  | (with_reducible refine' e_bool ?_)
  | ((with_reducible refine' e_int ?_); intro u' t'))
local macro_rules | `(tactic| walk_at "bj_g5") => `(tactic| ((case G => walk_at "bj_a"); (case F => walk_at "bj_a"); (case N => walk_at "bj_a"); (case T => walk_at "bj_a"); (case hS => walk_at "bj_a")))
local macro_rules | `(tactic| walk_at "bj_get") => `(tactic| first
  | ((with_reducible refine' tg_next ?G ?F ?N ?T ?hS ?_); (case G => walk_at "bj_a"); (case F => walk_at "bj_a"); (case N => walk_at "bj_a"); (case T => walk_at "bj_a"); (case hS => walk_at "bj_a"); intro t')
  | ((with_reducible refine' tg_prev ?G ?F ?N ?T ?hS ?_); (case G => walk_at "bj_a"); (case F => walk_at "bj_a"); (case N => walk_at "bj_a"); (case T => walk_at "bj_a"); (case hS => walk_at "bj_a"); intro t')
  | ((with_reducible refine' tg_pz ?G ?F ?N ?T ?hS ?_); (case G => walk_at "bj_a"); (case F => walk_at "bj_a"); (case N => walk_at "bj_a"); (case T => walk_at "bj_a"); (case hS => walk_at "bj_a"); intro t')
  | ((with_reducible refine' tg_nz ?G ?F ?N ?T ?hS ?_); (case G => walk_at "bj_a"); (case F => walk_at "bj_a"); (case N => walk_at "bj_a"); (case T => walk_at "bj_a"); (case hS => walk_at "bj_a"); intro t')
  | ((with_reducible refine' tg_i ?G ?F ?N ?T ?hS ?_); (case G => walk_at "bj_a"); (case F => walk_at "bj_a"); (case N => walk_at "bj_a"); (case T => walk_at "bj_a"); (case hS => walk_at "bj_a"); intro t')
  | ((with_reducible refine' tg_point ?G ?F ?N ?T ?hS ?_); (case G => walk_at "bj_a"); (case F => walk_at "bj_a"); (case N => walk_at "bj_a"); (case T => walk_at "bj_a"); (case hS => walk_at "bj_a"); intro t')
  | ((with_reducible refine' tg_x ?G ?F ?N ?T ?hS ?_); (case G => walk_at "bj_a"); (case F => walk_at "bj_a"); (case N => walk_at "bj_a"); (case T => walk_at "bj_a"); (case hS => walk_at "bj_a"); intro t')
  | ((with_reducible refine' tg_y ?G ?F ?N ?T ?hS ?_); (case G => walk_at "bj_a"); (case F => walk_at "bj_a"); (case N => walk_at "bj_a"); (case T => walk_at "bj_a"); (case hS => walk_at "bj_a"); intro t')
  | ((with_reducible refine' tg_z ?G ?F ?N ?T ?hS ?_); (case G => walk_at "bj_a"); (case F => walk_at "bj_a"); (case N => walk_at "bj_a"); (case T => walk_at "bj_a"); (case hS => walk_at "bj_a"); intro t')
  | ((with_reducible refine' tg_st ?G ?F ?N ?T ?hS ?_); (case G => walk_at "bj_a"); (case F => walk_at "bj_a"); (case N => walk_at "bj_a"); (case T => walk_at "bj_a"); (case hS => walk_at "bj_a"); intro t'))
local macro_rules | `(tactic| walk_at "bj_set") => `(tactic| (first
  | (with_reducible refine' ts_prev ?G ?F ?N ?T ?hS ?_)
  | (with_reducible refine' ts_next ?G ?F ?N ?T ?hS ?_)
  | (with_reducible refine' ts_pz ?G ?F ?N ?T ?hS ?_)
  | (with_reducible refine' ts_nz ?G ?F ?N ?T ?hS ?_)
  | (with_reducible refine' ts_prevR ?G ?F ?N ?T ?hS ?_)
  | (with_reducible refine' ts_nextR ?G ?F ?N ?T ?hS ?_)
  | (with_reducible refine' ts_pzR ?G ?F ?N ?T ?hS ?_)
  | (with_reducible refine' ts_nzR ?G ?F ?N ?T ?hS ?_)))
local macro_rules | `(tactic| walk_at "bj_il") => `(tactic| ((with_reducible refine' i_list ?N ?hm ?hi ?hx ?hj ?k ?hs); (case N => walk_at "bj_a"); (case hm => walk_at "bj_a"); (case hs => with_unfolding_all rfl)))
local macro_rules | `(tactic| walk_at "bj_it") => `(tactic| ((with_reducible refine' i_tup ?N ?hm ?hi ?hj ?hx ?k ?hs); (case N => walk_at "bj_a"); (case hm => walk_at "bj_a"); (case hs => with_unfolding_all rfl)))
section
variable {prog : Program} {w : World} {A : Around} {env : Env} {h₀ : Heap} {s₀ : Shared} {h : Heap} {t : Nat} {m : Str → Option Value} {N : Led} {r : Nat} {S : Addr → Prop} {nd : Addr → Nd}

def ins1 (nd : Addr → Nd) (p r : Addr) : Addr → Nd := upd nd p ((nd p).s_next (some r))
def ins2 (nd : Addr → Nd) (p q : Addr) : Addr → Nd := upd nd p ((nd p).s_prev (some q))
def insN (nd : Addr → Nd) (p q c : Addr) (n : Nd) : Addr → Nd := ins1 (ins2 (ins2 (ins1 (upd nd p n) p c) p q) c p) q p

theorem ins1_next {nd : Addr → Nd} {p r a : Addr} (h : a ≠ p) : ins1 nd p r a = nd a := upd_ne h
theorem ins2_next {nd : Addr → Nd} {p r a : Addr} : (ins2 nd p r a).next = (nd a).next := by
  unfold ins2 upd
  split
  · rename_i e; subst e; rfl
  · rfl

theorem ins_call {Q : Value → Shared → Prop} {i : Int} {it : Tok} {pa q c : Addr} {pp : Pt}
    (G : Gd w A env h₀ (r + 3)) (F : Fr h₀ env.locals h m) (N' : News h₀ env.locals h N) (T : Tab w.params N S nd) (H : HasP w.params N pa pp) (hq : S q) (ec : (nd q).next = some c) (hc : S c)
    (k : ∀ h' t' N₁ p n, Fr h₀ env.locals h' m → News h₀ env.locals h' N₁ → Keep w.params N N₁ → (∀ x ∈ N, x.1 < p) → n.i = i → n.pt = pa → n.x = pp.x → n.y = pp.y → n.pz = none → n.nz = none →
      Tab w.params N₁ (plus S p) (insN nd p q c n) → Q (.ref p) (stt s₀ h' t')) :
    wpAny (model prog w) A (call (.ref 84) [.int i it, .ref pa, .ref q] []) Q NE (stt s₀ h t) := by
  refine enter (binds := [("i", .int i it), ("point", .ref pa), ("last", .ref q)]) G F N' (look84 _) (code84 _) rfl rfl rfl rfl rfl rfl fun g L' h₁ t₁ G' F' N₁ => ?_
  unfold bd84 bdS84
  dsimp only
  repeat walk_at "bj"
  refine mkNode G' F' N₁ H ?_
  clear F' N₁
  intro h₂ t₂ p n F₂ N₂ l1 l2 e1 e2 e3 e4 e5 e6 e7 e8
  have T₂ := T.add l1 l2
  have K₂ : Keep w.params N ((p, instObj 59 n.d) :: (n.d, nodeD w.params n) :: N) := Keep.of_sub fun q hq => .tail _ (.tail _ hq)
  have hlt : ∀ x ∈ N, x.1 < p := fun x hx => Nat.lt_trans (l1 x hx) l2
  have hqp : q ≠ p := Nat.ne_of_lt (hlt _ (T.has q hq).1)
  have hp' : plus S p p := .inl rfl
  have hq' : plus S p q := .inr hq
  have hc' : plus S p c := .inr hc
  have en0 : (upd nd p n q).next = some c := by rw [upd_ne hqp]; exact ec
  have k' := fun h' t' N₁ F N K => k h' t' N₁ p n F N K hlt e1 e2 e3 e4 e7 e8
  unfold insN at k'
  clear k hlt l1 l2 e1 e2 e3 e4 e5 e6 e7 e8 T H
  generalize plus S p = S' at T₂ hp' hq' hc' k'
  generalize (p, instObj 59 n.d) :: (n.d, nodeD w.params n) :: N = M₂ at N₂ T₂ K₂
  generalize upd nd p n = nd₂ at T₂ en0 k'
  walk_at "bj"
  clear F₂ N₂
  rename_i h₃ t₃ F₃ N₃
  repeat walk_at "bj"
  walk_at "bj_get"
  repeat walk_at "bj"
  rw [en0]
  (with_reducible refine' ts_next ?G ?F ?N ?T ?hS ?_); walk_at "bj_g5"
  clear F₃ N₃
  intro h₄ t₄ M₄ F₄ N₄ K₄ T₄
  replace T₄ : Tab w.params M₄ S' (ins1 nd₂ p c) := T₄
  have en1 : (ins1 nd₂ p c q).next = some c := by rw [ins1_next hqp]; exact en0
  clear T₂ en0
  generalize ins1 nd₂ p c = nd₄ at T₄ en1 k'
  repeat walk_at "bj"
  (with_reducible refine' ts_prevR ?G ?F ?N ?T ?hS ?_); walk_at "bj_g5"
  clear F₄ N₄
  intro h₅ t₅ M₅ F₅ N₅ K₅ T₅
  replace T₅ : Tab w.params M₅ S' (ins2 nd₄ p q) := T₅
  have en2 : (ins2 nd₄ p q q).next = some c := by rw [ins2_next]; exact en1
  clear T₄ en1
  generalize ins2 nd₄ p q = nd₅ at T₅ en2 k'
  repeat walk_at "bj"
  walk_at "bj_get"
  rw [en2]
  (with_reducible refine' ts_prevR ?G ?F ?N ?T ?hS ?_); walk_at "bj_g5"
  clear F₅ N₅
  intro h₆ t₆ M₆ F₆ N₆ K₆ T₆
  replace T₆ : Tab w.params M₆ S' (ins2 nd₅ c p) := T₆
  clear T₅ en2
  generalize ins2 nd₅ c p = nd₆ at T₆ k'
  repeat walk_at "bj"
  (with_reducible refine' ts_nextR ?G ?F ?N ?T ?hS ?_); walk_at "bj_g5"
  clear F₆ N₆
  intro h₇ t₇ M₇ F₇ N₇ K₇ T₇
  repeat walk_at "bj"
  exact lv F₇ N₇ fun F N => k' _ _ _ F N (((((K₂.trans K₄).trans K₅).trans K₆).trans K₇)) T₇

def insZ (nd : Addr → Nd) (p : Addr) (n : Nd) : Addr → Nd := ins1 (ins2 (upd nd p n) p p) p p
theorem ins0_call {Q : Value → Shared → Prop} {i : Int} {it : Tok} {pa : Addr} {pp : Pt}
    (G : Gd w A env h₀ (r + 3)) (F : Fr h₀ env.locals h m) (N' : News h₀ env.locals h N) (T : Tab w.params N S nd) (H : HasP w.params N pa pp)
    (k : ∀ h' t' N₁ p n, Fr h₀ env.locals h' m → News h₀ env.locals h' N₁ → Keep w.params N N₁ → (∀ x ∈ N, x.1 < p) → n.i = i → n.pt = pa → n.x = pp.x → n.y = pp.y → n.pz = none → n.nz = none →
      Tab w.params N₁ (plus S p) (insZ nd p n) → Q (.ref p) (stt s₀ h' t')) :
    wpAny (model prog w) A (call (.ref 84) [.int i it, .ref pa, .none] []) Q NE (stt s₀ h t) := by
  refine enter (binds := [("i", .int i it), ("point", .ref pa), ("last", .none)]) G F N' (look84 _) (code84 _) rfl rfl rfl rfl rfl rfl fun g L' h₁ t₁ G' F' N₁ => ?_
  unfold bd84 bdS84
  dsimp only
  repeat walk_at "bj"
  refine mkNode G' F' N₁ H ?_
  clear F' N₁
  intro h₂ t₂ p n F₂ N₂ l1 l2 e1 e2 e3 e4 e5 e6 e7 e8
  have T₂ := T.add l1 l2
  have K₂ : Keep w.params N ((p, instObj 59 n.d) :: (n.d, nodeD w.params n) :: N) := Keep.of_sub fun q hq => .tail _ (.tail _ hq)
  have hlt : ∀ x ∈ N, x.1 < p := fun x hx => Nat.lt_trans (l1 x hx) l2
  have hp' : plus S p p := .inl rfl
  have k' := fun h' t' N₁ F N K => k h' t' N₁ p n F N K hlt e1 e2 e3 e4 e7 e8
  unfold insZ at k'
  clear k hlt l1 l2 e1 e2 e3 e4 e5 e6 e7 e8 T H
  generalize plus S p = S' at T₂ hp' k'
  generalize (p, instObj 59 n.d) :: (n.d, nodeD w.params n) :: N = M₂ at N₂ T₂ K₂
  generalize upd nd p n = nd₂ at T₂ k'
  walk_at "bj"
  clear F₂ N₂
  rename_i h₃ t₃ F₃ N₃
  repeat walk_at "bj"
  (with_reducible refine' ts_prevR ?G ?F ?N ?T ?hS ?_); walk_at "bj_g5"
  clear F₃ N₃
  intro h₄ t₄ M₄ F₄ N₄ K₄ T₄
  replace T₄ : Tab w.params M₄ S' (ins2 nd₂ p p) := T₄
  clear T₂
  generalize ins2 nd₂ p p = nd₄ at T₄ k'
  repeat walk_at "bj"
  (with_reducible refine' ts_nextR ?G ?F ?N ?T ?hS ?_); walk_at "bj_g5"
  clear F₄ N₄
  intro h₅ t₅ M₅ F₅ N₅ K₅ T₅
  repeat walk_at "bj"
  exact lv F₅ N₅ fun F N => k' _ _ _ F N ((K₂.trans K₄).trans K₅) T₅
end
end

section
/-! loops -/
def isIter (o : Obj) : Bool := (match o.data with | .fields _ => true | _ => false) && (o.cls == .type "range_iterator" || o.cls == .type "list_iterator" || o.cls == .type "list_reverseiterator")
def Iters (M M' : Led) : Prop := ∀ p ∈ M, isIter p.2 = true → p ∈ M'
theorem Iters.refl {M : Led} : Iters M M := fun _ h _ => h
theorem Iters.trans {M M' M'' : Led} (a : Iters M M') (b : Iters M' M'') : Iters M M'' := fun p h i => b p (a p h i) i
theorem Iters.sub {M M' : Led} (s : ∀ p ∈ M, p ∈ M') : Iters M M' := fun p h _ => s p h
theorem Iters.keep {P : Params} {M M' : Led} (K : Keep P M M') : Iters M M' := fun p h i => K p h fun n e => by rw [e] at i; cases i
theorem Iters.put {h₀ h : Heap} {L : Addr} {M : Led} (x : News h₀ L h M) {d : Addr} {o o' : Obj} (hm : (d, o) ∈ M) (hi : isIter o = false) : Iters M (put d o' M) := fun p hp i => by
  obtain ⟨a, q⟩ := p
  refine mem_put_ne hp fun e => ?_
  subst e
  rw [News.uniq x hp hm, hi] at i
  cases i
/-- all but the loops' own marks -/
def Sub (M M' : Led) : Prop := ∀ p ∈ M, isIter p.2 = false → p ∈ M'
theorem Sub.of_sub {M M' : Led} (s : ∀ p ∈ M, p ∈ M') : Sub M M' := fun p h _ => s p h

section
variable {prog : Program} {w : World} {A : Around} {env : Env} {h₀ : Heap} {s₀ : Shared} {h : Heap} {t : Nat} {m : Str → Option Value} {N : Led} {r : Nat} {pos px : Pos} {x : Str} {body : List Stmt} {Q : Flow → Shared → Prop}

def TurnEnd (h₀ : Heap) (L : Addr) (s₀ : Shared) (M : Led) (J : (Str → Option Value) → Led → Prop) (Q : Flow → Shared → Prop) (f : Flow) (σ : Shared) : Prop := match f with
  | .ret v => Q (.ret v) σ
  | .brk => Q .next σ
  | _ => ∃ h' t' m' M', σ = stt s₀ h' t' ∧ Fr h₀ L h' m' ∧ News h₀ L h' M' ∧ Iters M M' ∧ J m' M'

theorem atV {I : Addr} {fp : List Addr} {n : Nat} {P : Nat → Value → Prop} {St : Nat → Heap → Prop} (W : Walks prog w A I fp [I] n P St) (J : Nat → (Str → Option Value) → Led → Prop)
    (F : Fr h₀ env.locals h m) (N' : News h₀ env.locals h N) (hI : ∀ p ∈ N, p.1 ≠ I) (hI0 : h₀.get? I = none) (hLf : env.locals ∉ fp)
    (hfp : ∀ b ∈ fp, b = I ∨ ∃ ol, ∀ i m M, J i m M → (b, ol) ∈ M) (hSt : ∀ i h, St i h → ∃ o, h.get? I = some o ∧ isIter o = true) (hst : St 0 h)
    (hmono : ∀ i m M M', J i m M → Sub M M' → J i m M') (h0 : J 0 m N)
    (turn : ∀ i v m₁ M h t, i < n → P i v → J i m₁ M → Iters N M → Fr h₀ env.locals h (fun y => if y = x then some v else m₁ y) → News h₀ env.locals h M →
      wpAny (model prog w) A (execs body env) (TurnEnd h₀ env.locals s₀ M (J (i + 1)) Q) NE (stt s₀ h t))
    (done : ∀ m₁ M h t, J n m₁ M → Iters N M → Fr h₀ env.locals h m₁ → News h₀ env.locals h M → Q .next (stt s₀ h t)) :
    LoopAtV prog w A h₀ env x body Q NE (.ref I) (stt s₀ h t) := by
  refine ⟨I, fp, [I], n, P, St, m, N, fun i m M => J i m M ∧ Iters N M, rfl, W, hLf, ?_, ?_, hst, F, N', ⟨h0, Iters.refl⟩, ?_, ?_⟩
  · intro b hb; rw [List.mem_singleton.mp hb]; exact hI0
  · intro p hp hb; exact hI p hp (List.mem_singleton.mp hb)
  · rintro i v m₁ N₁ s₁ own ⟨h₁, t₁, rfl⟩ hin hP ⟨hJ, hIt⟩ hoff hsub hown hall hst₁ F₁ N₁'
    have hs : ∀ p ∈ N₁, p ∈ own ++ N₁ := fun p hp => List.mem_append_right _ hp
    refine wpAny_mono (turn i v m₁ (own ++ N₁) h₁ t₁ hin hP (hmono _ _ _ _ hJ (Sub.of_sub hs)) (hIt.trans (Iters.sub hs)) F₁ N₁') (fun f σ z => ?_) fun _ _ z => z
    have fin : (∃ h' t' m' M', σ = stt s₀ h' t' ∧ Fr h₀ env.locals h' m' ∧ News h₀ env.locals h' M' ∧ Iters (own ++ N₁) M' ∧ J (i + 1) m' M') →
        LoopStepU h₀ env.locals [I] own (fun m M => J (i + 1) m M ∧ Iters N M) (stt s₀ h₁ t₁) .next σ := by
      rintro ⟨h', t', m', M', rfl, F', N₂', hK, hJ'⟩
      obtain ⟨oI, hoI, hiI⟩ := hSt _ _ hst₁
      have hoI1 : h₁.get? I = some oI := hoI
      have memI : (I, oI) ∈ own := hall I (W.sub I (List.mem_singleton.mpr rfl)) hI0 oI hoI1
      have memI' : (I, oI) ∈ M' := hK _ (List.mem_append_left _ memI) hiI
      refine ⟨rfl, h', t', m', M'.filter (fun p => p.1 != I), rfl, F', ?_, ?_, ?_, ?_⟩
      · intro p hp
        rcases List.mem_append.mp hp with hq | hq
        · obtain ⟨b, ob⟩ := p
          rcases hfp b (hsub _ hq) with rfl | ⟨ol, hol⟩
          · have e1 := hown _ hq
            have e2 : ob = oI := Option.some.inj (e1.symm.trans hoI1)
            subst e2
            exact N₂' _ memI'
          · have e1 := hown _ hq
            have e2 := (N₁' _ (List.mem_append_right _ (hol i m₁ N₁ hJ))).1
            have e3 : ob = ol := Option.some.inj (e1.symm.trans e2)
            subst e3
            exact N₂' _ (hol _ _ _ hJ')
        · exact N₂' _ (List.mem_filter.mp hq).1
      · intro p hp hb
        have := bne_iff_ne.mp (List.mem_filter.mp hp).2
        exact this (List.mem_singleton.mp hb)
      · refine hmono _ _ _ _ hJ' fun p hp hi => List.mem_filter.mpr ⟨hp, bne_iff_ne.mpr fun e => ?_⟩
        obtain ⟨b, ob⟩ := p
        dsimp only at e; subst e
        rw [News.uniq N₂' hp memI', hiI] at hi
        cases hi
      · intro p hp hi
        refine List.mem_filter.mpr ⟨hK p (List.mem_append_right _ (hIt p hp hi)) hi, bne_iff_ne.mpr (hI p hp)⟩
    cases f with
    | ret v => exact .ret z
    | brk => exact .brk z
    | next => exact .ofU (fin z)
    | cont =>
      obtain ⟨_, h', t', m', M', e, z⟩ := fin z
      exact ⟨rfl, h', t', m', M', e, z⟩
  · rintro h' tk m' M' F' N₂ _ ⟨hJ, hIt⟩
    exact done m' M' h' tk hJ hIt F' N₂

theorem s_for {iter : Expr} {rest : List Stmt} (G : Gd w A env h₀ r) (hx : env.scope.names.lookup x = some .local)
    (k : wpAny (model prog w) A (eval iter env) (fun xv σ => wpAny (model prog w) A (pyIter xv) (fun it σ' => LoopAtV prog w A h₀ env x body (thenR prog w A env rest Q) NE it σ') NE σ) NE (stt s₀ h t))
    (hs : ∀ x, foldedSetIterable iter env x = pure x) :
    wpAny (model prog w) A (execs (.For (.Name x px) iter body [] pos :: rest) env) Q NE (stt s₀ h t) := by
  refine wpAny_execs_cons (wpAny_mono (For_invV h₀ hx (by rw [G.hke]; rfl) k hs PassesOwn.never) (fun f σ z => ?_) fun _ _ z => z)
  cases f <;> exact z

theorem o_range {n : Int} {u : Tok} {Q : Value → Shared → Prop} (F : Fr h₀ env.locals h m) (N' : News h₀ env.locals h N)
    (k : ∀ rg h' t' a b c, IsRange h' rg 0 n 1 a b c → Fr h₀ env.locals h' m → News h₀ env.locals h' N → Q (.ref rg) (stt s₀ h' t')) :
    wpAny (model prog w) A (call (.type "range") [.int n u] []) Q NE (stt s₀ h t) :=
  range1_rows (s := stt s₀ h t) F N' fun h' tk a b c hr F₁ N₁ _ => k _ h' tk a b c hr F₁ N₁

theorem it_range {rg : Addr} {n : Nat} {a b c : Tok} (J : Nat → (Str → Option Value) → Led → Prop) (hh : A.handled = none)
    (F : Fr h₀ env.locals h m) (N' : News h₀ env.locals h N) (hr : IsRange h rg 0 (n : Int) 1 a b c) (hn : (n : Int) < 2 ^ 62)
    (hmono : ∀ i m M M', J i m M → Sub M M' → J i m M') (h0 : J 0 m N)
    (turn : ∀ (i : Nat) u m₁ M h t, i < n → J i m₁ M → Iters N M → Fr h₀ env.locals h (fun y => if y = x then some (.int (i : Int) u) else m₁ y) → News h₀ env.locals h M →
      wpAny (model prog w) A (execs body env) (TurnEnd h₀ env.locals s₀ M (J (i + 1)) Q) NE (stt s₀ h t))
    (done : ∀ m₁ M h t, J n m₁ M → Iters N M → Fr h₀ env.locals h m₁ → News h₀ env.locals h M → Q .next (stt s₀ h t)) :
    wpAny (model prog w) A (pyIter (.ref rg)) (fun it σ' => LoopAtV prog w A h₀ env x body Q NE it σ') NE (stt s₀ h t) := by
  have hsm : Builtin.Range.small 0 (n : Int) 1 = true := small_one (by omega) (by omega) (by omega) hn
  have hsz : Builtin.Range.rangeSize 0 (n : Int) 1 = ((n : Nat) : Int) := by rw [rangeSize_one]; split <;> omega
  refine wpAny_pyIter_range (s := stt s₀ h t) hr hsm ?_
  have hIs : ∀ o, h.get? h.objs.size = some o → False := fun o e => absurd (Heap.lt_size e) (Nat.lt_irrefl _)
  have hLlt := F.ns.lt
  refine atV (t := t) (h := h.push { cls := .type "range_iterator", data := .fields #[rawInt 0, rawInt (Builtin.Range.rangeSize 0 (n : Int) 1), rawInt 1] }) (Walks.range (prog := prog) (w := w) hh h.objs.size 0 1 n) J (F.push _) (fun p hp => ⟨Heap.get?_push_of_some _ (N' p hp).1, (N' p hp).2⟩)
    (fun p hp e => hIs p.2 (e ▸ (N' p hp).1)) ?_ ?_ ?_ ?_ ?_ hmono h0 ?_ done
  · cases e : h₀.get? h.objs.size with
    | none => exact e
    | some o => exact (hIs o (F.keep _ _ e)).elim
  · intro hm; have := List.mem_singleton.mp hm; exact absurd hLlt (this ▸ Nat.lt_irrefl _)
  · intro b hb; exact .inl (List.mem_singleton.mp hb)
  · intro i h' st; exact ⟨_, st, rfl⟩
  · show IsRangeIter _ _ _ _ _
    rw [hsz]
    simpa using Heap.get?_push_size _ rfl
  · rintro i v m₁ M h' t' hi ⟨u, rfl⟩ hJ hIt F₁ N₁
    have e : (0 : Int) + (i : Int) * 1 = (i : Int) := by omega
    rw [e] at F₁
    exact turn i u m₁ M h' t' hi hJ hIt F₁ N₁

theorem it_list {l : Addr} {vs : List Value} {k : Nat} (J : Nat → (Str → Option Value) → Led → Prop) (hh : A.handled = none)
    (F : Fr h₀ env.locals h m) (N' : News h₀ env.locals h N) (hl : ∀ i m M, J i m M → (l, listOf vs.toArray k) ∈ M)
    (hmono : ∀ i m M M', J i m M → Sub M M' → J i m M') (h0 : J 0 m N)
    (turn : ∀ (i : Nat) v m₁ M h t, vs[i]? = some v → J i m₁ M → Iters N M → Fr h₀ env.locals h (fun y => if y = x then some v else m₁ y) → News h₀ env.locals h M →
      wpAny (model prog w) A (execs body env) (TurnEnd h₀ env.locals s₀ M (J (i + 1)) Q) NE (stt s₀ h t))
    (done : ∀ m₁ M h t, J vs.length m₁ M → Iters N M → Fr h₀ env.locals h m₁ → News h₀ env.locals h M → Q .next (stt s₀ h t)) :
    wpAny (model prog w) A (pyIter (.ref l)) (fun it σ' => LoopAtV prog w A h₀ env x body Q NE it σ') NE (stt s₀ h t) := by
  have hlm := hl _ _ _ h0
  have hls : h.IsList l vs.toArray := ⟨_, (N' _ hlm).1, rfl, _, rfl⟩
  have hIs : ∀ o, h.get? h.objs.size = some o → False := fun o e => absurd (Heap.lt_size e) (Nat.lt_irrefl _)
  have hne : l ≠ h.objs.size := Nat.ne_of_lt (Heap.lt_size (N' _ hlm).1)
  have hLlt := F.ns.lt
  refine wpAny_pyIter_list (s := stt s₀ h t) hls ?_
  have W := Walks.list (prog := prog) (w := w) hh h.objs.size l hne vs.toArray
  have hlen : vs.toArray.size = vs.length := by simp
  rw [hlen] at W
  refine atV (t := t) (h := h.push { cls := .type "list_iterator", data := .fields #[.ref l, .int 0 0] }) W J (F.push _) (fun p hp => ⟨Heap.get?_push_of_some _ (N' p hp).1, (N' p hp).2⟩)
    (fun p hp e => hIs p.2 (e ▸ (N' p hp).1)) ?_ ?_ ?_ ?_ ?_ hmono h0 ?_ done
  · cases e : h₀.get? h.objs.size with
    | none => exact e
    | some o => exact (hIs o (F.keep _ _ e)).elim
  · intro hm
    rcases List.mem_cons.mp hm with e | hm
    · exact absurd hLlt (e ▸ Nat.lt_irrefl _)
    · exact (N' _ hlm).2.1 (List.mem_singleton.mp hm).symm
  · intro b hb
    rcases List.mem_cons.mp hb with e | hb
    · exact .inl e
    · exact .inr ⟨_, (List.mem_singleton.mp hb) ▸ hl⟩
  · rintro i h' ⟨⟨o, ho, hc, hd⟩, _⟩
    exact ⟨o, ho, by unfold isIter; rw [hc, hd]; rfl⟩
  · exact ⟨⟨_, Heap.get?_push_size _ rfl, rfl, rfl⟩, ⟨_, Heap.get?_push_of_some _ (N' _ hlm).1, rfl, _, rfl⟩⟩
  · rintro i v m₁ M h' t' hi hv hJ hIt F₁ N₁
    exact turn i v m₁ M h' t' (by simpa using hv) hJ hIt F₁ N₁

theorem it_rev {l D : Addr} {vs : List Value} {k : Nat} (J : Nat → (Str → Option Value) → Led → Prop) (hh : A.handled = none)
    (F : Fr h₀ env.locals h m) (N' : News h₀ env.locals h N) (hN : News h₀ env.locals h ((D, revObj l ((vs.length : Int) - 1)) :: N)) (hD : ∀ p ∈ N, p.1 < D) (hl : ∀ i m M, J i m M → (l, listOf vs.toArray k) ∈ M)
    (hmono : ∀ i m M M', J i m M → Sub M M' → J i m M') (h0 : J 0 m N)
    (turn : ∀ (i : Nat) v m₁ M h t, vs[vs.length - 1 - i]? = some v → i < vs.length → J i m₁ M → Iters N M → Fr h₀ env.locals h (fun y => if y = x then some v else m₁ y) → News h₀ env.locals h M →
      wpAny (model prog w) A (execs body env) (TurnEnd h₀ env.locals s₀ M (J (i + 1)) Q) NE (stt s₀ h t))
    (done : ∀ m₁ M h t, J vs.length m₁ M → Iters N M → Fr h₀ env.locals h m₁ → News h₀ env.locals h M → Q .next (stt s₀ h t)) :
    wpAny (model prog w) A (pyIter (.ref D)) (fun it σ' => LoopAtV prog w A h₀ env x body Q NE it σ') NE (stt s₀ h t) := by
  have hlm := hl _ _ _ h0
  have hls : h.IsList l vs.toArray := ⟨_, (N' _ hlm).1, rfl, _, rfl⟩
  have hne : l ≠ D := Nat.ne_of_lt (hD _ hlm)
  have hit : h.IsRevIter D l ((vs.length : Int) - 1) := ⟨_, (hN _ (.head _)).1, rfl, rfl⟩
  refine wpAny_pyIter_revIter (s := stt s₀ h t) hit ?_
  have W := Walks.listRev (prog := prog) (w := w) hh D l hne vs.toArray
  have hlen : vs.toArray.size = vs.length := by simp
  simp only [hlen] at W
  refine atV (t := t) (h := h) W J F N' (fun p hp => Nat.ne_of_lt (hD p hp)) (hN _ (.head _)).2.2 ?_ ?_ ?_ ?_ hmono h0 ?_ done
  · intro hm
    rcases List.mem_cons.mp hm with e | hm
    · exact (hN _ (.head _)).2.1 e.symm
    · exact (N' _ hlm).2.1 (List.mem_singleton.mp hm).symm
  · intro b hb
    rcases List.mem_cons.mp hb with e | hb
    · exact .inl e
    · exact .inr ⟨_, (List.mem_singleton.mp hb) ▸ hl⟩
  · rintro i h' ⟨_, ⟨o, ho, hc, hd⟩, _⟩
    exact ⟨o, ho, by unfold isIter; rw [hc, hd]; rfl⟩
  · refine ⟨Nat.zero_le _, ?_, hls⟩
    simpa using hit
  · rintro i v m₁ M h' t' hi hv hJ hIt F₁ N₁
    exact turn i v m₁ M h' t' (by simpa using hv) hi hJ hIt F₁ N₁

theorem te_next {h' : Heap} {t' : Nat} {m' : Str → Option Value} {M M' : Led} {J : (Str → Option Value) → Led → Prop} {L : Addr} (F : Fr h₀ L h' m') (N' : News h₀ L h' M') (I : Iters M M') (j : J m' M') :
    wpAny (model prog w) A (execs [] env) (TurnEnd h₀ L s₀ M J Q) NE (stt s₀ h' t') := wpAny_execs_nil ⟨h', t', m', M', rfl, F, N', I, j⟩
end
end

section
section
variable {prog : Program} {w : World} {A : Around} {env : Env} {h₀ : Heap} {s₀ : Shared} {h : Heap} {t : Nat} {m : Str → Option Value} {N : Led} {r : Nat} {pos : Pos} {S : Addr → Prop} {nd : Addr → Nd}

theorem Sub.refl {M : Led} : Sub M M := fun _ h _ => h
theorem Sub.trans {M M' M'' : Led} (a : Sub M M') (b : Sub M' M'') : Sub M M'' := fun p h i => b p (a p h i) i
theorem Sub.all {M M' : Led} (a : Sub M M') (b : Iters M M') : ∀ p ∈ M, p ∈ M' := fun p h => by
  cases e : isIter p.2 with
  | false => exact a p h e
  | true => exact b p h e
theorem Tab.sub {P : Params} {M M' : Led} (T : Tab P M S nd) (s : Sub M M') : Tab P M' S nd :=
  ⟨fun a ha => ⟨s _ (T.has a ha).1 rfl, s _ (T.has a ha).2 rfl⟩, T.inj⟩
theorem HasP.sub' {P : Params} {M M' : Led} {a : Addr} {p : Pt} (H : HasP P M a p) (s : Sub M M') : HasP P M' a p := ⟨s _ H.1 rfl, s _ H.2 rfl⟩

theorem o_len {l : Addr} {vs : List Value} {k : Nat} {Q : Value → Shared → Prop} (N' : News h₀ env.locals h N) (hm : (l, PySem.W.listOf vs.toArray k) ∈ N) (hf : vs.length < 2 ^ 62)
    (k' : ∀ u t', Q (.int (vs.length : Int) u) (stt s₀ h t')) : wpAny (model prog w) A (call (.builtin "len") [.ref l] []) Q NE (stt s₀ h t) := by
  refine len_list (s := stt s₀ h t) ⟨_, (N' _ hm).1, rfl, _, rfl⟩ ?_ ?_
  · rw [List.size_toArray]; omega
  · rw [List.size_toArray]; exact k' _ _
theorem e_sub {value slice : Expr} {Q : Value → Shared → Prop}
    (k : wpAny (model prog w) A (eval value env) (fun o σ => wpAny (model prog w) A (eval slice env) (fun i σ₁ => wpAny (model prog w) A (subscriptTail value slice o i) Q NE σ₁) NE σ) NE (stt s₀ h t)) :
    wpAny (model prog w) A (eval (.Subscript value slice pos) env) Q NE (stt s₀ h t) := Subscript_ k
theorem i_list {value slice : Expr} {l : Addr} {vs : List Value} {k : Nat} {j : Nat} {i : Int} {u : Tok} {x : Value} {Q : Value → Shared → Prop} (N' : News h₀ env.locals h N) (hm : (l, PySem.W.listOf vs.toArray k) ∈ N)
    (hi : i = (j : Int)) (hx : vs[j]? = some x) (hj : j < 2 ^ 62) (k' : Q x (stt s₀ h t))
    (hs : subscripted slice false (.ref l) (.int i u) = operate [.ref l, .int i u] (getItem (.ref l) (.int i u))) :
    wpAny (model prog w) A (subscriptTail value slice (.ref l) (.int i u)) Q NE (stt s₀ h t) := by
  subst hi
  have hl : (stt s₀ h t).heap.IsList l vs.toArray := ⟨_, (N' _ hm).1, rfl, _, rfl⟩
  exact tail_any hl.typeIs slot_list_getitem.lookup (wpAny_getItem_list hl (by omega) (by omega) (by simpa using hx) k') hs
theorem i_listN {value slice : Expr} {l : Addr} {vs : List Value} {k : Nat} {i : Int} {u : Tok} {x : Value} {Q : Value → Shared → Prop} (N' : News h₀ env.locals h N) (hm : (l, PySem.W.listOf vs.toArray k) ∈ N)
    (h0 : i < 0) (h1 : -(vs.length : Int) ≤ i) (hx : vs[(i + vs.length).toNat]? = some x) (hj : vs.length < 2 ^ 62) (k' : Q x (stt s₀ h t))
    (hs : subscripted slice false (.ref l) (.int i u) = operate [.ref l, .int i u] (getItem (.ref l) (.int i u))) :
    wpAny (model prog w) A (subscriptTail value slice (.ref l) (.int i u)) Q NE (stt s₀ h t) := by
  have hl : (stt s₀ h t).heap.IsList l vs.toArray := ⟨_, (N' _ hm).1, rfl, _, rfl⟩
  exact tail_any hl.typeIs slot_list_getitem.lookup (wpAny_getItem_list_neg hl h0 (by simpa using h1) (by omega) (by simpa using hx) k') hs
theorem i_tup {value slice : Expr} {l : Addr} {vs : List Value} {k : Nat} {i : Int} {j : Nat} {u : Tok} {x : Value} {Q : Value → Shared → Prop} (N' : News h₀ env.locals h N) (hm : (l, { cls := .type "tuple", data := .seq vs.toArray k }) ∈ N)
    (hi : i = (j : Int)) (hj : j < 2 ^ 62) (hx : vs[j]? = some x) (k' : Q x (stt s₀ h t))
    (hs : subscripted slice false (.ref l) (.int i u) = operate [.ref l, .int i u] (getItem (.ref l) (.int i u))) :
    wpAny (model prog w) A (subscriptTail value slice (.ref l) (.int i u)) Q NE (stt s₀ h t) := by
  subst hi
  have hlt : j < vs.length := (List.getElem?_eq_some_iff.mp hx).1
  refine item_tupleT (s := stt s₀ h t) (j := j) ⟨_, (N' _ hm).1, rfl, _, rfl⟩ (by omega) (by omega) ?_ hx k' hs
  have h1 : ¬ ((j : Int) < 0) := by omega
  have h2 : (j : Int) < (vs.length : Int) := by omega
  simp [seqIndex?, h1, h2]

theorem fmod_nat (a b : Nat) : Int.fmod (a : Int) (b : Int) = ((a % b : Nat) : Int) := by
  rw [Int.fmod_eq_emod_of_nonneg _ (Int.natCast_nonneg b)]
  exact (Int.natCast_emod a b).symm

def RingOk (nd : Addr → Nd) (R : List Addr) : Prop :=
  ∀ i a b, R[i]? = some a → R[(i + 1) % R.length]? = some b → (nd a).next = some b ∧ (nd b).prev = some a
theorem nx_some {R : List Addr} {i : Nat} (h : i < R.length) : ∃ b, R[(i + 1) % R.length]? = some b :=
  ⟨_, List.getElem?_eq_getElem (Nat.mod_lt _ (Nat.lt_of_le_of_lt (Nat.zero_le _) h))⟩
end
end

section
local macro_rules | `(tactic| walk_at "bj_gn") => `(tactic| first | with_reducible exact gn_len _ | with_reducible exact gn_range _ | with_reducible exact gn_list _ | with_reducible exact gn_reversed _)
local macro_rules | `(tactic| walk_at "bj_bt") => `(tactic| first | with_reducible exact PySem.boot_len | with_reducible exact PyProof.Rows.boot_range | with_reducible exact PyProof.Rows.boot_list | with_reducible exact PyProof.Rows.boot_reversed)
local macro_rules | `(tactic| walk_at "bj_gl") => `(tactic| first | with_reducible exact gl_31 _ | with_reducible exact gl_59 _ | with_reducible exact gl_70 _ | with_reducible exact gl_77 _ | with_reducible exact gl_84 _ | with_reducible exact gl_91 _ | with_reducible exact gl_92 _ | with_reducible exact gl_99 _ | with_reducible exact gl_106 _ | with_reducible exact gl_113 _ | with_reducible exact gl_120 _ | with_reducible exact gl_127 _ | with_reducible exact gl_134 _)
local macro_rules | `(tactic| walk_at "bj_kp") => `(tactic| first | with_reducible exact kp_31 _ | with_reducible exact kp_59 _ | with_reducible exact kp_70 _ | with_reducible exact kp_77 _ | with_reducible exact kp_84 _ | with_reducible exact kp_91 _ | with_reducible exact kp_99 _ | with_reducible exact kp_106 _ | with_reducible exact kp_113 _ | with_reducible exact kp_120 _ | with_reducible exact kp_127 _ | with_reducible exact kp_134 _)
local macro_rules | `(tactic| walk_at "bj_m") => `(tactic| first | (with_reducible assumption) | (with_reducible exact m_here) | ((with_reducible refine m_there ?hmt ?_); (case hmt => decide); walk_at "bj_m") | rfl)
local macro_rules | `(tactic| walk_at "bj_a") => `(tactic| (with_reducible assumption))
local macro_rules | `(tactic| walk_at "bj") => `(tactic| first
  | (with_reducible refine s_nilR ?_)
  | ((with_reducible refine' s_assignAttr ?_ ?hs); (case hs => rfl))
  | ((with_reducible refine' s_assign ?_ ?hs); (case hs => rfl))
  | (with_reducible refine' s_if ?_)
  | (with_reducible refine' s_ret ?_)
  | (with_reducible refine' s_aug ?_)
  | ((with_reducible refine' e_L ?G ?F ?hx ?hv ?_ ?hdb); (case G => walk_at "bj_a"); (case F => walk_at "bj_a"); (case hx => rfl); (case hdb => rfl); (case hv => walk_at "bj_m"))
  | ((with_reducible refine' l_L ?G ?F ?hx ?hv ?_); (case G => walk_at "bj_a"); (case F => walk_at "bj_a"); (case hx => rfl); (case hv => walk_at "bj_m"))
  | ((with_reducible refine' e_st ?G ?F ?N ?hx ?_); (case G => walk_at "bj_a"); (case F => walk_at "bj_a"); (case N => walk_at "bj_a"); (case hx => rfl); intro h' t' F' N')
  | ((with_reducible refine' e_attr ?_ ?he); (case he => with_unfolding_all rfl))
  | ((with_reducible refine' t_cmp ?_ ?hm); (case hm => with_unfolding_all rfl))
  | ((with_reducible refine' e_cmp ?_ ?hm); (case hm => with_unfolding_all rfl))
  | (with_reducible refine' e_bin ?_)
  | (with_reducible refine' t_not ?_)
  | (with_reducible refine' t_and ?_)
  | (with_reducible refine' t_or ?_)
  | (with_reducible refine' t_andN ?_)
  | (with_reducible refine' t_orN ?_)
  | (with_reducible refine' e_ifx ?_)
  | (with_reducible refine' e_and ?_)
  | (with_reducible refine' e_and1 ?_)
  | (with_reducible refine' e_un ?_)
  | (with_reducible refine' tb_bool ?_)
  | (with_reducible refine' tb_none ?_)
  | ((with_reducible refine' o_add ?_); intro u' t')
  | ((with_reducible refine' o_iadd ?_); intro u' t')
  | ((with_reducible refine' o_isub ?_); intro u' t')
  | ((with_reducible refine' o_sub ?_); intro u' t')
  | ((with_reducible refine' o_mod ?_ ?_); (decide); intro u' t')
  | ((with_reducible refine' o_neg ?_); intro u' t')
  | (with_reducible refine' c_eq ?_)
  | (with_reducible refine' c_ne ?_)
  | (with_reducible refine' c_lt ?_)
  | (with_reducible refine' c_gt ?_)
  | (with_reducible refine' c_le ?_)
  | (with_reducible refine' c_ge ?_)
  | (with_reducible refine' c_isB ?_)
  | (with_reducible refine' c_isnB ?_)
  | (with_reducible refine' c_eqB ?_)
  | (with_reducible refine' c_neB ?_)
  | (with_reducible refine' c_isRN ?_)
  | (with_reducible refine' c_isNN ?_)
  | (with_reducible refine' c_isnRN ?_)
  | (with_reducible refine' c_isnNR ?_)
  | (with_reducible refine' c_isnNN ?_)
  | (with_reducible refine' c_isnRS ?_)
  | (with_reducible refine' c_isRS ?_)
  | (with_reducible refine' if_t ?_)
  | (with_reducible refine' if_f ?_)
  | (with_reducible refine' if_nt ?_)
  | (with_reducible refine' if_nf ?_)
  | ((with_reducible refine' e_callG ?G ?F ?hx ?hdb ?eg ?hk ?_ ?hc ?he ?hp); (case G => walk_at "bj_a"); (case F => walk_at "bj_a"); (case hx => rfl); (case hdb => rfl); (case eg => walk_at "bj_gl"); (case hk => walk_at "bj_kp"); (case hc => rfl); (case he => rfl); (case hp => rfl))
  | ((with_reducible refine' e_callB ?G ?F ?hx ?hdb ?eg ?hv ?hn ?_ ?hc ?he ?hp); (case G => walk_at "bj_a"); (case F => walk_at "bj_a"); (case hx => rfl); (case hdb => rfl); (case eg => walk_at "bj_gn"); (case hv => walk_at "bj_bt"); (case hn => decide); (case hc => rfl); (case he => rfl); (case hp => rfl))
  | ((with_reducible refine' e_callT ?G ?F ?hx ?hdb ?eg ?hv ?hn ?_ ?hc ?he ?hp); (case G => walk_at "bj_a"); (case F => walk_at "bj_a"); (case hx => rfl); (case hdb => rfl); (case eg => walk_at "bj_gn"); (case hv => walk_at "bj_bt"); (case hn => decide); (case hc => rfl); (case he => rfl); (case hp => rfl))
  | ((with_reducible refine' o_len ?N ?hm ?hf ?_); (case N => walk_at "bj_a"); (case hm => walk_at "bj_a"); (case hf => walk_at "bj_a"); intro u' t')
  | ((with_reducible refine' o_range ?F ?N ?_); (case F => walk_at "bj_a"); (case N => walk_at "bj_a"); intro rg' h' t' a' b' c' R' F' N')
  | (with_reducible refine' e_sub ?_)
  | ((with_reducible refine' s_for ?G ?hx ?_ ?hs); (case G => walk_at "bj_a"); (case hx => rfl); (case hs => intro _; rfl))
  | ((with_reducible refine' a_cons ?_ ?he); (case he => rfl))
  | (with_reducible refine' a_nil ?_)
  | ((with_reducible refine' a_in ?G ?F ?_); (case G => walk_at "bj_a"); (case F => walk_at "bj_a"))
  | ((with_reducible refine' t_plain ?_ ?he); (case he => rfl))
  | (with_reducible refine' e_none ?_)
  | (with_reducible refine' e_bool ?_)
  | ((with_reducible refine' e_int ?_); intro u' t'))
local macro_rules | `(tactic| walk_at "bj_g5") => `(tactic| ((case G => walk_at "bj_a"); (case F => walk_at "bj_a"); (case N => walk_at "bj_a"); (case T => walk_at "bj_a"); (case hS => walk_at "bj_a")))
local macro_rules | `(tactic| walk_at "bj_get") => `(tactic| first
  | ((with_reducible refine' tg_next ?G ?F ?N ?T ?hS ?_); (case G => walk_at "bj_a"); (case F => walk_at "bj_a"); (case N => walk_at "bj_a"); (case T => walk_at "bj_a"); (case hS => walk_at "bj_a"); intro t')
  | ((with_reducible refine' tg_prev ?G ?F ?N ?T ?hS ?_); (case G => walk_at "bj_a"); (case F => walk_at "bj_a"); (case N => walk_at "bj_a"); (case T => walk_at "bj_a"); (case hS => walk_at "bj_a"); intro t')
  | ((with_reducible refine' tg_pz ?G ?F ?N ?T ?hS ?_); (case G => walk_at "bj_a"); (case F => walk_at "bj_a"); (case N => walk_at "bj_a"); (case T => walk_at "bj_a"); (case hS => walk_at "bj_a"); intro t')
  | ((with_reducible refine' tg_nz ?G ?F ?N ?T ?hS ?_); (case G => walk_at "bj_a"); (case F => walk_at "bj_a"); (case N => walk_at "bj_a"); (case T => walk_at "bj_a"); (case hS => walk_at "bj_a"); intro t')
  | ((with_reducible refine' tg_i ?G ?F ?N ?T ?hS ?_); (case G => walk_at "bj_a"); (case F => walk_at "bj_a"); (case N => walk_at "bj_a"); (case T => walk_at "bj_a"); (case hS => walk_at "bj_a"); intro t')
  | ((with_reducible refine' tg_point ?G ?F ?N ?T ?hS ?_); (case G => walk_at "bj_a"); (case F => walk_at "bj_a"); (case N => walk_at "bj_a"); (case T => walk_at "bj_a"); (case hS => walk_at "bj_a"); intro t')
  | ((with_reducible refine' tg_x ?G ?F ?N ?T ?hS ?_); (case G => walk_at "bj_a"); (case F => walk_at "bj_a"); (case N => walk_at "bj_a"); (case T => walk_at "bj_a"); (case hS => walk_at "bj_a"); intro t')
  | ((with_reducible refine' tg_y ?G ?F ?N ?T ?hS ?_); (case G => walk_at "bj_a"); (case F => walk_at "bj_a"); (case N => walk_at "bj_a"); (case T => walk_at "bj_a"); (case hS => walk_at "bj_a"); intro t')
  | ((with_reducible refine' tg_z ?G ?F ?N ?T ?hS ?_); (case G => walk_at "bj_a"); (case F => walk_at "bj_a"); (case N => walk_at "bj_a"); (case T => walk_at "bj_a"); (case hS => walk_at "bj_a"); intro t')
  | ((with_reducible refine' tg_st ?G ?F ?N ?T ?hS ?_); (case G => walk_at "bj_a"); (case F => walk_at "bj_a"); (case N => walk_at "bj_a"); (case T => walk_at "bj_a"); (case hS => walk_at "bj_a"); intro t'))
local macro_rules | `(tactic| walk_at "bj_set") => `(tactic| (first
  | (with_reducible refine' ts_prev ?G ?F ?N ?T ?hS ?_)
  | (with_reducible refine' ts_next ?G ?F ?N ?T ?hS ?_)
  | (with_reducible refine' ts_pz ?G ?F ?N ?T ?hS ?_)
  | (with_reducible refine' ts_nz ?G ?F ?N ?T ?hS ?_)
  | (with_reducible refine' ts_prevR ?G ?F ?N ?T ?hS ?_)
  | (with_reducible refine' ts_nextR ?G ?F ?N ?T ?hS ?_)
  | (with_reducible refine' ts_pzR ?G ?F ?N ?T ?hS ?_)
  | (with_reducible refine' ts_nzR ?G ?F ?N ?T ?hS ?_)))
local macro_rules | `(tactic| walk_at "bj_il") => `(tactic| ((with_reducible refine' i_list ?N ?hm ?hi ?hx ?hj ?k ?hs); (case N => walk_at "bj_a"); (case hm => walk_at "bj_a"); (case hs => with_unfolding_all rfl)))
local macro_rules | `(tactic| walk_at "bj_it") => `(tactic| ((with_reducible refine' i_tup ?N ?hm ?hi ?hj ?hx ?k ?hs); (case N => walk_at "bj_a"); (case hm => walk_at "bj_a"); (case hs => with_unfolding_all rfl)))
section
variable {prog : Program} {w : World} {A : Around} {env : Env} {h₀ : Heap} {s₀ : Shared} {h : Heap} {t : Nat} {m : Str → Option Value} {N : Led} {r : Nat} {pos : Pos} {S : Addr → Prop} {nd : Addr → Nd}

theorem map_get {R : List Addr} {i : Nat} {a : Addr} (h : R[i]? = some a) : (R.map Value.ref)[i]? = some (.ref a) := by rw [List.getElem?_map, h]; rfl

theorem links_call {Q : Value → Shared → Prop} {l : Addr} {R : List Addr} {k : Nat}
    (G : Gd w A env h₀ (r + 1)) (F : Fr h₀ env.locals h m) (N' : News h₀ env.locals h N) (T : Tab w.params N S nd) (hS : ∀ a ∈ R, S a) (hl : (l, PySem.W.listOf (R.map Value.ref).toArray k) ∈ N) (hR : R.length < 2 ^ 60) (ok : RingOk nd R)
    (kk : ∀ h' t', Fr h₀ env.locals h' m → News h₀ env.locals h' N → Q (.bool true) (stt s₀ h' t')) :
    wpAny (model prog w) A (call (.ref 106) [.ref l] []) Q NE (stt s₀ h t) := by
  refine enter (binds := [("nodes", .ref l)]) G F N' (look106 _) (code106 _) rfl rfl rfl rfl rfl rfl fun g L' h₁ t₁ G' F' N₁ => ?_
  have hlen : (R.map Value.ref).length < 2 ^ 62 := by rw [List.length_map]; omega
  unfold bd106 bdS106
  dsimp only
  repeat walk_at "bj"
  clear F' N₁
  rename_i F' N₁
  refine it_range (n := R.length) (fun _ m M => m "nodes" = some (.ref l) ∧ Sub N M) G'.hh F' N₁ (by rw [← List.length_map (f := Value.ref)]; assumption) (by omega) (fun _ _ _ _ j s => ⟨j.1, j.2.trans s⟩) ⟨rfl, Sub.refl⟩ ?_ ?_
  · clear F' N₁
    rintro i u m₁ M h₂ t₂ hi ⟨hm, hs⟩ hIt F₂ N₂
    have hl₂ := hs _ hl rfl
    have T₂ := T.sub hs
    clear hIt T hl
    obtain ⟨b, hb⟩ := nx_some hi
    have ha : R[i]? = some R[i] := List.getElem?_eq_getElem hi
    generalize R[i] = a at ha
    obtain ⟨en, ep⟩ := ok i a b ha hb
    have hSa := hS a (List.mem_of_getElem? ha)
    have hSb := hS b (List.mem_of_getElem? hb)
    repeat walk_at "bj"
    refine i_list (by walk_at "bj_a") hl₂ rfl (map_get ha) (by omega) ?_ (by with_unfolding_all rfl)
    repeat walk_at "bj"
    refine o_mod (by rw [List.length_map]; omega) fun u' t' => ?_
    rw [List.length_map, show (i : Int) + 1 = ((i + 1 : Nat) : Int) by omega, fmod_nat]
    refine i_list (by walk_at "bj_a") hl₂ rfl (map_get hb) (by have := Nat.mod_lt (i + 1) (show 0 < R.length by omega); omega) ?_ (by with_unfolding_all rfl)
    repeat walk_at "bj"
    walk_at "bj_get"
    rw [en]
    repeat walk_at "bj"
    walk_at "bj_get"
    rw [ep]
    repeat walk_at "bj"
    exact te_next (by walk_at "bj_a") (by walk_at "bj_a") Iters.refl ⟨by repeat walk_at "bj_m", hs⟩
  · clear F' N₁
    rintro m₁ M h₂ t₂ ⟨hm, hs⟩ hIt F₂ N₂
    have hl₂ := hs _ hl rfl
    have hsub := hs.all hIt
    show wpAny _ _ _ _ _ _
    repeat walk_at "bj"
    have e : (decide ((0 : Int) ≤ ((R.map Value.ref).length : Int))) = true := decide_eq_true (by omega)
    rw [e]
    exact lv F₂ (News.sub N₂ hsub) fun F N => kk _ _ F N
end
end

section
local macro_rules | `(tactic| walk_at "bj_gn") => `(tactic| first | with_reducible exact gn_len _ | with_reducible exact gn_range _ | with_reducible exact gn_list _ | with_reducible exact gn_reversed _)
local macro_rules | `(tactic| walk_at "bj_bt") => `(tactic| first | with_reducible exact PySem.boot_len | with_reducible exact PyProof.Rows.boot_range | with_reducible exact PyProof.Rows.boot_list | with_reducible exact PyProof.Rows.boot_reversed)
local macro_rules | `(tactic| walk_at "bj_gl") => `(tactic| first | with_reducible exact gl_31 _ | with_reducible exact gl_59 _ | with_reducible exact gl_70 _ | with_reducible exact gl_77 _ | with_reducible exact gl_84 _ | with_reducible exact gl_91 _ | with_reducible exact gl_92 _ | with_reducible exact gl_99 _ | with_reducible exact gl_106 _ | with_reducible exact gl_113 _ | with_reducible exact gl_120 _ | with_reducible exact gl_127 _ | with_reducible exact gl_134 _)
local macro_rules | `(tactic| walk_at "bj_kp") => `(tactic| first | with_reducible exact kp_31 _ | with_reducible exact kp_59 _ | with_reducible exact kp_70 _ | with_reducible exact kp_77 _ | with_reducible exact kp_84 _ | with_reducible exact kp_91 _ | with_reducible exact kp_99 _ | with_reducible exact kp_106 _ | with_reducible exact kp_113 _ | with_reducible exact kp_120 _ | with_reducible exact kp_127 _ | with_reducible exact kp_134 _)
local macro_rules | `(tactic| walk_at "bj_m") => `(tactic| first | (with_reducible assumption) | (with_reducible exact m_here) | ((with_reducible refine m_there ?hmt ?_); (case hmt => decide); walk_at "bj_m") | rfl)
local macro_rules | `(tactic| walk_at "bj_a") => `(tactic| (with_reducible assumption))
local macro_rules | `(tactic| walk_at "bj") => `(tactic| first
  | (with_reducible refine s_nilR ?_)
  | ((with_reducible refine' s_assignAttr ?_ ?hs); (case hs => rfl))
  | ((with_reducible refine' s_assign ?_ ?hs); (case hs => rfl))
  | (with_reducible refine' s_if ?_)
  | (with_reducible refine' s_ret ?_)
  | (with_reducible refine' s_aug ?_)
  | ((with_reducible refine' e_L ?G ?F ?hx ?hv ?_ ?hdb); (case G => walk_at "bj_a"); (case F => walk_at "bj_a"); (case hx => rfl); (case hdb => rfl); (case hv => walk_at "bj_m"))
  | ((with_reducible refine' l_L ?G ?F ?hx ?hv ?_); (case G => walk_at "bj_a"); (case F => walk_at "bj_a"); (case hx => rfl); (case hv => walk_at "bj_m"))
  | ((with_reducible refine' e_st ?G ?F ?N ?hx ?_); (case G => walk_at "bj_a"); (case F => walk_at "bj_a"); (case N => walk_at "bj_a"); (case hx => rfl); intro h' t' F' N')
  | ((with_reducible refine' e_attr ?_ ?he); (case he => with_unfolding_all rfl))
  | ((with_reducible refine' t_cmp ?_ ?hm); (case hm => with_unfolding_all rfl))
  | ((with_reducible refine' e_cmp ?_ ?hm); (case hm => with_unfolding_all rfl))
  | (with_reducible refine' e_bin ?_)
  | (with_reducible refine' t_not ?_)
  | (with_reducible refine' t_and ?_)
  | (with_reducible refine' t_or ?_)
  | (with_reducible refine' t_andN ?_)
  | (with_reducible refine' t_orN ?_)
  | (with_reducible refine' e_ifx ?_)
  | (with_reducible refine' e_and ?_)
  | (with_reducible refine' e_and1 ?_)
  | (with_reducible refine' e_un ?_)
  | (with_reducible refine' tb_bool ?_)
  | (with_reducible refine' tb_none ?_)
  | ((with_reducible refine' o_add ?_); intro u' t')
  | ((with_reducible refine' o_iadd ?_); intro u' t')
  | ((with_reducible refine' o_isub ?_); intro u' t')
  | ((with_reducible refine' o_sub ?_); intro u' t')
  | ((with_reducible refine' o_mod ?_ ?_); (decide); intro u' t')
  | ((with_reducible refine' o_neg ?_); intro u' t')
  | (with_reducible refine' c_eq ?_)
  | (with_reducible refine' c_ne ?_)
  | (with_reducible refine' c_lt ?_)
  | (with_reducible refine' c_gt ?_)
  | (with_reducible refine' c_le ?_)
  | (with_reducible refine' c_ge ?_)
  | (with_reducible refine' c_isB ?_)
  | (with_reducible refine' c_isnB ?_)
  | (with_reducible refine' c_eqB ?_)
  | (with_reducible refine' c_neB ?_)
  | (with_reducible refine' c_isRN ?_)
  | (with_reducible refine' c_isNN ?_)
  | (with_reducible refine' c_isnRN ?_)
  | (with_reducible refine' c_isnNR ?_)
  | (with_reducible refine' c_isnNN ?_)
  | (with_reducible refine' c_isnRS ?_)
  | (with_reducible refine' c_isRS ?_)
  | (with_reducible refine' if_t ?_)
  | (with_reducible refine' if_f ?_)
  | (with_reducible refine' if_nt ?_)
  | (with_reducible refine' if_nf ?_)
  | ((with_reducible refine' e_callG ?G ?F ?hx ?hdb ?eg ?hk ?_ ?hc ?he ?hp); (case G => walk_at "bj_a"); (case F => walk_at "bj_a"); (case hx => rfl); (case hdb => rfl); (case eg => walk_at "bj_gl"); (case hk => walk_at "bj_kp"); (case hc => rfl); (case he => rfl); (case hp => rfl))
  | ((with_reducible refine' e_callB ?G ?F ?hx ?hdb ?eg ?hv ?hn ?_ ?hc ?he ?hp); (case G => walk_at "bj_a"); (case F => walk_at "bj_a"); (case hx => rfl); (case hdb => rfl); (case eg => walk_at "bj_gn"); (case hv => walk_at "bj_bt"); (case hn => decide); (case hc => rfl); (case he => rfl); (case hp => rfl))
  | ((with_reducible refine' e_callT ?G ?F ?hx ?hdb ?eg ?hv ?hn ?_ ?hc ?he ?hp); (case G => walk_at "bj_a"); (case F => walk_at "bj_a"); (case hx => rfl); (case hdb => rfl); (case eg => walk_at "bj_gn"); (case hv => walk_at "bj_bt"); (case hn => decide); (case hc => rfl); (case he => rfl); (case hp => rfl))
  | ((with_reducible refine' o_len ?N ?hm ?hf ?_); (case N => walk_at "bj_a"); (case hm => walk_at "bj_a"); (case hf => walk_at "bj_a"); intro u' t')
  | ((with_reducible refine' o_range ?F ?N ?_); (case F => walk_at "bj_a"); (case N => walk_at "bj_a"); intro rg' h' t' a' b' c' R' F' N')
  | (with_reducible refine' e_sub ?_)
  | ((with_reducible refine' s_for ?G ?hx ?_ ?hs); (case G => walk_at "bj_a"); (case hx => rfl); (case hs => intro _; rfl))
  | ((with_reducible refine' a_cons ?_ ?he); (case he => rfl))
  | (with_reducible refine' a_nil ?_)
  | ((with_reducible refine' a_in ?G ?F ?_); (case G => walk_at "bj_a"); (case F => walk_at "bj_a"))
  | ((with_reducible refine' t_plain ?_ ?he); (case he => rfl))
  | (with_reducible refine' e_none ?_)
  | (with_reducible refine' e_bool ?_)
  | ((with_reducible refine' e_int ?_); intro u' t'))
local macro_rules | `(tactic| walk_at "bj_g5") => `(tactic| ((case G => walk_at "bj_a"); (case F => walk_at "bj_a"); (case N => walk_at "bj_a"); (case T => walk_at "bj_a"); (case hS => walk_at "bj_a")))
local macro_rules | `(tactic| walk_at "bj_get") => `(tactic| first
  | ((with_reducible refine' tg_next ?G ?F ?N ?T ?hS ?_); (case G => walk_at "bj_a"); (case F => walk_at "bj_a"); (case N => walk_at "bj_a"); (case T => walk_at "bj_a"); (case hS => walk_at "bj_a"); intro t')
  | ((with_reducible refine' tg_prev ?G ?F ?N ?T ?hS ?_); (case G => walk_at "bj_a"); (case F => walk_at "bj_a"); (case N => walk_at "bj_a"); (case T => walk_at "bj_a"); (case hS => walk_at "bj_a"); intro t')
  | ((with_reducible refine' tg_pz ?G ?F ?N ?T ?hS ?_); (case G => walk_at "bj_a"); (case F => walk_at "bj_a"); (case N => walk_at "bj_a"); (case T => walk_at "bj_a"); (case hS => walk_at "bj_a"); intro t')
  | ((with_reducible refine' tg_nz ?G ?F ?N ?T ?hS ?_); (case G => walk_at "bj_a"); (case F => walk_at "bj_a"); (case N => walk_at "bj_a"); (case T => walk_at "bj_a"); (case hS => walk_at "bj_a"); intro t')
  | ((with_reducible refine' tg_i ?G ?F ?N ?T ?hS ?_); (case G => walk_at "bj_a"); (case F => walk_at "bj_a"); (case N => walk_at "bj_a"); (case T => walk_at "bj_a"); (case hS => walk_at "bj_a"); intro t')
  | ((with_reducible refine' tg_point ?G ?F ?N ?T ?hS ?_); (case G => walk_at "bj_a"); (case F => walk_at "bj_a"); (case N => walk_at "bj_a"); (case T => walk_at "bj_a"); (case hS => walk_at "bj_a"); intro t')
  | ((with_reducible refine' tg_x ?G ?F ?N ?T ?hS ?_); (case G => walk_at "bj_a"); (case F => walk_at "bj_a"); (case N => walk_at "bj_a"); (case T => walk_at "bj_a"); (case hS => walk_at "bj_a"); intro t')
  | ((with_reducible refine' tg_y ?G ?F ?N ?T ?hS ?_); (case G => walk_at "bj_a"); (case F => walk_at "bj_a"); (case N => walk_at "bj_a"); (case T => walk_at "bj_a"); (case hS => walk_at "bj_a"); intro t')
  | ((with_reducible refine' tg_z ?G ?F ?N ?T ?hS ?_); (case G => walk_at "bj_a"); (case F => walk_at "bj_a"); (case N => walk_at "bj_a"); (case T => walk_at "bj_a"); (case hS => walk_at "bj_a"); intro t')
  | ((with_reducible refine' tg_st ?G ?F ?N ?T ?hS ?_); (case G => walk_at "bj_a"); (case F => walk_at "bj_a"); (case N => walk_at "bj_a"); (case T => walk_at "bj_a"); (case hS => walk_at "bj_a"); intro t'))
local macro_rules | `(tactic| walk_at "bj_set") => `(tactic| (first
  | (with_reducible refine' ts_prev ?G ?F ?N ?T ?hS ?_)
  | (with_reducible refine' ts_next ?G ?F ?N ?T ?hS ?_)
  | (with_reducible refine' ts_pz ?G ?F ?N ?T ?hS ?_)
  | (with_reducible refine' ts_nz ?G ?F ?N ?T ?hS ?_)
  | (with_reducible refine' ts_prevR ?G ?F ?N ?T ?hS ?_)
  | (with_reducible refine' ts_nextR ?G ?F ?N ?T ?hS ?_)
  | (with_reducible refine' ts_pzR ?G ?F ?N ?T ?hS ?_)
  | (with_reducible refine' ts_nzR ?G ?F ?N ?T ?hS ?_)))
local macro_rules | `(tactic| walk_at "bj_il") => `(tactic| ((with_reducible refine' i_list ?N ?hm ?hi ?hx ?hj ?k ?hs); (case N => walk_at "bj_a"); (case hm => walk_at "bj_a"); (case hs => with_unfolding_all rfl)))
local macro_rules | `(tactic| walk_at "bj_it") => `(tactic| ((with_reducible refine' i_tup ?N ?hm ?hi ?hj ?hx ?k ?hs); (case N => walk_at "bj_a"); (case hm => walk_at "bj_a"); (case hs => with_unfolding_all rfl)))
section
variable {prog : Program} {w : World} {A : Around} {env : Env} {h₀ : Heap} {s₀ : Shared} {h : Heap} {t : Nat} {m : Str → Option Value} {N : Led} {r : Nat} {pos : Pos} {S : Addr → Prop} {nd : Addr → Nd}

theorem ite_dec {p : Prop} [Decidable p] {a b : Prop} (ht : p → a) (hf : ¬ p → b) : if decide p = true then a else b := by
  by_cases hp : p
  · rw [if_pos (decide_eq_true hp)]; exact ht hp
  · rw [if_neg (by rw [decide_eq_false hp]; decide)]; exact hf hp
theorem ite_beq {x y : Int} {a b : Prop} (ht : x = y → a) (hf : x ≠ y → b) : if (x == y) = true then a else b := by
  by_cases hp : x = y
  · rw [if_pos (beq_iff_eq.mpr hp)]; exact ht hp
  · rw [if_neg (by rw [beq_eq_false_iff_ne.mpr hp]; decide)]; exact hf hp
theorem s_ifF {test : Expr} {body rest : List Stmt} {Q : Flow → Shared → Prop}
    (k : wpAny (model prog w) A (isTrue test env (eval test env)) (fun b σ => b = false ∧ ∃ t', σ = stt s₀ h t') NE (stt s₀ h t))
    (j : ∀ t', wpAny (model prog w) A (execs rest env) Q NE (stt s₀ h t')) :
    wpAny (model prog w) A (execs (.If test body [] pos :: rest) env) Q NE (stt s₀ h t) := by
  refine s_if (wpAny_mono k (fun b σ z => ?_) fun _ _ z => z)
  obtain ⟨rfl, t', rfl⟩ := z
  exact if_f (s_nilR (j t'))

def ChainOk (nd : Addr → Nd) (C : List Addr) : Prop := ∀ i a, C[i]? = some a → (nd a).pz = (if i = 0 then none else C[i - 1]?) ∧ (nd a).nz = C[i + 1]?

theorem chain_call {Q : Value → Shared → Prop} {l : Addr} {C : List Addr} {k : Nat}
    (G : Gd w A env h₀ (r + 1)) (F : Fr h₀ env.locals h m) (N' : News h₀ env.locals h N) (T : Tab w.params N S nd) (hS : ∀ a ∈ C, S a) (hl : (l, PySem.W.listOf (C.map Value.ref).toArray k) ∈ N) (hR : C.length < 2 ^ 60) (ok : ChainOk nd C)
    (kk : ∀ h' t', Fr h₀ env.locals h' m → News h₀ env.locals h' N → Q (.bool true) (stt s₀ h' t')) :
    wpAny (model prog w) A (call (.ref 113) [.ref l] []) Q NE (stt s₀ h t) := by
  refine enter (binds := [("chain", .ref l)]) G F N' (look113 _) (code113 _) rfl rfl rfl rfl rfl rfl fun g L' h₁ t₁ G' F' N₁ => ?_
  have hlen : (C.map Value.ref).length < 2 ^ 62 := by rw [List.length_map]; omega
  unfold bd113 bdS113
  dsimp only
  repeat walk_at "bj"
  clear F' N₁
  rename_i F' N₁
  refine it_range (n := C.length) (fun _ m M => m "chain" = some (.ref l) ∧ Sub N M) G'.hh F' N₁ (by rw [← List.length_map (f := Value.ref)]; assumption) (by omega) (fun _ _ _ _ j s => ⟨j.1, j.2.trans s⟩) ⟨rfl, Sub.refl⟩ ?_ ?_
  · clear F' N₁
    rintro i u m₁ M h₂ t₂ hi ⟨hm, hs⟩ hIt F₂ N₂
    have hl₂ := hs _ hl rfl
    have T₂ := T.sub hs
    clear hIt T hl
    have ha : C[i]? = some C[i] := List.getElem?_eq_getElem hi
    generalize C[i] = a at ha
    obtain ⟨ep, en⟩ := ok i a ha
    have hSa := hS a (List.mem_of_getElem? ha)
    repeat walk_at "bj"
    refine i_list (by walk_at "bj_a") hl₂ rfl (map_get ha) (by omega) ?_ (by with_unfolding_all rfl)
    walk_at "bj"
    clear F₂ N₂
    refine s_ifF ?_ fun t' => ?_
    · repeat walk_at "bj"
      refine ite_dec (fun hp => ?_) (fun hn => ⟨rfl, _, rfl⟩)
      repeat walk_at "bj"
      walk_at "bj_get"
      repeat walk_at "bj"
      have hi' : i - 1 < C.length := by omega
      have hb : C[i - 1]? = some C[i - 1] := List.getElem?_eq_getElem hi'
      generalize C[i - 1] = b at hb
      rw [ep, if_neg (by omega), hb]
      refine i_list (j := i - 1) (by walk_at "bj_a") hl₂ (by omega) (map_get hb) (by omega) ?_ (by with_unfolding_all rfl)
      repeat walk_at "bj"
      exact ⟨rfl, _, rfl⟩
    refine s_ifF ?_ fun t' => ?_
    · repeat walk_at "bj"
      refine ite_beq (fun hp => ?_) (fun hn => ⟨rfl, _, rfl⟩)
      repeat walk_at "bj"
      walk_at "bj_get"
      rw [ep, if_pos (by omega)]
      repeat walk_at "bj"
      exact ⟨rfl, _, rfl⟩
    refine s_ifF ?_ fun t' => ?_
    · repeat walk_at "bj"
      rw [List.length_map]
      refine ite_dec (fun hp => ?_) (fun hn => ⟨rfl, _, rfl⟩)
      repeat walk_at "bj"
      walk_at "bj_get"
      repeat walk_at "bj"
      have hi' : i + 1 < C.length := by omega
      have hb : C[i + 1]? = some C[i + 1] := List.getElem?_eq_getElem hi'
      generalize C[i + 1] = b at hb
      rw [en, hb]
      refine i_list (j := i + 1) (by walk_at "bj_a") hl₂ (by omega) (map_get hb) (by omega) ?_ (by with_unfolding_all rfl)
      repeat walk_at "bj"
      exact ⟨rfl, _, rfl⟩
    refine s_ifF ?_ fun t' => ?_
    · repeat walk_at "bj"
      rw [List.length_map]
      refine ite_beq (fun hp => ?_) (fun hn => ⟨rfl, _, rfl⟩)
      repeat walk_at "bj"
      walk_at "bj_get"
      rw [en, List.getElem?_eq_none (by omega)]
      repeat walk_at "bj"
      exact ⟨rfl, _, rfl⟩
    exact te_next (by walk_at "bj_a") (by walk_at "bj_a") Iters.refl ⟨by repeat walk_at "bj_m", hs⟩
  · clear F' N₁
    rintro m₁ M h₂ t₂ ⟨hm, hs⟩ hIt F₂ N₂
    have hl₂ := hs _ hl rfl
    have hsub := hs.all hIt
    show wpAny _ _ _ _ _ _
    repeat walk_at "bj"
    have e : (decide ((0 : Int) ≤ ((C.map Value.ref).length : Int))) = true := decide_eq_true (by omega)
    rw [e]
    exact lv F₂ (News.sub N₂ hsub) fun F N => kk _ _ F N
end
end

section
local macro_rules | `(tactic| walk_at "bj_gn") => `(tactic| first | with_reducible exact gn_len _ | with_reducible exact gn_range _ | with_reducible exact gn_list _ | with_reducible exact gn_reversed _)
local macro_rules | `(tactic| walk_at "bj_bt") => `(tactic| first | with_reducible exact PySem.boot_len | with_reducible exact PyProof.Rows.boot_range | with_reducible exact PyProof.Rows.boot_list | with_reducible exact PyProof.Rows.boot_reversed)
local macro_rules | `(tactic| walk_at "bj_gl") => `(tactic| first | with_reducible exact gl_31 _ | with_reducible exact gl_59 _ | with_reducible exact gl_70 _ | with_reducible exact gl_77 _ | with_reducible exact gl_84 _ | with_reducible exact gl_91 _ | with_reducible exact gl_92 _ | with_reducible exact gl_99 _ | with_reducible exact gl_106 _ | with_reducible exact gl_113 _ | with_reducible exact gl_120 _ | with_reducible exact gl_127 _ | with_reducible exact gl_134 _)
local macro_rules | `(tactic| walk_at "bj_kp") => `(tactic| first | with_reducible exact kp_31 _ | with_reducible exact kp_59 _ | with_reducible exact kp_70 _ | with_reducible exact kp_77 _ | with_reducible exact kp_84 _ | with_reducible exact kp_91 _ | with_reducible exact kp_99 _ | with_reducible exact kp_106 _ | with_reducible exact kp_113 _ | with_reducible exact kp_120 _ | with_reducible exact kp_127 _ | with_reducible exact kp_134 _)
local macro_rules | `(tactic| walk_at "bj_m") => `(tactic| first | (with_reducible assumption) | (with_reducible exact m_here) | ((with_reducible refine m_there ?hmt ?_); (case hmt => decide); walk_at "bj_m") | rfl)
local macro_rules | `(tactic| walk_at "bj_a") => `(tactic| (with_reducible assumption))
local macro_rules | `(tactic| walk_at "bj") => `(tactic| first
  | (with_reducible refine s_nilR ?_)
  | ((with_reducible refine' s_assignAttr ?_ ?hs); (case hs => rfl))
  | ((with_reducible refine' s_assign ?_ ?hs); (case hs => rfl))
  | (with_reducible refine' s_if ?_)
  | (with_reducible refine' s_ret ?_)
  | (with_reducible refine' s_aug ?_)
  | ((with_reducible refine' e_L ?G ?F ?hx ?hv ?_ ?hdb); (case G => walk_at "bj_a"); (case F => walk_at "bj_a"); (case hx => rfl); (case hdb => rfl); (case hv => walk_at "bj_m"))
  | ((with_reducible refine' l_L ?G ?F ?hx ?hv ?_); (case G => walk_at "bj_a"); (case F => walk_at "bj_a"); (case hx => rfl); (case hv => walk_at "bj_m"))
  | ((with_reducible refine' e_st ?G ?F ?N ?hx ?_); (case G => walk_at "bj_a"); (case F => walk_at "bj_a"); (case N => walk_at "bj_a"); (case hx => rfl); intro h' t' F' N')
  | ((with_reducible refine' e_attr ?_ ?he); (case he => with_unfolding_all rfl))
  | ((with_reducible refine' t_cmp ?_ ?hm); (case hm => with_unfolding_all rfl))
  | ((with_reducible refine' e_cmp ?_ ?hm); (case hm => with_unfolding_all rfl))
  | (with_reducible refine' e_bin ?_)
  | (with_reducible refine' t_not ?_)
  | (with_reducible refine' t_and ?_)
  | (with_reducible refine' t_or ?_)
  | (with_reducible refine' t_andN ?_)
  | (with_reducible refine' t_orN ?_)
  | (with_reducible refine' e_ifx ?_)
  | (with_reducible refine' e_and ?_)
  | (with_reducible refine' e_and1 ?_)
  | (with_reducible refine' e_un ?_)
  | (with_reducible refine' tb_bool ?_)
  | (with_reducible refine' tb_none ?_)
  | ((with_reducible refine' o_add ?_); intro u' t')
  | ((with_reducible refine' o_iadd ?_); intro u' t')
  | ((with_reducible refine' o_isub ?_); intro u' t')
  | ((with_reducible refine' o_sub ?_); intro u' t')
  | ((with_reducible refine' o_mod ?_ ?_); (decide); intro u' t')
  | ((with_reducible refine' o_neg ?_); intro u' t')
  | (with_reducible refine' c_eq ?_)
  | (with_reducible refine' c_ne ?_)
  | (with_reducible refine' c_lt ?_)
  | (with_reducible refine' c_gt ?_)
  | (with_reducible refine' c_le ?_)
  | (with_reducible refine' c_ge ?_)
  | (with_reducible refine' c_isB ?_)
  | (with_reducible refine' c_isnB ?_)
  | (with_reducible refine' c_eqB ?_)
  | (with_reducible refine' c_neB ?_)
  | (with_reducible refine' c_isRN ?_)
  | (with_reducible refine' c_isNN ?_)
  | (with_reducible refine' c_isnRN ?_)
  | (with_reducible refine' c_isnNR ?_)
  | (with_reducible refine' c_isnNN ?_)
  | (with_reducible refine' c_isnRS ?_)
  | (with_reducible refine' c_isRS ?_)
  | (with_reducible refine' if_t ?_)
  | (with_reducible refine' if_f ?_)
  | (with_reducible refine' if_nt ?_)
  | (with_reducible refine' if_nf ?_)
  | ((with_reducible refine' e_callG ?G ?F ?hx ?hdb ?eg ?hk ?_ ?hc ?he ?hp); (case G => walk_at "bj_a"); (case F => walk_at "bj_a"); (case hx => rfl); (case hdb => rfl); (case eg => walk_at "bj_gl"); (case hk => walk_at "bj_kp"); (case hc => rfl); (case he => rfl); (case hp => rfl))
  | ((with_reducible refine' e_callB ?G ?F ?hx ?hdb ?eg ?hv ?hn ?_ ?hc ?he ?hp); (case G => walk_at "bj_a"); (case F => walk_at "bj_a"); (case hx => rfl); (case hdb => rfl); (case eg => walk_at "bj_gn"); (case hv => walk_at "bj_bt"); (case hn => decide); (case hc => rfl); (case he => rfl); (case hp => rfl))
  | ((with_reducible refine' e_callT ?G ?F ?hx ?hdb ?eg ?hv ?hn ?_ ?hc ?he ?hp); (case G => walk_at "bj_a"); (case F => walk_at "bj_a"); (case hx => rfl); (case hdb => rfl); (case eg => walk_at "bj_gn"); (case hv => walk_at "bj_bt"); (case hn => decide); (case hc => rfl); (case he => rfl); (case hp => rfl))
  | ((with_reducible refine' o_len ?N ?hm ?hf ?_); (case N => walk_at "bj_a"); (case hm => walk_at "bj_a"); (case hf => walk_at "bj_a"); intro u' t')
  | ((with_reducible refine' o_range ?F ?N ?_); (case F => walk_at "bj_a"); (case N => walk_at "bj_a"); intro rg' h' t' a' b' c' R' F' N')
  | (with_reducible refine' e_sub ?_)
  | ((with_reducible refine' s_for ?G ?hx ?_ ?hs); (case G => walk_at "bj_a"); (case hx => rfl); (case hs => intro _; rfl))
  | ((with_reducible refine' a_cons ?_ ?he); (case he => rfl))
  | (with_reducible refine' a_nil ?_)
  | ((with_reducible refine' a_in ?G ?F ?_); (case G => walk_at "bj_a"); (case F => walk_at "bj_a"))
  | ((with_reducible refine' t_plain ?_ ?he); (case he => rfl))
  | (with_reducible refine' e_none ?_)
  | (with_reducible refine' e_bool ?_)
  | ((with_reducible refine' e_int ?_); intro u' t'))
local macro_rules | `(tactic| walk_at "bj_g5") => `(tactic| ((case G => walk_at "bj_a"); (case F => walk_at "bj_a"); (case N => walk_at "bj_a"); (case T => walk_at "bj_a"); (case hS => walk_at "bj_a")))
local macro_rules | `(tactic| walk_at "bj_get") => `(tactic| first
  | ((with_reducible refine' tg_next ?G ?F ?N ?T ?hS ?_); (case G => walk_at "bj_a"); (case F => walk_at "bj_a"); (case N => walk_at "bj_a"); (case T => walk_at "bj_a"); (case hS => walk_at "bj_a"); intro t')
  | ((with_reducible refine' tg_prev ?G ?F ?N ?T ?hS ?_); (case G => walk_at "bj_a"); (case F => walk_at "bj_a"); (case N => walk_at "bj_a"); (case T => walk_at "bj_a"); (case hS => walk_at "bj_a"); intro t')
  | ((with_reducible refine' tg_pz ?G ?F ?N ?T ?hS ?_); (case G => walk_at "bj_a"); (case F => walk_at "bj_a"); (case N => walk_at "bj_a"); (case T => walk_at "bj_a"); (case hS => walk_at "bj_a"); intro t')
  | ((with_reducible refine' tg_nz ?G ?F ?N ?T ?hS ?_); (case G => walk_at "bj_a"); (case F => walk_at "bj_a"); (case N => walk_at "bj_a"); (case T => walk_at "bj_a"); (case hS => walk_at "bj_a"); intro t')
  | ((with_reducible refine' tg_i ?G ?F ?N ?T ?hS ?_); (case G => walk_at "bj_a"); (case F => walk_at "bj_a"); (case N => walk_at "bj_a"); (case T => walk_at "bj_a"); (case hS => walk_at "bj_a"); intro t')
  | ((with_reducible refine' tg_point ?G ?F ?N ?T ?hS ?_); (case G => walk_at "bj_a"); (case F => walk_at "bj_a"); (case N => walk_at "bj_a"); (case T => walk_at "bj_a"); (case hS => walk_at "bj_a"); intro t')
  | ((with_reducible refine' tg_x ?G ?F ?N ?T ?hS ?_); (case G => walk_at "bj_a"); (case F => walk_at "bj_a"); (case N => walk_at "bj_a"); (case T => walk_at "bj_a"); (case hS => walk_at "bj_a"); intro t')
  | ((with_reducible refine' tg_y ?G ?F ?N ?T ?hS ?_); (case G => walk_at "bj_a"); (case F => walk_at "bj_a"); (case N => walk_at "bj_a"); (case T => walk_at "bj_a"); (case hS => walk_at "bj_a"); intro t')
  | ((with_reducible refine' tg_z ?G ?F ?N ?T ?hS ?_); (case G => walk_at "bj_a"); (case F => walk_at "bj_a"); (case N => walk_at "bj_a"); (case T => walk_at "bj_a"); (case hS => walk_at "bj_a"); intro t')
  | ((with_reducible refine' tg_st ?G ?F ?N ?T ?hS ?_); (case G => walk_at "bj_a"); (case F => walk_at "bj_a"); (case N => walk_at "bj_a"); (case T => walk_at "bj_a"); (case hS => walk_at "bj_a"); intro t'))
local macro_rules | `(tactic| walk_at "bj_set") => `(tactic| (first
  | (with_reducible refine' ts_prev ?G ?F ?N ?T ?hS ?_)
  | (with_reducible refine' ts_next ?G ?F ?N ?T ?hS ?_)
  | (with_reducible refine' ts_pz ?G ?F ?N ?T ?hS ?_)
  | (with_reducible refine' ts_nz ?G ?F ?N ?T ?hS ?_)
  | (with_reducible refine' ts_prevR ?G ?F ?N ?T ?hS ?_)
  | (with_reducible refine' ts_nextR ?G ?F ?N ?T ?hS ?_)
  | (with_reducible refine' ts_pzR ?G ?F ?N ?T ?hS ?_)
  | (with_reducible refine' ts_nzR ?G ?F ?N ?T ?hS ?_)))
local macro_rules | `(tactic| walk_at "bj_il") => `(tactic| ((with_reducible refine' i_list ?N ?hm ?hi ?hx ?hj ?k ?hs); (case N => walk_at "bj_a"); (case hm => walk_at "bj_a"); (case hs => with_unfolding_all rfl)))
local macro_rules | `(tactic| walk_at "bj_it") => `(tactic| ((with_reducible refine' i_tup ?N ?hm ?hi ?hj ?hx ?k ?hs); (case N => walk_at "bj_a"); (case hm => walk_at "bj_a"); (case hs => with_unfolding_all rfl)))
section
variable {prog : Program} {w : World} {A : Around} {env : Env} {h₀ : Heap} {s₀ : Shared} {h : Heap} {t : Nat} {m : Str → Option Value} {N : Led} {r : Nat} {pos : Pos} {S : Addr → Prop} {nd : Addr → Nd}

theorem spot_call {Q : Value → Shared → Prop} {l x : Addr} {C : List Addr} {k : Nat}
    (G : Gd w A env h₀ (r + 1)) (F : Fr h₀ env.locals h m) (N' : News h₀ env.locals h N) (T : Tab w.params N S nd) (hS : ∀ a ∈ C, S a) (hx : S x) (hl : (l, PySem.W.listOf (C.map Value.ref).toArray k) ∈ N) (hR : C.length < 2 ^ 60)
    (kk1 : ∀ (j : Nat) h' t' u, C[j]? = some x → Fr h₀ env.locals h' m → News h₀ env.locals h' N → Q (.int (j : Int) u) (stt s₀ h' t'))
    (kk2 : ∀ h' t' u, x ∉ C → Fr h₀ env.locals h' m → News h₀ env.locals h' N → Q (.int (-1) u) (stt s₀ h' t')) :
    wpAny (model prog w) A (call (.ref 120) [.ref l, .ref x] []) Q NE (stt s₀ h t) := by
  refine enter (binds := [("chain", .ref l), ("node", .ref x)]) G F N' (look120 _) (code120 _) rfl rfl rfl rfl rfl rfl fun g L' h₁ t₁ G' F' N₁ => ?_
  have hlen : (C.map Value.ref).length < 2 ^ 62 := by rw [List.length_map]; omega
  unfold bd120 bdS120
  dsimp only
  repeat walk_at "bj"
  clear F' N₁
  rename_i F' N₁
  refine it_range (n := C.length) (fun i m M => m "chain" = some (.ref l) ∧ m "node" = some (.ref x) ∧ Sub N M ∧ ∀ j, j < i → C[j]? ≠ some x) G'.hh F' N₁ (by rw [← List.length_map (f := Value.ref)]; assumption) (by omega)
    (fun _ _ _ _ j s => ⟨j.1, j.2.1, j.2.2.1.trans s, j.2.2.2⟩) ⟨rfl, rfl, Sub.refl, fun j hj => absurd hj (Nat.not_lt_zero j)⟩ ?_ ?_
  · clear F' N₁
    rintro i u m₁ M h₂ t₂ hi ⟨hm, hm2, hs, hno⟩ hIt F₂ N₂
    have hl₂ := hs _ hl rfl
    have T₂ := T.sub hs
    have ha : C[i]? = some C[i] := List.getElem?_eq_getElem hi
    generalize C[i] = a at ha
    have hSa := hS a (List.mem_of_getElem? ha)
    repeat walk_at "bj"
    refine i_list (by walk_at "bj_a") hl₂ rfl (map_get ha) (by omega) ?_ (by with_unfolding_all rfl)
    repeat walk_at "bj"
    refine c_isR (by walk_at "bj_a") (T₂.has a hSa).1 (T₂.has x hx).1 (by intro e; cases e) ?_
    walk_at "bj"
    by_cases e : a = x
    · subst e
      rw [beq_self_eq_true]
      repeat walk_at "bj"
      exact lv F₂ (News.sub N₂ (hs.all hIt)) fun F N => kk1 i _ _ _ ha F N
    · rw [beq_eq_false_iff_ne.mpr e]
      repeat walk_at "bj"
      refine te_next (by walk_at "bj_a") (by walk_at "bj_a") Iters.refl ⟨by repeat walk_at "bj_m", by repeat walk_at "bj_m", hs, fun j hj => ?_⟩
      rcases Nat.lt_succ_iff_lt_or_eq.mp hj with h1 | rfl
      · exact hno j h1
      · rw [ha]; intro e2; exact e (Option.some.inj e2)
  · clear F' N₁
    rintro m₁ M h₂ t₂ ⟨hm, hm2, hs, hno⟩ hIt F₂ N₂
    have hsub := hs.all hIt
    show wpAny _ _ _ _ _ _
    repeat walk_at "bj"
    refine lv F₂ (News.sub N₂ hsub) fun F N => kk2 _ _ _ (fun hx => ?_) F N
    obtain ⟨i, hi, e⟩ := List.getElem_of_mem hx
    exact hno i hi (by rw [List.getElem?_eq_getElem hi, e])

theorem fresh_call {Q : Value → Shared → Prop} {x pa : Addr} {pp : Pt} {i : Int} {it : Tok}
    (G : Gd w A env h₀ (r + 1)) (F : Fr h₀ env.locals h m) (N' : News h₀ env.locals h N) (T : Tab w.params N S nd) (hx : S x) (H : HasP w.params N pa pp) (e1 : (nd x).i = i) (e2 : (nd x).pt = pa) (e3 : (nd x).x = pp.x) (e4 : (nd x).y = pp.y)
    (kk : ∀ h' t', Fr h₀ env.locals h' m → News h₀ env.locals h' N → Q (.bool true) (stt s₀ h' t')) :
    wpAny (model prog w) A (call (.ref 134) [.ref x, .int i it, .ref pa] []) Q NE (stt s₀ h t) := by
  refine enter (binds := [("made", .ref x), ("number", .int i it), ("point", .ref pa)]) G F N' (look134 _) (code134 _) rfl rfl rfl rfl rfl rfl fun g L' h₁ t₁ G' F' N₁ => ?_
  unfold bd134 bdS134
  dsimp only
  repeat walk_at "bj"
  walk_at "bj_get"
  rw [e1]
  repeat walk_at "bj"
  rw [beq_self_eq_true]
  repeat walk_at "bj"
  walk_at "bj_get"
  rw [e2]
  repeat walk_at "bj"
  walk_at "bj_get"
  repeat walk_at "bj"
  refine p_x G' F' N₁ H fun t' => ?_
  rw [e3]
  repeat walk_at "bj"
  rw [beq_self_eq_true]
  repeat walk_at "bj"
  walk_at "bj_get"
  repeat walk_at "bj"
  refine p_y G' F' N₁ H fun t' => ?_
  rw [e4]
  repeat walk_at "bj"
  rw [beq_self_eq_true]
  repeat walk_at "bj"
  walk_at "bj_get"
  repeat walk_at "bj"
  exact lv F' N₁ fun F N => kk _ _ F N
end
end

section
local macro_rules | `(tactic| walk_at "bj_gn") => `(tactic| first | with_reducible exact gn_len _ | with_reducible exact gn_range _ | with_reducible exact gn_list _ | with_reducible exact gn_reversed _)
local macro_rules | `(tactic| walk_at "bj_bt") => `(tactic| first | with_reducible exact PySem.boot_len | with_reducible exact PyProof.Rows.boot_range | with_reducible exact PyProof.Rows.boot_list | with_reducible exact PyProof.Rows.boot_reversed)
local macro_rules | `(tactic| walk_at "bj_gl") => `(tactic| first | with_reducible exact gl_31 _ | with_reducible exact gl_59 _ | with_reducible exact gl_70 _ | with_reducible exact gl_77 _ | with_reducible exact gl_84 _ | with_reducible exact gl_91 _ | with_reducible exact gl_92 _ | with_reducible exact gl_99 _ | with_reducible exact gl_106 _ | with_reducible exact gl_113 _ | with_reducible exact gl_120 _ | with_reducible exact gl_127 _ | with_reducible exact gl_134 _)
local macro_rules | `(tactic| walk_at "bj_kp") => `(tactic| first | with_reducible exact kp_31 _ | with_reducible exact kp_59 _ | with_reducible exact kp_70 _ | with_reducible exact kp_77 _ | with_reducible exact kp_84 _ | with_reducible exact kp_91 _ | with_reducible exact kp_99 _ | with_reducible exact kp_106 _ | with_reducible exact kp_113 _ | with_reducible exact kp_120 _ | with_reducible exact kp_127 _ | with_reducible exact kp_134 _)
local macro_rules | `(tactic| walk_at "bj_m") => `(tactic| first | (with_reducible assumption) | (with_reducible exact m_here) | ((with_reducible refine m_there ?hmt ?_); (case hmt => decide); walk_at "bj_m") | rfl)
local macro_rules | `(tactic| walk_at "bj_a") => `(tactic| (with_reducible assumption))
local macro_rules | `(tactic| walk_at "bj") => `(tactic| first
  | (with_reducible refine s_nilR ?_)
  | ((with_reducible refine' s_assignAttr ?_ ?hs); (case hs => rfl))
  | ((with_reducible refine' s_assign ?_ ?hs); (case hs => rfl))
  | (with_reducible refine' s_if ?_)
  | (with_reducible refine' s_ret ?_)
  | (with_reducible refine' s_aug ?_)
  | ((with_reducible refine' e_L ?G ?F ?hx ?hv ?_ ?hdb); (case G => walk_at "bj_a"); (case F => walk_at "bj_a"); (case hx => rfl); (case hdb => rfl); (case hv => walk_at "bj_m"))
  | ((with_reducible refine' l_L ?G ?F ?hx ?hv ?_); (case G => walk_at "bj_a"); (case F => walk_at "bj_a"); (case hx => rfl); (case hv => walk_at "bj_m"))
  | ((with_reducible refine' e_st ?G ?F ?N ?hx ?_); (case G => walk_at "bj_a"); (case F => walk_at "bj_a"); (case N => walk_at "bj_a"); (case hx => rfl); intro h' t' F' N')
  | ((with_reducible refine' e_attr ?_ ?he); (case he => with_unfolding_all rfl))
  | ((with_reducible refine' t_cmp ?_ ?hm); (case hm => with_unfolding_all rfl))
  | ((with_reducible refine' e_cmp ?_ ?hm); (case hm => with_unfolding_all rfl))
  | (with_reducible refine' e_bin ?_)
  | (with_reducible refine' t_not ?_)
  | (with_reducible refine' t_and ?_)
  | (with_reducible refine' t_or ?_)
  | (with_reducible refine' t_andN ?_)
  | (with_reducible refine' t_orN ?_)
  | (with_reducible refine' e_ifx ?_)
  | (with_reducible refine' e_and ?_)
  | (with_reducible refine' e_and1 ?_)
  | (with_reducible refine' e_un ?_)
  | (with_reducible refine' tb_bool ?_)
  | (with_reducible refine' tb_none ?_)
  | ((with_reducible refine' o_add ?_); intro u' t')
  | ((with_reducible refine' o_iadd ?_); intro u' t')
  | ((with_reducible refine' o_isub ?_); intro u' t')
  | ((with_reducible refine' o_sub ?_); intro u' t')
  | ((with_reducible refine' o_mod ?_ ?_); (decide); intro u' t')
  | ((with_reducible refine' o_neg ?_); intro u' t')
  | (with_reducible refine' c_eq ?_)
  | (with_reducible refine' c_ne ?_)
  | (with_reducible refine' c_lt ?_)
  | (with_reducible refine' c_gt ?_)
  | (with_reducible refine' c_le ?_)
  | (with_reducible refine' c_ge ?_)
  | (with_reducible refine' c_isB ?_)
  | (with_reducible refine' c_isnB ?_)
  | (with_reducible refine' c_eqB ?_)
  | (with_reducible refine' c_neB ?_)
  | (with_reducible refine' c_isRN ?_)
  | (with_reducible refine' c_isNN ?_)
  | (with_reducible refine' c_isnRN ?_)
  | (with_reducible refine' c_isnNR ?_)
  | (with_reducible refine' c_isnNN ?_)
  | (with_reducible refine' c_isnRS ?_)
  | (with_reducible refine' c_isRS ?_)
  | (with_reducible refine' if_t ?_)
  | (with_reducible refine' if_f ?_)
  | (with_reducible refine' if_nt ?_)
  | (with_reducible refine' if_nf ?_)
  | ((with_reducible refine' e_callG ?G ?F ?hx ?hdb ?eg ?hk ?_ ?hc ?he ?hp); (case G => walk_at "bj_a"); (case F => walk_at "bj_a"); (case hx => rfl); (case hdb => rfl); (case eg => walk_at "bj_gl"); (case hk => walk_at "bj_kp"); (case hc => rfl); (case he => rfl); (case hp => rfl))
  | ((with_reducible refine' e_callB ?G ?F ?hx ?hdb ?eg ?hv ?hn ?_ ?hc ?he ?hp); (case G => walk_at "bj_a"); (case F => walk_at "bj_a"); (case hx => rfl); (case hdb => rfl); (case eg => walk_at "bj_gn"); (case hv => walk_at "bj_bt"); (case hn => decide); (case hc => rfl); (case he => rfl); (case hp => rfl))
  | ((with_reducible refine' e_callT ?G ?F ?hx ?hdb ?eg ?hv ?hn ?_ ?hc ?he ?hp); (case G => walk_at "bj_a"); (case F => walk_at "bj_a"); (case hx => rfl); (case hdb => rfl); (case eg => walk_at "bj_gn"); (case hv => walk_at "bj_bt"); (case hn => decide); (case hc => rfl); (case he => rfl); (case hp => rfl))
  | ((with_reducible refine' o_len ?N ?hm ?hf ?_); (case N => walk_at "bj_a"); (case hm => walk_at "bj_a"); (case hf => walk_at "bj_a"); intro u' t')
  | ((with_reducible refine' o_range ?F ?N ?_); (case F => walk_at "bj_a"); (case N => walk_at "bj_a"); intro rg' h' t' a' b' c' R' F' N')
  | (with_reducible refine' e_sub ?_)
  | ((with_reducible refine' s_for ?G ?hx ?_ ?hs); (case G => walk_at "bj_a"); (case hx => rfl); (case hs => intro _; rfl))
  | ((with_reducible refine' a_cons ?_ ?he); (case he => rfl))
  | (with_reducible refine' a_nil ?_)
  | ((with_reducible refine' a_in ?G ?F ?_); (case G => walk_at "bj_a"); (case F => walk_at "bj_a"))
  | ((with_reducible refine' t_plain ?_ ?he); (case he => rfl))
  | (with_reducible refine' e_none ?_)
  | (with_reducible refine' e_bool ?_)
  | ((with_reducible refine' e_int ?_); intro u' t'))
local macro_rules | `(tactic| walk_at "bj_g5") => `(tactic| ((case G => walk_at "bj_a"); (case F => walk_at "bj_a"); (case N => walk_at "bj_a"); (case T => walk_at "bj_a"); (case hS => walk_at "bj_a")))
local macro_rules | `(tactic| walk_at "bj_get") => `(tactic| first
  | ((with_reducible refine' tg_next ?G ?F ?N ?T ?hS ?_); (case G => walk_at "bj_a"); (case F => walk_at "bj_a"); (case N => walk_at "bj_a"); (case T => walk_at "bj_a"); (case hS => walk_at "bj_a"); intro t')
  | ((with_reducible refine' tg_prev ?G ?F ?N ?T ?hS ?_); (case G => walk_at "bj_a"); (case F => walk_at "bj_a"); (case N => walk_at "bj_a"); (case T => walk_at "bj_a"); (case hS => walk_at "bj_a"); intro t')
  | ((with_reducible refine' tg_pz ?G ?F ?N ?T ?hS ?_); (case G => walk_at "bj_a"); (case F => walk_at "bj_a"); (case N => walk_at "bj_a"); (case T => walk_at "bj_a"); (case hS => walk_at "bj_a"); intro t')
  | ((with_reducible refine' tg_nz ?G ?F ?N ?T ?hS ?_); (case G => walk_at "bj_a"); (case F => walk_at "bj_a"); (case N => walk_at "bj_a"); (case T => walk_at "bj_a"); (case hS => walk_at "bj_a"); intro t')
  | ((with_reducible refine' tg_i ?G ?F ?N ?T ?hS ?_); (case G => walk_at "bj_a"); (case F => walk_at "bj_a"); (case N => walk_at "bj_a"); (case T => walk_at "bj_a"); (case hS => walk_at "bj_a"); intro t')
  | ((with_reducible refine' tg_point ?G ?F ?N ?T ?hS ?_); (case G => walk_at "bj_a"); (case F => walk_at "bj_a"); (case N => walk_at "bj_a"); (case T => walk_at "bj_a"); (case hS => walk_at "bj_a"); intro t')
  | ((with_reducible refine' tg_x ?G ?F ?N ?T ?hS ?_); (case G => walk_at "bj_a"); (case F => walk_at "bj_a"); (case N => walk_at "bj_a"); (case T => walk_at "bj_a"); (case hS => walk_at "bj_a"); intro t')
  | ((with_reducible refine' tg_y ?G ?F ?N ?T ?hS ?_); (case G => walk_at "bj_a"); (case F => walk_at "bj_a"); (case N => walk_at "bj_a"); (case T => walk_at "bj_a"); (case hS => walk_at "bj_a"); intro t')
  | ((with_reducible refine' tg_z ?G ?F ?N ?T ?hS ?_); (case G => walk_at "bj_a"); (case F => walk_at "bj_a"); (case N => walk_at "bj_a"); (case T => walk_at "bj_a"); (case hS => walk_at "bj_a"); intro t')
  | ((with_reducible refine' tg_st ?G ?F ?N ?T ?hS ?_); (case G => walk_at "bj_a"); (case F => walk_at "bj_a"); (case N => walk_at "bj_a"); (case T => walk_at "bj_a"); (case hS => walk_at "bj_a"); intro t'))
local macro_rules | `(tactic| walk_at "bj_set") => `(tactic| (first
  | (with_reducible refine' ts_prev ?G ?F ?N ?T ?hS ?_)
  | (with_reducible refine' ts_next ?G ?F ?N ?T ?hS ?_)
  | (with_reducible refine' ts_pz ?G ?F ?N ?T ?hS ?_)
  | (with_reducible refine' ts_nz ?G ?F ?N ?T ?hS ?_)
  | (with_reducible refine' ts_prevR ?G ?F ?N ?T ?hS ?_)
  | (with_reducible refine' ts_nextR ?G ?F ?N ?T ?hS ?_)
  | (with_reducible refine' ts_pzR ?G ?F ?N ?T ?hS ?_)
  | (with_reducible refine' ts_nzR ?G ?F ?N ?T ?hS ?_)))
local macro_rules | `(tactic| walk_at "bj_il") => `(tactic| ((with_reducible refine' i_list ?N ?hm ?hi ?hx ?hj ?k ?hs); (case N => walk_at "bj_a"); (case hm => walk_at "bj_a"); (case hs => with_unfolding_all rfl)))
local macro_rules | `(tactic| walk_at "bj_it") => `(tactic| ((with_reducible refine' i_tup ?N ?hm ?hi ?hj ?hx ?k ?hs); (case N => walk_at "bj_a"); (case hm => walk_at "bj_a"); (case hs => with_unfolding_all rfl)))
section
variable {prog : Program} {w : World} {A : Around} {env : Env} {h₀ : Heap} {s₀ : Shared} {h : Heap} {t : Nat} {m : Str → Option Value} {N : Led} {r : Nat} {pos : Pos} {S : Addr → Prop} {nd : Addr → Nd} {x y : Addr}

theorem eq_call {Q : Value → Shared → Prop}
    (G : Gd w A env h₀ (r + 1)) (F : Fr h₀ env.locals h m) (N' : News h₀ env.locals h N) (T : Tab w.params N S nd) (hx : S x) (hy : S y)
    (kk : ∀ h' t', Fr h₀ env.locals h' m → News h₀ env.locals h' N → Q (.bool ((nd x).x == (nd y).x && (nd x).y == (nd y).y)) (stt s₀ h' t')) :
    wpAny (model prog w) A (call (.ref 56) [.ref x, .ref y] []) Q NE (stt s₀ h t) := by
  refine enter (binds := [("self", .ref x), ("other", .ref y)]) G F N' (look56 _) (code56 _) rfl rfl rfl rfl rfl rfl fun g L' h₁ t₁ G' F' N₁ => ?_
  unfold bd56 bdS56
  dsimp only
  repeat walk_at "bj"
  walk_at "bj_get"
  repeat walk_at "bj"
  walk_at "bj_get"
  repeat walk_at "bj"
  cases e : (nd x).x == (nd y).x with
  | false =>
    rw [if_neg (by decide)]
    rw [e, Bool.false_and] at kk
    exact lv F' N₁ fun F N => kk _ _ F N
  | true =>
    rw [if_pos rfl]
    rw [e, Bool.true_and] at kk
    repeat walk_at "bj"
    walk_at "bj_get"
    repeat walk_at "bj"
    walk_at "bj_get"
    repeat walk_at "bj"
    exact lv F' N₁ fun F N => kk _ _ F N

theorem in1_gd (G : Gd w A env h₀ (r + 1)) : Gd w A.in1 env h₀ r := ⟨G.X, G.T, G.hke, G.hgl, G.hbl, by have := G.hd; show A.depth + r < _; omega, by have := G.hu; show A.units + 1 + 10 * r < _; omega, G.hh⟩

theorem c_nodeEq {Q : Value → Shared → Prop}
    (G : Gd w A env h₀ (r + 1)) (F : Fr h₀ env.locals h m) (N' : News h₀ env.locals h N) (T : Tab w.params N S nd) (hx : S x) (hy : S y)
    (kk : ∀ h' t', Fr h₀ env.locals h' m → News h₀ env.locals h' N → Q (.bool ((nd x).x == (nd y).x && (nd x).y == (nd y).y)) (stt s₀ h' t')) :
    wpAny (model prog w) A (compareOp .Eq (.ref x) (.ref y)) Q NE (stt s₀ h t) := by
  refine cmp_ofEq ?_
  refine cmp_K (s := stt s₀ h t) (tb := .ref 59) (by have := G.hu; omega) F G.X (InstAt.of_news N' (T.has x hx).1 (T.has x hx).2) (InstAt.of_news N' (T.has y hy).1 (T.has y hy).2).type rfl (fi59_eq _) rfl ?_
  exact eq_call G F N' T hx hy fun h' t' F₁ N₁ => kk h' t' F₁ N₁

theorem ownEq {hh : Heap} (X : (bjT.heap_39 w.params).In hh) (o : Obj) (ho : hh.get? x = some o) (hc : o.cls = .ref 59) : hh.OwnEqNoNe x 59 56 "object" [.type "object"] := by
  have h58 := X 58 _ rfl
  refine ⟨o, _, _, _, 58, _, true, [], [], false, none, none, _, _, _, _, _, "object.__new__", _, some (.builtin "object.__eq__"), ho, hc, X 59 _ rfl, ⟨_, _, _, h58, rfl, ?_, fun _ => rfl⟩, rfl, X 56 _ rfl, rfl, rfl, PySem.F.cmp_object.eq.lookup, rfl⟩
  intro e he
  rw [← Array.mem_toList_iff] at he
  repeat (rcases List.mem_cons.mp he with rfl | he; exact ⟨_, _, rfl⟩)
  cases he

theorem c_nodeNe {Q : Value → Shared → Prop}
    (G : Gd w A env h₀ (r + 2)) (F : Fr h₀ env.locals h m) (N' : News h₀ env.locals h N) (T : Tab w.params N S nd) (hx : S x) (hy : S y)
    (kk : ∀ h' t', Fr h₀ env.locals h' m → News h₀ env.locals h' N → Q (.bool (!((nd x).x == (nd y).x && (nd x).y == (nd y).y))) (stt s₀ h' t')) :
    wpAny (model prog w) A (compareOp .NotEq (.ref x) (.ref y)) Q NE (stt s₀ h t) := by
  refine compareOp_ne_ownEq (h := h) (g := s₀.gens) (d := s₀.drawn) (t := t) (os := s₀.os) PySem.F.cmp_object (ownEq (G.X.keeps F.keep) _ (N' _ (T.has x hx).1).1 rfl) (N' _ (T.has y hy).1).1 rfl (by have := G.hu; omega) ?_
  exact eq_call (in1_gd G) F N' T hx hy fun h' t' F₁ N₁ => ⟨_, rfl, kk h' t' F₁ N₁⟩
end
end

section
local macro_rules | `(tactic| walk_at "bj_gn") => `(tactic| first | with_reducible exact gn_len _ | with_reducible exact gn_range _ | with_reducible exact gn_list _ | with_reducible exact gn_reversed _)
local macro_rules | `(tactic| walk_at "bj_bt") => `(tactic| first | with_reducible exact PySem.boot_len | with_reducible exact PyProof.Rows.boot_range | with_reducible exact PyProof.Rows.boot_list | with_reducible exact PyProof.Rows.boot_reversed)
local macro_rules | `(tactic| walk_at "bj_gl") => `(tactic| first | with_reducible exact gl_31 _ | with_reducible exact gl_59 _ | with_reducible exact gl_70 _ | with_reducible exact gl_77 _ | with_reducible exact gl_84 _ | with_reducible exact gl_91 _ | with_reducible exact gl_92 _ | with_reducible exact gl_99 _ | with_reducible exact gl_106 _ | with_reducible exact gl_113 _ | with_reducible exact gl_120 _ | with_reducible exact gl_127 _ | with_reducible exact gl_134 _)
local macro_rules | `(tactic| walk_at "bj_kp") => `(tactic| first | with_reducible exact kp_31 _ | with_reducible exact kp_59 _ | with_reducible exact kp_70 _ | with_reducible exact kp_77 _ | with_reducible exact kp_84 _ | with_reducible exact kp_91 _ | with_reducible exact kp_99 _ | with_reducible exact kp_106 _ | with_reducible exact kp_113 _ | with_reducible exact kp_120 _ | with_reducible exact kp_127 _ | with_reducible exact kp_134 _)
local macro_rules | `(tactic| walk_at "bj_m") => `(tactic| first | (with_reducible assumption) | (with_reducible exact m_here) | ((with_reducible refine m_there ?hmt ?_); (case hmt => decide); walk_at "bj_m") | rfl)
local macro_rules | `(tactic| walk_at "bj_a") => `(tactic| (with_reducible assumption))
local macro_rules | `(tactic| walk_at "bj") => `(tactic| first
  | (with_reducible refine s_nilR ?_)
  | ((with_reducible refine' s_assignAttr ?_ ?hs); (case hs => rfl))
  | ((with_reducible refine' s_assign ?_ ?hs); (case hs => rfl))
  | (with_reducible refine' s_if ?_)
  | (with_reducible refine' s_ret ?_)
  | (with_reducible refine' s_aug ?_)
  | ((with_reducible refine' e_L ?G ?F ?hx ?hv ?_ ?hdb); (case G => walk_at "bj_a"); (case F => walk_at "bj_a"); (case hx => rfl); (case hdb => rfl); (case hv => walk_at "bj_m"))
  | ((with_reducible refine' l_L ?G ?F ?hx ?hv ?_); (case G => walk_at "bj_a"); (case F => walk_at "bj_a"); (case hx => rfl); (case hv => walk_at "bj_m"))
  | ((with_reducible refine' e_st ?G ?F ?N ?hx ?_); (case G => walk_at "bj_a"); (case F => walk_at "bj_a"); (case N => walk_at "bj_a"); (case hx => rfl); intro h' t' F' N')
  | ((with_reducible refine' e_attr ?_ ?he); (case he => with_unfolding_all rfl))
  | ((with_reducible refine' t_cmp ?_ ?hm); (case hm => with_unfolding_all rfl))
  | ((with_reducible refine' e_cmp ?_ ?hm); (case hm => with_unfolding_all rfl))
  | (with_reducible refine' e_bin ?_)
  | (with_reducible refine' t_not ?_)
  | (with_reducible refine' t_and ?_)
  | (with_reducible refine' t_or ?_)
  | (with_reducible refine' t_andN ?_)
  | (with_reducible refine' t_orN ?_)
  | (with_reducible refine' e_ifx ?_)
  | (with_reducible refine' e_and ?_)
  | (with_reducible refine' e_and1 ?_)
  | (with_reducible refine' e_un ?_)
  | (with_reducible refine' tb_bool ?_)
  | (with_reducible refine' tb_none ?_)
  | ((with_reducible refine' o_add ?_); intro u' t')
  | ((with_reducible refine' o_iadd ?_); intro u' t')
  | ((with_reducible refine' o_isub ?_); intro u' t')
  | ((with_reducible refine' o_sub ?_); intro u' t')
  | ((with_reducible refine' o_mod ?_ ?_); (decide); intro u' t')
  | ((with_reducible refine' o_neg ?_); intro u' t')
  | (with_reducible refine' c_eq ?_)
  | (with_reducible refine' c_ne ?_)
  | (with_reducible refine' c_lt ?_)
  | (with_reducible refine' c_gt ?_)
  | (with_reducible refine' c_le ?_)
  | (with_reducible refine' c_ge ?_)
  | (with_reducible refine' c_isB ?_)
  | (with_reducible refine' c_isnB ?_)
  | (with_reducible refine' c_eqB ?_)
  | (with_reducible refine' c_neB ?_)
  | (with_reducible refine' c_isRN ?_)
  | (with_reducible refine' c_isNN ?_)
  | (with_reducible refine' c_isnRN ?_)
  | (with_reducible refine' c_isnNR ?_)
  | (with_reducible refine' c_isnNN ?_)
  | (with_reducible refine' c_isnRS ?_)
  | (with_reducible refine' c_isRS ?_)
  | (with_reducible refine' if_t ?_)
  | (with_reducible refine' if_f ?_)
  | (with_reducible refine' if_nt ?_)
  | (with_reducible refine' if_nf ?_)
  | ((with_reducible refine' e_callG ?G ?F ?hx ?hdb ?eg ?hk ?_ ?hc ?he ?hp); (case G => walk_at "bj_a"); (case F => walk_at "bj_a"); (case hx => rfl); (case hdb => rfl); (case eg => walk_at "bj_gl"); (case hk => walk_at "bj_kp"); (case hc => rfl); (case he => rfl); (case hp => rfl))
  | ((with_reducible refine' e_callB ?G ?F ?hx ?hdb ?eg ?hv ?hn ?_ ?hc ?he ?hp); (case G => walk_at "bj_a"); (case F => walk_at "bj_a"); (case hx => rfl); (case hdb => rfl); (case eg => walk_at "bj_gn"); (case hv => walk_at "bj_bt"); (case hn => decide); (case hc => rfl); (case he => rfl); (case hp => rfl))
  | ((with_reducible refine' e_callT ?G ?F ?hx ?hdb ?eg ?hv ?hn ?_ ?hc ?he ?hp); (case G => walk_at "bj_a"); (case F => walk_at "bj_a"); (case hx => rfl); (case hdb => rfl); (case eg => walk_at "bj_gn"); (case hv => walk_at "bj_bt"); (case hn => decide); (case hc => rfl); (case he => rfl); (case hp => rfl))
  | ((with_reducible refine' o_len ?N ?hm ?hf ?_); (case N => walk_at "bj_a"); (case hm => walk_at "bj_a"); (case hf => walk_at "bj_a"); intro u' t')
  | ((with_reducible refine' o_range ?F ?N ?_); (case F => walk_at "bj_a"); (case N => walk_at "bj_a"); intro rg' h' t' a' b' c' R' F' N')
  | (with_reducible refine' e_sub ?_)
  | ((with_reducible refine' s_for ?G ?hx ?_ ?hs); (case G => walk_at "bj_a"); (case hx => rfl); (case hs => intro _; rfl))
  | ((with_reducible refine' a_cons ?_ ?he); (case he => rfl))
  | (with_reducible refine' a_nil ?_)
  | ((with_reducible refine' a_in ?G ?F ?_); (case G => walk_at "bj_a"); (case F => walk_at "bj_a"))
  | ((with_reducible refine' t_plain ?_ ?he); (case he => rfl))
  | (with_reducible refine' e_none ?_)
  | (with_reducible refine' e_bool ?_)
  | ((with_reducible refine' e_int ?_); intro u' t'))
local macro_rules | `(tactic| walk_at "bj_g5") => `(tactic| ((case G => walk_at "bj_a"); (case F => walk_at "bj_a"); (case N => walk_at "bj_a"); (case T => walk_at "bj_a"); (case hS => walk_at "bj_a")))
local macro_rules | `(tactic| walk_at "bj_get") => `(tactic| first
  | ((with_reducible refine' tg_next ?G ?F ?N ?T ?hS ?_); (case G => walk_at "bj_a"); (case F => walk_at "bj_a"); (case N => walk_at "bj_a"); (case T => walk_at "bj_a"); (case hS => walk_at "bj_a"); intro t')
  | ((with_reducible refine' tg_prev ?G ?F ?N ?T ?hS ?_); (case G => walk_at "bj_a"); (case F => walk_at "bj_a"); (case N => walk_at "bj_a"); (case T => walk_at "bj_a"); (case hS => walk_at "bj_a"); intro t')
  | ((with_reducible refine' tg_pz ?G ?F ?N ?T ?hS ?_); (case G => walk_at "bj_a"); (case F => walk_at "bj_a"); (case N => walk_at "bj_a"); (case T => walk_at "bj_a"); (case hS => walk_at "bj_a"); intro t')
  | ((with_reducible refine' tg_nz ?G ?F ?N ?T ?hS ?_); (case G => walk_at "bj_a"); (case F => walk_at "bj_a"); (case N => walk_at "bj_a"); (case T => walk_at "bj_a"); (case hS => walk_at "bj_a"); intro t')
  | ((with_reducible refine' tg_i ?G ?F ?N ?T ?hS ?_); (case G => walk_at "bj_a"); (case F => walk_at "bj_a"); (case N => walk_at "bj_a"); (case T => walk_at "bj_a"); (case hS => walk_at "bj_a"); intro t')
  | ((with_reducible refine' tg_point ?G ?F ?N ?T ?hS ?_); (case G => walk_at "bj_a"); (case F => walk_at "bj_a"); (case N => walk_at "bj_a"); (case T => walk_at "bj_a"); (case hS => walk_at "bj_a"); intro t')
  | ((with_reducible refine' tg_x ?G ?F ?N ?T ?hS ?_); (case G => walk_at "bj_a"); (case F => walk_at "bj_a"); (case N => walk_at "bj_a"); (case T => walk_at "bj_a"); (case hS => walk_at "bj_a"); intro t')
  | ((with_reducible refine' tg_y ?G ?F ?N ?T ?hS ?_); (case G => walk_at "bj_a"); (case F => walk_at "bj_a"); (case N => walk_at "bj_a"); (case T => walk_at "bj_a"); (case hS => walk_at "bj_a"); intro t')
  | ((with_reducible refine' tg_z ?G ?F ?N ?T ?hS ?_); (case G => walk_at "bj_a"); (case F => walk_at "bj_a"); (case N => walk_at "bj_a"); (case T => walk_at "bj_a"); (case hS => walk_at "bj_a"); intro t')
  | ((with_reducible refine' tg_st ?G ?F ?N ?T ?hS ?_); (case G => walk_at "bj_a"); (case F => walk_at "bj_a"); (case N => walk_at "bj_a"); (case T => walk_at "bj_a"); (case hS => walk_at "bj_a"); intro t'))
local macro_rules | `(tactic| walk_at "bj_set") => `(tactic| (first
  | (with_reducible refine' ts_prev ?G ?F ?N ?T ?hS ?_)
  | (with_reducible refine' ts_next ?G ?F ?N ?T ?hS ?_)
  | (with_reducible refine' ts_pz ?G ?F ?N ?T ?hS ?_)
  | (with_reducible refine' ts_nz ?G ?F ?N ?T ?hS ?_)
  | (with_reducible refine' ts_prevR ?G ?F ?N ?T ?hS ?_)
  | (with_reducible refine' ts_nextR ?G ?F ?N ?T ?hS ?_)
  | (with_reducible refine' ts_pzR ?G ?F ?N ?T ?hS ?_)
  | (with_reducible refine' ts_nzR ?G ?F ?N ?T ?hS ?_)))
local macro_rules | `(tactic| walk_at "bj_il") => `(tactic| ((with_reducible refine' i_list ?N ?hm ?hi ?hx ?hj ?k ?hs); (case N => walk_at "bj_a"); (case hm => walk_at "bj_a"); (case hs => with_unfolding_all rfl)))
local macro_rules | `(tactic| walk_at "bj_it") => `(tactic| ((with_reducible refine' i_tup ?N ?hm ?hi ?hj ?hx ?k ?hs); (case N => walk_at "bj_a"); (case hm => walk_at "bj_a"); (case hs => with_unfolding_all rfl)))
/-! the sums -/
def sarea (f : Nat → Int × Int) (n : Nat) : Nat → Int
  | 0 => 0
  | i + 1 => sarea f n i + ((f i).1 - (f (if i = 0 then n - 1 else i - 1)).1) * ((f i).2 + (f (if i = 0 then n - 1 else i - 1)).2)
def twice (f : Nat → Int × Int) (n : Nat) : Nat → Int
  | 0 => 0
  | i + 1 => twice f n i + (f i).1 * (f ((i + 1) % n)).2 - (f ((i + 1) % n)).1 * (f i).2
theorem sarea_step (f : Nat → Int × Int) (n : Nat) : ∀ i, i + 1 ≤ n → sarea f n (i + 1) = (f 0).1 * (f (n - 1)).2 - (f (n - 1)).1 * (f 0).2 + (f i).1 * (f i).2 - (f (n - 1)).1 * (f (n - 1)).2 - twice f n i
  | 0, _ => by
    simp only [sarea, twice, if_true]
    grind
  | i + 1, h => by
    have ih := sarea_step f n i (by omega)
    have e : (i + 1) % n = i + 1 := Nat.mod_eq_of_lt (by omega)
    rw [sarea, ih, twice, e, if_neg (by omega)]
    simp only [Nat.add_sub_cancel]
    grind
theorem sarea_twice (f : Nat → Int × Int) (n : Nat) : sarea f n n = - twice f n n := by
  cases n with
  | zero => rfl
  | succ k =>
    have h := sarea_step f (k + 1) k (Nat.le_refl _)
    rw [h, twice, Nat.mod_self]
    simp only [Nat.add_sub_cancel]
    grind

theorem bits_small {b : Int} (h0 : 0 ≤ b) (h1 : b ≤ 6) : Builtin.Int.intBits b ≤ 64 := by
  have : b = 0 ∨ b = 1 ∨ b = 2 ∨ b = 3 ∨ b = 4 ∨ b = 5 ∨ b = 6 := by omega
  rcases this with rfl | rfl | rfl | rfl | rfl | rfl | rfl <;> decide

structure Tp where
  x : Int
  xt : Tok
  y : Int
  yt : Tok
def tupD (p : Tp) : Obj := { cls := .type "tuple", data := .seq [Value.int p.x p.xt, .int p.y p.yt].toArray }
theorem tup_it {p : Tp} : isIter (tupD p) = false := rfl
theorem tup_nd {P : Params} {p : Tp} : ∀ n, tupD p ≠ nodeD P n := ne_seq

section
variable {prog : Program} {w : World} {A : Around} {env : Env} {h₀ : Heap} {s₀ : Shared} {h : Heap} {t : Nat} {m : Str → Option Value} {N : Led} {r : Nat} {pos : Pos} {S : Addr → Prop} {nd : Addr → Nd}

theorem int_cong {a b : Int} {u : Tok} (e : a = b) : some (Value.int a u) = some (Value.int b u) := by rw [e]
theorem tb_int {a : Int} {ta : Tok} {Q : Bool → Shared → Prop} (k : Q (a != 0) (stt s₀ h t)) : wpAny (model prog w) A (truthy (.int a ta)) Q NE (stt s₀ h t) := PyProof.Rows.truthy_int (s := stt s₀ h t) k
theorem twice_call {Q : Value → Shared → Prop} {l : Addr} {rs : List Addr} {k : Nat} {tp : Addr → Tp} {f : Nat → Int × Int}
    (G : Gd w A env h₀ (r + 1)) (F : Fr h₀ env.locals h m) (N' : News h₀ env.locals h N) (hl : (l, PySem.W.listOf (rs.map Value.ref).toArray k) ∈ N) (hT : ∀ a ∈ rs, (a, tupD (tp a)) ∈ N) (hR : rs.length < 2 ^ 60)
    (hf : ∀ i a, rs[i]? = some a → (tp a).x = (f i).1 ∧ (tp a).y = (f i).2) (hy : ∀ i, i < rs.length → 0 ≤ (f i).2 ∧ (f i).2 ≤ 3)
    (kk : ∀ h' t' u, Fr h₀ env.locals h' m → News h₀ env.locals h' N → Q (.int (twice f rs.length rs.length) u) (stt s₀ h' t')) :
    wpAny (model prog w) A (call (.ref 99) [.ref l] []) Q NE (stt s₀ h t) := by
  refine enter (binds := [("rows", .ref l)]) G F N' (look99 _) (code99 _) rfl rfl rfl rfl rfl rfl fun g L' h₁ t₁ G' F' N₁ => ?_
  have hlen : (rs.map Value.ref).length < 2 ^ 62 := by rw [List.length_map]; omega
  unfold bd99 bdS99
  dsimp only
  repeat walk_at "bj"
  refine it_range (n := rs.length) (fun i m M => m "rows" = some (.ref l) ∧ (∃ u, m "total" = some (.int (twice f rs.length i) u)) ∧ Sub N M) G'.hh (by walk_at "bj_a") (by walk_at "bj_a") (by rw [← List.length_map (f := Value.ref)]; assumption) (by omega) (fun _ _ _ _ j s => ⟨j.1, j.2.1, j.2.2.trans s⟩)
    ⟨by repeat walk_at "bj_m", ⟨_, by repeat walk_at "bj_m"⟩, Sub.refl⟩ ?_ ?_
  · clear F' N₁
    rintro i u m₁ M h₂ t₂ hi ⟨hm, ⟨ut, hmt⟩, hs⟩ hIt F₂ N₂
    have hl₂ := hs _ hl rfl
    obtain ⟨b, hb⟩ := nx_some hi
    have ha : rs[i]? = some rs[i] := List.getElem?_eq_getElem hi
    generalize rs[i] = a at ha
    have hTa := hs _ (hT a (List.mem_of_getElem? ha)) tup_it
    have hTb := hs _ (hT b (List.mem_of_getElem? hb)) tup_it
    have hmod : (i + 1) % rs.length < rs.length := Nat.mod_lt _ (by omega)
    have ea := hf i a ha
    have eb := hf _ b hb
    have ya := hy i hi
    have yb := hy _ hmod
    repeat walk_at "bj"
    refine i_list (by walk_at "bj_a") hl₂ rfl (map_get ha) (by omega) ?_ (by with_unfolding_all rfl)
    repeat walk_at "bj"
    refine o_mod (by rw [List.length_map]; omega) fun u' t' => ?_
    rw [List.length_map, show (i : Int) + 1 = ((i + 1 : Nat) : Int) by omega, fmod_nat]
    refine i_list (by walk_at "bj_a") hl₂ rfl (map_get hb) (by omega) ?_ (by with_unfolding_all rfl)
    repeat walk_at "bj"
    refine i_tup (j := 0) (by walk_at "bj_a") hTa rfl (by omega) rfl ?_ (by with_unfolding_all rfl)
    repeat walk_at "bj"
    refine i_tup (j := 1) (by walk_at "bj_a") hTb rfl (by omega) rfl ?_ (by with_unfolding_all rfl)
    refine o_mul (.of_right (bits_small (by omega) (by omega))) fun u' t' => ?_
    repeat walk_at "bj"
    refine i_tup (j := 0) (by walk_at "bj_a") hTb rfl (by omega) rfl ?_ (by with_unfolding_all rfl)
    repeat walk_at "bj"
    refine i_tup (j := 1) (by walk_at "bj_a") hTa rfl (by omega) rfl ?_ (by with_unfolding_all rfl)
    refine o_mul (.of_right (bits_small (by omega) (by omega))) fun u' t' => ?_
    repeat walk_at "bj"
    refine te_next (by walk_at "bj_a") (by walk_at "bj_a") Iters.refl ⟨by repeat walk_at "bj_m", ⟨_, m_here.trans (int_cong ?_)⟩, hs⟩
    rw [twice, ea.1, ea.2, eb.1, eb.2]
  · clear F' N₁
    rintro m₁ M h₂ t₂ ⟨hm, ⟨ut, hmt⟩, hs⟩ hIt F₂ N₂
    have hsub := hs.all hIt
    show wpAny _ _ _ _ _ _
    repeat walk_at "bj"
    exact lv F₂ (News.sub N₂ hsub) fun F N => kk _ _ _ F N

theorem area_call {Q : Value → Shared → Prop} {l : Addr} {ps : List Addr} {k : Nat} {pp : Addr → Pt} {f : Nat → Int × Int}
    (G : Gd w A env h₀ (r + 1)) (F : Fr h₀ env.locals h m) (N' : News h₀ env.locals h N) (hl : (l, PySem.W.listOf (ps.map Value.ref).toArray k) ∈ N) (hP : ∀ a ∈ ps, HasP w.params N a (pp a)) (hR : ps.length < 2 ^ 60)
    (hf : ∀ i a, ps[i]? = some a → (pp a).x = (f i).1 ∧ (pp a).y = (f i).2) (hy : ∀ i, i < ps.length → 0 ≤ (f i).2 ∧ (f i).2 ≤ 3)
    (kk : ∀ h' t' u, Fr h₀ env.locals h' m → News h₀ env.locals h' N → Q (.int (sarea f ps.length ps.length) u) (stt s₀ h' t')) :
    wpAny (model prog w) A (call (.ref 77) [.ref l] []) Q NE (stt s₀ h t) := by
  refine enter (binds := [("points", .ref l)]) G F N' (look77 _) (code77 _) rfl rfl rfl rfl rfl rfl fun g L' h₁ t₁ G' F' N₁ => ?_
  have hlen : (ps.map Value.ref).length < 2 ^ 62 := by rw [List.length_map]; omega
  unfold bd77 bdS77
  dsimp only
  repeat walk_at "bj"
  refine tb_int ?_
  by_cases h0 : ps = []
  · subst h0
    rw [if_pos (by rfl)]
    repeat walk_at "bj"
    exact lv (by walk_at "bj_a") (by walk_at "bj_a") fun F N => kk _ _ _ F N
  have hpos : 0 < ps.length := List.length_pos_iff.mpr h0
  have e0 : (((ps.map Value.ref).length : Int) != 0) = true := bne_iff_ne.mpr (by rw [List.length_map]; omega)
  rw [e0]
  have hq : ps[ps.length - 1]? = some ps[ps.length - 1] := List.getElem?_eq_getElem (by omega)
  generalize ps[ps.length - 1] = q at hq
  repeat walk_at "bj"
  refine i_listN (by walk_at "bj_a") hl (by omega) (by rw [List.length_map]; omega) (x := .ref q) (by rw [List.length_map, show ((-1 : Int) + (ps.length : Int)).toNat = ps.length - 1 by omega]; exact map_get hq) hlen ?_ (by with_unfolding_all rfl)
  repeat walk_at "bj"
  refine it_list (vs := ps.map Value.ref) (k := k) (fun i m M => (∃ u, m "s" = some (.int (sarea f ps.length i) u)) ∧ (∃ pv, ps[if i = 0 then ps.length - 1 else i - 1]? = some pv ∧ m "prev" = some (.ref pv)) ∧ Sub N M) G'.hh (by walk_at "bj_a") (by walk_at "bj_a") (fun i m M j => j.2.2 _ hl rfl)
    (fun _ _ _ _ j s => ⟨j.1, j.2.1, j.2.2.trans s⟩) ⟨⟨_, by repeat walk_at "bj_m"⟩, ⟨q, hq, by repeat walk_at "bj_m"⟩, Sub.refl⟩ ?_ ?_
  · rintro i v m₁ M h₂ t₂ hv ⟨⟨us, hms⟩, ⟨pv, hpv, hmp⟩, hs⟩ hIt F₂ N₂
    have hi : i < ps.length := by have := (List.getElem?_eq_some_iff.mp hv).1; rwa [List.length_map] at this
    have ha : ps[i]? = some ps[i] := List.getElem?_eq_getElem hi
    generalize ps[i] = a at ha
    rw [map_get ha] at hv
    obtain rfl := Option.some.inj hv
    have Ha := (hP a (List.mem_of_getElem? ha)).sub' hs
    have Hp := (hP pv (List.mem_of_getElem? hpv)).sub' hs
    have ea := hf i a ha
    have ep := hf _ pv hpv
    have ya := hy i hi
    have yp := hy _ (List.getElem?_eq_some_iff.mp hpv).1
    repeat walk_at "bj"
    refine p_x G' (by walk_at "bj_a") (by walk_at "bj_a") Ha fun t' => ?_
    repeat walk_at "bj"
    refine p_x G' (by walk_at "bj_a") (by walk_at "bj_a") Hp fun t' => ?_
    repeat walk_at "bj"
    refine p_y G' (by walk_at "bj_a") (by walk_at "bj_a") Ha fun t' => ?_
    repeat walk_at "bj"
    refine p_y G' (by walk_at "bj_a") (by walk_at "bj_a") Hp fun t' => ?_
    repeat walk_at "bj"
    refine o_mul (.of_right (bits_small (by omega) (by omega))) fun u' t' => ?_
    repeat walk_at "bj"
    refine te_next (by walk_at "bj_a") (by walk_at "bj_a") Iters.refl ⟨⟨_, (m_there (x := "prev") (z := "s") (by decide) m_here).trans (int_cong ?_)⟩, ⟨a, by rw [if_neg (by omega)]; exact ha, by repeat walk_at "bj_m"⟩, hs⟩
    rw [sarea, ea.1, ea.2, ep.1, ep.2]
  · rintro m₁ M h₂ t₂ ⟨⟨us, hms⟩, _, hs⟩ hIt F₂ N₂
    have hsub := hs.all hIt
    rw [List.length_map] at hms
    show wpAny _ _ _ _ _ _
    repeat walk_at "bj"
    exact lv F₂ (News.sub N₂ hsub) fun F N => kk _ _ _ F N
end
end

section
/-! the plain law: rings and rows -/
section
variable {nd nd' : Addr → Nd} {p q c a b : Addr} {n : Nd}

theorem upd_next {x : Addr} {n : Nd} {y : Addr} : (upd nd x n y).next = if y = x then n.next else (nd y).next := by unfold upd; split <;> rfl
theorem upd_prev {x : Addr} {n : Nd} {y : Addr} : (upd nd x n y).prev = if y = x then n.prev else (nd y).prev := by unfold upd; split <;> rfl
theorem upd_pz {x : Addr} {n : Nd} {y : Addr} : (upd nd x n y).pz = if y = x then n.pz else (nd y).pz := by unfold upd; split <;> rfl
theorem upd_nz {x : Addr} {n : Nd} {y : Addr} : (upd nd x n y).nz = if y = x then n.nz else (nd y).nz := by unfold upd; split <;> rfl

/-- all but the links -/
def Alike (n n' : Nd) : Prop := n.i = n'.i ∧ n.pt = n'.pt ∧ n.x = n'.x ∧ n.y = n'.y
theorem Alike.refl : Alike n n := ⟨rfl, rfl, rfl, rfl⟩
theorem Alike.trans {n n' n'' : Nd} (a : Alike n n') (b : Alike n' n'') : Alike n n'' := ⟨a.1.trans b.1, a.2.1.trans b.2.1, a.2.2.1.trans b.2.2.1, a.2.2.2.trans b.2.2.2⟩
theorem upd_alike {x : Addr} {n : Nd} (h : Alike n (nd x)) (y : Addr) : Alike (upd nd x n y) (nd y) := by
  unfold upd
  split
  · rename_i e; subst e; exact h
  · exact .refl
theorem s_alike1 {n : Nd} {o : Option Addr} : Alike (n.s_next o) n := .refl
theorem s_alike2 {n : Nd} {o : Option Addr} : Alike (n.s_prev o) n := .refl
theorem s_alike3 {n : Nd} {o : Option Addr} : Alike (n.s_pz o) n := .refl
theorem s_alike4 {n : Nd} {o : Option Addr} : Alike (n.s_nz o) n := .refl

/-! what an insertion does -/
theorem insN_next (hq : q ≠ p) (a : Addr) : (insN nd p q c n a).next = if a = p then some c else if a = q then some p else (nd a).next := by
  unfold insN ins1 ins2
  simp only [upd_next, Nd.s_next, Nd.s_prev]
  grind
theorem insN_prev (hc : c ≠ p) (a : Addr) : (insN nd p q c n a).prev = if a = p then some q else if a = c then some p else (nd a).prev := by
  unfold insN ins1 ins2
  simp only [upd_prev, Nd.s_next, Nd.s_prev]
  grind
theorem insN_pz (a : Addr) : (insN nd p q c n a).pz = if a = p then n.pz else (nd a).pz := by
  unfold insN ins1 ins2
  simp only [upd_pz, Nd.s_next, Nd.s_prev]
  grind
theorem insN_nz (a : Addr) : (insN nd p q c n a).nz = if a = p then n.nz else (nd a).nz := by
  unfold insN ins1 ins2
  simp only [upd_nz, Nd.s_next, Nd.s_prev]
  grind
theorem insN_alike (a : Addr) : Alike (insN nd p q c n a) (upd nd p n a) := by
  unfold insN ins1 ins2
  exact (upd_alike s_alike1 _).trans ((upd_alike s_alike2 _).trans ((upd_alike s_alike2 _).trans (upd_alike s_alike1 _)))
theorem insZ_next (a : Addr) : (insZ nd p n a).next = if a = p then some p else (nd a).next := by
  unfold insZ ins1 ins2
  simp only [upd_next, Nd.s_next, Nd.s_prev]
  grind
theorem insZ_prev (a : Addr) : (insZ nd p n a).prev = if a = p then some p else (nd a).prev := by
  unfold insZ ins1 ins2
  simp only [upd_prev, Nd.s_next, Nd.s_prev]
  grind
theorem insZ_pz (a : Addr) : (insZ nd p n a).pz = if a = p then n.pz else (nd a).pz := by
  unfold insZ ins1 ins2
  simp only [upd_pz, Nd.s_next, Nd.s_prev]
  grind
theorem insZ_nz (a : Addr) : (insZ nd p n a).nz = if a = p then n.nz else (nd a).nz := by
  unfold insZ ins1 ins2
  simp only [upd_nz, Nd.s_next, Nd.s_prev]
  grind
theorem insZ_alike (a : Addr) : Alike (insZ nd p n a) (upd nd p n a) := by
  unfold insZ ins1 ins2
  exact (upd_alike s_alike1 _).trans (upd_alike s_alike2 _)

/-! what a removal does -/
theorem rm3_next (x : Addr) : (rm3 nd p x).next = (nd x).next := by
  unfold rm3; cases (nd p).pz with
  | none => rfl
  | some z =>
    rw [upd_next]; split
    · rename_i e; subst e; rfl
    · rfl
theorem rm4_next (x : Addr) : (rm4 nd p x).next = (nd x).next := by
  unfold rm4; cases (nd p).nz with
  | none => rfl
  | some z =>
    rw [upd_next]; split
    · rename_i e; subst e; rfl
    · rfl
theorem rm3_prev (x : Addr) : (rm3 nd p x).prev = (nd x).prev := by
  unfold rm3; cases (nd p).pz with
  | none => rfl
  | some z =>
    rw [upd_prev]; split
    · rename_i e; subst e; rfl
    · rfl
theorem rm4_prev (x : Addr) : (rm4 nd p x).prev = (nd x).prev := by
  unfold rm4; cases (nd p).nz with
  | none => rfl
  | some z =>
    rw [upd_prev]; split
    · rename_i e; subst e; rfl
    · rfl
theorem rm3_pz (x : Addr) : (rm3 nd p x).pz = (nd x).pz := by
  unfold rm3; cases (nd p).pz with
  | none => rfl
  | some z =>
    rw [upd_pz]; split
    · rename_i e; subst e; rfl
    · rfl
theorem rm4_nz (x : Addr) : (rm4 nd p x).nz = (nd x).nz := by
  unfold rm4; cases (nd p).nz with
  | none => rfl
  | some z =>
    rw [upd_nz]; split
    · rename_i e; subst e; rfl
    · rfl
theorem rm3_nz (x : Addr) : (rm3 nd p x).nz = if some x = (nd p).pz then (nd p).nz else (nd x).nz := by
  unfold rm3
  cases e : (nd p).pz with
  | none => simp
  | some z => simp only [upd_nz, Nd.s_nz, Option.some.injEq]
theorem rm4_pz (x : Addr) : (rm4 nd p x).pz = if some x = (nd p).nz then (nd p).pz else (nd x).pz := by
  unfold rm4
  cases e : (nd p).nz with
  | none => simp
  | some z => simp only [upd_pz, Nd.s_pz, Option.some.injEq]
theorem rmv_next (ea : (nd p).next = some a) (x : Addr) : (rmv nd p a b x).next = if x = b then some a else (nd x).next := by
  unfold rmv
  rw [rm4_next, rm3_next]
  unfold rm2 rm1
  simp only [upd_next, Nd.s_next, Nd.s_prev]
  grind
theorem rmv_prev (x : Addr) : (rmv nd p a b x).prev = if x = a then some b else (nd x).prev := by
  unfold rmv
  rw [rm4_prev, rm3_prev]
  unfold rm2 rm1
  simp only [upd_prev, Nd.s_next, Nd.s_prev]
  grind
theorem rmv_nz (x : Addr) : (rmv nd p a b x).nz = if some x = (nd p).pz then (nd p).nz else (nd x).nz := by
  unfold rmv
  rw [rm4_nz, rm3_nz, rm2_pz, rm2_nz, rm2_nz]
theorem rmv_pz (x : Addr) : (rmv nd p a b x).pz = if some x = (nd p).nz then (nd p).pz else (nd x).pz := by
  unfold rmv
  rw [rm4_pz, rm3_pz, rm3_pz, rm3_nz, rm2_pz, rm2_nz, rm2_pz]
  split <;> simp_all
theorem rm3_own : (rm3 (rm2 (rm1 nd a b) p b) p p).nz = (nd p).nz := by
  rw [rm3_nz, rm2_pz, rm2_nz]; split <;> rfl
theorem rmv_alike (x : Addr) : Alike (rmv nd p a b x) (nd x) := by
  have h3 : ∀ nd : Addr → Nd, Alike (rm3 nd p x) (nd x) := fun nd => by
    unfold rm3; cases (nd p).pz with
    | none => exact .refl
    | some z => exact upd_alike s_alike4 _
  have h4 : ∀ nd : Addr → Nd, Alike (rm4 nd p x) (nd x) := fun nd => by
    unfold rm4; cases (nd p).nz with
    | none => exact .refl
    | some z => exact upd_alike s_alike3 _
  unfold rmv
  refine (h4 _).trans ((h3 _).trans ?_)
  unfold rm2 rm1
  exact (upd_alike s_alike1 _).trans (upd_alike s_alike2 _)

/-! paths and rings -/
def Seg (nd : Addr → Nd) : List Addr → Prop
  | a :: b :: r => (nd a).next = some b ∧ (nd b).prev = some a ∧ Seg nd (b :: r)
  | _ => True
def Ring (nd : Addr → Nd) (R : List Addr) : Prop := match R with
  | [] => True
  | a :: r => Seg nd (a :: r ++ [a])

theorem Seg.split : ∀ {l r : List Addr}, Seg nd (l ++ a :: r) ↔ Seg nd (l ++ [a]) ∧ Seg nd (a :: r)
  | [], r => by simp [Seg]
  | [x], r => by
    simp only [List.cons_append, List.nil_append, Seg, and_true]
    exact ⟨fun h => ⟨⟨h.1, h.2.1⟩, h.2.2⟩, fun h => ⟨h.1.1, h.1.2, h.2⟩⟩
  | x :: y :: l, r => by
    have ih := Seg.split (l := y :: l) (r := r)
    simp only [List.cons_append, Seg] at ih ⊢
    rw [ih]
    exact ⟨fun h => ⟨⟨h.1, h.2.1, h.2.2.1⟩, h.2.2.2⟩, fun h => ⟨h.1.1, h.1.2.1, h.1.2.2, h.2⟩⟩
theorem Seg.mono : ∀ {l : List Addr}, Seg nd l → (∀ x ∈ l.dropLast, (nd' x).next = (nd x).next) → (∀ x ∈ l.tail, (nd' x).prev = (nd x).prev) → Seg nd' l
  | [], _, _, _ => trivial
  | [_], _, _, _ => trivial
  | a :: b :: r, h, h1, h2 => by
    refine ⟨(h1 a ?_).trans h.1, (h2 b (.head _)).trans h.2.1, Seg.mono h.2.2 (fun x hx => h1 x ?_) (fun x hx => h2 x ?_)⟩
    · simp [List.dropLast]
    · simp only [List.dropLast_cons_cons, List.mem_cons]; exact .inr hx
    · exact List.mem_of_mem_tail hx
theorem Ring.rot {A B : List Addr} (h : Ring nd (A ++ B)) : Ring nd (B ++ A) := by
  cases A with
  | nil => simpa using h
  | cons a A =>
    cases B with
    | nil => simpa using h
    | cons b B =>
      unfold Ring at h ⊢
      simp only [List.cons_append, List.append_assoc] at h ⊢
      have h1 := (Seg.split (l := a :: A) (r := B ++ [a])).mp (by simpa using h)
      have := (Seg.split (nd := nd) (a := a) (l := b :: B) (r := A ++ [b])).mpr ⟨by simpa using h1.2, by simpa using h1.1⟩
      simpa using this

theorem Ring.ok {R : List Addr} (h : Ring nd R) : RingOk nd R := by
  intro i a b ha hb
  obtain ⟨hi, e⟩ := List.getElem?_eq_some_iff.mp ha
  have hs : R = R.take i ++ a :: R.drop (i + 1) := by
    rw [← e, ← List.drop_eq_getElem_cons hi, List.take_append_drop]
  have hr : Ring nd (a :: R.drop (i + 1) ++ R.take i) := Ring.rot (A := R.take i) (B := a :: R.drop (i + 1)) (hs ▸ h)
  have key : ∀ X : List Addr, Ring nd (a :: X) → (X ++ [a])[0]? = some b → (nd a).next = some b ∧ (nd b).prev = some a := fun X hX hx => by
    unfold Ring at hX
    cases X with
    | nil => simp at hx; subst hx; exact ⟨hX.1, hX.2.1⟩
    | cons y Y => simp at hx; subst hx; exact ⟨hX.1, hX.2.1⟩
  refine key (R.drop (i + 1) ++ R.take i) hr ?_
  by_cases hl : i + 1 < R.length
  · rw [Nat.mod_eq_of_lt hl] at hb
    rw [List.append_assoc, List.getElem?_append_left (by rw [List.length_drop]; omega), List.getElem?_drop]
    exact hb
  · have hl' : i + 1 = R.length := by omega
    rw [hl', Nat.mod_self] at hb
    rw [List.drop_eq_nil_of_le (by omega), List.nil_append]
    cases i with
    | zero =>
      rw [ha] at hb
      simpa using hb
    | succ j =>
      rw [List.getElem?_append_left (by rw [List.length_take]; omega), List.getElem?_take_of_lt (by omega)]
      exact hb

theorem Ring.ins {X : List Addr} (h : Ring nd (q :: X)) (hq : q ≠ p) (hn : (q :: X).Nodup) (hp : p ∉ X) (ec : (nd q).next = some c) : Ring (insN nd p q c n) (q :: p :: X) := by
  unfold Ring at h ⊢
  have hc : c = (X ++ [q]).head (by simp) := by
    cases X with
    | nil => simp only [List.cons_append, List.nil_append, Seg] at h; rw [ec] at h; simpa using Option.some.inj h.1
    | cons y Y => simp only [List.cons_append, Seg] at h; rw [ec] at h; simpa using Option.some.inj h.1
  have hcp : c ≠ p := by
    cases X with
    | nil => simp at hc; rw [hc]; exact hq
    | cons y Y => simp at hc; rw [hc]; intro e; exact hp (e ▸ .head _)
  obtain ⟨hqX, hX⟩ := List.nodup_cons.mp hn
  cases X with
  | nil =>
    simp at hc; subst hc
    refine ⟨?_, ?_, ?_, ?_, trivial⟩
    · rw [insN_next hq, if_neg hq, if_pos rfl]
    · rw [insN_prev hcp, if_pos rfl]
    · rw [insN_next hq, if_pos rfl]
    · rw [insN_prev hcp, if_neg hq, if_pos rfl]
  | cons y Y =>
    simp at hc; subst hc
    have h2 : Seg nd (c :: Y ++ [q]) := h.2.2
    have hcq : c ≠ q := fun e => hqX (e ▸ .head _)
    obtain ⟨hcY, hY⟩ := List.nodup_cons.mp hX
    refine ⟨?_, ?_, ?_, ?_, Seg.mono h2 (fun x hx => ?_) (fun x hx => ?_)⟩
    · rw [insN_next hq, if_neg hq, if_pos rfl]
    · rw [insN_prev hcp, if_pos rfl]
    · rw [insN_next hq, if_pos rfl]
    · rw [insN_prev hcp, if_neg hcp, if_pos rfl]
    · replace hx : x ∈ ((c :: Y) ++ [q]).dropLast := hx
      rw [List.dropLast_concat] at hx
      rw [insN_next hq, if_neg (fun e : x = p => hp (e ▸ hx)), if_neg (fun e : x = q => hqX (e ▸ hx))]
    · replace hx : x ∈ Y ++ [q] := hx
      rw [List.mem_append, List.mem_singleton] at hx
      have h1 : x ≠ p := by intro e; subst e; rcases hx with hx | hx; exact hp (.tail _ hx); exact hq hx.symm
      have h2 : x ≠ c := by intro e; subst e; rcases hx with hx | hx; exact hcY hx; exact hcq hx
      rw [insN_prev hcp, if_neg h1, if_neg h2]

theorem Ring.rem {X : List Addr} (h : Ring nd (p :: X)) (hn : (p :: X).Nodup) (ea : (nd p).next = some a) (eb : (nd p).prev = some b) : Ring (rmv nd p a b) X := by
  cases X with
  | nil => trivial
  | cons y Y =>
    unfold Ring at h ⊢
    simp only [List.cons_append, Seg] at h
    have hay : a = y := Option.some.inj (ea.symm.trans h.1)
    subst hay
    obtain ⟨hpX, hX⟩ := List.nodup_cons.mp hn
    obtain ⟨haY, hY⟩ := List.nodup_cons.mp hX
    have h2 : Seg nd (a :: Y ++ [p]) := h.2.2
    obtain ⟨D, b', e⟩ : ∃ D b', a :: Y = D ++ [b'] := ⟨_, _, (List.dropLast_concat_getLast (by simp)).symm⟩
    have h3 : Seg nd (D ++ b' :: [p]) := by
      have : a :: Y ++ [p] = D ++ b' :: [p] := by rw [e, List.append_assoc]; rfl
      rw [← this]; exact h2
    obtain ⟨h4, h5⟩ := Seg.split.mp h3
    have hbb : b = b' := Option.some.inj (eb.symm.trans h5.2.1)
    subst hbb
    have hnd : (D ++ [b]).Nodup := e ▸ hX
    have hbD : b ∉ D := fun hm => by
      rw [List.nodup_append] at hnd
      exact hnd.2.2 b hm b (by simp) rfl
    have h6 : Seg (rmv nd p a b) (D ++ [b]) := by
      refine Seg.mono h4 (fun x hx => ?_) (fun x hx => ?_)
      · rw [List.dropLast_concat] at hx
        rw [rmv_next ea, if_neg (fun z : x = b => hbD (z ▸ hx))]
      · rw [← e] at hx
        replace hx : x ∈ Y := hx
        rw [rmv_prev, if_neg (fun z : x = a => haY (z ▸ hx))]
    have h7 : Seg (rmv nd p a b) (D ++ b :: [a]) := by
      refine Seg.split.mpr ⟨h6, ?_, ?_, trivial⟩
      · rw [rmv_next ea, if_pos rfl]
      · rw [rmv_prev, if_pos rfl]
    have e8 : D ++ b :: [a] = a :: Y ++ [a] := by rw [e, List.append_assoc]; rfl
    rw [e8] at h7
    exact h7
end
end

section
section
variable {nd nd' : Addr → Nd} {p q c a b : Addr} {n : Nd} {pre post : Option Addr}

theorem Ring.mono {R : List Addr} (h : Ring nd R) (h1 : ∀ x ∈ R, (nd' x).next = (nd x).next) (h2 : ∀ x ∈ R, (nd' x).prev = (nd x).prev) : Ring nd' R := by
  cases R with
  | nil => trivial
  | cons a r =>
    refine Seg.mono h (fun x hx => h1 x ?_) (fun x hx => h2 x ?_)
    · rw [List.dropLast_concat] at hx; exact hx
    · replace hx : x ∈ r ++ [a] := hx
      rcases List.mem_append.mp hx with hx | hx
      · exact .tail _ hx
      · rw [List.mem_singleton.mp hx]; exact .head _

def CZ (nd : Addr → Nd) (pre post : Option Addr) : List Addr → Prop
  | [] => True
  | a :: r => (nd a).pz = pre ∧ (nd a).nz = r.head?.or post ∧ CZ nd (some a) post r
theorem CZ.append : ∀ {A B : List Addr} {pre : Option Addr}, CZ nd pre post (A ++ B) ↔ CZ nd pre (B.head?.or post) A ∧ CZ nd (A.getLast?.or pre) post B
  | [], B, pre => by simp [CZ]
  | a :: r, B, pre => by
    have ih := CZ.append (A := r) (B := B) (pre := some a)
    have e1 : (r ++ B).head?.or post = r.head?.or (B.head?.or post) := by cases r <;> simp
    have e2 : (a :: r).getLast?.or pre = r.getLast?.or (some a) := by cases r <;> simp [List.getLast?_cons]
    rw [List.cons_append]
    simp only [CZ]
    rw [ih, e1, e2]
    exact ⟨fun h => ⟨⟨h.1, h.2.1, h.2.2.1⟩, h.2.2.2⟩, fun h => ⟨h.1.1, h.1.2.1, h.1.2.2, h.2⟩⟩
theorem CZ.mono : ∀ {C : List Addr} {pre : Option Addr}, CZ nd pre post C → (∀ x ∈ C, (nd' x).pz = (nd x).pz ∧ (nd' x).nz = (nd x).nz) → CZ nd' pre post C
  | [], _, _, _ => trivial
  | a :: _, _, h, e => ⟨(e a (.head _)).1.trans h.1, (e a (.head _)).2.trans h.2.1, CZ.mono h.2.2 fun x hx => e x (.tail _ hx)⟩
theorem CZ.relast {post' : Option Addr} : ∀ {A : List Addr} {pre : Option Addr}, CZ nd pre post A → A.Nodup → (∀ x ∈ A, (nd' x).pz = (nd x).pz) → (∀ x ∈ A, (nd' x).nz = if some x = A.getLast? then post' else (nd x).nz) → CZ nd' pre post' A
  | [], _, _, _, _, _ => trivial
  | [a], _, h, _, e1, e2 => ⟨(e1 a (.head _)).trans h.1, (e2 a (.head _)).trans (by simp), trivial⟩
  | a :: b :: r, _, h, hn, e1, e2 => by
    obtain ⟨ha, hn'⟩ := List.nodup_cons.mp hn
    refine ⟨(e1 a (.head _)).trans h.1, ?_, CZ.relast h.2.2 hn' (fun x hx => e1 x (.tail _ hx)) (fun x hx => ?_)⟩
    · rw [e2 a (.head _), if_neg, h.2.1]; · rfl
      intro e
      rw [List.getLast?_cons_cons] at e
      exact ha (List.mem_of_getLast? e.symm)
    · rw [e2 x (.tail _ hx), List.getLast?_cons_cons]
theorem CZ.refirst {pre' : Option Addr} {B : List Addr} (h : CZ nd pre post B) (hn : B.Nodup) (e1 : ∀ x ∈ B, (nd' x).nz = (nd x).nz) (e2 : ∀ x ∈ B, (nd' x).pz = if some x = B.head? then pre' else (nd x).pz) : CZ nd' pre' post B := by
  cases B with
  | nil => trivial
  | cons a r =>
    obtain ⟨ha, hn'⟩ := List.nodup_cons.mp hn
    refine ⟨(e2 a (.head _)).trans (by simp), (e1 a (.head _)).trans h.2.1, CZ.mono h.2.2 fun x hx => ⟨?_, e1 x (.tail _ hx)⟩⟩
    rw [e2 x (.tail _ hx), if_neg]
    intro e
    simp at e
    exact ha (e ▸ hx)
theorem CZ.at_ {A B : List Addr} (h : CZ nd none none (A ++ p :: B)) : (nd p).pz = A.getLast? ∧ (nd p).nz = B.head? := by
  have h1 := (CZ.append.mp h).2
  exact ⟨by simpa using h1.1, by simpa using h1.2.1⟩
theorem CZ.ok {C : List Addr} (h : CZ nd none none C) : ChainOk nd C := by
  intro i a ha
  obtain ⟨hi, e⟩ := List.getElem?_eq_some_iff.mp ha
  have hs : C = C.take i ++ a :: C.drop (i + 1) := by
    rw [← e, ← List.drop_eq_getElem_cons hi, List.take_append_drop]
  obtain ⟨h1, h2⟩ := CZ.at_ (hs ▸ h : CZ nd none none (C.take i ++ a :: C.drop (i + 1)))
  refine ⟨?_, ?_⟩
  · rw [h1, List.getLast?_take]
    split
    · rfl
    · rw [List.getElem?_eq_getElem (by omega)]; rfl
  · rw [h2, List.head?_drop]

/-- a node taken out of the row -/
theorem CZ.rem {A B : List Addr} (h : CZ nd none none (A ++ p :: B)) (hn : (A ++ p :: B).Nodup) (e1 : ∀ x, (nd' x).nz = if some x = (nd p).pz then (nd p).nz else (nd x).nz) (e2 : ∀ x, (nd' x).pz = if some x = (nd p).nz then (nd p).pz else (nd x).pz) :
    CZ nd' none none (A ++ B) := by
  obtain ⟨hp, hnz⟩ := CZ.at_ h
  have h0 := CZ.append.mp h
  rw [List.nodup_append] at hn
  obtain ⟨hA, hpB, hd⟩ := hn
  obtain ⟨hp2, hB⟩ := List.nodup_cons.mp hpB
  rw [CZ.append]
  refine ⟨?_, ?_⟩
  · refine CZ.relast h0.1 hA (fun x hx => ?_) (fun x hx => ?_)
    · rw [e2, hnz, if_neg]
      intro e
      exact hd x hx x (.tail _ (List.mem_of_head? e.symm)) rfl
    · rw [e1, hp, hnz, Option.or_none]
  · refine CZ.refirst h0.2.2.2 hB (fun x hx => ?_) (fun x hx => ?_)
    · rw [e1, hp, if_neg]
      intro e
      exact hd x (List.mem_of_getLast? e.symm) x (.tail _ hx) rfl
    · rw [e2, hnz, hp, Option.or_none]

/-- a node put at the row's end -/
def zEnd (nd : Addr → Nd) (tail one : Addr) : Addr → Nd := upd (upd nd tail ((nd tail).s_nz (some one))) one ((upd nd tail ((nd tail).s_nz (some one)) one).s_pz (some tail))
theorem zEnd_next {tail one x : Addr} : (zEnd nd tail one x).next = (nd x).next := by
  unfold zEnd; simp only [upd_next, Nd.s_nz, Nd.s_pz]; grind
theorem zEnd_prev {tail one x : Addr} : (zEnd nd tail one x).prev = (nd x).prev := by
  unfold zEnd; simp only [upd_prev, Nd.s_nz, Nd.s_pz]; grind
theorem zEnd_nz {tail one x : Addr} : (zEnd nd tail one x).nz = if x = tail then some one else (nd x).nz := by
  unfold zEnd; simp only [upd_nz, Nd.s_nz, Nd.s_pz]; grind
theorem zEnd_pz {tail one x : Addr} : (zEnd nd tail one x).pz = if x = one then some tail else (nd x).pz := by
  unfold zEnd; simp only [upd_pz, Nd.s_nz, Nd.s_pz]; grind
theorem zEnd_alike {tail one : Addr} (x : Addr) : Alike (zEnd nd tail one x) (nd x) := (upd_alike s_alike3 _).trans (upd_alike s_alike4 _)
theorem CZ.snoc {A : List Addr} {tail one : Addr} (h : CZ nd none none (A ++ [tail])) (hn : (A ++ [tail]).Nodup) (hx : one ∉ A ++ [tail]) (h0 : (nd one).nz = none) : CZ (zEnd nd tail one) none none (A ++ [tail] ++ [one]) := by
  have hot : one ≠ tail := fun e => hx (by simp [e])
  rw [CZ.append]
  refine ⟨CZ.relast h hn (fun x hm => ?_) (fun x hm => ?_), ?_, ?_, trivial⟩
  · rw [zEnd_pz, if_neg]; intro e; exact hx (e ▸ hm)
  · rw [zEnd_nz]; simp
  · rw [zEnd_pz, if_pos rfl]; simp
  · rw [zEnd_nz, if_neg hot, h0]; rfl

/-! the law's state -/
structure Gone where
  t : Addr
  node : Addr
  before : Addr
  behind : Addr
  lower : Option Addr
  upper : Option Addr
structure LInv (nd : Addr → Nd) (R : Bool → List Addr) (C : List Addr) (gs : List Gone) : Prop where
  ring : ∀ b, Ring nd (R b)
  nodup : ∀ b, (R b).Nodup
  disj : ∀ b x, x ∈ R b → x ∉ R (!b)
  chain : CZ nd none none C
  cnodup : C.Nodup
  csub : ∀ x ∈ C, ∃ b, x ∈ R b
  free : ∀ b, ∀ x ∈ R b, x ∉ C → (nd x).pz = none ∧ (nd x).nz = none
  gone : ∀ g ∈ gs, (∀ b, g.node ∉ R b) ∧ (nd g.node).prev = some g.before ∧ (nd g.node).next = some g.behind ∧ (nd g.node).pz = g.lower ∧ (nd g.node).nz = g.upper

def setR (R : Bool → List Addr) (b : Bool) (X : List Addr) : Bool → List Addr := fun b' => if b' = b then X else R b'
theorem setR_self {R : Bool → List Addr} {b : Bool} {X : List Addr} : setR R b X b = X := if_pos rfl
theorem setR_other {R : Bool → List Addr} {b b' : Bool} {X : List Addr} (h : b' ≠ b) : setR R b X b' = R b' := if_neg h
theorem other_of_ne {b b' : Bool} (h : b' ≠ b) : b' = !b := by cases b <;> cases b' <;> simp_all

variable {R : Bool → List Addr} {C : List Addr} {gs : List Gone} {β : Bool}

theorem LInv.next_mem (I : LInv nd R C gs) {x y : Addr} (hx : x ∈ R β) (e : (nd x).next = some y) : y ∈ R β := by
  obtain ⟨i, hi, ex⟩ := List.getElem_of_mem hx
  obtain ⟨b, hb⟩ := nx_some hi
  have := (I.ring β).ok i x b (by rw [List.getElem?_eq_getElem hi, ex]) hb
  rw [e] at this
  rw [Option.some.inj this.1]
  exact List.mem_of_getElem? hb

theorem LInv.insert {A B : List Addr} (I : LInv nd R C gs) (hR : R β = A ++ q :: B) (hp : ∀ b, p ∉ R b) (hg : ∀ g ∈ gs, g.node ≠ p) (ec : (nd q).next = some c) (hn1 : n.pz = none) (hn2 : n.nz = none) :
    LInv (insN nd p q c n) (setR R β (A ++ q :: p :: B)) C gs := by
  have hqR : q ∈ R β := by rw [hR]; simp
  have hcR : c ∈ R β := I.next_mem hqR ec
  have hqp : q ≠ p := fun e => hp β (e ▸ hqR)
  have hcp : c ≠ p := fun e => hp β (e ▸ hcR)
  have hnR : (A ++ q :: B).Nodup := hR ▸ I.nodup β
  have hpR : p ∉ A ++ q :: B := hR ▸ hp β
  have mem' : ∀ b x, x ∈ setR R β (A ++ q :: p :: B) b → x = p ∧ b = β ∨ x ∈ R b := fun b x hx => by
    by_cases e : b = β
    · subst e
      rw [setR_self] at hx
      rw [hR]
      simp only [List.mem_append, List.mem_cons] at hx ⊢
      rcases hx with h | h | h | h <;> simp_all
    · rw [setR_other e] at hx; exact .inr hx
  refine ⟨fun b => ?_, fun b => ?_, fun b x hx => ?_, ?_, I.cnodup, fun x hx => ?_, fun b x hx hc => ?_, fun g hgm => ?_⟩
  · by_cases e : b = β
    · subst e
      rw [setR_self]
      have h1 : Ring nd ((q :: B) ++ A) := Ring.rot (hR ▸ I.ring b)
      have h2 : Ring (insN nd p q c n) (q :: p :: (B ++ A)) := Ring.ins h1 hqp (by
          have := (List.perm_append_comm (l₁ := A) (l₂ := q :: B)).nodup_iff.mp hnR
          exact this) (fun hm => hpR (by simp only [List.mem_append, List.mem_cons] at hm ⊢; rcases hm with h | h <;> simp [h])) ec
      exact Ring.rot (A := q :: p :: B) (B := A) h2
    · rw [setR_other e]
      refine Ring.mono (I.ring b) (fun x hx => ?_) (fun x hx => ?_)
      · rw [insN_next hqp, if_neg (fun e2 : x = p => hp b (e2 ▸ hx)), if_neg (fun e2 : x = q => I.disj β q hqR (other_of_ne e ▸ (e2 ▸ hx)))]
      · rw [insN_prev hcp, if_neg (fun e2 : x = p => hp b (e2 ▸ hx)), if_neg (fun e2 : x = c => I.disj β c hcR (other_of_ne e ▸ (e2 ▸ hx)))]
  · by_cases e : b = β
    · subst e
      rw [setR_self]
      have : (A ++ q :: p :: B).Perm (p :: (A ++ q :: B)) := by
        have h1 : A ++ q :: p :: B = (A ++ [q]) ++ p :: B := by simp
        have h2 : A ++ q :: B = (A ++ [q]) ++ B := by simp
        rw [h1, h2]; exact List.perm_middle
      exact this.nodup_iff.mpr (List.nodup_cons.mpr ⟨hpR, hnR⟩)
    · rw [setR_other e]; exact I.nodup b
  · rcases mem' b x hx with ⟨rfl, rfl⟩ | h
    · rw [setR_other (by simp)]; exact hp _
    · intro h2
      rcases mem' _ x h2 with ⟨rfl, _⟩ | h3
      · exact hp _ h
      · exact I.disj b x h h3
  · refine CZ.mono I.chain fun x hx => ?_
    obtain ⟨b, hb⟩ := I.csub x hx
    have : x ≠ p := fun e => hp b (e ▸ hb)
    rw [insN_pz, insN_nz, if_neg this, if_neg this]; exact ⟨rfl, rfl⟩
  · obtain ⟨b, hb⟩ := I.csub x hx
    refine ⟨b, ?_⟩
    by_cases e : b = β
    · subst e; rw [setR_self]; rw [hR] at hb
      simp only [List.mem_append, List.mem_cons] at hb ⊢
      rcases hb with h | h | h <;> simp [h]
    · rw [setR_other e]; exact hb
  · rcases mem' b x hx with ⟨rfl, rfl⟩ | h
    · rw [insN_pz, insN_nz, if_pos rfl, if_pos rfl]; exact ⟨hn1, hn2⟩
    · have : x ≠ p := fun e => hp b (e ▸ h)
      rw [insN_pz, insN_nz, if_neg this, if_neg this]; exact I.free b x h hc
  · obtain ⟨h1, h2, h3, h4, h5⟩ := I.gone g hgm
    have hgp := hg g hgm
    have hgq : g.node ≠ q := fun e => h1 β (e ▸ hqR)
    have hgc : g.node ≠ c := fun e => h1 β (e ▸ hcR)
    refine ⟨fun b hb => ?_, ?_, ?_, ?_, ?_⟩
    · rcases mem' b _ hb with ⟨e, _⟩ | h
      · exact hgp e
      · exact h1 b h
    · rw [insN_prev hcp, if_neg hgp, if_neg hgc]; exact h2
    · rw [insN_next hqp, if_neg hgp, if_neg hgq]; exact h3
    · rw [insN_pz, if_neg hgp]; exact h4
    · rw [insN_nz, if_neg hgp]; exact h5

theorem LInv.insert0 (I : LInv nd R C gs) (hR : R β = []) (hp : ∀ b, p ∉ R b) (hg : ∀ g ∈ gs, g.node ≠ p) (hn1 : n.pz = none) (hn2 : n.nz = none) :
    LInv (insZ nd p n) (setR R β [p]) C gs := by
  have mem' : ∀ b x, x ∈ setR R β [p] b → x = p ∧ b = β ∨ x ∈ R b := fun b x hx => by
    by_cases e : b = β
    · subst e; rw [setR_self] at hx; exact .inl ⟨List.mem_singleton.mp hx, rfl⟩
    · rw [setR_other e] at hx; exact .inr hx
  have ne : ∀ b x, x ∈ R b → x ≠ p := fun b x hx e => hp b (e ▸ hx)
  refine ⟨fun b => ?_, fun b => ?_, fun b x hx => ?_, ?_, I.cnodup, fun x hx => ?_, fun b x hx hc => ?_, fun g hgm => ?_⟩
  · by_cases e : b = β
    · subst e
      rw [setR_self]
      refine ⟨?_, ?_, trivial⟩
      · rw [insZ_next, if_pos rfl]
      · rw [insZ_prev, if_pos rfl]
    · rw [setR_other e]
      exact Ring.mono (I.ring b) (fun x hx => by rw [insZ_next, if_neg (ne b x hx)]) (fun x hx => by rw [insZ_prev, if_neg (ne b x hx)])
  · by_cases e : b = β
    · subst e; rw [setR_self]; simp
    · rw [setR_other e]; exact I.nodup b
  · rcases mem' b x hx with ⟨rfl, rfl⟩ | h
    · rw [setR_other (by simp)]; exact hp _
    · intro h2
      rcases mem' _ x h2 with ⟨rfl, _⟩ | h3
      · exact hp _ h
      · exact I.disj b x h h3
  · refine CZ.mono I.chain fun x hx => ?_
    obtain ⟨b, hb⟩ := I.csub x hx
    rw [insZ_pz, insZ_nz, if_neg (ne b x hb), if_neg (ne b x hb)]; exact ⟨rfl, rfl⟩
  · obtain ⟨b, hb⟩ := I.csub x hx
    refine ⟨b, ?_⟩
    by_cases e : b = β
    · subst e; rw [hR] at hb; cases hb
    · rw [setR_other e]; exact hb
  · rcases mem' b x hx with ⟨rfl, rfl⟩ | h
    · rw [insZ_pz, insZ_nz, if_pos rfl, if_pos rfl]; exact ⟨hn1, hn2⟩
    · rw [insZ_pz, insZ_nz, if_neg (ne b x h), if_neg (ne b x h)]; exact I.free b x h hc
  · obtain ⟨h1, h2, h3, h4, h5⟩ := I.gone g hgm
    have hgp := hg g hgm
    refine ⟨fun b hb => ?_, ?_, ?_, ?_, ?_⟩
    · rcases mem' b _ hb with ⟨e, _⟩ | h
      · exact hgp e
      · exact h1 b h
    · rw [insZ_prev, if_neg hgp]; exact h2
    · rw [insZ_next, if_neg hgp]; exact h3
    · rw [insZ_pz, if_neg hgp]; exact h4
    · rw [insZ_nz, if_neg hgp]; exact h5
end
end

section
section
variable {nd nd' : Addr → Nd} {p q c a b : Addr} {n : Nd} {R : Bool → List Addr} {C C' : List Addr} {gs : List Gone} {β : Bool}

theorem LInv.prev_mem (I : LInv nd R C gs) {x y : Addr} (hx : x ∈ R β) (e : (nd x).prev = some y) : y ∈ R β := by
  obtain ⟨i, hi, ex⟩ := List.getElem_of_mem hx
  have hlen : 0 < (R β).length := by omega
  have hj : (i + (R β).length - 1) % (R β).length < (R β).length := Nat.mod_lt _ hlen
  have hk : ((i + (R β).length - 1) % (R β).length + 1) % (R β).length = i := by
    cases i with
    | zero =>
      have h1 : ((R β).length - 1) % (R β).length = (R β).length - 1 := Nat.mod_eq_of_lt (by omega)
      rw [Nat.zero_add, h1, show (R β).length - 1 + 1 = (R β).length by omega, Nat.mod_self]
    | succ k =>
      rw [show k + 1 + (R β).length - 1 = k + (R β).length by omega, Nat.add_mod_right, Nat.mod_eq_of_lt (show k < _ by omega), Nat.mod_eq_of_lt (by omega)]
  have := (I.ring β).ok _ ((R β)[(i + (R β).length - 1) % (R β).length]) x (List.getElem?_eq_getElem hj) (by rw [hk, List.getElem?_eq_getElem hi, ex])
  rw [e] at this
  rw [Option.some.inj this.2]
  exact List.getElem_mem hj

theorem LInv.pz_mem (I : LInv nd R C gs) {x z : Addr} (hx : x ∈ R β) (e : (nd x).pz = some z) : z ∈ C := by
  by_cases hc : x ∈ C
  · obtain ⟨A, B, rfl⟩ := List.append_of_mem hc
    rw [(CZ.at_ I.chain).1] at e
    exact List.mem_append_left _ (List.mem_of_getLast? e)
  · rw [(I.free β x hx hc).1] at e; cases e
theorem LInv.nz_mem (I : LInv nd R C gs) {x z : Addr} (hx : x ∈ R β) (e : (nd x).nz = some z) : z ∈ C := by
  by_cases hc : x ∈ C
  · obtain ⟨A, B, rfl⟩ := List.append_of_mem hc
    rw [(CZ.at_ I.chain).2] at e
    exact List.mem_append_right _ (.tail _ (List.mem_of_head? e))
  · rw [(I.free β x hx hc).2] at e; cases e

theorem LInv.remove {A B : List Addr} {t : Addr} (I : LInv nd R C gs) (hR : R β = A ++ p :: B) (ea : (nd p).next = some a) (eb : (nd p).prev = some b) (hcz : CZ (rmv nd p a b) none none C') (hc' : ∀ x, x ∈ C' ↔ x ∈ C ∧ x ≠ p) (hcn : C'.Nodup) :
    LInv (rmv nd p a b) (setR R β (A ++ B)) C' (gs ++ [⟨t, p, b, a, (nd p).pz, (nd p).nz⟩]) := by
  have hpR : p ∈ R β := by rw [hR]; simp
  have haR := I.next_mem hpR ea
  have hbR := I.prev_mem hpR eb
  have hnR : (A ++ p :: B).Nodup := hR ▸ I.nodup β
  have hnR' : (p :: (A ++ B)).Nodup := List.perm_middle.nodup_iff.mp hnR
  obtain ⟨hpAB, hAB⟩ := List.nodup_cons.mp hnR'
  have mem' : ∀ b x, x ∈ setR R β (A ++ B) b ↔ x ∈ R b ∧ x ≠ p := fun b x => by
    by_cases e : b = β
    · subst e
      rw [setR_self, hR]
      simp only [List.mem_append, List.mem_cons] at hpAB ⊢
      grind
    · rw [setR_other e]
      refine ⟨fun h => ⟨h, ?_⟩, fun h => h.1⟩
      intro e2; subst e2; exact I.disj β x hpR (other_of_ne e ▸ h)
  refine ⟨fun b' => ?_, fun b' => ?_, fun b' x hx h2 => ?_, hcz, hcn, fun x hx => ?_, fun b' x hx hc => ?_, fun g hgm => ?_⟩
  · by_cases e : b' = β
    · subst e
      rw [setR_self]
      have h1 : Ring nd ((p :: B) ++ A) := Ring.rot (hR ▸ I.ring b')
      have hn2 : (p :: (B ++ A)).Nodup := by
        have := (List.perm_append_comm (l₁ := A) (l₂ := p :: B)).nodup_iff.mp hnR
        exact this
      exact Ring.rot (A := B) (B := A) (Ring.rem h1 hn2 ea eb)
    · rw [setR_other e]
      refine Ring.mono (I.ring b') (fun x hx => ?_) (fun x hx => ?_)
      · rw [rmv_next ea, if_neg (fun e2 : x = b => I.disj β b hbR (other_of_ne e ▸ (e2 ▸ hx)))]
      · rw [rmv_prev, if_neg (fun e2 : x = a => I.disj β a haR (other_of_ne e ▸ (e2 ▸ hx)))]
  · by_cases e : b' = β
    · subst e; rw [setR_self]; exact hAB
    · rw [setR_other e]; exact I.nodup b'
  · exact I.disj b' x ((mem' _ x).mp hx).1 ((mem' _ x).mp h2).1
  · obtain ⟨h1, h2⟩ := (hc' x).mp hx
    obtain ⟨b', hb'⟩ := I.csub x h1
    exact ⟨b', (mem' b' x).mpr ⟨hb', h2⟩⟩
  · obtain ⟨h1, h2⟩ := (mem' b' x).mp hx
    have hxC : x ∉ C := fun h => hc ((hc' x).mpr ⟨h, h2⟩)
    rw [rmv_pz, rmv_nz, if_neg, if_neg]
    · exact I.free b' x h1 hxC
    · intro e; exact hxC (I.pz_mem hpR e.symm)
    · intro e; exact hxC (I.nz_mem hpR e.symm)
  · rcases List.mem_append.mp hgm with hgm | hgm
    · obtain ⟨h1, h2, h3, h4, h5⟩ := I.gone g hgm
      have hgC : g.node ∉ C := fun h => by obtain ⟨b', hb'⟩ := I.csub _ h; exact h1 b' hb'
      refine ⟨fun b' hb' => h1 b' ((mem' b' _).mp hb').1, ?_, ?_, ?_, ?_⟩
      · rw [rmv_prev, if_neg (fun e : g.node = a => h1 β (e ▸ haR))]; exact h2
      · rw [rmv_next ea, if_neg (fun e : g.node = b => h1 β (e ▸ hbR))]; exact h3
      · rw [rmv_pz, if_neg]
        · exact h4
        · intro e; exact hgC (I.nz_mem hpR e.symm)
      · rw [rmv_nz, if_neg]
        · exact h5
        · intro e; exact hgC (I.pz_mem hpR e.symm)
    · rw [List.mem_singleton.mp hgm]
      refine ⟨fun b' hb' => ((mem' b' _).mp hb').2 rfl, ?_, ?_, ?_, ?_⟩
      · show (rmv nd p a b p).prev = some b
        rw [rmv_prev]; split
        · rfl
        · exact eb
      · show (rmv nd p a b p).next = some a
        rw [rmv_next ea]; split
        · rfl
        · exact ea
      · show (rmv nd p a b p).pz = _
        rw [rmv_pz]; split <;> rfl
      · show (rmv nd p a b p).nz = _
        rw [rmv_nz]; split <;> rfl

theorem LInv.rem_in {X Y : List Addr} (I : LInv nd R (X ++ p :: Y) gs) : CZ (rmv nd p a b) none none (X ++ Y) ∧ (∀ x, x ∈ X ++ Y ↔ x ∈ X ++ p :: Y ∧ x ≠ p) ∧ (X ++ Y).Nodup := by
  have hn := List.perm_middle.nodup_iff.mp I.cnodup
  obtain ⟨hp, hXY⟩ := List.nodup_cons.mp hn
  refine ⟨CZ.rem I.chain I.cnodup rmv_nz rmv_pz, fun x => ?_, hXY⟩
  simp only [List.mem_append, List.mem_cons] at hp ⊢
  grind
theorem LInv.rem_out (I : LInv nd R C gs) (hp : p ∈ R β) (hC : p ∉ C) : CZ (rmv nd p a b) none none C ∧ (∀ x, x ∈ C ↔ x ∈ C ∧ x ≠ p) ∧ C.Nodup := by
  obtain ⟨h1, h2⟩ := I.free β p hp hC
  refine ⟨CZ.mono I.chain fun x _ => ?_, fun x => ⟨fun h => ⟨h, fun e => hC (e ▸ h)⟩, fun h => h.1⟩, I.cnodup⟩
  rw [rmv_pz, rmv_nz, h1, h2]
  simp

theorem LInv.zfirst (I : LInv nd R [] gs) (hp : p ∈ R β) : LInv nd R [p] gs := by
  obtain ⟨h1, h2⟩ := I.free β p hp (by simp)
  refine ⟨I.ring, I.nodup, I.disj, ⟨h1, by rw [h2]; rfl, trivial⟩, by simp, fun x hx => ⟨β, List.mem_singleton.mp hx ▸ hp⟩, fun b x hx hc => I.free b x hx (by simp), I.gone⟩
theorem LInv.zmore {X : List Addr} {tail : Addr} (I : LInv nd R (X ++ [tail]) gs) (hp : p ∈ R β) (hC : p ∉ X ++ [tail]) : LInv (zEnd nd tail p) R (X ++ [tail] ++ [p]) gs := by
  obtain ⟨h1, h2⟩ := I.free β p hp hC
  obtain ⟨bt, hbt⟩ := I.csub tail (by simp)
  refine ⟨fun b => Ring.mono (I.ring b) (fun x _ => zEnd_next) (fun x _ => zEnd_prev), I.nodup, I.disj, CZ.snoc I.chain I.cnodup hC h2, ?_, fun x hx => ?_, fun b x hx hc => ?_, fun g hg => ?_⟩
  · rw [List.nodup_append]
    exact ⟨I.cnodup, by simp, fun x hx y hy e => hC (List.mem_singleton.mp hy ▸ e ▸ hx)⟩
  · rcases List.mem_append.mp hx with hx | hx
    · exact I.csub x hx
    · exact ⟨β, List.mem_singleton.mp hx ▸ hp⟩
  · have hxp : x ≠ p := fun e => hc (by simp [e])
    have hxC : x ∉ X ++ [tail] := fun h => hc (List.mem_append_left _ h)
    have hxt : x ≠ tail := fun e => hxC (by simp [e])
    rw [zEnd_pz, zEnd_nz, if_neg hxp, if_neg hxt]
    exact I.free b x hx hxC
  · obtain ⟨g1, g2, g3, g4, g5⟩ := I.gone g hg
    refine ⟨g1, by rw [zEnd_prev]; exact g2, by rw [zEnd_next]; exact g3, ?_, ?_⟩
    · rw [zEnd_pz, if_neg (fun e : g.node = p => g1 β (e ▸ hp))]; exact g4
    · rw [zEnd_nz, if_neg (fun e : g.node = tail => g1 bt (e ▸ hbt))]; exact g5
end
end

section
/-! linked_list -/
def idxD (d : Bool) (n j : Nat) : Nat := if d then j else n - 1 - j
def numD (d : Bool) (start : Int) (n j : Nat) : Int := if d then start + j else start + n - j
def due0 (d : Bool) (start : Int) (n i : Nat) : List (Nat × Int) := (List.range i).map fun j => (idxD d n j, numD d start n j)
theorem due0_length (d : Bool) (start : Int) (n i : Nat) : (due0 d start n i).length = i := by simp [due0]
theorem due0_succ (d : Bool) (start : Int) (n i : Nat) : due0 d start n (i + 1) = due0 d start n i ++ [(idxD d n i, numD d start n i)] := by simp [due0, List.range_succ]

def NodeOk (ps : List Addr) (f : Nat → Int × Int) (n : Nd) (e : Nat × Int) : Prop :=
  n.i = e.2 ∧ ps[e.1]? = some n.pt ∧ n.x = (f e.1).1 ∧ n.y = (f e.1).2 ∧ n.pz = none ∧ n.nz = none
def All2 (nd : Addr → Nd) (ps : List Addr) (f : Nat → Int × Int) : List Addr → List (Nat × Int) → Prop
  | [], [] => True
  | a :: r, e :: s => NodeOk ps f (nd a) e ∧ All2 nd ps f r s
  | _, _ => False
section
variable {nd nd' : Addr → Nd} {ps : List Addr} {f : Nat → Int × Int}
theorem All2.append : ∀ {A B : List Addr} {C D : List (Nat × Int)}, All2 nd ps f A C → All2 nd ps f B D → All2 nd ps f (A ++ B) (C ++ D)
  | [], _, [], _, _, h => h
  | _ :: _, _, _ :: _, _, h, h' => ⟨h.1, All2.append h.2 h'⟩
  | [], _, _ :: _, _, h, _ => h.elim
  | _ :: _, _, [], _, h, _ => h.elim
theorem All2.take : ∀ {A : List Addr} {C : List (Nat × Int)} (k : Nat), All2 nd ps f A C → All2 nd ps f (A.take k) (C.take k)
  | _, _, 0, _ => by simp [All2]
  | [], [], _ + 1, _ => trivial
  | _ :: _, _ :: _, _ + 1, h => ⟨h.1, All2.take _ h.2⟩
  | [], _ :: _, _ + 1, h => h.elim
  | _ :: _, [], _ + 1, h => h.elim
theorem All2.drop : ∀ {A : List Addr} {C : List (Nat × Int)} (k : Nat), All2 nd ps f A C → All2 nd ps f (A.drop k) (C.drop k)
  | _, _, 0, h => h
  | [], [], _ + 1, _ => trivial
  | _ :: _, _ :: _, k + 1, h => All2.drop k h.2
  | [], _ :: _, _ + 1, h => h.elim
  | _ :: _, [], _ + 1, h => h.elim
theorem All2.mono : ∀ {A : List Addr} {C : List (Nat × Int)}, All2 nd ps f A C → (∀ a ∈ A, Alike (nd' a) (nd a) ∧ (nd' a).pz = (nd a).pz ∧ (nd' a).nz = (nd a).nz) → All2 nd' ps f A C
  | [], [], _, _ => trivial
  | a :: _, _ :: _, h, e => by
    obtain ⟨⟨h1, h2, h3, h4⟩, h5, h6⟩ := e a (.head _)
    obtain ⟨g1, g2, g3, g4, g5, g6⟩ := h.1
    exact ⟨⟨h1.trans g1, by rw [h2]; exact g2, h3.trans g3, h4.trans g4, h5.trans g5, h6.trans g6⟩, All2.mono h.2 fun x hx => e x (.tail _ hx)⟩
  | [], _ :: _, h, _ => h.elim
  | _ :: _, [], h, _ => h.elim
theorem All2.length : ∀ {A : List Addr} {C : List (Nat × Int)}, All2 nd ps f A C → A.length = C.length
  | [], [], _ => rfl
  | _ :: _, _ :: _, h => by rw [List.length_cons, List.length_cons, All2.length h.2]
  | [], _ :: _, h => h.elim
  | _ :: _, [], h => h.elim
theorem All2.get : ∀ {A : List Addr} {C : List (Nat × Int)} {j : Nat} {a : Addr} {e : Nat × Int}, All2 nd ps f A C → A[j]? = some a → C[j]? = some e → NodeOk ps f (nd a) e
  | _ :: _, _ :: _, 0, _, _, h, ha, he => by simp at ha he; subst ha he; exact h.1
  | _ :: _, _ :: _, _ + 1, _, _, h, ha, he => All2.get h.2 (by simpa using ha) (by simpa using he)
  | [], [], _, _, _, _, ha, _ => by simp at ha
  | [], _ :: _, _, _, _, h, _, _ => h.elim
  | _ :: _, [], _, _, _, h, _, _ => h.elim

theorem Ring.end_next {X : List Addr} {q c : Addr} (h : Ring nd (X ++ [q])) (hc : (X ++ [q])[0]? = some c) : (nd q).next = some c ∧ (nd c).prev = some q := by
  refine h.ok X.length q c (by simp) ?_
  rw [List.length_append, List.length_singleton, Nat.mod_self]
  exact hc
theorem Ring.push {X : List Addr} {q p c : Addr} {n : Nd} (h : Ring nd (X ++ [q])) (hn : (X ++ [q]).Nodup) (hp : p ∉ X ++ [q]) (ec : (nd q).next = some c) : Ring (insN nd p q c n) (X ++ [q] ++ [p]) := by
  have h1 : Ring nd (q :: X) := Ring.rot (A := X) (B := [q]) h
  have hqp : q ≠ p := fun e => hp (by simp [e])
  have h2 : Ring (insN nd p q c n) (q :: p :: X) := Ring.ins h1 hqp ((List.perm_append_comm (l₁ := X) (l₂ := [q])).nodup_iff.mp hn) (fun hm => hp (List.mem_append_left _ hm)) ec
  have := Ring.rot (A := [q, p]) (B := X) h2
  rw [List.append_assoc]; exact this
end
theorem Tab.weak {P : Params} {N : Led} {S S' : Addr → Prop} {nd : Addr → Nd} (T : Tab P N S nd) (h : ∀ a, S' a → S a) : Tab P N S' nd := ⟨fun a ha => T.has a (h a ha), fun a b ha hb => T.inj a b (h a ha) (h b hb)⟩

/-- what stays of N, but for loops' marks and nodes' dicts -/
def KS (P : Params) (N M : Led) : Prop := ∀ p ∈ N, isIter p.2 = false → (∀ n, p.2 ≠ nodeD P n) → p ∈ M
theorem KS.refl {P : Params} {N : Led} : KS P N N := fun _ h _ _ => h
theorem KS.sub {P : Params} {N M M' : Led} (a : KS P N M) (b : Sub M M') : KS P N M' := fun p h i n => b p (a p h i n) i
theorem KS.keep {P : Params} {N M M' : Led} (a : KS P N M) (b : Keep P M M') : KS P N M' := fun p h i n => b p (a p h i n) n
theorem KS.all {P : Params} {N M : Led} (a : KS P N M) (b : Iters N M) : Keep P N M := fun p h n => by
  cases e : isIter p.2 with
  | false => exact a p h e n
  | true => exact b p h e

structure Lk (P : Params) (N : Led) (ps : List Addr) (f : Nat → Int × Int) (d : Bool) (start : Int) (i : Nat) (ns : List Addr) (nd : Addr → Nd) (M : Led) : Prop where
  len : ns.length = i
  tab : Tab P M (· ∈ ns) nd
  ring : Ring nd ns
  nodup : ns.Nodup
  all : All2 nd ps f ns (due0 d start ps.length i)

section
variable {prog : Program} {w : World} {A : Around} {env : Env} {h₀ : Heap} {s₀ : Shared} {h : Heap} {t : Nat} {m : Str → Option Value} {N M : Led} {r : Nat} {S : Addr → Prop} {nd : Addr → Nd}

/-- one more point linked -/
theorem Lk.more {Q : Value → Shared → Prop} {ps : List Addr} {f : Nat → Int × Int} {d : Bool} {start : Int} {i : Nat} {ns : List Addr} {pp : Addr → Pt} {pa : Addr} {u : Tok} {num : Int}
    (G : Gd w A env h₀ (r + 3)) (F : Fr h₀ env.locals h m) (N' : News h₀ env.locals h M) (K : Lk w.params N ps f d start i ns nd M) (H : HasP w.params M pa (pp pa)) (hpa : ps[idxD d ps.length i]? = some pa) (hnum : num = numD d start ps.length i)
    (hf : (pp pa).x = (f (idxD d ps.length i)).1 ∧ (pp pa).y = (f (idxD d ps.length i)).2)
    (k : ∀ h' t' M' p nd', Fr h₀ env.locals h' m → News h₀ env.locals h' M' → Keep w.params M M' → Lk w.params N ps f d start (i + 1) (ns ++ [p]) nd' M' → Q (.ref p) (stt s₀ h' t')) :
    wpAny (model prog w) A (call (.ref 84) [.int num u, .ref pa, orf ns.getLast?] []) Q NE (stt s₀ h t) := by
  have ok : ∀ (n : Nd), n.i = num → n.pt = pa → n.x = (pp pa).x → n.y = (pp pa).y → n.pz = none → n.nz = none → NodeOk ps f n (idxD d ps.length i, numD d start ps.length i) :=
    fun n e1 e2 e3 e4 e5 e6 => ⟨by rw [e1, hnum], by rw [e2]; exact hpa, by rw [e3]; exact hf.1, by rw [e4]; exact hf.2, e5, e6⟩
  rcases List.eq_nil_or_concat ns with rfl | ⟨X, q, rfl⟩
  · refine ins0_call G F N' K.tab H fun h' t' M' p n F₁ N₁ Kp hlt e1 e2 e3 e4 e5 e6 T₁ => k h' t' M' p (insZ nd p n) F₁ N₁ Kp ?_
    have hi : i = 0 := K.len.symm
    subst hi
    refine ⟨rfl, T₁.weak fun a ha => .inl (List.mem_singleton.mp ha), ⟨?_, ?_, trivial⟩, by simp, ?_⟩
    · rw [insZ_next, if_pos rfl]
    · rw [insZ_prev, if_pos rfl]
    · rw [due0_succ]
      refine ⟨?_, trivial⟩
      have al := insZ_alike (nd := nd) (p := p) (n := n) p
      rw [upd_self] at al
      exact ok _ (al.1.trans e1) (al.2.1.trans e2) (al.2.2.1.trans e3) (al.2.2.2.trans e4) (by rw [insZ_pz, if_pos rfl]; exact e5) (by rw [insZ_nz, if_pos rfl]; exact e6)
  · rw [List.concat_eq_append] at K k ⊢
    rw [List.getLast?_concat]
    obtain ⟨c, hc⟩ : ∃ c, (X ++ [q])[0]? = some c := ⟨_, List.getElem?_eq_getElem (by simp)⟩
    obtain ⟨ec, _⟩ := K.ring.end_next hc
    refine ins_call G F N' K.tab H (show q ∈ X ++ [q] by simp) ec (List.mem_of_getElem? hc) fun h' t' M' p n F₁ N₁ Kp hlt e1 e2 e3 e4 e5 e6 T₁ => k h' t' M' p (insN nd p q c n) F₁ N₁ Kp ?_
    have hp : p ∉ X ++ [q] := fun hm => absurd (hlt _ (K.tab.has p hm).1) (Nat.lt_irrefl _)
    refine ⟨by rw [List.length_append, K.len]; rfl, T₁.weak fun a ha => ?_, Ring.push K.ring K.nodup hp ec, ?_, ?_⟩
    · rcases List.mem_append.mp ha with ha | ha
      · exact .inr ha
      · exact .inl (List.mem_singleton.mp ha)
    · rw [List.nodup_append]
      exact ⟨K.nodup, by simp, fun x hx y hy e => hp (List.mem_singleton.mp hy ▸ e ▸ hx)⟩
    · rw [due0_succ]
      refine All2.append (All2.mono K.all fun a ha => ?_) ⟨?_, trivial⟩
      · have hap : a ≠ p := fun e => hp (e ▸ ha)
        have al := insN_alike (nd := nd) (p := p) (q := q) (c := c) (n := n) a
        rw [upd_ne hap] at al
        exact ⟨al, by rw [insN_pz, if_neg hap], by rw [insN_nz, if_neg hap]⟩
      · have al := insN_alike (nd := nd) (p := p) (q := q) (c := c) (n := n) p
        rw [upd_self] at al
        exact ok _ (al.1.trans e1) (al.2.1.trans e2) (al.2.2.1.trans e3) (al.2.2.2.trans e4) (by rw [insN_pz, if_pos rfl]; exact e5) (by rw [insN_nz, if_pos rfl]; exact e6)
end
end

section
local macro_rules | `(tactic| walk_at "bj_gn") => `(tactic| first | with_reducible exact gn_len _ | with_reducible exact gn_range _ | with_reducible exact gn_list _ | with_reducible exact gn_reversed _)
local macro_rules | `(tactic| walk_at "bj_bt") => `(tactic| first | with_reducible exact PySem.boot_len | with_reducible exact PyProof.Rows.boot_range | with_reducible exact PyProof.Rows.boot_list | with_reducible exact PyProof.Rows.boot_reversed)
local macro_rules | `(tactic| walk_at "bj_gl") => `(tactic| first | with_reducible exact gl_31 _ | with_reducible exact gl_59 _ | with_reducible exact gl_70 _ | with_reducible exact gl_77 _ | with_reducible exact gl_84 _ | with_reducible exact gl_91 _ | with_reducible exact gl_92 _ | with_reducible exact gl_99 _ | with_reducible exact gl_106 _ | with_reducible exact gl_113 _ | with_reducible exact gl_120 _ | with_reducible exact gl_127 _ | with_reducible exact gl_134 _)
local macro_rules | `(tactic| walk_at "bj_kp") => `(tactic| first | with_reducible exact kp_31 _ | with_reducible exact kp_59 _ | with_reducible exact kp_70 _ | with_reducible exact kp_77 _ | with_reducible exact kp_84 _ | with_reducible exact kp_91 _ | with_reducible exact kp_99 _ | with_reducible exact kp_106 _ | with_reducible exact kp_113 _ | with_reducible exact kp_120 _ | with_reducible exact kp_127 _ | with_reducible exact kp_134 _)
local macro_rules | `(tactic| walk_at "bj_m") => `(tactic| first | (with_reducible assumption) | (with_reducible exact m_here) | ((with_reducible refine m_there ?hmt ?_); (case hmt => decide); walk_at "bj_m") | rfl)
local macro_rules | `(tactic| walk_at "bj_a") => `(tactic| (with_reducible assumption))
local macro_rules | `(tactic| walk_at "bj") => `(tactic| first
  | (with_reducible refine s_nilR ?_)
  | ((with_reducible refine' s_assignAttr ?_ ?hs); (case hs => rfl))
  | ((with_reducible refine' s_assign ?_ ?hs); (case hs => rfl))
  | (with_reducible refine' s_if ?_)
  | (with_reducible refine' s_ret ?_)
  | (with_reducible refine' s_aug ?_)
  | ((with_reducible refine' e_L ?G ?F ?hx ?hv ?_ ?hdb); (case G => walk_at "bj_a"); (case F => walk_at "bj_a"); (case hx => rfl); (case hdb => rfl); (case hv => walk_at "bj_m"))
  | ((with_reducible refine' l_L ?G ?F ?hx ?hv ?_); (case G => walk_at "bj_a"); (case F => walk_at "bj_a"); (case hx => rfl); (case hv => walk_at "bj_m"))
  | ((with_reducible refine' e_st ?G ?F ?N ?hx ?_); (case G => walk_at "bj_a"); (case F => walk_at "bj_a"); (case N => walk_at "bj_a"); (case hx => rfl); intro h' t' F' N')
  | ((with_reducible refine' e_attr ?_ ?he); (case he => with_unfolding_all rfl))
  | ((with_reducible refine' t_cmp ?_ ?hm); (case hm => with_unfolding_all rfl))
  | ((with_reducible refine' e_cmp ?_ ?hm); (case hm => with_unfolding_all rfl))
  | (with_reducible refine' e_bin ?_)
  | (with_reducible refine' t_not ?_)
  | (with_reducible refine' t_and ?_)
  | (with_reducible refine' t_or ?_)
  | (with_reducible refine' t_andN ?_)
  | (with_reducible refine' t_orN ?_)
  | (with_reducible refine' e_ifx ?_)
  | (with_reducible refine' e_and ?_)
  | (with_reducible refine' e_and1 ?_)
  | (with_reducible refine' e_un ?_)
  | (with_reducible refine' tb_bool ?_)
  | (with_reducible refine' tb_none ?_)
  | ((with_reducible refine' o_add ?_); intro u' t')
  | ((with_reducible refine' o_iadd ?_); intro u' t')
  | ((with_reducible refine' o_isub ?_); intro u' t')
  | ((with_reducible refine' o_sub ?_); intro u' t')
  | ((with_reducible refine' o_mod ?_ ?_); (decide); intro u' t')
  | ((with_reducible refine' o_neg ?_); intro u' t')
  | (with_reducible refine' c_eq ?_)
  | (with_reducible refine' c_ne ?_)
  | (with_reducible refine' c_lt ?_)
  | (with_reducible refine' c_gt ?_)
  | (with_reducible refine' c_le ?_)
  | (with_reducible refine' c_ge ?_)
  | (with_reducible refine' c_isB ?_)
  | (with_reducible refine' c_isnB ?_)
  | (with_reducible refine' c_eqB ?_)
  | (with_reducible refine' c_neB ?_)
  | (with_reducible refine' c_isRN ?_)
  | (with_reducible refine' c_isNN ?_)
  | (with_reducible refine' c_isnRN ?_)
  | (with_reducible refine' c_isnNR ?_)
  | (with_reducible refine' c_isnNN ?_)
  | (with_reducible refine' c_isnRS ?_)
  | (with_reducible refine' c_isRS ?_)
  | (with_reducible refine' if_t ?_)
  | (with_reducible refine' if_f ?_)
  | (with_reducible refine' if_nt ?_)
  | (with_reducible refine' if_nf ?_)
  | ((with_reducible refine' e_callG ?G ?F ?hx ?hdb ?eg ?hk ?_ ?hc ?he ?hp); (case G => walk_at "bj_a"); (case F => walk_at "bj_a"); (case hx => rfl); (case hdb => rfl); (case eg => walk_at "bj_gl"); (case hk => walk_at "bj_kp"); (case hc => rfl); (case he => rfl); (case hp => rfl))
  | ((with_reducible refine' e_callB ?G ?F ?hx ?hdb ?eg ?hv ?hn ?_ ?hc ?he ?hp); (case G => walk_at "bj_a"); (case F => walk_at "bj_a"); (case hx => rfl); (case hdb => rfl); (case eg => walk_at "bj_gn"); (case hv => walk_at "bj_bt"); (case hn => decide); (case hc => rfl); (case he => rfl); (case hp => rfl))
  | ((with_reducible refine' e_callT ?G ?F ?hx ?hdb ?eg ?hv ?hn ?_ ?hc ?he ?hp); (case G => walk_at "bj_a"); (case F => walk_at "bj_a"); (case hx => rfl); (case hdb => rfl); (case eg => walk_at "bj_gn"); (case hv => walk_at "bj_bt"); (case hn => decide); (case hc => rfl); (case he => rfl); (case hp => rfl))
  | ((with_reducible refine' o_len ?N ?hm ?hf ?_); (case N => walk_at "bj_a"); (case hm => walk_at "bj_a"); (case hf => walk_at "bj_a"); intro u' t')
  | ((with_reducible refine' o_range ?F ?N ?_); (case F => walk_at "bj_a"); (case N => walk_at "bj_a"); intro rg' h' t' a' b' c' R' F' N')
  | (with_reducible refine' e_sub ?_)
  | ((with_reducible refine' s_for ?G ?hx ?_ ?hs); (case G => walk_at "bj_a"); (case hx => rfl); (case hs => intro _; rfl))
  | ((with_reducible refine' a_cons ?_ ?he); (case he => rfl))
  | (with_reducible refine' a_nil ?_)
  | ((with_reducible refine' a_in ?G ?F ?_); (case G => walk_at "bj_a"); (case F => walk_at "bj_a"))
  | ((with_reducible refine' t_plain ?_ ?he); (case he => rfl))
  | (with_reducible refine' e_none ?_)
  | (with_reducible refine' e_bool ?_)
  | ((with_reducible refine' e_int ?_); intro u' t'))
local macro_rules | `(tactic| walk_at "bj_g5") => `(tactic| ((case G => walk_at "bj_a"); (case F => walk_at "bj_a"); (case N => walk_at "bj_a"); (case T => walk_at "bj_a"); (case hS => walk_at "bj_a")))
local macro_rules | `(tactic| walk_at "bj_get") => `(tactic| first
  | ((with_reducible refine' tg_next ?G ?F ?N ?T ?hS ?_); (case G => walk_at "bj_a"); (case F => walk_at "bj_a"); (case N => walk_at "bj_a"); (case T => walk_at "bj_a"); (case hS => walk_at "bj_a"); intro t')
  | ((with_reducible refine' tg_prev ?G ?F ?N ?T ?hS ?_); (case G => walk_at "bj_a"); (case F => walk_at "bj_a"); (case N => walk_at "bj_a"); (case T => walk_at "bj_a"); (case hS => walk_at "bj_a"); intro t')
  | ((with_reducible refine' tg_pz ?G ?F ?N ?T ?hS ?_); (case G => walk_at "bj_a"); (case F => walk_at "bj_a"); (case N => walk_at "bj_a"); (case T => walk_at "bj_a"); (case hS => walk_at "bj_a"); intro t')
  | ((with_reducible refine' tg_nz ?G ?F ?N ?T ?hS ?_); (case G => walk_at "bj_a"); (case F => walk_at "bj_a"); (case N => walk_at "bj_a"); (case T => walk_at "bj_a"); (case hS => walk_at "bj_a"); intro t')
  | ((with_reducible refine' tg_i ?G ?F ?N ?T ?hS ?_); (case G => walk_at "bj_a"); (case F => walk_at "bj_a"); (case N => walk_at "bj_a"); (case T => walk_at "bj_a"); (case hS => walk_at "bj_a"); intro t')
  | ((with_reducible refine' tg_point ?G ?F ?N ?T ?hS ?_); (case G => walk_at "bj_a"); (case F => walk_at "bj_a"); (case N => walk_at "bj_a"); (case T => walk_at "bj_a"); (case hS => walk_at "bj_a"); intro t')
  | ((with_reducible refine' tg_x ?G ?F ?N ?T ?hS ?_); (case G => walk_at "bj_a"); (case F => walk_at "bj_a"); (case N => walk_at "bj_a"); (case T => walk_at "bj_a"); (case hS => walk_at "bj_a"); intro t')
  | ((with_reducible refine' tg_y ?G ?F ?N ?T ?hS ?_); (case G => walk_at "bj_a"); (case F => walk_at "bj_a"); (case N => walk_at "bj_a"); (case T => walk_at "bj_a"); (case hS => walk_at "bj_a"); intro t')
  | ((with_reducible refine' tg_z ?G ?F ?N ?T ?hS ?_); (case G => walk_at "bj_a"); (case F => walk_at "bj_a"); (case N => walk_at "bj_a"); (case T => walk_at "bj_a"); (case hS => walk_at "bj_a"); intro t')
  | ((with_reducible refine' tg_st ?G ?F ?N ?T ?hS ?_); (case G => walk_at "bj_a"); (case F => walk_at "bj_a"); (case N => walk_at "bj_a"); (case T => walk_at "bj_a"); (case hS => walk_at "bj_a"); intro t'))
local macro_rules | `(tactic| walk_at "bj_set") => `(tactic| (first
  | (with_reducible refine' ts_prev ?G ?F ?N ?T ?hS ?_)
  | (with_reducible refine' ts_next ?G ?F ?N ?T ?hS ?_)
  | (with_reducible refine' ts_pz ?G ?F ?N ?T ?hS ?_)
  | (with_reducible refine' ts_nz ?G ?F ?N ?T ?hS ?_)
  | (with_reducible refine' ts_prevR ?G ?F ?N ?T ?hS ?_)
  | (with_reducible refine' ts_nextR ?G ?F ?N ?T ?hS ?_)
  | (with_reducible refine' ts_pzR ?G ?F ?N ?T ?hS ?_)
  | (with_reducible refine' ts_nzR ?G ?F ?N ?T ?hS ?_)))
local macro_rules | `(tactic| walk_at "bj_il") => `(tactic| ((with_reducible refine' i_list ?N ?hm ?hi ?hx ?hj ?k ?hs); (case N => walk_at "bj_a"); (case hm => walk_at "bj_a"); (case hs => with_unfolding_all rfl)))
local macro_rules | `(tactic| walk_at "bj_it") => `(tactic| ((with_reducible refine' i_tup ?N ?hm ?hi ?hj ?hx ?k ?hs); (case N => walk_at "bj_a"); (case hm => walk_at "bj_a"); (case hs => with_unfolding_all rfl)))
theorem Ring.prev_ex {nd : Addr → Nd} {R : List Addr} {x : Addr} (h : Ring nd R) (hx : x ∈ R) : ∃ y, y ∈ R ∧ (nd x).prev = some y := by
  obtain ⟨i, hi, ex⟩ := List.getElem_of_mem hx
  have hlen : 0 < R.length := by omega
  have hj : (i + R.length - 1) % R.length < R.length := Nat.mod_lt _ hlen
  have hk : ((i + R.length - 1) % R.length + 1) % R.length = i := by
    cases i with
    | zero =>
      have h1 : (R.length - 1) % R.length = R.length - 1 := Nat.mod_eq_of_lt (by omega)
      rw [Nat.zero_add, h1, show R.length - 1 + 1 = R.length by omega, Nat.mod_self]
    | succ k =>
      rw [show k + 1 + R.length - 1 = k + R.length by omega, Nat.add_mod_right, Nat.mod_eq_of_lt (show k < _ by omega), Nat.mod_eq_of_lt (by omega)]
  have := h.ok _ (R[(i + R.length - 1) % R.length]) x (List.getElem?_eq_getElem hj) (by rw [hk, List.getElem?_eq_getElem hi, ex])
  exact ⟨_, List.getElem_mem hj, this.2⟩

def nd0 : Addr → Nd := fun _ => ⟨0, fun _ => 0, 0, 0, 0, 0, 0, 0, 0, none, none, 0, none, none⟩
theorem Tab.nil {P : Params} {N : Led} {nd : Addr → Nd} : Tab P N (· ∈ ([] : List Addr)) nd := ⟨fun _ ha => absurd ha List.not_mem_nil, fun _ _ ha => absurd ha List.not_mem_nil⟩
def dueF (f : Nat → Int × Int) (d : Bool) (start : Int) (n : Nat) : List (Nat × Int) :=
  if 1 < n then (if f (idxD d n (n - 1)) = f (idxD d n 0) then (due0 d start n n).take (n - 1) else (due0 d start n n).drop (n - 1) ++ (due0 d start n n).take (n - 1)) else due0 d start n n

theorem Lk.sub {P : Params} {N M M' : Led} {ps : List Addr} {f : Nat → Int × Int} {d : Bool} {start : Int} {i : Nat} {ns : List Addr} {nd : Addr → Nd} (K : Lk P N ps f d start i ns nd M) (s : Sub M M') : Lk P N ps f d start i ns nd M' :=
  ⟨K.len, K.tab.sub s, K.ring, K.nodup, K.all⟩

section
variable {prog : Program} {w : World} {A : Around} {env : Env} {h₀ : Heap} {s₀ : Shared} {h : Heap} {t : Nat} {m : Str → Option Value} {N M : Led} {r : Nat} {S : Addr → Prop} {nd : Addr → Nd}

theorem o_rev {l : Addr} {vs : List Value} {k : Nat} {Q : Value → Shared → Prop} (F : Fr h₀ env.locals h m) (N' : News h₀ env.locals h N) (hl : (l, PySem.W.listOf vs.toArray k) ∈ N)
    (kk : ∀ D h', Fr h₀ env.locals h' m → News h₀ env.locals h' ((D, revObj l ((vs.length : Int) - 1)) :: N) → (∀ p ∈ N, p.1 < D) → Q (.ref D) (stt s₀ h' t)) :
    wpAny (model prog w) A (call (.type "reversed") [.ref l] []) Q NE (stt s₀ h t) :=
  krv_reversed (s := stt s₀ h t) F N' ⟨_, (N' _ hl).1, rfl, _, rfl⟩ kk

theorem linked_call {Q : Value → Shared → Prop} {l : Addr} {ps : List Addr} {k : Nat} {pp : Addr → Pt} {f : Nat → Int × Int} {start : Int} {us : Tok} {ccw d : Bool}
    (G : Gd w A env h₀ (r + 5)) (F : Fr h₀ env.locals h m) (N' : News h₀ env.locals h N) (hl : (l, PySem.W.listOf (ps.map Value.ref).toArray k) ∈ N) (hP : ∀ a ∈ ps, HasP w.params N a (pp a)) (hR : ps.length < 2 ^ 60)
    (hf : ∀ i a, ps[i]? = some a → (pp a).x = (f i).1 ∧ (pp a).y = (f i).2) (hy : ∀ i, i < ps.length → 0 ≤ (f i).2 ∧ (f i).2 ≤ 3) (hd : d = (ccw == decide (sarea f ps.length ps.length < 0)))
    (k0 : ∀ h' t' M, ps.length = 0 → Fr h₀ env.locals h' m → News h₀ env.locals h' M → Keep w.params N M → Q .none (stt s₀ h' t'))
    (k1 : ∀ h' t' M nd q RR, 0 < ps.length → Fr h₀ env.locals h' m → News h₀ env.locals h' M → Keep w.params N M → Tab w.params M (· ∈ RR) nd → Ring nd RR → RR.Nodup → RR.head? = some q → All2 nd ps f RR (dueF f d start ps.length) → Q (.ref q) (stt s₀ h' t')) :
    wpAny (model prog w) A (call (.ref 70) [.ref l, .int start us, .bool ccw] []) Q NE (stt s₀ h t) := by
  refine enter (binds := [("points", .ref l), ("start", .int start us), ("ccw", .bool ccw)]) G F N' (look70 _) (code70 _) rfl rfl rfl rfl rfl rfl fun g L' h₁ t₁ G' F' N₁ => ?_
  have hlen : (ps.map Value.ref).length < 2 ^ 62 := by rw [List.length_map]; omega
  have hli : isIter (PySem.W.listOf (ps.map Value.ref).toArray k) = false := rfl
  have hln : ∀ n, PySem.W.listOf (ps.map Value.ref).toArray k ≠ nodeD w.params n := ne_seq
  unfold bd70 bdS70
  dsimp only
  walk_at "bj"
  walk_at "bj"
  walk_at "bj"
  clear F' N₁
  rename_i h₂ t₂ F₂ N₂
  refine s_ifJ (fun σ => ∃ h' t' m' M ns nd, σ = stt s₀ h' t' ∧ Fr g (envOf qu70 sc70 L' 70 (.ref 69)).locals h' m' ∧ News g (envOf qu70 sc70 L' 70 (.ref 69)).locals h' M ∧ Keep w.params N M ∧ Lk w.params N ps f d start ps.length ns nd M ∧ m' "last" = some (orf ns.getLast?)) ?_ ?_
  · repeat walk_at "bj"
    refine area_call G' (by walk_at "bj_a") (by walk_at "bj_a") hl hP hR hf hy fun h₃ t₃ u₃ F₃ N₃ => ?_
    clear F₂ N₂
    repeat walk_at "bj"
    rw [← hd]
    have base : ∀ (M : Led), KS w.params N M → (l, PySem.W.listOf (ps.map Value.ref).toArray k) ∈ M ∧ ∀ a ∈ ps, HasP w.params M a (pp a) := fun M K =>
      ⟨K _ hl hli hln, fun a ha => ⟨K _ (hP a ha).1 rfl ne_ref, K _ (hP a ha).2 rfl ne_pt⟩⟩
    cases d with
    | true =>
      repeat walk_at "bj"
      refine it_list (vs := ps.map Value.ref) (k := k) (fun i m M => ∃ ns nd, Lk w.params N ps f true start i ns nd M ∧ KS w.params N M ∧ m "last" = some (orf ns.getLast?) ∧ ∃ u, m "start" = some (.int (start + (i : Int)) u)) G'.hh (by walk_at "bj_a") (by walk_at "bj_a")
        (fun i m M j => by obtain ⟨ns, nd, K, s, _⟩ := j; exact (base M s).1) (fun i m M M' j s => by obtain ⟨ns, nd, K, a, b, c⟩ := j; exact ⟨ns, nd, K.sub s, a.sub s, b, c⟩)
        ⟨[], nd0, ⟨rfl, Tab.nil, trivial, by simp, trivial⟩, KS.refl, by repeat walk_at "bj_m", us, by rw [show start + ((0 : Nat) : Int) = start by omega]; repeat walk_at "bj_m"⟩ ?_ ?_
      · clear F₃ N₃
        rintro i v m₁ M h₂ t₂ hv ⟨ns, nd, K, hs, hml, ⟨u, hms⟩⟩ hIt F₂ N₂
        have hi : i < ps.length := by have := (List.getElem?_eq_some_iff.mp hv).1; rwa [List.length_map] at this
        have ha : ps[i]? = some ps[i] := List.getElem?_eq_getElem hi
        generalize ps[i] = a at ha
        rw [map_get ha] at hv
        obtain rfl := Option.some.inj hv
        have Ha := (base M hs).2 a (List.mem_of_getElem? ha)
        repeat walk_at "bj"
        refine Lk.more G' (by walk_at "bj_a") (by walk_at "bj_a") K Ha ha rfl (hf i a ha) ?_
        clear F₂ N₂
        intro h₃ t₃ M₃ p nd' F₃ N₃ Kp K₃
        repeat walk_at "bj"
        refine te_next (by walk_at "bj_a") (by walk_at "bj_a") (Iters.keep Kp) ⟨ns ++ [p], nd', K₃, hs.keep Kp, ?_, ⟨_, m_here.trans (int_cong ?_)⟩⟩
        · rw [List.getLast?_concat]; repeat walk_at "bj_m"
        · rw [Int.natCast_succ]; omega
      · clear F₃ N₃
        rintro m₁ M h₂ t₂ ⟨ns, nd, K, hs, hml, _⟩ hIt F₂ N₂
        rw [List.length_map] at K
        exact s_nilN ⟨_, _, _, _, ns, nd, rfl, F₂, N₂, hs.all hIt, K, hml⟩
    | false =>
      repeat walk_at "bj"
      refine o_rev (by walk_at "bj_a") (by walk_at "bj_a") hl ?_
      clear F₃ N₃
      rename_i F₃ N₃
      intro D h₄ F₄ N₄ hD
      have N₄' : News g (envOf qu70 sc70 L' 70 (.ref 69)).locals h₄ N := News.sub N₄ fun p hp => .tail _ hp
      refine it_rev (vs := ps.map Value.ref) (k := k) (fun i m M => ∃ ns nd, Lk w.params N ps f false start i ns nd M ∧ KS w.params N M ∧ m "last" = some (orf ns.getLast?) ∧ ∃ u, m "end" = some (.int (start + (ps.length : Int) - (i : Int)) u)) G'.hh F₄ N₄' N₄ hD
        (fun i m M j => by obtain ⟨ns, nd, K, s, _⟩ := j; exact (base M s).1) (fun i m M M' j s => by obtain ⟨ns, nd, K, a, b, c⟩ := j; exact ⟨ns, nd, K.sub s, a.sub s, b, c⟩)
        ⟨[], nd0, ⟨rfl, Tab.nil, trivial, by simp, trivial⟩, KS.refl, by repeat walk_at "bj_m", _, m_here.trans (int_cong (by rw [List.length_map]; omega))⟩ ?_ ?_
      · clear F₃ N₃ F₄ N₄ N₄' hD
        rintro i v m₁ M h₂ t₂ hv hi' ⟨ns, nd, K, hs, hml, ⟨u, hms⟩⟩ hIt F₂ N₂
        rw [List.length_map] at hi' hv
        have hj : ps.length - 1 - i < ps.length := by omega
        have ha : ps[ps.length - 1 - i]? = some ps[ps.length - 1 - i] := List.getElem?_eq_getElem hj
        generalize ps[ps.length - 1 - i] = a at ha
        rw [map_get ha] at hv
        obtain rfl := Option.some.inj hv
        have Ha := (base M hs).2 a (List.mem_of_getElem? ha)
        repeat walk_at "bj"
        refine Lk.more G' (by walk_at "bj_a") (by walk_at "bj_a") K Ha ha rfl (hf _ a ha) ?_
        clear F₂ N₂
        intro h₃ t₃ M₃ p nd' F₃ N₃ Kp K₃
        repeat walk_at "bj"
        refine te_next (by walk_at "bj_a") (by walk_at "bj_a") (Iters.keep Kp) ⟨ns ++ [p], nd', K₃, hs.keep Kp, ?_, ⟨_, m_here.trans (int_cong ?_)⟩⟩
        · rw [List.getLast?_concat]; repeat walk_at "bj_m"
        · rw [Int.natCast_succ]; omega
      · clear F₃ N₃ F₄ N₄ N₄' hD
        rintro m₁ M h₂ t₂ ⟨ns, nd, K, hs, hml, _⟩ hIt F₂ N₂
        rw [List.length_map] at K
        exact s_nilN ⟨_, _, _, _, ns, nd, rfl, F₂, N₂, hs.all hIt, K, hml⟩
  · clear F₂ N₂
    rintro σ ⟨h₃, t₃, m₃, M, ns, nd, rfl, F₃, N₃, Kp, K, hml⟩
    rcases List.eq_nil_or_concat ns with rfl | ⟨X, q, rfl⟩
    · have hn : ps.length = 0 := K.len.symm
      replace hml : m₃ "last" = some .none := hml
      repeat walk_at "bj"
      exact lv F₃ N₃ fun F N => k0 _ _ _ hn F N Kp
    · rw [List.concat_eq_append] at K hml
      rw [List.getLast?_concat] at hml
      have hpos : 0 < ps.length := by rw [← K.len]; simp
      obtain ⟨c, hc⟩ : ∃ c, (X ++ [q])[0]? = some c := ⟨_, List.getElem?_eq_getElem (by simp)⟩
      obtain ⟨ec, eq'⟩ := K.ring.end_next hc
      replace hml : m₃ "last" = some (.ref q) := hml
      have hlenX : X.length + 1 = ps.length := by rw [← K.len]; simp
      have hqm : q ∈ X ++ [q] := by simp
      have hcm : c ∈ X ++ [q] := List.mem_of_getElem? hc
      obtain ⟨b, hbm, eb⟩ := K.ring.prev_ex hqm
      have okq : NodeOk ps f (nd q) (idxD d ps.length (ps.length - 1), numD d start ps.length (ps.length - 1)) := All2.get (j := ps.length - 1) K.all (by rw [show ps.length - 1 = X.length by omega]; simp) (by
        unfold due0; rw [List.getElem?_map, List.getElem?_range (by omega)]; rfl)
      have okc : NodeOk ps f (nd c) (idxD d ps.length 0, numD d start ps.length 0) := All2.get (j := 0) K.all hc (by
        unfold due0; rw [List.getElem?_map, List.getElem?_range (by omega)]; rfl)
      have hcond : ((nd q).x == (nd c).x && (nd q).y == (nd c).y) = decide (f (idxD d ps.length (ps.length - 1)) = f (idxD d ps.length 0)) := by
        rw [okq.2.2.1, okq.2.2.2.1, okc.2.2.1, okc.2.2.2.1]
        rw [Bool.eq_iff_iff, Bool.and_eq_true, beq_iff_eq, beq_iff_eq, decide_eq_true_eq]
        exact Prod.ext_iff.symm
      repeat walk_at "bj"
      refine t_node G' F₃ N₃ K.tab hqm ?_
      repeat walk_at "bj"
      refine tg_next G' F₃ N₃ K.tab hqm fun t' => ?_
      rw [ec]
      refine c_nodeEq G' F₃ N₃ K.tab hqm hcm fun h₄ t₄ F₄ N₄ => ?_
      clear F₃ N₃
      rw [hcond]
      walk_at "bj"
      by_cases hE : f (idxD d ps.length (ps.length - 1)) = f (idxD d ps.length 0)
      · rw [decide_eq_true hE]
        refine if_t ?_
        refine t_andN ?_
        refine if_t ?_
        refine s_expr ?_ rfl rfl
        repeat walk_at "bj"
        have hpz : ∀ z, (nd q).pz = some z → q ∈ X ++ [q] := fun z hz => by rw [okq.2.2.2.2.1] at hz; cases hz
        refine rem_call G' F₄ N₄ K.tab hqm ec hcm eb hbm (fun z hz => by rw [okq.2.2.2.2.1] at hz; cases hz) (fun z hz => by rw [rm3_own, okq.2.2.2.2.2] at hz; cases hz) ?_
        clear F₄ N₄
        intro h₅ t₅ M₅ F₅ N₅ K₅ T₅
        refine ⟨rfl, ?_⟩
        have en : (rmv nd q c b q).next = some c := by rw [rmv_next ec]; split <;> first | rfl | exact ec
        repeat walk_at "bj"
        refine tg_next G' F₅ N₅ T₅ hqm fun t' => ?_
        rw [en]
        repeat walk_at "bj"
        have mono : ∀ a ∈ X ++ [q], Alike (rmv nd q c b a) (nd a) ∧ (rmv nd q c b a).pz = (nd a).pz ∧ (rmv nd q c b a).nz = (nd a).nz := fun a _ => by
          refine ⟨rmv_alike a, ?_, ?_⟩
          · rw [rmv_pz, okq.2.2.2.2.2, if_neg (by intro e; cases e)]
          · rw [rmv_nz, okq.2.2.2.2.1, if_neg (by intro e; cases e)]
        have all' := All2.mono K.all mono
        cases X with
        | nil =>
          have hn1 : ps.length = 1 := by rw [← hlenX]; rfl
          have hcq : c = q := by simpa using hcm
          have hbq : b = q := by simpa using hbm
          subst hcq hbq
          refine lv (by walk_at "bj_a") (by walk_at "bj_a") fun F N => k1 _ _ M₅ (rmv nd b b b) b [b] hpos F N (Kp.trans K₅) T₅ ⟨en, ?_, trivial⟩ (by simp) rfl ?_
          · rw [rmv_prev, if_pos rfl]
          · unfold dueF
            rw [if_neg (by omega)]
            exact all'
        | cons c' Y =>
          have hcc : c = c' := by simpa using hc.symm
          subst hcc
          have hn1 : 1 < ps.length := by rw [← hlenX]; simp
          have hrot : Ring nd (q :: c :: Y) := Ring.rot (A := c :: Y) (B := [q]) K.ring
          have hnod : (q :: c :: Y).Nodup := (List.perm_append_comm (l₁ := c :: Y) (l₂ := [q])).nodup_iff.mp K.nodup
          refine lv (by walk_at "bj_a") (by walk_at "bj_a") fun F N => k1 _ _ M₅ (rmv nd q c b) c (c :: Y) hpos F N (Kp.trans K₅) (T₅.weak fun a ha => List.mem_append_left _ ha) (Ring.rem hrot hnod ec eb) (List.nodup_cons.mp hnod).2 rfl ?_
          have h2 := All2.take (ps.length - 1) all'
          rw [show ps.length - 1 = (c :: Y).length by omega, List.take_left] at h2
          unfold dueF
          rw [if_pos hn1, if_pos hE, show ps.length - 1 = (c :: Y).length by omega]
          exact h2
      · rw [decide_eq_false hE]
        have hn1 : 1 < ps.length := by
          rcases Nat.lt_or_ge 1 ps.length with h | h
          · exact h
          · exact absurd (by rw [show ps.length - 1 = 0 by omega]) hE
        repeat walk_at "bj"
        refine lv (by walk_at "bj_a") (by walk_at "bj_a") fun F N => k1 _ _ M nd q (q :: X) hpos F N Kp (K.tab.weak fun a ha => ?_) (Ring.rot (A := X) (B := [q]) K.ring) ((List.perm_append_comm (l₁ := X) (l₂ := [q])).nodup_iff.mp K.nodup) rfl ?_
        · simp only [List.mem_append, List.mem_cons, List.not_mem_nil, or_false] at ha ⊢
          exact ha.symm
        · have h1 := All2.drop (ps.length - 1) K.all
          have h2 := All2.take (ps.length - 1) K.all
          have h3 := All2.append h1 h2
          rw [show ps.length - 1 = X.length by omega, List.drop_left, List.take_left] at h3
          unfold dueF
          rw [if_pos hn1, if_neg hE, show ps.length - 1 = X.length by omega]
          exact h3
end
end

section
/-! lists: methods, displays, truth -/
theorem put_other {h₀ h : Heap} {L : Addr} {M : Led} (x : News h₀ L h M) {d a : Addr} {o o' o1 : Obj} (hm : (d, o) ∈ M) (ha : (a, o1) ∈ M) (hne : o1 ≠ o) : (a, o1) ∈ put d o' M := mem_put_ne ha fun e => hne (News.uniq x (e ▸ ha) hm)
theorem list_ne_nd {P : Params} {vs : Array Value} {k : Nat} (n : Nd) : nodeD P n ≠ PySem.W.listOf vs k := fun e => ne_seq n e.symm
theorem Tab.putL {P : Params} {h₀ h : Heap} {L : Addr} {M : Led} {S : Addr → Prop} {nd : Addr → Nd} (x : News h₀ L h M) {d : Addr} {vs : Array Value} {k : Nat} {o' : Obj} (hm : (d, PySem.W.listOf vs k) ∈ M) (T : Tab P M S nd) : Tab P (put d o' M) S nd :=
  ⟨fun a ha => ⟨put_other x hm (T.has a ha).1 (by intro e; cases e), put_other x hm (T.has a ha).2 (list_ne_nd _)⟩, T.inj⟩
theorem Iters.putL {h₀ h : Heap} {L : Addr} {M : Led} (x : News h₀ L h M) {d : Addr} {vs : Array Value} {k : Nat} {o' : Obj} (hm : (d, PySem.W.listOf vs k) ∈ M) : Iters M (Bj.put d o' M) := Iters.put x hm rfl

section
variable {prog : Program} {w : World} {A : Around} {env : Env} {h₀ : Heap} {s₀ : Shared} {h : Heap} {t : Nat} {m : Str → Option Value} {N : Led} {r : Nat} {pos apos : Pos} {S : Addr → Prop} {nd : Addr → Nd} {l : Addr} {vs : List Value} {k : Nat}

theorem s_exprA {e : Expr} {rest : List Stmt} {Q : Flow → Shared → Prop} (kk : wpAny (model prog w) A (eval e env) (fun _ σ => wpAny (model prog w) A (execs rest env) Q NE σ) NE (stt s₀ h t))
    (hi : interactive env = false) (hs : swapsWith e none pos.line env = pure false) :
    wpAny (model prog w) A (execs (.Expr e pos :: rest) env) Q NE (stt s₀ h t) := wpAny_execs_cons (wpAny_Expr_any kk hi hs)
theorem e_meth {o e : Expr} {rest : List Expr} {name : Str} {pl : Sem Bool} {Q : Value → Shared → Prop}
    (kk : wpAny (model prog w) A (eval o env) (fun ov s₁ => wpAny (model prog w) A (getMethod ov name pl) (fun fx s₂ => ∃ id, fx.1 = .builtin id ∧ wpAny (model prog w) A (spliced (backTo pos (starEach (e :: rest) env))) (fun vs s₁ => wpAny (model prog w) A (call (.builtin id) (fx.2 ++ vs)) Q NE s₁) NE s₂) NE s₁) NE (stt s₀ h t))
    (hm : eval (.Call (.Attribute o name apos) (e :: rest) [] pos) env = (do
      let ov ← eval o env
      standAt apos.atName
      let (f, first) ← holding [ov] (getMethod ov name pl)
      callWith pos f first (backTo pos (starEach (e :: rest) env)) []))
    (he : starEach (e :: rest) env = (false, eval e env) :: starEach rest env) (hplain : (backTo pos (starEach rest env)).any (·.1) = false) :
    wpAny (model prog w) A (eval (.Call (.Attribute o name apos) (e :: rest) [] pos) env) Q NE (stt s₀ h t) := by
  refine MethodCall_ (wpAny_mono kk (fun ov s₁ z => wpAny_mono z (fun fx s₂ z => ?_) fun _ _ z => z) fun _ _ z => z) hm
  obtain ⟨f, first⟩ := fx
  obtain ⟨id, rfl, z⟩ := z
  exact callWith_method1 z he hplain

theorem g_append {pl : Sem Bool} {Q : Value × List Value → Shared → Prop} (N' : News h₀ env.locals h N) (hm : (l, PySem.W.listOf vs.toArray k) ∈ N) (kk : Q (.builtin "list.append", [.ref l]) (stt s₀ h t)) :
    wpAny (model prog w) A (getMethod (.ref l) "append" pl) Q NE (stt s₀ h t) := PySem.W.kl_method (s := stt s₀ h t) N' hm PySem.F.slot_list_append PySem.F.type_list_append kk
theorem g_insert {pl : Sem Bool} {Q : Value × List Value → Shared → Prop} (N' : News h₀ env.locals h N) (hm : (l, PySem.W.listOf vs.toArray k) ∈ N) (kk : Q (.builtin "list.insert", [.ref l]) (stt s₀ h t)) :
    wpAny (model prog w) A (getMethod (.ref l) "insert" pl) Q NE (stt s₀ h t) := PySem.W.kl_method (s := stt s₀ h t) N' hm PySem.F.slot_list_insert PySem.F.type_list_insert kk
theorem g_pop {pl : Sem Bool} {Q : Value × List Value → Shared → Prop} (N' : News h₀ env.locals h N) (hm : (l, PySem.W.listOf vs.toArray k) ∈ N) (kk : Q (.builtin "list.pop", [.ref l]) (stt s₀ h t)) :
    wpAny (model prog w) A (getMethod (.ref l) "pop" pl) Q NE (stt s₀ h t) := PySem.W.kl_method (s := stt s₀ h t) N' hm PySem.F.slot_list_pop PySem.F.type_list_pop kk

theorem l_append {x : Value} {Q : Value → Shared → Prop} (F : Fr h₀ env.locals h m) (N' : News h₀ env.locals h N) (hm : (l, PySem.W.listOf vs.toArray k) ∈ N) (hz : vs.length ≤ 1000)
    (kk : ∀ h', Fr h₀ env.locals h' m → News h₀ env.locals h' (put l (PySem.W.listOf (vs ++ [x]).toArray (k + 1)) N) → Q .none (stt s₀ h' t)) :
    wpAny (model prog w) A (call (.builtin "list.append") [.ref l, x]) Q NE (stt s₀ h t) :=
  PySem.W.append_K (s := stt s₀ h t) F (News.filt N' hm) (.head filt_ne) (fun h' F' N'' => kk h' F' (by rw [List.push_toArray] at N''; exact N'')) (by rw [List.size_toArray]; exact Nat.le_trans hz (Nat.le_of_ble_eq_true rfl))
theorem l_insert {j : Nat} {i : Int} {u : Tok} {x : Value} {Q : Value → Shared → Prop} (F : Fr h₀ env.locals h m) (N' : News h₀ env.locals h N) (hm : (l, PySem.W.listOf vs.toArray k) ∈ N) (hi : i = (j : Int)) (hj : j ≤ vs.length) (hz : vs.length ≤ 1000)
    (kk : ∀ h', Fr h₀ env.locals h' m → News h₀ env.locals h' (put l (PySem.W.listOf (vs.take j ++ x :: vs.drop j).toArray (k + 1)) N) → Q .none (stt s₀ h' t)) :
    wpAny (model prog w) A (call (.builtin "list.insert") [.ref l, .int i u, x]) Q NE (stt s₀ h t) := by
  subst hi
  refine PySem.W.kl_insert (s := stt s₀ h t) F (News.filt N' hm) ?_ ?_ (.head filt_ne) (Nat.le_trans hz (Nat.le_of_ble_eq_true rfl)) (fun h' F' N'' => kk h' F' N'')
  · unfold Builtin.List.listFitsIndex
    simp; omega
  · unfold PySem.W.kl_ins
    rw [if_neg (by omega)]
    rw [show min ((j : Int).toNat) vs.toArray.toList.length = j by simp; omega]
theorem l_pop {j : Nat} {i : Int} {u : Tok} {x : Value} {p q : List Value} {Q : Value → Shared → Prop} (F : Fr h₀ env.locals h m) (N' : News h₀ env.locals h N) (hm : (l, PySem.W.listOf vs.toArray k) ∈ N) (hi : i = (j : Int)) (hj : j = p.length) (hv : vs = p ++ x :: q) (hz : vs.length ≤ 1000)
    (kk : ∀ h', Fr h₀ env.locals h' m → News h₀ env.locals h' (put l (PySem.W.listOf (p ++ q).toArray (k + 1)) N) → Q x (stt s₀ h' t)) :
    wpAny (model prog w) A (call (.builtin "list.pop") [.ref l, .int i u]) Q NE (stt s₀ h t) := by
  subst hi hj hv
  refine PySem.W.kl_popAt (s := stt s₀ h t) (k := p.length) F (News.filt N' hm) ?_ ?_ ?_ (.head filt_ne) (Nat.le_trans hz (Nat.le_of_ble_eq_true rfl)) (fun h' F' N'' => kk h' F' N'')
  · unfold Builtin.List.listFitsIndex
    simp at hz ⊢; omega
  · unfold seqIndex?
    have h1 : ¬ ((p.length : Int) < 0) := by omega
    have h2 : (p.length : Int) < (p.length : Int) + ((q.length : Int) + 1) := by omega
    simp [h1, h2]
  · show PySem.W.kl_cut (p ++ x :: q) p.length = _
    clear hm hz kk N' F
    induction p with
    | nil => rfl
    | cons a p ih => simp only [List.cons_append, List.length_cons, PySem.W.kl_cut, ih]

theorem e_list {elts : List Expr} {Q : Value → Shared → Prop}
    (kk : wpAny (model prog w) A (spliced (backTo pos (starEach elts env))) (fun vs s₁ => wpAny (model prog w) A (newList vs) Q NE s₁) NE (stt s₀ h t)) : wpAny (model prog w) A (eval (.List elts pos) env) Q NE (stt s₀ h t) := List_ kk
theorem e_tup {elts : List Expr} {n : Nat} {Q : Value → Shared → Prop}
    (kk : wpAny (model prog w) A (spliced (backTo pos (starEach elts env))) (fun vs s₁ => wpAny (model prog w) A (newTuple vs) Q NE s₁) NE (stt s₀ h t)) : wpAny (model prog w) A (eval (.Tuple elts n pos) env) Q NE (stt s₀ h t) := Tuple_ kk
theorem n_list {Q : Value → Shared → Prop} (F : Fr h₀ env.locals h m) (N' : News h₀ env.locals h N) (hz : vs.length ≤ 1000)
    (kk : ∀ l h', Fr h₀ env.locals h' m → News h₀ env.locals h' ((l, PySem.W.listOf vs.toArray 0) :: N) → (∀ p ∈ N, p.1 < l) → Q (.ref l) (stt s₀ h' t)) : wpAny (model prog w) A (newList vs) Q NE (stt s₀ h t) :=
  PySem.W.newList_K (s := stt s₀ h t) F N' kk (Nat.le_trans hz (Nat.le_of_ble_eq_true rfl))
theorem n_tup {Q : Value → Shared → Prop} (F : Fr h₀ env.locals h m) (N' : News h₀ env.locals h N) (hz : vs.length ≤ 1000)
    (kk : ∀ l h', Fr h₀ env.locals h' m → News h₀ env.locals h' ((l, { cls := .type "tuple", data := .seq vs.toArray }) :: N) → (∀ p ∈ N, p.1 < l) → Q (.ref l) (stt s₀ h' t)) : wpAny (model prog w) A (newTuple vs) Q NE (stt s₀ h t) :=
  newTuple_N (s := stt s₀ h t) F N' (fun h' F' N'' => kk _ h' F' N'' fun p hp => Heap.lt_size (N' p hp).1) (Nat.le_trans hz (Nat.le_of_ble_eq_true rfl))
theorem tb_list {Q : Bool → Shared → Prop} (N' : News h₀ env.locals h N) (hm : (l, PySem.W.listOf vs.toArray k) ∈ N) (hz : vs.length ≤ 1000) (kk : ∀ t', Q (!vs.isEmpty) (stt s₀ h t')) :
    wpAny (model prog w) A (truthy (.ref l)) Q NE (stt s₀ h t) :=
  wpAny_truthy_list (s := stt s₀ h t) ⟨_, (N' _ hm).1, rfl, _, rfl⟩ (by rw [List.size_toArray]; omega) (by rw [List.isEmpty_toArray]; exact kk _)
end
end

section
local macro_rules | `(tactic| walk_at "bj_gn") => `(tactic| first | with_reducible exact gn_len _ | with_reducible exact gn_range _ | with_reducible exact gn_list _ | with_reducible exact gn_reversed _)
local macro_rules | `(tactic| walk_at "bj_bt") => `(tactic| first | with_reducible exact PySem.boot_len | with_reducible exact PyProof.Rows.boot_range | with_reducible exact PyProof.Rows.boot_list | with_reducible exact PyProof.Rows.boot_reversed)
local macro_rules | `(tactic| walk_at "bj_gl") => `(tactic| first | with_reducible exact gl_31 _ | with_reducible exact gl_59 _ | with_reducible exact gl_70 _ | with_reducible exact gl_77 _ | with_reducible exact gl_84 _ | with_reducible exact gl_91 _ | with_reducible exact gl_92 _ | with_reducible exact gl_99 _ | with_reducible exact gl_106 _ | with_reducible exact gl_113 _ | with_reducible exact gl_120 _ | with_reducible exact gl_127 _ | with_reducible exact gl_134 _)
local macro_rules | `(tactic| walk_at "bj_kp") => `(tactic| first | with_reducible exact kp_31 _ | with_reducible exact kp_59 _ | with_reducible exact kp_70 _ | with_reducible exact kp_77 _ | with_reducible exact kp_84 _ | with_reducible exact kp_91 _ | with_reducible exact kp_99 _ | with_reducible exact kp_106 _ | with_reducible exact kp_113 _ | with_reducible exact kp_120 _ | with_reducible exact kp_127 _ | with_reducible exact kp_134 _)
local macro_rules | `(tactic| walk_at "bj_m") => `(tactic| first | (with_reducible assumption) | (with_reducible exact m_here) | ((with_reducible refine m_there ?hmt ?_); (case hmt => decide); walk_at "bj_m") | rfl)
local macro_rules | `(tactic| walk_at "bj_a") => `(tactic| (with_reducible assumption))
local macro_rules | `(tactic| walk_at "bj") => `(tactic| first
  | (with_reducible refine s_nilR ?_)
  | ((with_reducible refine' s_assignAttr ?_ ?hs); (case hs => rfl))
  | ((with_reducible refine' s_assign ?_ ?hs); (case hs => rfl))
  | (with_reducible refine' s_if ?_)
  | (with_reducible refine' s_ret ?_)
  | (with_reducible refine' s_aug ?_)
  | ((with_reducible refine' e_L ?G ?F ?hx ?hv ?_ ?hdb); (case G => walk_at "bj_a"); (case F => walk_at "bj_a"); (case hx => rfl); (case hdb => rfl); (case hv => walk_at "bj_m"))
  | ((with_reducible refine' l_L ?G ?F ?hx ?hv ?_); (case G => walk_at "bj_a"); (case F => walk_at "bj_a"); (case hx => rfl); (case hv => walk_at "bj_m"))
  | ((with_reducible refine' e_st ?G ?F ?N ?hx ?_); (case G => walk_at "bj_a"); (case F => walk_at "bj_a"); (case N => walk_at "bj_a"); (case hx => rfl); intro h' t' F' N')
  | ((with_reducible refine' e_attr ?_ ?he); (case he => with_unfolding_all rfl))
  | ((with_reducible refine' t_cmp ?_ ?hm); (case hm => with_unfolding_all rfl))
  | ((with_reducible refine' e_cmp ?_ ?hm); (case hm => with_unfolding_all rfl))
  | (with_reducible refine' e_bin ?_)
  | (with_reducible refine' t_not ?_)
  | (with_reducible refine' t_and ?_)
  | (with_reducible refine' t_or ?_)
  | (with_reducible refine' t_andN ?_)
  | (with_reducible refine' t_orN ?_)
  | (with_reducible refine' e_ifx ?_)
  | (with_reducible refine' e_and ?_)
  | (with_reducible refine' e_and1 ?_)
  | (with_reducible refine' e_un ?_)
  | (with_reducible refine' tb_bool ?_)
  | (with_reducible refine' tb_none ?_)
  | ((with_reducible refine' o_add ?_); intro u' t')
  | ((with_reducible refine' o_iadd ?_); intro u' t')
  | ((with_reducible refine' o_isub ?_); intro u' t')
  | ((with_reducible refine' o_sub ?_); intro u' t')
  | ((with_reducible refine' o_mod ?_ ?_); (decide); intro u' t')
  | ((with_reducible refine' o_neg ?_); intro u' t')
  | (with_reducible refine' c_eq ?_)
  | (with_reducible refine' c_ne ?_)
  | (with_reducible refine' c_lt ?_)
  | (with_reducible refine' c_gt ?_)
  | (with_reducible refine' c_le ?_)
  | (with_reducible refine' c_ge ?_)
  | (with_reducible refine' c_isB ?_)
  | (with_reducible refine' c_isnB ?_)
  | (with_reducible refine' c_eqB ?_)
  | (with_reducible refine' c_neB ?_)
  | (with_reducible refine' c_isRN ?_)
  | (with_reducible refine' c_isNN ?_)
  | (with_reducible refine' c_isnRN ?_)
  | (with_reducible refine' c_isnNR ?_)
  | (with_reducible refine' c_isnNN ?_)
  | (with_reducible refine' c_isnRS ?_)
  | (with_reducible refine' c_isRS ?_)
  | (with_reducible refine' if_t ?_)
  | (with_reducible refine' if_f ?_)
  | (with_reducible refine' if_nt ?_)
  | (with_reducible refine' if_nf ?_)
  | ((with_reducible refine' e_callG ?G ?F ?hx ?hdb ?eg ?hk ?_ ?hc ?he ?hp); (case G => walk_at "bj_a"); (case F => walk_at "bj_a"); (case hx => rfl); (case hdb => rfl); (case eg => walk_at "bj_gl"); (case hk => walk_at "bj_kp"); (case hc => rfl); (case he => rfl); (case hp => rfl))
  | ((with_reducible refine' e_callB ?G ?F ?hx ?hdb ?eg ?hv ?hn ?_ ?hc ?he ?hp); (case G => walk_at "bj_a"); (case F => walk_at "bj_a"); (case hx => rfl); (case hdb => rfl); (case eg => walk_at "bj_gn"); (case hv => walk_at "bj_bt"); (case hn => decide); (case hc => rfl); (case he => rfl); (case hp => rfl))
  | ((with_reducible refine' e_callT ?G ?F ?hx ?hdb ?eg ?hv ?hn ?_ ?hc ?he ?hp); (case G => walk_at "bj_a"); (case F => walk_at "bj_a"); (case hx => rfl); (case hdb => rfl); (case eg => walk_at "bj_gn"); (case hv => walk_at "bj_bt"); (case hn => decide); (case hc => rfl); (case he => rfl); (case hp => rfl))
  | ((with_reducible refine' o_len ?N ?hm ?hf ?_); (case N => walk_at "bj_a"); (case hm => walk_at "bj_a"); (case hf => walk_at "bj_a"); intro u' t')
  | ((with_reducible refine' o_range ?F ?N ?_); (case F => walk_at "bj_a"); (case N => walk_at "bj_a"); intro rg' h' t' a' b' c' R' F' N')
  | (with_reducible refine' e_sub ?_)
  | ((with_reducible refine' s_for ?G ?hx ?_ ?hs); (case G => walk_at "bj_a"); (case hx => rfl); (case hs => intro _; rfl))
  | ((with_reducible refine' a_cons ?_ ?he); (case he => rfl))
  | (with_reducible refine' a_nil ?_)
  | ((with_reducible refine' a_in ?G ?F ?_); (case G => walk_at "bj_a"); (case F => walk_at "bj_a"))
  | ((with_reducible refine' t_plain ?_ ?he); (case he => rfl))
  | (with_reducible refine' e_none ?_)
  | (with_reducible refine' e_bool ?_)
  | ((with_reducible refine' e_int ?_); intro u' t'))
local macro_rules | `(tactic| walk_at "bj_g5") => `(tactic| ((case G => walk_at "bj_a"); (case F => walk_at "bj_a"); (case N => walk_at "bj_a"); (case T => walk_at "bj_a"); (case hS => walk_at "bj_a")))
local macro_rules | `(tactic| walk_at "bj_get") => `(tactic| first
  | ((with_reducible refine' tg_next ?G ?F ?N ?T ?hS ?_); (case G => walk_at "bj_a"); (case F => walk_at "bj_a"); (case N => walk_at "bj_a"); (case T => walk_at "bj_a"); (case hS => walk_at "bj_a"); intro t')
  | ((with_reducible refine' tg_prev ?G ?F ?N ?T ?hS ?_); (case G => walk_at "bj_a"); (case F => walk_at "bj_a"); (case N => walk_at "bj_a"); (case T => walk_at "bj_a"); (case hS => walk_at "bj_a"); intro t')
  | ((with_reducible refine' tg_pz ?G ?F ?N ?T ?hS ?_); (case G => walk_at "bj_a"); (case F => walk_at "bj_a"); (case N => walk_at "bj_a"); (case T => walk_at "bj_a"); (case hS => walk_at "bj_a"); intro t')
  | ((with_reducible refine' tg_nz ?G ?F ?N ?T ?hS ?_); (case G => walk_at "bj_a"); (case F => walk_at "bj_a"); (case N => walk_at "bj_a"); (case T => walk_at "bj_a"); (case hS => walk_at "bj_a"); intro t')
  | ((with_reducible refine' tg_i ?G ?F ?N ?T ?hS ?_); (case G => walk_at "bj_a"); (case F => walk_at "bj_a"); (case N => walk_at "bj_a"); (case T => walk_at "bj_a"); (case hS => walk_at "bj_a"); intro t')
  | ((with_reducible refine' tg_point ?G ?F ?N ?T ?hS ?_); (case G => walk_at "bj_a"); (case F => walk_at "bj_a"); (case N => walk_at "bj_a"); (case T => walk_at "bj_a"); (case hS => walk_at "bj_a"); intro t')
  | ((with_reducible refine' tg_x ?G ?F ?N ?T ?hS ?_); (case G => walk_at "bj_a"); (case F => walk_at "bj_a"); (case N => walk_at "bj_a"); (case T => walk_at "bj_a"); (case hS => walk_at "bj_a"); intro t')
  | ((with_reducible refine' tg_y ?G ?F ?N ?T ?hS ?_); (case G => walk_at "bj_a"); (case F => walk_at "bj_a"); (case N => walk_at "bj_a"); (case T => walk_at "bj_a"); (case hS => walk_at "bj_a"); intro t')
  | ((with_reducible refine' tg_z ?G ?F ?N ?T ?hS ?_); (case G => walk_at "bj_a"); (case F => walk_at "bj_a"); (case N => walk_at "bj_a"); (case T => walk_at "bj_a"); (case hS => walk_at "bj_a"); intro t')
  | ((with_reducible refine' tg_st ?G ?F ?N ?T ?hS ?_); (case G => walk_at "bj_a"); (case F => walk_at "bj_a"); (case N => walk_at "bj_a"); (case T => walk_at "bj_a"); (case hS => walk_at "bj_a"); intro t'))
local macro_rules | `(tactic| walk_at "bj_set") => `(tactic| (first
  | (with_reducible refine' ts_prev ?G ?F ?N ?T ?hS ?_)
  | (with_reducible refine' ts_next ?G ?F ?N ?T ?hS ?_)
  | (with_reducible refine' ts_pz ?G ?F ?N ?T ?hS ?_)
  | (with_reducible refine' ts_nz ?G ?F ?N ?T ?hS ?_)
  | (with_reducible refine' ts_prevR ?G ?F ?N ?T ?hS ?_)
  | (with_reducible refine' ts_nextR ?G ?F ?N ?T ?hS ?_)
  | (with_reducible refine' ts_pzR ?G ?F ?N ?T ?hS ?_)
  | (with_reducible refine' ts_nzR ?G ?F ?N ?T ?hS ?_)))
local macro_rules | `(tactic| walk_at "bj_il") => `(tactic| ((with_reducible refine' i_list ?N ?hm ?hi ?hx ?hj ?k ?hs); (case N => walk_at "bj_a"); (case hm => walk_at "bj_a"); (case hs => with_unfolding_all rfl)))
local macro_rules | `(tactic| walk_at "bj_it") => `(tactic| ((with_reducible refine' i_tup ?N ?hm ?hi ?hj ?hx ?k ?hs); (case N => walk_at "bj_a"); (case hm => walk_at "bj_a"); (case hs => with_unfolding_all rfl)))
local macro_rules | `(tactic| walk_at "bk") => `(tactic| first
  | walk_at "bj"
  | ((with_reducible refine' s_exprA ?_ ?hi ?hs); (case hi => rfl); (case hs => rfl))
  | ((with_reducible refine' e_meth ?_ ?hm ?he ?hp); (case hm => rfl); (case he => rfl); (case hp => rfl))
  | (with_reducible refine' e_list ?_)
  | (with_reducible refine' e_tup ?_)
  | ((with_reducible refine' i_list ?N ?hm ?hi ?hx ?hj ?_ ?hs); (case N => walk_at "bj_a"); (case hm => walk_at "bj_a"); (case hi => with_reducible rfl); (case hx => exact map_get (by with_reducible assumption)); (case hj => omega); (case hs => with_unfolding_all rfl))
  | ((with_reducible refine' i_tup (j := 0) ?N ?hm ?hi ?hj ?hx ?_ ?hs); (case N => walk_at "bj_a"); (case hm => walk_at "bj_a"); (case hi => rfl); (case hj => decide); (case hx => rfl); (case hs => with_unfolding_all rfl))
  | ((with_reducible refine' i_tup (j := 1) ?N ?hm ?hi ?hj ?hx ?_ ?hs); (case N => walk_at "bj_a"); (case hm => walk_at "bj_a"); (case hi => rfl); (case hj => decide); (case hx => rfl); (case hs => with_unfolding_all rfl)))
section
variable {prog : Program} {w : World} {A : Around} {env : Env} {h₀ : Heap} {s₀ : Shared} {h : Heap} {t : Nat} {m : Str → Option Value} {N : Led} {r : Nat} {pos : Pos} {S : Addr → Prop} {nd : Addr → Nd}

theorem All2.pts {ps : List Addr} {f : Nat → Int × Int} : ∀ {A : List Addr} {C : List (Nat × Int)}, All2 nd ps f A C → ∀ e ∈ C, e.1 < ps.length
  | [], [], _, _, he => absurd he List.not_mem_nil
  | _ :: _, _ :: _, h, e, he => by
    rcases List.mem_cons.mp he with rfl | he
    · exact (List.getElem?_eq_some_iff.mp h.1.2.1).1
    · exact All2.pts h.2 e he
  | [], _ :: _, h, _, _ => h.elim
  | _ :: _, [], h, _, _ => h.elim

theorem told_call {Q : Value → Shared → Prop} {q lp lw ld : Addr} {ps rs ds RR : List Addr} {kp kw kd : Nat} {tp dp : Addr → Tp} {f : Nat → Int × Int} {E : List (Nat × Int)}
    (G : Gd w A env h₀ (r + 2)) (F : Fr h₀ env.locals h m) (N' : News h₀ env.locals h N) (T : Tab w.params N S nd) (hS : ∀ a ∈ RR, S a) (hq : RR.head? = some q) (ring : Ring nd RR) (all : All2 nd ps f RR E)
    (hp : (lp, PySem.W.listOf (ps.map Value.ref).toArray kp) ∈ N) (hw : (lw, PySem.W.listOf (rs.map Value.ref).toArray kw) ∈ N) (hd : (ld, PySem.W.listOf (ds.map Value.ref).toArray kd) ∈ N)
    (hrs : ∀ a ∈ rs, (a, tupD (tp a)) ∈ N) (hds : ∀ a ∈ ds, (a, tupD (dp a)) ∈ N) (hf : ∀ i a, rs[i]? = some a → (tp a).x = (f i).1 ∧ (tp a).y = (f i).2)
    (hE : ∀ (j : Nat) a e, ds[j]? = some a → E[j]? = some e → (dp a).x = (e.1 : Int) ∧ (dp a).y = e.2) (hl : ds.length = E.length) (hl2 : rs.length = ps.length) (hz : ps.length ≤ 100) (hz2 : E.length ≤ 100)
    (kk : ∀ h' t' l c, Fr h₀ env.locals h' m → News h₀ env.locals h' ((l, PySem.W.listOf (RR.map Value.ref).toArray c) :: N) → (∀ p ∈ N, p.1 < l) → Q (.ref l) (stt s₀ h' t')) :
    wpAny (model prog w) A (call (.ref 127) [.ref q, .ref lp, .ref lw, .ref ld] []) Q NE (stt s₀ h t) := by
  refine enter (binds := [("told", .ref q), ("points", .ref lp), ("rows", .ref lw), ("due", .ref ld)]) G F N' (look127 _) (code127 _) rfl rfl rfl rfl rfl rfl fun g L' h₁ t₁ G' F' N₁ => ?_
  have hlen : (ds.map Value.ref).length < 2 ^ 62 := by rw [List.length_map]; omega
  have hRR : RR.length = ds.length := by rw [hl]; exact All2.length all
  have hpos : 0 < RR.length := by cases RR with
    | nil => cases hq
    | cons _ _ => simp
  have ok := ring.ok
  have hq0 : RR[0]? = some q := by rw [← List.head?_eq_getElem?]; exact hq
  unfold bd127 bdS127
  dsimp only
  repeat walk_at "bk"
  refine n_list (vs := []) (by walk_at "bj_a") (by walk_at "bj_a") (by simp) ?_
  clear F' N₁
  intro l h₂ F' N₁ hlt
  have hd₁ : (ld, PySem.W.listOf (ds.map Value.ref).toArray kd) ∈ (l, PySem.W.listOf ([] : List Value).toArray 0) :: N := .tail _ hd
  have hl₁ : (l, PySem.W.listOf ((RR.take 0).map Value.ref).toArray 0) ∈ (l, PySem.W.listOf ([] : List Value).toArray 0) :: N := .head _
  repeat walk_at "bk"
  refine it_range (n := ds.length) (fun i m M => m "told" = some (.ref q) ∧ m "points" = some (.ref lp) ∧ m "rows" = some (.ref lw) ∧ m "due" = some (.ref ld) ∧ m "ring" = some (.ref l) ∧
      (∀ b, RR[i % RR.length]? = some b → m "node" = some (.ref b)) ∧ (∃ c, (l, PySem.W.listOf ((RR.take i).map Value.ref).toArray c) ∈ M) ∧ Sub N M) G'.hh (by walk_at "bj_a") (by walk_at "bj_a") (by rw [← List.length_map (f := Value.ref)]; assumption) (by omega)
    (fun _ _ _ _ j s => by obtain ⟨a1, a2, a3, a4, a5, a6, ⟨c, a7⟩, a8⟩ := j; exact ⟨a1, a2, a3, a4, a5, a6, ⟨c, s _ a7 rfl⟩, a8.trans s⟩)
    ⟨by repeat walk_at "bj_m", by repeat walk_at "bj_m", by repeat walk_at "bj_m", by repeat walk_at "bj_m", by repeat walk_at "bj_m", fun b hb => ?_, ⟨0, hl₁⟩, Sub.of_sub fun p hp => .tail _ hp⟩ ?_ ?_
  · rw [Nat.zero_mod, hq0] at hb
    obtain rfl := Option.some.inj hb
    repeat walk_at "bj_m"
  · clear F' N₁
    rintro i u m₁ M h₃ t₃ hi ⟨a1, a2, a3, a4, a5, a6, ⟨c, a7⟩, a8⟩ hIt F₃ N₃
    have hi' : i < RR.length := by omega
    obtain ⟨b, hb⟩ := nx_some hi'
    have ha : RR[i]? = some RR[i] := List.getElem?_eq_getElem hi'
    generalize RR[i] = a at ha
    obtain ⟨en, ep⟩ := ok i a b ha hb
    have hSa := hS a (List.mem_of_getElem? ha)
    have a6' := a6 a (by rw [Nat.mod_eq_of_lt hi']; exact ha)
    repeat walk_at "bk"
    refine g_append (by walk_at "bj_a") a7 ⟨_, rfl, ?_⟩
    repeat walk_at "bk"
    refine l_append (by walk_at "bj_a") (by walk_at "bj_a") a7 (by rw [List.length_map, List.length_take]; omega) ?_
    clear F₃
    intro h₄ F₄ N₄
    have a9 := Iters.putL N₃ a7 (o' := PySem.W.listOf (List.map Value.ref (List.take i RR) ++ [Value.ref a]).toArray (c + 1))
    have a10 : Sub N (put l (PySem.W.listOf (List.map Value.ref (List.take i RR) ++ [Value.ref a]).toArray (c + 1)) M) := fun p hp hit => mem_put_ne (a := p.1) (o' := p.2) (a8 p hp hit) (Nat.ne_of_lt (hlt p hp))
    have T₄ := T.sub a10
    have a11 : (l, PySem.W.listOf (List.map Value.ref (List.take i RR) ++ [Value.ref a]).toArray (c + 1)) ∈ put l (PySem.W.listOf (List.map Value.ref (List.take i RR) ++ [Value.ref a]).toArray (c + 1)) M := mem_put_self
    clear N₃
    generalize put l (PySem.W.listOf (List.map Value.ref (List.take i RR) ++ [Value.ref a]).toArray (c + 1)) M = M' at N₄ T₄ a9 a10 a11
    repeat walk_at "bk"
    walk_at "bj_get"
    rw [en]
    repeat walk_at "bk"
    refine te_next (by walk_at "bj_a") (by walk_at "bj_a") a9 ⟨by repeat walk_at "bj_m", by repeat walk_at "bj_m", by repeat walk_at "bj_m", by repeat walk_at "bj_m", by repeat walk_at "bj_m", fun b' hb' => ?_, ⟨c + 1, ?_⟩, a10⟩
    · rw [hb] at hb'
      obtain rfl := Option.some.inj hb'
      repeat walk_at "bj_m"
    · rw [List.take_add_one, ha, List.map_append]
      exact a11
  · clear F' N₁ hd₁
    rintro m₁ M h₃ t₃ ⟨a1, a2, a3, a4, a5, a6, ⟨c, a7⟩, a8⟩ hIt F₃ N₃
    replace a6 := a6 q (by rw [← hRR, Nat.mod_self]; exact hq0)
    rw [List.take_of_length_le (by omega)] at a7
    have hp₃ := a8 _ hp rfl
    have hw₃ := a8 _ hw rfl
    have hd₃ := a8 _ hd rfl
    have T₃ := T.sub a8
    show wpAny _ _ _ _ _ _
    repeat walk_at "bk"
    refine links_call G' (by walk_at "bj_a") (by walk_at "bj_a") T₃ hS a7 (by omega) ok ?_
    clear F₃ N₃
    intro h₄ t₄ F₄ N₄
    repeat walk_at "bk"
    refine it_range (n := ds.length) (fun i m M => m "points" = some (.ref lp) ∧ m "rows" = some (.ref lw) ∧ m "due" = some (.ref ld) ∧ m "ring" = some (.ref l) ∧
      (l, PySem.W.listOf (RR.map Value.ref).toArray c) ∈ M ∧ Sub N M) G'.hh (by walk_at "bj_a") (by walk_at "bj_a") (by rw [← List.length_map (f := Value.ref)]; assumption) (by omega)
      (fun _ _ _ _ j s => by obtain ⟨a2, a3, a4, a5, a7, a8⟩ := j; exact ⟨a2, a3, a4, a5, s _ a7 rfl, a8.trans s⟩)
      ⟨by repeat walk_at "bj_m", by repeat walk_at "bj_m", by repeat walk_at "bj_m", by repeat walk_at "bj_m", a7, a8⟩ ?_ ?_
    · clear F₄ N₄
      rintro i u m₂ M' h₅ t₅ hi ⟨b2, b3, b4, b5, b7, b8⟩ hIt' F₅ N₅
      have T₅ := T.sub b8
      have hp₅ := b8 _ hp rfl
      have hw₅ := b8 _ hw rfl
      have hd₅ := b8 _ hd rfl
      have hi' : i < RR.length := by omega
      have ha : RR[i]? = some RR[i] := List.getElem?_eq_getElem hi'
      generalize RR[i] = a at ha
      have hSa := hS a (List.mem_of_getElem? ha)
      have he : E[i]? = some (E[i]'(by omega)) := List.getElem?_eq_getElem _
      generalize E[i]'(by omega) = e at he
      have hb : ds[i]? = some ds[i] := List.getElem?_eq_getElem hi
      generalize ds[i] = b at hb
      obtain ⟨e1, e2⟩ := hE i b e hb he
      have ok := All2.get all ha he
      have hel : e.1 < ps.length := (List.getElem?_eq_some_iff.mp ok.2.1).1
      have hc : rs[e.1]? = some (rs[e.1]'(by omega)) := List.getElem?_eq_getElem _
      generalize rs[e.1]'(by omega) = cc at hc
      obtain ⟨e3, e4⟩ := hf _ _ hc
      have hb₅ := b8 _ (hds b (List.mem_of_getElem? hb)) rfl
      have hc₅ := b8 _ (hrs cc (List.mem_of_getElem? hc)) rfl
      unfold tupD at hb₅ hc₅
      rw [e1, e2] at hb₅
      rw [e3, e4] at hc₅
      obtain ⟨o1, o2, o3, o4, o5, o6⟩ := ok
      repeat walk_at "bk"
      walk_at "bj_get"
      repeat walk_at "bk"
      rw [o1, bne_self_eq_false]
      repeat walk_at "bk"
      walk_at "bj_get"
      repeat walk_at "bk"
      walk_at "bj_get"
      repeat walk_at "bk"
      rw [o3, bne_self_eq_false]
      repeat walk_at "bk"
      walk_at "bj_get"
      repeat walk_at "bk"
      rw [o4, bne_self_eq_false]
      repeat walk_at "bk"
      walk_at "bj_get"
      repeat walk_at "bk"
      rw [bne_self_eq_false]
      repeat walk_at "bk"
      walk_at "bj_get"
      repeat walk_at "bk"
      rw [bne_self_eq_false]
      repeat walk_at "bk"
      walk_at "bj_get"
      rw [o5]
      repeat walk_at "bk"
      walk_at "bj_get"
      rw [o6]
      repeat walk_at "bk"
      exact te_next (by walk_at "bj_a") (by walk_at "bj_a") Iters.refl ⟨by repeat walk_at "bj_m", by repeat walk_at "bj_m", by repeat walk_at "bj_m", by repeat walk_at "bj_m", b7, b8⟩
    · clear F₄ N₄
      rintro m₂ M' h₅ t₅ ⟨b2, b3, b4, b5, b7, b8⟩ hIt' F₅ N₅
      have hsub := b8.all (Iters.trans (Iters.trans (fun p hp hi => List.mem_cons_of_mem _ hp) hIt) hIt')
      show wpAny _ _ _ _ _ _
      repeat walk_at "bk"
      exact lv F₅ N₅ fun F N => kk _ _ l c F (News.sub N fun p hp => by
        rcases List.mem_cons.mp hp with rfl | hp
        · exact b7
        · exact hsub p hp) hlt
end
end

section
/-! comprehensions -/
def EltOk (h₀ : Heap) (C : Addr) (s₀ : Shared) (M : Led) (K : Value → Led → Prop) (y : Value) (σ : Shared) : Prop :=
  ∃ h' t' m' X', σ = stt s₀ h' t' ∧ Fr h₀ C h' m' ∧ News h₀ C h' (X' ++ M) ∧ (∀ p ∈ X', ∀ q ∈ M, q.1 < p.1) ∧ K y X'

section
variable {prog : Program} {w : World} {A : Around} {env cenv : Env} {h₀ : Heap} {s₀ : Shared} {h : Heap} {t : Nat} {m : Str → Option Value} {N : Led} {r : Nat} {pos px : Pos} {x : Str} {I D C : Addr} {fp : List Addr} {n : Nat} {P : Nat → Value → Prop} {St : Nat → Heap → Prop}
  {elt iter : Expr} {ifs : List Expr} {scope : Scope} {R : Result → Shared → Prop}

theorem comp_loop (W : Walks prog w A I fp [I] n P St) (J : Nat → List Value → Led → Prop) (hx : cenv.kindOf x = some .local) (hk : cenv.scope.kind = .function)
    (F : Fr h₀ cenv.locals h m) (N' : News h₀ cenv.locals h ((D, PySem.W.listOf ([] : List Value).toArray 0) :: N)) (hN : ∀ p ∈ N, p.1 < D) (hNI : ∀ p ∈ N, p.1 ≠ I) (hDI : D ≠ I) (hI0 : h₀.get? I = none) (hCI : cenv.locals ≠ I)
    (hCf : cenv.locals ∉ fp) (hfp : ∀ b ∈ fp, b = I ∨ ∃ ol, (b, ol) ∈ N) (hSt : ∀ i h, St i h → ∃ o, h.get? I = some o) (hst : St 0 h) (hn : n ≤ 1000) (h0 : J 0 [] [])
    (turn : ∀ i v ys X m₁ M h t, i < n → P i v → J i ys X → (∀ p ∈ X ++ N, p ∈ M) → m₁ x = some v → Fr h₀ cenv.locals h m₁ → News h₀ cenv.locals h M →
      wpAny (model prog w) A (forIn ifs true fun c r => if r = true then do let ok ← isTrue c cenv (eval c cenv); pure (ForInStep.yield ok) else pure (ForInStep.yield r))
        (fun ok σ => if ok = true then wpAny (model prog w) A (eval elt cenv) (EltOk h₀ cenv.locals s₀ M fun y X' => J (i + 1) (ys ++ [y]) (X' ++ X)) NE σ else (∃ t', σ = stt s₀ h t') ∧ J (i + 1) ys X) NE (stt s₀ h t))
    (done : ∀ ys X c h t m', J n ys X → (∀ p ∈ X, D < p.1) → Fr h₀ cenv.locals h m' → News h₀ cenv.locals h ((D, PySem.W.listOf ys.toArray c) :: (X ++ N)) → R (.ok .next) (stt s₀ h t)) :
    codeAny (model prog w) A (.compLoop (.ListComp elt [⟨.Name x px, iter, ifs, 0⟩] scope pos) 0 (.ref I) (.ref D) cenv) R (stt s₀ h t) := by
  refine codeAny_compLoop_tests (fun k s' => ∃ i ys X c h' t' m', k = n + 1 - i ∧ i ≤ n ∧ ys.length ≤ i ∧ s' = stt s₀ h' t' ∧ St i h' ∧ Fr h₀ cenv.locals h' m' ∧ News h₀ cenv.locals h' ((D, PySem.W.listOf ys.toArray c) :: (X ++ N)) ∧
    (∀ p ∈ X, D < p.1) ∧ (∀ p ∈ X, p.1 ≠ I) ∧ J i ys X) ?_ (n + 1) ⟨0, [], [], 0, h, t, m, rfl, Nat.zero_le _, Nat.le_refl _, rfl, hst, F, N', (fun _ hp => absurd hp List.not_mem_nil), (fun _ hp => absurd hp List.not_mem_nil), h0⟩
  rintro k s' ⟨i, ys, X, c, h', t', m', rfl, hi, hlen, rfl, st, F', N₁, hXD, hXI, j⟩
  have hall : ∀ p ∈ (D, PySem.W.listOf ys.toArray c) :: (X ++ N), p.1 ≠ I := by
    intro p hp
    rcases List.mem_cons.mp hp with rfl | hp
    · exact hDI
    · rcases List.mem_append.mp hp with hp | hp
      · exact hXI p hp
      · exact hNI p hp
  have adv : ∀ h₁ : Heap, (∀ b o, b ∉ [I] → h'.get? b = some o → h₁.get? b = some o) → Fr h₀ cenv.locals h₁ m' ∧ News h₀ cenv.locals h₁ ((D, PySem.W.listOf ys.toArray c) :: (X ++ N)) := by
    intro h₁ hk₁
    have hk₂ : ∀ b o, b ≠ I → h'.get? b = some o → h₁.get? b = some o := fun b o hb e => hk₁ b o (fun q => hb (List.mem_singleton.mp q)) e
    refine ⟨⟨F'.ns.at' (fun o e => hk₂ _ o hCI e), fun b o e => hk₂ b o (fun q => ?_) (F'.keep b o e), F'.above⟩, fun p hp => ⟨hk₂ _ _ (hall p hp) (N₁ p hp).1, (N₁ p hp).2⟩⟩
    rw [q, hI0] at e; cases e
  by_cases hlt : i < n
  · refine W.item i _ _ _ hlt st fun v h₁ tk₁ hPv hst₁ hk₁ => ?_
    obtain ⟨F₁, N₂⟩ := adv h₁ hk₁
    obtain ⟨oI, hoI⟩ := hSt _ _ hst₁
    have N₃ : News h₀ cenv.locals h₁ ((I, oI) :: (D, PySem.W.listOf ys.toArray c) :: (X ++ N)) := by
      intro p hp
      rcases List.mem_cons.mp hp with rfl | hp
      · exact ⟨hoI, Ne.symm hCI, hI0⟩
      · exact N₂ p hp
    refine wpAny_assign_Name (wpAny_storeName_local hx F₁.ns (fun h₂ hn₂ hs₂ => ?_) (by rw [hk]; rfl))
    have F₂ := F₁.set hn₂ hs₂
    have N₄ := N₃.set hs₂
    have st₂ : St (i + 1) h₂ := W.frame _ _ _ hst₁ fun b hb o e => (hs₂.2 b (fun e' => hCf (e' ▸ hb))).trans e
    refine wpAny_mono (turn i v ys X _ _ h₂ _ hlt hPv j (fun p hp => .tail _ (.tail _ hp)) (if_pos rfl) F₂ N₄) (fun ok σ z => ?_) fun _ _ z => z.elim
    cases ok with
    | false =>
      rw [if_neg Bool.false_ne_true] at z ⊢
      obtain ⟨⟨t₂, rfl⟩, j'⟩ := z
      exact ⟨n + 1 - (i + 1), by omega, i + 1, ys, X, c, h₂, t₂, _, rfl, hlt, by omega, rfl, st₂, F₂, News.sub N₄ (fun p hp => .tail _ hp), hXD, hXI, j'⟩
    | true =>
      rw [if_pos rfl] at z ⊢
      refine wpAny_mono z (fun y σ z => ?_) fun _ _ z => z.elim
      obtain ⟨h₃, t₃, m₃, X', rfl, F₃, N₅, hXn, j'⟩ := z
      have hX' : ∀ p ∈ X', D < p.1 ∧ p.1 ≠ I := fun p hp => ⟨hXn p hp (D, _) (.tail _ (.head _)), Ne.symm (Nat.ne_of_lt (hXn p hp (I, oI) (.head _)))⟩
      have hrest : ∀ p ∈ (I, oI) :: (X' ++ X ++ N), p.1 ≠ D := by
        intro p hp
        rcases List.mem_cons.mp hp with rfl | hp
        · exact Ne.symm hDI
        · rcases List.mem_append.mp hp with hp | hp
          · rcases List.mem_append.mp hp with hp | hp
            · exact Ne.symm (Nat.ne_of_lt (hX' p hp).1)
            · exact Ne.symm (Nat.ne_of_lt (hXD p hp))
          · exact Nat.ne_of_lt (hN p hp)
      have N₆ : News h₀ cenv.locals h₃ ((D, PySem.W.listOf ys.toArray c) :: ((I, oI) :: (X' ++ X ++ N))) := News.sub N₅ (by
        intro p hp
        simp only [List.mem_cons, List.mem_append] at hp ⊢
        rcases hp with h1 | h1 | (h1 | h1) | h1 <;> simp [h1])
      refine PySem.W.append_K (s := stt s₀ h₃ t₃) F₃ N₆ (.head hrest) (fun h₄ F₄ N₇ => ?_) (by rw [List.size_toArray]; exact Nat.le_trans (show ys.length ≤ 1000 by omega) (Nat.le_of_ble_eq_true rfl))
      refine ⟨n + 1 - (i + 1), by omega, i + 1, ys ++ [y], X' ++ X, c + 1, h₄, t₃, m₃, rfl, hlt, by rw [List.length_append, List.length_singleton]; omega, rfl, ?_, F₄, ?_, ?_, ?_, j'⟩
      · refine W.frame _ _ _ st₂ fun b hb o e => ?_
        rcases hfp b hb with rfl | ⟨ol, hol⟩
        · rw [(N₄ _ (.head _)).1] at e
          cases e
          exact (N₇ _ (.tail _ (.head _))).1
        · rw [(N₄ _ (.tail _ (.tail _ (List.mem_append_right _ hol)))).1] at e
          cases e
          exact (N₇ _ (.tail _ (.tail _ (List.mem_append_right _ hol)))).1
      · rw [List.push_toArray] at N₇
        exact News.sub N₇ (by
          intro p hp
          simp only [List.mem_cons, List.mem_append] at hp ⊢
          rcases hp with h1 | h1 <;> simp [h1])
      · intro p hp
        rcases List.mem_append.mp hp with hp | hp
        · exact (hX' p hp).1
        · exact hXD p hp
      · intro p hp
        rcases List.mem_append.mp hp with hp | hp
        · exact (hX' p hp).2
        · exact hXI p hp
  · have hin : i = n := by omega
    subst hin
    refine W.done _ _ _ st fun h₁ tk₁ hk₁ => ?_
    obtain ⟨F₁, N₂⟩ := adv h₁ hk₁
    exact done ys X c h₁ tk₁ m' j hXD F₁ N₂

def CompRun (prog : Program) (w : World) (A : Around) (elt : Expr) (x : Str) (px : Pos) (iter : Expr) (ifs : List Expr) (scope : Scope) (pos : Pos) (cl : List (Str × Addr)) (env : Env) (RR : Value → Addr → Result → Shared → Prop) (it : Value) (σ : Shared) : Prop :=
  wpAny (model prog w) A (newList []) (fun acc s₃ => wpAny (model prog w) A (newFunctionEnv scope env.globals cl [] env.qual none .none (some env)) (fun cenv s₄ =>
      codeAny (model prog w) A (.compStart (.ListComp elt [⟨.Name x px, iter, ifs, 0⟩] scope pos) 0 it acc { cenv with scope := relabel scope env }) (RR acc cenv.locals) s₄) NE s₃) NE σ

theorem comp_core {cl : List (Str × Addr)} {RR : Value → Addr → Result → Shared → Prop} (W : Walks prog w A I fp [I] n P St) (J : Nat → List Value → Led → Prop) (hcell : ∀ y ∈ scope.names, y.2 ≠ .cell) (hkind : scope.kind = .function) (hx : scope.names.lookup x = some .local)
    (F : Fr h₀ env.locals h m) (N' : News h₀ env.locals h N) (hNI : ∀ p ∈ N, p.1 ≠ I) (hI0 : h₀.get? I = none) (hLI : env.locals ≠ I) (hIlt : I < h.objs.size)
    (hfp : ∀ b ∈ fp, b = I ∨ ∃ ol, (b, ol) ∈ N) (hSt : ∀ i h, St i h → ∃ o, h.get? I = some o) (hst : St 0 h) (hn : n ≤ 1000) (h0 : J 0 [] [])
    (turn : ∀ C i v ys X m₁ M h t, i < n → P i v → J i ys X → (∀ p ∈ X ++ N, p ∈ M) → m₁ x = some v → Fr h₀ C h m₁ → News h₀ C h M →
      wpAny (model prog w) A (forIn ifs true fun c r => if r = true then do let ok ← isTrue c (compEnvC scope cl C env) (eval c (compEnvC scope cl C env)); pure (ForInStep.yield ok) else pure (ForInStep.yield r))
        (fun ok σ => if ok = true then wpAny (model prog w) A (eval elt (compEnvC scope cl C env)) (EltOk h₀ C s₀ M fun y X' => J (i + 1) (ys ++ [y]) (X' ++ X)) NE σ else (∃ t', σ = stt s₀ h t') ∧ J (i + 1) ys X) NE (stt s₀ h t))
    (done : ∀ D C oC ys X c h' t', J n ys X → (∀ p ∈ X, D < p.1) → (∀ p ∈ N, p.1 < D) → (∀ p ∈ (D, PySem.W.listOf ys.toArray c) :: (X ++ N), p.1 ≠ C) → h'.Ns C oC → h₀.get? C = none → C ≠ env.locals → Fr h₀ env.locals h' m →
      News h₀ env.locals h' ((D, PySem.W.listOf ys.toArray c) :: (X ++ N)) → RR (.ref D) C (.ok .next) (stt s₀ h' t')) :
    CompRun prog w A elt x px iter ifs scope pos cl env RR (.ref I) (stt s₀ h t) := by
  unfold CompRun
  obtain ⟨oI, hoI⟩ := hSt 0 h hst
  have N₀ : News h₀ env.locals h ((I, oI) :: N) := by
    intro p hp
    rcases List.mem_cons.mp hp with rfl | hp
    · exact ⟨hoI, Ne.symm hLI, hI0⟩
    · exact N' p hp
  have hlt : ∀ p ∈ (I, oI) :: N, (show Nat from p.1) < h.objs.size := fun p hp => Heap.lt_size (N₀ p hp).1
  have hLlt : (show Nat from env.locals) < h.objs.size := F.ns.lt
  refine newList_N (vs := []) (s := stt s₀ h t) F N₀ (fun h₁ F₁ N₁ => ?_) (Nat.zero_le _)
  have eD : (stt s₀ h t).heap.objs.size = h.objs.size := rfl
  rw [eD] at N₁ ⊢
  clear eD
  obtain ⟨D, hDe⟩ : ∃ D : Nat, h.objs.size = D := ⟨_, rfl⟩
  rw [hDe] at N₁ hlt hLlt ⊢
  have hDC : D < h₁.objs.size := Heap.lt_size (N₁ _ (.head _)).1
  refine wpAny_newFunctionEnv hcell (by intro y hy; simp at hy) (fun h₂ hns hsb => ?_) hkind
  have eC : ({ stt s₀ h t with heap := h₁ } : Shared).heap = h₁ := rfl
  rw [eC] at hns hsb ⊢
  clear eC
  obtain ⟨C, hCe⟩ : ∃ C : Nat, h₁.objs.size = C := ⟨_, rfl⟩
  rw [hCe] at hns hsb hDC ⊢
  have up : ∀ b o, h₁.get? b = some o → h₂.get? b = some o := fun b o e => (hsb.2 b (Nat.ne_of_lt (hCe ▸ Heap.lt_size e))).trans (Heap.get?_push_of_some _ e)
  obtain ⟨oL, hoL⟩ : ∃ oL, h₁.get? env.locals = some oL := let ⟨o, _, _, e, _⟩ := F₁.ns; ⟨o, e⟩
  have hL0 : h₀.get? env.locals = none := by
    cases e : h₀.get? env.locals with
    | none => rfl
    | some o => exact absurd (Heap.lt_size e) (Nat.not_lt.mpr F.above)
  have hC0 : h₀.get? C = none := by
    cases e : h₀.get? C with
    | none => rfl
    | some o => exact absurd (Heap.lt_size e) (Nat.not_lt.mpr (Nat.le_trans F.above (Nat.le_of_lt (Nat.lt_trans hLlt hDC))))
  have F₂ : Fr h₀ C h₂ (fun x => ([] : List (Str × Value)).reverse.lookup x) := ⟨hns, fun b o e => up b o (F₁.keep b o e), Nat.le_trans F.above (Nat.le_of_lt (Nat.lt_trans hLlt hDC))⟩
  have N₂ : News h₀ C h₂ ((D, PySem.W.listOf ([] : List Value).toArray 0) :: ((env.locals, oL) :: N)) := by
    intro p hp
    rcases List.mem_cons.mp hp with rfl | hp
    · exact ⟨up _ _ (N₁ _ (.head _)).1, Nat.ne_of_lt hDC, (N₁ _ (.head _)).2.2⟩
    · rcases List.mem_cons.mp hp with rfl | hp
      · exact ⟨up _ _ hoL, Nat.ne_of_lt (Nat.lt_trans hLlt hDC), hL0⟩
      · have h1 := N₁ p (.tail _ (.tail _ hp))
        exact ⟨up _ _ h1.1, Nat.ne_of_lt (Nat.lt_trans (hlt p (.tail _ hp)) hDC), h1.2.2⟩
  have hID : (show Nat from I) < D := hlt _ (.head _)
  have st₂ : St 0 h₂ := W.frame _ _ _ hst fun b hb o e => by
    rcases hfp b hb with rfl | ⟨ol, hol⟩
    · rw [hoI] at e; cases e
      exact up _ _ (N₁ _ (.tail _ (.head _))).1
    · rw [(N' _ hol).1] at e; cases e
      exact up _ _ (N₁ _ (.tail _ (.tail _ hol))).1
  have loop : ∀ s₃ : Shared, s₃ = stt s₀ h₂ (t + 0) →
      codeAny (model prog w) A (.compLoop (.ListComp elt [⟨.Name x px, iter, ifs, 0⟩] scope pos) 0 (.ref I) (.ref D) (compEnvC scope cl C env)) (RR (.ref D) C) s₃ := by
    rintro s₃ rfl
    refine comp_loop (cenv := compEnvC scope cl C env) W J (lookup_relabel_local hx) hkind F₂ N₂ ?_ ?_ (Ne.symm (Nat.ne_of_lt hID)) hI0 (Ne.symm (Nat.ne_of_lt (Nat.lt_trans hID hDC))) ?_ ?_ hSt st₂ hn h0 ?_ ?_
    · intro p hp
      rcases List.mem_cons.mp hp with rfl | hp
      · exact hLlt
      · exact hlt p (.tail _ hp)
    · intro p hp
      rcases List.mem_cons.mp hp with rfl | hp
      · exact hLI
      · exact hNI p hp
    · intro hm
      rcases hfp _ hm with e | ⟨ol, hol⟩
      · exact Nat.ne_of_lt (Nat.lt_trans hID hDC) e.symm
      · exact absurd (hlt _ (.tail _ hol)) (Nat.not_lt.mpr (Nat.le_of_lt hDC))
    · intro b hb
      rcases hfp b hb with e | ⟨ol, hol⟩
      · exact .inl e
      · exact .inr ⟨ol, .tail _ hol⟩
    · intro i v ys X m₁ M h t hi hP j hM hm F N
      exact turn C i v ys X m₁ M h t hi hP j (fun p hp => hM p (by
        rcases List.mem_append.mp hp with hp | hp
        · exact List.mem_append_left _ hp
        · exact List.mem_append_right _ (.tail _ hp))) hm F N
    · intro ys X c h' t' m' j hX F' N₃
      have hCl : C ≠ env.locals := Ne.symm (Nat.ne_of_lt (Nat.lt_trans hLlt hDC))
      refine done D C m' ys X c h' t' j hX (fun p hp => hlt p (.tail _ hp)) (fun p hp => (N₃ p ?_).2.1) F'.ns hC0 hCl ⟨F₁.ns.at' fun o e => ?_, F'.keep, F.above⟩ ?_
      · simp only [List.mem_cons, List.mem_append] at hp ⊢
        rcases hp with h1 | h1 | h1 <;> simp [h1]
      · rw [hoL] at e; cases e
        exact (N₃ _ (.tail _ (List.mem_append_right _ (.head _)))).1
      · intro p hp
        have h1 := N₃ p (by
          simp only [List.mem_cons, List.mem_append] at hp ⊢
          rcases hp with h1 | h1 | h1 <;> simp [h1])
        refine ⟨h1.1, ?_, h1.2.2⟩
        rcases List.mem_cons.mp hp with rfl | hp
        · exact Ne.symm (Nat.ne_of_lt hLlt)
        · rcases List.mem_append.mp hp with hp | hp
          · exact Ne.symm (Nat.ne_of_lt (Nat.lt_trans hLlt (hX p hp)))
          · exact (N' p hp).2.1
  exact codeAny_compStart_list (loop _ rfl) (W.self 0 _ _ _ st₂ (loop _ rfl))
end
end

section
section
variable {prog : Program} {w : World} {A : Around} {env cenv : Env} {h₀ : Heap} {s₀ : Shared} {h : Heap} {t : Nat} {m : Str → Option Value} {N : Led} {r : Nat} {pos px py spos : Pos} {x y : Str} {I D C : Addr} {fp : List Addr} {n : Nat} {P : Nat → Value → Prop} {St : Nat → Heap → Prop}
  {elt iter : Expr} {ifs : List Expr} {scope : Scope} {R : Result → Shared → Prop} {cl : List (Str × Addr)}

theorem f_none {Q : Bool → Shared → Prop} (k : Q true (stt s₀ h t)) :
    wpAny (model prog w) A (forIn ([] : List Expr) true fun c r => if r = true then do let ok ← isTrue c cenv (eval c cenv); pure (ForInStep.yield ok) else pure (ForInStep.yield r)) Q NE (stt s₀ h t) := by
  rw [List.forIn_nil]
  exact wpAny_pure k
theorem f_one {c : Expr} {Q : Bool → Shared → Prop} (k : wpAny (model prog w) A (isTrue c cenv (eval c cenv)) Q NE (stt s₀ h t)) :
    wpAny (model prog w) A (forIn [c] true fun c r => if r = true then do let ok ← isTrue c cenv (eval c cenv); pure (ForInStep.yield ok) else pure (ForInStep.yield r)) Q NE (stt s₀ h t) := by
  rw [List.forIn_cons, if_pos rfl]
  refine wpAny_bind (wpAny_bind (wpAny_mono k (fun b σ z => ?_) fun _ _ z => z))
  refine wpAny_pure ?_
  show wpAny _ _ (forIn ([] : List Expr) b _) _ _ _
  rw [List.forIn_nil]
  exact wpAny_pure z

def CompDone (RR : Value → Addr → Result → Shared → Prop) (h₀ : Heap) (L : Addr) (s₀ : Shared) (m : Str → Option Value) (N : Led) (K : List Value → Led → Prop) : Prop :=
  ∀ D C oC ys X c h' t', K ys X → (∀ p ∈ X, D < p.1) → (∀ p ∈ N, p.1 < D) → (∀ p ∈ (D, PySem.W.listOf ys.toArray c) :: (X ++ N), p.1 ≠ C) → h'.Ns C oC → h₀.get? C = none → C ≠ L → Fr h₀ L h' m →
      News h₀ L h' ((D, PySem.W.listOf ys.toArray c) :: (X ++ N)) → RR (.ref D) C (.ok .next) (stt s₀ h' t')

theorem c_list {RR : Value → Addr → Result → Shared → Prop} {l : Addr} {vs : List Value} {k : Nat} (J : Nat → List Value → Led → Prop) (hh : A.handled = none) (hcell : ∀ y ∈ scope.names, y.2 ≠ .cell) (hkind : scope.kind = .function) (hx : scope.names.lookup x = some .local)
    (F : Fr h₀ env.locals h m) (N' : News h₀ env.locals h N) (hl : (l, PySem.W.listOf vs.toArray k) ∈ N) (hn : vs.length ≤ 1000) (h0 : J 0 [] [])
    (turn : ∀ C i v ys X m₁ M h t, vs[i]? = some v → J i ys X → (∀ p ∈ X ++ N, p ∈ M) → m₁ x = some v → Fr h₀ C h m₁ → News h₀ C h M →
      wpAny (model prog w) A (forIn ifs true fun c r => if r = true then do let ok ← isTrue c (compEnvC scope cl C env) (eval c (compEnvC scope cl C env)); pure (ForInStep.yield ok) else pure (ForInStep.yield r))
        (fun ok σ => if ok = true then wpAny (model prog w) A (eval elt (compEnvC scope cl C env)) (EltOk h₀ C s₀ M fun y X' => J (i + 1) (ys ++ [y]) (X' ++ X)) NE σ else (∃ t', σ = stt s₀ h t') ∧ J (i + 1) ys X) NE (stt s₀ h t))
    (done : CompDone RR h₀ env.locals s₀ m N (J vs.length)) :
    wpAny (model prog w) A (pyIter (.ref l)) (fun it σ => CompRun prog w A elt x px iter ifs scope pos cl env RR it σ) NE (stt s₀ h t) := by
  have hls : h.IsList l vs.toArray := ⟨_, (N' _ hl).1, rfl, _, rfl⟩
  have hIs : ∀ o, h.get? h.objs.size = some o → False := fun o e => absurd (Heap.lt_size e) (Nat.lt_irrefl _)
  have hne : l ≠ h.objs.size := Nat.ne_of_lt (Heap.lt_size (N' _ hl).1)
  have hLlt := F.ns.lt
  refine wpAny_pyIter_list (s := stt s₀ h t) hls ?_
  have W := Walks.list (prog := prog) (w := w) hh h.objs.size l hne vs.toArray
  have hlen : vs.toArray.size = vs.length := by simp
  rw [hlen] at W
  refine comp_core (t := t) (h := h.push { cls := .type "list_iterator", data := .fields #[.ref l, .int 0 0] }) W J hcell hkind hx (F.push _) (fun p hp => ⟨Heap.get?_push_of_some _ (N' p hp).1, (N' p hp).2⟩)
    (fun p hp e => hIs p.2 (e ▸ (N' p hp).1)) ?_ (Nat.ne_of_lt hLlt) (by rw [Heap.size_push]; exact Nat.lt_succ_self _) ?_ ?_ ?_ hn h0 ?_ done
  · cases e : h₀.get? h.objs.size with
    | none => exact e
    | some o => exact (hIs o (F.keep _ _ e)).elim
  · intro b hb
    rcases List.mem_cons.mp hb with e | hb
    · exact .inl e
    · exact .inr ⟨_, (List.mem_singleton.mp hb) ▸ hl⟩
  · rintro i h' ⟨⟨o, ho, _⟩, _⟩
    exact ⟨o, ho⟩
  · exact ⟨⟨_, Heap.get?_push_size _ rfl, rfl, rfl⟩, ⟨_, Heap.get?_push_of_some _ (N' _ hl).1, rfl, _, rfl⟩⟩
  · intro C i v ys X m₁ M h t hi hv hJ hM hm F N
    exact turn C i v ys X m₁ M h t (by simpa using hv) hJ hM hm F N

theorem c_range {RR : Value → Addr → Result → Shared → Prop} {rg : Addr} {a b st : Int} {u₁ u₂ u₃ : Tok} (J : Nat → List Value → Led → Prop) (hh : A.handled = none) (hcell : ∀ y ∈ scope.names, y.2 ≠ .cell) (hkind : scope.kind = .function) (hx : scope.names.lookup x = some .local)
    (F : Fr h₀ env.locals h m) (N' : News h₀ env.locals h N) (hr : IsRange h rg a b st u₁ u₂ u₃) (hsm : Builtin.Range.small a b st = true) (hsz : Builtin.Range.rangeSize a b st = (n : Int)) (hn : n ≤ 1000) (h0 : J 0 [] [])
    (turn : ∀ C i u ys X m₁ M h t, i < n → J i ys X → (∀ p ∈ X ++ N, p ∈ M) → m₁ x = some (.int (a + (i : Int) * st) u) → Fr h₀ C h m₁ → News h₀ C h M →
      wpAny (model prog w) A (forIn ifs true fun c r => if r = true then do let ok ← isTrue c (compEnvC scope cl C env) (eval c (compEnvC scope cl C env)); pure (ForInStep.yield ok) else pure (ForInStep.yield r))
        (fun ok σ => if ok = true then wpAny (model prog w) A (eval elt (compEnvC scope cl C env)) (EltOk h₀ C s₀ M fun y X' => J (i + 1) (ys ++ [y]) (X' ++ X)) NE σ else (∃ t', σ = stt s₀ h t') ∧ J (i + 1) ys X) NE (stt s₀ h t))
    (done : CompDone RR h₀ env.locals s₀ m N (J n)) :
    wpAny (model prog w) A (pyIter (.ref rg)) (fun it σ => CompRun prog w A elt x px iter ifs scope pos cl env RR it σ) NE (stt s₀ h t) := by
  refine wpAny_pyIter_range (s := stt s₀ h t) hr hsm ?_
  have hIs : ∀ o, h.get? h.objs.size = some o → False := fun o e => absurd (Heap.lt_size e) (Nat.lt_irrefl _)
  have hLlt := F.ns.lt
  refine comp_core (t := t) (h := h.push { cls := .type "range_iterator", data := .fields #[rawInt a, rawInt (Builtin.Range.rangeSize a b st), rawInt st] }) (Walks.range (prog := prog) (w := w) hh h.objs.size a st n) J hcell hkind hx (F.push _) (fun p hp => ⟨Heap.get?_push_of_some _ (N' p hp).1, (N' p hp).2⟩)
    (fun p hp e => hIs p.2 (e ▸ (N' p hp).1)) ?_ (Nat.ne_of_lt hLlt) (by rw [Heap.size_push]; exact Nat.lt_succ_self _) ?_ ?_ ?_ hn h0 ?_ done
  · cases e : h₀.get? h.objs.size with
    | none => exact e
    | some o => exact (hIs o (F.keep _ _ e)).elim
  · intro b hb; exact .inl (List.mem_singleton.mp hb)
  · intro i h' st; exact ⟨_, st⟩
  · show IsRangeIter _ _ _ _ _
    rw [hsz]
    simpa using Heap.get?_push_size _ rfl
  · rintro C i v ys X m₁ M h t hi ⟨u, rfl⟩ hJ hM hm F N
    exact turn C i u ys X m₁ M h t hi hJ hM hm F N

theorem done_none {K : List Value → Led → Prop} {Q : Value → Shared → Prop}
    (k : ∀ D ys X c h' t', K ys X → (∀ p ∈ X, D < p.1) → (∀ p ∈ N, p.1 < D) → Fr h₀ env.locals h' m → News h₀ env.locals h' ((D, PySem.W.listOf ys.toArray c) :: (X ++ N)) → Q (.ref D) (stt s₀ h' t')) :
    CompDone (fun acc C => compPost (model prog w) A NE none Q acc C) h₀ env.locals s₀ m N K := by
  intro D C oC ys X c h' t' j hX hN hC hns hC0 hCL F N'
  refine ⟨oC, hns, fun h'' hs => k D ys X c h'' t' j hX hN ⟨F.ns.sameBut hs (Ne.symm hCL), fun b o e => (hs.2 b (fun q => ?_)).trans (F.keep b o e), F.above⟩ fun p hp => ⟨(hs.2 _ (hC p hp)).trans (N' p hp).1, (N' p hp).2⟩⟩
  rw [q, hC0] at e; cases e

theorem done_use {K : List Value → Led → Prop} {Q : Value → Shared → Prop} (G : Gd w A env h₀ r) (hy : env.scope.names.lookup y = some .local)
    (k : ∀ D ys X c h' t', K ys X → (∀ p ∈ X, D < p.1) → (∀ p ∈ N, p.1 < D) → Fr h₀ env.locals h' (fun z => if z = y then some (.ref D) else m z) → News h₀ env.locals h' ((D, PySem.W.listOf ys.toArray c) :: (X ++ N)) → Q .none (stt s₀ h' t')) :
    CompDone (fun acc C => compPost (model prog w) A NE (some (assign (.Name y py) env)) Q acc C) h₀ env.locals s₀ m N K := by
  intro D C oC ys X c h' t' j hX hN hC hns hC0 hCL F N'
  show wpAny _ A (assign (.Name y py) env (.ref D)) _ _ _
  refine wpAny_assign_Name (wpAny_storeName_local hy F.ns (fun h₂ hn₂ hs₂ => ?_) (by rw [G.hke]; rfl))
  have F₂ := F.set hn₂ hs₂
  have N₂ := N'.set hs₂
  refine ⟨oC, hns.sameBut hs₂ hCL, fun h'' hs => k D ys X c h'' _ j hX hN ⟨F₂.ns.sameBut hs (Ne.symm hCL), fun b o e => (hs.2 b (fun q => ?_)).trans (F₂.keep b o e), F₂.above⟩ fun p hp => ⟨(hs.2 _ (hC p hp)).trans (N₂ p hp).1, (N₂ p hp).2⟩⟩
  rw [q, hC0] at e; cases e

theorem e_comp {Q : Value → Shared → Prop} (hclos : closureFor scope env = pure cl) (hkind : scope.kind = .function) (hnames : ∀ y ∈ scope.names, y.2 = .local → scope.names.lookup y.1 = some .local)
    (k : wpAny (model prog w) A (eval iter env) (fun xv σ => wpAny (model prog w) A (pyIter xv) (fun it σ => CompRun prog w A elt x px iter ifs scope pos cl env (fun acc C => compPost (model prog w) A NE none Q acc C) it σ) NE σ) NE (stt s₀ h t))
    (hs : ∀ x, foldedSetIterable iter env x = pure x) :
    wpAny (model prog w) A (eval (.ListComp elt [⟨.Name x px, iter, ifs, 0⟩] scope pos) env) Q NE (stt s₀ h t) := by
  rw [eval_ListComp]
  exact wpAny_comprehension_free (use := none) rfl hs hclos hkind hnames k

theorem s_comp {rest : List Stmt} {Q : Flow → Shared → Prop} (hsw : swapsWith (.ListComp elt [⟨.Name x px, iter, ifs, 0⟩] scope pos) (some (.Name y py)) spos.line env = pure true)
    (hclos : closureFor scope env = pure cl) (hkind : scope.kind = .function) (hnames : ∀ y ∈ scope.names, y.2 = .local → scope.names.lookup y.1 = some .local)
    (k : wpAny (model prog w) A (eval iter env) (fun xv σ => wpAny (model prog w) A (pyIter xv) (fun it σ => CompRun prog w A elt x px iter ifs scope pos cl env
      (fun acc C => compPost (model prog w) A NE (some (assign (.Name y py) env)) (fun _ σ => wpAny (model prog w) A (execs rest env) Q NE σ) acc C) it σ) NE σ) NE (stt s₀ h t))
    (hs : ∀ x, foldedSetIterable iter env x = pure x) :
    wpAny (model prog w) A (execs (.Assign [.Name y py] (.ListComp elt [⟨.Name x px, iter, ifs, 0⟩] scope pos) spos :: rest) env) Q NE (stt s₀ h t) := by
  refine wpAny_execs_cons ?_
  rw [exec_Assign_Name_used _ _ _ _ hsw]
  refine wpAny_bind (wpAny_standAt (wpAny_bind ?_))
  show wpAny _ A (do let _ ← comprehension (.ListComp elt [⟨.Name x px, iter, ifs, 0⟩] scope pos) scope env _ (newList []) false (eval iter env) (some (assign (.Name y py) env))) _ _ _
  refine wpAny_bind (wpAny_mono (wpAny_comprehension_free (use := some (assign (.Name y py) env)) (Q := fun _ σ => wpAny (model prog w) A (execs rest env) Q NE σ) rfl hs hclos hkind hnames k) (fun _ s' hq => wpAny_pure (wpAny_pure hq)) fun _ _ e => e)
end
end

section
/-! the law's own steps -/
section
variable {prog : Program} {w : World} {A : Around} {env : Env} {h₀ : Heap} {s₀ : Shared} {h : Heap} {t : Nat} {m : Str → Option Value} {N : Led} {r : Nat} {pos : Pos} {x : Str} {v : Value} {S : Addr → Prop} {nd : Addr → Nd}

def Cell (N : Led) (c : Addr) (v : Option Value) : Prop := ∃ o, (c, o) ∈ N ∧ o.data = .cell v
theorem cell_it {o : Obj} {v : Option Value} (h : o.data = .cell v) : isIter o = false := by unfold isIter; rw [h]; rfl
theorem cell_nd {P : Params} {o : Obj} {v : Option Value} (h : o.data = .cell v) : ∀ n, o ≠ nodeD P n := fun n e => by rw [e] at h; cases h
theorem Cell.sub {M : Led} {c : Addr} {v : Option Value} (H : Cell N c v) (s : Sub N M) : Cell M c v := let ⟨o, h1, h2⟩ := H; ⟨o, s _ h1 (cell_it h2), h2⟩
theorem Cell.keep {P : Params} {M : Led} {c : Addr} {v : Option Value} (H : Cell N c v) (s : Keep P N M) : Cell M c v := let ⟨o, h1, h2⟩ := H; ⟨o, s _ h1 (cell_nd h2), h2⟩
theorem Cell.more {M : Led} {c : Addr} {v : Option Value} (H : Cell N c v) (s : ∀ p ∈ N, p ∈ M) : Cell M c v := let ⟨o, h1, h2⟩ := H; ⟨o, s _ h1, h2⟩
theorem Cell.put {c d : Addr} {v : Option Value} {o : Obj} (H : Cell N c v) (hne : c ≠ d) : Cell (Bj.put d o N) c v := let ⟨o, h1, h2⟩ := H; ⟨o, mem_put_ne h1 hne, h2⟩

theorem e_C {c : Addr} {Q : Value → Shared → Prop} (G : Gd w A env h₀ r) (N' : News h₀ env.locals h N) (hx : env.kindOf x = some .cell) (hc : env.cells.lookup x = some c) (hdb : (x == ("__debug__" : Str)) = false) (hv : Cell N c (some v)) (k : Q v (stt s₀ h t)) :
    wpAny (model prog w) A (eval (.Name x pos) env) Q NE (stt s₀ h t) :=
  let ⟨o, hm, hd⟩ := hv
  wpAny_Name (wpAny_loadName_cell G.hke hx hc ⟨o, (N' _ hm).1, hd⟩ k) hdb
theorem e_stC {c : Addr} {v₀ : Option Value} {Q : Unit → Shared → Prop} (G : Gd w A env h₀ r) (F : Fr h₀ env.locals h m) (N' : News h₀ env.locals h N) (hx : env.kindOf x = some .cell) (hc : env.cells.lookup x = some c) (hv : Cell N c v₀)
    (k : ∀ h' N₁, Fr h₀ env.locals h' m → News h₀ env.locals h' N₁ → Cell N₁ c (some v) → (∀ p ∈ N, p.1 ≠ c → p ∈ N₁) → Q () (stt s₀ h' t)) :
    wpAny (model prog w) A (storeName env x v) Q NE (stt s₀ h t) := by
  obtain ⟨o, hm, hd⟩ := hv
  have hmem := N' (c, o) hm
  refine wpAny_storeName_cell G.hke hx hc ⟨o, hmem.1, hd⟩ fun h' hv hs => ?_
  obtain ⟨o', ho', hd'⟩ := hv
  refine k h' (put c o' N) ⟨F.ns.sameBut hs (Ne.symm hmem.2.1), fun b ob e => (hs.2 b (fun q => ?_)).trans (F.keep b ob e), F.above⟩ ?_ ⟨o', mem_put_self, hd'⟩ fun p hp hne => mem_put.mpr (.inr ⟨hne, hp⟩)
  · rw [q, hmem.2.2] at e; cases e
  · intro p hp
    rcases mem_put.mp hp with rfl | ⟨hne, hp⟩
    · exact ⟨ho', hmem.2⟩
    · exact ⟨(hs.2 _ hne).trans (N' p hp).1, (N' p hp).2⟩

theorem o_fdiv {a b : Int} {ta tb : Tok} {Q : Value → Shared → Prop} (hb : b ≠ 0) (hs : b.natAbs < 1073741824) (k : ∀ u t', Q (.int (a.fdiv b) u) (stt s₀ h t')) : wpAny (model prog w) A (binaryOp .FloorDiv (.int a ta) (.int b tb)) Q NE (stt s₀ h t) :=
  floordiv_int (s := stt s₀ h t) hb (k _ _) (.inl (PyProof.noPylong_small hs))

theorem o_addL {l b : Addr} {vs ws : List Value} {Q : Value → Shared → Prop} (F : Fr h₀ env.locals h m) (N' : News h₀ env.locals h N) (hl : h.IsList l vs.toArray) (hb : h.IsList b ws.toArray) (hz : vs.length + ws.length ≤ 1000)
    (k : ∀ l h', Fr h₀ env.locals h' m → News h₀ env.locals h' ((l, PySem.W.listOf (vs ++ ws).toArray 0) :: N) → (∀ p ∈ N, p.1 < l) → Q (.ref l) (stt s₀ h' t)) :
    wpAny (model prog w) A (binaryOp .Add (.ref l) (.ref b)) Q NE (stt s₀ h t) :=
  add_lists (s := stt s₀ h t) F N' hl hb (fun h' F' N'' => k _ h' F' N'' fun p hp => Heap.lt_size (N' p hp).1) (Nat.le_trans hz (Nat.le_of_ble_eq_true rfl))
theorem o_listOf {l : Addr} {vs : List Value} {Q : Value → Shared → Prop} (F : Fr h₀ env.locals h m) (N' : News h₀ env.locals h N) (hl : h.IsList l vs.toArray) (hz : vs.length ≤ 1000)
    (k : ∀ D c h', Fr h₀ env.locals h' m → News h₀ env.locals h' ((D, PySem.W.listOf vs.toArray c) :: N) → (∀ q ∈ N, q.1 < D) → Q (.ref D) (stt s₀ h' t)) :
    wpAny (model prog w) A (call (.type "list") [.ref l] []) Q NE (stt s₀ h t) :=
  list_copyK (s := stt s₀ h t) F N' hl k (by rw [List.size_toArray]; exact Nat.le_trans hz (Nat.le_of_ble_eq_true rfl))
theorem isL {l : Addr} {vs : List Value} {k : Nat} (N' : News h₀ env.locals h N) (hm : (l, PySem.W.listOf vs.toArray k) ∈ N) : h.IsList l vs.toArray := ⟨_, (N' _ hm).1, rfl, _, rfl⟩

theorem e_slc {lower upper step : Option Expr} {Q : Value → Shared → Prop}
    (k : wpAny (model prog w) A (evalPart lower env) (fun l s₁ => wpAny (model prog w) A (evalPart upper env) (fun u s₂ => wpAny (model prog w) A (evalPart step env) (fun st s₃ =>
      Q (.ref s₃.heap.objs.size) { s₃ with heap := s₃.heap.push { cls := .type "slice", data := .fields #[l, u, st] } }) NE s₂) NE s₁) NE (stt s₀ h t)) :
    wpAny (model prog w) A (eval (.Slice lower upper step pos) env) Q NE (stt s₀ h t) := wpAny_Slice k
theorem p_none {Q : Value → Shared → Prop} (k : Q .none (stt s₀ h t)) : wpAny (model prog w) A (evalPart none env) Q NE (stt s₀ h t) := by rw [evalPart_none]; exact wpAny_pure k
theorem p_some {e : Expr} {Q : Value → Shared → Prop} (k : wpAny (model prog w) A (eval e env) Q NE (stt s₀ h t)) : wpAny (model prog w) A (evalPart (some e) env) Q NE (stt s₀ h t) := by rw [evalPart_some]; exact k
theorem i_slice {value slice : Expr} {l : Addr} {vs : List Value} {k : Nat} {vl vu : Value} {lo hi : Option Int} {ws : List Value} {Q : Value → Shared → Prop}
    (F : Fr h₀ env.locals h m) (N' : News h₀ env.locals h N) (hm : (l, PySem.W.listOf vs.toArray k) ∈ N) (pl : IsPart vl lo) (pu : IsPart vu hi) (hw : slicePick vs.toArray lo hi none = ws.toArray) (hz : vs.length ≤ 1000)
    (kk : ∀ l h', Fr h₀ env.locals h' m → News h₀ env.locals h' ((l, PySem.W.listOf ws.toArray 0) :: N) → (∀ p ∈ N, p.1 < l) → Q (.ref l) (stt s₀ h' t))
    (hs : subscripted slice false (.ref l) (.ref (stt s₀ h t).heap.objs.size) = operate [.ref (stt s₀ h t).heap.objs.size, .ref l] (getItem (.ref l) (.ref (stt s₀ h t).heap.objs.size)))
    (ht : ∀ r, letTemporaryGo value (.ref l) r = pure ()) :
    wpAny (model prog w) A (subscriptTail value slice (.ref l) (.ref (stt s₀ h t).heap.objs.size)) Q NE { stt s₀ h t with heap := (stt s₀ h t).heap.push { cls := .type "slice", data := .fields #[vl, vu, .none] } } :=
  slice_list (s := stt s₀ h t) F N' ⟨_, (N' _ hm).1, rfl, _, rfl⟩ pl pu (fun h' F' N'' => by
    rw [hw] at N''
    exact kk _ h' F' N'' fun p hp => Nat.lt_succ_of_lt (Heap.lt_size (N' p hp).1)) hs ht (by rw [List.size_toArray]; exact Nat.le_trans hz (Nat.le_of_ble_eq_true rfl))

theorem c_eqT {a b : Addr} {p q : Tp} {Q : Value → Shared → Prop} (G : Gd w A env h₀ (r + 1)) (N' : News h₀ env.locals h N) (ha : (a, tupD p) ∈ N) (hb : (b, tupD q) ∈ N) (k : Q (.bool (p.x == q.x && p.y == q.y)) (stt s₀ h t)) :
    wpAny (model prog w) A (compareOp .Eq (.ref a) (.ref b)) Q NE (stt s₀ h t) := by
  refine PySem.SeqAt.eq_tupleAt (s := stt s₀ h t) (items := [Value.int p.x p.xt, .int p.y p.yt].toArray) (items2 := [Value.int q.x q.xt, .int q.y q.yt].toArray) (e := fun j => if j = 0 then p.x == q.x else p.y == q.y) ⟨_, (N' _ ha).1, rfl, _, rfl⟩ ⟨_, (N' _ hb).1, rfl, _, rfl⟩ (by have := G.hu; omega) ?_ ?_
  · intro j h1 h2
    have h1' : j < 2 := h1
    rcases (by omega : j = 0 ∨ j = 1) with rfl | rfl
    · exact PySem.SeqAt.EqAt.int_int _ _ _ _
    · exact PySem.SeqAt.EqAt.int_int _ _ _ _
  · have e : ((List.range (min 2 2)).all (fun j => if j = 0 then p.x == q.x else p.y == q.y) && 2 == 2) = (p.x == q.x && p.y == q.y) := by simp [List.range_succ]
    show Q (.bool ((List.range (min 2 2)).all (fun j => if j = 0 then p.x == q.x else p.y == q.y) && 2 == 2)) _
    rw [e]; exact k
theorem c_eqNil {a b : Addr} {c d : Nat} {Q : Value → Shared → Prop} (G : Gd w A env h₀ (r + 1)) (N' : News h₀ env.locals h N) (ha : (a, PySem.W.listOf ([] : List Value).toArray c) ∈ N) (hb : (b, PySem.W.listOf ([] : List Value).toArray d) ∈ N) (k : Q (.bool true) (stt s₀ h t)) :
    wpAny (model prog w) A (compareOp .Eq (.ref a) (.ref b)) Q NE (stt s₀ h t) :=
  PySem.SeqAt.eq_listAt (s := stt s₀ h t) (e := fun _ => true) (isL (env := env) N' ha) (isL (env := env) N' hb) rfl (by have := G.hu; omega) (fun j h1 _ => absurd h1 (Nat.not_lt_zero j)) k

theorem c_isnO {o : Option Addr} {Q : Value → Shared → Prop} (k : Q (.bool false) (stt s₀ h t)) : wpAny (model prog w) A (compareOp .IsNot (orf o) (orf o)) Q NE (stt s₀ h t) := by
  cases o with
  | none => exact c_isnNN k
  | some a => exact c_isnRS k
end
end

section
local macro_rules | `(tactic| walk_at "bj_gn") => `(tactic| first | with_reducible exact gn_len _ | with_reducible exact gn_range _ | with_reducible exact gn_list _ | with_reducible exact gn_reversed _)
local macro_rules | `(tactic| walk_at "bj_bt") => `(tactic| first | with_reducible exact PySem.boot_len | with_reducible exact PyProof.Rows.boot_range | with_reducible exact PyProof.Rows.boot_list | with_reducible exact PyProof.Rows.boot_reversed)
local macro_rules | `(tactic| walk_at "bj_gl") => `(tactic| first | with_reducible exact gl_31 _ | with_reducible exact gl_59 _ | with_reducible exact gl_70 _ | with_reducible exact gl_77 _ | with_reducible exact gl_84 _ | with_reducible exact gl_91 _ | with_reducible exact gl_92 _ | with_reducible exact gl_99 _ | with_reducible exact gl_106 _ | with_reducible exact gl_113 _ | with_reducible exact gl_120 _ | with_reducible exact gl_127 _ | with_reducible exact gl_134 _)
local macro_rules | `(tactic| walk_at "bj_kp") => `(tactic| first | with_reducible exact kp_31 _ | with_reducible exact kp_59 _ | with_reducible exact kp_70 _ | with_reducible exact kp_77 _ | with_reducible exact kp_84 _ | with_reducible exact kp_91 _ | with_reducible exact kp_99 _ | with_reducible exact kp_106 _ | with_reducible exact kp_113 _ | with_reducible exact kp_120 _ | with_reducible exact kp_127 _ | with_reducible exact kp_134 _)
local macro_rules | `(tactic| walk_at "bj_m") => `(tactic| first | (with_reducible assumption) | (with_reducible exact m_here) | ((with_reducible refine m_there ?hmt ?_); (case hmt => decide); walk_at "bj_m") | rfl)
local macro_rules | `(tactic| walk_at "bj_a") => `(tactic| (with_reducible assumption))
local macro_rules | `(tactic| walk_at "bj") => `(tactic| first
  | (with_reducible refine s_nilR ?_)
  | ((with_reducible refine' s_assignAttr ?_ ?hs); (case hs => rfl))
  | ((with_reducible refine' s_assign ?_ ?hs); (case hs => rfl))
  | (with_reducible refine' s_if ?_)
  | (with_reducible refine' s_ret ?_)
  | (with_reducible refine' s_aug ?_)
  | ((with_reducible refine' e_L ?G ?F ?hx ?hv ?_ ?hdb); (case G => walk_at "bj_a"); (case F => walk_at "bj_a"); (case hx => rfl); (case hdb => rfl); (case hv => walk_at "bj_m"))
  | ((with_reducible refine' l_L ?G ?F ?hx ?hv ?_); (case G => walk_at "bj_a"); (case F => walk_at "bj_a"); (case hx => rfl); (case hv => walk_at "bj_m"))
  | ((with_reducible refine' e_st ?G ?F ?N ?hx ?_); (case G => walk_at "bj_a"); (case F => walk_at "bj_a"); (case N => walk_at "bj_a"); (case hx => rfl); intro h' t' F' N')
  | ((with_reducible refine' e_attr ?_ ?he); (case he => with_unfolding_all rfl))
  | ((with_reducible refine' t_cmp ?_ ?hm); (case hm => with_unfolding_all rfl))
  | ((with_reducible refine' e_cmp ?_ ?hm); (case hm => with_unfolding_all rfl))
  | (with_reducible refine' e_bin ?_)
  | (with_reducible refine' t_not ?_)
  | (with_reducible refine' t_and ?_)
  | (with_reducible refine' t_or ?_)
  | (with_reducible refine' t_andN ?_)
  | (with_reducible refine' t_orN ?_)
  | (with_reducible refine' e_ifx ?_)
  | (with_reducible refine' e_and ?_)
  | (with_reducible refine' e_and1 ?_)
  | (with_reducible refine' e_un ?_)
  | (with_reducible refine' tb_bool ?_)
  | (with_reducible refine' tb_none ?_)
  | ((with_reducible refine' o_add ?_); intro u' t')
  | ((with_reducible refine' o_iadd ?_); intro u' t')
  | ((with_reducible refine' o_isub ?_); intro u' t')
  | ((with_reducible refine' o_sub ?_); intro u' t')
  | ((with_reducible refine' o_mod ?_ ?_); (decide); intro u' t')
  | ((with_reducible refine' o_neg ?_); intro u' t')
  | (with_reducible refine' c_eq ?_)
  | (with_reducible refine' c_ne ?_)
  | (with_reducible refine' c_lt ?_)
  | (with_reducible refine' c_gt ?_)
  | (with_reducible refine' c_le ?_)
  | (with_reducible refine' c_ge ?_)
  | (with_reducible refine' c_isB ?_)
  | (with_reducible refine' c_isnB ?_)
  | (with_reducible refine' c_eqB ?_)
  | (with_reducible refine' c_neB ?_)
  | (with_reducible refine' c_isRN ?_)
  | (with_reducible refine' c_isNN ?_)
  | (with_reducible refine' c_isnRN ?_)
  | (with_reducible refine' c_isnNR ?_)
  | (with_reducible refine' c_isnNN ?_)
  | (with_reducible refine' c_isnRS ?_)
  | (with_reducible refine' c_isRS ?_)
  | (with_reducible refine' if_t ?_)
  | (with_reducible refine' if_f ?_)
  | (with_reducible refine' if_nt ?_)
  | (with_reducible refine' if_nf ?_)
  | ((with_reducible refine' e_callG ?G ?F ?hx ?hdb ?eg ?hk ?_ ?hc ?he ?hp); (case G => walk_at "bj_a"); (case F => walk_at "bj_a"); (case hx => rfl); (case hdb => rfl); (case eg => walk_at "bj_gl"); (case hk => walk_at "bj_kp"); (case hc => rfl); (case he => rfl); (case hp => rfl))
  | ((with_reducible refine' e_callB ?G ?F ?hx ?hdb ?eg ?hv ?hn ?_ ?hc ?he ?hp); (case G => walk_at "bj_a"); (case F => walk_at "bj_a"); (case hx => rfl); (case hdb => rfl); (case eg => walk_at "bj_gn"); (case hv => walk_at "bj_bt"); (case hn => decide); (case hc => rfl); (case he => rfl); (case hp => rfl))
  | ((with_reducible refine' e_callT ?G ?F ?hx ?hdb ?eg ?hv ?hn ?_ ?hc ?he ?hp); (case G => walk_at "bj_a"); (case F => walk_at "bj_a"); (case hx => rfl); (case hdb => rfl); (case eg => walk_at "bj_gn"); (case hv => walk_at "bj_bt"); (case hn => decide); (case hc => rfl); (case he => rfl); (case hp => rfl))
  | ((with_reducible refine' o_len ?N ?hm ?hf ?_); (case N => walk_at "bj_a"); (case hm => walk_at "bj_a"); (case hf => walk_at "bj_a"); intro u' t')
  | ((with_reducible refine' o_range ?F ?N ?_); (case F => walk_at "bj_a"); (case N => walk_at "bj_a"); intro rg' h' t' a' b' c' R' F' N')
  | (with_reducible refine' e_sub ?_)
  | ((with_reducible refine' s_for ?G ?hx ?_ ?hs); (case G => walk_at "bj_a"); (case hx => rfl); (case hs => intro _; rfl))
  | ((with_reducible refine' a_cons ?_ ?he); (case he => rfl))
  | (with_reducible refine' a_nil ?_)
  | ((with_reducible refine' a_in ?G ?F ?_); (case G => walk_at "bj_a"); (case F => walk_at "bj_a"))
  | ((with_reducible refine' t_plain ?_ ?he); (case he => rfl))
  | (with_reducible refine' e_none ?_)
  | (with_reducible refine' e_bool ?_)
  | ((with_reducible refine' e_int ?_); intro u' t'))
local macro_rules | `(tactic| walk_at "bj_g5") => `(tactic| ((case G => walk_at "bj_a"); (case F => walk_at "bj_a"); (case N => walk_at "bj_a"); (case T => walk_at "bj_a"); (case hS => walk_at "bj_a")))
local macro_rules | `(tactic| walk_at "bj_get") => `(tactic| first
  | ((with_reducible refine' tg_next ?G ?F ?N ?T ?hS ?_); (case G => walk_at "bj_a"); (case F => walk_at "bj_a"); (case N => walk_at "bj_a"); (case T => walk_at "bj_a"); (case hS => walk_at "bj_a"); intro t')
  | ((with_reducible refine' tg_prev ?G ?F ?N ?T ?hS ?_); (case G => walk_at "bj_a"); (case F => walk_at "bj_a"); (case N => walk_at "bj_a"); (case T => walk_at "bj_a"); (case hS => walk_at "bj_a"); intro t')
  | ((with_reducible refine' tg_pz ?G ?F ?N ?T ?hS ?_); (case G => walk_at "bj_a"); (case F => walk_at "bj_a"); (case N => walk_at "bj_a"); (case T => walk_at "bj_a"); (case hS => walk_at "bj_a"); intro t')
  | ((with_reducible refine' tg_nz ?G ?F ?N ?T ?hS ?_); (case G => walk_at "bj_a"); (case F => walk_at "bj_a"); (case N => walk_at "bj_a"); (case T => walk_at "bj_a"); (case hS => walk_at "bj_a"); intro t')
  | ((with_reducible refine' tg_i ?G ?F ?N ?T ?hS ?_); (case G => walk_at "bj_a"); (case F => walk_at "bj_a"); (case N => walk_at "bj_a"); (case T => walk_at "bj_a"); (case hS => walk_at "bj_a"); intro t')
  | ((with_reducible refine' tg_point ?G ?F ?N ?T ?hS ?_); (case G => walk_at "bj_a"); (case F => walk_at "bj_a"); (case N => walk_at "bj_a"); (case T => walk_at "bj_a"); (case hS => walk_at "bj_a"); intro t')
  | ((with_reducible refine' tg_x ?G ?F ?N ?T ?hS ?_); (case G => walk_at "bj_a"); (case F => walk_at "bj_a"); (case N => walk_at "bj_a"); (case T => walk_at "bj_a"); (case hS => walk_at "bj_a"); intro t')
  | ((with_reducible refine' tg_y ?G ?F ?N ?T ?hS ?_); (case G => walk_at "bj_a"); (case F => walk_at "bj_a"); (case N => walk_at "bj_a"); (case T => walk_at "bj_a"); (case hS => walk_at "bj_a"); intro t')
  | ((with_reducible refine' tg_z ?G ?F ?N ?T ?hS ?_); (case G => walk_at "bj_a"); (case F => walk_at "bj_a"); (case N => walk_at "bj_a"); (case T => walk_at "bj_a"); (case hS => walk_at "bj_a"); intro t')
  | ((with_reducible refine' tg_st ?G ?F ?N ?T ?hS ?_); (case G => walk_at "bj_a"); (case F => walk_at "bj_a"); (case N => walk_at "bj_a"); (case T => walk_at "bj_a"); (case hS => walk_at "bj_a"); intro t'))
local macro_rules | `(tactic| walk_at "bj_set") => `(tactic| (first
  | (with_reducible refine' ts_prev ?G ?F ?N ?T ?hS ?_)
  | (with_reducible refine' ts_next ?G ?F ?N ?T ?hS ?_)
  | (with_reducible refine' ts_pz ?G ?F ?N ?T ?hS ?_)
  | (with_reducible refine' ts_nz ?G ?F ?N ?T ?hS ?_)
  | (with_reducible refine' ts_prevR ?G ?F ?N ?T ?hS ?_)
  | (with_reducible refine' ts_nextR ?G ?F ?N ?T ?hS ?_)
  | (with_reducible refine' ts_pzR ?G ?F ?N ?T ?hS ?_)
  | (with_reducible refine' ts_nzR ?G ?F ?N ?T ?hS ?_)))
local macro_rules | `(tactic| walk_at "bj_il") => `(tactic| ((with_reducible refine' i_list ?N ?hm ?hi ?hx ?hj ?k ?hs); (case N => walk_at "bj_a"); (case hm => walk_at "bj_a"); (case hs => with_unfolding_all rfl)))
local macro_rules | `(tactic| walk_at "bj_it") => `(tactic| ((with_reducible refine' i_tup ?N ?hm ?hi ?hj ?hx ?k ?hs); (case N => walk_at "bj_a"); (case hm => walk_at "bj_a"); (case hs => with_unfolding_all rfl)))
local macro_rules | `(tactic| walk_at "bk") => `(tactic| first
  | walk_at "bj"
  | ((with_reducible refine' s_exprA ?_ ?hi ?hs); (case hi => rfl); (case hs => rfl))
  | ((with_reducible refine' e_meth ?_ ?hm ?he ?hp); (case hm => rfl); (case he => rfl); (case hp => rfl))
  | (with_reducible refine' e_list ?_)
  | (with_reducible refine' e_tup ?_)
  | ((with_reducible refine' i_list ?N ?hm ?hi ?hx ?hj ?_ ?hs); (case N => walk_at "bj_a"); (case hm => walk_at "bj_a"); (case hi => with_reducible rfl); (case hx => exact map_get (by with_reducible assumption)); (case hj => omega); (case hs => with_unfolding_all rfl))
  | ((with_reducible refine' i_tup (j := 0) ?N ?hm ?hi ?hj ?hx ?_ ?hs); (case N => walk_at "bj_a"); (case hm => walk_at "bj_a"); (case hi => rfl); (case hj => decide); (case hx => rfl); (case hs => with_unfolding_all rfl))
  | ((with_reducible refine' i_tup (j := 1) ?N ?hm ?hi ?hj ?hx ?_ ?hs); (case N => walk_at "bj_a"); (case hm => walk_at "bj_a"); (case hi => rfl); (case hj => decide); (case hx => rfl); (case hs => with_unfolding_all rfl)))
local macro_rules | `(tactic| walk_at "bm") => `(tactic| first
  | walk_at "bk"
  | ((with_reducible refine' e_C ?G ?N ?hx ?hc ?hdb ?hv ?_); (case G => walk_at "bj_a"); (case N => walk_at "bj_a"); (case hx => rfl); (case hc => rfl); (case hdb => rfl); (case hv => walk_at "bj_a"))
  | ((with_reducible refine' o_fdiv ?_ ?_ ?_); (decide); (decide); intro u' t')
  | (with_reducible refine' e_slc ?_)
  | (with_reducible refine' p_none ?_)
  | (with_reducible refine' p_some ?_))
noncomputable def scS139 : {x : Scope // x = (fdOf 139).scope} := by
  refine ⟨?b, ?h⟩
  case h => conv => rhs; whnf
noncomputable def sc139 : Scope := scS139.1
noncomputable def bdS139 : {x : List Stmt // x = stmtsOf 139} := by
  refine ⟨?b, ?h⟩
  case h => conv => rhs; whnf
noncomputable def bd139 : List Stmt := bdS139.1
theorem law_cells (L : Nat) : cellsFrom (L + 1) sc139.names [] = [(("handed" : Str), L + 4), (("points" : Str), L + 3), (("wide" : Str), L + 2), (("start" : Str), L + 1)] := rfl
theorem more_list (P : Params) : ∃ ws k, (bjT.heap_39 P).lookup 92 = some (PySem.W.listOf (ws : List Value).toArray k) ∧ IntsAre ws [53, 22, 1, 14, 6, 27, 3, 17, 30, 5, 12, 41, 8, 33, 2, 47, 13, 10, 7] := ⟨_, _, rfl, by repeat constructor⟩

theorem skolem {β : Type} (d : β) {rs : List Addr} {Rl : Addr → β → Prop} (h : ∀ a ∈ rs, ∃ p, Rl a p) : ∃ f : Addr → β, ∀ a ∈ rs, Rl a (f a) := by
  classical
  refine ⟨fun a => if h' : a ∈ rs then (h a h').choose else d, fun a ha => ?_⟩
  dsimp only
  rw [dif_pos ha]
  exact (h a ha).choose_spec
def tp0 : Tp := ⟨0, 0, 0, 0⟩
def pt0 : Pt := ⟨0, 0, 0, 0, 0, 0, 0⟩

def Nums (nv : List Value) (nf : Nat → Int) : Prop := ∀ i v, nv[i]? = some v → ∃ u, v = Value.int (nf i) u
theorem Nums.of {vs : List Value} {ns : List Int} (h : IntsAre vs ns) : Nums vs (fun i => ns.getD i 0) := fun i v e => by
  obtain ⟨n, t, rfl, e2⟩ := h.at i v e
  exact ⟨t, by simp [List.getD, e2]⟩

noncomputable abbrev le (nm : Str) (L fa : Addr) (cd : Value) : Env := envOfC nm sc139 L fa cd
section
variable {prog : Program} {w : World} {A : Around} {nm : Str} {L fa : Addr} {cd : Value} {h₀ : Heap} {s₀ : Shared} {h : Heap} {t : Nat} {m : Str → Option Value} {N : Led} {r : Nat}

theorem law1 {Q : Flow → Shared → Prop} {ls : Addr} {vs : List Value} {ns : List Int} (G : Gd w A (le nm L fa cd) h₀ (r + 1)) (F : Fr h₀ (le nm L fa cd).locals h m) (N' : News h₀ (le nm L fa cd).locals h N)
    (c1 : Cell N (L + 1) none) (c2 : Cell N (L + 2) none) (c3 : Cell N (L + 3) none) (c4 : Cell N (L + 4) none)
    (hm : m "script" = some (.ref ls)) (hls : h₀.IsList ls vs.toArray) (hI : IntsAre vs ns) (hlen : ns.length ≤ 63)
    (kk : ∀ h' t' m' M ln nv kn nf first many start ccw wide us uw, Fr h₀ (le nm L fa cd).locals h' m' → News h₀ (le nm L fa cd).locals h' M → (ln, PySem.W.listOf (nv : List Value).toArray kn) ∈ M → Nums nv nf → 19 ≤ nv.length → nv.length ≤ 82 →
      m' "numbers" = some (.ref ln) → (∃ u, m' "first" = some (.int first u)) → (∃ u, m' "many" = some (.int many u)) → 0 ≤ many → many ≤ 8 → Cell M (L + 1) (some (.int start us)) → m' "ccw" = some (.bool ccw) → Cell M (L + 2) (some (.int wide uw)) → Cell M (L + 3) none → Cell M (L + 4) none →
      wpAny (model prog w) A (execs (bd139.drop 6) (le nm L fa cd)) Q NE (stt s₀ h' t')) :
    wpAny (model prog w) A (execs bd139 (le nm L fa cd)) Q NE (stt s₀ h t) := by
  obtain ⟨ws, kw, hw, hIw⟩ := more_list w.params
  have hvl : vs.length = ns.length := hI.length
  have hwl : ws.length = 19 := hIw.length
  have hI2 := Nums.of (hI.append hIw)
  generalize (fun i => (ns ++ [53, 22, 1, 14, 6, 27, 3, 17, 30, 5, 12, 41, 8, 33, 2, 47, 13, 10, 7]).getD i 0) = nf at hI2
  unfold bd139 bdS139
  dsimp only
  repeat walk_at "bm"
  refine o_listOf (by walk_at "bj_a") (by walk_at "bj_a") (F.lst hls) (by omega) ?_
  clear F N'
  intro D c h₁ F N' hD
  refine nameG (s := stt s₀ h₁ t) G F rfl rfl (gl_92 _) ?_
  refine o_addL (vs := vs) (ws := ws) (by walk_at "bj_a") (by walk_at "bj_a") (isL N' (.head _)) ⟨_, G.X.keeps F.keep _ _ hw, rfl, _, rfl⟩ (by omega) ?_
  clear F N'
  intro ln h₂ F N' hD2
  replace N' := News.sub N' (N' := (ln, PySem.W.listOf (vs ++ ws).toArray 0) :: N) (by
    intro p hp
    simp only [List.mem_cons] at hp ⊢
    rcases hp with h1 | h1 <;> simp [h1])
  have hlnm : (ln, PySem.W.listOf (vs ++ ws).toArray 0) ∈ (ln, PySem.W.listOf (vs ++ ws).toArray 0) :: N := .head _
  have hne : ∀ i, (∃ o, (L + i, o) ∈ N) → ln ≠ L + i := fun i ⟨o, ho⟩ e => by
    have h1 := hD2 (L + i, o) (.tail _ ho)
    rw [e] at h1
    exact Nat.lt_irrefl _ h1
  have hn1 := hne 1 (let ⟨o, h1, _⟩ := c1; ⟨o, h1⟩)
  have hn2 := hne 2 (let ⟨o, h1, _⟩ := c2; ⟨o, h1⟩)
  replace c1 := c1.more (M := (ln, PySem.W.listOf (vs ++ ws).toArray 0) :: N) fun p hp => .tail _ hp
  replace c2 := c2.more (M := (ln, PySem.W.listOf (vs ++ ws).toArray 0) :: N) fun p hp => .tail _ hp
  replace c3 := c3.more (M := (ln, PySem.W.listOf (vs ++ ws).toArray 0) :: N) fun p hp => .tail _ hp
  replace c4 := c4.more (M := (ln, PySem.W.listOf (vs ++ ws).toArray 0) :: N) fun p hp => .tail _ hp
  generalize (ln, PySem.W.listOf (vs ++ ws).toArray 0) :: N = M at N' c1 c2 c3 c4 hlnm
  have hnl : (vs ++ ws).length = ns.length + 19 := by rw [List.length_append]; omega
  obtain ⟨v0, hv0⟩ : ∃ v, (vs ++ ws)[0]? = some v := ⟨_, List.getElem?_eq_getElem (by omega)⟩
  obtain ⟨u0, rfl⟩ := hI2 0 v0 hv0
  repeat walk_at "bm"
  refine i_list (j := 0) (by walk_at "bj_a") hlnm rfl hv0 (by decide) ?_ (by with_unfolding_all rfl)
  repeat walk_at "bm"
  refine e_stC G (by walk_at "bj_a") (by walk_at "bj_a") rfl rfl c1 ?_
  intro h₃ N₃ F₃ N₃' d1 K₃
  have ln3 := K₃ _ hlnm hn1
  have stay : ∀ (i j : Nat) v, i ≠ j → Cell M (L + i) v → (∀ p ∈ M, p.1 ≠ L + j → p ∈ N₃) → Cell N₃ (L + i) v := fun i j v hij ⟨o, a, b⟩ K => ⟨o, K _ a (fun e => hij (Nat.add_left_cancel e)), b⟩
  replace c2 := stay 2 1 _ (by decide) c2 K₃
  replace c3 := stay 3 1 _ (by decide) c3 K₃
  replace c4 := stay 4 1 _ (by decide) c4 K₃
  clear stay K₃ c1 hlnm N' F
  repeat walk_at "bm"
  refine e_stC G (by walk_at "bj_a") (by walk_at "bj_a") rfl rfl c2 ?_
  intro h₄ N₄ F₄ N₄' d2 K₄
  have ln4 := K₄ _ ln3 hn2
  have stay : ∀ (i j : Nat) v, i ≠ j → Cell N₃ (L + i) v → (∀ p ∈ N₃, p.1 ≠ L + j → p ∈ N₄) → Cell N₄ (L + i) v := fun i j v hij ⟨o, a, b⟩ K => ⟨o, K _ a (fun e => hij (Nat.add_left_cancel e)), b⟩
  replace d1 := stay 1 2 _ (by decide) d1 K₄
  replace c3 := stay 3 2 _ (by decide) c3 K₄
  replace c4 := stay 4 2 _ (by decide) c4 K₄
  exact kk _ _ _ _ ln _ _ nf _ _ _ _ _ _ _ F₄ N₄' ln4 hI2 (by omega) (by omega) (by repeat walk_at "bj_m") ⟨_, by repeat walk_at "bj_m"⟩ ⟨_, by repeat walk_at "bj_m"⟩ (Int.fmod_nonneg_of_pos _ (by decide)) (by have := Int.fmod_lt_of_pos (nf 0) (show (0 : Int) < 9 by decide); omega) d1 (by repeat walk_at "bj_m") d2 c3 c4
end
end

section
local macro_rules | `(tactic| walk_at "bj_gn") => `(tactic| first | with_reducible exact gn_len _ | with_reducible exact gn_range _ | with_reducible exact gn_list _ | with_reducible exact gn_reversed _)
local macro_rules | `(tactic| walk_at "bj_bt") => `(tactic| first | with_reducible exact PySem.boot_len | with_reducible exact PyProof.Rows.boot_range | with_reducible exact PyProof.Rows.boot_list | with_reducible exact PyProof.Rows.boot_reversed)
local macro_rules | `(tactic| walk_at "bj_gl") => `(tactic| first | with_reducible exact gl_31 _ | with_reducible exact gl_59 _ | with_reducible exact gl_70 _ | with_reducible exact gl_77 _ | with_reducible exact gl_84 _ | with_reducible exact gl_91 _ | with_reducible exact gl_92 _ | with_reducible exact gl_99 _ | with_reducible exact gl_106 _ | with_reducible exact gl_113 _ | with_reducible exact gl_120 _ | with_reducible exact gl_127 _ | with_reducible exact gl_134 _)
local macro_rules | `(tactic| walk_at "bj_kp") => `(tactic| first | with_reducible exact kp_31 _ | with_reducible exact kp_59 _ | with_reducible exact kp_70 _ | with_reducible exact kp_77 _ | with_reducible exact kp_84 _ | with_reducible exact kp_91 _ | with_reducible exact kp_99 _ | with_reducible exact kp_106 _ | with_reducible exact kp_113 _ | with_reducible exact kp_120 _ | with_reducible exact kp_127 _ | with_reducible exact kp_134 _)
local macro_rules | `(tactic| walk_at "bj_m") => `(tactic| first | (with_reducible assumption) | (with_reducible exact m_here) | ((with_reducible refine m_there ?hmt ?_); (case hmt => decide); walk_at "bj_m") | rfl)
local macro_rules | `(tactic| walk_at "bj_a") => `(tactic| (with_reducible assumption))
local macro_rules | `(tactic| walk_at "bj") => `(tactic| first
  | (with_reducible refine s_nilR ?_)
  | ((with_reducible refine' s_assignAttr ?_ ?hs); (case hs => rfl))
  | ((with_reducible refine' s_assign ?_ ?hs); (case hs => rfl))
  | (with_reducible refine' s_if ?_)
  | (with_reducible refine' s_ret ?_)
  | (with_reducible refine' s_aug ?_)
  | ((with_reducible refine' e_L ?G ?F ?hx ?hv ?_ ?hdb); (case G => walk_at "bj_a"); (case F => walk_at "bj_a"); (case hx => rfl); (case hdb => rfl); (case hv => walk_at "bj_m"))
  | ((with_reducible refine' l_L ?G ?F ?hx ?hv ?_); (case G => walk_at "bj_a"); (case F => walk_at "bj_a"); (case hx => rfl); (case hv => walk_at "bj_m"))
  | ((with_reducible refine' e_st ?G ?F ?N ?hx ?_); (case G => walk_at "bj_a"); (case F => walk_at "bj_a"); (case N => walk_at "bj_a"); (case hx => rfl); intro h' t' F' N')
  | ((with_reducible refine' e_attr ?_ ?he); (case he => with_unfolding_all rfl))
  | ((with_reducible refine' t_cmp ?_ ?hm); (case hm => with_unfolding_all rfl))
  | ((with_reducible refine' e_cmp ?_ ?hm); (case hm => with_unfolding_all rfl))
  | (with_reducible refine' e_bin ?_)
  | (with_reducible refine' t_not ?_)
  | (with_reducible refine' t_and ?_)
  | (with_reducible refine' t_or ?_)
  | (with_reducible refine' t_andN ?_)
  | (with_reducible refine' t_orN ?_)
  | (with_reducible refine' e_ifx ?_)
  | (with_reducible refine' e_and ?_)
  | (with_reducible refine' e_and1 ?_)
  | (with_reducible refine' e_un ?_)
  | (with_reducible refine' tb_bool ?_)
  | (with_reducible refine' tb_none ?_)
  | ((with_reducible refine' o_add ?_); intro u' t')
  | ((with_reducible refine' o_iadd ?_); intro u' t')
  | ((with_reducible refine' o_isub ?_); intro u' t')
  | ((with_reducible refine' o_sub ?_); intro u' t')
  | ((with_reducible refine' o_mod ?_ ?_); (decide); intro u' t')
  | ((with_reducible refine' o_neg ?_); intro u' t')
  | (with_reducible refine' c_eq ?_)
  | (with_reducible refine' c_ne ?_)
  | (with_reducible refine' c_lt ?_)
  | (with_reducible refine' c_gt ?_)
  | (with_reducible refine' c_le ?_)
  | (with_reducible refine' c_ge ?_)
  | (with_reducible refine' c_isB ?_)
  | (with_reducible refine' c_isnB ?_)
  | (with_reducible refine' c_eqB ?_)
  | (with_reducible refine' c_neB ?_)
  | (with_reducible refine' c_isRN ?_)
  | (with_reducible refine' c_isNN ?_)
  | (with_reducible refine' c_isnRN ?_)
  | (with_reducible refine' c_isnNR ?_)
  | (with_reducible refine' c_isnNN ?_)
  | (with_reducible refine' c_isnRS ?_)
  | (with_reducible refine' c_isRS ?_)
  | (with_reducible refine' if_t ?_)
  | (with_reducible refine' if_f ?_)
  | (with_reducible refine' if_nt ?_)
  | (with_reducible refine' if_nf ?_)
  | ((with_reducible refine' e_callG ?G ?F ?hx ?hdb ?eg ?hk ?_ ?hc ?he ?hp); (case G => walk_at "bj_a"); (case F => walk_at "bj_a"); (case hx => rfl); (case hdb => rfl); (case eg => walk_at "bj_gl"); (case hk => walk_at "bj_kp"); (case hc => rfl); (case he => rfl); (case hp => rfl))
  | ((with_reducible refine' e_callB ?G ?F ?hx ?hdb ?eg ?hv ?hn ?_ ?hc ?he ?hp); (case G => walk_at "bj_a"); (case F => walk_at "bj_a"); (case hx => rfl); (case hdb => rfl); (case eg => walk_at "bj_gn"); (case hv => walk_at "bj_bt"); (case hn => decide); (case hc => rfl); (case he => rfl); (case hp => rfl))
  | ((with_reducible refine' e_callT ?G ?F ?hx ?hdb ?eg ?hv ?hn ?_ ?hc ?he ?hp); (case G => walk_at "bj_a"); (case F => walk_at "bj_a"); (case hx => rfl); (case hdb => rfl); (case eg => walk_at "bj_gn"); (case hv => walk_at "bj_bt"); (case hn => decide); (case hc => rfl); (case he => rfl); (case hp => rfl))
  | ((with_reducible refine' o_len ?N ?hm ?hf ?_); (case N => walk_at "bj_a"); (case hm => walk_at "bj_a"); (case hf => walk_at "bj_a"); intro u' t')
  | ((with_reducible refine' o_range ?F ?N ?_); (case F => walk_at "bj_a"); (case N => walk_at "bj_a"); intro rg' h' t' a' b' c' R' F' N')
  | (with_reducible refine' e_sub ?_)
  | ((with_reducible refine' s_for ?G ?hx ?_ ?hs); (case G => walk_at "bj_a"); (case hx => rfl); (case hs => intro _; rfl))
  | ((with_reducible refine' a_cons ?_ ?he); (case he => rfl))
  | (with_reducible refine' a_nil ?_)
  | ((with_reducible refine' a_in ?G ?F ?_); (case G => walk_at "bj_a"); (case F => walk_at "bj_a"))
  | ((with_reducible refine' t_plain ?_ ?he); (case he => rfl))
  | (with_reducible refine' e_none ?_)
  | (with_reducible refine' e_bool ?_)
  | ((with_reducible refine' e_int ?_); intro u' t'))
local macro_rules | `(tactic| walk_at "bj_g5") => `(tactic| ((case G => walk_at "bj_a"); (case F => walk_at "bj_a"); (case N => walk_at "bj_a"); (case T => walk_at "bj_a"); (case hS => walk_at "bj_a")))
local macro_rules | `(tactic| walk_at "bj_get") => `(tactic| first
  | ((with_reducible refine' tg_next ?G ?F ?N ?T ?hS ?_); (case G => walk_at "bj_a"); (case F => walk_at "bj_a"); (case N => walk_at "bj_a"); (case T => walk_at "bj_a"); (case hS => walk_at "bj_a"); intro t')
  | ((with_reducible refine' tg_prev ?G ?F ?N ?T ?hS ?_); (case G => walk_at "bj_a"); (case F => walk_at "bj_a"); (case N => walk_at "bj_a"); (case T => walk_at "bj_a"); (case hS => walk_at "bj_a"); intro t')
  | ((with_reducible refine' tg_pz ?G ?F ?N ?T ?hS ?_); (case G => walk_at "bj_a"); (case F => walk_at "bj_a"); (case N => walk_at "bj_a"); (case T => walk_at "bj_a"); (case hS => walk_at "bj_a"); intro t')
  | ((with_reducible refine' tg_nz ?G ?F ?N ?T ?hS ?_); (case G => walk_at "bj_a"); (case F => walk_at "bj_a"); (case N => walk_at "bj_a"); (case T => walk_at "bj_a"); (case hS => walk_at "bj_a"); intro t')
  | ((with_reducible refine' tg_i ?G ?F ?N ?T ?hS ?_); (case G => walk_at "bj_a"); (case F => walk_at "bj_a"); (case N => walk_at "bj_a"); (case T => walk_at "bj_a"); (case hS => walk_at "bj_a"); intro t')
  | ((with_reducible refine' tg_point ?G ?F ?N ?T ?hS ?_); (case G => walk_at "bj_a"); (case F => walk_at "bj_a"); (case N => walk_at "bj_a"); (case T => walk_at "bj_a"); (case hS => walk_at "bj_a"); intro t')
  | ((with_reducible refine' tg_x ?G ?F ?N ?T ?hS ?_); (case G => walk_at "bj_a"); (case F => walk_at "bj_a"); (case N => walk_at "bj_a"); (case T => walk_at "bj_a"); (case hS => walk_at "bj_a"); intro t')
  | ((with_reducible refine' tg_y ?G ?F ?N ?T ?hS ?_); (case G => walk_at "bj_a"); (case F => walk_at "bj_a"); (case N => walk_at "bj_a"); (case T => walk_at "bj_a"); (case hS => walk_at "bj_a"); intro t')
  | ((with_reducible refine' tg_z ?G ?F ?N ?T ?hS ?_); (case G => walk_at "bj_a"); (case F => walk_at "bj_a"); (case N => walk_at "bj_a"); (case T => walk_at "bj_a"); (case hS => walk_at "bj_a"); intro t')
  | ((with_reducible refine' tg_st ?G ?F ?N ?T ?hS ?_); (case G => walk_at "bj_a"); (case F => walk_at "bj_a"); (case N => walk_at "bj_a"); (case T => walk_at "bj_a"); (case hS => walk_at "bj_a"); intro t'))
local macro_rules | `(tactic| walk_at "bj_set") => `(tactic| (first
  | (with_reducible refine' ts_prev ?G ?F ?N ?T ?hS ?_)
  | (with_reducible refine' ts_next ?G ?F ?N ?T ?hS ?_)
  | (with_reducible refine' ts_pz ?G ?F ?N ?T ?hS ?_)
  | (with_reducible refine' ts_nz ?G ?F ?N ?T ?hS ?_)
  | (with_reducible refine' ts_prevR ?G ?F ?N ?T ?hS ?_)
  | (with_reducible refine' ts_nextR ?G ?F ?N ?T ?hS ?_)
  | (with_reducible refine' ts_pzR ?G ?F ?N ?T ?hS ?_)
  | (with_reducible refine' ts_nzR ?G ?F ?N ?T ?hS ?_)))
local macro_rules | `(tactic| walk_at "bj_il") => `(tactic| ((with_reducible refine' i_list ?N ?hm ?hi ?hx ?hj ?k ?hs); (case N => walk_at "bj_a"); (case hm => walk_at "bj_a"); (case hs => with_unfolding_all rfl)))
local macro_rules | `(tactic| walk_at "bj_it") => `(tactic| ((with_reducible refine' i_tup ?N ?hm ?hi ?hj ?hx ?k ?hs); (case N => walk_at "bj_a"); (case hm => walk_at "bj_a"); (case hs => with_unfolding_all rfl)))
local macro_rules | `(tactic| walk_at "bk") => `(tactic| first
  | walk_at "bj"
  | ((with_reducible refine' s_exprA ?_ ?hi ?hs); (case hi => rfl); (case hs => rfl))
  | ((with_reducible refine' e_meth ?_ ?hm ?he ?hp); (case hm => rfl); (case he => rfl); (case hp => rfl))
  | (with_reducible refine' e_list ?_)
  | (with_reducible refine' e_tup ?_)
  | ((with_reducible refine' i_list ?N ?hm ?hi ?hx ?hj ?_ ?hs); (case N => walk_at "bj_a"); (case hm => walk_at "bj_a"); (case hi => with_reducible rfl); (case hx => exact map_get (by with_reducible assumption)); (case hj => omega); (case hs => with_unfolding_all rfl))
  | ((with_reducible refine' i_tup (j := 0) ?N ?hm ?hi ?hj ?hx ?_ ?hs); (case N => walk_at "bj_a"); (case hm => walk_at "bj_a"); (case hi => rfl); (case hj => decide); (case hx => rfl); (case hs => with_unfolding_all rfl))
  | ((with_reducible refine' i_tup (j := 1) ?N ?hm ?hi ?hj ?hx ?_ ?hs); (case N => walk_at "bj_a"); (case hm => walk_at "bj_a"); (case hi => rfl); (case hj => decide); (case hx => rfl); (case hs => with_unfolding_all rfl)))
local macro_rules | `(tactic| walk_at "bm") => `(tactic| first
  | walk_at "bk"
  | ((with_reducible refine' e_C ?G ?N ?hx ?hc ?hdb ?hv ?_); (case G => walk_at "bj_a"); (case N => walk_at "bj_a"); (case hx => rfl); (case hc => rfl); (case hdb => rfl); (case hv => walk_at "bj_a"))
  | ((with_reducible refine' o_fdiv ?_ ?_ ?_); (decide); (decide); intro u' t')
  | (with_reducible refine' e_slc ?_)
  | (with_reducible refine' p_none ?_)
  | (with_reducible refine' p_some ?_))
section
variable {prog : Program} {w : World} {A : Around} {nm : Str} {L fa : Addr} {cd : Value} {h₀ : Heap} {s₀ : Shared} {h : Heap} {t : Nat} {m : Str → Option Value} {N : Led} {r : Nat}

def RowsOk (N : Led) (rs : List Addr) : Prop := ∀ a ∈ rs, ∃ p : Tp, (a, tupD p) ∈ N ∧ 0 ≤ p.y ∧ p.y ≤ 3
theorem RowsOk.more {M : Led} {rs : List Addr} (H : RowsOk N rs) (s : ∀ p ∈ N, p ∈ M) : RowsOk M rs := fun a ha => let ⟨p, h1, h2⟩ := H a ha; ⟨p, s _ h1, h2⟩

theorem with_comp {e : Expr} {scope : Scope} {cl : List (Str × Addr)} {C : Addr} {env : Env} {Q : Value → Shared → Prop} (G : Gd w A env h₀ r) (hk : scope.kind = .function) (F : Fr h₀ C h m) (N' : News h₀ C h N)
    (k : Gd w A (compEnvC scope cl C env) h₀ r → Fr h₀ (compEnvC scope cl C env).locals h m → News h₀ (compEnvC scope cl C env).locals h N → wpAny (model prog w) A (eval e (compEnvC scope cl C env)) Q NE (stt s₀ h t)) :
    wpAny (model prog w) A (eval e (compEnvC scope cl C env)) Q NE (stt s₀ h t) := k ⟨G.X, G.T, hk, G.hgl, G.hbl, G.hd, G.hu, G.hh⟩ F N'

theorem tup_ne_list {p : Tp} {vs : Array Value} {k : Nat} : tupD p ≠ PySem.W.listOf vs k := fun e => absurd (Value.type.inj (congrArg Obj.cls e)) (by decide)

theorem law2 {Q : Flow → Shared → Prop} {ln : Addr} {nv : List Value} {kn : Nat} {nf : Nat → Int} {first many start wide : Int} {us uw : Tok} {ccw : Bool} (G : Gd w A (le nm L fa cd) h₀ (r + 1)) (F : Fr h₀ (le nm L fa cd).locals h m) (N' : News h₀ (le nm L fa cd).locals h N)
    (hln : (ln, PySem.W.listOf nv.toArray kn) ∈ N) (hN : Nums nv nf) (hn1 : 19 ≤ nv.length) (hn2 : nv.length ≤ 82) (m1 : m "numbers" = some (.ref ln)) (m2 : ∃ u, m "first" = some (.int first u)) (m3 : ∃ u, m "many" = some (.int many u)) (h1 : 0 ≤ many) (h2 : many ≤ 8)
    (c1 : Cell N (L + 1) (some (.int start us))) (m4 : m "ccw" = some (.bool ccw)) (c2 : Cell N (L + 2) (some (.int wide uw))) (c3 : Cell N (L + 3) none) (c4 : Cell N (L + 4) none)
    (kk : ∀ h' t' m' M lw kw rs, Fr h₀ (le nm L fa cd).locals h' m' → News h₀ (le nm L fa cd).locals h' M → (lw, PySem.W.listOf (rs.map Value.ref).toArray kw) ∈ M → RowsOk M rs → rs.length ≤ 9 → (ln, PySem.W.listOf nv.toArray kn) ∈ M →
      m' "rows" = some (.ref lw) → m' "numbers" = some (.ref ln) → (∃ u, m' "many" = some (.int many u)) → m' "ccw" = some (.bool ccw) → Cell M (L + 1) (some (.int start us)) → Cell M (L + 3) none → Cell M (L + 4) none →
      wpAny (model prog w) A (execs (bd139.drop 8) (le nm L fa cd)) Q NE (stt s₀ h' t')) :
    wpAny (model prog w) A (execs (bd139.drop 6) (le nm L fa cd)) Q NE (stt s₀ h t) := by
  obtain ⟨u2, m2⟩ := m2
  obtain ⟨u3, m3⟩ := m3
  unfold bd139 bdS139
  dsimp only [List.drop]
  refine s_comp (cl := [(("wide" : Str), L + 2)]) ?hsw ?hclos ?hkind ?hnames ?_ ?hs
  case hsw => rfl
  case hclos => rfl
  case hkind => rfl
  case hnames => decide
  case hs => intro _; rfl
  repeat walk_at "bm"
  obtain ⟨nn, rfl⟩ : ∃ nn : Nat, many = (nn : Int) := ⟨many.toNat, (Int.toNat_of_nonneg h1).symm⟩
  refine i_slice (ws := (nv.drop 1).take nn) (by walk_at "bj_a") (by walk_at "bj_a") hln (.int _ _) (.int _ _) ?_ (by omega) ?_ (by with_unfolding_all rfl) (by intro _; with_unfolding_all rfl)
  · have := slicePick_run nv.toArray 1 (1 + nn) (by rw [List.size_toArray]; omega) (by omega)
    rw [show ((1 + nn : Nat) : Int) = 1 + (nn : Int) by omega, show 1 + nn - 1 = nn by omega] at this
    exact this
  intro sl h₁ F₁ N₁ hD
  have hwl : ((nv.drop 1).take nn).length = nn := by rw [List.length_take, List.length_drop]; omega
  refine c_list (k := 0) (vs := (nv.drop 1).take nn) (fun i ys X => ∃ rs : List Addr, ys = rs.map Value.ref ∧ rs.length = i ∧ RowsOk X rs) G.hh (by decide) rfl rfl F₁ N₁ (.head _) (by omega) ⟨[], rfl, rfl, fun a ha => absurd ha List.not_mem_nil⟩ ?_ (done_use G rfl ?_)
  · clear F₁ N₁ F N'
    rintro C i v ys X m₁ M h₂ t₂ hv ⟨rs, rfl, hi, hR⟩ hM hmv F₂ N₂
    have hlt : i < nn := by rw [← hwl]; exact (List.getElem?_eq_some_iff.mp hv).1
    rw [List.getElem?_take, if_pos hlt, List.getElem?_drop] at hv
    obtain ⟨uv, rfl⟩ := hN _ _ hv
    have c2' : Cell M (L + 2) (some (.int wide uw)) := c2.more fun p hp => hM p (List.mem_append_right _ (.tail _ hp))
    refine f_none ?_
    rw [if_pos rfl]
    refine with_comp G rfl F₂ N₂ fun Gc F₂ N₂ => ?_
    repeat walk_at "bm"
    have hy0 : 0 ≤ ((nf (1 + i)).fdiv 4).fmod 4 := Int.fmod_nonneg_of_pos _ (by decide)
    have hy1 : ((nf (1 + i)).fdiv 4).fmod 4 < 4 := Int.fmod_lt_of_pos _ (by decide)
    refine o_mul (.of_right (bits_small (by omega) (by omega))) fun u' t' => ?_
    repeat walk_at "bm"
    refine n_tup (by walk_at "bj_a") (by walk_at "bj_a") (by simp) ?_
    intro l h₃ F₃ N₃ hlt3
    refine ⟨_, _, _, [(l, _)], rfl, F₃, N₃, fun p hp q hq => by rw [List.mem_singleton.mp hp]; exact hlt3 q hq, rs ++ [l], by rw [List.map_append]; rfl, by rw [List.length_append, hi]; rfl, ?_⟩
    intro a ha
    rcases List.mem_append.mp ha with ha | ha
    · obtain ⟨p, h1, h2⟩ := hR a ha
      exact ⟨p, .tail _ h1, h2⟩
    · rw [List.mem_singleton.mp ha]
      exact ⟨⟨_, _, _, _⟩, .head _, hy0, by show ((nf (1 + i)).fdiv 4).fmod 4 ≤ 3; omega⟩
  · clear F₁ N₁ F N' hD
    rintro lw ys X c h' t' ⟨rs, rfl, hi, hR⟩ hX hlt F' N'
    rw [hwl] at hi
    have hN0 : ∀ p ∈ N, p ∈ (lw, PySem.W.listOf (rs.map Value.ref).toArray c) :: (X ++ (sl, PySem.W.listOf ((nv.drop 1).take nn).toArray 0) :: N) := fun p hp => .tail _ (List.mem_append_right _ (.tail _ hp))
    replace hR := hR.more (M := (lw, PySem.W.listOf (rs.map Value.ref).toArray c) :: (X ++ (sl, PySem.W.listOf ((nv.drop 1).take nn).toArray 0) :: N)) fun p hp => .tail _ (List.mem_append_left _ hp)
    have hlw : (lw, PySem.W.listOf (rs.map Value.ref).toArray c) ∈ (lw, PySem.W.listOf (rs.map Value.ref).toArray c) :: (X ++ (sl, PySem.W.listOf ((nv.drop 1).take nn).toArray 0) :: N) := .head _
    have hne : ∀ p ∈ N, p.1 ≠ lw := fun p hp => Nat.ne_of_lt (hlt p (.tail _ hp))
    have hRne : ∀ p ∈ X, p.1 ≠ lw := fun p hp => Ne.symm (Nat.ne_of_lt (hX p hp))
    generalize (lw, PySem.W.listOf (rs.map Value.ref).toArray c) :: (X ++ (sl, PySem.W.listOf ((nv.drop 1).take nn).toArray 0) :: N) = M at hN0 hR hlw N'
    clear hX hlt hRne
    have hln' := hN0 _ hln
    replace c1 := c1.more hN0
    replace c3 := c3.more hN0
    replace c4 := c4.more hN0
    refine s_ifJ (fun σ => ∃ h' t' M kw rs, σ = stt s₀ h' t' ∧ Fr h₀ (le nm L fa cd).locals h' (fun z => if z = "rows" then some (.ref lw) else m z) ∧ News h₀ (le nm L fa cd).locals h' M ∧ (lw, PySem.W.listOf (rs.map Value.ref).toArray kw) ∈ M ∧ RowsOk M rs ∧ rs.length ≤ 9 ∧
      (ln, PySem.W.listOf nv.toArray kn) ∈ M ∧ Cell M (L + 1) (some (.int start us)) ∧ Cell M (L + 3) none ∧ Cell M (L + 4) none) ?_ ?_
    · repeat walk_at "bm"
      have stop : ∀ h' t', Fr h₀ (le nm L fa cd).locals h' (fun z => if z = "rows" then some (.ref lw) else m z) → News h₀ (le nm L fa cd).locals h' M → ∃ h'' t'' M' kw rs', stt s₀ h' t' = stt s₀ h'' t'' ∧ Fr h₀ (le nm L fa cd).locals h'' (fun z => if z = "rows" then some (.ref lw) else m z) ∧ News h₀ (le nm L fa cd).locals h'' M' ∧ (lw, PySem.W.listOf (rs'.map Value.ref).toArray kw) ∈ M' ∧ RowsOk M' rs' ∧ rs'.length ≤ 9 ∧
        (ln, PySem.W.listOf nv.toArray kn) ∈ M' ∧ Cell M' (L + 1) (some (.int start us)) ∧ Cell M' (L + 3) none ∧ Cell M' (L + 4) none := fun h' t' F N' => ⟨_, _, M, c, rs, rfl, F, N', hlw, hR, by omega, hln', c1, c3, c4⟩
      refine ite_beq (fun _ => ?_) (fun _ => ?_)
      · repeat walk_at "bm"
        refine ite_dec (fun hp => ?_) (fun _ => s_nilN (stop _ _ F' N'))
        have hp' : 0 < rs.length := by omega
        obtain ⟨a0, ha0⟩ : ∃ a, rs[0]? = some a := ⟨_, List.getElem?_eq_getElem hp'⟩
        repeat walk_at "bm"
        refine g_append (by walk_at "bj_a") hlw ⟨_, rfl, ?_⟩
        repeat walk_at "bm"
        refine i_list (j := 0) (by walk_at "bj_a") hlw rfl (map_get ha0) (by decide) ?_ (by with_unfolding_all rfl)
        repeat walk_at "bm"
        refine l_append (by walk_at "bj_a") (by walk_at "bj_a") hlw (by rw [List.length_map]; omega) ?_
        intro h₂ F₂ N₂
        repeat walk_at "bm"
        have put1 : ∀ o', ∀ p ∈ M, p.1 ≠ lw → p ∈ put lw o' M := fun o' p hp hne => mem_put.mpr (.inr ⟨hne, hp⟩)
        have pc : ∀ o' k v, Cell M k v → Cell (put lw o' M) k v := fun o' k v ⟨o, h1, h2⟩ => ⟨o, put_other N' hlw h1 (by intro e; rw [e] at h2; cases h2), h2⟩
        refine s_nilN ⟨_, _, _, c + 1, rs ++ [a0], rfl, F₂, N₂, by rw [List.map_append]; exact mem_put_self, ?_, by rw [List.length_append, List.length_singleton]; omega, mem_put_ne hln' (hne _ hln), pc _ _ _ c1, pc _ _ _ c3, pc _ _ _ c4⟩
        intro a ha
        have ha' : a ∈ rs := by
          rcases List.mem_append.mp ha with ha | ha
          · exact ha
          · rw [List.mem_singleton.mp ha]; exact List.mem_of_getElem? ha0
        obtain ⟨p, h1, h2⟩ := hR a ha'
        exact ⟨p, put_other N' hlw h1 tup_ne_list, h2⟩
      · repeat walk_at "bm"
        exact s_nilN (stop _ _ F' N')
    · rintro σ ⟨h₂, t₂, M₂, kw, rs₂, rfl, F₂, N₂, a1, a2, a3, a4, a5, a6, a7⟩
      exact kk _ _ _ _ lw kw rs₂ F₂ N₂ a1 a2 a3 a4 (by repeat walk_at "bj_m") (by repeat walk_at "bj_m") ⟨_, by repeat walk_at "bj_m"⟩ (by repeat walk_at "bj_m") a5 a6 a7
end
end

section
local macro_rules | `(tactic| walk_at "bj_gn") => `(tactic| first | with_reducible exact gn_len _ | with_reducible exact gn_range _ | with_reducible exact gn_list _ | with_reducible exact gn_reversed _)
local macro_rules | `(tactic| walk_at "bj_bt") => `(tactic| first | with_reducible exact PySem.boot_len | with_reducible exact PyProof.Rows.boot_range | with_reducible exact PyProof.Rows.boot_list | with_reducible exact PyProof.Rows.boot_reversed)
local macro_rules | `(tactic| walk_at "bj_gl") => `(tactic| first | with_reducible exact gl_31 _ | with_reducible exact gl_59 _ | with_reducible exact gl_70 _ | with_reducible exact gl_77 _ | with_reducible exact gl_84 _ | with_reducible exact gl_91 _ | with_reducible exact gl_92 _ | with_reducible exact gl_99 _ | with_reducible exact gl_106 _ | with_reducible exact gl_113 _ | with_reducible exact gl_120 _ | with_reducible exact gl_127 _ | with_reducible exact gl_134 _)
local macro_rules | `(tactic| walk_at "bj_kp") => `(tactic| first | with_reducible exact kp_31 _ | with_reducible exact kp_59 _ | with_reducible exact kp_70 _ | with_reducible exact kp_77 _ | with_reducible exact kp_84 _ | with_reducible exact kp_91 _ | with_reducible exact kp_99 _ | with_reducible exact kp_106 _ | with_reducible exact kp_113 _ | with_reducible exact kp_120 _ | with_reducible exact kp_127 _ | with_reducible exact kp_134 _)
local macro_rules | `(tactic| walk_at "bj_m") => `(tactic| first | (with_reducible assumption) | (with_reducible exact m_here) | ((with_reducible refine m_there ?hmt ?_); (case hmt => decide); walk_at "bj_m") | rfl)
local macro_rules | `(tactic| walk_at "bj_a") => `(tactic| (with_reducible assumption))
local macro_rules | `(tactic| walk_at "bj") => `(tactic| first
  | (with_reducible refine s_nilR ?_)
  | ((with_reducible refine' s_assignAttr ?_ ?hs); (case hs => rfl))
  | ((with_reducible refine' s_assign ?_ ?hs); (case hs => rfl))
  | (with_reducible refine' s_if ?_)
  | (with_reducible refine' s_ret ?_)
  | (with_reducible refine' s_aug ?_)
  | ((with_reducible refine' e_L ?G ?F ?hx ?hv ?_ ?hdb); (case G => walk_at "bj_a"); (case F => walk_at "bj_a"); (case hx => rfl); (case hdb => rfl); (case hv => walk_at "bj_m"))
  | ((with_reducible refine' l_L ?G ?F ?hx ?hv ?_); (case G => walk_at "bj_a"); (case F => walk_at "bj_a"); (case hx => rfl); (case hv => walk_at "bj_m"))
  | ((with_reducible refine' e_st ?G ?F ?N ?hx ?_); (case G => walk_at "bj_a"); (case F => walk_at "bj_a"); (case N => walk_at "bj_a"); (case hx => rfl); intro h' t' F' N')
  | ((with_reducible refine' e_attr ?_ ?he); (case he => with_unfolding_all rfl))
  | ((with_reducible refine' t_cmp ?_ ?hm); (case hm => with_unfolding_all rfl))
  | ((with_reducible refine' e_cmp ?_ ?hm); (case hm => with_unfolding_all rfl))
  | (with_reducible refine' e_bin ?_)
  | (with_reducible refine' t_not ?_)
  | (with_reducible refine' t_and ?_)
  | (with_reducible refine' t_or ?_)
  | (with_reducible refine' t_andN ?_)
  | (with_reducible refine' t_orN ?_)
  | (with_reducible refine' e_ifx ?_)
  | (with_reducible refine' e_and ?_)
  | (with_reducible refine' e_and1 ?_)
  | (with_reducible refine' e_un ?_)
  | (with_reducible refine' tb_bool ?_)
  | (with_reducible refine' tb_none ?_)
  | ((with_reducible refine' o_add ?_); intro u' t')
  | ((with_reducible refine' o_iadd ?_); intro u' t')
  | ((with_reducible refine' o_isub ?_); intro u' t')
  | ((with_reducible refine' o_sub ?_); intro u' t')
  | ((with_reducible refine' o_mod ?_ ?_); (decide); intro u' t')
  | ((with_reducible refine' o_neg ?_); intro u' t')
  | (with_reducible refine' c_eq ?_)
  | (with_reducible refine' c_ne ?_)
  | (with_reducible refine' c_lt ?_)
  | (with_reducible refine' c_gt ?_)
  | (with_reducible refine' c_le ?_)
  | (with_reducible refine' c_ge ?_)
  | (with_reducible refine' c_isB ?_)
  | (with_reducible refine' c_isnB ?_)
  | (with_reducible refine' c_eqB ?_)
  | (with_reducible refine' c_neB ?_)
  | (with_reducible refine' c_isRN ?_)
  | (with_reducible refine' c_isNN ?_)
  | (with_reducible refine' c_isnRN ?_)
  | (with_reducible refine' c_isnNR ?_)
  | (with_reducible refine' c_isnNN ?_)
  | (with_reducible refine' c_isnRS ?_)
  | (with_reducible refine' c_isRS ?_)
  | (with_reducible refine' if_t ?_)
  | (with_reducible refine' if_f ?_)
  | (with_reducible refine' if_nt ?_)
  | (with_reducible refine' if_nf ?_)
  | ((with_reducible refine' e_callG ?G ?F ?hx ?hdb ?eg ?hk ?_ ?hc ?he ?hp); (case G => walk_at "bj_a"); (case F => walk_at "bj_a"); (case hx => rfl); (case hdb => rfl); (case eg => walk_at "bj_gl"); (case hk => walk_at "bj_kp"); (case hc => rfl); (case he => rfl); (case hp => rfl))
  | ((with_reducible refine' e_callB ?G ?F ?hx ?hdb ?eg ?hv ?hn ?_ ?hc ?he ?hp); (case G => walk_at "bj_a"); (case F => walk_at "bj_a"); (case hx => rfl); (case hdb => rfl); (case eg => walk_at "bj_gn"); (case hv => walk_at "bj_bt"); (case hn => decide); (case hc => rfl); (case he => rfl); (case hp => rfl))
  | ((with_reducible refine' e_callT ?G ?F ?hx ?hdb ?eg ?hv ?hn ?_ ?hc ?he ?hp); (case G => walk_at "bj_a"); (case F => walk_at "bj_a"); (case hx => rfl); (case hdb => rfl); (case eg => walk_at "bj_gn"); (case hv => walk_at "bj_bt"); (case hn => decide); (case hc => rfl); (case he => rfl); (case hp => rfl))
  | ((with_reducible refine' o_len ?N ?hm ?hf ?_); (case N => walk_at "bj_a"); (case hm => walk_at "bj_a"); (case hf => walk_at "bj_a"); intro u' t')
  | ((with_reducible refine' o_range ?F ?N ?_); (case F => walk_at "bj_a"); (case N => walk_at "bj_a"); intro rg' h' t' a' b' c' R' F' N')
  | (with_reducible refine' e_sub ?_)
  | ((with_reducible refine' s_for ?G ?hx ?_ ?hs); (case G => walk_at "bj_a"); (case hx => rfl); (case hs => intro _; rfl))
  | ((with_reducible refine' a_cons ?_ ?he); (case he => rfl))
  | (with_reducible refine' a_nil ?_)
  | ((with_reducible refine' a_in ?G ?F ?_); (case G => walk_at "bj_a"); (case F => walk_at "bj_a"))
  | ((with_reducible refine' t_plain ?_ ?he); (case he => rfl))
  | (with_reducible refine' e_none ?_)
  | (with_reducible refine' e_bool ?_)
  | ((with_reducible refine' e_int ?_); intro u' t'))
local macro_rules | `(tactic| walk_at "bj_g5") => `(tactic| ((case G => walk_at "bj_a"); (case F => walk_at "bj_a"); (case N => walk_at "bj_a"); (case T => walk_at "bj_a"); (case hS => walk_at "bj_a")))
local macro_rules | `(tactic| walk_at "bj_get") => `(tactic| first
  | ((with_reducible refine' tg_next ?G ?F ?N ?T ?hS ?_); (case G => walk_at "bj_a"); (case F => walk_at "bj_a"); (case N => walk_at "bj_a"); (case T => walk_at "bj_a"); (case hS => walk_at "bj_a"); intro t')
  | ((with_reducible refine' tg_prev ?G ?F ?N ?T ?hS ?_); (case G => walk_at "bj_a"); (case F => walk_at "bj_a"); (case N => walk_at "bj_a"); (case T => walk_at "bj_a"); (case hS => walk_at "bj_a"); intro t')
  | ((with_reducible refine' tg_pz ?G ?F ?N ?T ?hS ?_); (case G => walk_at "bj_a"); (case F => walk_at "bj_a"); (case N => walk_at "bj_a"); (case T => walk_at "bj_a"); (case hS => walk_at "bj_a"); intro t')
  | ((with_reducible refine' tg_nz ?G ?F ?N ?T ?hS ?_); (case G => walk_at "bj_a"); (case F => walk_at "bj_a"); (case N => walk_at "bj_a"); (case T => walk_at "bj_a"); (case hS => walk_at "bj_a"); intro t')
  | ((with_reducible refine' tg_i ?G ?F ?N ?T ?hS ?_); (case G => walk_at "bj_a"); (case F => walk_at "bj_a"); (case N => walk_at "bj_a"); (case T => walk_at "bj_a"); (case hS => walk_at "bj_a"); intro t')
  | ((with_reducible refine' tg_point ?G ?F ?N ?T ?hS ?_); (case G => walk_at "bj_a"); (case F => walk_at "bj_a"); (case N => walk_at "bj_a"); (case T => walk_at "bj_a"); (case hS => walk_at "bj_a"); intro t')
  | ((with_reducible refine' tg_x ?G ?F ?N ?T ?hS ?_); (case G => walk_at "bj_a"); (case F => walk_at "bj_a"); (case N => walk_at "bj_a"); (case T => walk_at "bj_a"); (case hS => walk_at "bj_a"); intro t')
  | ((with_reducible refine' tg_y ?G ?F ?N ?T ?hS ?_); (case G => walk_at "bj_a"); (case F => walk_at "bj_a"); (case N => walk_at "bj_a"); (case T => walk_at "bj_a"); (case hS => walk_at "bj_a"); intro t')
  | ((with_reducible refine' tg_z ?G ?F ?N ?T ?hS ?_); (case G => walk_at "bj_a"); (case F => walk_at "bj_a"); (case N => walk_at "bj_a"); (case T => walk_at "bj_a"); (case hS => walk_at "bj_a"); intro t')
  | ((with_reducible refine' tg_st ?G ?F ?N ?T ?hS ?_); (case G => walk_at "bj_a"); (case F => walk_at "bj_a"); (case N => walk_at "bj_a"); (case T => walk_at "bj_a"); (case hS => walk_at "bj_a"); intro t'))
local macro_rules | `(tactic| walk_at "bj_set") => `(tactic| (first
  | (with_reducible refine' ts_prev ?G ?F ?N ?T ?hS ?_)
  | (with_reducible refine' ts_next ?G ?F ?N ?T ?hS ?_)
  | (with_reducible refine' ts_pz ?G ?F ?N ?T ?hS ?_)
  | (with_reducible refine' ts_nz ?G ?F ?N ?T ?hS ?_)
  | (with_reducible refine' ts_prevR ?G ?F ?N ?T ?hS ?_)
  | (with_reducible refine' ts_nextR ?G ?F ?N ?T ?hS ?_)
  | (with_reducible refine' ts_pzR ?G ?F ?N ?T ?hS ?_)
  | (with_reducible refine' ts_nzR ?G ?F ?N ?T ?hS ?_)))
local macro_rules | `(tactic| walk_at "bj_il") => `(tactic| ((with_reducible refine' i_list ?N ?hm ?hi ?hx ?hj ?k ?hs); (case N => walk_at "bj_a"); (case hm => walk_at "bj_a"); (case hs => with_unfolding_all rfl)))
local macro_rules | `(tactic| walk_at "bj_it") => `(tactic| ((with_reducible refine' i_tup ?N ?hm ?hi ?hj ?hx ?k ?hs); (case N => walk_at "bj_a"); (case hm => walk_at "bj_a"); (case hs => with_unfolding_all rfl)))
local macro_rules | `(tactic| walk_at "bk") => `(tactic| first
  | walk_at "bj"
  | ((with_reducible refine' s_exprA ?_ ?hi ?hs); (case hi => rfl); (case hs => rfl))
  | ((with_reducible refine' e_meth ?_ ?hm ?he ?hp); (case hm => rfl); (case he => rfl); (case hp => rfl))
  | (with_reducible refine' e_list ?_)
  | (with_reducible refine' e_tup ?_)
  | ((with_reducible refine' i_list ?N ?hm ?hi ?hx ?hj ?_ ?hs); (case N => walk_at "bj_a"); (case hm => walk_at "bj_a"); (case hi => with_reducible rfl); (case hx => exact map_get (by with_reducible assumption)); (case hj => omega); (case hs => with_unfolding_all rfl))
  | ((with_reducible refine' i_tup (j := 0) ?N ?hm ?hi ?hj ?hx ?_ ?hs); (case N => walk_at "bj_a"); (case hm => walk_at "bj_a"); (case hi => rfl); (case hj => decide); (case hx => rfl); (case hs => with_unfolding_all rfl))
  | ((with_reducible refine' i_tup (j := 1) ?N ?hm ?hi ?hj ?hx ?_ ?hs); (case N => walk_at "bj_a"); (case hm => walk_at "bj_a"); (case hi => rfl); (case hj => decide); (case hx => rfl); (case hs => with_unfolding_all rfl)))
local macro_rules | `(tactic| walk_at "bm") => `(tactic| first
  | walk_at "bk"
  | ((with_reducible refine' e_C ?G ?N ?hx ?hc ?hdb ?hv ?_); (case G => walk_at "bj_a"); (case N => walk_at "bj_a"); (case hx => rfl); (case hc => rfl); (case hdb => rfl); (case hv => walk_at "bj_a"))
  | ((with_reducible refine' o_fdiv ?_ ?_ ?_); (decide); (decide); intro u' t')
  | (with_reducible refine' e_slc ?_)
  | (with_reducible refine' p_none ?_)
  | (with_reducible refine' p_some ?_))
section
variable {prog : Program} {w : World} {A : Around} {nm : Str} {L fa : Addr} {cd : Value} {h₀ : Heap} {s₀ : Shared} {h : Heap} {t : Nat} {m : Str → Option Value} {N : Led} {r : Nat}

def PtsOk (P : Params) (N : Led) (f : Nat → Int × Int) (ps : List Addr) : Prop := ∀ a ∈ ps, ∃ p, HasP P N a p ∧ ∀ j, ps[j]? = some a → p.x = (f j).1 ∧ p.y = (f j).2

structure Hd (P : Params) (N : Led) (L lw lp ln : Addr) (kw kp kn : Nat) (rs ps : List Addr) (tp : Addr → Tp) (pp : Addr → Pt) (nv : List Value) (start : Int) (us : Tok) : Prop where
  hw : (lw, PySem.W.listOf (rs.map Value.ref).toArray kw) ∈ N
  hp : (lp, PySem.W.listOf (ps.map Value.ref).toArray kp) ∈ N
  hn : (ln, PySem.W.listOf nv.toArray kn) ∈ N
  rt : ∀ a ∈ rs, (a, tupD (tp a)) ∈ N
  pt : ∀ a ∈ ps, HasP P N a (pp a)
  c1 : Cell N (L + 1) (some (.int start us))
  c3 : Cell N (L + 3) (some (.ref lp))
theorem Cell.ks {P : Params} {M : Led} {c : Addr} {v : Option Value} (H : Cell N c v) (s : KS P N M) : Cell M c v := let ⟨o, h1, h2⟩ := H; ⟨o, s _ h1 (cell_it h2) (cell_nd h2), h2⟩
theorem Hd.ks {P : Params} {M : Led} {lw lp ln : Addr} {kw kp kn : Nat} {rs ps : List Addr} {tp : Addr → Tp} {pp : Addr → Pt} {nv : List Value} {start : Int} {us : Tok} (H : Hd P N L lw lp ln kw kp kn rs ps tp pp nv start us) (s : KS P N M) : Hd P M L lw lp ln kw kp kn rs ps tp pp nv start us :=
  ⟨s _ H.hw rfl ne_seq, s _ H.hp rfl ne_seq, s _ H.hn rfl ne_seq, fun a ha => s _ (H.rt a ha) tup_it tup_nd, fun a ha => ⟨s _ (H.pt a ha).1 rfl ne_ref, s _ (H.pt a ha).2 rfl ne_pt⟩, H.c1.ks s, H.c3.ks s⟩
theorem KS.of_sub {P : Params} {M : Led} (s : ∀ p ∈ N, p ∈ M) : KS P N M := fun p h _ _ => s p h
theorem KS.of_keep {P : Params} {M : Led} (s : Keep P N M) : KS P N M := fun p h _ n => s p h n
theorem KS.of_Sub {P : Params} {M : Led} (s : Sub N M) : KS P N M := fun p h i _ => s p h i
structure Hs (rs ps : List Addr) (tp : Addr → Tp) (pp : Addr → Pt) (f : Nat → Int × Int) (nv : List Value) (nf : Nat → Int) : Prop where
  len : rs.length = ps.length
  sz : ps.length ≤ 9
  fr : ∀ i a, rs[i]? = some a → (tp a).x = (f i).1 ∧ (tp a).y = (f i).2
  fp : ∀ i a, ps[i]? = some a → (pp a).x = (f i).1 ∧ (pp a).y = (f i).2
  fy : ∀ i, i < ps.length → 0 ≤ (f i).2 ∧ (f i).2 ≤ 3
  nums : Nums nv nf
  n1 : 19 ≤ nv.length
  n2 : nv.length ≤ 82

theorem ofs_ne {L i j : Nat} (h : i ≠ j) : L + i ≠ L + j := fun e => h (Nat.add_left_cancel e)

theorem law3 {Q : Flow → Shared → Prop} {ln lw : Addr} {rs : List Addr} {nv : List Value} {kn kw : Nat} {nf : Nat → Int} {many start : Int} {us : Tok} {ccw : Bool} (G : Gd w A (le nm L fa cd) h₀ (r + 2)) (F : Fr h₀ (le nm L fa cd).locals h m) (N' : News h₀ (le nm L fa cd).locals h N)
    (hlw : (lw, PySem.W.listOf (rs.map Value.ref).toArray kw) ∈ N) (hR : RowsOk N rs) (hrs : rs.length ≤ 9) (hln : (ln, PySem.W.listOf nv.toArray kn) ∈ N) (hN : Nums nv nf) (hn1 : 19 ≤ nv.length) (hn2 : nv.length ≤ 82)
    (m1 : m "rows" = some (.ref lw)) (m2 : m "numbers" = some (.ref ln)) (m3 : ∃ u, m "many" = some (.int many u)) (m4 : m "ccw" = some (.bool ccw)) (c1 : Cell N (L + 1) (some (.int start us))) (c3 : Cell N (L + 3) none) (c4 : Cell N (L + 4) none)
    (kk : ∀ h' t' m' M lp kp ps tp pp f, Fr h₀ (le nm L fa cd).locals h' m' → News h₀ (le nm L fa cd).locals h' M → Hd w.params M L lw lp ln kw kp kn rs ps tp pp nv start us → Hs rs ps tp pp f nv nf → Cell M (L + 4) none →
      m' "rows" = some (.ref lw) → m' "numbers" = some (.ref ln) → (∃ u, m' "many" = some (.int many u)) → m' "ccw" = some (.bool ccw) → (∃ u, m' "count" = some (.int (ps.length : Int) u)) → (∃ u, m' "twice" = some (.int (twice f ps.length ps.length) u)) →
      wpAny (model prog w) A (execs (bd139.drop 11) (le nm L fa cd)) Q NE (stt s₀ h' t')) :
    wpAny (model prog w) A (execs (bd139.drop 8) (le nm L fa cd)) Q NE (stt s₀ h t) := by
  obtain ⟨u3, m3⟩ := m3
  obtain ⟨tp, htp⟩ := skolem tp0 hR
  obtain ⟨f, hf⟩ : ∃ f : Nat → Int × Int, ∀ i a, rs[i]? = some a → (tp a).x = (f i).1 ∧ (tp a).y = (f i).2 := ⟨fun i => match rs[i]? with | some a => ((tp a).x, (tp a).y) | none => (0, 0), fun i a e => by dsimp only; rw [e]; exact ⟨rfl, rfl⟩⟩
  have hfy : ∀ i, i < rs.length → 0 ≤ (f i).2 ∧ (f i).2 ≤ 3 := fun i hi => by
    have e := List.getElem?_eq_getElem hi
    rw [← (hf i _ e).2]
    exact (htp _ (List.mem_of_getElem? e)).2
  unfold bd139 bdS139
  dsimp only [List.drop]
  walk_at "bm"
  refine e_comp (cl := []) ?hclos ?hkind ?hnames ?_ ?hs
  case hclos => rfl
  case hkind => rfl
  case hnames => decide
  case hs => intro _; rfl
  repeat walk_at "bm"
  refine c_list (k := kw) (vs := rs.map Value.ref) (fun i ys X => ∃ ps : List Addr, ys = ps.map Value.ref ∧ ps.length = i ∧ PtsOk w.params X f ps) G.hh (by decide) rfl rfl F N' hlw (by rw [List.length_map]; omega) ⟨[], rfl, rfl, fun a ha => absurd ha List.not_mem_nil⟩ ?_ (done_none ?_)
  · rintro C i v ys X m₁ M h₂ t₂ hv ⟨ps, rfl, hi, hP⟩ hM hmv F₂ N₂
    have hlt : i < rs.length := by have := (List.getElem?_eq_some_iff.mp hv).1; rwa [List.length_map] at this
    have ha : rs[i]? = some rs[i] := List.getElem?_eq_getElem hlt
    generalize rs[i] = a at ha
    rw [map_get ha] at hv
    obtain rfl := Option.some.inj hv
    obtain ⟨e1, e2⟩ := hf i a ha
    have hT := hM _ (List.mem_append_right _ (htp a (List.mem_of_getElem? ha)).1)
    unfold tupD at hT
    rw [e1, e2] at hT
    refine f_none ?_
    rw [if_pos rfl]
    refine with_comp G rfl F₂ N₂ fun Gc F₂ N₂ => ?_
    repeat walk_at "bm"
    refine mkPoint Gc F₂ N₂ fun h₃ t₃ b p F₃ N₃ l1 l2 ex ey => ⟨_, _, _, [(b, instObj 31 p.d), (p.d, ptD w.params p)], rfl, F₃, N₃, ?_, ps ++ [b], by rw [List.map_append]; rfl, by rw [List.length_append, hi]; rfl, ?_⟩
    · intro q hq z hz
      rcases List.mem_cons.mp hq with rfl | hq
      · exact Nat.lt_trans (l1 z hz) l2
      · rw [List.mem_singleton.mp hq]; exact l1 z hz
    · intro x hx
      rcases List.mem_append.mp hx with hx | hx
      · obtain ⟨p', H', e'⟩ := hP x hx
        refine ⟨p', H'.sub fun q hq => List.mem_append_right _ hq, fun j hj => e' j ?_⟩
        have hne : x ≠ b := Nat.ne_of_lt (Nat.lt_trans (l1 _ (hM _ (List.mem_append_left _ H'.1))) l2)
        rcases Nat.lt_or_ge j ps.length with h1 | h1
        · rwa [List.getElem?_append_left h1] at hj
        · rw [List.getElem?_append_right h1] at hj
          exact absurd (List.mem_singleton.mp (List.mem_of_getElem? hj)) hne
      · rw [List.mem_singleton.mp hx] at *
        refine ⟨p, ⟨.head _, .tail _ (.head _)⟩, fun j hj => ?_⟩
        have hji : j = i := by
          rcases Nat.lt_or_ge j ps.length with h1 | h1
          · rw [List.getElem?_append_left h1] at hj
            obtain ⟨p', H', _⟩ := hP b (List.mem_of_getElem? hj)
            exact absurd (Nat.lt_trans (l1 _ (hM _ (List.mem_append_left _ H'.1))) l2) (Nat.lt_irrefl _)
          · have := (List.getElem?_eq_some_iff.mp hj).1
            rw [List.length_append, List.length_singleton] at this
            omega
        subst hji
        exact ⟨ex, ey⟩
  · rintro lp ys X c h₁ t₁ ⟨ps, rfl, hi, hP⟩ hX hlt F₁ N₁
    rw [List.length_map] at hi
    have hN0 : ∀ p ∈ N, p ∈ (lp, PySem.W.listOf (ps.map Value.ref).toArray c) :: (X ++ N) := fun p hp => .tail _ (List.mem_append_right _ hp)
    obtain ⟨pp, hpp⟩ := skolem pt0 hP
    have hpt : ∀ a ∈ ps, HasP w.params ((lp, PySem.W.listOf (ps.map Value.ref).toArray c) :: (X ++ N)) a (pp a) := fun a ha => (hpp a ha).1.sub fun p hp => .tail _ (List.mem_append_left _ hp)
    have hlp : (lp, PySem.W.listOf (ps.map Value.ref).toArray c) ∈ (lp, PySem.W.listOf (ps.map Value.ref).toArray c) :: (X ++ N) := .head _
    have hlpc : lp ≠ L + 3 := fun e => by
      obtain ⟨o, ho, _⟩ := c3
      have h1 := hlt _ ho
      rw [e] at h1
      exact Nat.lt_irrefl _ h1
    generalize (lp, PySem.W.listOf (ps.map Value.ref).toArray c) :: (X ++ N) = M at hN0 hpt hlp N₁
    refine e_stC G F₁ N₁ rfl rfl (c3.more hN0) ?_
    intro h₂ N₂ F₂ N₂' c3' K₂
    have stay : ∀ p ∈ M, (∀ v, p.2.data ≠ .cell v) → p ∈ N₂ := fun p hp hd => by
      obtain ⟨o, ho, hdo⟩ := c3.more hN0
      refine K₂ p hp fun e => hd none ?_
      have : p.2 = o := by
        obtain ⟨a, b⟩ := p
        dsimp only at e ⊢
        subst e
        exact News.uniq N₁ hp ho
      rw [this]; exact hdo
    have H : Hd w.params N₂ L lw lp ln kw c kn rs ps tp pp nv start us :=
      ⟨stay _ (hN0 _ hlw) (fun v e => by cases e), stay _ hlp (fun v e => by cases e), stay _ (hN0 _ hln) (fun v e => by cases e), fun a ha => stay _ (hN0 _ (htp a ha).1) (fun v e => by cases e),
        fun a ha => ⟨stay _ (hpt a ha).1 (fun v e => by cases e), stay _ (hpt a ha).2 (fun v e => by cases e)⟩, ?_, c3'⟩
    have hs : Hs rs ps tp pp f nv nf := ⟨hi.symm, by omega, hf, fun i a e => (hpp a (List.mem_of_getElem? e)).2 i e, fun i h => hfy i (by omega), hN, hn1, hn2⟩
    have c4' : Cell N₂ (L + 4) none := let ⟨o, a, b⟩ := c4.more hN0; ⟨o, K₂ _ a (ofs_ne (L := L) (i := 4) (j := 3) (by decide)), b⟩
    have hw' := H.hw
    have e1 : ((rs.map Value.ref).length : Int) = (ps.length : Int) := by rw [List.length_map, hi]
    have hsz : (rs.map Value.ref).length < 2 ^ 62 := by rw [List.length_map]; omega
    clear F₁ N₁ F N'
    repeat walk_at "bm"
    refine twice_call (tp := tp) (f := f) G (by walk_at "bj_a") (by walk_at "bj_a") hw' H.rt (by omega) hf (fun i hi' => hfy i hi') ?_
    intro h₃ t₃ u₃ F₃ N₃
    rw [show twice f rs.length rs.length = twice f ps.length ps.length by rw [hi]]
    walk_at "bm"
    exact kk _ _ _ _ lp c ps tp pp f (by walk_at "bj_a") (by walk_at "bj_a") H hs c4' (by repeat walk_at "bj_m") (by repeat walk_at "bj_m") ⟨_, by repeat walk_at "bj_m"⟩ (by repeat walk_at "bj_m") ⟨_, (m_there (x := "twice") (z := "count") (by decide) m_here).trans (int_cong e1)⟩ ⟨_, by repeat walk_at "bj_m"⟩
    exact (let ⟨o, a, b⟩ := c1.more hN0; ⟨o, K₂ _ a (ofs_ne (L := L) (i := 1) (j := 3) (by decide)), b⟩)
end
end

section
local macro_rules | `(tactic| walk_at "bj_gn") => `(tactic| first | with_reducible exact gn_len _ | with_reducible exact gn_range _ | with_reducible exact gn_list _ | with_reducible exact gn_reversed _)
local macro_rules | `(tactic| walk_at "bj_bt") => `(tactic| first | with_reducible exact PySem.boot_len | with_reducible exact PyProof.Rows.boot_range | with_reducible exact PyProof.Rows.boot_list | with_reducible exact PyProof.Rows.boot_reversed)
local macro_rules | `(tactic| walk_at "bj_gl") => `(tactic| first | with_reducible exact gl_31 _ | with_reducible exact gl_59 _ | with_reducible exact gl_70 _ | with_reducible exact gl_77 _ | with_reducible exact gl_84 _ | with_reducible exact gl_91 _ | with_reducible exact gl_92 _ | with_reducible exact gl_99 _ | with_reducible exact gl_106 _ | with_reducible exact gl_113 _ | with_reducible exact gl_120 _ | with_reducible exact gl_127 _ | with_reducible exact gl_134 _)
local macro_rules | `(tactic| walk_at "bj_kp") => `(tactic| first | with_reducible exact kp_31 _ | with_reducible exact kp_59 _ | with_reducible exact kp_70 _ | with_reducible exact kp_77 _ | with_reducible exact kp_84 _ | with_reducible exact kp_91 _ | with_reducible exact kp_99 _ | with_reducible exact kp_106 _ | with_reducible exact kp_113 _ | with_reducible exact kp_120 _ | with_reducible exact kp_127 _ | with_reducible exact kp_134 _)
local macro_rules | `(tactic| walk_at "bj_m") => `(tactic| first | (with_reducible assumption) | (with_reducible exact m_here) | ((with_reducible refine m_there ?hmt ?_); (case hmt => decide); walk_at "bj_m") | rfl)
local macro_rules | `(tactic| walk_at "bj_a") => `(tactic| (with_reducible assumption))
local macro_rules | `(tactic| walk_at "bj") => `(tactic| first
  | (with_reducible refine s_nilR ?_)
  | ((with_reducible refine' s_assignAttr ?_ ?hs); (case hs => rfl))
  | ((with_reducible refine' s_assign ?_ ?hs); (case hs => rfl))
  | (with_reducible refine' s_if ?_)
  | (with_reducible refine' s_ret ?_)
  | (with_reducible refine' s_aug ?_)
  | ((with_reducible refine' e_L ?G ?F ?hx ?hv ?_ ?hdb); (case G => walk_at "bj_a"); (case F => walk_at "bj_a"); (case hx => rfl); (case hdb => rfl); (case hv => walk_at "bj_m"))
  | ((with_reducible refine' l_L ?G ?F ?hx ?hv ?_); (case G => walk_at "bj_a"); (case F => walk_at "bj_a"); (case hx => rfl); (case hv => walk_at "bj_m"))
  | ((with_reducible refine' e_st ?G ?F ?N ?hx ?_); (case G => walk_at "bj_a"); (case F => walk_at "bj_a"); (case N => walk_at "bj_a"); (case hx => rfl); intro h' t' F' N')
  | ((with_reducible refine' e_attr ?_ ?he); (case he => with_unfolding_all rfl))
  | ((with_reducible refine' t_cmp ?_ ?hm); (case hm => with_unfolding_all rfl))
  | ((with_reducible refine' e_cmp ?_ ?hm); (case hm => with_unfolding_all rfl))
  | (with_reducible refine' e_bin ?_)
  | (with_reducible refine' t_not ?_)
  | (with_reducible refine' t_and ?_)
  | (with_reducible refine' t_or ?_)
  | (with_reducible refine' t_andN ?_)
  | (with_reducible refine' t_orN ?_)
  | (with_reducible refine' e_ifx ?_)
  | (with_reducible refine' e_and ?_)
  | (with_reducible refine' e_and1 ?_)
  | (with_reducible refine' e_un ?_)
  | (with_reducible refine' tb_bool ?_)
  | (with_reducible refine' tb_none ?_)
  | ((with_reducible refine' o_add ?_); intro u' t')
  | ((with_reducible refine' o_iadd ?_); intro u' t')
  | ((with_reducible refine' o_isub ?_); intro u' t')
  | ((with_reducible refine' o_sub ?_); intro u' t')
  | ((with_reducible refine' o_mod ?_ ?_); (decide); intro u' t')
  | ((with_reducible refine' o_neg ?_); intro u' t')
  | (with_reducible refine' c_eq ?_)
  | (with_reducible refine' c_ne ?_)
  | (with_reducible refine' c_lt ?_)
  | (with_reducible refine' c_gt ?_)
  | (with_reducible refine' c_le ?_)
  | (with_reducible refine' c_ge ?_)
  | (with_reducible refine' c_isB ?_)
  | (with_reducible refine' c_isnB ?_)
  | (with_reducible refine' c_eqB ?_)
  | (with_reducible refine' c_neB ?_)
  | (with_reducible refine' c_isRN ?_)
  | (with_reducible refine' c_isNN ?_)
  | (with_reducible refine' c_isnRN ?_)
  | (with_reducible refine' c_isnNR ?_)
  | (with_reducible refine' c_isnNN ?_)
  | (with_reducible refine' c_isnRS ?_)
  | (with_reducible refine' c_isRS ?_)
  | (with_reducible refine' if_t ?_)
  | (with_reducible refine' if_f ?_)
  | (with_reducible refine' if_nt ?_)
  | (with_reducible refine' if_nf ?_)
  | ((with_reducible refine' e_callG ?G ?F ?hx ?hdb ?eg ?hk ?_ ?hc ?he ?hp); (case G => walk_at "bj_a"); (case F => walk_at "bj_a"); (case hx => rfl); (case hdb => rfl); (case eg => walk_at "bj_gl"); (case hk => walk_at "bj_kp"); (case hc => rfl); (case he => rfl); (case hp => rfl))
  | ((with_reducible refine' e_callB ?G ?F ?hx ?hdb ?eg ?hv ?hn ?_ ?hc ?he ?hp); (case G => walk_at "bj_a"); (case F => walk_at "bj_a"); (case hx => rfl); (case hdb => rfl); (case eg => walk_at "bj_gn"); (case hv => walk_at "bj_bt"); (case hn => decide); (case hc => rfl); (case he => rfl); (case hp => rfl))
  | ((with_reducible refine' e_callT ?G ?F ?hx ?hdb ?eg ?hv ?hn ?_ ?hc ?he ?hp); (case G => walk_at "bj_a"); (case F => walk_at "bj_a"); (case hx => rfl); (case hdb => rfl); (case eg => walk_at "bj_gn"); (case hv => walk_at "bj_bt"); (case hn => decide); (case hc => rfl); (case he => rfl); (case hp => rfl))
  | ((with_reducible refine' o_len ?N ?hm ?hf ?_); (case N => walk_at "bj_a"); (case hm => walk_at "bj_a"); (case hf => walk_at "bj_a"); intro u' t')
  | ((with_reducible refine' o_range ?F ?N ?_); (case F => walk_at "bj_a"); (case N => walk_at "bj_a"); intro rg' h' t' a' b' c' R' F' N')
  | (with_reducible refine' e_sub ?_)
  | ((with_reducible refine' s_for ?G ?hx ?_ ?hs); (case G => walk_at "bj_a"); (case hx => rfl); (case hs => intro _; rfl))
  | ((with_reducible refine' a_cons ?_ ?he); (case he => rfl))
  | (with_reducible refine' a_nil ?_)
  | ((with_reducible refine' a_in ?G ?F ?_); (case G => walk_at "bj_a"); (case F => walk_at "bj_a"))
  | ((with_reducible refine' t_plain ?_ ?he); (case he => rfl))
  | (with_reducible refine' e_none ?_)
  | (with_reducible refine' e_bool ?_)
  | ((with_reducible refine' e_int ?_); intro u' t'))
local macro_rules | `(tactic| walk_at "bj_g5") => `(tactic| ((case G => walk_at "bj_a"); (case F => walk_at "bj_a"); (case N => walk_at "bj_a"); (case T => walk_at "bj_a"); (case hS => walk_at "bj_a")))
local macro_rules | `(tactic| walk_at "bj_get") => `(tactic| first
  | ((with_reducible refine' tg_next ?G ?F ?N ?T ?hS ?_); (case G => walk_at "bj_a"); (case F => walk_at "bj_a"); (case N => walk_at "bj_a"); (case T => walk_at "bj_a"); (case hS => walk_at "bj_a"); intro t')
  | ((with_reducible refine' tg_prev ?G ?F ?N ?T ?hS ?_); (case G => walk_at "bj_a"); (case F => walk_at "bj_a"); (case N => walk_at "bj_a"); (case T => walk_at "bj_a"); (case hS => walk_at "bj_a"); intro t')
  | ((with_reducible refine' tg_pz ?G ?F ?N ?T ?hS ?_); (case G => walk_at "bj_a"); (case F => walk_at "bj_a"); (case N => walk_at "bj_a"); (case T => walk_at "bj_a"); (case hS => walk_at "bj_a"); intro t')
  | ((with_reducible refine' tg_nz ?G ?F ?N ?T ?hS ?_); (case G => walk_at "bj_a"); (case F => walk_at "bj_a"); (case N => walk_at "bj_a"); (case T => walk_at "bj_a"); (case hS => walk_at "bj_a"); intro t')
  | ((with_reducible refine' tg_i ?G ?F ?N ?T ?hS ?_); (case G => walk_at "bj_a"); (case F => walk_at "bj_a"); (case N => walk_at "bj_a"); (case T => walk_at "bj_a"); (case hS => walk_at "bj_a"); intro t')
  | ((with_reducible refine' tg_point ?G ?F ?N ?T ?hS ?_); (case G => walk_at "bj_a"); (case F => walk_at "bj_a"); (case N => walk_at "bj_a"); (case T => walk_at "bj_a"); (case hS => walk_at "bj_a"); intro t')
  | ((with_reducible refine' tg_x ?G ?F ?N ?T ?hS ?_); (case G => walk_at "bj_a"); (case F => walk_at "bj_a"); (case N => walk_at "bj_a"); (case T => walk_at "bj_a"); (case hS => walk_at "bj_a"); intro t')
  | ((with_reducible refine' tg_y ?G ?F ?N ?T ?hS ?_); (case G => walk_at "bj_a"); (case F => walk_at "bj_a"); (case N => walk_at "bj_a"); (case T => walk_at "bj_a"); (case hS => walk_at "bj_a"); intro t')
  | ((with_reducible refine' tg_z ?G ?F ?N ?T ?hS ?_); (case G => walk_at "bj_a"); (case F => walk_at "bj_a"); (case N => walk_at "bj_a"); (case T => walk_at "bj_a"); (case hS => walk_at "bj_a"); intro t')
  | ((with_reducible refine' tg_st ?G ?F ?N ?T ?hS ?_); (case G => walk_at "bj_a"); (case F => walk_at "bj_a"); (case N => walk_at "bj_a"); (case T => walk_at "bj_a"); (case hS => walk_at "bj_a"); intro t'))
local macro_rules | `(tactic| walk_at "bj_set") => `(tactic| (first
  | (with_reducible refine' ts_prev ?G ?F ?N ?T ?hS ?_)
  | (with_reducible refine' ts_next ?G ?F ?N ?T ?hS ?_)
  | (with_reducible refine' ts_pz ?G ?F ?N ?T ?hS ?_)
  | (with_reducible refine' ts_nz ?G ?F ?N ?T ?hS ?_)
  | (with_reducible refine' ts_prevR ?G ?F ?N ?T ?hS ?_)
  | (with_reducible refine' ts_nextR ?G ?F ?N ?T ?hS ?_)
  | (with_reducible refine' ts_pzR ?G ?F ?N ?T ?hS ?_)
  | (with_reducible refine' ts_nzR ?G ?F ?N ?T ?hS ?_)))
local macro_rules | `(tactic| walk_at "bj_il") => `(tactic| ((with_reducible refine' i_list ?N ?hm ?hi ?hx ?hj ?k ?hs); (case N => walk_at "bj_a"); (case hm => walk_at "bj_a"); (case hs => with_unfolding_all rfl)))
local macro_rules | `(tactic| walk_at "bj_it") => `(tactic| ((with_reducible refine' i_tup ?N ?hm ?hi ?hj ?hx ?k ?hs); (case N => walk_at "bj_a"); (case hm => walk_at "bj_a"); (case hs => with_unfolding_all rfl)))
local macro_rules | `(tactic| walk_at "bk") => `(tactic| first
  | walk_at "bj"
  | ((with_reducible refine' s_exprA ?_ ?hi ?hs); (case hi => rfl); (case hs => rfl))
  | ((with_reducible refine' e_meth ?_ ?hm ?he ?hp); (case hm => rfl); (case he => rfl); (case hp => rfl))
  | (with_reducible refine' e_list ?_)
  | (with_reducible refine' e_tup ?_)
  | ((with_reducible refine' i_list ?N ?hm ?hi ?hx ?hj ?_ ?hs); (case N => walk_at "bj_a"); (case hm => walk_at "bj_a"); (case hi => with_reducible rfl); (case hx => exact map_get (by with_reducible assumption)); (case hj => omega); (case hs => with_unfolding_all rfl))
  | ((with_reducible refine' i_tup (j := 0) ?N ?hm ?hi ?hj ?hx ?_ ?hs); (case N => walk_at "bj_a"); (case hm => walk_at "bj_a"); (case hi => rfl); (case hj => decide); (case hx => rfl); (case hs => with_unfolding_all rfl))
  | ((with_reducible refine' i_tup (j := 1) ?N ?hm ?hi ?hj ?hx ?_ ?hs); (case N => walk_at "bj_a"); (case hm => walk_at "bj_a"); (case hi => rfl); (case hj => decide); (case hx => rfl); (case hs => with_unfolding_all rfl)))
local macro_rules | `(tactic| walk_at "bm") => `(tactic| first
  | walk_at "bk"
  | ((with_reducible refine' e_C ?G ?N ?hx ?hc ?hdb ?hv ?_); (case G => walk_at "bj_a"); (case N => walk_at "bj_a"); (case hx => rfl); (case hc => rfl); (case hdb => rfl); (case hv => walk_at "bj_a"))
  | ((with_reducible refine' o_fdiv ?_ ?_ ?_); (decide); (decide); intro u' t')
  | (with_reducible refine' e_slc ?_)
  | (with_reducible refine' p_none ?_)
  | (with_reducible refine' p_some ?_))
section
variable {prog : Program} {w : World} {A : Around} {nm : Str} {L fa : Addr} {cd : Value} {h₀ : Heap} {s₀ : Shared} {h : Heap} {t : Nat} {m : Str → Option Value} {N : Led} {r : Nat}

def DueOk (N : Led) (ds : List Addr) (E : List (Nat × Int)) : Prop := ds.length = E.length ∧ ∀ (j : Nat) a, ds[j]? = some a → ∃ p : Tp, (a, tupD p) ∈ N ∧ ∀ e : Nat × Int, E[j]? = some e → p.x = (e.1 : Int) ∧ p.y = e.2
theorem DueOk.more {M : Led} {ds : List Addr} {E : List (Nat × Int)} (H : DueOk N ds E) (s : ∀ p ∈ N, isIter p.2 = false → (∀ P n, p.2 ≠ nodeD P n) → p ∈ M) : DueOk M ds E := ⟨H.1, fun j a e => let ⟨p, h1, h2⟩ := H.2 j a e; ⟨p, s _ h1 tup_it fun _ => tup_nd, h2⟩⟩
theorem DueOk.take {ds : List Addr} {E : List (Nat × Int)} (H : DueOk N ds E) (k : Nat) : DueOk N (ds.take k) (E.take k) := by
  refine ⟨by rw [List.length_take, List.length_take, H.1], fun j a e => ?_⟩
  rw [List.getElem?_take] at e
  split at e
  · rename_i hj
    obtain ⟨p, h1, h2⟩ := H.2 j a e
    refine ⟨p, h1, fun e' he => h2 e' ?_⟩
    rwa [List.getElem?_take, if_pos hj] at he
  · cases e
theorem DueOk.drop {ds : List Addr} {E : List (Nat × Int)} (H : DueOk N ds E) (k : Nat) : DueOk N (ds.drop k) (E.drop k) := by
  refine ⟨by rw [List.length_drop, List.length_drop, H.1], fun j a e => ?_⟩
  rw [List.getElem?_drop] at e
  obtain ⟨p, h1, h2⟩ := H.2 _ a e
  refine ⟨p, h1, fun e' he => h2 e' ?_⟩
  rwa [List.getElem?_drop] at he
theorem DueOk.append {ds ds' : List Addr} {E E' : List (Nat × Int)} (H : DueOk N ds E) (H' : DueOk N ds' E') : DueOk N (ds ++ ds') (E ++ E') := by
  refine ⟨by rw [List.length_append, List.length_append, H.1, H'.1], fun j a e => ?_⟩
  rcases Nat.lt_or_ge j ds.length with hj | hj
  · rw [List.getElem?_append_left hj] at e
    obtain ⟨p, h1, h2⟩ := H.2 _ a e
    refine ⟨p, h1, fun e' he => h2 e' ?_⟩
    rwa [List.getElem?_append_left (by rw [← H.1]; exact hj)] at he
  · rw [List.getElem?_append_right hj] at e
    obtain ⟨p, h1, h2⟩ := H'.2 _ a e
    refine ⟨p, h1, fun e' he => h2 e' ?_⟩
    rwa [List.getElem?_append_right (by rw [← H.1]; exact hj), ← H.1] at he
theorem DueOk.snoc {X X' : Led} {ds : List Addr} {E : List (Nat × Int)} {a : Addr} {p : Tp} {e : Nat × Int} (H : DueOk X ds E) (h1 : (a, tupD p) ∈ X') (e1 : p.x = (e.1 : Int)) (e2 : p.y = e.2) : DueOk (X' ++ X) (ds ++ [a]) (E ++ [e]) :=
  DueOk.append (H.more fun p hp _ _ => List.mem_append_right _ hp) ⟨rfl, fun j b hj => by
    cases j with
    | zero =>
      obtain rfl := Option.some.inj (show some a = some b from hj)
      exact ⟨p, List.mem_append_left _ h1, fun e' he => by obtain rfl := Option.some.inj (show some e = some e' from he); exact ⟨e1, e2⟩⟩
    | succ j => cases hj⟩
theorem tupD_inj {p q : Tp} (h : tupD p = tupD q) : p.x = q.x ∧ p.y = q.y := by
  have := congrArg Obj.data h
  injection this with h1
  have h2 := congrArg Array.toList h1
  simp at h2
  exact ⟨h2.1.1, h2.2.1⟩

theorem r_down {n : Nat} (hn : n ≤ 1000) : Builtin.Range.small ((n : Int) - 1) (-1) (-1) = true ∧ Builtin.Range.rangeSize ((n : Int) - 1) (-1) (-1) = (n : Int) := by
  constructor
  · exact small_down (by omega) (by omega) (by omega) (by omega)
  · rw [rangeSize_downNat]; omega

theorem o_range3 {a b c : Int} {ta tb tc : Tok} {env : Env} {Q : Value → Shared → Prop} (F : Fr h₀ env.locals h m) (N' : News h₀ env.locals h N) (hc : c ≠ 0) (hs : c.natAbs < 1073741824)
    (k : ∀ rg h' t' u₁ u₂ u₃, IsRange h' rg a b c u₁ u₂ u₃ → Fr h₀ env.locals h' m → News h₀ env.locals h' N → Q (.ref rg) (stt s₀ h' t')) :
    wpAny (model prog w) A (call (.type "range") [.int a ta, .int b tb, .int c tc] []) Q NE (stt s₀ h t) :=
  range3_rows (s := stt s₀ h t) F N' hc (fun h' tk a b c hr F₁ N₁ _ => k _ h' tk a b c hr F₁ N₁) (.inl (PyProof.noPylong_small hs))

theorem law4 {Q : Flow → Shared → Prop} {ln lw lp : Addr} {rs ps : List Addr} {nv : List Value} {kn kw kp : Nat} {nf : Nat → Int} {tp : Addr → Tp} {pp : Addr → Pt} {f : Nat → Int × Int} {many start : Int} {us : Tok} {ccw : Bool} (G : Gd w A (le nm L fa cd) h₀ (r + 2)) (F : Fr h₀ (le nm L fa cd).locals h m) (N' : News h₀ (le nm L fa cd).locals h N)
    (H : Hd w.params N L lw lp ln kw kp kn rs ps tp pp nv start us) (hs : Hs rs ps tp pp f nv nf) (c4 : Cell N (L + 4) none)
    (m1 : m "rows" = some (.ref lw)) (m2 : m "numbers" = some (.ref ln)) (m3 : ∃ u, m "many" = some (.int many u)) (m4 : m "ccw" = some (.bool ccw)) (m5 : ∃ u, m "count" = some (.int (ps.length : Int) u)) (m6 : ∃ u, m "twice" = some (.int (twice f ps.length ps.length) u))
    (kk : ∀ h' t' m' M ld kd ds, Fr h₀ (le nm L fa cd).locals h' m' → News h₀ (le nm L fa cd).locals h' M → Hd w.params M L lw lp ln kw kp kn rs ps tp pp nv start us → Cell M (L + 4) none →
      (ld, PySem.W.listOf (ds.map Value.ref).toArray kd) ∈ M → DueOk M ds (due0 (ccw == decide (0 < twice f ps.length ps.length)) start ps.length ps.length) →
      m' "rows" = some (.ref lw) → m' "numbers" = some (.ref ln) → (∃ u, m' "many" = some (.int many u)) → m' "ccw" = some (.bool ccw) → (∃ u, m' "count" = some (.int (ps.length : Int) u)) → (∃ u, m' "twice" = some (.int (twice f ps.length ps.length) u)) → m' "due" = some (.ref ld) →
      wpAny (model prog w) A (execs (bd139.drop 12) (le nm L fa cd)) Q NE (stt s₀ h' t')) :
    wpAny (model prog w) A (execs (bd139.drop 11) (le nm L fa cd)) Q NE (stt s₀ h t) := by
  obtain ⟨u3, m3⟩ := m3
  obtain ⟨u5, m5⟩ := m5
  obtain ⟨u6, m6⟩ := m6
  have hsz := hs.sz
  unfold bd139 bdS139
  dsimp only [List.drop]
  refine s_ifJ (fun σ => ∃ h' t' m' M ld kd ds, σ = stt s₀ h' t' ∧ Fr h₀ (le nm L fa cd).locals h' m' ∧ News h₀ (le nm L fa cd).locals h' M ∧ Hd w.params M L lw lp ln kw kp kn rs ps tp pp nv start us ∧ Cell M (L + 4) none ∧
      (ld, PySem.W.listOf (ds.map Value.ref).toArray kd) ∈ M ∧ DueOk M ds (due0 (ccw == decide (0 < twice f ps.length ps.length)) start ps.length ps.length) ∧
      m' "rows" = some (.ref lw) ∧ m' "numbers" = some (.ref ln) ∧ m' "many" = some (.int many u3) ∧ m' "ccw" = some (.bool ccw) ∧ m' "count" = some (.int (ps.length : Int) u5) ∧ m' "twice" = some (.int (twice f ps.length ps.length) u6) ∧ m' "due" = some (.ref ld)) ?_ ?_
  · repeat walk_at "bm"
    have fin : ∀ (d : Bool) ld X c h' t' ds, DueOk X ds (due0 d start ps.length ps.length) → (∀ p ∈ X, ld < p.1) → Fr h₀ (le nm L fa cd).locals h' (fun z => if z = "due" then some (.ref ld) else m z) → News h₀ (le nm L fa cd).locals h' ((ld, PySem.W.listOf (ds.map Value.ref).toArray c) :: (X ++ N)) →
      ∃ h'' t'' m' M ld kd ds, stt s₀ h' t' = stt s₀ h'' t'' ∧ Fr h₀ (le nm L fa cd).locals h'' m' ∧ News h₀ (le nm L fa cd).locals h'' M ∧ Hd w.params M L lw lp ln kw kp kn rs ps tp pp nv start us ∧ Cell M (L + 4) none ∧
      (ld, PySem.W.listOf (ds.map Value.ref).toArray kd) ∈ M ∧ DueOk M ds (due0 d start ps.length ps.length) ∧
      m' "rows" = some (.ref lw) ∧ m' "numbers" = some (.ref ln) ∧ m' "many" = some (.int many u3) ∧ m' "ccw" = some (.bool ccw) ∧ m' "count" = some (.int (ps.length : Int) u5) ∧ m' "twice" = some (.int (twice f ps.length ps.length) u6) ∧ m' "due" = some (.ref ld) := by
      intro d ld X c h' t' ds hD hX F₁ N₁
      have hN0 : ∀ p ∈ N, p ∈ (ld, PySem.W.listOf (ds.map Value.ref).toArray c) :: (X ++ N) := fun p hp => .tail _ (List.mem_append_right _ hp)
      exact ⟨_, _, _, _, ld, c, ds, rfl, F₁, N₁, H.ks (KS.of_sub hN0), c4.more hN0, .head _, hD.more fun p hp _ _ => .tail _ (List.mem_append_left _ hp), by repeat walk_at "bj_m", by repeat walk_at "bj_m", by repeat walk_at "bj_m", by repeat walk_at "bj_m", by repeat walk_at "bj_m", by repeat walk_at "bj_m", by repeat walk_at "bj_m"⟩
    generalize hd : (ccw == decide (0 < twice f ps.length ps.length)) = d
    cases d with
    | true =>
      refine if_t ?_
      refine s_comp (cl := [(("start" : Str), L + 1)]) ?hsw ?hclos ?hkind ?hnames ?_ ?hs
      case hsw => rfl
      case hclos => rfl
      case hkind => rfl
      case hnames => decide
      case hs => intro _; rfl
      repeat walk_at "bm"
      refine c_range (n := ps.length) (a := 0) (b := (ps.length : Int)) (st := 1) (fun i ys X => ∃ ds : List Addr, ys = ds.map Value.ref ∧ DueOk X ds (due0 true start ps.length i)) G.hh (by decide) rfl rfl (by walk_at "bj_a") (by walk_at "bj_a") (by walk_at "bj_a")
        (small_one (by omega) (by omega) (by omega) (by omega)) (by rw [rangeSize_one]; split <;> omega) (by omega) ⟨[], rfl, rfl, fun j a e => by cases e⟩ ?_ (done_use G rfl ?_)
      · rintro C i u ys X m₁ M h₂ t₂ hi ⟨ds, rfl, hD⟩ hM hmv F₂ N₂
        rw [show (0 : Int) + (i : Int) * 1 = (i : Int) by omega] at hmv
        have c1' := H.c1.more (M := M) fun p hp => hM p (List.mem_append_right _ hp)
        refine f_none ?_
        rw [if_pos rfl]
        refine with_comp G rfl F₂ N₂ fun Gc F₂ N₂ => ?_
        repeat walk_at "bm"
        refine n_tup (by walk_at "bj_a") (by walk_at "bj_a") (by simp) ?_
        intro l h₃ F₃ N₃ hlt3
        refine ⟨_, _, _, [(l, _)], rfl, F₃, N₃, fun p hp q hq => by rw [List.mem_singleton.mp hp]; exact hlt3 q hq, ds ++ [l], by rw [List.map_append]; rfl, ?_⟩
        rw [due0_succ]
        exact DueOk.snoc (p := ⟨_, _, _, _⟩) hD (List.mem_singleton.mpr rfl) rfl rfl
      · rintro ld ys X c h' t' ⟨ds, rfl, hD⟩ hX hlt F₁ N₁
        exact s_nilN (fin true ld X c h' t' ds hD hX F₁ N₁)
    | false =>
      refine if_f ?_
      refine s_comp (cl := [(("start" : Str), L + 1)]) ?hsw ?hclos ?hkind ?hnames ?_ ?hs
      case hsw => rfl
      case hclos => rfl
      case hkind => rfl
      case hnames => decide
      case hs => intro _; rfl
      repeat walk_at "bm"
      refine o_range3 (by walk_at "bj_a") (by walk_at "bj_a") (by decide) (by decide) ?_
      intro rg h₁ t₁ u₁ u₂ u₃ hr F₁ N₁
      refine c_range (n := ps.length) (a := (ps.length : Int) - 1) (b := -1) (st := -1) (fun i ys X => ∃ ds : List Addr, ys = ds.map Value.ref ∧ DueOk X ds (due0 false start ps.length i)) G.hh (by decide) rfl rfl (by walk_at "bj_a") (by walk_at "bj_a") hr
        (r_down (by omega)).1 (r_down (by omega)).2 (by omega) ⟨[], rfl, rfl, fun j a e => by cases e⟩ ?_ (done_use G rfl ?_)
      · clear F₁ N₁ hr
        rintro C i u ys X m₁ M h₂ t₂ hi ⟨ds, rfl, hD⟩ hM hmv F₂ N₂
        have c1' := H.c1.more (M := M) fun p hp => hM p (List.mem_append_right _ hp)
        refine f_none ?_
        rw [if_pos rfl]
        refine with_comp G rfl F₂ N₂ fun Gc F₂ N₂ => ?_
        repeat walk_at "bm"
        refine n_tup (by walk_at "bj_a") (by walk_at "bj_a") (by simp) ?_
        intro l h₃ F₃ N₃ hlt3
        refine ⟨_, _, _, [(l, _)], rfl, F₃, N₃, fun p hp q hq => by rw [List.mem_singleton.mp hp]; exact hlt3 q hq, ds ++ [l], by rw [List.map_append]; rfl, ?_⟩
        rw [due0_succ]
        refine DueOk.snoc (p := ⟨_, _, _, _⟩) hD (List.mem_singleton.mpr rfl) ?_ ?_
        · show (ps.length : Int) - 1 + (i : Int) * -1 = ((ps.length - 1 - i : Nat) : Int)
          omega
        · show start + ((ps.length : Int) - 1 + (i : Int) * -1) + 1 = start + (ps.length : Int) - (i : Int)
          omega
      · rintro ld ys X c h' t' ⟨ds, rfl, hD⟩ hX hlt F₁ N₁
        exact s_nilN (fin false ld X c h' t' ds hD hX F₁ N₁)
  · rintro σ ⟨h', t', m', M, ld, kd, ds, rfl, F₁, N₁, H₁, b1, b2, b3, b4, b5, b6, b7, b8, b9, b10⟩
    exact kk _ _ m' M ld kd ds F₁ N₁ H₁ b1 b2 b3 b4 b5 ⟨_, b6⟩ b7 ⟨_, b8⟩ ⟨_, b9⟩ b10
end
end

section
local macro_rules | `(tactic| walk_at "bj_gn") => `(tactic| first | with_reducible exact gn_len _ | with_reducible exact gn_range _ | with_reducible exact gn_list _ | with_reducible exact gn_reversed _)
local macro_rules | `(tactic| walk_at "bj_bt") => `(tactic| first | with_reducible exact PySem.boot_len | with_reducible exact PyProof.Rows.boot_range | with_reducible exact PyProof.Rows.boot_list | with_reducible exact PyProof.Rows.boot_reversed)
local macro_rules | `(tactic| walk_at "bj_gl") => `(tactic| first | with_reducible exact gl_31 _ | with_reducible exact gl_59 _ | with_reducible exact gl_70 _ | with_reducible exact gl_77 _ | with_reducible exact gl_84 _ | with_reducible exact gl_91 _ | with_reducible exact gl_92 _ | with_reducible exact gl_99 _ | with_reducible exact gl_106 _ | with_reducible exact gl_113 _ | with_reducible exact gl_120 _ | with_reducible exact gl_127 _ | with_reducible exact gl_134 _)
local macro_rules | `(tactic| walk_at "bj_kp") => `(tactic| first | with_reducible exact kp_31 _ | with_reducible exact kp_59 _ | with_reducible exact kp_70 _ | with_reducible exact kp_77 _ | with_reducible exact kp_84 _ | with_reducible exact kp_91 _ | with_reducible exact kp_99 _ | with_reducible exact kp_106 _ | with_reducible exact kp_113 _ | with_reducible exact kp_120 _ | with_reducible exact kp_127 _ | with_reducible exact kp_134 _)
local macro_rules | `(tactic| walk_at "bj_m") => `(tactic| first | (with_reducible assumption) | (with_reducible exact m_here) | ((with_reducible refine m_there ?hmt ?_); (case hmt => decide); walk_at "bj_m") | rfl)
local macro_rules | `(tactic| walk_at "bj_a") => `(tactic| (with_reducible assumption))
local macro_rules | `(tactic| walk_at "bj") => `(tactic| first
  | (with_reducible refine s_nilR ?_)
  | ((with_reducible refine' s_assignAttr ?_ ?hs); (case hs => rfl))
  | ((with_reducible refine' s_assign ?_ ?hs); (case hs => rfl))
  | (with_reducible refine' s_if ?_)
  | (with_reducible refine' s_ret ?_)
  | (with_reducible refine' s_aug ?_)
  | ((with_reducible refine' e_L ?G ?F ?hx ?hv ?_ ?hdb); (case G => walk_at "bj_a"); (case F => walk_at "bj_a"); (case hx => rfl); (case hdb => rfl); (case hv => walk_at "bj_m"))
  | ((with_reducible refine' l_L ?G ?F ?hx ?hv ?_); (case G => walk_at "bj_a"); (case F => walk_at "bj_a"); (case hx => rfl); (case hv => walk_at "bj_m"))
  | ((with_reducible refine' e_st ?G ?F ?N ?hx ?_); (case G => walk_at "bj_a"); (case F => walk_at "bj_a"); (case N => walk_at "bj_a"); (case hx => rfl); intro h' t' F' N')
  | ((with_reducible refine' e_attr ?_ ?he); (case he => with_unfolding_all rfl))
  | ((with_reducible refine' t_cmp ?_ ?hm); (case hm => with_unfolding_all rfl))
  | ((with_reducible refine' e_cmp ?_ ?hm); (case hm => with_unfolding_all rfl))
  | (with_reducible refine' e_bin ?_)
  | (with_reducible refine' t_not ?_)
  | (with_reducible refine' t_and ?_)
  | (with_reducible refine' t_or ?_)
  | (with_reducible refine' t_andN ?_)
  | (with_reducible refine' t_orN ?_)
  | (with_reducible refine' e_ifx ?_)
  | (with_reducible refine' e_and ?_)
  | (with_reducible refine' e_and1 ?_)
  | (with_reducible refine' e_un ?_)
  | (with_reducible refine' tb_bool ?_)
  | (with_reducible refine' tb_none ?_)
  | ((with_reducible refine' o_add ?_); intro u' t')
  | ((with_reducible refine' o_iadd ?_); intro u' t')
  | ((with_reducible refine' o_isub ?_); intro u' t')
  | ((with_reducible refine' o_sub ?_); intro u' t')
  | ((with_reducible refine' o_mod ?_ ?_); (decide); intro u' t')
  | ((with_reducible refine' o_neg ?_); intro u' t')
  | (with_reducible refine' c_eq ?_)
  | (with_reducible refine' c_ne ?_)
  | (with_reducible refine' c_lt ?_)
  | (with_reducible refine' c_gt ?_)
  | (with_reducible refine' c_le ?_)
  | (with_reducible refine' c_ge ?_)
  | (with_reducible refine' c_isB ?_)
  | (with_reducible refine' c_isnB ?_)
  | (with_reducible refine' c_eqB ?_)
  | (with_reducible refine' c_neB ?_)
  | (with_reducible refine' c_isRN ?_)
  | (with_reducible refine' c_isNN ?_)
  | (with_reducible refine' c_isnRN ?_)
  | (with_reducible refine' c_isnNR ?_)
  | (with_reducible refine' c_isnNN ?_)
  | (with_reducible refine' c_isnRS ?_)
  | (with_reducible refine' c_isRS ?_)
  | (with_reducible refine' if_t ?_)
  | (with_reducible refine' if_f ?_)
  | (with_reducible refine' if_nt ?_)
  | (with_reducible refine' if_nf ?_)
  | ((with_reducible refine' e_callG ?G ?F ?hx ?hdb ?eg ?hk ?_ ?hc ?he ?hp); (case G => walk_at "bj_a"); (case F => walk_at "bj_a"); (case hx => rfl); (case hdb => rfl); (case eg => walk_at "bj_gl"); (case hk => walk_at "bj_kp"); (case hc => rfl); (case he => rfl); (case hp => rfl))
  | ((with_reducible refine' e_callB ?G ?F ?hx ?hdb ?eg ?hv ?hn ?_ ?hc ?he ?hp); (case G => walk_at "bj_a"); (case F => walk_at "bj_a"); (case hx => rfl); (case hdb => rfl); (case eg => walk_at "bj_gn"); (case hv => walk_at "bj_bt"); (case hn => decide); (case hc => rfl); (case he => rfl); (case hp => rfl))
  | ((with_reducible refine' e_callT ?G ?F ?hx ?hdb ?eg ?hv ?hn ?_ ?hc ?he ?hp); (case G => walk_at "bj_a"); (case F => walk_at "bj_a"); (case hx => rfl); (case hdb => rfl); (case eg => walk_at "bj_gn"); (case hv => walk_at "bj_bt"); (case hn => decide); (case hc => rfl); (case he => rfl); (case hp => rfl))
  | ((with_reducible refine' o_len ?N ?hm ?hf ?_); (case N => walk_at "bj_a"); (case hm => walk_at "bj_a"); (case hf => walk_at "bj_a"); intro u' t')
  | ((with_reducible refine' o_range ?F ?N ?_); (case F => walk_at "bj_a"); (case N => walk_at "bj_a"); intro rg' h' t' a' b' c' R' F' N')
  | (with_reducible refine' e_sub ?_)
  | ((with_reducible refine' s_for ?G ?hx ?_ ?hs); (case G => walk_at "bj_a"); (case hx => rfl); (case hs => intro _; rfl))
  | ((with_reducible refine' a_cons ?_ ?he); (case he => rfl))
  | (with_reducible refine' a_nil ?_)
  | ((with_reducible refine' a_in ?G ?F ?_); (case G => walk_at "bj_a"); (case F => walk_at "bj_a"))
  | ((with_reducible refine' t_plain ?_ ?he); (case he => rfl))
  | (with_reducible refine' e_none ?_)
  | (with_reducible refine' e_bool ?_)
  | ((with_reducible refine' e_int ?_); intro u' t'))
local macro_rules | `(tactic| walk_at "bj_g5") => `(tactic| ((case G => walk_at "bj_a"); (case F => walk_at "bj_a"); (case N => walk_at "bj_a"); (case T => walk_at "bj_a"); (case hS => walk_at "bj_a")))
local macro_rules | `(tactic| walk_at "bj_get") => `(tactic| first
  | ((with_reducible refine' tg_next ?G ?F ?N ?T ?hS ?_); (case G => walk_at "bj_a"); (case F => walk_at "bj_a"); (case N => walk_at "bj_a"); (case T => walk_at "bj_a"); (case hS => walk_at "bj_a"); intro t')
  | ((with_reducible refine' tg_prev ?G ?F ?N ?T ?hS ?_); (case G => walk_at "bj_a"); (case F => walk_at "bj_a"); (case N => walk_at "bj_a"); (case T => walk_at "bj_a"); (case hS => walk_at "bj_a"); intro t')
  | ((with_reducible refine' tg_pz ?G ?F ?N ?T ?hS ?_); (case G => walk_at "bj_a"); (case F => walk_at "bj_a"); (case N => walk_at "bj_a"); (case T => walk_at "bj_a"); (case hS => walk_at "bj_a"); intro t')
  | ((with_reducible refine' tg_nz ?G ?F ?N ?T ?hS ?_); (case G => walk_at "bj_a"); (case F => walk_at "bj_a"); (case N => walk_at "bj_a"); (case T => walk_at "bj_a"); (case hS => walk_at "bj_a"); intro t')
  | ((with_reducible refine' tg_i ?G ?F ?N ?T ?hS ?_); (case G => walk_at "bj_a"); (case F => walk_at "bj_a"); (case N => walk_at "bj_a"); (case T => walk_at "bj_a"); (case hS => walk_at "bj_a"); intro t')
  | ((with_reducible refine' tg_point ?G ?F ?N ?T ?hS ?_); (case G => walk_at "bj_a"); (case F => walk_at "bj_a"); (case N => walk_at "bj_a"); (case T => walk_at "bj_a"); (case hS => walk_at "bj_a"); intro t')
  | ((with_reducible refine' tg_x ?G ?F ?N ?T ?hS ?_); (case G => walk_at "bj_a"); (case F => walk_at "bj_a"); (case N => walk_at "bj_a"); (case T => walk_at "bj_a"); (case hS => walk_at "bj_a"); intro t')
  | ((with_reducible refine' tg_y ?G ?F ?N ?T ?hS ?_); (case G => walk_at "bj_a"); (case F => walk_at "bj_a"); (case N => walk_at "bj_a"); (case T => walk_at "bj_a"); (case hS => walk_at "bj_a"); intro t')
  | ((with_reducible refine' tg_z ?G ?F ?N ?T ?hS ?_); (case G => walk_at "bj_a"); (case F => walk_at "bj_a"); (case N => walk_at "bj_a"); (case T => walk_at "bj_a"); (case hS => walk_at "bj_a"); intro t')
  | ((with_reducible refine' tg_st ?G ?F ?N ?T ?hS ?_); (case G => walk_at "bj_a"); (case F => walk_at "bj_a"); (case N => walk_at "bj_a"); (case T => walk_at "bj_a"); (case hS => walk_at "bj_a"); intro t'))
local macro_rules | `(tactic| walk_at "bj_set") => `(tactic| (first
  | (with_reducible refine' ts_prev ?G ?F ?N ?T ?hS ?_)
  | (with_reducible refine' ts_next ?G ?F ?N ?T ?hS ?_)
  | (with_reducible refine' ts_pz ?G ?F ?N ?T ?hS ?_)
  | (with_reducible refine' ts_nz ?G ?F ?N ?T ?hS ?_)
  | (with_reducible refine' ts_prevR ?G ?F ?N ?T ?hS ?_)
  | (with_reducible refine' ts_nextR ?G ?F ?N ?T ?hS ?_)
  | (with_reducible refine' ts_pzR ?G ?F ?N ?T ?hS ?_)
  | (with_reducible refine' ts_nzR ?G ?F ?N ?T ?hS ?_)))
local macro_rules | `(tactic| walk_at "bj_il") => `(tactic| ((with_reducible refine' i_list ?N ?hm ?hi ?hx ?hj ?k ?hs); (case N => walk_at "bj_a"); (case hm => walk_at "bj_a"); (case hs => with_unfolding_all rfl)))
local macro_rules | `(tactic| walk_at "bj_it") => `(tactic| ((with_reducible refine' i_tup ?N ?hm ?hi ?hj ?hx ?k ?hs); (case N => walk_at "bj_a"); (case hm => walk_at "bj_a"); (case hs => with_unfolding_all rfl)))
local macro_rules | `(tactic| walk_at "bk") => `(tactic| first
  | walk_at "bj"
  | ((with_reducible refine' s_exprA ?_ ?hi ?hs); (case hi => rfl); (case hs => rfl))
  | ((with_reducible refine' e_meth ?_ ?hm ?he ?hp); (case hm => rfl); (case he => rfl); (case hp => rfl))
  | (with_reducible refine' e_list ?_)
  | (with_reducible refine' e_tup ?_)
  | ((with_reducible refine' i_list ?N ?hm ?hi ?hx ?hj ?_ ?hs); (case N => walk_at "bj_a"); (case hm => walk_at "bj_a"); (case hi => with_reducible rfl); (case hx => exact map_get (by with_reducible assumption)); (case hj => omega); (case hs => with_unfolding_all rfl))
  | ((with_reducible refine' i_tup (j := 0) ?N ?hm ?hi ?hj ?hx ?_ ?hs); (case N => walk_at "bj_a"); (case hm => walk_at "bj_a"); (case hi => rfl); (case hj => decide); (case hx => rfl); (case hs => with_unfolding_all rfl))
  | ((with_reducible refine' i_tup (j := 1) ?N ?hm ?hi ?hj ?hx ?_ ?hs); (case N => walk_at "bj_a"); (case hm => walk_at "bj_a"); (case hi => rfl); (case hj => decide); (case hx => rfl); (case hs => with_unfolding_all rfl)))
local macro_rules | `(tactic| walk_at "bm") => `(tactic| first
  | walk_at "bk"
  | ((with_reducible refine' e_C ?G ?N ?hx ?hc ?hdb ?hv ?_); (case G => walk_at "bj_a"); (case N => walk_at "bj_a"); (case hx => rfl); (case hc => rfl); (case hdb => rfl); (case hv => walk_at "bj_a"))
  | ((with_reducible refine' o_fdiv ?_ ?_ ?_); (decide); (decide); intro u' t')
  | (with_reducible refine' e_slc ?_)
  | (with_reducible refine' p_none ?_)
  | (with_reducible refine' p_some ?_))
section
variable {prog : Program} {w : World} {A : Around} {nm : Str} {L fa : Addr} {cd : Value} {h₀ : Heap} {s₀ : Shared} {h : Heap} {t : Nat} {m : Str → Option Value} {N : Led} {r : Nat}

theorem f_eq {f : Nat → Int × Int} {i j : Nat} : ((f i).1 == (f j).1 && (f i).2 == (f j).2) = decide (f i = f j) := by
  rw [Bool.eq_iff_iff, Bool.and_eq_true, beq_iff_eq, beq_iff_eq, decide_eq_true_eq]
  exact Prod.ext_iff.symm

theorem law5 {Q : Flow → Shared → Prop} {ln lw lp ld : Addr} {rs ps ds : List Addr} {nv : List Value} {kn kw kp kd : Nat} {nf : Nat → Int} {tp : Addr → Tp} {pp : Addr → Pt} {f : Nat → Int × Int} {many start tw : Int} {us : Tok} {ccw d : Bool} (G : Gd w A (le nm L fa cd) h₀ (r + 2)) (F : Fr h₀ (le nm L fa cd).locals h m) (N' : News h₀ (le nm L fa cd).locals h N)
    (H : Hd w.params N L lw lp ln kw kp kn rs ps tp pp nv start us) (hs : Hs rs ps tp pp f nv nf) (c4 : Cell N (L + 4) none) (hld : (ld, PySem.W.listOf (ds.map Value.ref).toArray kd) ∈ N) (hD : DueOk N ds (due0 d start ps.length ps.length))
    (m1 : m "rows" = some (.ref lw)) (m2 : m "numbers" = some (.ref ln)) (m3 : ∃ u, m "many" = some (.int many u)) (m4 : m "ccw" = some (.bool ccw)) (m5 : ∃ u, m "count" = some (.int (ps.length : Int) u)) (m6 : ∃ u, m "twice" = some (.int tw u)) (m7 : m "due" = some (.ref ld))
    (kk : ∀ h' t' m' M ld kd ds, Fr h₀ (le nm L fa cd).locals h' m' → News h₀ (le nm L fa cd).locals h' M → Hd w.params M L lw lp ln kw kp kn rs ps tp pp nv start us → Cell M (L + 4) none →
      (ld, PySem.W.listOf (ds.map Value.ref).toArray kd) ∈ M → DueOk M ds (dueF f d start ps.length) →
      m' "rows" = some (.ref lw) → m' "numbers" = some (.ref ln) → (∃ u, m' "many" = some (.int many u)) → m' "ccw" = some (.bool ccw) → (∃ u, m' "count" = some (.int (ps.length : Int) u)) → (∃ u, m' "twice" = some (.int tw u)) → m' "due" = some (.ref ld) →
      wpAny (model prog w) A (execs (bd139.drop 13) (le nm L fa cd)) Q NE (stt s₀ h' t')) :
    wpAny (model prog w) A (execs (bd139.drop 12) (le nm L fa cd)) Q NE (stt s₀ h t) := by
  obtain ⟨u3, m3⟩ := m3
  obtain ⟨u5, m5⟩ := m5
  obtain ⟨u6, m6⟩ := m6
  have hsz := hs.sz
  have hdl : ds.length = ps.length := by rw [hD.1, due0_length]
  unfold bd139 bdS139
  dsimp only [List.drop]
  refine s_ifJ (fun σ => ∃ h' t' m' M ld kd ds, σ = stt s₀ h' t' ∧ Fr h₀ (le nm L fa cd).locals h' m' ∧ News h₀ (le nm L fa cd).locals h' M ∧ Hd w.params M L lw lp ln kw kp kn rs ps tp pp nv start us ∧ Cell M (L + 4) none ∧
      (ld, PySem.W.listOf (ds.map Value.ref).toArray kd) ∈ M ∧ DueOk M ds (dueF f d start ps.length) ∧
      m' "rows" = some (.ref lw) ∧ m' "numbers" = some (.ref ln) ∧ m' "many" = some (.int many u3) ∧ m' "ccw" = some (.bool ccw) ∧ m' "count" = some (.int (ps.length : Int) u5) ∧ m' "twice" = some (.int tw u6) ∧ m' "due" = some (.ref ld)) ?_ ?_
  · have fin : ∀ ld c h' t' ds m' M, (ld, PySem.W.listOf (ds.map Value.ref).toArray c) ∈ M → DueOk M ds (dueF f d start ps.length) → Fr h₀ (le nm L fa cd).locals h' m' → News h₀ (le nm L fa cd).locals h' M → (∀ p ∈ N, p ∈ M) → (∀ z, z ≠ ("due" : Str) → m' z = m z) → m' "due" = some (.ref ld) →
      ∃ h'' t'' m' M ld kd ds, stt s₀ h' t' = stt s₀ h'' t'' ∧ Fr h₀ (le nm L fa cd).locals h'' m' ∧ News h₀ (le nm L fa cd).locals h'' M ∧ Hd w.params M L lw lp ln kw kp kn rs ps tp pp nv start us ∧ Cell M (L + 4) none ∧
      (ld, PySem.W.listOf (ds.map Value.ref).toArray kd) ∈ M ∧ DueOk M ds (dueF f d start ps.length) ∧
      m' "rows" = some (.ref lw) ∧ m' "numbers" = some (.ref ln) ∧ m' "many" = some (.int many u3) ∧ m' "ccw" = some (.bool ccw) ∧ m' "count" = some (.int (ps.length : Int) u5) ∧ m' "twice" = some (.int tw u6) ∧ m' "due" = some (.ref ld) := by
      intro ld c h' t' ds m' M hm hD F₁ N₁ hN0 e1 e2
      exact ⟨_, _, m', M, ld, c, ds, rfl, F₁, N₁, H.ks (KS.of_sub hN0), c4.more hN0, hm, hD, (e1 _ (by decide)).trans m1, (e1 _ (by decide)).trans m2, (e1 _ (by decide)).trans m3, (e1 _ (by decide)).trans m4, (e1 _ (by decide)).trans m5, (e1 _ (by decide)).trans m6, e2⟩
    repeat walk_at "bm"
    refine ite_dec (fun hn => ?_) (fun hn => ?_)
    · have hn' : 1 < ps.length := by omega
      obtain ⟨a, ha⟩ : ∃ a, ds[ps.length - 1]? = some a := ⟨_, List.getElem?_eq_getElem (by omega)⟩
      obtain ⟨b, hb⟩ : ∃ a, ds[0]? = some a := ⟨_, List.getElem?_eq_getElem (by omega)⟩
      have hE : ∀ j, j < ps.length → (due0 d start ps.length ps.length)[j]? = some (idxD d ps.length j, numD d start ps.length j) := fun j hj => by
        unfold due0; rw [List.getElem?_map, List.getElem?_range hj]; rfl
      obtain ⟨pa, hpa, ea⟩ := hD.2 _ a ha
      obtain ⟨pb, hpb, eb⟩ := hD.2 _ b hb
      replace ea := (ea _ (hE _ (by omega))).1
      replace eb := (eb _ (hE _ (by omega))).1
      dsimp only at ea eb
      have hix : ∀ j, j < ps.length → idxD d ps.length j < ps.length := fun j hj => by unfold idxD; split <;> omega
      obtain ⟨ra, hra⟩ : ∃ x, rs[idxD d ps.length (ps.length - 1)]? = some x := ⟨_, List.getElem?_eq_getElem (by have := hs.len; have := hix (ps.length - 1) (by omega); omega)⟩
      obtain ⟨rb, hrb⟩ : ∃ x, rs[idxD d ps.length 0]? = some x := ⟨_, List.getElem?_eq_getElem (by have := hs.len; have := hix 0 (by omega); omega)⟩
      have hta := H.rt ra (List.mem_of_getElem? hra)
      have htb := H.rt rb (List.mem_of_getElem? hrb)
      have hi1 := hix (ps.length - 1) (by omega)
      have hi2 := hix 0 (by omega)
      have hc : ((tp ra).x == (tp rb).x && (tp ra).y == (tp rb).y) = decide (f (idxD d ps.length (ps.length - 1)) = f (idxD d ps.length 0)) := by
        rw [(hs.fr _ _ hra).1, (hs.fr _ _ hra).2, (hs.fr _ _ hrb).1, (hs.fr _ _ hrb).2]
        exact f_eq
      have hlw := H.hw
      unfold tupD at hpa hpb
      rw [ea] at hpa
      rw [eb] at hpb
      repeat walk_at "bm"
      refine i_listN (by walk_at "bj_a") hld (by decide) (by rw [List.length_map]; omega) (by rw [List.length_map, hdl, show ((-1 : Int) + (ps.length : Int)).toNat = ps.length - 1 by omega]; exact map_get ha) (by rw [List.length_map]; omega) ?_ (by with_unfolding_all rfl)
      repeat walk_at "bm"
      refine i_list (j := 0) (by walk_at "bj_a") hld rfl (map_get hb) (by decide) ?_ (by with_unfolding_all rfl)
      repeat walk_at "bm"
      refine c_eqT (p := tp ra) (q := tp rb) G (by walk_at "bj_a") hta htb ?_
      rw [hc]
      walk_at "bm"
      refine ite_dec (fun he => ?_) (fun he => ?_)
      · repeat walk_at "bm"
        refine i_slice (lo := none) (hi := some (-1)) (ws := (ds.take (ps.length - 1)).map Value.ref) (by walk_at "bj_a") (by walk_at "bj_a") hld .none (.int _ _) ?_ (by rw [List.length_map]; omega) ?_ (by with_unfolding_all rfl) (by intro _; with_unfolding_all rfl)
        · refine (slicePick_butLast _ 1 (by decide)).trans ?_
          rw [List.size_toArray, List.length_map, hdl, List.map_take]
        clear F N'
        intro l₂ h₂ F₂ N₂ hl₂
        repeat walk_at "bm"
        exact s_nilN (fin l₂ 0 _ _ _ _ _ (.head _) (by unfold dueF; rw [if_pos hn', if_pos he]; exact (hD.take _).more fun p hp _ _ => .tail _ hp) (by walk_at "bj_a") (by walk_at "bj_a") (fun p hp => .tail _ hp) (fun z hz => if_neg hz) (by repeat walk_at "bj_m"))
      · repeat walk_at "bm"
        refine ite_dec (fun hn2 => ?_) (fun hn2 => absurd hn hn2)
        repeat walk_at "bm"
        refine i_slice (lo := some (-1)) (hi := none) (ws := (ds.drop (ps.length - 1)).map Value.ref) (by walk_at "bj_a") (by walk_at "bj_a") hld (.int _ _) .none ?_ (by rw [List.length_map]; omega) ?_ (by with_unfolding_all rfl) (by intro _; with_unfolding_all rfl)
        · refine (slicePick_last _ 1 (by decide)).trans ?_
          rw [List.size_toArray, List.length_map, hdl, List.map_drop]
        clear F N'
        intro l₂ h₂ F₂ N₂ hl₂
        have hld₂ : (ld, PySem.W.listOf (ds.map Value.ref).toArray kd) ∈ (l₂, PySem.W.listOf ((ds.drop (ps.length - 1)).map Value.ref).toArray 0) :: N := .tail _ hld
        repeat walk_at "bm"
        refine i_slice (lo := none) (hi := some (-1)) (ws := (ds.take (ps.length - 1)).map Value.ref) (by walk_at "bj_a") (by walk_at "bj_a") hld₂ .none (.int _ _) ?_ (by rw [List.length_map]; omega) ?_ (by with_unfolding_all rfl) (by intro _; with_unfolding_all rfl)
        · refine (slicePick_butLast _ 1 (by decide)).trans ?_
          rw [List.size_toArray, List.length_map, hdl, List.map_take]
        clear F₂ N₂
        intro l₃ h₃ F₃ N₃ hl₃
        refine o_addL (by walk_at "bj_a") (by walk_at "bj_a") (isL N₃ (.tail _ (.head _))) (isL N₃ (.head _)) (by rw [List.length_map, List.length_map, List.length_drop, List.length_take]; omega) ?_
        clear F₃ N₃
        intro l₄ h₄ F₄ N₄ hl₄
        repeat walk_at "bm"
        refine s_nilN (fin l₄ 0 _ _ (ds.drop (ps.length - 1) ++ ds.take (ps.length - 1)) _ _ ?_ ?_ (by walk_at "bj_a") (by walk_at "bj_a") (fun p hp => .tail _ (.tail _ (.tail _ hp))) (fun z hz => if_neg hz) (by repeat walk_at "bj_m"))
        · rw [List.map_append]; exact .head _
        · unfold dueF
          rw [if_pos hn', if_neg he]
          exact ((hD.drop _).append (hD.take _)).more fun p hp _ _ => .tail _ (.tail _ (.tail _ hp))
    · repeat walk_at "bm"
      refine ite_dec (fun hn2 => absurd hn2 hn) (fun hn2 => ?_)
      repeat walk_at "bm"
      exact s_nilN (fin ld kd _ _ ds _ _ hld (by unfold dueF; rw [if_neg (by omega)]; exact hD) (by walk_at "bj_a") (by walk_at "bj_a") (fun p hp => hp) (fun z hz => rfl) m7)
  · rintro σ ⟨h', t', m', M, ld, kd, ds, rfl, F₁, N₁, H₁, b1, b2, b3, b4, b5, b6, b7, b8, b9, b10⟩
    exact kk _ _ m' M ld kd ds F₁ N₁ H₁ b1 b2 b3 b4 b5 ⟨_, b6⟩ b7 ⟨_, b8⟩ ⟨_, b9⟩ b10
end
end

section
local macro_rules | `(tactic| walk_at "bj_gn") => `(tactic| first | with_reducible exact gn_len _ | with_reducible exact gn_range _ | with_reducible exact gn_list _ | with_reducible exact gn_reversed _)
local macro_rules | `(tactic| walk_at "bj_bt") => `(tactic| first | with_reducible exact PySem.boot_len | with_reducible exact PyProof.Rows.boot_range | with_reducible exact PyProof.Rows.boot_list | with_reducible exact PyProof.Rows.boot_reversed)
local macro_rules | `(tactic| walk_at "bj_gl") => `(tactic| first | with_reducible exact gl_31 _ | with_reducible exact gl_59 _ | with_reducible exact gl_70 _ | with_reducible exact gl_77 _ | with_reducible exact gl_84 _ | with_reducible exact gl_91 _ | with_reducible exact gl_92 _ | with_reducible exact gl_99 _ | with_reducible exact gl_106 _ | with_reducible exact gl_113 _ | with_reducible exact gl_120 _ | with_reducible exact gl_127 _ | with_reducible exact gl_134 _)
local macro_rules | `(tactic| walk_at "bj_kp") => `(tactic| first | with_reducible exact kp_31 _ | with_reducible exact kp_59 _ | with_reducible exact kp_70 _ | with_reducible exact kp_77 _ | with_reducible exact kp_84 _ | with_reducible exact kp_91 _ | with_reducible exact kp_99 _ | with_reducible exact kp_106 _ | with_reducible exact kp_113 _ | with_reducible exact kp_120 _ | with_reducible exact kp_127 _ | with_reducible exact kp_134 _)
local macro_rules | `(tactic| walk_at "bj_m") => `(tactic| first | (with_reducible assumption) | (with_reducible exact m_here) | ((with_reducible refine m_there ?hmt ?_); (case hmt => decide); walk_at "bj_m") | rfl)
local macro_rules | `(tactic| walk_at "bj_a") => `(tactic| (with_reducible assumption))
local macro_rules | `(tactic| walk_at "bj") => `(tactic| first
  | (with_reducible refine s_nilR ?_)
  | ((with_reducible refine' s_assignAttr ?_ ?hs); (case hs => rfl))
  | ((with_reducible refine' s_assign ?_ ?hs); (case hs => rfl))
  | (with_reducible refine' s_if ?_)
  | (with_reducible refine' s_ret ?_)
  | (with_reducible refine' s_aug ?_)
  | ((with_reducible refine' e_L ?G ?F ?hx ?hv ?_ ?hdb); (case G => walk_at "bj_a"); (case F => walk_at "bj_a"); (case hx => rfl); (case hdb => rfl); (case hv => walk_at "bj_m"))
  | ((with_reducible refine' l_L ?G ?F ?hx ?hv ?_); (case G => walk_at "bj_a"); (case F => walk_at "bj_a"); (case hx => rfl); (case hv => walk_at "bj_m"))
  | ((with_reducible refine' e_st ?G ?F ?N ?hx ?_); (case G => walk_at "bj_a"); (case F => walk_at "bj_a"); (case N => walk_at "bj_a"); (case hx => rfl); intro h' t' F' N')
  | ((with_reducible refine' e_attr ?_ ?he); (case he => with_unfolding_all rfl))
  | ((with_reducible refine' t_cmp ?_ ?hm); (case hm => with_unfolding_all rfl))
  | ((with_reducible refine' e_cmp ?_ ?hm); (case hm => with_unfolding_all rfl))
  | (with_reducible refine' e_bin ?_)
  | (with_reducible refine' t_not ?_)
  | (with_reducible refine' t_and ?_)
  | (with_reducible refine' t_or ?_)
  | (with_reducible refine' t_andN ?_)
  | (with_reducible refine' t_orN ?_)
  | (with_reducible refine' e_ifx ?_)
  | (with_reducible refine' e_and ?_)
  | (with_reducible refine' e_and1 ?_)
  | (with_reducible refine' e_un ?_)
  | (with_reducible refine' tb_bool ?_)
  | (with_reducible refine' tb_none ?_)
  | ((with_reducible refine' o_add ?_); intro u' t')
  | ((with_reducible refine' o_iadd ?_); intro u' t')
  | ((with_reducible refine' o_isub ?_); intro u' t')
  | ((with_reducible refine' o_sub ?_); intro u' t')
  | ((with_reducible refine' o_mod ?_ ?_); (decide); intro u' t')
  | ((with_reducible refine' o_neg ?_); intro u' t')
  | (with_reducible refine' c_eq ?_)
  | (with_reducible refine' c_ne ?_)
  | (with_reducible refine' c_lt ?_)
  | (with_reducible refine' c_gt ?_)
  | (with_reducible refine' c_le ?_)
  | (with_reducible refine' c_ge ?_)
  | (with_reducible refine' c_isB ?_)
  | (with_reducible refine' c_isnB ?_)
  | (with_reducible refine' c_eqB ?_)
  | (with_reducible refine' c_neB ?_)
  | (with_reducible refine' c_isRN ?_)
  | (with_reducible refine' c_isNN ?_)
  | (with_reducible refine' c_isnRN ?_)
  | (with_reducible refine' c_isnNR ?_)
  | (with_reducible refine' c_isnNN ?_)
  | (with_reducible refine' c_isnRS ?_)
  | (with_reducible refine' c_isRS ?_)
  | (with_reducible refine' if_t ?_)
  | (with_reducible refine' if_f ?_)
  | (with_reducible refine' if_nt ?_)
  | (with_reducible refine' if_nf ?_)
  | ((with_reducible refine' e_callG ?G ?F ?hx ?hdb ?eg ?hk ?_ ?hc ?he ?hp); (case G => walk_at "bj_a"); (case F => walk_at "bj_a"); (case hx => rfl); (case hdb => rfl); (case eg => walk_at "bj_gl"); (case hk => walk_at "bj_kp"); (case hc => rfl); (case he => rfl); (case hp => rfl))
  | ((with_reducible refine' e_callB ?G ?F ?hx ?hdb ?eg ?hv ?hn ?_ ?hc ?he ?hp); (case G => walk_at "bj_a"); (case F => walk_at "bj_a"); (case hx => rfl); (case hdb => rfl); (case eg => walk_at "bj_gn"); (case hv => walk_at "bj_bt"); (case hn => decide); (case hc => rfl); (case he => rfl); (case hp => rfl))
  | ((with_reducible refine' e_callT ?G ?F ?hx ?hdb ?eg ?hv ?hn ?_ ?hc ?he ?hp); (case G => walk_at "bj_a"); (case F => walk_at "bj_a"); (case hx => rfl); (case hdb => rfl); (case eg => walk_at "bj_gn"); (case hv => walk_at "bj_bt"); (case hn => decide); (case hc => rfl); (case he => rfl); (case hp => rfl))
  | ((with_reducible refine' o_len ?N ?hm ?hf ?_); (case N => walk_at "bj_a"); (case hm => walk_at "bj_a"); (case hf => walk_at "bj_a"); intro u' t')
  | ((with_reducible refine' o_range ?F ?N ?_); (case F => walk_at "bj_a"); (case N => walk_at "bj_a"); intro rg' h' t' a' b' c' R' F' N')
  | (with_reducible refine' e_sub ?_)
  | ((with_reducible refine' s_for ?G ?hx ?_ ?hs); (case G => walk_at "bj_a"); (case hx => rfl); (case hs => intro _; rfl))
  | ((with_reducible refine' a_cons ?_ ?he); (case he => rfl))
  | (with_reducible refine' a_nil ?_)
  | ((with_reducible refine' a_in ?G ?F ?_); (case G => walk_at "bj_a"); (case F => walk_at "bj_a"))
  | ((with_reducible refine' t_plain ?_ ?he); (case he => rfl))
  | (with_reducible refine' e_none ?_)
  | (with_reducible refine' e_bool ?_)
  | ((with_reducible refine' e_int ?_); intro u' t'))
local macro_rules | `(tactic| walk_at "bj_g5") => `(tactic| ((case G => walk_at "bj_a"); (case F => walk_at "bj_a"); (case N => walk_at "bj_a"); (case T => walk_at "bj_a"); (case hS => walk_at "bj_a")))
local macro_rules | `(tactic| walk_at "bj_get") => `(tactic| first
  | ((with_reducible refine' tg_next ?G ?F ?N ?T ?hS ?_); (case G => walk_at "bj_a"); (case F => walk_at "bj_a"); (case N => walk_at "bj_a"); (case T => walk_at "bj_a"); (case hS => walk_at "bj_a"); intro t')
  | ((with_reducible refine' tg_prev ?G ?F ?N ?T ?hS ?_); (case G => walk_at "bj_a"); (case F => walk_at "bj_a"); (case N => walk_at "bj_a"); (case T => walk_at "bj_a"); (case hS => walk_at "bj_a"); intro t')
  | ((with_reducible refine' tg_pz ?G ?F ?N ?T ?hS ?_); (case G => walk_at "bj_a"); (case F => walk_at "bj_a"); (case N => walk_at "bj_a"); (case T => walk_at "bj_a"); (case hS => walk_at "bj_a"); intro t')
  | ((with_reducible refine' tg_nz ?G ?F ?N ?T ?hS ?_); (case G => walk_at "bj_a"); (case F => walk_at "bj_a"); (case N => walk_at "bj_a"); (case T => walk_at "bj_a"); (case hS => walk_at "bj_a"); intro t')
  | ((with_reducible refine' tg_i ?G ?F ?N ?T ?hS ?_); (case G => walk_at "bj_a"); (case F => walk_at "bj_a"); (case N => walk_at "bj_a"); (case T => walk_at "bj_a"); (case hS => walk_at "bj_a"); intro t')
  | ((with_reducible refine' tg_point ?G ?F ?N ?T ?hS ?_); (case G => walk_at "bj_a"); (case F => walk_at "bj_a"); (case N => walk_at "bj_a"); (case T => walk_at "bj_a"); (case hS => walk_at "bj_a"); intro t')
  | ((with_reducible refine' tg_x ?G ?F ?N ?T ?hS ?_); (case G => walk_at "bj_a"); (case F => walk_at "bj_a"); (case N => walk_at "bj_a"); (case T => walk_at "bj_a"); (case hS => walk_at "bj_a"); intro t')
  | ((with_reducible refine' tg_y ?G ?F ?N ?T ?hS ?_); (case G => walk_at "bj_a"); (case F => walk_at "bj_a"); (case N => walk_at "bj_a"); (case T => walk_at "bj_a"); (case hS => walk_at "bj_a"); intro t')
  | ((with_reducible refine' tg_z ?G ?F ?N ?T ?hS ?_); (case G => walk_at "bj_a"); (case F => walk_at "bj_a"); (case N => walk_at "bj_a"); (case T => walk_at "bj_a"); (case hS => walk_at "bj_a"); intro t')
  | ((with_reducible refine' tg_st ?G ?F ?N ?T ?hS ?_); (case G => walk_at "bj_a"); (case F => walk_at "bj_a"); (case N => walk_at "bj_a"); (case T => walk_at "bj_a"); (case hS => walk_at "bj_a"); intro t'))
local macro_rules | `(tactic| walk_at "bj_set") => `(tactic| (first
  | (with_reducible refine' ts_prev ?G ?F ?N ?T ?hS ?_)
  | (with_reducible refine' ts_next ?G ?F ?N ?T ?hS ?_)
  | (with_reducible refine' ts_pz ?G ?F ?N ?T ?hS ?_)
  | (with_reducible refine' ts_nz ?G ?F ?N ?T ?hS ?_)
  | (with_reducible refine' ts_prevR ?G ?F ?N ?T ?hS ?_)
  | (with_reducible refine' ts_nextR ?G ?F ?N ?T ?hS ?_)
  | (with_reducible refine' ts_pzR ?G ?F ?N ?T ?hS ?_)
  | (with_reducible refine' ts_nzR ?G ?F ?N ?T ?hS ?_)))
local macro_rules | `(tactic| walk_at "bj_il") => `(tactic| ((with_reducible refine' i_list ?N ?hm ?hi ?hx ?hj ?k ?hs); (case N => walk_at "bj_a"); (case hm => walk_at "bj_a"); (case hs => with_unfolding_all rfl)))
local macro_rules | `(tactic| walk_at "bj_it") => `(tactic| ((with_reducible refine' i_tup ?N ?hm ?hi ?hj ?hx ?k ?hs); (case N => walk_at "bj_a"); (case hm => walk_at "bj_a"); (case hs => with_unfolding_all rfl)))
local macro_rules | `(tactic| walk_at "bk") => `(tactic| first
  | walk_at "bj"
  | ((with_reducible refine' s_exprA ?_ ?hi ?hs); (case hi => rfl); (case hs => rfl))
  | ((with_reducible refine' e_meth ?_ ?hm ?he ?hp); (case hm => rfl); (case he => rfl); (case hp => rfl))
  | (with_reducible refine' e_list ?_)
  | (with_reducible refine' e_tup ?_)
  | ((with_reducible refine' i_list ?N ?hm ?hi ?hx ?hj ?_ ?hs); (case N => walk_at "bj_a"); (case hm => walk_at "bj_a"); (case hi => with_reducible rfl); (case hx => exact map_get (by with_reducible assumption)); (case hj => omega); (case hs => with_unfolding_all rfl))
  | ((with_reducible refine' i_tup (j := 0) ?N ?hm ?hi ?hj ?hx ?_ ?hs); (case N => walk_at "bj_a"); (case hm => walk_at "bj_a"); (case hi => rfl); (case hj => decide); (case hx => rfl); (case hs => with_unfolding_all rfl))
  | ((with_reducible refine' i_tup (j := 1) ?N ?hm ?hi ?hj ?hx ?_ ?hs); (case N => walk_at "bj_a"); (case hm => walk_at "bj_a"); (case hi => rfl); (case hj => decide); (case hx => rfl); (case hs => with_unfolding_all rfl)))
local macro_rules | `(tactic| walk_at "bm") => `(tactic| first
  | walk_at "bk"
  | ((with_reducible refine' e_C ?G ?N ?hx ?hc ?hdb ?hv ?_); (case G => walk_at "bj_a"); (case N => walk_at "bj_a"); (case hx => rfl); (case hc => rfl); (case hdb => rfl); (case hv => walk_at "bj_a"))
  | ((with_reducible refine' o_fdiv ?_ ?_ ?_); (decide); (decide); intro u' t')
  | (with_reducible refine' e_slc ?_)
  | (with_reducible refine' p_none ?_)
  | (with_reducible refine' p_some ?_))
section
variable {prog : Program} {w : World} {A : Around} {nm : Str} {L fa : Addr} {cd : Value} {h₀ : Heap} {s₀ : Shared} {h : Heap} {t : Nat} {m : Str → Option Value} {N : Led} {r : Nat}

theorem DueOk.ks {P : Params} {M : Led} {ds : List Addr} {E : List (Nat × Int)} (H : DueOk N ds E) (s : KS P N M) : DueOk M ds E := H.more fun p hp i n => s p hp i (n P)
theorem All2.free {nd : Addr → Nd} {ps : List Addr} {f : Nat → Int × Int} : ∀ {A : List Addr} {C : List (Nat × Int)}, All2 nd ps f A C → ∀ a ∈ A, (nd a).pz = none ∧ (nd a).nz = none
  | [], [], _, _, ha => absurd ha List.not_mem_nil
  | _ :: _, _ :: _, h, a, ha => by
    rcases List.mem_cons.mp ha with rfl | ha
    · exact h.1.2.2.2.2
    · exact All2.free h.2 a ha
  | [], _ :: _, h, _, _ => h.elim
  | _ :: _, [], h, _, _ => h.elim
theorem dueF_length {f : Nat → Int × Int} {d : Bool} {start : Int} {n : Nat} : (dueF f d start n).length ≤ n := by
  unfold dueF
  split
  · split
    · rw [List.length_take, due0_length]; omega
    · rw [List.length_append, List.length_drop, List.length_take, due0_length]; omega
  · rw [due0_length]; exact Nat.le_refl _

/-- what stands once the ring is made -/
structure Made (P : Params) (M : Led) (L lp lh ln l0 : Addr) (kp kh kn c0 : Nat) (ps RR : List Addr) (nv : List Value) (nd : Addr → Nd) : Prop where
  hp : (lp, PySem.W.listOf (ps.map Value.ref).toArray kp) ∈ M
  hh : (lh, PySem.W.listOf (ps.map Value.ref).toArray kh) ∈ M
  hn : (ln, PySem.W.listOf nv.toArray kn) ∈ M
  h0 : (l0, PySem.W.listOf (RR.map Value.ref).toArray c0) ∈ M
  pts : ∀ a ∈ ps, ∃ d, (a, instObj 31 d) ∈ M
  c3 : Cell M (L + 3) (some (.ref lp))
  c4 : Cell M (L + 4) (some (.ref lh))
  tab : Tab P M (· ∈ RR) nd
  ring : Ring nd RR
  nodup : RR.Nodup
  free : ∀ a ∈ RR, (nd a).pz = none ∧ (nd a).nz = none
  sz : RR.length ≤ 9
  pne : lp ≠ l0
  hne : lh ≠ l0
  nne : ln ≠ l0

theorem stC {M M' : Led} {c : Addr} {v : Option Value} {h : Heap} {L' : Addr} (N' : News h₀ L' h M) (hc : Cell M c v) (K : ∀ p ∈ M, p.1 ≠ c → p ∈ M') : ∀ p ∈ M, (∀ v, p.2.data ≠ .cell v) → p ∈ M' := fun p hp hd => by
  obtain ⟨o, ho, hdo⟩ := hc
  refine K p hp fun e => hd v ?_
  have : p.2 = o := by
    obtain ⟨a, b⟩ := p
    dsimp only at e ⊢
    subst e
    exact News.uniq N' hp ho
  rw [this]; exact hdo

theorem law6 {Q : Flow → Shared → Prop} {ln lw lp ld : Addr} {rs ps ds : List Addr} {nv : List Value} {kn kw kp kd : Nat} {nf : Nat → Int} {tp : Addr → Tp} {pp : Addr → Pt} {f : Nat → Int × Int} {many start : Int} {us : Tok} {ccw : Bool} (G : Gd w A (le nm L fa cd) h₀ (r + 6)) (F : Fr h₀ (le nm L fa cd).locals h m) (N' : News h₀ (le nm L fa cd).locals h N)
    (H : Hd w.params N L lw lp ln kw kp kn rs ps tp pp nv start us) (hs : Hs rs ps tp pp f nv nf) (c4 : Cell N (L + 4) none) (hld : (ld, PySem.W.listOf (ds.map Value.ref).toArray kd) ∈ N) (hD : DueOk N ds (dueF f (ccw == decide (0 < twice f ps.length ps.length)) start ps.length))
    (m1 : m "rows" = some (.ref lw)) (m2 : m "numbers" = some (.ref ln)) (m3 : ∃ u, m "many" = some (.int many u)) (m4 : m "ccw" = some (.bool ccw)) (m5 : ∃ u, m "count" = some (.int (ps.length : Int) u)) (m6 : ∃ u, m "twice" = some (.int (twice f ps.length ps.length) u)) (m7 : m "due" = some (.ref ld))
    (kk : ∀ h' t' m' M lh l0 kh c0 RR nd, Fr h₀ (le nm L fa cd).locals h' m' → News h₀ (le nm L fa cd).locals h' M → Made w.params M L lp lh ln l0 kp kh kn c0 ps RR nv nd →
      m' "numbers" = some (.ref ln) → (∃ u, m' "many" = some (.int many u)) → (∃ u, m' "count" = some (.int (ps.length : Int) u)) → m' "ring" = some (.ref l0) →
      wpAny (model prog w) A (execs (bd139.drop 18) (le nm L fa cd)) Q NE (stt s₀ h' t')) :
    wpAny (model prog w) A (execs (bd139.drop 13) (le nm L fa cd)) Q NE (stt s₀ h t) := by
  obtain ⟨u3, m3⟩ := m3
  obtain ⟨u5, m5⟩ := m5
  obtain ⟨u6, m6⟩ := m6
  have hsz := hs.sz
  have hst := sarea_twice f ps.length
  have c3 := H.c3
  unfold bd139 bdS139
  dsimp only [List.drop]
  repeat walk_at "bm"
  refine o_listOf (by walk_at "bj_a") (by walk_at "bj_a") (isL N' H.hp) (by rw [List.length_map]; omega) ?_
  intro lq cq h₁ F₁ N₁ hlq
  repeat walk_at "bm"
  have up : ∀ p ∈ N, p ∈ (lq, PySem.W.listOf (ps.map Value.ref).toArray cq) :: N := fun p hp => .tail _ hp
  refine area_call (pp := pp) (f := f) G (by walk_at "bj_a") (by walk_at "bj_a") (.head _) (H.ks (KS.of_sub up)).pt (by omega) hs.fp hs.fy ?_
  clear F₁ N₁ hlq F N'
  intro h₂ t₂ u₂ F₂ N₂
  replace N₂ := News.sub N₂ up
  clear up
  repeat walk_at "bm"
  rw [hst, show (0 : Int) - twice f ps.length ps.length = - twice f ps.length ps.length by omega, bne_self_eq_false]
  repeat walk_at "bm"
  refine o_listOf (by walk_at "bj_a") (by walk_at "bj_a") (isL N₂ H.hp) (by rw [List.length_map]; omega) ?_
  clear F₂
  intro lh kh h₃ F₃ N₃ hlh
  have up : ∀ p ∈ N, p ∈ (lh, PySem.W.listOf (ps.map Value.ref).toArray kh) :: N := fun p hp => .tail _ hp
  refine e_stC G F₃ N₃ rfl rfl (c4.more up) ?_
  intro h₄ N₄ F₄ N₄' c4' K₄
  have st := stC N₃ (c4.more up) K₄
  have hh₄ : (lh, PySem.W.listOf (ps.map Value.ref).toArray kh) ∈ N₄ := st _ (.head _) fun v e => by cases e
  have cst : ∀ i v, i ≠ 4 → Cell N (L + i) v → Cell N₄ (L + i) v := fun i v hi ⟨o, a, b⟩ => ⟨o, K₄ _ (up _ a) (ofs_ne (L := L) hi), b⟩
  have H₄ : Hd w.params N₄ L lw lp ln kw kp kn rs ps tp pp nv start us :=
    ⟨st _ (up _ H.hw) (fun v e => by cases e), st _ (up _ H.hp) (fun v e => by cases e), st _ (up _ H.hn) (fun v e => by cases e), fun a ha => st _ (up _ (H.rt a ha)) (fun v e => by cases e),
      fun a ha => ⟨st _ (up _ (H.pt a ha).1) (fun v e => by cases e), st _ (up _ (H.pt a ha).2) (fun v e => by cases e)⟩, cst 1 _ (by decide) H.c1, cst 3 _ (by decide) H.c3⟩
  have hld₄ := st _ (up _ hld) (fun v e => by cases e)
  have hD₄ : DueOk N₄ ds _ := ⟨hD.1, fun j a e => let ⟨p, h1, h2⟩ := hD.2 j a e; ⟨p, st _ (up _ h1) (fun v e => by cases e), h2⟩⟩
  clear F₃ N₃ up cst st K₄ H hD hld c4 c3 N₂ hlh
  have c1 := H₄.c1
  have c3 := H₄.c3
  repeat walk_at "bm"
  refine linked_call (pp := pp) (f := f) (start := start) (d := (ccw == decide (0 < twice f ps.length ps.length))) G F₄ N₄' hh₄ H₄.pt (by omega) hs.fp hs.fy (by rw [hst, show decide (-twice f ps.length ps.length < 0) = decide (0 < twice f ps.length ps.length) from decide_eq_decide.mpr (by omega)]) ?_ ?_
  · intro h₅ t₅ M₅ h0 F₅ N₅ K₅
    have H₅ := H₄.ks (KS.of_keep K₅)
    have hh₅ := K₅ _ hh₄ ne_seq
    have c4₅ := c4'.keep K₅
    clear F₄ N₄'
    repeat walk_at "bm"
    refine n_list (vs := []) (by walk_at "bj_a") (by walk_at "bj_a") (by simp) ?_
    clear F₅ N₅
    intro l0 h₆ F₆ N₆ hl0
    walk_at "bm"
    repeat walk_at "bm"
    refine ite_beq (fun _ => ?_) (fun hne => absurd (by omega) hne)
    iterate 9 walk_at "bm"
    have up₆ : ∀ p ∈ M₅, p ∈ (l0, PySem.W.listOf ([] : List Value).toArray 0) :: M₅ := fun p hp => .tail _ hp
    have lt₆ : ∀ a o, (a, o) ∈ M₅ → a ≠ l0 := fun a o h => Nat.ne_of_lt (hl0 _ h)
    exact kk _ _ _ _ lh l0 kh 0 [] nd0 (by walk_at "bj_a") (by walk_at "bj_a")
      ⟨up₆ _ H₅.hp, up₆ _ hh₅, up₆ _ H₅.hn, .head _, fun a ha => ⟨_, up₆ _ (H₅.pt a ha).1⟩, H₅.c3.more up₆, c4₅.more up₆, Tab.nil, trivial, List.nodup_nil, fun a ha => absurd ha List.not_mem_nil, Nat.zero_le _, lt₆ _ _ H₅.hp, lt₆ _ _ hh₅, lt₆ _ _ H₅.hn⟩
      (by repeat walk_at "bj_m") ⟨_, by repeat walk_at "bj_m"⟩ ⟨_, by repeat walk_at "bj_m"⟩ (by repeat walk_at "bj_m")
  · intro h₅ t₅ M₅ nd q RR hpos F₅ N₅ K₅ T₅ R₅ hnd hq all
    have H₅ := H₄.ks (KS.of_keep K₅)
    have hh₅ := K₅ _ hh₄ ne_seq
    have c4₅ := c4'.keep K₅
    have hld₅ := K₅ _ hld₄ ne_seq
    have hD₅ := hD₄.ks (KS.of_keep K₅)
    clear F₄ N₄'
    repeat walk_at "bm"
    refine n_list (vs := []) (by walk_at "bj_a") (by walk_at "bj_a") (by simp) ?_
    clear F₅
    intro l00 h₆ F₆ N₆ hl0
    replace N₆ := News.sub N₆ (N' := M₅) fun p hp => .tail _ hp
    have c3₅ := H₅.c3
    repeat walk_at "bm"
    refine ite_beq (fun h0 => absurd h0 (by omega)) (fun hne => ?_)
    repeat walk_at "bm"
    obtain ⟨dp, hdp⟩ := skolem (Rl := fun a p => (a, tupD p) ∈ M₅) (rs := ds) tp0 (fun a ha => by
      obtain ⟨i, hi, e⟩ := List.getElem_of_mem ha
      obtain ⟨p, h1, _⟩ := hD₅.2 i a (by rw [List.getElem?_eq_getElem hi, e])
      exact ⟨p, h1⟩)
    have hEl := dueF_length (f := f) (d := (ccw == decide (0 < twice f ps.length ps.length))) (start := start) (n := ps.length)
    refine told_call (tp := tp) (dp := dp) (f := f) G (by walk_at "bj_a") (by walk_at "bj_a") T₅ (fun a ha => ha) hq R₅ all H₅.hp H₅.hw hld₅ H₅.rt hdp hs.fr ?_ hD₅.1 hs.len (by omega) (by omega) ?_
    · intro j a e hj he
      obtain ⟨p, h1, h2⟩ := hD₅.2 j a hj
      obtain ⟨e1, e2⟩ := tupD_inj (News.uniq N₅ (hdp a (List.mem_of_getElem? hj)) h1)
      rw [e1, e2]
      exact h2 e he
    · clear N₆ N₅
      intro h₇ t₇ l0 c0 F₇ N₇ hl0
      have up₆ : ∀ p ∈ M₅, p ∈ (l0, PySem.W.listOf (RR.map Value.ref).toArray c0) :: M₅ := fun p hp => .tail _ hp
      have lt₆ : ∀ a o, (a, o) ∈ M₅ → a ≠ l0 := fun a o h => Nat.ne_of_lt (hl0 _ h)
      iterate 10 walk_at "bm"
      exact kk _ _ _ _ lh l0 kh c0 RR nd (by walk_at "bj_a") (by walk_at "bj_a")
        ⟨up₆ _ H₅.hp, up₆ _ hh₅, up₆ _ H₅.hn, .head _, fun a ha => ⟨_, up₆ _ (H₅.pt a ha).1⟩, H₅.c3.more up₆, c4₅.more up₆, ⟨fun a ha => ⟨up₆ _ (T₅.has a ha).1, up₆ _ (T₅.has a ha).2⟩, T₅.inj⟩, R₅, hnd, All2.free all, by have := All2.length all; omega, lt₆ _ _ H₅.hp, lt₆ _ _ hh₅, lt₆ _ _ H₅.hn⟩
        (by repeat walk_at "bj_m") ⟨_, by repeat walk_at "bj_m"⟩ ⟨_, by repeat walk_at "bj_m"⟩ (by repeat walk_at "bj_m")
end
end

section
local macro_rules | `(tactic| walk_at "bj_gn") => `(tactic| first | with_reducible exact gn_len _ | with_reducible exact gn_range _ | with_reducible exact gn_list _ | with_reducible exact gn_reversed _)
local macro_rules | `(tactic| walk_at "bj_bt") => `(tactic| first | with_reducible exact PySem.boot_len | with_reducible exact PyProof.Rows.boot_range | with_reducible exact PyProof.Rows.boot_list | with_reducible exact PyProof.Rows.boot_reversed)
local macro_rules | `(tactic| walk_at "bj_gl") => `(tactic| first | with_reducible exact gl_31 _ | with_reducible exact gl_59 _ | with_reducible exact gl_70 _ | with_reducible exact gl_77 _ | with_reducible exact gl_84 _ | with_reducible exact gl_91 _ | with_reducible exact gl_92 _ | with_reducible exact gl_99 _ | with_reducible exact gl_106 _ | with_reducible exact gl_113 _ | with_reducible exact gl_120 _ | with_reducible exact gl_127 _ | with_reducible exact gl_134 _)
local macro_rules | `(tactic| walk_at "bj_kp") => `(tactic| first | with_reducible exact kp_31 _ | with_reducible exact kp_59 _ | with_reducible exact kp_70 _ | with_reducible exact kp_77 _ | with_reducible exact kp_84 _ | with_reducible exact kp_91 _ | with_reducible exact kp_99 _ | with_reducible exact kp_106 _ | with_reducible exact kp_113 _ | with_reducible exact kp_120 _ | with_reducible exact kp_127 _ | with_reducible exact kp_134 _)
local macro_rules | `(tactic| walk_at "bj_m") => `(tactic| first | (with_reducible assumption) | (with_reducible exact m_here) | ((with_reducible refine m_there ?hmt ?_); (case hmt => decide); walk_at "bj_m") | rfl)
local macro_rules | `(tactic| walk_at "bj_a") => `(tactic| (with_reducible assumption))
local macro_rules | `(tactic| walk_at "bj") => `(tactic| first
  | (with_reducible refine s_nilR ?_)
  | ((with_reducible refine' s_assignAttr ?_ ?hs); (case hs => rfl))
  | ((with_reducible refine' s_assign ?_ ?hs); (case hs => rfl))
  | (with_reducible refine' s_if ?_)
  | (with_reducible refine' s_ret ?_)
  | (with_reducible refine' s_aug ?_)
  | ((with_reducible refine' e_L ?G ?F ?hx ?hv ?_ ?hdb); (case G => walk_at "bj_a"); (case F => walk_at "bj_a"); (case hx => rfl); (case hdb => rfl); (case hv => walk_at "bj_m"))
  | ((with_reducible refine' l_L ?G ?F ?hx ?hv ?_); (case G => walk_at "bj_a"); (case F => walk_at "bj_a"); (case hx => rfl); (case hv => walk_at "bj_m"))
  | ((with_reducible refine' e_st ?G ?F ?N ?hx ?_); (case G => walk_at "bj_a"); (case F => walk_at "bj_a"); (case N => walk_at "bj_a"); (case hx => rfl); intro h' t' F' N')
  | ((with_reducible refine' e_attr ?_ ?he); (case he => with_unfolding_all rfl))
  | ((with_reducible refine' t_cmp ?_ ?hm); (case hm => with_unfolding_all rfl))
  | ((with_reducible refine' e_cmp ?_ ?hm); (case hm => with_unfolding_all rfl))
  | (with_reducible refine' e_bin ?_)
  | (with_reducible refine' t_not ?_)
  | (with_reducible refine' t_and ?_)
  | (with_reducible refine' t_or ?_)
  | (with_reducible refine' t_andN ?_)
  | (with_reducible refine' t_orN ?_)
  | (with_reducible refine' e_ifx ?_)
  | (with_reducible refine' e_and ?_)
  | (with_reducible refine' e_and1 ?_)
  | (with_reducible refine' e_un ?_)
  | (with_reducible refine' tb_bool ?_)
  | (with_reducible refine' tb_none ?_)
  | ((with_reducible refine' o_add ?_); intro u' t')
  | ((with_reducible refine' o_iadd ?_); intro u' t')
  | ((with_reducible refine' o_isub ?_); intro u' t')
  | ((with_reducible refine' o_sub ?_); intro u' t')
  | ((with_reducible refine' o_mod ?_ ?_); (decide); intro u' t')
  | ((with_reducible refine' o_neg ?_); intro u' t')
  | (with_reducible refine' c_eq ?_)
  | (with_reducible refine' c_ne ?_)
  | (with_reducible refine' c_lt ?_)
  | (with_reducible refine' c_gt ?_)
  | (with_reducible refine' c_le ?_)
  | (with_reducible refine' c_ge ?_)
  | (with_reducible refine' c_isB ?_)
  | (with_reducible refine' c_isnB ?_)
  | (with_reducible refine' c_eqB ?_)
  | (with_reducible refine' c_neB ?_)
  | (with_reducible refine' c_isRN ?_)
  | (with_reducible refine' c_isNN ?_)
  | (with_reducible refine' c_isnRN ?_)
  | (with_reducible refine' c_isnNR ?_)
  | (with_reducible refine' c_isnNN ?_)
  | (with_reducible refine' c_isnRS ?_)
  | (with_reducible refine' c_isRS ?_)
  | (with_reducible refine' if_t ?_)
  | (with_reducible refine' if_f ?_)
  | (with_reducible refine' if_nt ?_)
  | (with_reducible refine' if_nf ?_)
  | ((with_reducible refine' e_callG ?G ?F ?hx ?hdb ?eg ?hk ?_ ?hc ?he ?hp); (case G => walk_at "bj_a"); (case F => walk_at "bj_a"); (case hx => rfl); (case hdb => rfl); (case eg => walk_at "bj_gl"); (case hk => walk_at "bj_kp"); (case hc => rfl); (case he => rfl); (case hp => rfl))
  | ((with_reducible refine' e_callB ?G ?F ?hx ?hdb ?eg ?hv ?hn ?_ ?hc ?he ?hp); (case G => walk_at "bj_a"); (case F => walk_at "bj_a"); (case hx => rfl); (case hdb => rfl); (case eg => walk_at "bj_gn"); (case hv => walk_at "bj_bt"); (case hn => decide); (case hc => rfl); (case he => rfl); (case hp => rfl))
  | ((with_reducible refine' e_callT ?G ?F ?hx ?hdb ?eg ?hv ?hn ?_ ?hc ?he ?hp); (case G => walk_at "bj_a"); (case F => walk_at "bj_a"); (case hx => rfl); (case hdb => rfl); (case eg => walk_at "bj_gn"); (case hv => walk_at "bj_bt"); (case hn => decide); (case hc => rfl); (case he => rfl); (case hp => rfl))
  | ((with_reducible refine' o_len ?N ?hm ?hf ?_); (case N => walk_at "bj_a"); (case hm => walk_at "bj_a"); (case hf => walk_at "bj_a"); intro u' t')
  | ((with_reducible refine' o_range ?F ?N ?_); (case F => walk_at "bj_a"); (case N => walk_at "bj_a"); intro rg' h' t' a' b' c' R' F' N')
  | (with_reducible refine' e_sub ?_)
  | ((with_reducible refine' s_for ?G ?hx ?_ ?hs); (case G => walk_at "bj_a"); (case hx => rfl); (case hs => intro _; rfl))
  | ((with_reducible refine' a_cons ?_ ?he); (case he => rfl))
  | (with_reducible refine' a_nil ?_)
  | ((with_reducible refine' a_in ?G ?F ?_); (case G => walk_at "bj_a"); (case F => walk_at "bj_a"))
  | ((with_reducible refine' t_plain ?_ ?he); (case he => rfl))
  | (with_reducible refine' e_none ?_)
  | (with_reducible refine' e_bool ?_)
  | ((with_reducible refine' e_int ?_); intro u' t'))
local macro_rules | `(tactic| walk_at "bj_g5") => `(tactic| ((case G => walk_at "bj_a"); (case F => walk_at "bj_a"); (case N => walk_at "bj_a"); (case T => walk_at "bj_a"); (case hS => walk_at "bj_a")))
local macro_rules | `(tactic| walk_at "bj_get") => `(tactic| first
  | ((with_reducible refine' tg_next ?G ?F ?N ?T ?hS ?_); (case G => walk_at "bj_a"); (case F => walk_at "bj_a"); (case N => walk_at "bj_a"); (case T => walk_at "bj_a"); (case hS => walk_at "bj_a"); intro t')
  | ((with_reducible refine' tg_prev ?G ?F ?N ?T ?hS ?_); (case G => walk_at "bj_a"); (case F => walk_at "bj_a"); (case N => walk_at "bj_a"); (case T => walk_at "bj_a"); (case hS => walk_at "bj_a"); intro t')
  | ((with_reducible refine' tg_pz ?G ?F ?N ?T ?hS ?_); (case G => walk_at "bj_a"); (case F => walk_at "bj_a"); (case N => walk_at "bj_a"); (case T => walk_at "bj_a"); (case hS => walk_at "bj_a"); intro t')
  | ((with_reducible refine' tg_nz ?G ?F ?N ?T ?hS ?_); (case G => walk_at "bj_a"); (case F => walk_at "bj_a"); (case N => walk_at "bj_a"); (case T => walk_at "bj_a"); (case hS => walk_at "bj_a"); intro t')
  | ((with_reducible refine' tg_i ?G ?F ?N ?T ?hS ?_); (case G => walk_at "bj_a"); (case F => walk_at "bj_a"); (case N => walk_at "bj_a"); (case T => walk_at "bj_a"); (case hS => walk_at "bj_a"); intro t')
  | ((with_reducible refine' tg_point ?G ?F ?N ?T ?hS ?_); (case G => walk_at "bj_a"); (case F => walk_at "bj_a"); (case N => walk_at "bj_a"); (case T => walk_at "bj_a"); (case hS => walk_at "bj_a"); intro t')
  | ((with_reducible refine' tg_x ?G ?F ?N ?T ?hS ?_); (case G => walk_at "bj_a"); (case F => walk_at "bj_a"); (case N => walk_at "bj_a"); (case T => walk_at "bj_a"); (case hS => walk_at "bj_a"); intro t')
  | ((with_reducible refine' tg_y ?G ?F ?N ?T ?hS ?_); (case G => walk_at "bj_a"); (case F => walk_at "bj_a"); (case N => walk_at "bj_a"); (case T => walk_at "bj_a"); (case hS => walk_at "bj_a"); intro t')
  | ((with_reducible refine' tg_z ?G ?F ?N ?T ?hS ?_); (case G => walk_at "bj_a"); (case F => walk_at "bj_a"); (case N => walk_at "bj_a"); (case T => walk_at "bj_a"); (case hS => walk_at "bj_a"); intro t')
  | ((with_reducible refine' tg_st ?G ?F ?N ?T ?hS ?_); (case G => walk_at "bj_a"); (case F => walk_at "bj_a"); (case N => walk_at "bj_a"); (case T => walk_at "bj_a"); (case hS => walk_at "bj_a"); intro t'))
local macro_rules | `(tactic| walk_at "bj_set") => `(tactic| (first
  | (with_reducible refine' ts_prev ?G ?F ?N ?T ?hS ?_)
  | (with_reducible refine' ts_next ?G ?F ?N ?T ?hS ?_)
  | (with_reducible refine' ts_pz ?G ?F ?N ?T ?hS ?_)
  | (with_reducible refine' ts_nz ?G ?F ?N ?T ?hS ?_)
  | (with_reducible refine' ts_prevR ?G ?F ?N ?T ?hS ?_)
  | (with_reducible refine' ts_nextR ?G ?F ?N ?T ?hS ?_)
  | (with_reducible refine' ts_pzR ?G ?F ?N ?T ?hS ?_)
  | (with_reducible refine' ts_nzR ?G ?F ?N ?T ?hS ?_)))
local macro_rules | `(tactic| walk_at "bj_il") => `(tactic| ((with_reducible refine' i_list ?N ?hm ?hi ?hx ?hj ?k ?hs); (case N => walk_at "bj_a"); (case hm => walk_at "bj_a"); (case hs => with_unfolding_all rfl)))
local macro_rules | `(tactic| walk_at "bj_it") => `(tactic| ((with_reducible refine' i_tup ?N ?hm ?hi ?hj ?hx ?k ?hs); (case N => walk_at "bj_a"); (case hm => walk_at "bj_a"); (case hs => with_unfolding_all rfl)))
local macro_rules | `(tactic| walk_at "bk") => `(tactic| first
  | walk_at "bj"
  | ((with_reducible refine' s_exprA ?_ ?hi ?hs); (case hi => rfl); (case hs => rfl))
  | ((with_reducible refine' e_meth ?_ ?hm ?he ?hp); (case hm => rfl); (case he => rfl); (case hp => rfl))
  | (with_reducible refine' e_list ?_)
  | (with_reducible refine' e_tup ?_)
  | ((with_reducible refine' i_list ?N ?hm ?hi ?hx ?hj ?_ ?hs); (case N => walk_at "bj_a"); (case hm => walk_at "bj_a"); (case hi => with_reducible rfl); (case hx => exact map_get (by with_reducible assumption)); (case hj => omega); (case hs => with_unfolding_all rfl))
  | ((with_reducible refine' i_tup (j := 0) ?N ?hm ?hi ?hj ?hx ?_ ?hs); (case N => walk_at "bj_a"); (case hm => walk_at "bj_a"); (case hi => rfl); (case hj => decide); (case hx => rfl); (case hs => with_unfolding_all rfl))
  | ((with_reducible refine' i_tup (j := 1) ?N ?hm ?hi ?hj ?hx ?_ ?hs); (case N => walk_at "bj_a"); (case hm => walk_at "bj_a"); (case hi => rfl); (case hj => decide); (case hx => rfl); (case hs => with_unfolding_all rfl)))
local macro_rules | `(tactic| walk_at "bm") => `(tactic| first
  | walk_at "bk"
  | ((with_reducible refine' e_C ?G ?N ?hx ?hc ?hdb ?hv ?_); (case G => walk_at "bj_a"); (case N => walk_at "bj_a"); (case hx => rfl); (case hc => rfl); (case hdb => rfl); (case hv => walk_at "bj_a"))
  | ((with_reducible refine' o_fdiv ?_ ?_ ?_); (decide); (decide); intro u' t')
  | (with_reducible refine' e_slc ?_)
  | (with_reducible refine' p_none ?_)
  | (with_reducible refine' p_some ?_))
noncomputable def lbS : {x : List Stmt // x = (match bd139.drop 21 with | .For _ _ b _ _ :: _ => b | _ => [])} := by
  refine ⟨?b, ?h⟩
  case h => conv => rhs; whnf
noncomputable def lb : List Stmt := lbS.1

structure Kc where
  lr : Addr
  kr : Nat
  la : Bool → Addr
  lc : Addr
  lg : Addr
  Z : Led
  n : Nat
def goneO (g : Gone) : Obj := { cls := .type "tuple", data := .seq [Value.ref g.node, .ref g.before, .ref g.behind, orf g.lower, orf g.upper].toArray }
structure KcOk (P : Params) (K : Kc) : Prop where
  zr : (K.lr, PySem.W.listOf [Value.ref (K.la false), .ref (K.la true)].toArray K.kr) ∈ K.Z
  zi : ∀ p ∈ K.Z, isIter p.2 = false
  zn : ∀ p ∈ K.Z, ∀ n, p.2 ≠ nodeD P n
  za : ∀ p ∈ K.Z, ∀ b, p.1 ≠ K.la b
  zc : ∀ p ∈ K.Z, p.1 ≠ K.lc
  zg : ∀ p ∈ K.Z, p.1 ≠ K.lg
  ab : ∀ b, K.la (!b) ≠ K.la b
  ac : ∀ b, K.la b ≠ K.lc
  ag : ∀ b, K.la b ≠ K.lg
  cg : K.lc ≠ K.lg
structure ML (K : Kc) (M : Led) (ka : Bool → Nat) (kc kg : Nat) (R : Bool → List Addr) (C : List Addr) (gs : List Gone) : Prop where
  z : ∀ p ∈ K.Z, p ∈ M
  rings : ∀ b, (K.la b, PySem.W.listOf ((R b).map Value.ref).toArray (ka b)) ∈ M
  chain : (K.lc, PySem.W.listOf (C.map Value.ref).toArray kc) ∈ M
  gone : (K.lg, PySem.W.listOf (gs.map fun g => Value.ref g.t).toArray kg) ∈ M
  tups : ∀ g ∈ gs, (g.t, goneO g) ∈ M
theorem gone_nl {g : Gone} {vs : Array Value} {k : Nat} : goneO g ≠ PySem.W.listOf vs k := fun e => absurd (Value.type.inj (congrArg Obj.cls e)) (by decide)
section
variable {P : Params} {K : Kc} {M M' : Led} {ka : Bool → Nat} {kc kg k' : Nat} {R : Bool → List Addr} {C X : List Addr} {gs : List Gone} {h₀ h : Heap} {L : Addr} {β : Bool}
theorem ML.ks (ok : KcOk P K) (H : ML K M ka kc kg R C gs) (s : KS P M M') : ML K M' ka kc kg R C gs :=
  ⟨fun p hp => s p (H.z p hp) (ok.zi p hp) (ok.zn p hp), fun b => s _ (H.rings b) rfl ne_seq, s _ H.chain rfl ne_seq, s _ H.gone rfl ne_seq, fun g hg => s _ (H.tups g hg) rfl ne_seq⟩
def setK (ka : Bool → Nat) (b : Bool) (k : Nat) : Bool → Nat := fun b' => if b' = b then k else ka b'
theorem ML.putR (ok : KcOk P K) (N : News h₀ L h M) (H : ML K M ka kc kg R C gs) : ML K (put (K.la β) (PySem.W.listOf (X.map Value.ref).toArray k') M) (setK ka β k') kc kg (setR R β X) C gs := by
  refine ⟨fun p hp => mem_put_ne (H.z p hp) (ok.za p hp β), fun b => ?_, mem_put_ne H.chain (Ne.symm (ok.ac β)), mem_put_ne H.gone (Ne.symm (ok.ag β)), fun g hg => put_other N (H.rings β) (H.tups g hg) gone_nl⟩
  by_cases hb : b = β
  · subst hb
    rw [setR_self]
    unfold setK
    rw [if_pos rfl]
    exact mem_put_self
  · rw [setR_other hb]
    unfold setK
    rw [if_neg hb]
    refine mem_put_ne (H.rings b) ?_
    rw [other_of_ne hb]
    exact ok.ab β
theorem ML.putC (ok : KcOk P K) (N : News h₀ L h M) (H : ML K M ka kc kg R C gs) : ML K (put K.lc (PySem.W.listOf (X.map Value.ref).toArray k') M) ka k' kg R X gs :=
  ⟨fun p hp => mem_put_ne (H.z p hp) (ok.zc p hp), fun b => mem_put_ne (H.rings b) (ok.ac b), mem_put_self, mem_put_ne H.gone (Ne.symm ok.cg), fun g hg => put_other N H.chain (H.tups g hg) gone_nl⟩
theorem ML.putG {g : Gone} (ok : KcOk P K) (N : News h₀ L h M) (H : ML K M ka kc kg R C gs) (hg : (g.t, goneO g) ∈ M) : ML K (put K.lg (PySem.W.listOf ((gs ++ [g]).map fun g => Value.ref g.t).toArray k') M) ka kc k' R C (gs ++ [g]) := by
  refine ⟨fun p hp => mem_put_ne (H.z p hp) (ok.zg p hp), fun b => mem_put_ne (H.rings b) (ok.ag b), mem_put_ne H.chain ok.cg, mem_put_self, fun g' hg' => ?_⟩
  rcases List.mem_append.mp hg' with hg' | hg'
  · exact put_other N H.gone (H.tups g' hg') gone_nl
  · rw [List.mem_singleton.mp hg']
    exact put_other N H.gone hg gone_nl
end

structure MS (P : Params) (K : Kc) (i : Nat) (M : Led) (ka : Bool → Nat) (kc kg : Nat) (R : Bool → List Addr) (C : List Addr) (gs : List Gone) (S : Addr → Prop) (nd : Addr → Nd) : Prop where
  ml : ML K M ka kc kg R C gs
  tab : Tab P M S nd
  inS : ∀ b a, a ∈ R b → S a
  gS : ∀ g ∈ gs, S g.node
  inv : LInv nd R C gs
  s1 : (R false).length + (R true).length ≤ 9 + i
  s2 : C.length ≤ i
  s3 : gs.length ≤ i
structure MF (K : Kc) (m : Str → Option Value) : Prop where
  f1 : m "rings" = some (.ref K.lr)
  f2 : m "chain" = some (.ref K.lc)
  f3 : m "gone" = some (.ref K.lg)
  f4 : ∃ u, m "count" = some (.int (K.n : Int) u)
def JS (P : Params) (K : Kc) (i : Nat) (m : Str → Option Value) (M : Led) : Prop := ∃ ka kc kg R C gs S nd, MS P K i M ka kc kg R C gs S nd ∧ MF K m
theorem MS.ks {P : Params} {K : Kc} {i : Nat} {M M' : Led} {ka : Bool → Nat} {kc kg : Nat} {R : Bool → List Addr} {C : List Addr} {gs : List Gone} {S : Addr → Prop} {nd : Addr → Nd} (ok : KcOk P K) (H : MS P K i M ka kc kg R C gs S nd) (s : Sub M M') : MS P K i M' ka kc kg R C gs S nd :=
  ⟨H.ml.ks ok (KS.of_Sub s), H.tab.sub s, H.inS, H.gS, H.inv, H.s1, H.s2, H.s3⟩
theorem MS.csz {P : Params} {K : Kc} {i : Nat} {M : Led} {ka : Bool → Nat} {kc kg : Nat} {R : Bool → List Addr} {C : List Addr} {gs : List Gone} {S : Addr → Prop} {nd : Addr → Nd} (H : MS P K i M ka kc kg R C gs S nd) (b : Bool) : (R b).length ≤ 9 + i := by
  have := H.s1
  cases b <;> omega
theorem MS.cS {P : Params} {K : Kc} {i : Nat} {M : Led} {ka : Bool → Nat} {kc kg : Nat} {R : Bool → List Addr} {C : List Addr} {gs : List Gone} {S : Addr → Prop} {nd : Addr → Nd} (H : MS P K i M ka kc kg R C gs S nd) : ∀ a ∈ C, S a := fun a ha => let ⟨b, hb⟩ := H.inv.csub a ha; H.inS b a hb

section
variable {prog : Program} {w : World} {A : Around} {nm : Str} {L fa : Addr} {cd : Value} {h₀ : Heap} {s₀ : Shared} {h : Heap} {t : Nat} {m : Str → Option Value} {M M0 : Led} {r : Nat} {K : Kc} {ka : Bool → Nat} {kc kg i : Nat} {R : Bool → List Addr} {C : List Addr} {gs : List Gone} {S : Addr → Prop} {nd : Addr → Nd}
theorem law_check {Q : Flow → Shared → Prop} (G : Gd w A (le nm L fa cd) h₀ (r + 1)) (F : Fr h₀ (le nm L fa cd).locals h m) (N' : News h₀ (le nm L fa cd).locals h M) (ok : KcOk w.params K) (H : MS w.params K i M ka kc kg R C gs S nd) (hf : MF K m) (hi : i ≤ 100) (hM : Iters M0 M) :
    wpAny (model prog w) A (execs (lb.drop 4) (le nm L fa cd)) (TurnEnd h₀ (le nm L fa cd).locals s₀ M0 (JS w.params K i) Q) NE (stt s₀ h t) := by
  obtain ⟨f1, f2, f3, ⟨u4, f4⟩⟩ := hf
  have zr := H.ml.z _ ok.zr
  have hs2 := H.s2
  unfold lb lbS
  dsimp only [List.drop]
  repeat walk_at "bm"
  refine i_list (j := 0) (by walk_at "bj_a") zr rfl rfl (by decide) ?_ (by with_unfolding_all rfl)
  repeat walk_at "bm"
  refine links_call G (by walk_at "bj_a") (by walk_at "bj_a") H.tab (H.inS false) (H.ml.rings false) (by have := H.csz false; omega) (H.inv.ring false).ok ?_
  clear F N'
  intro h₁ t₁ F₁ N₁
  repeat walk_at "bm"
  refine i_list (j := 1) (by walk_at "bj_a") zr rfl rfl (by decide) ?_ (by with_unfolding_all rfl)
  repeat walk_at "bm"
  refine links_call G (by walk_at "bj_a") (by walk_at "bj_a") H.tab (H.inS true) (H.ml.rings true) (by have := H.csz true; omega) (H.inv.ring true).ok ?_
  clear F₁ N₁
  intro h₂ t₂ F₂ N₂
  repeat walk_at "bm"
  refine chain_call G (by walk_at "bj_a") (by walk_at "bj_a") H.tab H.cS H.ml.chain (by omega) H.inv.chain.ok ?_
  clear F₂ N₂
  intro h₃ t₃ F₃ N₃
  repeat walk_at "bm"
  refine it_list (vs := gs.map fun g => Value.ref g.t) (k := kg) (fun j m M' => MF K m ∧ Sub M M') G.hh (by walk_at "bj_a") (by walk_at "bj_a") (fun j m M' z => z.2 _ H.ml.gone rfl) (fun j m M' M'' z s => ⟨z.1, z.2.trans s⟩) ⟨⟨f1, f2, f3, ⟨u4, f4⟩⟩, Sub.refl⟩ ?_ ?_
  · clear F₃ N₃
    rintro j v m₁ M₁ h₄ t₄ hv ⟨⟨g1, g2, g3, ⟨v4, g4⟩⟩, hs⟩ hIt F₄ N₄
    obtain ⟨g, hg, rfl⟩ : ∃ g, gs[j]? = some g ∧ Value.ref g.t = v := by
      rw [List.getElem?_map] at hv
      cases e : gs[j]? with
      | none => rw [e] at hv; cases hv
      | some g => rw [e] at hv; exact ⟨g, rfl, Option.some.inj hv⟩
    have hgm := List.mem_of_getElem? hg
    obtain ⟨_, e1, e2, e3, e4⟩ := H.inv.gone g hgm
    have ht := hs _ (H.ml.tups g hgm) rfl
    unfold goneO at ht
    have T₁ := H.tab.sub hs
    have hS := H.gS g hgm
    repeat walk_at "bm"
    walk_at "bj_get"
    rw [e1]
    repeat walk_at "bm"
    walk_at "bj_get"
    rw [e2]
    repeat walk_at "bm"
    refine i_tup (j := 2) (by walk_at "bj_a") ht rfl (by decide) rfl ?_ (by with_unfolding_all rfl)
    repeat walk_at "bm"
    walk_at "bj_get"
    rw [e3]
    repeat walk_at "bm"
    refine i_tup (j := 3) (by walk_at "bj_a") ht rfl (by decide) rfl ?_ (by with_unfolding_all rfl)
    refine c_isnO ?_
    repeat walk_at "bm"
    walk_at "bj_get"
    rw [e4]
    repeat walk_at "bm"
    refine i_tup (j := 4) (by walk_at "bj_a") ht rfl (by decide) rfl ?_ (by with_unfolding_all rfl)
    refine c_isnO ?_
    repeat walk_at "bm"
    exact te_next (by walk_at "bj_a") (by walk_at "bj_a") Iters.refl ⟨⟨by repeat walk_at "bj_m", by repeat walk_at "bj_m", by repeat walk_at "bj_m", ⟨_, by repeat walk_at "bj_m"⟩⟩, hs⟩
  · clear F₃ N₃
    rintro m₁ M₁ h₄ t₄ ⟨hf, hs⟩ hIt F₄ N₄
    show wpAny _ _ _ _ _ _
    exact te_next F₄ N₄ (hM.trans hIt) ⟨ka, kc, kg, R, C, gs, S, nd, H.ks ok hs, hf⟩
end
end

section
local macro_rules | `(tactic| walk_at "bj_gn") => `(tactic| first | with_reducible exact gn_len _ | with_reducible exact gn_range _ | with_reducible exact gn_list _ | with_reducible exact gn_reversed _)
local macro_rules | `(tactic| walk_at "bj_bt") => `(tactic| first | with_reducible exact PySem.boot_len | with_reducible exact PyProof.Rows.boot_range | with_reducible exact PyProof.Rows.boot_list | with_reducible exact PyProof.Rows.boot_reversed)
local macro_rules | `(tactic| walk_at "bj_gl") => `(tactic| first | with_reducible exact gl_31 _ | with_reducible exact gl_59 _ | with_reducible exact gl_70 _ | with_reducible exact gl_77 _ | with_reducible exact gl_84 _ | with_reducible exact gl_91 _ | with_reducible exact gl_92 _ | with_reducible exact gl_99 _ | with_reducible exact gl_106 _ | with_reducible exact gl_113 _ | with_reducible exact gl_120 _ | with_reducible exact gl_127 _ | with_reducible exact gl_134 _)
local macro_rules | `(tactic| walk_at "bj_kp") => `(tactic| first | with_reducible exact kp_31 _ | with_reducible exact kp_59 _ | with_reducible exact kp_70 _ | with_reducible exact kp_77 _ | with_reducible exact kp_84 _ | with_reducible exact kp_91 _ | with_reducible exact kp_99 _ | with_reducible exact kp_106 _ | with_reducible exact kp_113 _ | with_reducible exact kp_120 _ | with_reducible exact kp_127 _ | with_reducible exact kp_134 _)
local macro_rules | `(tactic| walk_at "bj_m") => `(tactic| first | (with_reducible assumption) | (with_reducible exact m_here) | ((with_reducible refine m_there ?hmt ?_); (case hmt => decide); walk_at "bj_m") | rfl)
local macro_rules | `(tactic| walk_at "bj_a") => `(tactic| (with_reducible assumption))
local macro_rules | `(tactic| walk_at "bj") => `(tactic| first
  | (with_reducible refine s_nilR ?_)
  | ((with_reducible refine' s_assignAttr ?_ ?hs); (case hs => rfl))
  | ((with_reducible refine' s_assign ?_ ?hs); (case hs => rfl))
  | (with_reducible refine' s_if ?_)
  | (with_reducible refine' s_ret ?_)
  | (with_reducible refine' s_aug ?_)
  | ((with_reducible refine' e_L ?G ?F ?hx ?hv ?_ ?hdb); (case G => walk_at "bj_a"); (case F => walk_at "bj_a"); (case hx => rfl); (case hdb => rfl); (case hv => walk_at "bj_m"))
  | ((with_reducible refine' l_L ?G ?F ?hx ?hv ?_); (case G => walk_at "bj_a"); (case F => walk_at "bj_a"); (case hx => rfl); (case hv => walk_at "bj_m"))
  | ((with_reducible refine' e_st ?G ?F ?N ?hx ?_); (case G => walk_at "bj_a"); (case F => walk_at "bj_a"); (case N => walk_at "bj_a"); (case hx => rfl); intro h' t' F' N')
  | ((with_reducible refine' e_attr ?_ ?he); (case he => with_unfolding_all rfl))
  | ((with_reducible refine' t_cmp ?_ ?hm); (case hm => with_unfolding_all rfl))
  | ((with_reducible refine' e_cmp ?_ ?hm); (case hm => with_unfolding_all rfl))
  | (with_reducible refine' e_bin ?_)
  | (with_reducible refine' t_not ?_)
  | (with_reducible refine' t_and ?_)
  | (with_reducible refine' t_or ?_)
  | (with_reducible refine' t_andN ?_)
  | (with_reducible refine' t_orN ?_)
  | (with_reducible refine' e_ifx ?_)
  | (with_reducible refine' e_and ?_)
  | (with_reducible refine' e_and1 ?_)
  | (with_reducible refine' e_un ?_)
  | (with_reducible refine' tb_bool ?_)
  | (with_reducible refine' tb_none ?_)
  | ((with_reducible refine' o_add ?_); intro u' t')
  | ((with_reducible refine' o_iadd ?_); intro u' t')
  | ((with_reducible refine' o_isub ?_); intro u' t')
  | ((with_reducible refine' o_sub ?_); intro u' t')
  | ((with_reducible refine' o_mod ?_ ?_); (decide); intro u' t')
  | ((with_reducible refine' o_neg ?_); intro u' t')
  | (with_reducible refine' c_eq ?_)
  | (with_reducible refine' c_ne ?_)
  | (with_reducible refine' c_lt ?_)
  | (with_reducible refine' c_gt ?_)
  | (with_reducible refine' c_le ?_)
  | (with_reducible refine' c_ge ?_)
  | (with_reducible refine' c_isB ?_)
  | (with_reducible refine' c_isnB ?_)
  | (with_reducible refine' c_eqB ?_)
  | (with_reducible refine' c_neB ?_)
  | (with_reducible refine' c_isRN ?_)
  | (with_reducible refine' c_isNN ?_)
  | (with_reducible refine' c_isnRN ?_)
  | (with_reducible refine' c_isnNR ?_)
  | (with_reducible refine' c_isnNN ?_)
  | (with_reducible refine' c_isnRS ?_)
  | (with_reducible refine' c_isRS ?_)
  | (with_reducible refine' if_t ?_)
  | (with_reducible refine' if_f ?_)
  | (with_reducible refine' if_nt ?_)
  | (with_reducible refine' if_nf ?_)
  | ((with_reducible refine' e_callG ?G ?F ?hx ?hdb ?eg ?hk ?_ ?hc ?he ?hp); (case G => walk_at "bj_a"); (case F => walk_at "bj_a"); (case hx => rfl); (case hdb => rfl); (case eg => walk_at "bj_gl"); (case hk => walk_at "bj_kp"); (case hc => rfl); (case he => rfl); (case hp => rfl))
  | ((with_reducible refine' e_callB ?G ?F ?hx ?hdb ?eg ?hv ?hn ?_ ?hc ?he ?hp); (case G => walk_at "bj_a"); (case F => walk_at "bj_a"); (case hx => rfl); (case hdb => rfl); (case eg => walk_at "bj_gn"); (case hv => walk_at "bj_bt"); (case hn => decide); (case hc => rfl); (case he => rfl); (case hp => rfl))
  | ((with_reducible refine' e_callT ?G ?F ?hx ?hdb ?eg ?hv ?hn ?_ ?hc ?he ?hp); (case G => walk_at "bj_a"); (case F => walk_at "bj_a"); (case hx => rfl); (case hdb => rfl); (case eg => walk_at "bj_gn"); (case hv => walk_at "bj_bt"); (case hn => decide); (case hc => rfl); (case he => rfl); (case hp => rfl))
  | ((with_reducible refine' o_len ?N ?hm ?hf ?_); (case N => walk_at "bj_a"); (case hm => walk_at "bj_a"); (case hf => walk_at "bj_a"); intro u' t')
  | ((with_reducible refine' o_range ?F ?N ?_); (case F => walk_at "bj_a"); (case N => walk_at "bj_a"); intro rg' h' t' a' b' c' R' F' N')
  | (with_reducible refine' e_sub ?_)
  | ((with_reducible refine' s_for ?G ?hx ?_ ?hs); (case G => walk_at "bj_a"); (case hx => rfl); (case hs => intro _; rfl))
  | ((with_reducible refine' a_cons ?_ ?he); (case he => rfl))
  | (with_reducible refine' a_nil ?_)
  | ((with_reducible refine' a_in ?G ?F ?_); (case G => walk_at "bj_a"); (case F => walk_at "bj_a"))
  | ((with_reducible refine' t_plain ?_ ?he); (case he => rfl))
  | (with_reducible refine' e_none ?_)
  | (with_reducible refine' e_bool ?_)
  | ((with_reducible refine' e_int ?_); intro u' t'))
local macro_rules | `(tactic| walk_at "bj_g5") => `(tactic| ((case G => walk_at "bj_a"); (case F => walk_at "bj_a"); (case N => walk_at "bj_a"); (case T => walk_at "bj_a"); (case hS => walk_at "bj_a")))
local macro_rules | `(tactic| walk_at "bj_get") => `(tactic| first
  | ((with_reducible refine' tg_next ?G ?F ?N ?T ?hS ?_); (case G => walk_at "bj_a"); (case F => walk_at "bj_a"); (case N => walk_at "bj_a"); (case T => walk_at "bj_a"); (case hS => walk_at "bj_a"); intro t')
  | ((with_reducible refine' tg_prev ?G ?F ?N ?T ?hS ?_); (case G => walk_at "bj_a"); (case F => walk_at "bj_a"); (case N => walk_at "bj_a"); (case T => walk_at "bj_a"); (case hS => walk_at "bj_a"); intro t')
  | ((with_reducible refine' tg_pz ?G ?F ?N ?T ?hS ?_); (case G => walk_at "bj_a"); (case F => walk_at "bj_a"); (case N => walk_at "bj_a"); (case T => walk_at "bj_a"); (case hS => walk_at "bj_a"); intro t')
  | ((with_reducible refine' tg_nz ?G ?F ?N ?T ?hS ?_); (case G => walk_at "bj_a"); (case F => walk_at "bj_a"); (case N => walk_at "bj_a"); (case T => walk_at "bj_a"); (case hS => walk_at "bj_a"); intro t')
  | ((with_reducible refine' tg_i ?G ?F ?N ?T ?hS ?_); (case G => walk_at "bj_a"); (case F => walk_at "bj_a"); (case N => walk_at "bj_a"); (case T => walk_at "bj_a"); (case hS => walk_at "bj_a"); intro t')
  | ((with_reducible refine' tg_point ?G ?F ?N ?T ?hS ?_); (case G => walk_at "bj_a"); (case F => walk_at "bj_a"); (case N => walk_at "bj_a"); (case T => walk_at "bj_a"); (case hS => walk_at "bj_a"); intro t')
  | ((with_reducible refine' tg_x ?G ?F ?N ?T ?hS ?_); (case G => walk_at "bj_a"); (case F => walk_at "bj_a"); (case N => walk_at "bj_a"); (case T => walk_at "bj_a"); (case hS => walk_at "bj_a"); intro t')
  | ((with_reducible refine' tg_y ?G ?F ?N ?T ?hS ?_); (case G => walk_at "bj_a"); (case F => walk_at "bj_a"); (case N => walk_at "bj_a"); (case T => walk_at "bj_a"); (case hS => walk_at "bj_a"); intro t')
  | ((with_reducible refine' tg_z ?G ?F ?N ?T ?hS ?_); (case G => walk_at "bj_a"); (case F => walk_at "bj_a"); (case N => walk_at "bj_a"); (case T => walk_at "bj_a"); (case hS => walk_at "bj_a"); intro t')
  | ((with_reducible refine' tg_st ?G ?F ?N ?T ?hS ?_); (case G => walk_at "bj_a"); (case F => walk_at "bj_a"); (case N => walk_at "bj_a"); (case T => walk_at "bj_a"); (case hS => walk_at "bj_a"); intro t'))
local macro_rules | `(tactic| walk_at "bj_set") => `(tactic| (first
  | (with_reducible refine' ts_prev ?G ?F ?N ?T ?hS ?_)
  | (with_reducible refine' ts_next ?G ?F ?N ?T ?hS ?_)
  | (with_reducible refine' ts_pz ?G ?F ?N ?T ?hS ?_)
  | (with_reducible refine' ts_nz ?G ?F ?N ?T ?hS ?_)
  | (with_reducible refine' ts_prevR ?G ?F ?N ?T ?hS ?_)
  | (with_reducible refine' ts_nextR ?G ?F ?N ?T ?hS ?_)
  | (with_reducible refine' ts_pzR ?G ?F ?N ?T ?hS ?_)
  | (with_reducible refine' ts_nzR ?G ?F ?N ?T ?hS ?_)))
local macro_rules | `(tactic| walk_at "bj_il") => `(tactic| ((with_reducible refine' i_list ?N ?hm ?hi ?hx ?hj ?k ?hs); (case N => walk_at "bj_a"); (case hm => walk_at "bj_a"); (case hs => with_unfolding_all rfl)))
local macro_rules | `(tactic| walk_at "bj_it") => `(tactic| ((with_reducible refine' i_tup ?N ?hm ?hi ?hj ?hx ?k ?hs); (case N => walk_at "bj_a"); (case hm => walk_at "bj_a"); (case hs => with_unfolding_all rfl)))
local macro_rules | `(tactic| walk_at "bk") => `(tactic| first
  | walk_at "bj"
  | ((with_reducible refine' s_exprA ?_ ?hi ?hs); (case hi => rfl); (case hs => rfl))
  | ((with_reducible refine' e_meth ?_ ?hm ?he ?hp); (case hm => rfl); (case he => rfl); (case hp => rfl))
  | (with_reducible refine' e_list ?_)
  | (with_reducible refine' e_tup ?_)
  | ((with_reducible refine' i_list ?N ?hm ?hi ?hx ?hj ?_ ?hs); (case N => walk_at "bj_a"); (case hm => walk_at "bj_a"); (case hi => with_reducible rfl); (case hx => exact map_get (by with_reducible assumption)); (case hj => omega); (case hs => with_unfolding_all rfl))
  | ((with_reducible refine' i_tup (j := 0) ?N ?hm ?hi ?hj ?hx ?_ ?hs); (case N => walk_at "bj_a"); (case hm => walk_at "bj_a"); (case hi => rfl); (case hj => decide); (case hx => rfl); (case hs => with_unfolding_all rfl))
  | ((with_reducible refine' i_tup (j := 1) ?N ?hm ?hi ?hj ?hx ?_ ?hs); (case N => walk_at "bj_a"); (case hm => walk_at "bj_a"); (case hi => rfl); (case hj => decide); (case hx => rfl); (case hs => with_unfolding_all rfl)))
local macro_rules | `(tactic| walk_at "bm") => `(tactic| first
  | walk_at "bk"
  | ((with_reducible refine' e_C ?G ?N ?hx ?hc ?hdb ?hv ?_); (case G => walk_at "bj_a"); (case N => walk_at "bj_a"); (case hx => rfl); (case hc => rfl); (case hdb => rfl); (case hv => walk_at "bj_a"))
  | ((with_reducible refine' o_fdiv ?_ ?_ ?_); (decide); (decide); intro u' t')
  | (with_reducible refine' e_slc ?_)
  | (with_reducible refine' p_none ?_)
  | (with_reducible refine' p_some ?_))
noncomputable def b1S : {x : List Stmt // x = (match lb.drop 3 with | .If _ b _ _ :: _ => b | _ => [])} := by
  refine ⟨?b, ?h⟩
  case h => conv => rhs; whnf
noncomputable def b1 : List Stmt := b1S.1
def PT (P : Params) (h₀ : Heap) (L : Addr) (s₀ : Shared) (K : Kc) (i : Nat) (M0 : Led) (σ : Shared) : Prop :=
  ∃ h' t' m' M' ka kc kg R C gs S nd, σ = stt s₀ h' t' ∧ Fr h₀ L h' m' ∧ News h₀ L h' M' ∧ Iters M0 M' ∧ MS P K i M' ka kc kg R C gs S nd ∧ MF K m'

theorem pt_nl {P : Params} {p : Pt} {vs : Array Value} {k : Nat} : ptD P p ≠ PySem.W.listOf vs k := fun e => absurd (Value.type.inj (congrArg Obj.cls e)) (by decide)
theorem split_at {l : List Addr} {k : Nat} (h : k < l.length) : ∃ A q B, l = A ++ q :: B ∧ A.length = k ∧ l[k]? = some q := by
  refine ⟨l.take k, l[k], l.drop (k + 1), ?_, by rw [List.length_take]; omega, List.getElem?_eq_getElem h⟩
  rw [List.getElem_cons_drop, List.take_append_drop]
theorem fmod_nat' {z : Int} {n : Nat} (h : 0 < n) : ∃ k : Nat, z.fmod (n : Int) = (k : Int) ∧ k < n := by
  have h1 := Int.fmod_nonneg_of_pos z (show (0 : Int) < (n : Int) by omega)
  have h2 := Int.fmod_lt_of_pos z (show (0 : Int) < (n : Int) by omega)
  exact ⟨(z.fmod n).toNat, by omega, by omega⟩

section
variable {prog : Program} {w : World} {A : Around} {nm : Str} {L fa : Addr} {cd : Value} {h₀ : Heap} {s₀ : Shared} {h : Heap} {t : Nat} {m : Str → Option Value} {M M0 : Led} {r : Nat} {K : Kc} {ka : Bool → Nat} {kc kg i : Nat} {R : Bool → List Addr} {C : List Addr} {gs : List Gone} {S : Addr → Prop} {nd : Addr → Nd} {β : Bool}

theorem MS.fresh {p : Addr} (H : MS w.params K i M ka kc kg R C gs S nd) (hlt : ∀ x ∈ M, x.1 < p) : (∀ b, p ∉ R b) ∧ ∀ g ∈ gs, g.node ≠ p := by
  constructor
  · intro b hb
    exact absurd (hlt _ (H.tab.has p (H.inS b p hb)).1) (Nat.lt_irrefl _)
  · intro g hg e
    have h1 := hlt _ (H.tab.has _ (H.gS g hg)).1
    rw [e] at h1
    exact Nat.lt_irrefl _ h1
theorem setR_sum {X : List Addr} : (setR R β X false).length + (setR R β X true).length + (R β).length = (R false).length + (R true).length + X.length := by
  cases β <;> simp [setR] <;> omega

theorem br1 {place : Int} {u : Tok} (G : Gd w A (le nm L fa cd) h₀ (r + 3)) (F : Fr h₀ (le nm L fa cd).locals h m) (N' : News h₀ (le nm L fa cd).locals h M) (ok : KcOk w.params K) (H : MS w.params K i M ka kc kg R C gs S nd) (hf : MF K m) (hi : i ≤ 100) (hM : Iters M0 M)
    (mp : m "place" = some (.int place u)) (mr : m "ring" = some (.ref (K.la β))) :
    wpAny (model prog w) A (execs b1 (le nm L fa cd)) (onlyN (PT w.params h₀ (le nm L fa cd).locals s₀ K (i + 1) M0)) NE (stt s₀ h t) := by
  obtain ⟨f1, f2, f3, ⟨u4, f4⟩⟩ := hf
  have hs2 := H.s2
  have hs3 := H.s3
  have hsb := H.csz β
  unfold b1 b1S
  dsimp only
  repeat walk_at "bm"
  refine mkPoint (r := r + 1) G F N' ?_
  clear F N'
  intro h₁ t₁ a pp F₁ N₁ l1 l2 ex ey
  have up : ∀ p ∈ M, p ∈ (a, instObj 31 pp.d) :: (pp.d, ptD w.params pp) :: M := fun p hp => .tail _ (.tail _ hp)
  have hP : HasP w.params ((a, instObj 31 pp.d) :: (pp.d, ptD w.params pp) :: M) a pp := ⟨.head _, .tail _ (.head _)⟩
  replace H := H.ks ok (Sub.of_sub up)
  replace hM := hM.trans (Iters.sub up)
  clear up l1 l2
  generalize (a, instObj 31 pp.d) :: (pp.d, ptD w.params pp) :: M = M₁ at N₁ hP H hM
  walk_at "bm"
  clear F₁ N₁
  rename_i h₂ t₂ F₂ N₂
  refine s_ifJ (fun σ => ∃ h' t' m' M' ka kc kg R C gs S nd p, σ = stt s₀ h' t' ∧ Fr h₀ (le nm L fa cd).locals h' m' ∧ News h₀ (le nm L fa cd).locals h' M' ∧ Iters M0 M' ∧ MS w.params K (i + 1) M' ka kc kg R C gs S nd ∧ MF K m' ∧
    m' "made" = some (.ref p) ∧ m' "place" = some (.int place u) ∧ m' "point" = some (.ref a) ∧ S p ∧ HasP w.params M' a pp ∧ (nd p).i = place ∧ (nd p).pt = a ∧ (nd p).x = pp.x ∧ (nd p).y = pp.y) ?_ ?_
  · repeat walk_at "bm"
    refine tb_list (by walk_at "bj_a") (H.ml.rings β) (by rw [List.length_map]; omega) fun t' => ?_
    cases hR : R β with
    | nil =>
      rw [List.map_nil, List.isEmpty_nil]
      repeat walk_at "bm"
      refine ins0_call G (by walk_at "bj_a") (by walk_at "bj_a") H.tab hP ?_
      clear F₂ N₂
      intro h₃ t₃ M₃ p n F₃ N₃ K₃ hlt e1 e2 e3 e4 e5 e6 T₃
      obtain ⟨hfr, hfg⟩ := H.fresh hlt
      have ml₃ := H.ml.ks ok (KS.of_keep K₃)
      have hl₃ : (K.la β, PySem.W.listOf ([] : List Value).toArray (ka β)) ∈ M₃ := by have := ml₃.rings β; rw [hR] at this; exact this
      repeat walk_at "bm"
      refine g_append (by walk_at "bj_a") hl₃ ⟨_, rfl, ?_⟩
      repeat walk_at "bm"
      refine l_append (by walk_at "bj_a") (by walk_at "bj_a") hl₃ (Nat.zero_le _) ?_
      intro h₄ F₄ N₄
      have hsum := setR_sum (R := R) (β := β) (X := [p])
      rw [hR] at hsum
      have hs1 := H.s1
      simp only [List.length_singleton, List.length_nil] at hsum
      refine s_nilN ⟨_, _, _, _, _, _, _, _, _, _, _, _, p, rfl, F₄, N₄, (hM.trans (Iters.keep K₃)).trans (Iters.putL N₃ hl₃),
        ⟨ML.putR (X := [p]) ok N₃ ml₃, Tab.putL N₃ hl₃ T₃, ?_, fun g hg => .inr (H.gS g hg), H.inv.insert0 hR hfr hfg e5 e6, by omega, by omega, by omega⟩, ⟨by repeat walk_at "bj_m", by repeat walk_at "bj_m", by repeat walk_at "bj_m", ⟨_, by repeat walk_at "bj_m"⟩⟩,
        by repeat walk_at "bj_m", by repeat walk_at "bj_m", by repeat walk_at "bj_m", .inl rfl, ?_, ?_, ?_, ?_, ?_⟩
      · intro b x hx
        by_cases hb : b = β
        · subst hb; rw [setR_self] at hx; exact .inl (List.mem_singleton.mp hx)
        · rw [setR_other hb] at hx; exact .inr (H.inS b x hx)
      · exact ⟨put_other N₃ hl₃ (K₃ _ hP.1 ne_ref) (by intro e; cases e), put_other N₃ hl₃ (K₃ _ hP.2 ne_pt) pt_nl⟩
      · rw [(insZ_alike p).1, upd_self]; exact e1
      · rw [(insZ_alike p).2.1, upd_self]; exact e2
      · rw [(insZ_alike p).2.2.1, upd_self]; exact e3
      · rw [(insZ_alike p).2.2.2, upd_self]; exact e4
    | cons q0 X0 =>
      rw [← hR]
      have hpos : 0 < (R β).length := by rw [hR]; simp
      have hne : ((R β).map Value.ref).isEmpty = false := by rw [hR]; rfl
      clear hR
      rw [hne]
      have hl := H.ml.rings β
      have hlen : ((R β).map Value.ref).length < 2 ^ 62 := by rw [List.length_map]; omega
      repeat walk_at "bm"
      refine o_mod (by rw [List.length_map]; omega) fun u' t' => ?_
      obtain ⟨k, hk, hkl⟩ := fmod_nat' (z := place) hpos
      obtain ⟨X, q, Y, hR, hX, hq⟩ := split_at hkl
      rw [List.length_map, hk]
      repeat walk_at "bm"
      obtain ⟨c, hc⟩ := nx_some hkl
      have ec := ((H.inv.ring β).ok k q c hq hc).1
      have hqS := H.inS β q (List.mem_of_getElem? hq)
      refine ins_call G (by walk_at "bj_a") (by walk_at "bj_a") H.tab hP hqS ec (H.inS β c (List.mem_of_getElem? hc)) ?_
      clear F₂ N₂
      intro h₃ t₃ M₃ p n F₃ N₃ K₃ hlt e1 e2 e3 e4 e5 e6 T₃
      obtain ⟨hfr, hfg⟩ := H.fresh hlt
      have ml₃ := H.ml.ks ok (KS.of_keep K₃)
      have hl₃ := ml₃.rings β
      have hqp : q ≠ p := fun e => hfr β (e ▸ List.mem_of_getElem? hq)
      repeat walk_at "bm"
      refine g_insert (by walk_at "bj_a") hl₃ ⟨_, rfl, ?_⟩
      repeat walk_at "bm"
      refine l_insert (j := k + 1) (by walk_at "bj_a") (by walk_at "bj_a") hl₃ (by omega) (by rw [List.length_map]; omega) (by rw [List.length_map]; omega) ?_
      intro h₄ F₄ N₄
      have hsum := setR_sum (R := R) (β := β) (X := X ++ q :: p :: Y)
      rw [hR] at hsum
      have hs1 := H.s1
      simp only [List.length_append, List.length_cons] at hsum
      have hput : ((R β).map Value.ref).take (k + 1) ++ Value.ref p :: ((R β).map Value.ref).drop (k + 1) = (X ++ q :: p :: Y).map Value.ref := by
        rw [hR, ← List.map_take, ← List.map_drop]
        rw [show X ++ q :: Y = (X ++ [q]) ++ Y by simp, List.take_left' (by simp [hX]), List.drop_left' (by simp [hX])]
        simp
      rw [hput] at N₄
      refine s_nilN ⟨_, _, _, _, _, _, _, _, _, _, _, _, p, rfl, F₄, N₄, (hM.trans (Iters.keep K₃)).trans (Iters.putL N₃ hl₃),
        ⟨ML.putR (X := X ++ q :: p :: Y) ok N₃ ml₃, Tab.putL N₃ hl₃ T₃, ?_, fun g hg => .inr (H.gS g hg), H.inv.insert hR hfr hfg ec e5 e6, by omega, by omega, by omega⟩, ⟨by repeat walk_at "bj_m", by repeat walk_at "bj_m", by repeat walk_at "bj_m", ⟨_, by repeat walk_at "bj_m"⟩⟩,
        by repeat walk_at "bj_m", by repeat walk_at "bj_m", by repeat walk_at "bj_m", .inl rfl, ?_, ?_, ?_, ?_, ?_⟩
      · intro b x hx
        by_cases hb : b = β
        · subst hb
          rw [setR_self] at hx
          by_cases hxp : x = p
          · exact .inl hxp
          · refine .inr (H.inS b x ?_)
            rw [hR]
            simp only [List.mem_append, List.mem_cons] at hx ⊢
            rcases hx with h1 | h1 | h1 | h1
            · exact .inl h1
            · exact .inr (.inl h1)
            · exact absurd h1 hxp
            · exact .inr (.inr h1)
        · rw [setR_other hb] at hx; exact .inr (H.inS b x hx)
      · exact ⟨put_other N₃ hl₃ (K₃ _ hP.1 ne_ref) (by intro e; cases e), put_other N₃ hl₃ (K₃ _ hP.2 ne_pt) pt_nl⟩
      · rw [(insN_alike p).1, upd_self]; exact e1
      · rw [(insN_alike p).2.1, upd_self]; exact e2
      · rw [(insN_alike p).2.2.1, upd_self]; exact e3
      · rw [(insN_alike p).2.2.2, upd_self]; exact e4
  · clear F₂ N₂
    rintro σ ⟨h₃, t₃, m₃, M₃, ka₃, kc₃, kg₃, R₃, C₃, gs₃, S₃, nd₃, p, rfl, F₃, N₃, I₃, H₃, hf₃, m1, m2, m3, hS, hP₃, e1, e2, e3, e4⟩
    repeat walk_at "bm"
    refine fresh_call (r := r + 2) G (by walk_at "bj_a") (by walk_at "bj_a") H₃.tab hS hP₃ e1 e2 e3 e4 ?_
    intro h₄ t₄ F₄ N₄
    repeat walk_at "bm"
    exact s_nilN ⟨_, _, _, M₃, ka₃, kc₃, kg₃, R₃, C₃, gs₃, S₃, nd₃, rfl, F₄, N₄, I₃, H₃, hf₃⟩
end
end

section
local macro_rules | `(tactic| walk_at "bj_gn") => `(tactic| first | with_reducible exact gn_len _ | with_reducible exact gn_range _ | with_reducible exact gn_list _ | with_reducible exact gn_reversed _)
local macro_rules | `(tactic| walk_at "bj_bt") => `(tactic| first | with_reducible exact PySem.boot_len | with_reducible exact PyProof.Rows.boot_range | with_reducible exact PyProof.Rows.boot_list | with_reducible exact PyProof.Rows.boot_reversed)
local macro_rules | `(tactic| walk_at "bj_gl") => `(tactic| first | with_reducible exact gl_31 _ | with_reducible exact gl_59 _ | with_reducible exact gl_70 _ | with_reducible exact gl_77 _ | with_reducible exact gl_84 _ | with_reducible exact gl_91 _ | with_reducible exact gl_92 _ | with_reducible exact gl_99 _ | with_reducible exact gl_106 _ | with_reducible exact gl_113 _ | with_reducible exact gl_120 _ | with_reducible exact gl_127 _ | with_reducible exact gl_134 _)
local macro_rules | `(tactic| walk_at "bj_kp") => `(tactic| first | with_reducible exact kp_31 _ | with_reducible exact kp_59 _ | with_reducible exact kp_70 _ | with_reducible exact kp_77 _ | with_reducible exact kp_84 _ | with_reducible exact kp_91 _ | with_reducible exact kp_99 _ | with_reducible exact kp_106 _ | with_reducible exact kp_113 _ | with_reducible exact kp_120 _ | with_reducible exact kp_127 _ | with_reducible exact kp_134 _)
local macro_rules | `(tactic| walk_at "bj_m") => `(tactic| first | (with_reducible assumption) | (with_reducible exact m_here) | ((with_reducible refine m_there ?hmt ?_); (case hmt => decide); walk_at "bj_m") | rfl)
local macro_rules | `(tactic| walk_at "bj_a") => `(tactic| (with_reducible assumption))
local macro_rules | `(tactic| walk_at "bj") => `(tactic| first
  | (with_reducible refine s_nilR ?_)
  | ((with_reducible refine' s_assignAttr ?_ ?hs); (case hs => rfl))
  | ((with_reducible refine' s_assign ?_ ?hs); (case hs => rfl))
  | (with_reducible refine' s_if ?_)
  | (with_reducible refine' s_ret ?_)
  | (with_reducible refine' s_aug ?_)
  | ((with_reducible refine' e_L ?G ?F ?hx ?hv ?_ ?hdb); (case G => walk_at "bj_a"); (case F => walk_at "bj_a"); (case hx => rfl); (case hdb => rfl); (case hv => walk_at "bj_m"))
  | ((with_reducible refine' l_L ?G ?F ?hx ?hv ?_); (case G => walk_at "bj_a"); (case F => walk_at "bj_a"); (case hx => rfl); (case hv => walk_at "bj_m"))
  | ((with_reducible refine' e_st ?G ?F ?N ?hx ?_); (case G => walk_at "bj_a"); (case F => walk_at "bj_a"); (case N => walk_at "bj_a"); (case hx => rfl); intro h' t' F' N')
  | ((with_reducible refine' e_attr ?_ ?he); (case he => with_unfolding_all rfl))
  | ((with_reducible refine' t_cmp ?_ ?hm); (case hm => with_unfolding_all rfl))
  | ((with_reducible refine' e_cmp ?_ ?hm); (case hm => with_unfolding_all rfl))
  | (with_reducible refine' e_bin ?_)
  | (with_reducible refine' t_not ?_)
  | (with_reducible refine' t_and ?_)
  | (with_reducible refine' t_or ?_)
  | (with_reducible refine' t_andN ?_)
  | (with_reducible refine' t_orN ?_)
  | (with_reducible refine' e_ifx ?_)
  | (with_reducible refine' e_and ?_)
  | (with_reducible refine' e_and1 ?_)
  | (with_reducible refine' e_un ?_)
  | (with_reducible refine' tb_bool ?_)
  | (with_reducible refine' tb_none ?_)
  | ((with_reducible refine' o_add ?_); intro u' t')
  | ((with_reducible refine' o_iadd ?_); intro u' t')
  | ((with_reducible refine' o_isub ?_); intro u' t')
  | ((with_reducible refine' o_sub ?_); intro u' t')
  | ((with_reducible refine' o_mod ?_ ?_); (decide); intro u' t')
  | ((with_reducible refine' o_neg ?_); intro u' t')
  | (with_reducible refine' c_eq ?_)
  | (with_reducible refine' c_ne ?_)
  | (with_reducible refine' c_lt ?_)
  | (with_reducible refine' c_gt ?_)
  | (with_reducible refine' c_le ?_)
  | (with_reducible refine' c_ge ?_)
  | (with_reducible refine' c_isB ?_)
  | (with_reducible refine' c_isnB ?_)
  | (with_reducible refine' c_eqB ?_)
  | (with_reducible refine' c_neB ?_)
  | (with_reducible refine' c_isRN ?_)
  | (with_reducible refine' c_isNN ?_)
  | (with_reducible refine' c_isnRN ?_)
  | (with_reducible refine' c_isnNR ?_)
  | (with_reducible refine' c_isnNN ?_)
  | (with_reducible refine' c_isnRS ?_)
  | (with_reducible refine' c_isRS ?_)
  | (with_reducible refine' if_t ?_)
  | (with_reducible refine' if_f ?_)
  | (with_reducible refine' if_nt ?_)
  | (with_reducible refine' if_nf ?_)
  | ((with_reducible refine' e_callG ?G ?F ?hx ?hdb ?eg ?hk ?_ ?hc ?he ?hp); (case G => walk_at "bj_a"); (case F => walk_at "bj_a"); (case hx => rfl); (case hdb => rfl); (case eg => walk_at "bj_gl"); (case hk => walk_at "bj_kp"); (case hc => rfl); (case he => rfl); (case hp => rfl))
  | ((with_reducible refine' e_callB ?G ?F ?hx ?hdb ?eg ?hv ?hn ?_ ?hc ?he ?hp); (case G => walk_at "bj_a"); (case F => walk_at "bj_a"); (case hx => rfl); (case hdb => rfl); (case eg => walk_at "bj_gn"); (case hv => walk_at "bj_bt"); (case hn => decide); (case hc => rfl); (case he => rfl); (case hp => rfl))
  | ((with_reducible refine' e_callT ?G ?F ?hx ?hdb ?eg ?hv ?hn ?_ ?hc ?he ?hp); (case G => walk_at "bj_a"); (case F => walk_at "bj_a"); (case hx => rfl); (case hdb => rfl); (case eg => walk_at "bj_gn"); (case hv => walk_at "bj_bt"); (case hn => decide); (case hc => rfl); (case he => rfl); (case hp => rfl))
  | ((with_reducible refine' o_len ?N ?hm ?hf ?_); (case N => walk_at "bj_a"); (case hm => walk_at "bj_a"); (case hf => walk_at "bj_a"); intro u' t')
  | ((with_reducible refine' o_range ?F ?N ?_); (case F => walk_at "bj_a"); (case N => walk_at "bj_a"); intro rg' h' t' a' b' c' R' F' N')
  | (with_reducible refine' e_sub ?_)
  | ((with_reducible refine' s_for ?G ?hx ?_ ?hs); (case G => walk_at "bj_a"); (case hx => rfl); (case hs => intro _; rfl))
  | ((with_reducible refine' a_cons ?_ ?he); (case he => rfl))
  | (with_reducible refine' a_nil ?_)
  | ((with_reducible refine' a_in ?G ?F ?_); (case G => walk_at "bj_a"); (case F => walk_at "bj_a"))
  | ((with_reducible refine' t_plain ?_ ?he); (case he => rfl))
  | (with_reducible refine' e_none ?_)
  | (with_reducible refine' e_bool ?_)
  | ((with_reducible refine' e_int ?_); intro u' t'))
local macro_rules | `(tactic| walk_at "bj_g5") => `(tactic| ((case G => walk_at "bj_a"); (case F => walk_at "bj_a"); (case N => walk_at "bj_a"); (case T => walk_at "bj_a"); (case hS => walk_at "bj_a")))
local macro_rules | `(tactic| walk_at "bj_get") => `(tactic| first
  | ((with_reducible refine' tg_next ?G ?F ?N ?T ?hS ?_); (case G => walk_at "bj_a"); (case F => walk_at "bj_a"); (case N => walk_at "bj_a"); (case T => walk_at "bj_a"); (case hS => walk_at "bj_a"); intro t')
  | ((with_reducible refine' tg_prev ?G ?F ?N ?T ?hS ?_); (case G => walk_at "bj_a"); (case F => walk_at "bj_a"); (case N => walk_at "bj_a"); (case T => walk_at "bj_a"); (case hS => walk_at "bj_a"); intro t')
  | ((with_reducible refine' tg_pz ?G ?F ?N ?T ?hS ?_); (case G => walk_at "bj_a"); (case F => walk_at "bj_a"); (case N => walk_at "bj_a"); (case T => walk_at "bj_a"); (case hS => walk_at "bj_a"); intro t')
  | ((with_reducible refine' tg_nz ?G ?F ?N ?T ?hS ?_); (case G => walk_at "bj_a"); (case F => walk_at "bj_a"); (case N => walk_at "bj_a"); (case T => walk_at "bj_a"); (case hS => walk_at "bj_a"); intro t')
  | ((with_reducible refine' tg_i ?G ?F ?N ?T ?hS ?_); (case G => walk_at "bj_a"); (case F => walk_at "bj_a"); (case N => walk_at "bj_a"); (case T => walk_at "bj_a"); (case hS => walk_at "bj_a"); intro t')
  | ((with_reducible refine' tg_point ?G ?F ?N ?T ?hS ?_); (case G => walk_at "bj_a"); (case F => walk_at "bj_a"); (case N => walk_at "bj_a"); (case T => walk_at "bj_a"); (case hS => walk_at "bj_a"); intro t')
  | ((with_reducible refine' tg_x ?G ?F ?N ?T ?hS ?_); (case G => walk_at "bj_a"); (case F => walk_at "bj_a"); (case N => walk_at "bj_a"); (case T => walk_at "bj_a"); (case hS => walk_at "bj_a"); intro t')
  | ((with_reducible refine' tg_y ?G ?F ?N ?T ?hS ?_); (case G => walk_at "bj_a"); (case F => walk_at "bj_a"); (case N => walk_at "bj_a"); (case T => walk_at "bj_a"); (case hS => walk_at "bj_a"); intro t')
  | ((with_reducible refine' tg_z ?G ?F ?N ?T ?hS ?_); (case G => walk_at "bj_a"); (case F => walk_at "bj_a"); (case N => walk_at "bj_a"); (case T => walk_at "bj_a"); (case hS => walk_at "bj_a"); intro t')
  | ((with_reducible refine' tg_st ?G ?F ?N ?T ?hS ?_); (case G => walk_at "bj_a"); (case F => walk_at "bj_a"); (case N => walk_at "bj_a"); (case T => walk_at "bj_a"); (case hS => walk_at "bj_a"); intro t'))
local macro_rules | `(tactic| walk_at "bj_set") => `(tactic| (first
  | (with_reducible refine' ts_prev ?G ?F ?N ?T ?hS ?_)
  | (with_reducible refine' ts_next ?G ?F ?N ?T ?hS ?_)
  | (with_reducible refine' ts_pz ?G ?F ?N ?T ?hS ?_)
  | (with_reducible refine' ts_nz ?G ?F ?N ?T ?hS ?_)
  | (with_reducible refine' ts_prevR ?G ?F ?N ?T ?hS ?_)
  | (with_reducible refine' ts_nextR ?G ?F ?N ?T ?hS ?_)
  | (with_reducible refine' ts_pzR ?G ?F ?N ?T ?hS ?_)
  | (with_reducible refine' ts_nzR ?G ?F ?N ?T ?hS ?_)))
local macro_rules | `(tactic| walk_at "bj_il") => `(tactic| ((with_reducible refine' i_list ?N ?hm ?hi ?hx ?hj ?k ?hs); (case N => walk_at "bj_a"); (case hm => walk_at "bj_a"); (case hs => with_unfolding_all rfl)))
local macro_rules | `(tactic| walk_at "bj_it") => `(tactic| ((with_reducible refine' i_tup ?N ?hm ?hi ?hj ?hx ?k ?hs); (case N => walk_at "bj_a"); (case hm => walk_at "bj_a"); (case hs => with_unfolding_all rfl)))
local macro_rules | `(tactic| walk_at "bk") => `(tactic| first
  | walk_at "bj"
  | ((with_reducible refine' s_exprA ?_ ?hi ?hs); (case hi => rfl); (case hs => rfl))
  | ((with_reducible refine' e_meth ?_ ?hm ?he ?hp); (case hm => rfl); (case he => rfl); (case hp => rfl))
  | (with_reducible refine' e_list ?_)
  | (with_reducible refine' e_tup ?_)
  | ((with_reducible refine' i_list ?N ?hm ?hi ?hx ?hj ?_ ?hs); (case N => walk_at "bj_a"); (case hm => walk_at "bj_a"); (case hi => with_reducible rfl); (case hx => exact map_get (by with_reducible assumption)); (case hj => omega); (case hs => with_unfolding_all rfl))
  | ((with_reducible refine' i_tup (j := 0) ?N ?hm ?hi ?hj ?hx ?_ ?hs); (case N => walk_at "bj_a"); (case hm => walk_at "bj_a"); (case hi => rfl); (case hj => decide); (case hx => rfl); (case hs => with_unfolding_all rfl))
  | ((with_reducible refine' i_tup (j := 1) ?N ?hm ?hi ?hj ?hx ?_ ?hs); (case N => walk_at "bj_a"); (case hm => walk_at "bj_a"); (case hi => rfl); (case hj => decide); (case hx => rfl); (case hs => with_unfolding_all rfl)))
local macro_rules | `(tactic| walk_at "bm") => `(tactic| first
  | walk_at "bk"
  | ((with_reducible refine' e_C ?G ?N ?hx ?hc ?hdb ?hv ?_); (case G => walk_at "bj_a"); (case N => walk_at "bj_a"); (case hx => rfl); (case hc => rfl); (case hdb => rfl); (case hv => walk_at "bj_a"))
  | ((with_reducible refine' o_fdiv ?_ ?_ ?_); (decide); (decide); intro u' t')
  | (with_reducible refine' e_slc ?_)
  | (with_reducible refine' p_none ?_)
  | (with_reducible refine' p_some ?_))
noncomputable def b2S : {x : List Stmt // x = (match lb.drop 3 with | .If _ _ o _ :: _ => (match o with | .If _ b _ _ :: _ => b | _ => []) | _ => [])} := by
  refine ⟨?b, ?h⟩
  case h => conv => rhs; whnf
noncomputable def b2 : List Stmt := b2S.1
section
variable {prog : Program} {w : World} {A : Around} {nm : Str} {L fa : Addr} {cd : Value} {h₀ : Heap} {s₀ : Shared} {h : Heap} {t : Nat} {m : Str → Option Value} {M M0 : Led} {r : Nat} {K : Kc} {ka : Bool → Nat} {kc kg i : Nat} {R : Bool → List Addr} {C : List Addr} {gs : List Gone} {S : Addr → Prop} {nd : Addr → Nd} {β : Bool}

theorem br2c {X Y C' : List Addr} {p a b : Addr} {kr' kc' : Nat} (F : Fr h₀ (le nm L fa cd).locals h m) (G : Gd w A (le nm L fa cd) h₀ (r + 1)) (N' : News h₀ (le nm L fa cd).locals h M) (ok : KcOk w.params K) (ml : ML K M (setK ka β kr') kc' kg (setR R β (X ++ Y)) C' gs) (T : Tab w.params M S (rmv nd p a b))
    (inS : ∀ b a, a ∈ R b → S a) (gS : ∀ g ∈ gs, S g.node) (inv : ∀ t, LInv (rmv nd p a b) (setR R β (X ++ Y)) C' (gs ++ [⟨t, p, b, a, (nd p).pz, (nd p).nz⟩])) (hR : R β = X ++ p :: Y)
    (s1 : (R false).length + (R true).length ≤ 9 + i) (s2 : C'.length ≤ i) (s3 : gs.length ≤ i) (hf : MF K m) (hi : i ≤ 100) (hM : Iters M0 M)
    (m2 : m "one" = some (.ref p)) (m3 : m "before" = some (.ref b)) (m4 : m "behind" = some (.ref a)) (m5 : m "lower" = some (orf (nd p).pz)) (m6 : m "upper" = some (orf (nd p).nz)) :
    wpAny (model prog w) A (execs (b2.drop 10) (le nm L fa cd)) (onlyN (PT w.params h₀ (le nm L fa cd).locals s₀ K (i + 1) M0)) NE (stt s₀ h t) := by
  obtain ⟨f1, f2, f3, ⟨u4, f4⟩⟩ := hf
  unfold b2 b2S
  dsimp only [List.drop]
  repeat walk_at "bm"
  refine g_append (by walk_at "bj_a") ml.gone ⟨_, rfl, ?_⟩
  repeat walk_at "bm"
  refine n_tup (by walk_at "bj_a") (by walk_at "bj_a") (by simp) ?_
  clear F N'
  intro tt h₁ F₁ N₁ hlt
  have up : ∀ q ∈ M, q ∈ (tt, goneO ⟨tt, p, b, a, (nd p).pz, (nd p).nz⟩) :: M := fun q hq => .tail _ hq
  replace N₁ : News h₀ (le nm L fa cd).locals h₁ ((tt, goneO ⟨tt, p, b, a, (nd p).pz, (nd p).nz⟩) :: M) := N₁
  have ml₁ := ml.ks ok (KS.of_sub up)
  have T₁ : Tab w.params _ S (rmv nd p a b) := T.sub (Sub.of_sub up)
  have hM₁ := hM.trans (Iters.sub up)
  have ht : (tt, goneO ⟨tt, p, b, a, (nd p).pz, (nd p).nz⟩) ∈ (tt, goneO ⟨tt, p, b, a, (nd p).pz, (nd p).nz⟩) :: M := .head _
  generalize (tt, goneO ⟨tt, p, b, a, (nd p).pz, (nd p).nz⟩) :: M = M₁ at N₁ ml₁ T₁ hM₁ ht
  repeat walk_at "bm"
  refine l_append (by walk_at "bj_a") (by walk_at "bj_a") ml₁.gone (by rw [List.length_map]; omega) ?_
  intro h₂ F₂ N₂
  have hsum := setR_sum (R := R) (β := β) (X := X ++ Y)
  rw [hR] at hsum
  simp only [List.length_append, List.length_cons] at hsum
  repeat walk_at "bm"
  rw [show (List.map (fun g : Gone => Value.ref g.t) gs ++ [Value.ref tt]) = (gs ++ [(⟨tt, p, b, a, (nd p).pz, (nd p).nz⟩ : Gone)]).map (fun g : Gone => Value.ref g.t) by rw [List.map_append]; rfl] at N₂
  refine s_nilN ⟨_, _, _, _, _, _, _, _, _, _, _, _, rfl, F₂, N₂, hM₁.trans (Iters.putL N₁ ml₁.gone), ⟨ML.putG (g := ⟨tt, p, b, a, (nd p).pz, (nd p).nz⟩) ok N₁ ml₁ ht, Tab.putL N₁ ml₁.gone T₁, ?_, ?_, inv tt, by omega, by omega, by rw [List.length_append, List.length_singleton]; omega⟩, ⟨f1, f2, f3, ⟨_, f4⟩⟩⟩
  · intro b' x hx
    by_cases hb : b' = β
    · subst hb
      rw [setR_self] at hx
      refine inS b' x ?_
      rw [hR]
      simp only [List.mem_append, List.mem_cons] at hx ⊢
      rcases hx with h1 | h1
      · exact .inl h1
      · exact .inr (.inr h1)
    · rw [setR_other hb] at hx; exact inS b' x hx
  · intro g hg
    rcases List.mem_append.mp hg with hg | hg
    · exact gS g hg
    · rw [List.mem_singleton.mp hg]
      exact inS β p (by rw [hR]; simp)

theorem br2b {X Y : List Addr} {p a b : Addr} {sp : Int} {us u1 : Tok} (G : Gd w A (le nm L fa cd) h₀ (r + 1)) (F : Fr h₀ (le nm L fa cd).locals h m) (N' : News h₀ (le nm L fa cd).locals h M) (ok : KcOk w.params K) (H : MS w.params K i M ka kc kg R C gs S nd) (hf : MF K m) (hi : i ≤ 100) (hM : Iters M0 M)
    (hR : R β = X ++ p :: Y) (ea : (nd p).next = some a) (eb : (nd p).prev = some b) (hsp : (∃ U V, C = U ++ p :: V ∧ sp = (U.length : Int)) ∨ (sp = -1 ∧ p ∉ C))
    (m0 : m "ring" = some (.ref (K.la β))) (m1 : m "at" = some (.int (X.length : Int) u1)) (m2 : m "one" = some (.ref p)) (m3 : m "before" = some (.ref b)) (m4 : m "behind" = some (.ref a)) (m5 : m "lower" = some (orf (nd p).pz)) (m6 : m "upper" = some (orf (nd p).nz)) (m7 : m "spot" = some (.int sp us)) :
    wpAny (model prog w) A (execs (b2.drop 7) (le nm L fa cd)) (onlyN (PT w.params h₀ (le nm L fa cd).locals s₀ K (i + 1) M0)) NE (stt s₀ h t) := by
  have hs2 := H.s2
  have hs3 := H.s3
  have hsb := H.csz β
  have hpR : p ∈ R β := by rw [hR]; simp
  have f2 := hf.f2
  unfold b2 b2S
  dsimp only [List.drop]
  repeat walk_at "bm"
  refine rem_call G (by walk_at "bj_a") (by walk_at "bj_a") H.tab (H.inS β p hpR) ea (H.inS β a (H.inv.next_mem hpR ea)) eb (H.inS β b (H.inv.prev_mem hpR eb)) (fun z hz => H.cS z (H.inv.pz_mem hpR hz)) (fun z hz => H.cS z (H.inv.nz_mem hpR (rm3_own ▸ hz))) ?_
  clear F N'
  intro h₁ t₁ M₁ F₁ N₁ K₁ T₁
  have ml₁ := H.ml.ks ok (KS.of_keep K₁)
  have hl₁ := ml₁.rings β
  have hM₁ := hM.trans (Iters.keep K₁)
  repeat walk_at "bm"
  refine g_pop (by walk_at "bj_a") hl₁ ⟨_, rfl, ?_⟩
  repeat walk_at "bm"
  refine l_pop (j := X.length) (p := X.map Value.ref) (q := Y.map Value.ref) (x := .ref p) (by walk_at "bj_a") (by walk_at "bj_a") hl₁ rfl (by rw [List.length_map]) (by rw [hR, List.map_append]; rfl) (by rw [List.length_map]; omega) ?_
  clear F₁
  intro h₂ F₂ N₂
  rw [← List.map_append] at N₂
  have ml₂ := ML.putR (X := X ++ Y) (β := β) (k' := ka β + 1) ok N₁ ml₁
  have T₂ := Tab.putL (o' := PySem.W.listOf ((X ++ Y).map Value.ref).toArray (ka β + 1)) N₁ hl₁ T₁
  have hM₂ := hM₁.trans (Iters.putL (o' := PySem.W.listOf ((X ++ Y).map Value.ref).toArray (ka β + 1)) N₁ hl₁)
  clear N₁ T₁ hM₁ hl₁ ml₁
  generalize put (K.la β) (PySem.W.listOf ((X ++ Y).map Value.ref).toArray (ka β + 1)) M₁ = M₂ at N₂ ml₂ T₂ hM₂
  rcases hsp with ⟨U, V, hC, rfl⟩ | ⟨rfl, hC⟩
  · have hz : ∀ t, LInv (rmv nd p a b) (setR R β (X ++ Y)) (U ++ V) (gs ++ [⟨t, p, b, a, (nd p).pz, (nd p).nz⟩]) := fun t => by
      have I := H.inv
      rw [hC] at I
      obtain ⟨z1, z2, z3⟩ := I.rem_in (a := a) (b := b)
      exact I.remove hR ea eb z1 z2 z3
    have hCl : (U ++ V).length ≤ i := by rw [hC] at hs2; simp only [List.length_append, List.length_cons] at hs2 ⊢; omega
    have hl₂ := ml₂.chain
    rw [hC] at hl₂
    repeat walk_at "bm"
    refine ite_dec (fun _ => ?_) (fun hn => absurd (by omega) hn)
    repeat walk_at "bm"
    refine g_pop (by walk_at "bj_a") hl₂ ⟨_, rfl, ?_⟩
    repeat walk_at "bm"
    refine l_pop (j := U.length) (p := U.map Value.ref) (q := V.map Value.ref) (x := .ref p) (by walk_at "bj_a") (by walk_at "bj_a") hl₂ rfl (by rw [List.length_map]) (by rw [List.map_append]; rfl) (by rw [List.length_map]; rw [hC] at hs2; omega) ?_
    clear F₂
    intro h₃ F₃ N₃
    rw [← List.map_append] at N₃
    have ml₃ := ML.putC (X := U ++ V) (k' := kc + 1) ok N₂ ml₂
    have T₃ := Tab.putL (o' := PySem.W.listOf ((U ++ V).map Value.ref).toArray (kc + 1)) N₂ hl₂ T₂
    have hM₃ := hM₂.trans (Iters.putL (o' := PySem.W.listOf ((U ++ V).map Value.ref).toArray (kc + 1)) N₂ hl₂)
    walk_at "bm"
    exact br2c F₃ G N₃ ok ml₃ T₃ H.inS H.gS hz hR H.s1 hCl hs3 hf hi hM₃ m2 m3 m4 m5 m6
  · have hz : ∀ t, LInv (rmv nd p a b) (setR R β (X ++ Y)) C (gs ++ [⟨t, p, b, a, (nd p).pz, (nd p).nz⟩]) := fun t => by
      obtain ⟨z1, z2, z3⟩ := H.inv.rem_out (a := a) (b := b) hpR hC
      exact H.inv.remove hR ea eb z1 z2 z3
    repeat walk_at "bm"
    refine ite_dec (fun hn => absurd hn (by decide)) (fun hn => ?_)
    walk_at "bm"
    exact br2c (by walk_at "bj_a") G (by walk_at "bj_a") ok ml₂ T₂ H.inS H.gS hz hR H.s1 hs2 hs3 hf hi hM₂ m2 m3 m4 m5 m6
end
end

section
local macro_rules | `(tactic| walk_at "bj_gn") => `(tactic| first | with_reducible exact gn_len _ | with_reducible exact gn_range _ | with_reducible exact gn_list _ | with_reducible exact gn_reversed _)
local macro_rules | `(tactic| walk_at "bj_bt") => `(tactic| first | with_reducible exact PySem.boot_len | with_reducible exact PyProof.Rows.boot_range | with_reducible exact PyProof.Rows.boot_list | with_reducible exact PyProof.Rows.boot_reversed)
local macro_rules | `(tactic| walk_at "bj_gl") => `(tactic| first | with_reducible exact gl_31 _ | with_reducible exact gl_59 _ | with_reducible exact gl_70 _ | with_reducible exact gl_77 _ | with_reducible exact gl_84 _ | with_reducible exact gl_91 _ | with_reducible exact gl_92 _ | with_reducible exact gl_99 _ | with_reducible exact gl_106 _ | with_reducible exact gl_113 _ | with_reducible exact gl_120 _ | with_reducible exact gl_127 _ | with_reducible exact gl_134 _)
local macro_rules | `(tactic| walk_at "bj_kp") => `(tactic| first | with_reducible exact kp_31 _ | with_reducible exact kp_59 _ | with_reducible exact kp_70 _ | with_reducible exact kp_77 _ | with_reducible exact kp_84 _ | with_reducible exact kp_91 _ | with_reducible exact kp_99 _ | with_reducible exact kp_106 _ | with_reducible exact kp_113 _ | with_reducible exact kp_120 _ | with_reducible exact kp_127 _ | with_reducible exact kp_134 _)
local macro_rules | `(tactic| walk_at "bj_m") => `(tactic| first | (with_reducible assumption) | (with_reducible exact m_here) | ((with_reducible refine m_there ?hmt ?_); (case hmt => decide); walk_at "bj_m") | rfl)
local macro_rules | `(tactic| walk_at "bj_a") => `(tactic| (with_reducible assumption))
local macro_rules | `(tactic| walk_at "bj") => `(tactic| first
  | (with_reducible refine s_nilR ?_)
  | ((with_reducible refine' s_assignAttr ?_ ?hs); (case hs => rfl))
  | ((with_reducible refine' s_assign ?_ ?hs); (case hs => rfl))
  | (with_reducible refine' s_if ?_)
  | (with_reducible refine' s_ret ?_)
  | (with_reducible refine' s_aug ?_)
  | ((with_reducible refine' e_L ?G ?F ?hx ?hv ?_ ?hdb); (case G => walk_at "bj_a"); (case F => walk_at "bj_a"); (case hx => rfl); (case hdb => rfl); (case hv => walk_at "bj_m"))
  | ((with_reducible refine' l_L ?G ?F ?hx ?hv ?_); (case G => walk_at "bj_a"); (case F => walk_at "bj_a"); (case hx => rfl); (case hv => walk_at "bj_m"))
  | ((with_reducible refine' e_st ?G ?F ?N ?hx ?_); (case G => walk_at "bj_a"); (case F => walk_at "bj_a"); (case N => walk_at "bj_a"); (case hx => rfl); intro h' t' F' N')
  | ((with_reducible refine' e_attr ?_ ?he); (case he => with_unfolding_all rfl))
  | ((with_reducible refine' t_cmp ?_ ?hm); (case hm => with_unfolding_all rfl))
  | ((with_reducible refine' e_cmp ?_ ?hm); (case hm => with_unfolding_all rfl))
  | (with_reducible refine' e_bin ?_)
  | (with_reducible refine' t_not ?_)
  | (with_reducible refine' t_and ?_)
  | (with_reducible refine' t_or ?_)
  | (with_reducible refine' t_andN ?_)
  | (with_reducible refine' t_orN ?_)
  | (with_reducible refine' e_ifx ?_)
  | (with_reducible refine' e_and ?_)
  | (with_reducible refine' e_and1 ?_)
  | (with_reducible refine' e_un ?_)
  | (with_reducible refine' tb_bool ?_)
  | (with_reducible refine' tb_none ?_)
  | ((with_reducible refine' o_add ?_); intro u' t')
  | ((with_reducible refine' o_iadd ?_); intro u' t')
  | ((with_reducible refine' o_isub ?_); intro u' t')
  | ((with_reducible refine' o_sub ?_); intro u' t')
  | ((with_reducible refine' o_mod ?_ ?_); (decide); intro u' t')
  | ((with_reducible refine' o_neg ?_); intro u' t')
  | (with_reducible refine' c_eq ?_)
  | (with_reducible refine' c_ne ?_)
  | (with_reducible refine' c_lt ?_)
  | (with_reducible refine' c_gt ?_)
  | (with_reducible refine' c_le ?_)
  | (with_reducible refine' c_ge ?_)
  | (with_reducible refine' c_isB ?_)
  | (with_reducible refine' c_isnB ?_)
  | (with_reducible refine' c_eqB ?_)
  | (with_reducible refine' c_neB ?_)
  | (with_reducible refine' c_isRN ?_)
  | (with_reducible refine' c_isNN ?_)
  | (with_reducible refine' c_isnRN ?_)
  | (with_reducible refine' c_isnNR ?_)
  | (with_reducible refine' c_isnNN ?_)
  | (with_reducible refine' c_isnRS ?_)
  | (with_reducible refine' c_isRS ?_)
  | (with_reducible refine' if_t ?_)
  | (with_reducible refine' if_f ?_)
  | (with_reducible refine' if_nt ?_)
  | (with_reducible refine' if_nf ?_)
  | ((with_reducible refine' e_callG ?G ?F ?hx ?hdb ?eg ?hk ?_ ?hc ?he ?hp); (case G => walk_at "bj_a"); (case F => walk_at "bj_a"); (case hx => rfl); (case hdb => rfl); (case eg => walk_at "bj_gl"); (case hk => walk_at "bj_kp"); (case hc => rfl); (case he => rfl); (case hp => rfl))
  | ((with_reducible refine' e_callB ?G ?F ?hx ?hdb ?eg ?hv ?hn ?_ ?hc ?he ?hp); (case G => walk_at "bj_a"); (case F => walk_at "bj_a"); (case hx => rfl); (case hdb => rfl); (case eg => walk_at "bj_gn"); (case hv => walk_at "bj_bt"); (case hn => decide); (case hc => rfl); (case he => rfl); (case hp => rfl))
  | ((with_reducible refine' e_callT ?G ?F ?hx ?hdb ?eg ?hv ?hn ?_ ?hc ?he ?hp); (case G => walk_at "bj_a"); (case F => walk_at "bj_a"); (case hx => rfl); (case hdb => rfl); (case eg => walk_at "bj_gn"); (case hv => walk_at "bj_bt"); (case hn => decide); (case hc => rfl); (case he => rfl); (case hp => rfl))
  | ((with_reducible refine' o_len ?N ?hm ?hf ?_); (case N => walk_at "bj_a"); (case hm => walk_at "bj_a"); (case hf => walk_at "bj_a"); intro u' t')
  | ((with_reducible refine' o_range ?F ?N ?_); (case F => walk_at "bj_a"); (case N => walk_at "bj_a"); intro rg' h' t' a' b' c' R' F' N')
  | (with_reducible refine' e_sub ?_)
  | ((with_reducible refine' s_for ?G ?hx ?_ ?hs); (case G => walk_at "bj_a"); (case hx => rfl); (case hs => intro _; rfl))
  | ((with_reducible refine' a_cons ?_ ?he); (case he => rfl))
  | (with_reducible refine' a_nil ?_)
  | ((with_reducible refine' a_in ?G ?F ?_); (case G => walk_at "bj_a"); (case F => walk_at "bj_a"))
  | ((with_reducible refine' t_plain ?_ ?he); (case he => rfl))
  | (with_reducible refine' e_none ?_)
  | (with_reducible refine' e_bool ?_)
  | ((with_reducible refine' e_int ?_); intro u' t'))
local macro_rules | `(tactic| walk_at "bj_g5") => `(tactic| ((case G => walk_at "bj_a"); (case F => walk_at "bj_a"); (case N => walk_at "bj_a"); (case T => walk_at "bj_a"); (case hS => walk_at "bj_a")))
local macro_rules | `(tactic| walk_at "bj_get") => `(tactic| first
  | ((with_reducible refine' tg_next ?G ?F ?N ?T ?hS ?_); (case G => walk_at "bj_a"); (case F => walk_at "bj_a"); (case N => walk_at "bj_a"); (case T => walk_at "bj_a"); (case hS => walk_at "bj_a"); intro t')
  | ((with_reducible refine' tg_prev ?G ?F ?N ?T ?hS ?_); (case G => walk_at "bj_a"); (case F => walk_at "bj_a"); (case N => walk_at "bj_a"); (case T => walk_at "bj_a"); (case hS => walk_at "bj_a"); intro t')
  | ((with_reducible refine' tg_pz ?G ?F ?N ?T ?hS ?_); (case G => walk_at "bj_a"); (case F => walk_at "bj_a"); (case N => walk_at "bj_a"); (case T => walk_at "bj_a"); (case hS => walk_at "bj_a"); intro t')
  | ((with_reducible refine' tg_nz ?G ?F ?N ?T ?hS ?_); (case G => walk_at "bj_a"); (case F => walk_at "bj_a"); (case N => walk_at "bj_a"); (case T => walk_at "bj_a"); (case hS => walk_at "bj_a"); intro t')
  | ((with_reducible refine' tg_i ?G ?F ?N ?T ?hS ?_); (case G => walk_at "bj_a"); (case F => walk_at "bj_a"); (case N => walk_at "bj_a"); (case T => walk_at "bj_a"); (case hS => walk_at "bj_a"); intro t')
  | ((with_reducible refine' tg_point ?G ?F ?N ?T ?hS ?_); (case G => walk_at "bj_a"); (case F => walk_at "bj_a"); (case N => walk_at "bj_a"); (case T => walk_at "bj_a"); (case hS => walk_at "bj_a"); intro t')
  | ((with_reducible refine' tg_x ?G ?F ?N ?T ?hS ?_); (case G => walk_at "bj_a"); (case F => walk_at "bj_a"); (case N => walk_at "bj_a"); (case T => walk_at "bj_a"); (case hS => walk_at "bj_a"); intro t')
  | ((with_reducible refine' tg_y ?G ?F ?N ?T ?hS ?_); (case G => walk_at "bj_a"); (case F => walk_at "bj_a"); (case N => walk_at "bj_a"); (case T => walk_at "bj_a"); (case hS => walk_at "bj_a"); intro t')
  | ((with_reducible refine' tg_z ?G ?F ?N ?T ?hS ?_); (case G => walk_at "bj_a"); (case F => walk_at "bj_a"); (case N => walk_at "bj_a"); (case T => walk_at "bj_a"); (case hS => walk_at "bj_a"); intro t')
  | ((with_reducible refine' tg_st ?G ?F ?N ?T ?hS ?_); (case G => walk_at "bj_a"); (case F => walk_at "bj_a"); (case N => walk_at "bj_a"); (case T => walk_at "bj_a"); (case hS => walk_at "bj_a"); intro t'))
local macro_rules | `(tactic| walk_at "bj_set") => `(tactic| (first
  | (with_reducible refine' ts_prev ?G ?F ?N ?T ?hS ?_)
  | (with_reducible refine' ts_next ?G ?F ?N ?T ?hS ?_)
  | (with_reducible refine' ts_pz ?G ?F ?N ?T ?hS ?_)
  | (with_reducible refine' ts_nz ?G ?F ?N ?T ?hS ?_)
  | (with_reducible refine' ts_prevR ?G ?F ?N ?T ?hS ?_)
  | (with_reducible refine' ts_nextR ?G ?F ?N ?T ?hS ?_)
  | (with_reducible refine' ts_pzR ?G ?F ?N ?T ?hS ?_)
  | (with_reducible refine' ts_nzR ?G ?F ?N ?T ?hS ?_)))
local macro_rules | `(tactic| walk_at "bj_il") => `(tactic| ((with_reducible refine' i_list ?N ?hm ?hi ?hx ?hj ?k ?hs); (case N => walk_at "bj_a"); (case hm => walk_at "bj_a"); (case hs => with_unfolding_all rfl)))
local macro_rules | `(tactic| walk_at "bj_it") => `(tactic| ((with_reducible refine' i_tup ?N ?hm ?hi ?hj ?hx ?k ?hs); (case N => walk_at "bj_a"); (case hm => walk_at "bj_a"); (case hs => with_unfolding_all rfl)))
local macro_rules | `(tactic| walk_at "bk") => `(tactic| first
  | walk_at "bj"
  | ((with_reducible refine' s_exprA ?_ ?hi ?hs); (case hi => rfl); (case hs => rfl))
  | ((with_reducible refine' e_meth ?_ ?hm ?he ?hp); (case hm => rfl); (case he => rfl); (case hp => rfl))
  | (with_reducible refine' e_list ?_)
  | (with_reducible refine' e_tup ?_)
  | ((with_reducible refine' i_list ?N ?hm ?hi ?hx ?hj ?_ ?hs); (case N => walk_at "bj_a"); (case hm => walk_at "bj_a"); (case hi => with_reducible rfl); (case hx => exact map_get (by with_reducible assumption)); (case hj => omega); (case hs => with_unfolding_all rfl))
  | ((with_reducible refine' i_tup (j := 0) ?N ?hm ?hi ?hj ?hx ?_ ?hs); (case N => walk_at "bj_a"); (case hm => walk_at "bj_a"); (case hi => rfl); (case hj => decide); (case hx => rfl); (case hs => with_unfolding_all rfl))
  | ((with_reducible refine' i_tup (j := 1) ?N ?hm ?hi ?hj ?hx ?_ ?hs); (case N => walk_at "bj_a"); (case hm => walk_at "bj_a"); (case hi => rfl); (case hj => decide); (case hx => rfl); (case hs => with_unfolding_all rfl)))
local macro_rules | `(tactic| walk_at "bm") => `(tactic| first
  | walk_at "bk"
  | ((with_reducible refine' e_C ?G ?N ?hx ?hc ?hdb ?hv ?_); (case G => walk_at "bj_a"); (case N => walk_at "bj_a"); (case hx => rfl); (case hc => rfl); (case hdb => rfl); (case hv => walk_at "bj_a"))
  | ((with_reducible refine' o_fdiv ?_ ?_ ?_); (decide); (decide); intro u' t')
  | (with_reducible refine' e_slc ?_)
  | (with_reducible refine' p_none ?_)
  | (with_reducible refine' p_some ?_))
section
variable {prog : Program} {w : World} {A : Around} {nm : Str} {L fa : Addr} {cd : Value} {h₀ : Heap} {s₀ : Shared} {h : Heap} {t : Nat} {m : Str → Option Value} {M M0 N : Led} {r : Nat} {K : Kc} {ka : Bool → Nat} {kc kg i : Nat} {R : Bool → List Addr} {C : List Addr} {gs : List Gone} {S : Addr → Prop} {nd : Addr → Nd} {β : Bool} {env : Env}

theorem prev_idx {k n : Nat} (h : k < n) : ((k + n - 1) % n + 1) % n = k := by
  cases k with
  | zero =>
    have h1 : (n - 1) % n = n - 1 := Nat.mod_eq_of_lt (by omega)
    rw [Nat.zero_add, h1, show n - 1 + 1 = n by omega, Nat.mod_self]
  | succ k =>
    rw [show k + 1 + n - 1 = k + n by omega, Nat.add_mod_right, Nat.mod_eq_of_lt (show k < _ by omega), Nat.mod_eq_of_lt (by omega)]
theorem i_prev {value slice : Expr} {l b : Addr} {X : List Addr} {c k : Nat} {u : Tok} {Q : Value → Shared → Prop} (N' : News h₀ env.locals h N) (hm : (l, PySem.W.listOf (X.map Value.ref).toArray c) ∈ N) (hk : k < X.length) (hb : X[(k + X.length - 1) % X.length]? = some b) (hz : X.length ≤ 1000) (k' : Q (.ref b) (stt s₀ h t))
    (hs : subscripted slice false (.ref l) (.int ((k : Int) - 1) u) = operate [.ref l, .int ((k : Int) - 1) u] (getItem (.ref l) (.int ((k : Int) - 1) u))) :
    wpAny (model prog w) A (subscriptTail value slice (.ref l) (.int ((k : Int) - 1) u)) Q NE (stt s₀ h t) := by
  cases k with
  | zero =>
    have h1 : (X.length - 1) % X.length = X.length - 1 := Nat.mod_eq_of_lt (by omega)
    rw [Nat.zero_add, h1] at hb
    refine i_listN N' hm (by decide) (by rw [List.length_map]; omega) (x := .ref b) ?_ (by rw [List.length_map]; omega) k' hs
    rw [List.length_map, show (((0 : Nat) : Int) - 1 + (X.length : Int)).toNat = X.length - 1 by omega]
    exact map_get hb
  | succ j =>
    rw [show j + 1 + X.length - 1 = j + X.length by omega, Nat.add_mod_right, Nat.mod_eq_of_lt (show j < _ by omega)] at hb
    exact i_list N' hm (show ((j + 1 : Nat) : Int) - 1 = (j : Int) by omega) (map_get hb) (by omega) k' hs

theorem br2 {place : Int} {u : Tok} (G : Gd w A (le nm L fa cd) h₀ (r + 1)) (F : Fr h₀ (le nm L fa cd).locals h m) (N' : News h₀ (le nm L fa cd).locals h M) (ok : KcOk w.params K) (H : MS w.params K i M ka kc kg R C gs S nd) (hf : MF K m) (hi : i ≤ 100) (hM : Iters M0 M)
    (mp : m "place" = some (.int place u)) (mr : m "ring" = some (.ref (K.la β))) (hpos : 0 < (R β).length) :
    wpAny (model prog w) A (execs b2 (le nm L fa cd)) (onlyN (PT w.params h₀ (le nm L fa cd).locals s₀ K (i + 1) M0)) NE (stt s₀ h t) := by
  obtain ⟨f1, f2, f3, ⟨u4, f4⟩⟩ := hf
  have hs2 := H.s2
  have hs3 := H.s3
  have hsb := H.csz β
  have hl := H.ml.rings β
  have hlen : ((R β).map Value.ref).length < 2 ^ 62 := by rw [List.length_map]; omega
  obtain ⟨k, hk, hkl⟩ := fmod_nat' (z := place) hpos
  obtain ⟨X, p, Y, hR, hX, hq⟩ := split_at hkl
  obtain ⟨a, ha⟩ := nx_some hkl
  obtain ⟨b, hb⟩ : ∃ b, (R β)[(k + (R β).length - 1) % (R β).length]? = some b := ⟨_, List.getElem?_eq_getElem (Nat.mod_lt _ hpos)⟩
  have ea := ((H.inv.ring β).ok k p a hq ha).1
  have eb := ((H.inv.ring β).ok _ b p hb (by rw [prev_idx hkl]; exact hq)).2
  unfold b2 b2S
  dsimp only
  repeat walk_at "bm"
  refine o_mod (by rw [List.length_map]; omega) fun u' t' => ?_
  rw [List.length_map, hk]
  repeat walk_at "bm"
  refine i_prev (by walk_at "bj_a") hl hkl hb (by omega) ?_ (by with_unfolding_all rfl)
  repeat walk_at "bm"
  refine o_mod (by rw [List.length_map]; omega) fun u' t' => ?_
  rw [List.length_map, show (k : Int) + 1 = ((k + 1 : Nat) : Int) by omega, fmod_nat]
  refine i_list (by walk_at "bj_a") hl rfl (map_get ha) (by have := Nat.mod_lt (k + 1) hpos; omega) ?_ (by with_unfolding_all rfl)
  repeat walk_at "bm"
  have fin : ∀ h' t' m' sp us, Fr h₀ (le nm L fa cd).locals h' m' → News h₀ (le nm L fa cd).locals h' M → ((∃ U V, C = U ++ p :: V ∧ sp = (U.length : Int)) ∨ (sp = -1 ∧ p ∉ C)) → MF K m' →
      m' "ring" = some (.ref (K.la β)) → (∃ u, m' "at" = some (.int (k : Int) u)) → m' "one" = some (.ref p) → m' "before" = some (.ref b) → m' "behind" = some (.ref a) → m' "lower" = some (orf (nd p).pz) → m' "upper" = some (orf (nd p).nz) → m' "spot" = some (.int sp us) →
      wpAny (model prog w) A (execs (b2.drop 7) (le nm L fa cd)) (onlyN (PT w.params h₀ (le nm L fa cd).locals s₀ K (i + 1) M0)) NE (stt s₀ h' t') := by
    intro h' t' m' sp us F N hsp hf m0 m1 m2 m3 m4 m5 m6 m7
    obtain ⟨u1, m1⟩ := m1
    rw [← hX] at m1
    exact br2b G F N ok H hf hi hM hR ea eb hsp m0 m1 m2 m3 m4 m5 m6 m7
  refine spot_call G (by walk_at "bj_a") (by walk_at "bj_a") H.tab H.cS (H.inS β p (List.mem_of_getElem? hq)) H.ml.chain (by omega) ?_ ?_
  · intro j h₁ t₁ u₁ hj F₁ N₁
    have hjl : j < C.length := (List.getElem?_eq_some_iff.mp hj).1
    obtain ⟨ep, en⟩ := H.inv.chain.ok j p hj
    have hc := H.ml.chain
    have hclen : (C.map Value.ref).length < 2 ^ 62 := by rw [List.length_map]; omega
    have hsp : (∃ U V, C = U ++ p :: V ∧ (j : Int) = (U.length : Int)) ∨ ((j : Int) = -1 ∧ p ∉ C) := by
      obtain ⟨U, q, V, h1, h2, h3⟩ := split_at hjl
      rw [hj] at h3
      obtain rfl := Option.some.inj h3
      exact .inl ⟨U, V, h1, by rw [h2]⟩
    have upp : ∀ h' t' m', Fr h₀ (le nm L fa cd).locals h' m' → News h₀ (le nm L fa cd).locals h' M → MF K m' →
        m' "ring" = some (.ref (K.la β)) → (∃ u, m' "at" = some (.int (k : Int) u)) → m' "one" = some (.ref p) → m' "before" = some (.ref b) → m' "behind" = some (.ref a) → m' "lower" = some (orf (nd p).pz) → m' "spot" = some (.int (j : Int) u₁) →
        wpAny (model prog w) A (execs (b2.drop 6) (le nm L fa cd)) (onlyN (PT w.params h₀ (le nm L fa cd).locals s₀ K (i + 1) M0)) NE (stt s₀ h' t') := by
      clear F N' F₁ N₁
      intro h' t' m' F₂ N₂ hf m0 m1 m2 m3 m4 m5 m7
      obtain ⟨f1, f2, f3, ⟨u4, f4⟩⟩ := hf
      obtain ⟨u1, m1⟩ := m1
      unfold b2 b2S
      dsimp only [List.drop]
      repeat walk_at "bm"
      refine ite_dec (fun _ => ?_) (fun hn => absurd (by omega) hn)
      repeat walk_at "bm"
      rw [List.length_map]
      refine ite_dec (fun hp => ?_) (fun hn => ?_)
      · obtain ⟨z, hz⟩ : ∃ z, C[j + 1]? = some z := ⟨_, List.getElem?_eq_getElem (by omega)⟩
        repeat walk_at "bm"
        refine i_list (j := j + 1) (by walk_at "bj_a") hc (by omega) (map_get hz) (by omega) ?_ (by with_unfolding_all rfl)
        walk_at "bm"
        exact fin _ _ _ _ _ (by walk_at "bj_a") (by walk_at "bj_a") hsp ⟨by repeat walk_at "bj_m", by repeat walk_at "bj_m", by repeat walk_at "bj_m", ⟨_, by repeat walk_at "bj_m"⟩⟩ (by repeat walk_at "bj_m") ⟨_, by repeat walk_at "bj_m"⟩ (by repeat walk_at "bj_m") (by repeat walk_at "bj_m") (by repeat walk_at "bj_m") (by repeat walk_at "bj_m") (by rw [en, hz]; repeat walk_at "bj_m") (by repeat walk_at "bj_m")
      · have hz : C[j + 1]? = none := List.getElem?_eq_none (by omega)
        iterate 3 walk_at "bm"
        exact fin _ _ _ _ _ (by walk_at "bj_a") (by walk_at "bj_a") hsp ⟨by repeat walk_at "bj_m", by repeat walk_at "bj_m", by repeat walk_at "bj_m", ⟨_, by repeat walk_at "bj_m"⟩⟩ (by repeat walk_at "bj_m") ⟨_, by repeat walk_at "bj_m"⟩ (by repeat walk_at "bj_m") (by repeat walk_at "bj_m") (by repeat walk_at "bj_m") (by repeat walk_at "bj_m") (by rw [en, hz]; repeat walk_at "bj_m") (by repeat walk_at "bj_m")
    repeat walk_at "bm"
    refine ite_dec (fun hp => ?_) (fun hn => ?_)
    · obtain ⟨z, hz⟩ : ∃ z, C[j - 1]? = some z := ⟨_, List.getElem?_eq_getElem (by omega)⟩
      rw [if_neg (by omega), hz] at ep
      repeat walk_at "bm"
      refine i_list (j := j - 1) (by walk_at "bj_a") hc (by omega) (map_get hz) (by omega) ?_ (by with_unfolding_all rfl)
      walk_at "bm"
      exact upp _ _ _ (by walk_at "bj_a") (by walk_at "bj_a") ⟨by repeat walk_at "bj_m", by repeat walk_at "bj_m", by repeat walk_at "bj_m", ⟨_, by repeat walk_at "bj_m"⟩⟩ (by repeat walk_at "bj_m") ⟨_, by repeat walk_at "bj_m"⟩ (by repeat walk_at "bj_m") (by repeat walk_at "bj_m") (by repeat walk_at "bj_m") (by rw [ep]; repeat walk_at "bj_m") (by repeat walk_at "bj_m")
    · rw [if_pos (by omega)] at ep
      walk_at "bm"
      walk_at "bm"
      exact upp _ _ _ (by walk_at "bj_a") (by walk_at "bj_a") ⟨by repeat walk_at "bj_m", by repeat walk_at "bj_m", by repeat walk_at "bj_m", ⟨_, by repeat walk_at "bj_m"⟩⟩ (by repeat walk_at "bj_m") ⟨_, by repeat walk_at "bj_m"⟩ (by repeat walk_at "bj_m") (by repeat walk_at "bj_m") (by repeat walk_at "bj_m") (by rw [ep]; repeat walk_at "bj_m") (by repeat walk_at "bj_m")
  · intro h₁ t₁ u₁ hC F₁ N₁
    obtain ⟨ep, en⟩ := H.inv.free β p (List.mem_of_getElem? hq) hC
    repeat walk_at "bm"
    refine ite_dec (fun hn => absurd hn (by decide)) (fun hn => ?_)
    repeat walk_at "bm"
    refine ite_dec (fun hn => absurd hn (by decide)) (fun hn => ?_)
    iterate 3 walk_at "bm"
    exact fin _ _ _ _ _ (by walk_at "bj_a") (by walk_at "bj_a") (.inr ⟨rfl, hC⟩) ⟨by repeat walk_at "bj_m", by repeat walk_at "bj_m", by repeat walk_at "bj_m", ⟨_, by repeat walk_at "bj_m"⟩⟩ (by repeat walk_at "bj_m") ⟨_, by repeat walk_at "bj_m"⟩ (by repeat walk_at "bj_m") (by repeat walk_at "bj_m") (by repeat walk_at "bj_m") (by rw [ep]; repeat walk_at "bj_m") (by rw [en]; repeat walk_at "bj_m") (by repeat walk_at "bj_m")
end
end

section
local macro_rules | `(tactic| walk_at "bj_gn") => `(tactic| first | with_reducible exact gn_len _ | with_reducible exact gn_range _ | with_reducible exact gn_list _ | with_reducible exact gn_reversed _)
local macro_rules | `(tactic| walk_at "bj_bt") => `(tactic| first | with_reducible exact PySem.boot_len | with_reducible exact PyProof.Rows.boot_range | with_reducible exact PyProof.Rows.boot_list | with_reducible exact PyProof.Rows.boot_reversed)
local macro_rules | `(tactic| walk_at "bj_gl") => `(tactic| first | with_reducible exact gl_31 _ | with_reducible exact gl_59 _ | with_reducible exact gl_70 _ | with_reducible exact gl_77 _ | with_reducible exact gl_84 _ | with_reducible exact gl_91 _ | with_reducible exact gl_92 _ | with_reducible exact gl_99 _ | with_reducible exact gl_106 _ | with_reducible exact gl_113 _ | with_reducible exact gl_120 _ | with_reducible exact gl_127 _ | with_reducible exact gl_134 _)
local macro_rules | `(tactic| walk_at "bj_kp") => `(tactic| first | with_reducible exact kp_31 _ | with_reducible exact kp_59 _ | with_reducible exact kp_70 _ | with_reducible exact kp_77 _ | with_reducible exact kp_84 _ | with_reducible exact kp_91 _ | with_reducible exact kp_99 _ | with_reducible exact kp_106 _ | with_reducible exact kp_113 _ | with_reducible exact kp_120 _ | with_reducible exact kp_127 _ | with_reducible exact kp_134 _)
local macro_rules | `(tactic| walk_at "bj_m") => `(tactic| first | (with_reducible assumption) | (with_reducible exact m_here) | ((with_reducible refine m_there ?hmt ?_); (case hmt => decide); walk_at "bj_m") | rfl)
local macro_rules | `(tactic| walk_at "bj_a") => `(tactic| (with_reducible assumption))
local macro_rules | `(tactic| walk_at "bj") => `(tactic| first
  | (with_reducible refine s_nilR ?_)
  | ((with_reducible refine' s_assignAttr ?_ ?hs); (case hs => rfl))
  | ((with_reducible refine' s_assign ?_ ?hs); (case hs => rfl))
  | (with_reducible refine' s_if ?_)
  | (with_reducible refine' s_ret ?_)
  | (with_reducible refine' s_aug ?_)
  | ((with_reducible refine' e_L ?G ?F ?hx ?hv ?_ ?hdb); (case G => walk_at "bj_a"); (case F => walk_at "bj_a"); (case hx => rfl); (case hdb => rfl); (case hv => walk_at "bj_m"))
  | ((with_reducible refine' l_L ?G ?F ?hx ?hv ?_); (case G => walk_at "bj_a"); (case F => walk_at "bj_a"); (case hx => rfl); (case hv => walk_at "bj_m"))
  | ((with_reducible refine' e_st ?G ?F ?N ?hx ?_); (case G => walk_at "bj_a"); (case F => walk_at "bj_a"); (case N => walk_at "bj_a"); (case hx => rfl); intro h' t' F' N')
  | ((with_reducible refine' e_attr ?_ ?he); (case he => with_unfolding_all rfl))
  | ((with_reducible refine' t_cmp ?_ ?hm); (case hm => with_unfolding_all rfl))
  | ((with_reducible refine' e_cmp ?_ ?hm); (case hm => with_unfolding_all rfl))
  | (with_reducible refine' e_bin ?_)
  | (with_reducible refine' t_not ?_)
  | (with_reducible refine' t_and ?_)
  | (with_reducible refine' t_or ?_)
  | (with_reducible refine' t_andN ?_)
  | (with_reducible refine' t_orN ?_)
  | (with_reducible refine' e_ifx ?_)
  | (with_reducible refine' e_and ?_)
  | (with_reducible refine' e_and1 ?_)
  | (with_reducible refine' e_un ?_)
  | (with_reducible refine' tb_bool ?_)
  | (with_reducible refine' tb_none ?_)
  | ((with_reducible refine' o_add ?_); intro u' t')
  | ((with_reducible refine' o_iadd ?_); intro u' t')
  | ((with_reducible refine' o_isub ?_); intro u' t')
  | ((with_reducible refine' o_sub ?_); intro u' t')
  | ((with_reducible refine' o_mod ?_ ?_); (decide); intro u' t')
  | ((with_reducible refine' o_neg ?_); intro u' t')
  | (with_reducible refine' c_eq ?_)
  | (with_reducible refine' c_ne ?_)
  | (with_reducible refine' c_lt ?_)
  | (with_reducible refine' c_gt ?_)
  | (with_reducible refine' c_le ?_)
  | (with_reducible refine' c_ge ?_)
  | (with_reducible refine' c_isB ?_)
  | (with_reducible refine' c_isnB ?_)
  | (with_reducible refine' c_eqB ?_)
  | (with_reducible refine' c_neB ?_)
  | (with_reducible refine' c_isRN ?_)
  | (with_reducible refine' c_isNN ?_)
  | (with_reducible refine' c_isnRN ?_)
  | (with_reducible refine' c_isnNR ?_)
  | (with_reducible refine' c_isnNN ?_)
  | (with_reducible refine' c_isnRS ?_)
  | (with_reducible refine' c_isRS ?_)
  | (with_reducible refine' if_t ?_)
  | (with_reducible refine' if_f ?_)
  | (with_reducible refine' if_nt ?_)
  | (with_reducible refine' if_nf ?_)
  | ((with_reducible refine' e_callG ?G ?F ?hx ?hdb ?eg ?hk ?_ ?hc ?he ?hp); (case G => walk_at "bj_a"); (case F => walk_at "bj_a"); (case hx => rfl); (case hdb => rfl); (case eg => walk_at "bj_gl"); (case hk => walk_at "bj_kp"); (case hc => rfl); (case he => rfl); (case hp => rfl))
  | ((with_reducible refine' e_callB ?G ?F ?hx ?hdb ?eg ?hv ?hn ?_ ?hc ?he ?hp); (case G => walk_at "bj_a"); (case F => walk_at "bj_a"); (case hx => rfl); (case hdb => rfl); (case eg => walk_at "bj_gn"); (case hv => walk_at "bj_bt"); (case hn => decide); (case hc => rfl); (case he => rfl); (case hp => rfl))
  | ((with_reducible refine' e_callT ?G ?F ?hx ?hdb ?eg ?hv ?hn ?_ ?hc ?he ?hp); (case G => walk_at "bj_a"); (case F => walk_at "bj_a"); (case hx => rfl); (case hdb => rfl); (case eg => walk_at "bj_gn"); (case hv => walk_at "bj_bt"); (case hn => decide); (case hc => rfl); (case he => rfl); (case hp => rfl))
  | ((with_reducible refine' o_len ?N ?hm ?hf ?_); (case N => walk_at "bj_a"); (case hm => walk_at "bj_a"); (case hf => walk_at "bj_a"); intro u' t')
  | ((with_reducible refine' o_range ?F ?N ?_); (case F => walk_at "bj_a"); (case N => walk_at "bj_a"); intro rg' h' t' a' b' c' R' F' N')
  | (with_reducible refine' e_sub ?_)
  | ((with_reducible refine' s_for ?G ?hx ?_ ?hs); (case G => walk_at "bj_a"); (case hx => rfl); (case hs => intro _; rfl))
  | ((with_reducible refine' a_cons ?_ ?he); (case he => rfl))
  | (with_reducible refine' a_nil ?_)
  | ((with_reducible refine' a_in ?G ?F ?_); (case G => walk_at "bj_a"); (case F => walk_at "bj_a"))
  | ((with_reducible refine' t_plain ?_ ?he); (case he => rfl))
  | (with_reducible refine' e_none ?_)
  | (with_reducible refine' e_bool ?_)
  | ((with_reducible refine' e_int ?_); intro u' t'))
local macro_rules | `(tactic| walk_at "bj_g5") => `(tactic| ((case G => walk_at "bj_a"); (case F => walk_at "bj_a"); (case N => walk_at "bj_a"); (case T => walk_at "bj_a"); (case hS => walk_at "bj_a")))
local macro_rules | `(tactic| walk_at "bj_get") => `(tactic| first
  | ((with_reducible refine' tg_next ?G ?F ?N ?T ?hS ?_); (case G => walk_at "bj_a"); (case F => walk_at "bj_a"); (case N => walk_at "bj_a"); (case T => walk_at "bj_a"); (case hS => walk_at "bj_a"); intro t')
  | ((with_reducible refine' tg_prev ?G ?F ?N ?T ?hS ?_); (case G => walk_at "bj_a"); (case F => walk_at "bj_a"); (case N => walk_at "bj_a"); (case T => walk_at "bj_a"); (case hS => walk_at "bj_a"); intro t')
  | ((with_reducible refine' tg_pz ?G ?F ?N ?T ?hS ?_); (case G => walk_at "bj_a"); (case F => walk_at "bj_a"); (case N => walk_at "bj_a"); (case T => walk_at "bj_a"); (case hS => walk_at "bj_a"); intro t')
  | ((with_reducible refine' tg_nz ?G ?F ?N ?T ?hS ?_); (case G => walk_at "bj_a"); (case F => walk_at "bj_a"); (case N => walk_at "bj_a"); (case T => walk_at "bj_a"); (case hS => walk_at "bj_a"); intro t')
  | ((with_reducible refine' tg_i ?G ?F ?N ?T ?hS ?_); (case G => walk_at "bj_a"); (case F => walk_at "bj_a"); (case N => walk_at "bj_a"); (case T => walk_at "bj_a"); (case hS => walk_at "bj_a"); intro t')
  | ((with_reducible refine' tg_point ?G ?F ?N ?T ?hS ?_); (case G => walk_at "bj_a"); (case F => walk_at "bj_a"); (case N => walk_at "bj_a"); (case T => walk_at "bj_a"); (case hS => walk_at "bj_a"); intro t')
  | ((with_reducible refine' tg_x ?G ?F ?N ?T ?hS ?_); (case G => walk_at "bj_a"); (case F => walk_at "bj_a"); (case N => walk_at "bj_a"); (case T => walk_at "bj_a"); (case hS => walk_at "bj_a"); intro t')
  | ((with_reducible refine' tg_y ?G ?F ?N ?T ?hS ?_); (case G => walk_at "bj_a"); (case F => walk_at "bj_a"); (case N => walk_at "bj_a"); (case T => walk_at "bj_a"); (case hS => walk_at "bj_a"); intro t')
  | ((with_reducible refine' tg_z ?G ?F ?N ?T ?hS ?_); (case G => walk_at "bj_a"); (case F => walk_at "bj_a"); (case N => walk_at "bj_a"); (case T => walk_at "bj_a"); (case hS => walk_at "bj_a"); intro t')
  | ((with_reducible refine' tg_st ?G ?F ?N ?T ?hS ?_); (case G => walk_at "bj_a"); (case F => walk_at "bj_a"); (case N => walk_at "bj_a"); (case T => walk_at "bj_a"); (case hS => walk_at "bj_a"); intro t'))
local macro_rules | `(tactic| walk_at "bj_set") => `(tactic| (first
  | (with_reducible refine' ts_prev ?G ?F ?N ?T ?hS ?_)
  | (with_reducible refine' ts_next ?G ?F ?N ?T ?hS ?_)
  | (with_reducible refine' ts_pz ?G ?F ?N ?T ?hS ?_)
  | (with_reducible refine' ts_nz ?G ?F ?N ?T ?hS ?_)
  | (with_reducible refine' ts_prevR ?G ?F ?N ?T ?hS ?_)
  | (with_reducible refine' ts_nextR ?G ?F ?N ?T ?hS ?_)
  | (with_reducible refine' ts_pzR ?G ?F ?N ?T ?hS ?_)
  | (with_reducible refine' ts_nzR ?G ?F ?N ?T ?hS ?_)))
local macro_rules | `(tactic| walk_at "bj_il") => `(tactic| ((with_reducible refine' i_list ?N ?hm ?hi ?hx ?hj ?k ?hs); (case N => walk_at "bj_a"); (case hm => walk_at "bj_a"); (case hs => with_unfolding_all rfl)))
local macro_rules | `(tactic| walk_at "bj_it") => `(tactic| ((with_reducible refine' i_tup ?N ?hm ?hi ?hj ?hx ?k ?hs); (case N => walk_at "bj_a"); (case hm => walk_at "bj_a"); (case hs => with_unfolding_all rfl)))
local macro_rules | `(tactic| walk_at "bk") => `(tactic| first
  | walk_at "bj"
  | ((with_reducible refine' s_exprA ?_ ?hi ?hs); (case hi => rfl); (case hs => rfl))
  | ((with_reducible refine' e_meth ?_ ?hm ?he ?hp); (case hm => rfl); (case he => rfl); (case hp => rfl))
  | (with_reducible refine' e_list ?_)
  | (with_reducible refine' e_tup ?_)
  | ((with_reducible refine' i_list ?N ?hm ?hi ?hx ?hj ?_ ?hs); (case N => walk_at "bj_a"); (case hm => walk_at "bj_a"); (case hi => with_reducible rfl); (case hx => exact map_get (by with_reducible assumption)); (case hj => omega); (case hs => with_unfolding_all rfl))
  | ((with_reducible refine' i_tup (j := 0) ?N ?hm ?hi ?hj ?hx ?_ ?hs); (case N => walk_at "bj_a"); (case hm => walk_at "bj_a"); (case hi => rfl); (case hj => decide); (case hx => rfl); (case hs => with_unfolding_all rfl))
  | ((with_reducible refine' i_tup (j := 1) ?N ?hm ?hi ?hj ?hx ?_ ?hs); (case N => walk_at "bj_a"); (case hm => walk_at "bj_a"); (case hi => rfl); (case hj => decide); (case hx => rfl); (case hs => with_unfolding_all rfl)))
local macro_rules | `(tactic| walk_at "bm") => `(tactic| first
  | walk_at "bk"
  | ((with_reducible refine' e_C ?G ?N ?hx ?hc ?hdb ?hv ?_); (case G => walk_at "bj_a"); (case N => walk_at "bj_a"); (case hx => rfl); (case hc => rfl); (case hdb => rfl); (case hv => walk_at "bj_a"))
  | ((with_reducible refine' o_fdiv ?_ ?_ ?_); (decide); (decide); intro u' t')
  | (with_reducible refine' e_slc ?_)
  | (with_reducible refine' p_none ?_)
  | (with_reducible refine' p_some ?_))
noncomputable def b3S : {x : List Stmt // x = (match lb.drop 3 with | .If _ _ o _ :: _ => (match o with | .If _ _ o _ :: _ => (match o with | .If _ b _ _ :: _ => b | _ => []) | _ => []) | _ => [])} := by
  refine ⟨?b, ?h⟩
  case h => conv => rhs; whnf
noncomputable def b3 : List Stmt := b3S.1
noncomputable def b4S : {x : List Stmt // x = (match lb.drop 3 with | .If _ _ o _ :: _ => (match o with | .If _ _ o _ :: _ => (match o with | .If _ _ o _ :: _ => (match o with | .If _ b _ _ :: _ => b | _ => []) | _ => []) | _ => []) | _ => [])} := by
  refine ⟨?b, ?h⟩
  case h => conv => rhs; whnf
noncomputable def b4 : List Stmt := b4S.1
section
variable {prog : Program} {w : World} {A : Around} {nm : Str} {L fa : Addr} {cd : Value} {h₀ : Heap} {s₀ : Shared} {h : Heap} {t : Nat} {m : Str → Option Value} {M M0 N : Led} {r : Nat} {K : Kc} {ka : Bool → Nat} {kc kg i : Nat} {R : Bool → List Addr} {C : List Addr} {gs : List Gone} {S : Addr → Prop} {nd : Addr → Nd} {β : Bool}

theorem MS.up (H : MS w.params K i M ka kc kg R C gs S nd) : MS w.params K (i + 1) M ka kc kg R C gs S nd :=
  ⟨H.ml, H.tab, H.inS, H.gS, H.inv, by have := H.s1; omega, by have := H.s2; omega, by have := H.s3; omega⟩

theorem br3 {place : Int} {u : Tok} (G : Gd w A (le nm L fa cd) h₀ (r + 1)) (F : Fr h₀ (le nm L fa cd).locals h m) (N' : News h₀ (le nm L fa cd).locals h M) (ok : KcOk w.params K) (H : MS w.params K i M ka kc kg R C gs S nd) (hf : MF K m) (hi : i ≤ 100) (hM : Iters M0 M)
    (mp : m "place" = some (.int place u)) (mr : m "ring" = some (.ref (K.la β))) (hpos : 0 < (R β).length) :
    wpAny (model prog w) A (execs b3 (le nm L fa cd)) (onlyN (PT w.params h₀ (le nm L fa cd).locals s₀ K (i + 1) M0)) NE (stt s₀ h t) := by
  obtain ⟨f1, f2, f3, ⟨u4, f4⟩⟩ := hf
  have hs2 := H.s2
  have hsb := H.csz β
  have hl := H.ml.rings β
  have hlen : ((R β).map Value.ref).length < 2 ^ 62 := by rw [List.length_map]; omega
  obtain ⟨k, hk, hkl⟩ := fmod_nat' (z := place) hpos
  have hq : (R β)[k]? = some (R β)[k] := List.getElem?_eq_getElem hkl
  generalize (R β)[k] = p at hq
  have hpR := List.mem_of_getElem? hq
  have hpS := H.inS β p hpR
  unfold b3 b3S
  dsimp only
  repeat walk_at "bm"
  refine o_mod (by rw [List.length_map]; omega) fun u' t' => ?_
  rw [List.length_map, hk]
  repeat walk_at "bm"
  refine spot_call G (by walk_at "bj_a") (by walk_at "bj_a") H.tab H.cS hpS H.ml.chain (by omega) ?_ ?_
  · intro j h₁ t₁ u₁ hj F₁ N₁
    repeat walk_at "bm"
    refine ite_dec (fun hn => absurd hn (by omega)) (fun hn => ?_)
    walk_at "bm"
    exact s_nilN ⟨_, _, _, M, ka, kc, kg, R, C, gs, S, nd, rfl, F₁, N₁, hM, H.up, ⟨by repeat walk_at "bj_m", by repeat walk_at "bj_m", by repeat walk_at "bj_m", ⟨_, by repeat walk_at "bj_m"⟩⟩⟩
  · intro h₁ t₁ u₁ hC F₁ N₁
    repeat walk_at "bm"
    refine ite_dec (fun hn => ?_) (fun hn => absurd (by decide) hn)
    repeat walk_at "bm"
    refine tb_list (by walk_at "bj_a") H.ml.chain (by rw [List.length_map]; omega) fun t' => ?_
    rcases List.eq_nil_or_concat C with rfl | ⟨X, tail, rfl⟩
    · rw [List.map_nil, List.isEmpty_nil]
      repeat walk_at "bm"
      refine g_append (by walk_at "bj_a") H.ml.chain ⟨_, rfl, ?_⟩
      repeat walk_at "bm"
      refine l_append (by walk_at "bj_a") (by walk_at "bj_a") H.ml.chain (Nat.zero_le _) ?_
      intro h₂ F₂ N₂
      walk_at "bm"
      refine s_nilN ⟨_, _, _, _, _, _, _, R, [p], gs, S, nd, rfl, F₂, N₂, hM.trans (Iters.putL N₁ H.ml.chain), ⟨ML.putC (X := [p]) ok N₁ H.ml, Tab.putL N₁ H.ml.chain H.tab, H.inS, H.gS, H.inv.zfirst hpR, by have := H.s1; omega, by simp, by have := H.s3; omega⟩, ⟨by repeat walk_at "bj_m", by repeat walk_at "bj_m", by repeat walk_at "bj_m", ⟨_, by repeat walk_at "bj_m"⟩⟩⟩
    · rw [List.concat_eq_append] at *
      have hc := H.ml.chain
      have htS : S tail := H.cS tail (by simp)
      have hne : ((X ++ [tail]).map Value.ref).isEmpty = false := by cases X <;> rfl
      have htl : ((X ++ [tail]).map Value.ref)[((-1 : Int) + (((X ++ [tail]).map Value.ref).length : Int)).toNat]? = some (.ref tail) := by
        rw [List.length_map, List.length_append, List.length_singleton, show ((-1 : Int) + ((X.length + 1 : Nat) : Int)).toNat = X.length by omega]
        exact map_get (by simp)
      have hinv := H.inv.zmore hpR hC
      unfold zEnd at hinv
      rw [hne]
      repeat walk_at "bm"
      refine i_listN (by walk_at "bj_a") hc (by decide) (by rw [List.length_map, List.length_append]; simp; omega) htl (by rw [List.length_map]; omega) ?_ (by with_unfolding_all rfl)
      repeat walk_at "bm"
      refine ts_nzR G (by walk_at "bj_a") (by walk_at "bj_a") H.tab htS ?_
      intro h₂ t₂ M₂ F₂ N₂ K₂ T₂
      repeat walk_at "bm"
      refine ts_pzR G (by walk_at "bj_a") (by walk_at "bj_a") T₂ hpS ?_
      intro h₃ t₃ M₃ F₃ N₃ K₃ T₃
      have ml₃ := (H.ml.ks ok (KS.of_keep K₂)).ks ok (KS.of_keep K₃)
      have hc₃ := ml₃.chain
      have hM₃ := (hM.trans (Iters.keep K₂)).trans (Iters.keep K₃)
      repeat walk_at "bm"
      refine g_append (by walk_at "bj_a") hc₃ ⟨_, rfl, ?_⟩
      repeat walk_at "bm"
      refine l_append (by walk_at "bj_a") (by walk_at "bj_a") hc₃ (by rw [List.length_map]; omega) ?_
      intro h₄ F₄ N₄
      rw [show (X ++ [tail]).map Value.ref ++ [Value.ref p] = (X ++ [tail] ++ [p]).map Value.ref by simp] at N₄
      walk_at "bm"
      refine s_nilN ⟨_, _, _, _, _, _, _, R, X ++ [tail] ++ [p], gs, S, _, rfl, F₄, N₄, hM₃.trans (Iters.putL N₃ hc₃), ⟨ML.putC (X := X ++ [tail] ++ [p]) ok N₃ ml₃, Tab.putL N₃ hc₃ T₃, H.inS, H.gS, hinv, by have := H.s1; omega, by rw [List.length_append, List.length_singleton]; omega, by have := H.s3; omega⟩, ⟨by repeat walk_at "bj_m", by repeat walk_at "bj_m", by repeat walk_at "bj_m", ⟨_, by repeat walk_at "bj_m"⟩⟩⟩

theorem br4 {place : Int} {u : Tok} (G : Gd w A (le nm L fa cd) h₀ (r + 2)) (F : Fr h₀ (le nm L fa cd).locals h m) (N' : News h₀ (le nm L fa cd).locals h M) (H : MS w.params K i M ka kc kg R C gs S nd) (hf : MF K m) (hi : i ≤ 100) (hM : Iters M0 M)
    (mp : m "place" = some (.int place u)) (mr : m "ring" = some (.ref (K.la β))) (hpos : 0 < (R β).length) :
    wpAny (model prog w) A (execs b4 (le nm L fa cd)) (onlyN (PT w.params h₀ (le nm L fa cd).locals s₀ K (i + 1) M0)) NE (stt s₀ h t) := by
  obtain ⟨f1, f2, f3, ⟨u4, f4⟩⟩ := hf
  have hsb := H.csz β
  have hl := H.ml.rings β
  have hlen : ((R β).map Value.ref).length < 2 ^ 62 := by rw [List.length_map]; omega
  obtain ⟨k, hk, hkl⟩ := fmod_nat' (z := place) hpos
  obtain ⟨k2, hk2, hkl2⟩ := fmod_nat' (z := place + 1) hpos
  have hq : (R β)[k]? = some (R β)[k] := List.getElem?_eq_getElem hkl
  generalize (R β)[k] = p at hq
  have hq2 : (R β)[k2]? = some (R β)[k2] := List.getElem?_eq_getElem hkl2
  generalize (R β)[k2] = q at hq2
  have hpS := H.inS β p (List.mem_of_getElem? hq)
  have hqS := H.inS β q (List.mem_of_getElem? hq2)
  have htab := H.tab
  have fin : ∀ h' t' m' (alike : Bool), alike = ((nd p).x == (nd q).x && (nd p).y == (nd q).y) → Fr h₀ (le nm L fa cd).locals h' m' → News h₀ (le nm L fa cd).locals h' M → MF K m' → m' "one" = some (.ref p) → m' "two" = some (.ref q) → m' "alike" = some (.bool alike) →
      wpAny (model prog w) A (execs (b4.drop 3) (le nm L fa cd)) (onlyN (PT w.params h₀ (le nm L fa cd).locals s₀ K (i + 1) M0)) NE (stt s₀ h' t') := by
    clear F N'
    intro h' t' m' alike hal F₁ N₁ hf m1 m2 m3
    unfold b4 b4S
    dsimp only [List.drop]
    repeat walk_at "bm"
    refine c_nodeEq G F₁ N₁ H.tab hpS hqS ?_
    clear F₁ N₁
    intro h₂ t₂ F₂ N₂
    rw [← hal]
    repeat walk_at "bm"
    rw [bne_self_eq_false]
    repeat walk_at "bm"
    refine c_nodeNe G F₂ N₂ H.tab hpS hqS ?_
    clear F₂ N₂
    intro h₃ t₃ F₃ N₃
    rw [← hal]
    repeat walk_at "bm"
    rw [show ((!alike) == alike) = false by cases alike <;> rfl]
    repeat walk_at "bm"
    exact s_nilN ⟨_, _, _, M, ka, kc, kg, R, C, gs, S, nd, rfl, F₃, N₃, hM, H.up, hf⟩
  unfold b4 b4S
  dsimp only
  repeat walk_at "bm"
  refine o_mod (by rw [List.length_map]; omega) fun u' t' => ?_
  rw [List.length_map, hk]
  repeat walk_at "bm"
  refine o_mod (by rw [List.length_map]; omega) fun u' t' => ?_
  rw [List.length_map, hk2]
  repeat walk_at "bm"
  walk_at "bj_get"
  repeat walk_at "bm"
  walk_at "bj_get"
  repeat walk_at "bm"
  refine ite_beq (fun hx => ?_) (fun hx => ?_)
  · repeat walk_at "bm"
    walk_at "bj_get"
    repeat walk_at "bm"
    walk_at "bj_get"
    iterate 2 walk_at "bm"
    exact fin _ _ _ _ (by rw [beq_iff_eq.mpr hx, Bool.true_and]) (by walk_at "bj_a") (by walk_at "bj_a") ⟨by repeat walk_at "bj_m", by repeat walk_at "bj_m", by repeat walk_at "bj_m", ⟨_, by repeat walk_at "bj_m"⟩⟩ (by repeat walk_at "bj_m") (by repeat walk_at "bj_m") (by repeat walk_at "bj_m")
  · walk_at "bm"
    exact fin _ _ _ ((nd p).x == (nd q).x) (by rw [beq_eq_false_iff_ne.mpr hx, Bool.false_and]) (by walk_at "bj_a") (by walk_at "bj_a") ⟨by repeat walk_at "bj_m", by repeat walk_at "bj_m", by repeat walk_at "bj_m", ⟨_, by repeat walk_at "bj_m"⟩⟩ (by repeat walk_at "bj_m") (by repeat walk_at "bj_m") (by repeat walk_at "bj_m")
end
end

section
local macro_rules | `(tactic| walk_at "bj_gn") => `(tactic| first | with_reducible exact gn_len _ | with_reducible exact gn_range _ | with_reducible exact gn_list _ | with_reducible exact gn_reversed _)
local macro_rules | `(tactic| walk_at "bj_bt") => `(tactic| first | with_reducible exact PySem.boot_len | with_reducible exact PyProof.Rows.boot_range | with_reducible exact PyProof.Rows.boot_list | with_reducible exact PyProof.Rows.boot_reversed)
local macro_rules | `(tactic| walk_at "bj_gl") => `(tactic| first | with_reducible exact gl_31 _ | with_reducible exact gl_59 _ | with_reducible exact gl_70 _ | with_reducible exact gl_77 _ | with_reducible exact gl_84 _ | with_reducible exact gl_91 _ | with_reducible exact gl_92 _ | with_reducible exact gl_99 _ | with_reducible exact gl_106 _ | with_reducible exact gl_113 _ | with_reducible exact gl_120 _ | with_reducible exact gl_127 _ | with_reducible exact gl_134 _)
local macro_rules | `(tactic| walk_at "bj_kp") => `(tactic| first | with_reducible exact kp_31 _ | with_reducible exact kp_59 _ | with_reducible exact kp_70 _ | with_reducible exact kp_77 _ | with_reducible exact kp_84 _ | with_reducible exact kp_91 _ | with_reducible exact kp_99 _ | with_reducible exact kp_106 _ | with_reducible exact kp_113 _ | with_reducible exact kp_120 _ | with_reducible exact kp_127 _ | with_reducible exact kp_134 _)
local macro_rules | `(tactic| walk_at "bj_m") => `(tactic| first | (with_reducible assumption) | (with_reducible exact m_here) | ((with_reducible refine m_there ?hmt ?_); (case hmt => decide); walk_at "bj_m") | rfl)
local macro_rules | `(tactic| walk_at "bj_a") => `(tactic| (with_reducible assumption))
local macro_rules | `(tactic| walk_at "bj") => `(tactic| first
  | (with_reducible refine s_nilR ?_)
  | ((with_reducible refine' s_assignAttr ?_ ?hs); (case hs => rfl))
  | ((with_reducible refine' s_assign ?_ ?hs); (case hs => rfl))
  | (with_reducible refine' s_if ?_)
  | (with_reducible refine' s_ret ?_)
  | (with_reducible refine' s_aug ?_)
  | ((with_reducible refine' e_L ?G ?F ?hx ?hv ?_ ?hdb); (case G => walk_at "bj_a"); (case F => walk_at "bj_a"); (case hx => rfl); (case hdb => rfl); (case hv => walk_at "bj_m"))
  | ((with_reducible refine' l_L ?G ?F ?hx ?hv ?_); (case G => walk_at "bj_a"); (case F => walk_at "bj_a"); (case hx => rfl); (case hv => walk_at "bj_m"))
  | ((with_reducible refine' e_st ?G ?F ?N ?hx ?_); (case G => walk_at "bj_a"); (case F => walk_at "bj_a"); (case N => walk_at "bj_a"); (case hx => rfl); intro h' t' F' N')
  | ((with_reducible refine' e_attr ?_ ?he); (case he => with_unfolding_all rfl))
  | ((with_reducible refine' t_cmp ?_ ?hm); (case hm => with_unfolding_all rfl))
  | ((with_reducible refine' e_cmp ?_ ?hm); (case hm => with_unfolding_all rfl))
  | (with_reducible refine' e_bin ?_)
  | (with_reducible refine' t_not ?_)
  | (with_reducible refine' t_and ?_)
  | (with_reducible refine' t_or ?_)
  | (with_reducible refine' t_andN ?_)
  | (with_reducible refine' t_orN ?_)
  | (with_reducible refine' e_ifx ?_)
  | (with_reducible refine' e_and ?_)
  | (with_reducible refine' e_and1 ?_)
  | (with_reducible refine' e_un ?_)
  | (with_reducible refine' tb_bool ?_)
  | (with_reducible refine' tb_none ?_)
  | ((with_reducible refine' o_add ?_); intro u' t')
  | ((with_reducible refine' o_iadd ?_); intro u' t')
  | ((with_reducible refine' o_isub ?_); intro u' t')
  | ((with_reducible refine' o_sub ?_); intro u' t')
  | ((with_reducible refine' o_mod ?_ ?_); (decide); intro u' t')
  | ((with_reducible refine' o_neg ?_); intro u' t')
  | (with_reducible refine' c_eq ?_)
  | (with_reducible refine' c_ne ?_)
  | (with_reducible refine' c_lt ?_)
  | (with_reducible refine' c_gt ?_)
  | (with_reducible refine' c_le ?_)
  | (with_reducible refine' c_ge ?_)
  | (with_reducible refine' c_isB ?_)
  | (with_reducible refine' c_isnB ?_)
  | (with_reducible refine' c_eqB ?_)
  | (with_reducible refine' c_neB ?_)
  | (with_reducible refine' c_isRN ?_)
  | (with_reducible refine' c_isNN ?_)
  | (with_reducible refine' c_isnRN ?_)
  | (with_reducible refine' c_isnNR ?_)
  | (with_reducible refine' c_isnNN ?_)
  | (with_reducible refine' c_isnRS ?_)
  | (with_reducible refine' c_isRS ?_)
  | (with_reducible refine' if_t ?_)
  | (with_reducible refine' if_f ?_)
  | (with_reducible refine' if_nt ?_)
  | (with_reducible refine' if_nf ?_)
  | ((with_reducible refine' e_callG ?G ?F ?hx ?hdb ?eg ?hk ?_ ?hc ?he ?hp); (case G => walk_at "bj_a"); (case F => walk_at "bj_a"); (case hx => rfl); (case hdb => rfl); (case eg => walk_at "bj_gl"); (case hk => walk_at "bj_kp"); (case hc => rfl); (case he => rfl); (case hp => rfl))
  | ((with_reducible refine' e_callB ?G ?F ?hx ?hdb ?eg ?hv ?hn ?_ ?hc ?he ?hp); (case G => walk_at "bj_a"); (case F => walk_at "bj_a"); (case hx => rfl); (case hdb => rfl); (case eg => walk_at "bj_gn"); (case hv => walk_at "bj_bt"); (case hn => decide); (case hc => rfl); (case he => rfl); (case hp => rfl))
  | ((with_reducible refine' e_callT ?G ?F ?hx ?hdb ?eg ?hv ?hn ?_ ?hc ?he ?hp); (case G => walk_at "bj_a"); (case F => walk_at "bj_a"); (case hx => rfl); (case hdb => rfl); (case eg => walk_at "bj_gn"); (case hv => walk_at "bj_bt"); (case hn => decide); (case hc => rfl); (case he => rfl); (case hp => rfl))
  | ((with_reducible refine' o_len ?N ?hm ?hf ?_); (case N => walk_at "bj_a"); (case hm => walk_at "bj_a"); (case hf => walk_at "bj_a"); intro u' t')
  | ((with_reducible refine' o_range ?F ?N ?_); (case F => walk_at "bj_a"); (case N => walk_at "bj_a"); intro rg' h' t' a' b' c' R' F' N')
  | (with_reducible refine' e_sub ?_)
  | ((with_reducible refine' s_for ?G ?hx ?_ ?hs); (case G => walk_at "bj_a"); (case hx => rfl); (case hs => intro _; rfl))
  | ((with_reducible refine' a_cons ?_ ?he); (case he => rfl))
  | (with_reducible refine' a_nil ?_)
  | ((with_reducible refine' a_in ?G ?F ?_); (case G => walk_at "bj_a"); (case F => walk_at "bj_a"))
  | ((with_reducible refine' t_plain ?_ ?he); (case he => rfl))
  | (with_reducible refine' e_none ?_)
  | (with_reducible refine' e_bool ?_)
  | ((with_reducible refine' e_int ?_); intro u' t'))
local macro_rules | `(tactic| walk_at "bj_g5") => `(tactic| ((case G => walk_at "bj_a"); (case F => walk_at "bj_a"); (case N => walk_at "bj_a"); (case T => walk_at "bj_a"); (case hS => walk_at "bj_a")))
local macro_rules | `(tactic| walk_at "bj_get") => `(tactic| first
  | ((with_reducible refine' tg_next ?G ?F ?N ?T ?hS ?_); (case G => walk_at "bj_a"); (case F => walk_at "bj_a"); (case N => walk_at "bj_a"); (case T => walk_at "bj_a"); (case hS => walk_at "bj_a"); intro t')
  | ((with_reducible refine' tg_prev ?G ?F ?N ?T ?hS ?_); (case G => walk_at "bj_a"); (case F => walk_at "bj_a"); (case N => walk_at "bj_a"); (case T => walk_at "bj_a"); (case hS => walk_at "bj_a"); intro t')
  | ((with_reducible refine' tg_pz ?G ?F ?N ?T ?hS ?_); (case G => walk_at "bj_a"); (case F => walk_at "bj_a"); (case N => walk_at "bj_a"); (case T => walk_at "bj_a"); (case hS => walk_at "bj_a"); intro t')
  | ((with_reducible refine' tg_nz ?G ?F ?N ?T ?hS ?_); (case G => walk_at "bj_a"); (case F => walk_at "bj_a"); (case N => walk_at "bj_a"); (case T => walk_at "bj_a"); (case hS => walk_at "bj_a"); intro t')
  | ((with_reducible refine' tg_i ?G ?F ?N ?T ?hS ?_); (case G => walk_at "bj_a"); (case F => walk_at "bj_a"); (case N => walk_at "bj_a"); (case T => walk_at "bj_a"); (case hS => walk_at "bj_a"); intro t')
  | ((with_reducible refine' tg_point ?G ?F ?N ?T ?hS ?_); (case G => walk_at "bj_a"); (case F => walk_at "bj_a"); (case N => walk_at "bj_a"); (case T => walk_at "bj_a"); (case hS => walk_at "bj_a"); intro t')
  | ((with_reducible refine' tg_x ?G ?F ?N ?T ?hS ?_); (case G => walk_at "bj_a"); (case F => walk_at "bj_a"); (case N => walk_at "bj_a"); (case T => walk_at "bj_a"); (case hS => walk_at "bj_a"); intro t')
  | ((with_reducible refine' tg_y ?G ?F ?N ?T ?hS ?_); (case G => walk_at "bj_a"); (case F => walk_at "bj_a"); (case N => walk_at "bj_a"); (case T => walk_at "bj_a"); (case hS => walk_at "bj_a"); intro t')
  | ((with_reducible refine' tg_z ?G ?F ?N ?T ?hS ?_); (case G => walk_at "bj_a"); (case F => walk_at "bj_a"); (case N => walk_at "bj_a"); (case T => walk_at "bj_a"); (case hS => walk_at "bj_a"); intro t')
  | ((with_reducible refine' tg_st ?G ?F ?N ?T ?hS ?_); (case G => walk_at "bj_a"); (case F => walk_at "bj_a"); (case N => walk_at "bj_a"); (case T => walk_at "bj_a"); (case hS => walk_at "bj_a"); intro t'))
local macro_rules | `(tactic| walk_at "bj_set") => `(tactic| (first
  | (with_reducible refine' ts_prev ?G ?F ?N ?T ?hS ?_)
  | (with_reducible refine' ts_next ?G ?F ?N ?T ?hS ?_)
  | (with_reducible refine' ts_pz ?G ?F ?N ?T ?hS ?_)
  | (with_reducible refine' ts_nz ?G ?F ?N ?T ?hS ?_)
  | (with_reducible refine' ts_prevR ?G ?F ?N ?T ?hS ?_)
  | (with_reducible refine' ts_nextR ?G ?F ?N ?T ?hS ?_)
  | (with_reducible refine' ts_pzR ?G ?F ?N ?T ?hS ?_)
  | (with_reducible refine' ts_nzR ?G ?F ?N ?T ?hS ?_)))
local macro_rules | `(tactic| walk_at "bj_il") => `(tactic| ((with_reducible refine' i_list ?N ?hm ?hi ?hx ?hj ?k ?hs); (case N => walk_at "bj_a"); (case hm => walk_at "bj_a"); (case hs => with_unfolding_all rfl)))
local macro_rules | `(tactic| walk_at "bj_it") => `(tactic| ((with_reducible refine' i_tup ?N ?hm ?hi ?hj ?hx ?k ?hs); (case N => walk_at "bj_a"); (case hm => walk_at "bj_a"); (case hs => with_unfolding_all rfl)))
local macro_rules | `(tactic| walk_at "bk") => `(tactic| first
  | walk_at "bj"
  | ((with_reducible refine' s_exprA ?_ ?hi ?hs); (case hi => rfl); (case hs => rfl))
  | ((with_reducible refine' e_meth ?_ ?hm ?he ?hp); (case hm => rfl); (case he => rfl); (case hp => rfl))
  | (with_reducible refine' e_list ?_)
  | (with_reducible refine' e_tup ?_)
  | ((with_reducible refine' i_list ?N ?hm ?hi ?hx ?hj ?_ ?hs); (case N => walk_at "bj_a"); (case hm => walk_at "bj_a"); (case hi => with_reducible rfl); (case hx => exact map_get (by with_reducible assumption)); (case hj => omega); (case hs => with_unfolding_all rfl))
  | ((with_reducible refine' i_tup (j := 0) ?N ?hm ?hi ?hj ?hx ?_ ?hs); (case N => walk_at "bj_a"); (case hm => walk_at "bj_a"); (case hi => rfl); (case hj => decide); (case hx => rfl); (case hs => with_unfolding_all rfl))
  | ((with_reducible refine' i_tup (j := 1) ?N ?hm ?hi ?hj ?hx ?_ ?hs); (case N => walk_at "bj_a"); (case hm => walk_at "bj_a"); (case hi => rfl); (case hj => decide); (case hx => rfl); (case hs => with_unfolding_all rfl)))
local macro_rules | `(tactic| walk_at "bm") => `(tactic| first
  | walk_at "bk"
  | ((with_reducible refine' e_C ?G ?N ?hx ?hc ?hdb ?hv ?_); (case G => walk_at "bj_a"); (case N => walk_at "bj_a"); (case hx => rfl); (case hc => rfl); (case hdb => rfl); (case hv => walk_at "bj_a"))
  | ((with_reducible refine' o_fdiv ?_ ?_ ?_); (decide); (decide); intro u' t')
  | (with_reducible refine' e_slc ?_)
  | (with_reducible refine' p_none ?_)
  | (with_reducible refine' p_some ?_))
noncomputable def o1S : {x : List Stmt // x = (match lb.drop 3 with | .If _ _ o _ :: _ => o | _ => [])} := by
  refine ⟨?b, ?h⟩
  case h => conv => rhs; whnf
noncomputable def o1 : List Stmt := o1S.1
noncomputable def o2S : {x : List Stmt // x = (match o1 with | .If _ _ o _ :: _ => o | _ => [])} := by
  refine ⟨?b, ?h⟩
  case h => conv => rhs; whnf
noncomputable def o2 : List Stmt := o2S.1
noncomputable def o3S : {x : List Stmt // x = (match o2 with | .If _ _ o _ :: _ => o | _ => [])} := by
  refine ⟨?b, ?h⟩
  case h => conv => rhs; whnf
noncomputable def o3 : List Stmt := o3S.1
section
variable {prog : Program} {w : World} {A : Around} {nm : Str} {L fa : Addr} {cd : Value} {h₀ : Heap} {s₀ : Shared} {h : Heap} {t : Nat} {m : Str → Option Value} {M M0 N : Led} {r : Nat} {K : Kc} {i : Nat} {β : Bool} {env : Env}

theorem law_deed {kd pl : Int} {ka : Bool → Nat} {kc kg : Nat} {R : Bool → List Addr} {C : List Addr} {gs : List Gone} {S : Addr → Prop} {nd : Addr → Nd} {u1 u2 : Tok} {Q : Flow → Shared → Prop} (G : Gd w A (le nm L fa cd) h₀ (r + 3)) (F : Fr h₀ (le nm L fa cd).locals h m) (N' : News h₀ (le nm L fa cd).locals h M) (ok : KcOk w.params K) (H : MS w.params K i M ka kc kg R C gs S nd) (hf : MF K m) (hi : i ≤ 50)
    (m1 : m "ring" = some (.ref (K.la β))) (m2 : m "place" = some (.int pl u1)) (m3 : m "kind" = some (.int kd u2)) :
    wpAny (model prog w) A (execs (lb.drop 3) (le nm L fa cd)) (TurnEnd h₀ (le nm L fa cd).locals s₀ M (JS w.params K (i + 1)) Q) NE (stt s₀ h t) := by
  have hsb := H.csz β
  have hl := H.ml.rings β
  have hlen : ((R β).map Value.ref).length < 2 ^ 62 := by rw [List.length_map]; omega
  have skip : ∀ h' t', Fr h₀ (le nm L fa cd).locals h' m → News h₀ (le nm L fa cd).locals h' M → PT w.params h₀ (le nm L fa cd).locals s₀ K (i + 1) M (stt s₀ h' t') := fun h' t' F N => ⟨_, _, _, M, ka, kc, kg, R, C, gs, S, nd, rfl, F, N, Iters.refl, H.up, hf⟩
  have tl : ∀ t' (Q : Bool → Shared → Prop), (0 < (R β).length → ∀ t', Q true (stt s₀ h t')) → ((R β).length = 0 → ∀ t', Q false (stt s₀ h t')) → wpAny (model prog w) A (truthy (.ref (K.la β))) Q NE (stt s₀ h t') := fun t' Q k1 k0 => by
    refine tb_list N' hl (by rw [List.length_map]; omega) fun t'' => ?_
    cases hR : R β with
    | nil => exact k0 (by rw [hR]; rfl) _
    | cons a X => exact k1 (by rw [hR]; simp) _
  have fin : ∀ σ, PT w.params h₀ (le nm L fa cd).locals s₀ K (i + 1) M σ → wpAny (model prog w) A (execs [] (le nm L fa cd)) (onlyN (PT w.params h₀ (le nm L fa cd).locals s₀ K (i + 1) M)) NE σ := fun σ z => wpAny_execs_nil z
  have r4 : ∀ t', wpAny (model prog w) A (execs o3 (le nm L fa cd)) (onlyN (PT w.params h₀ (le nm L fa cd).locals s₀ K (i + 1) M)) NE (stt s₀ h t') := fun t' => by
    unfold o3 o3S
    dsimp only
    refine s_ifJ (PT w.params h₀ (le nm L fa cd).locals s₀ K (i + 1) M) ?_ fin
    repeat walk_at "bm"
    refine ite_beq (fun _ => ?_) (fun _ => s_nilN (skip _ _ F N'))
    repeat walk_at "bm"
    rw [List.length_map]
    refine ite_dec (fun h1 => ?_) (fun _ => s_nilN (skip _ _ F N'))
    iterate 2 walk_at "bm"
    exact br4 (r := r + 1) G F N' H hf (by omega) Iters.refl m2 m1 (by omega)
  have r3 : ∀ t', wpAny (model prog w) A (execs o2 (le nm L fa cd)) (onlyN (PT w.params h₀ (le nm L fa cd).locals s₀ K (i + 1) M)) NE (stt s₀ h t') := fun t' => by
    unfold o2 o2S
    dsimp only
    refine s_ifJ (PT w.params h₀ (le nm L fa cd).locals s₀ K (i + 1) M) ?_ fin
    repeat walk_at "bm"
    refine ite_beq (fun _ => ?_) (fun _ => r4 _)
    repeat walk_at "bm"
    refine tl _ _ (fun hpos t' => ?_) (fun h0 t' => r4 _)
    iterate 3 walk_at "bm"
    exact br3 (r := r + 2) G F N' ok H hf (by omega) Iters.refl m2 m1 hpos
  have r2 : ∀ t', wpAny (model prog w) A (execs o1 (le nm L fa cd)) (onlyN (PT w.params h₀ (le nm L fa cd).locals s₀ K (i + 1) M)) NE (stt s₀ h t') := fun t' => by
    unfold o1 o1S
    dsimp only
    refine s_ifJ (PT w.params h₀ (le nm L fa cd).locals s₀ K (i + 1) M) ?_ fin
    repeat walk_at "bm"
    refine ite_beq (fun _ => ?_) (fun _ => r3 _)
    repeat walk_at "bm"
    refine tl _ _ (fun hpos t' => ?_) (fun h0 t' => r3 _)
    iterate 3 walk_at "bm"
    exact br2 (r := r + 2) G F N' ok H hf (by omega) Iters.refl m2 m1 hpos
  unfold lb lbS
  dsimp only [List.drop]
  refine s_ifJ (PT w.params h₀ (le nm L fa cd).locals s₀ K (i + 1) M) ?_ ?_
  · repeat walk_at "bm"
    exact ite_dec (fun _ => br1 G F N' ok H hf (by omega) Iters.refl m2 m1) (fun _ => r2 _)
  · rintro σ ⟨h', t', m', M', ka', kc', kg', R', C', gs', S', nd', rfl, F', N', I', H', hf'⟩
    exact law_check (r := r + 2) G F' N' ok H' hf' (by omega) I'

theorem law_turn {x : Int} {u : Tok} {Q : Flow → Shared → Prop} (G : Gd w A (le nm L fa cd) h₀ (r + 3)) (F : Fr h₀ (le nm L fa cd).locals h m) (N' : News h₀ (le nm L fa cd).locals h M) (ok : KcOk w.params K) (HJ : JS w.params K i m M) (hi : i ≤ 50) (mx : m "number" = some (.int x u)) :
    wpAny (model prog w) A (execs lb (le nm L fa cd)) (TurnEnd h₀ (le nm L fa cd).locals s₀ M (JS w.params K (i + 1)) Q) NE (stt s₀ h t) := by
  obtain ⟨ka, kc, kg, R, C, gs, S, nd, H, hf⟩ := HJ
  obtain ⟨f1, f2, f3, ⟨u4, f4⟩⟩ := hf
  have zr := H.ml.z _ ok.zr
  have hb0 : 0 ≤ (x.fdiv 5).fmod 2 := Int.fmod_nonneg_of_pos _ (by decide)
  have hb1 : (x.fdiv 5).fmod 2 < 2 := Int.fmod_lt_of_pos _ (by decide)
  obtain ⟨β, hβ⟩ : ∃ β : Bool, (x.fdiv 5).fmod 2 = (((if β then 1 else 0 : Nat)) : Int) := by
    rcases (by omega : (x.fdiv 5).fmod 2 = 0 ∨ (x.fdiv 5).fmod 2 = 1) with e | e
    · exact ⟨false, e⟩
    · exact ⟨true, e⟩
  have hbl : (if β then 1 else 0 : Nat) < 2 ^ 62 := by cases β <;> decide
  unfold lb lbS
  dsimp only
  repeat walk_at "bm"
  rw [hβ]
  refine i_list (j := if β then 1 else 0) (x := .ref (K.la β)) (by walk_at "bj_a") zr rfl (by cases β <;> rfl) hbl ?_ (by with_unfolding_all rfl)
  walk_at "bm"
  exact law_deed (kd := x.fmod 5) (pl := (x.fdiv 5).fdiv 2) G (by walk_at "bj_a") (by walk_at "bj_a") ok H ⟨by repeat walk_at "bj_m", by repeat walk_at "bj_m", by repeat walk_at "bj_m", ⟨_, by repeat walk_at "bj_m"⟩⟩ hi (by repeat walk_at "bj_m") (by repeat walk_at "bj_m") (by repeat walk_at "bj_m")
end
end

section
local macro_rules | `(tactic| walk_at "bj_gn") => `(tactic| first | with_reducible exact gn_len _ | with_reducible exact gn_range _ | with_reducible exact gn_list _ | with_reducible exact gn_reversed _)
local macro_rules | `(tactic| walk_at "bj_bt") => `(tactic| first | with_reducible exact PySem.boot_len | with_reducible exact PyProof.Rows.boot_range | with_reducible exact PyProof.Rows.boot_list | with_reducible exact PyProof.Rows.boot_reversed)
local macro_rules | `(tactic| walk_at "bj_gl") => `(tactic| first | with_reducible exact gl_31 _ | with_reducible exact gl_59 _ | with_reducible exact gl_70 _ | with_reducible exact gl_77 _ | with_reducible exact gl_84 _ | with_reducible exact gl_91 _ | with_reducible exact gl_92 _ | with_reducible exact gl_99 _ | with_reducible exact gl_106 _ | with_reducible exact gl_113 _ | with_reducible exact gl_120 _ | with_reducible exact gl_127 _ | with_reducible exact gl_134 _)
local macro_rules | `(tactic| walk_at "bj_kp") => `(tactic| first | with_reducible exact kp_31 _ | with_reducible exact kp_59 _ | with_reducible exact kp_70 _ | with_reducible exact kp_77 _ | with_reducible exact kp_84 _ | with_reducible exact kp_91 _ | with_reducible exact kp_99 _ | with_reducible exact kp_106 _ | with_reducible exact kp_113 _ | with_reducible exact kp_120 _ | with_reducible exact kp_127 _ | with_reducible exact kp_134 _)
local macro_rules | `(tactic| walk_at "bj_m") => `(tactic| first | (with_reducible assumption) | (with_reducible exact m_here) | ((with_reducible refine m_there ?hmt ?_); (case hmt => decide); walk_at "bj_m") | rfl)
local macro_rules | `(tactic| walk_at "bj_a") => `(tactic| (with_reducible assumption))
local macro_rules | `(tactic| walk_at "bj") => `(tactic| first
  | (with_reducible refine s_nilR ?_)
  | ((with_reducible refine' s_assignAttr ?_ ?hs); (case hs => rfl))
  | ((with_reducible refine' s_assign ?_ ?hs); (case hs => rfl))
  | (with_reducible refine' s_if ?_)
  | (with_reducible refine' s_ret ?_)
  | (with_reducible refine' s_aug ?_)
  | ((with_reducible refine' e_L ?G ?F ?hx ?hv ?_ ?hdb); (case G => walk_at "bj_a"); (case F => walk_at "bj_a"); (case hx => rfl); (case hdb => rfl); (case hv => walk_at "bj_m"))
  | ((with_reducible refine' l_L ?G ?F ?hx ?hv ?_); (case G => walk_at "bj_a"); (case F => walk_at "bj_a"); (case hx => rfl); (case hv => walk_at "bj_m"))
  | ((with_reducible refine' e_st ?G ?F ?N ?hx ?_); (case G => walk_at "bj_a"); (case F => walk_at "bj_a"); (case N => walk_at "bj_a"); (case hx => rfl); intro h' t' F' N')
  | ((with_reducible refine' e_attr ?_ ?he); (case he => with_unfolding_all rfl))
  | ((with_reducible refine' t_cmp ?_ ?hm); (case hm => with_unfolding_all rfl))
  | ((with_reducible refine' e_cmp ?_ ?hm); (case hm => with_unfolding_all rfl))
  | (with_reducible refine' e_bin ?_)
  | (with_reducible refine' t_not ?_)
  | (with_reducible refine' t_and ?_)
  | (with_reducible refine' t_or ?_)
  | (with_reducible refine' t_andN ?_)
  | (with_reducible refine' t_orN ?_)
  | (with_reducible refine' e_ifx ?_)
  | (with_reducible refine' e_and ?_)
  | (with_reducible refine' e_and1 ?_)
  | (with_reducible refine' e_un ?_)
  | (with_reducible refine' tb_bool ?_)
  | (with_reducible refine' tb_none ?_)
  | ((with_reducible refine' o_add ?_); intro u' t')
  | ((with_reducible refine' o_iadd ?_); intro u' t')
  | ((with_reducible refine' o_isub ?_); intro u' t')
  | ((with_reducible refine' o_sub ?_); intro u' t')
  | ((with_reducible refine' o_mod ?_ ?_); (decide); intro u' t')
  | ((with_reducible refine' o_neg ?_); intro u' t')
  | (with_reducible refine' c_eq ?_)
  | (with_reducible refine' c_ne ?_)
  | (with_reducible refine' c_lt ?_)
  | (with_reducible refine' c_gt ?_)
  | (with_reducible refine' c_le ?_)
  | (with_reducible refine' c_ge ?_)
  | (with_reducible refine' c_isB ?_)
  | (with_reducible refine' c_isnB ?_)
  | (with_reducible refine' c_eqB ?_)
  | (with_reducible refine' c_neB ?_)
  | (with_reducible refine' c_isRN ?_)
  | (with_reducible refine' c_isNN ?_)
  | (with_reducible refine' c_isnRN ?_)
  | (with_reducible refine' c_isnNR ?_)
  | (with_reducible refine' c_isnNN ?_)
  | (with_reducible refine' c_isnRS ?_)
  | (with_reducible refine' c_isRS ?_)
  | (with_reducible refine' if_t ?_)
  | (with_reducible refine' if_f ?_)
  | (with_reducible refine' if_nt ?_)
  | (with_reducible refine' if_nf ?_)
  | ((with_reducible refine' e_callG ?G ?F ?hx ?hdb ?eg ?hk ?_ ?hc ?he ?hp); (case G => walk_at "bj_a"); (case F => walk_at "bj_a"); (case hx => rfl); (case hdb => rfl); (case eg => walk_at "bj_gl"); (case hk => walk_at "bj_kp"); (case hc => rfl); (case he => rfl); (case hp => rfl))
  | ((with_reducible refine' e_callB ?G ?F ?hx ?hdb ?eg ?hv ?hn ?_ ?hc ?he ?hp); (case G => walk_at "bj_a"); (case F => walk_at "bj_a"); (case hx => rfl); (case hdb => rfl); (case eg => walk_at "bj_gn"); (case hv => walk_at "bj_bt"); (case hn => decide); (case hc => rfl); (case he => rfl); (case hp => rfl))
  | ((with_reducible refine' e_callT ?G ?F ?hx ?hdb ?eg ?hv ?hn ?_ ?hc ?he ?hp); (case G => walk_at "bj_a"); (case F => walk_at "bj_a"); (case hx => rfl); (case hdb => rfl); (case eg => walk_at "bj_gn"); (case hv => walk_at "bj_bt"); (case hn => decide); (case hc => rfl); (case he => rfl); (case hp => rfl))
  | ((with_reducible refine' o_len ?N ?hm ?hf ?_); (case N => walk_at "bj_a"); (case hm => walk_at "bj_a"); (case hf => walk_at "bj_a"); intro u' t')
  | ((with_reducible refine' o_range ?F ?N ?_); (case F => walk_at "bj_a"); (case N => walk_at "bj_a"); intro rg' h' t' a' b' c' R' F' N')
  | (with_reducible refine' e_sub ?_)
  | ((with_reducible refine' s_for ?G ?hx ?_ ?hs); (case G => walk_at "bj_a"); (case hx => rfl); (case hs => intro _; rfl))
  | ((with_reducible refine' a_cons ?_ ?he); (case he => rfl))
  | (with_reducible refine' a_nil ?_)
  | ((with_reducible refine' a_in ?G ?F ?_); (case G => walk_at "bj_a"); (case F => walk_at "bj_a"))
  | ((with_reducible refine' t_plain ?_ ?he); (case he => rfl))
  | (with_reducible refine' e_none ?_)
  | (with_reducible refine' e_bool ?_)
  | ((with_reducible refine' e_int ?_); intro u' t'))
local macro_rules | `(tactic| walk_at "bj_g5") => `(tactic| ((case G => walk_at "bj_a"); (case F => walk_at "bj_a"); (case N => walk_at "bj_a"); (case T => walk_at "bj_a"); (case hS => walk_at "bj_a")))
local macro_rules | `(tactic| walk_at "bj_get") => `(tactic| first
  | ((with_reducible refine' tg_next ?G ?F ?N ?T ?hS ?_); (case G => walk_at "bj_a"); (case F => walk_at "bj_a"); (case N => walk_at "bj_a"); (case T => walk_at "bj_a"); (case hS => walk_at "bj_a"); intro t')
  | ((with_reducible refine' tg_prev ?G ?F ?N ?T ?hS ?_); (case G => walk_at "bj_a"); (case F => walk_at "bj_a"); (case N => walk_at "bj_a"); (case T => walk_at "bj_a"); (case hS => walk_at "bj_a"); intro t')
  | ((with_reducible refine' tg_pz ?G ?F ?N ?T ?hS ?_); (case G => walk_at "bj_a"); (case F => walk_at "bj_a"); (case N => walk_at "bj_a"); (case T => walk_at "bj_a"); (case hS => walk_at "bj_a"); intro t')
  | ((with_reducible refine' tg_nz ?G ?F ?N ?T ?hS ?_); (case G => walk_at "bj_a"); (case F => walk_at "bj_a"); (case N => walk_at "bj_a"); (case T => walk_at "bj_a"); (case hS => walk_at "bj_a"); intro t')
  | ((with_reducible refine' tg_i ?G ?F ?N ?T ?hS ?_); (case G => walk_at "bj_a"); (case F => walk_at "bj_a"); (case N => walk_at "bj_a"); (case T => walk_at "bj_a"); (case hS => walk_at "bj_a"); intro t')
  | ((with_reducible refine' tg_point ?G ?F ?N ?T ?hS ?_); (case G => walk_at "bj_a"); (case F => walk_at "bj_a"); (case N => walk_at "bj_a"); (case T => walk_at "bj_a"); (case hS => walk_at "bj_a"); intro t')
  | ((with_reducible refine' tg_x ?G ?F ?N ?T ?hS ?_); (case G => walk_at "bj_a"); (case F => walk_at "bj_a"); (case N => walk_at "bj_a"); (case T => walk_at "bj_a"); (case hS => walk_at "bj_a"); intro t')
  | ((with_reducible refine' tg_y ?G ?F ?N ?T ?hS ?_); (case G => walk_at "bj_a"); (case F => walk_at "bj_a"); (case N => walk_at "bj_a"); (case T => walk_at "bj_a"); (case hS => walk_at "bj_a"); intro t')
  | ((with_reducible refine' tg_z ?G ?F ?N ?T ?hS ?_); (case G => walk_at "bj_a"); (case F => walk_at "bj_a"); (case N => walk_at "bj_a"); (case T => walk_at "bj_a"); (case hS => walk_at "bj_a"); intro t')
  | ((with_reducible refine' tg_st ?G ?F ?N ?T ?hS ?_); (case G => walk_at "bj_a"); (case F => walk_at "bj_a"); (case N => walk_at "bj_a"); (case T => walk_at "bj_a"); (case hS => walk_at "bj_a"); intro t'))
local macro_rules | `(tactic| walk_at "bj_set") => `(tactic| (first
  | (with_reducible refine' ts_prev ?G ?F ?N ?T ?hS ?_)
  | (with_reducible refine' ts_next ?G ?F ?N ?T ?hS ?_)
  | (with_reducible refine' ts_pz ?G ?F ?N ?T ?hS ?_)
  | (with_reducible refine' ts_nz ?G ?F ?N ?T ?hS ?_)
  | (with_reducible refine' ts_prevR ?G ?F ?N ?T ?hS ?_)
  | (with_reducible refine' ts_nextR ?G ?F ?N ?T ?hS ?_)
  | (with_reducible refine' ts_pzR ?G ?F ?N ?T ?hS ?_)
  | (with_reducible refine' ts_nzR ?G ?F ?N ?T ?hS ?_)))
local macro_rules | `(tactic| walk_at "bj_il") => `(tactic| ((with_reducible refine' i_list ?N ?hm ?hi ?hx ?hj ?k ?hs); (case N => walk_at "bj_a"); (case hm => walk_at "bj_a"); (case hs => with_unfolding_all rfl)))
local macro_rules | `(tactic| walk_at "bj_it") => `(tactic| ((with_reducible refine' i_tup ?N ?hm ?hi ?hj ?hx ?k ?hs); (case N => walk_at "bj_a"); (case hm => walk_at "bj_a"); (case hs => with_unfolding_all rfl)))
local macro_rules | `(tactic| walk_at "bk") => `(tactic| first
  | walk_at "bj"
  | ((with_reducible refine' s_exprA ?_ ?hi ?hs); (case hi => rfl); (case hs => rfl))
  | ((with_reducible refine' e_meth ?_ ?hm ?he ?hp); (case hm => rfl); (case he => rfl); (case hp => rfl))
  | (with_reducible refine' e_list ?_)
  | (with_reducible refine' e_tup ?_)
  | ((with_reducible refine' i_list ?N ?hm ?hi ?hx ?hj ?_ ?hs); (case N => walk_at "bj_a"); (case hm => walk_at "bj_a"); (case hi => with_reducible rfl); (case hx => exact map_get (by with_reducible assumption)); (case hj => omega); (case hs => with_unfolding_all rfl))
  | ((with_reducible refine' i_tup (j := 0) ?N ?hm ?hi ?hj ?hx ?_ ?hs); (case N => walk_at "bj_a"); (case hm => walk_at "bj_a"); (case hi => rfl); (case hj => decide); (case hx => rfl); (case hs => with_unfolding_all rfl))
  | ((with_reducible refine' i_tup (j := 1) ?N ?hm ?hi ?hj ?hx ?_ ?hs); (case N => walk_at "bj_a"); (case hm => walk_at "bj_a"); (case hi => rfl); (case hj => decide); (case hx => rfl); (case hs => with_unfolding_all rfl)))
local macro_rules | `(tactic| walk_at "bm") => `(tactic| first
  | walk_at "bk"
  | ((with_reducible refine' e_C ?G ?N ?hx ?hc ?hdb ?hv ?_); (case G => walk_at "bj_a"); (case N => walk_at "bj_a"); (case hx => rfl); (case hc => rfl); (case hdb => rfl); (case hv => walk_at "bj_a"))
  | ((with_reducible refine' o_fdiv ?_ ?_ ?_); (decide); (decide); intro u' t')
  | (with_reducible refine' e_slc ?_)
  | (with_reducible refine' p_none ?_)
  | (with_reducible refine' p_some ?_))
section
variable {prog : Program} {w : World} {A : Around} {nm : Str} {L fa : Addr} {cd : Value} {h₀ : Heap} {s₀ : Shared} {h : Heap} {t : Nat} {m : Str → Option Value} {M M0 N : Led} {r : Nat} {K : Kc} {i : Nat} {env : Env}

theorem with_compT {e : Expr} {scope : Scope} {cl : List (Str × Addr)} {C : Addr} {Q : Bool → Shared → Prop} (G : Gd w A env h₀ r) (hk : scope.kind = .function) (F : Fr h₀ C h m) (N' : News h₀ C h N)
    (k : Gd w A (compEnvC scope cl C env) h₀ r → Fr h₀ (compEnvC scope cl C env).locals h m → News h₀ (compEnvC scope cl C env).locals h N → wpAny (model prog w) A (isTrue e (compEnvC scope cl C env) (eval e (compEnvC scope cl C env))) Q NE (stt s₀ h t)) :
    wpAny (model prog w) A (isTrue e (compEnvC scope cl C env) (eval e (compEnvC scope cl C env))) Q NE (stt s₀ h t) := k ⟨G.X, G.T, hk, G.hgl, G.hbl, G.hd, G.hu, G.hh⟩ F N'

theorem law_end {lh lp : Addr} {ps : List Addr} {kh kp : Nat} {Q : Flow → Shared → Prop} (G : Gd w A (le nm L fa cd) h₀ (r + 3)) (F : Fr h₀ (le nm L fa cd).locals h m) (N' : News h₀ (le nm L fa cd).locals h M)
    (hh : (lh, PySem.W.listOf (ps.map Value.ref).toArray kh) ∈ M) (hp : (lp, PySem.W.listOf (ps.map Value.ref).toArray kp) ∈ M) (c3 : Cell M (L + 3) (some (.ref lp))) (c4 : Cell M (L + 4) (some (.ref lh))) (hz : ps.length ≤ 100) (mc : ∃ u, m "count" = some (.int (ps.length : Int) u))
    (kk : ∀ h' t' m', Fr h₀ (le nm L fa cd).locals h' m' → Q (.ret (.bool true)) (stt s₀ h' t')) :
    wpAny (model prog w) A (execs (bd139.drop 22) (le nm L fa cd)) Q NE (stt s₀ h t) := by
  obtain ⟨uc, mc⟩ := mc
  have hlen : (ps.map Value.ref).length < 2 ^ 62 := by rw [List.length_map]; omega
  unfold bd139 bdS139
  dsimp only [List.drop]
  repeat walk_at "bm"
  refine e_comp (cl := [(("points" : Str), L + 3), (("handed" : Str), L + 4)]) ?hclos ?hkind ?hnames ?_ ?hs
  case hclos => rfl
  case hkind => rfl
  case hnames => decide
  case hs => intro _; rfl
  repeat walk_at "bm"
  refine c_range (n := ps.length) (a := 0) (b := ((ps.map Value.ref).length : Int)) (st := 1) (fun i ys X => ys = [] ∧ X = []) G.hh (by decide) rfl rfl (by walk_at "bj_a") (by walk_at "bj_a") (by walk_at "bj_a")
    (small_one (by omega) (by omega) (by omega) (by omega)) (by rw [rangeSize_one, List.length_map]; split <;> omega) (by omega) ⟨rfl, rfl⟩ ?_ (done_none ?_)
  · rintro C i u ys X m₁ M₁ h₂ t₂ hi ⟨rfl, rfl⟩ hM hmv F₂ N₂
    rw [show (0 : Int) + (i : Int) * 1 = (i : Int) by omega] at hmv
    have up : ∀ p ∈ M, p ∈ M₁ := fun p hp => hM p (List.mem_append_right _ hp)
    have hh₁ := up _ hh
    have hp₁ := up _ hp
    have c3₁ := c3.more up
    have c4₁ := c4.more up
    have ha : ps[i]? = some ps[i] := List.getElem?_eq_getElem hi
    generalize ps[i] = a at ha
    refine f_one ?_
    refine with_compT G rfl F₂ N₂ fun Gc F₂ N₂ => ?_
    repeat walk_at "bm"
    exact ⟨⟨_, rfl⟩, rfl, rfl⟩
  · rintro D ys X c h' t' ⟨rfl, rfl⟩ hX hlt F₁ N₁
    clear F N'
    have up : ∀ p ∈ M, p ∈ (D, PySem.W.listOf ([] : List Value).toArray c) :: ([] ++ M) := fun p hp => .tail _ hp
    repeat walk_at "bm"
    refine n_list (vs := []) (by walk_at "bj_a") (by walk_at "bj_a") (by simp) ?_
    intro D2 h₂ F₂ N₂ hlt2
    have c4₂ := c4.more (M := (D2, PySem.W.listOf ([] : List Value).toArray 0) :: (D, PySem.W.listOf ([] : List Value).toArray c) :: ([] ++ M)) fun p hp => .tail _ (up p hp)
    have hh₂ : (lh, PySem.W.listOf (ps.map Value.ref).toArray kh) ∈ (D2, PySem.W.listOf ([] : List Value).toArray 0) :: (D, PySem.W.listOf ([] : List Value).toArray c) :: ([] ++ M) := .tail _ (up _ hh)
    refine c_eqNil (r := r + 2) G N₂ (.tail _ (.head _)) (.head _) ?_
    repeat walk_at "bm"
    rw [List.length_map, beq_self_eq_true]
    exact kk _ _ _ (by walk_at "bj_a")
end
end

section
local macro_rules | `(tactic| walk_at "bj_gn") => `(tactic| first | with_reducible exact gn_len _ | with_reducible exact gn_range _ | with_reducible exact gn_list _ | with_reducible exact gn_reversed _)
local macro_rules | `(tactic| walk_at "bj_bt") => `(tactic| first | with_reducible exact PySem.boot_len | with_reducible exact PyProof.Rows.boot_range | with_reducible exact PyProof.Rows.boot_list | with_reducible exact PyProof.Rows.boot_reversed)
local macro_rules | `(tactic| walk_at "bj_gl") => `(tactic| first | with_reducible exact gl_31 _ | with_reducible exact gl_59 _ | with_reducible exact gl_70 _ | with_reducible exact gl_77 _ | with_reducible exact gl_84 _ | with_reducible exact gl_91 _ | with_reducible exact gl_92 _ | with_reducible exact gl_99 _ | with_reducible exact gl_106 _ | with_reducible exact gl_113 _ | with_reducible exact gl_120 _ | with_reducible exact gl_127 _ | with_reducible exact gl_134 _)
local macro_rules | `(tactic| walk_at "bj_kp") => `(tactic| first | with_reducible exact kp_31 _ | with_reducible exact kp_59 _ | with_reducible exact kp_70 _ | with_reducible exact kp_77 _ | with_reducible exact kp_84 _ | with_reducible exact kp_91 _ | with_reducible exact kp_99 _ | with_reducible exact kp_106 _ | with_reducible exact kp_113 _ | with_reducible exact kp_120 _ | with_reducible exact kp_127 _ | with_reducible exact kp_134 _)
local macro_rules | `(tactic| walk_at "bj_m") => `(tactic| first | (with_reducible assumption) | (with_reducible exact m_here) | ((with_reducible refine m_there ?hmt ?_); (case hmt => decide); walk_at "bj_m") | rfl)
local macro_rules | `(tactic| walk_at "bj_a") => `(tactic| (with_reducible assumption))
local macro_rules | `(tactic| walk_at "bj") => `(tactic| first
  | (with_reducible refine s_nilR ?_)
  | ((with_reducible refine' s_assignAttr ?_ ?hs); (case hs => rfl))
  | ((with_reducible refine' s_assign ?_ ?hs); (case hs => rfl))
  | (with_reducible refine' s_if ?_)
  | (with_reducible refine' s_ret ?_)
  | (with_reducible refine' s_aug ?_)
  | ((with_reducible refine' e_L ?G ?F ?hx ?hv ?_ ?hdb); (case G => walk_at "bj_a"); (case F => walk_at "bj_a"); (case hx => rfl); (case hdb => rfl); (case hv => walk_at "bj_m"))
  | ((with_reducible refine' l_L ?G ?F ?hx ?hv ?_); (case G => walk_at "bj_a"); (case F => walk_at "bj_a"); (case hx => rfl); (case hv => walk_at "bj_m"))
  | ((with_reducible refine' e_st ?G ?F ?N ?hx ?_); (case G => walk_at "bj_a"); (case F => walk_at "bj_a"); (case N => walk_at "bj_a"); (case hx => rfl); intro h' t' F' N')
  | ((with_reducible refine' e_attr ?_ ?he); (case he => with_unfolding_all rfl))
  | ((with_reducible refine' t_cmp ?_ ?hm); (case hm => with_unfolding_all rfl))
  | ((with_reducible refine' e_cmp ?_ ?hm); (case hm => with_unfolding_all rfl))
  | (with_reducible refine' e_bin ?_)
  | (with_reducible refine' t_not ?_)
  | (with_reducible refine' t_and ?_)
  | (with_reducible refine' t_or ?_)
  | (with_reducible refine' t_andN ?_)
  | (with_reducible refine' t_orN ?_)
  | (with_reducible refine' e_ifx ?_)
  | (with_reducible refine' e_and ?_)
  | (with_reducible refine' e_and1 ?_)
  | (with_reducible refine' e_un ?_)
  | (with_reducible refine' tb_bool ?_)
  | (with_reducible refine' tb_none ?_)
  | ((with_reducible refine' o_add ?_); intro u' t')
  | ((with_reducible refine' o_iadd ?_); intro u' t')
  | ((with_reducible refine' o_isub ?_); intro u' t')
  | ((with_reducible refine' o_sub ?_); intro u' t')
  | ((with_reducible refine' o_mod ?_ ?_); (decide); intro u' t')
  | ((with_reducible refine' o_neg ?_); intro u' t')
  | (with_reducible refine' c_eq ?_)
  | (with_reducible refine' c_ne ?_)
  | (with_reducible refine' c_lt ?_)
  | (with_reducible refine' c_gt ?_)
  | (with_reducible refine' c_le ?_)
  | (with_reducible refine' c_ge ?_)
  | (with_reducible refine' c_isB ?_)
  | (with_reducible refine' c_isnB ?_)
  | (with_reducible refine' c_eqB ?_)
  | (with_reducible refine' c_neB ?_)
  | (with_reducible refine' c_isRN ?_)
  | (with_reducible refine' c_isNN ?_)
  | (with_reducible refine' c_isnRN ?_)
  | (with_reducible refine' c_isnNR ?_)
  | (with_reducible refine' c_isnNN ?_)
  | (with_reducible refine' c_isnRS ?_)
  | (with_reducible refine' c_isRS ?_)
  | (with_reducible refine' if_t ?_)
  | (with_reducible refine' if_f ?_)
  | (with_reducible refine' if_nt ?_)
  | (with_reducible refine' if_nf ?_)
  | ((with_reducible refine' e_callG ?G ?F ?hx ?hdb ?eg ?hk ?_ ?hc ?he ?hp); (case G => walk_at "bj_a"); (case F => walk_at "bj_a"); (case hx => rfl); (case hdb => rfl); (case eg => walk_at "bj_gl"); (case hk => walk_at "bj_kp"); (case hc => rfl); (case he => rfl); (case hp => rfl))
  | ((with_reducible refine' e_callB ?G ?F ?hx ?hdb ?eg ?hv ?hn ?_ ?hc ?he ?hp); (case G => walk_at "bj_a"); (case F => walk_at "bj_a"); (case hx => rfl); (case hdb => rfl); (case eg => walk_at "bj_gn"); (case hv => walk_at "bj_bt"); (case hn => decide); (case hc => rfl); (case he => rfl); (case hp => rfl))
  | ((with_reducible refine' e_callT ?G ?F ?hx ?hdb ?eg ?hv ?hn ?_ ?hc ?he ?hp); (case G => walk_at "bj_a"); (case F => walk_at "bj_a"); (case hx => rfl); (case hdb => rfl); (case eg => walk_at "bj_gn"); (case hv => walk_at "bj_bt"); (case hn => decide); (case hc => rfl); (case he => rfl); (case hp => rfl))
  | ((with_reducible refine' o_len ?N ?hm ?hf ?_); (case N => walk_at "bj_a"); (case hm => walk_at "bj_a"); (case hf => walk_at "bj_a"); intro u' t')
  | ((with_reducible refine' o_range ?F ?N ?_); (case F => walk_at "bj_a"); (case N => walk_at "bj_a"); intro rg' h' t' a' b' c' R' F' N')
  | (with_reducible refine' e_sub ?_)
  | ((with_reducible refine' s_for ?G ?hx ?_ ?hs); (case G => walk_at "bj_a"); (case hx => rfl); (case hs => intro _; rfl))
  | ((with_reducible refine' a_cons ?_ ?he); (case he => rfl))
  | (with_reducible refine' a_nil ?_)
  | ((with_reducible refine' a_in ?G ?F ?_); (case G => walk_at "bj_a"); (case F => walk_at "bj_a"))
  | ((with_reducible refine' t_plain ?_ ?he); (case he => rfl))
  | (with_reducible refine' e_none ?_)
  | (with_reducible refine' e_bool ?_)
  | ((with_reducible refine' e_int ?_); intro u' t'))
local macro_rules | `(tactic| walk_at "bj_g5") => `(tactic| ((case G => walk_at "bj_a"); (case F => walk_at "bj_a"); (case N => walk_at "bj_a"); (case T => walk_at "bj_a"); (case hS => walk_at "bj_a")))
local macro_rules | `(tactic| walk_at "bj_get") => `(tactic| first
  | ((with_reducible refine' tg_next ?G ?F ?N ?T ?hS ?_); (case G => walk_at "bj_a"); (case F => walk_at "bj_a"); (case N => walk_at "bj_a"); (case T => walk_at "bj_a"); (case hS => walk_at "bj_a"); intro t')
  | ((with_reducible refine' tg_prev ?G ?F ?N ?T ?hS ?_); (case G => walk_at "bj_a"); (case F => walk_at "bj_a"); (case N => walk_at "bj_a"); (case T => walk_at "bj_a"); (case hS => walk_at "bj_a"); intro t')
  | ((with_reducible refine' tg_pz ?G ?F ?N ?T ?hS ?_); (case G => walk_at "bj_a"); (case F => walk_at "bj_a"); (case N => walk_at "bj_a"); (case T => walk_at "bj_a"); (case hS => walk_at "bj_a"); intro t')
  | ((with_reducible refine' tg_nz ?G ?F ?N ?T ?hS ?_); (case G => walk_at "bj_a"); (case F => walk_at "bj_a"); (case N => walk_at "bj_a"); (case T => walk_at "bj_a"); (case hS => walk_at "bj_a"); intro t')
  | ((with_reducible refine' tg_i ?G ?F ?N ?T ?hS ?_); (case G => walk_at "bj_a"); (case F => walk_at "bj_a"); (case N => walk_at "bj_a"); (case T => walk_at "bj_a"); (case hS => walk_at "bj_a"); intro t')
  | ((with_reducible refine' tg_point ?G ?F ?N ?T ?hS ?_); (case G => walk_at "bj_a"); (case F => walk_at "bj_a"); (case N => walk_at "bj_a"); (case T => walk_at "bj_a"); (case hS => walk_at "bj_a"); intro t')
  | ((with_reducible refine' tg_x ?G ?F ?N ?T ?hS ?_); (case G => walk_at "bj_a"); (case F => walk_at "bj_a"); (case N => walk_at "bj_a"); (case T => walk_at "bj_a"); (case hS => walk_at "bj_a"); intro t')
  | ((with_reducible refine' tg_y ?G ?F ?N ?T ?hS ?_); (case G => walk_at "bj_a"); (case F => walk_at "bj_a"); (case N => walk_at "bj_a"); (case T => walk_at "bj_a"); (case hS => walk_at "bj_a"); intro t')
  | ((with_reducible refine' tg_z ?G ?F ?N ?T ?hS ?_); (case G => walk_at "bj_a"); (case F => walk_at "bj_a"); (case N => walk_at "bj_a"); (case T => walk_at "bj_a"); (case hS => walk_at "bj_a"); intro t')
  | ((with_reducible refine' tg_st ?G ?F ?N ?T ?hS ?_); (case G => walk_at "bj_a"); (case F => walk_at "bj_a"); (case N => walk_at "bj_a"); (case T => walk_at "bj_a"); (case hS => walk_at "bj_a"); intro t'))
local macro_rules | `(tactic| walk_at "bj_set") => `(tactic| (first
  | (with_reducible refine' ts_prev ?G ?F ?N ?T ?hS ?_)
  | (with_reducible refine' ts_next ?G ?F ?N ?T ?hS ?_)
  | (with_reducible refine' ts_pz ?G ?F ?N ?T ?hS ?_)
  | (with_reducible refine' ts_nz ?G ?F ?N ?T ?hS ?_)
  | (with_reducible refine' ts_prevR ?G ?F ?N ?T ?hS ?_)
  | (with_reducible refine' ts_nextR ?G ?F ?N ?T ?hS ?_)
  | (with_reducible refine' ts_pzR ?G ?F ?N ?T ?hS ?_)
  | (with_reducible refine' ts_nzR ?G ?F ?N ?T ?hS ?_)))
local macro_rules | `(tactic| walk_at "bj_il") => `(tactic| ((with_reducible refine' i_list ?N ?hm ?hi ?hx ?hj ?k ?hs); (case N => walk_at "bj_a"); (case hm => walk_at "bj_a"); (case hs => with_unfolding_all rfl)))
local macro_rules | `(tactic| walk_at "bj_it") => `(tactic| ((with_reducible refine' i_tup ?N ?hm ?hi ?hj ?hx ?k ?hs); (case N => walk_at "bj_a"); (case hm => walk_at "bj_a"); (case hs => with_unfolding_all rfl)))
local macro_rules | `(tactic| walk_at "bk") => `(tactic| first
  | walk_at "bj"
  | ((with_reducible refine' s_exprA ?_ ?hi ?hs); (case hi => rfl); (case hs => rfl))
  | ((with_reducible refine' e_meth ?_ ?hm ?he ?hp); (case hm => rfl); (case he => rfl); (case hp => rfl))
  | (with_reducible refine' e_list ?_)
  | (with_reducible refine' e_tup ?_)
  | ((with_reducible refine' i_list ?N ?hm ?hi ?hx ?hj ?_ ?hs); (case N => walk_at "bj_a"); (case hm => walk_at "bj_a"); (case hi => with_reducible rfl); (case hx => exact map_get (by with_reducible assumption)); (case hj => omega); (case hs => with_unfolding_all rfl))
  | ((with_reducible refine' i_tup (j := 0) ?N ?hm ?hi ?hj ?hx ?_ ?hs); (case N => walk_at "bj_a"); (case hm => walk_at "bj_a"); (case hi => rfl); (case hj => decide); (case hx => rfl); (case hs => with_unfolding_all rfl))
  | ((with_reducible refine' i_tup (j := 1) ?N ?hm ?hi ?hj ?hx ?_ ?hs); (case N => walk_at "bj_a"); (case hm => walk_at "bj_a"); (case hi => rfl); (case hj => decide); (case hx => rfl); (case hs => with_unfolding_all rfl)))
local macro_rules | `(tactic| walk_at "bm") => `(tactic| first
  | walk_at "bk"
  | ((with_reducible refine' e_C ?G ?N ?hx ?hc ?hdb ?hv ?_); (case G => walk_at "bj_a"); (case N => walk_at "bj_a"); (case hx => rfl); (case hc => rfl); (case hdb => rfl); (case hv => walk_at "bj_a"))
  | ((with_reducible refine' o_fdiv ?_ ?_ ?_); (decide); (decide); intro u' t')
  | (with_reducible refine' e_slc ?_)
  | (with_reducible refine' p_none ?_)
  | (with_reducible refine' p_some ?_))
section
variable {prog : Program} {w : World} {A : Around} {nm : Str} {L fa : Addr} {cd : Value} {h₀ : Heap} {s₀ : Shared} {h : Heap} {t : Nat} {m : Str → Option Value} {M M0 N : Led} {r : Nat} {i : Nat} {env : Env}

theorem MF.set {K : Kc} {x : Str} {v : Value} (H : MF K m) (h1 : ("rings" : Str) ≠ x) (h2 : ("chain" : Str) ≠ x) (h3 : ("gone" : Str) ≠ x) (h4 : ("count" : Str) ≠ x) : MF K (fun y => if y = x then some v else m y) :=
  ⟨(if_neg h1).trans H.f1, (if_neg h2).trans H.f2, (if_neg h3).trans H.f3, let ⟨u, h⟩ := H.f4; ⟨u, (if_neg h4).trans h⟩⟩

theorem law7 {ln lp lh l0 : Addr} {kn kp kh c0 : Nat} {ps RR : List Addr} {nv : List Value} {nf : Nat → Int} {nd : Addr → Nd} {many : Int} {Q : Flow → Shared → Prop} (G : Gd w A (le nm L fa cd) h₀ (r + 3)) (F : Fr h₀ (le nm L fa cd).locals h m) (N' : News h₀ (le nm L fa cd).locals h M)
    (H : Made w.params M L lp lh ln l0 kp kh kn c0 ps RR nv nd) (hN : Nums nv nf) (hn2 : nv.length ≤ 82) (h1 : 0 ≤ many) (h2 : many ≤ 8) (hz : ps.length ≤ 100) (m1 : m "numbers" = some (.ref ln)) (m2 : ∃ u, m "many" = some (.int many u)) (m3 : ∃ u, m "count" = some (.int (ps.length : Int) u)) (m4 : m "ring" = some (.ref l0))
    (kk : ∀ h' t' m', Fr h₀ (le nm L fa cd).locals h' m' → Q (.ret (.bool true)) (stt s₀ h' t')) :
    wpAny (model prog w) A (execs (bd139.drop 18) (le nm L fa cd)) Q NE (stt s₀ h t) := by
  obtain ⟨u2, m2⟩ := m2
  obtain ⟨u3, m3⟩ := m3
  unfold bd139 bdS139
  dsimp only [List.drop]
  repeat walk_at "bm"
  refine n_list (vs := []) (by walk_at "bj_a") (by walk_at "bj_a") (by simp) ?_
  clear F N'
  intro l1 h₁ F₁ N₁ hl1
  repeat walk_at "bm"
  refine n_list (vs := [.ref l0, .ref l1]) (by walk_at "bj_a") (by walk_at "bj_a") (by simp) ?_
  clear F₁ N₁
  intro lr h₁ F₁ N₁ hlr
  repeat walk_at "bm"
  refine n_list (vs := []) (by walk_at "bj_a") (by walk_at "bj_a") (by simp) ?_
  clear F₁ N₁
  intro lc h₁ F₁ N₁ hlc
  repeat walk_at "bm"
  refine n_list (vs := []) (by walk_at "bj_a") (by walk_at "bj_a") (by simp) ?_
  clear F₁ N₁
  intro lg h₁ F₁ N₁ hlg
  repeat walk_at "bm"
  obtain ⟨ws, hws, hwl, hwn⟩ : ∃ ws : List Value, slicePick nv.toArray (some (1 + many)) (some (25 + many)) none = ws.toArray ∧ ws.length ≤ 24 ∧ ∀ v ∈ ws, ∃ x u, v = Value.int x u := by
    obtain ⟨nn, rfl⟩ : ∃ nn : Nat, many = (nn : Int) := ⟨many.toNat, (Int.toNat_of_nonneg h1).symm⟩
    refine ⟨_, slicePick_plain _ _ _, ?_, ?_⟩
    · simp only [Option.elim]
      rw [show (1 : Int) + (nn : Int) = ((1 + nn : Nat) : Int) by omega, show (25 : Int) + (nn : Int) = ((25 + nn : Nat) : Int) by omega, clipAt_nat, clipAt_nat, List.length_take]
      omega
    · intro v hv
      obtain ⟨j, hj, e⟩ := List.getElem_of_mem (List.mem_of_mem_drop (List.mem_of_mem_take hv))
      obtain ⟨u, hu⟩ := hN j v (by rw [← e]; exact List.getElem?_eq_getElem hj)
      exact ⟨_, u, hu⟩
  have hln : (ln, PySem.W.listOf nv.toArray kn) ∈ (lg, PySem.W.listOf ([] : List Value).toArray 0) :: (lc, PySem.W.listOf ([] : List Value).toArray 0) :: (lr, PySem.W.listOf [Value.ref l0, .ref l1].toArray 0) :: (l1, PySem.W.listOf ([] : List Value).toArray 0) :: M := .tail _ (.tail _ (.tail _ (.tail _ H.hn)))
  refine i_slice (ws := ws) (by walk_at "bj_a") (by walk_at "bj_a") hln (.int _ _) (.int _ _) hws (by omega) ?_ (by with_unfolding_all rfl) (by intro _; with_unfolding_all rfl)
  clear F₁ N₁
  intro sl h₂ F₂ N₂ hsl
  obtain ⟨o3, ho3, hd3⟩ := H.c3
  obtain ⟨o4, ho4, hd4⟩ := H.c4
  -- the order of what was made
  have q1 : ∀ a o, (a, o) ∈ M → (show Nat from a) < l1 := fun a o h => hl1 _ h
  have q2 : (show Nat from l1) < lr := hlr _ (.head _)
  have q3 : (show Nat from lr) < lc := hlc _ (.head _)
  have q4 : (show Nat from lc) < lg := hlg _ (.head _)
  have q5 : (show Nat from lg) < sl := hsl _ (.head _)
  have c3n : (L + 3 : Nat) ≠ l0 := fun e => by
    have e' : o3 = _ := News.uniq N₂ (.tail _ (.tail _ (.tail _ (.tail _ (.tail _ (e ▸ ho3)))))) (.tail _ (.tail _ (.tail _ (.tail _ (.tail _ H.h0)))))
    rw [e'] at hd3; cases hd3
  have c4n : (L + 4 : Nat) ≠ l0 := fun e => by
    have e' : o4 = _ := News.uniq N₂ (.tail _ (.tail _ (.tail _ (.tail _ (.tail _ (e ▸ ho4)))))) (.tail _ (.tail _ (.tail _ (.tail _ (.tail _ H.h0)))))
    rw [e'] at hd4; cases hd4
  have upM : ∀ p ∈ M, p ∈ (sl, PySem.W.listOf ws.toArray 0) :: (lg, PySem.W.listOf ([] : List Value).toArray 0) :: (lc, PySem.W.listOf ([] : List Value).toArray 0) :: (lr, PySem.W.listOf [Value.ref l0, .ref l1].toArray 0) :: (l1, PySem.W.listOf ([] : List Value).toArray 0) :: M := fun p hp => .tail _ (.tail _ (.tail _ (.tail _ (.tail _ hp))))
  obtain ⟨K, hK⟩ : ∃ K : Kc, K = ⟨lr, 0, fun b => if b then l1 else l0, lc, lg, [(lr, PySem.W.listOf [Value.ref l0, .ref l1].toArray 0), (lh, PySem.W.listOf (ps.map Value.ref).toArray kh), (lp, PySem.W.listOf (ps.map Value.ref).toArray kp), (sl, PySem.W.listOf ws.toArray 0), (L + 3, o3), (L + 4, o4)], ps.length⟩ := ⟨_, rfl⟩
  have ok : KcOk w.params K := by
    subst hK
    have k1 : ∀ a o, (a, o) ∈ M → ∀ x : Nat, l1 ≤ x → (show Nat from a) ≠ x := fun a o h x hx => Nat.ne_of_lt (Nat.lt_of_lt_of_le (q1 a o h) hx)
    have r1 : (show Nat from l1) ≤ l1 := Nat.le_refl _
    have r2 : (show Nat from l1) ≤ lc := Nat.le_of_lt (Nat.lt_trans q2 q3)
    have r3 : (show Nat from l1) ≤ lg := Nat.le_of_lt (Nat.lt_trans (Nat.lt_trans q2 q3) q4)
    have t1 : (show Nat from l0) < l1 := q1 _ _ H.h0
    have t2 : (show Nat from l1) < sl := Nat.lt_trans (Nat.lt_trans (Nat.lt_trans q2 q3) q4) q5
    refine ⟨.head _, ?_, ?_, ?_, ?_, ?_, ?_, ?_, ?_, ?_⟩
    · intro p hp
      simp only [List.mem_cons, List.not_mem_nil, or_false] at hp
      rcases hp with rfl | rfl | rfl | rfl | rfl | rfl
      · rfl
      · rfl
      · rfl
      · rfl
      · exact cell_it hd3
      · exact cell_it hd4
    · intro p hp
      simp only [List.mem_cons, List.not_mem_nil, or_false] at hp
      rcases hp with rfl | rfl | rfl | rfl | rfl | rfl
      · exact ne_seq
      · exact ne_seq
      · exact ne_seq
      · exact ne_seq
      · exact cell_nd hd3
      · exact cell_nd hd4
    · intro p hp b
      simp only [List.mem_cons, List.not_mem_nil, or_false] at hp
      cases b with
      | false =>
        rcases hp with rfl | rfl | rfl | rfl | rfl | rfl
        · exact Ne.symm (Nat.ne_of_lt (Nat.lt_trans t1 q2))
        · exact H.hne
        · exact H.pne
        · exact Ne.symm (Nat.ne_of_lt (Nat.lt_trans t1 t2))
        · exact c3n
        · exact c4n
      | true =>
        rcases hp with rfl | rfl | rfl | rfl | rfl | rfl
        · exact Ne.symm (Nat.ne_of_lt q2)
        · exact k1 _ _ H.hh _ r1
        · exact k1 _ _ H.hp _ r1
        · exact Ne.symm (Nat.ne_of_lt t2)
        · exact k1 _ _ ho3 _ r1
        · exact k1 _ _ ho4 _ r1
    · intro p hp
      simp only [List.mem_cons, List.not_mem_nil, or_false] at hp
      rcases hp with rfl | rfl | rfl | rfl | rfl | rfl
      · exact Nat.ne_of_lt q3
      · exact k1 _ _ H.hh _ r2
      · exact k1 _ _ H.hp _ r2
      · exact Ne.symm (Nat.ne_of_lt (Nat.lt_trans q4 q5))
      · exact k1 _ _ ho3 _ r2
      · exact k1 _ _ ho4 _ r2
    · intro p hp
      simp only [List.mem_cons, List.not_mem_nil, or_false] at hp
      rcases hp with rfl | rfl | rfl | rfl | rfl | rfl
      · exact Nat.ne_of_lt (Nat.lt_trans q3 q4)
      · exact k1 _ _ H.hh _ r3
      · exact k1 _ _ H.hp _ r3
      · exact Ne.symm (Nat.ne_of_lt q5)
      · exact k1 _ _ ho3 _ r3
      · exact k1 _ _ ho4 _ r3
    · intro b
      cases b
      · exact Ne.symm (Nat.ne_of_lt t1)
      · exact Nat.ne_of_lt t1
    · intro b
      cases b
      · exact Nat.ne_of_lt (Nat.lt_trans t1 (Nat.lt_trans q2 q3))
      · exact Nat.ne_of_lt (Nat.lt_trans q2 q3)
    · intro b
      cases b
      · exact Nat.ne_of_lt (Nat.lt_trans t1 (Nat.lt_trans (Nat.lt_trans q2 q3) q4))
      · exact Nat.ne_of_lt (Nat.lt_trans (Nat.lt_trans q2 q3) q4)
    · exact Nat.ne_of_lt q4
  have hMS : MS w.params K 0 ((sl, PySem.W.listOf ws.toArray 0) :: (lg, PySem.W.listOf ([] : List Value).toArray 0) :: (lc, PySem.W.listOf ([] : List Value).toArray 0) :: (lr, PySem.W.listOf [Value.ref l0, .ref l1].toArray 0) :: (l1, PySem.W.listOf ([] : List Value).toArray 0) :: M) (fun b => if b then 0 else c0) 0 0 (fun b => if b then [] else RR) [] [] (· ∈ RR) nd := by
    subst hK
    refine ⟨⟨?_, ?_, .tail _ (.tail _ (.head _)), .tail _ (.head _), fun g hg => absurd hg List.not_mem_nil⟩, H.tab.sub (Sub.of_sub upM), ?_, fun g hg => absurd hg List.not_mem_nil, ⟨?_, ?_, ?_, trivial, List.nodup_nil, fun x hx => absurd hx List.not_mem_nil, ?_, fun g hg => absurd hg List.not_mem_nil⟩, ?_, Nat.le_refl _, Nat.le_refl _⟩
    · intro p hp
      simp only [List.mem_cons, List.not_mem_nil, or_false] at hp
      rcases hp with rfl | rfl | rfl | rfl | rfl | rfl
      · exact .tail _ (.tail _ (.tail _ (.head _)))
      · exact upM _ H.hh
      · exact upM _ H.hp
      · exact .head _
      · exact upM _ ho3
      · exact upM _ ho4
    · intro b
      cases b
      · exact upM _ H.h0
      · exact .tail _ (.tail _ (.tail _ (.tail _ (.head _))))
    · intro b a ha
      cases b
      · exact ha
      · exact absurd ha List.not_mem_nil
    · intro b
      cases b
      · exact H.ring
      · trivial
    · intro b
      cases b
      · exact H.nodup
      · exact List.nodup_nil
    · intro b x hx
      cases b
      · exact List.not_mem_nil
      · exact absurd hx List.not_mem_nil
    · intro b x hx _
      cases b
      · exact H.free x hx
      · exact absurd hx List.not_mem_nil
    · have := H.sz
      simp only [Bool.false_eq_true, if_false, if_true, List.length_nil]
      omega
  have zsl : (sl, PySem.W.listOf ws.toArray 0) ∈ K.Z := by subst hK; exact .tail _ (.tail _ (.tail _ (.head _)))
  have zlh : (lh, PySem.W.listOf (ps.map Value.ref).toArray kh) ∈ K.Z := by subst hK; exact .tail _ (.head _)
  have zlp : (lp, PySem.W.listOf (ps.map Value.ref).toArray kp) ∈ K.Z := by subst hK; exact .tail _ (.tail _ (.head _))
  have z3 : (L + 3, o3) ∈ K.Z := by subst hK; exact .tail _ (.tail _ (.tail _ (.tail _ (.head _))))
  have z4 : (L + 4, o4) ∈ K.Z := by subst hK; exact .tail _ (.tail _ (.tail _ (.tail _ (.tail _ (.head _)))))
  have eK1 : K.lr = lr := by subst hK; rfl
  have eK2 : K.lc = lc := by subst hK; rfl
  have eK3 : K.lg = lg := by subst hK; rfl
  have eK4 : K.n = ps.length := by subst hK; rfl
  refine it_list (vs := ws) (k := 0) (fun i m M => JS w.params K i m M) G.hh (by walk_at "bj_a") (by walk_at "bj_a") (fun i m M j => by obtain ⟨_, _, _, _, _, _, _, _, H, _⟩ := j; exact H.ml.z _ zsl)
    (fun i m M M' j s => by obtain ⟨ka, kc, kg, R, C, gs, S, nd, H, hf⟩ := j; exact ⟨ka, kc, kg, R, C, gs, S, nd, H.ks ok s, hf⟩) ⟨_, _, _, _, _, _, _, _, hMS, ⟨by rw [eK1]; repeat walk_at "bj_m", by rw [eK2]; repeat walk_at "bj_m", by rw [eK3]; repeat walk_at "bj_m", ⟨_, by rw [eK4]; repeat walk_at "bj_m"⟩⟩⟩ ?_ ?_
  · clear F₂ N₂
    rintro i v m₁ M₁ h₃ t₃ hv ⟨ka, kc, kg, R, C, gs, S, nd', H', hf⟩ hIt F₃ N₃
    obtain ⟨x, u, rfl⟩ := hwn v (List.mem_of_getElem? hv)
    have hi : i < ws.length := (List.getElem?_eq_some_iff.mp hv).1
    exact law_turn G F₃ N₃ ok ⟨ka, kc, kg, R, C, gs, S, nd', H', hf.set (by decide) (by decide) (by decide) (by decide)⟩ (by omega) m_here
  · clear F₂ N₂
    rintro m₁ M₁ h₃ t₃ ⟨ka, kc, kg, R, C, gs, S, nd', H', hf⟩ hIt F₃ N₃
    exact law_end G F₃ N₃ (H'.ml.z _ zlh) (H'.ml.z _ zlp) ⟨o3, H'.ml.z _ z3, hd3⟩ ⟨o4, H'.ml.z _ z4, hd4⟩ hz (eK4 ▸ hf.f4) kk
end
end

section
theorem law_walk {prog : Program} {w : World} {A : Around} {nm : Str} {L fa : Addr} {cd : Value} {h₀ : Heap} {s₀ : Shared} {h : Heap} {t : Nat} {m : Str → Option Value} {N : Led} {Q : Flow → Shared → Prop} {ls : Addr} {vs : List Value} {ns : List Int} (G : Gd w A (le nm L fa cd) h₀ 6) (F : Fr h₀ (le nm L fa cd).locals h m) (N' : News h₀ (le nm L fa cd).locals h N)
    (c1 : Cell N (L + 1) none) (c2 : Cell N (L + 2) none) (c3 : Cell N (L + 3) none) (c4 : Cell N (L + 4) none)
    (hm : m "script" = some (.ref ls)) (hls : h₀.IsList ls vs.toArray) (hI : IntsAre vs ns) (hlen : ns.length ≤ 63) (kk : ∀ h' t' m', Fr h₀ (le nm L fa cd).locals h' m' → Q (.ret (.bool true)) (stt s₀ h' t')) :
    wpAny (model prog w) A (execs bd139 (le nm L fa cd)) Q NE (stt s₀ h t) := by
  refine law1 (r := 5) G F N' c1 c2 c3 c4 hm hls hI hlen ?_
  intro h t m M ln nv kn nf first many start ccw wide us uw F N hln hN hn1 hn2 m1 m2 m3 hm0 hm8 c1 m4 c2 c3 c4
  refine law2 (r := 5) G F N hln hN hn1 hn2 m1 m2 m3 hm0 hm8 c1 m4 c2 c3 c4 ?_
  intro h t m M lw kw rs F N hlw hR hrs hln m1 m2 m3 m4 c1 c3 c4
  refine law3 (r := 4) G F N hlw hR hrs hln hN hn1 hn2 m1 m2 m3 m4 c1 c3 c4 ?_
  intro h t m M lp kp ps tp pp f F N H hs c4 m1 m2 m3 m4 m5 m6
  refine law4 (r := 4) G F N H hs c4 m1 m2 m3 m4 m5 m6 ?_
  intro h t m M ld kd ds F N H c4 hld hD m1 m2 m3 m4 m5 m6 m7
  refine law5 (r := 4) G F N H hs c4 hld hD m1 m2 m3 m4 m5 m6 m7 ?_
  intro h t m M ld kd ds F N H c4 hld hD m1 m2 m3 m4 m5 m6 m7
  refine law6 (r := 0) G F N H hs c4 hld hD m1 m2 m3 m4 m5 m6 m7 ?_
  intro h t m M lh l0 kh c0 RR nd F N H m1 m2 m3 m4
  exact law7 (r := 3) G F N H hN hn2 hm0 hm8 (by have := hs.sz; omega) m1 m2 m3 m4 kk
end

end Bj

theorem PySem.Challenge.cw_bj5010_01_holds : PySem.Challenge.rw_bj5010_01.Holds :=
  bjT (by
  k_go0
  rename_i w s₀ s₁ mg mb G Y fa o pm doc ho hg KX X V GL T B TE TW a1 a2 MM b1 b2 hcd ns hs hlay0 hL1 hr1 hl2 c1 c2 ls vs as hL ra w1 r0 hI hr hlen ht K0 hD h₁ tk₁ F d4 d3 d2 d1 e4 e3 e2 e1 N0 X0
  have hlen' : ns.length ≤ 63 := by omega
  refine wpAny_mono (Bj.law_walk (s₀ := s₁) (L := s₁.heap.objs.size) (w := w) (h₀ := s₁.heap) ⟨KX, ⟨_, _, _, _, topRead_of T⟩, rfl, rfl, rfl, ?_, ?_, rfl⟩ F N0 ⟨d1, ?_, e1⟩ ⟨d2, ?_, e2⟩ ⟨d3, ?_, e3⟩ ⟨d4, ?_, e4⟩ ?_ hL hI hlen' ?_) (fun _ _ z => z) (fun _ _ z => z.elim)
  · exact of_decide_eq_true (by with_unfolding_all rfl)
  · exact of_decide_eq_true (by with_unfolding_all rfl)
  · exact .tail _ (.tail _ (.tail _ (.head _)))
  · exact .tail _ (.tail _ (.head _))
  · exact .tail _ (.head _)
  · exact .head _
  · with_unfolding_all rfl
  · intro h' t' m' F'
    refine goodW_bool F' hg (fun _ => rfl) (postW_of (X := true) rfl ?_ rfl)
    with_unfolding_all rfl)
