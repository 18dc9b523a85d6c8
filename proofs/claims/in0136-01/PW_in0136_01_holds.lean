import PyProof.Rows.All
import Wide.All
import OpenK.AllK
import Wide.FinOn
import Lean
import PySem.Challenge.RW_in0136_01
set_option Elab.async false
set_option compiler.extract_closed false
section
open PySem PySem.W PyProof.Rows
namespace Mine
/-- the goal behind a letter, while a long fact is taken apart (the motive of each part holds the goal) -/
theorem hideG {p : Prop} (h : ∀ G : Prop, (p → G) → G) : p := h p id
theorem fmc {α : Type} {p : α → Prop} {a : α} {l : List α} (h : p a) (r : ∀ x ∈ l, p x) : ∀ x ∈ a :: l, p x := List.forall_mem_cons.mpr ⟨h, r⟩
-- the top is run at once, not in pieces (the pieces' texts would make the compiled file too large)
local macro_rules | `(($_ : Env)) => `(default)
-- the looks at the text are decided at once, without the text's twin (its proof is 2.7 MB)
set_option maxRecDepth 100000 in
theorem said0 : PySem.Challenge.rw_in0136_01.wellSaid = true := by decide +kernel
local macro_rules | `(tactic| o_law) => `(tactic| refine holds_law Mine.said0 fun said => ?_)
set_option maxRecDepth 100000 in
set_option maxHeartbeats 8000000 in
open_top hd for PySem.Challenge.rw_in0136_01
end Mine
end
open PySem PySem.W PyProof.Rows PySem.Calls
set_option maxRecDepth 100000
namespace Mine
local macro_rules | `(tactic| lcg_src) => `(tactic| k_mem)
local macro_rules | `(tactic| k_ne) => `(tactic| (refine neN ?_; (try dsimp only); first | (simp only [*, ne_eq, not_false_eq_true]; done) | (refine Ne.symm ?_; simp only [*, ne_eq, not_false_eq_true]; done) | omega))
section
open PySem PySem.W PyProof.Rows PySem.Calls
set_option maxRecDepth 100000
noncomputable abbrev prog : Program := PySem.Challenge.rw_in0136_01.row.toRowW.prog
/-- what stood stands -/
noncomputable abbrev Stays (h h' : Heap) : Prop := ∀ b o, h.get? b = some o → h'.get? b = some o
/-- the ground: the text's own objects, the top's names -/
noncomputable def Gd (w : World) (h : Heap) : Prop := (hd.heap_1 w.params).In h ∧ ∃ (loose : List Str) (mean : ExcName → Option Value) (mg mb : Str → Option Value), Top topProg loose mean mg mb h
theorem Gd.keeps {w : World} {h h' : Heap} (G : Gd w h) (k : Stays h h') : Gd w h' := ⟨G.1.keeps k, let ⟨l, m, a, b, T⟩ := G.2; ⟨l, m, a, b, T.keeps k⟩⟩
/-- so much room, no frame told -/
noncomputable abbrev room (D U : Nat) : Around := { handled := none, depth := D, frames := none, guards := none, units := U }
theorem wpAny_room {α : Type} {M : Model} {A : Around} {D U : Nat} {t : Sem α} {Q : α → Shared → Prop} {E : Value → Shared → Prop} {s : Shared} (hh : A.handled = none) (hd : A.depth ≤ D) (hu : A.units ≤ U) (h : wpAny M (room D U) t Q E s) : wpAny M A t Q E s :=
  fun Γ p hΓ => h Γ p ⟨hΓ.1.trans hh, Nat.le_trans hΓ.2.1 hd, fun _ e => (nomatch e), fun _ e => (nomatch e), Nat.le_trans hΓ.2.2.2.2 hu⟩

/-- a call that raises nothing and turns nothing that stood -/
noncomputable def RCall (w : World) (f : Value) (vs : List Value) (D U : Nat) (s : Shared) (Post : Heap → Value → Prop) : Prop :=
  ∀ (A : Around) (Q E : Value → Shared → Prop), A.handled = none → A.depth ≤ D → A.units ≤ U → Gd w s.heap →
    (∀ r h' tk', Stays s.heap h' → s.heap.objs.size ≤ h'.objs.size → Post h' r → Q r { s with heap := h', toks := tk' }) → wpAny (model prog w) A (call f vs) Q E s
/-- the end of a call's body -/
noncomputable def PEnd (g : Heap) (s : Shared) (Post : Heap → Value → Prop) (v : Value) (s' : Shared) : Prop :=
  ∃ L' m' h' tk', s' = { s with heap := h', toks := tk' } ∧ Fr g L' h' m' ∧ Post h' v
theorem pend_ret {g : Heap} {s : Shared} {Post : Heap → Value → Prop} {v : Value} {L' : Addr} {m' : Str → Option Value} {h' : Heap} {tk' : Nat} (F : Fr g L' h' m') (hp : Post h' v) : PEnd g s Post v { s with heap := h', toks := tk' } := ⟨L', m', h', tk', rfl, F, hp⟩
noncomputable abbrev PStr (y : Str) : Heap → Value → Prop := fun _ v => ∃ t, v = .str y t
theorem pend_str {g : Heap} {s : Shared} {x y : Str} {t : Tok} {L' : Addr} {m' : Str → Option Value} {h' : Heap} {tk' : Nat} (F : Fr g L' h' m') (e : y = x) : PEnd g s (PStr x) (.str y t) { s with heap := h', toks := tk' } := ⟨L', m', h', tk', rfl, F, ⟨t, by rw [e]⟩⟩

section
variable {w : World} {f : Addr} {vs : List Value} {D U : Nat} {s : Shared} {Post : Heap → Value → Prop} {name qual : Str} {params : Arguments} {body : List Stmt} {scope : Scope} {dV kV doc pm cdv ct oc : Value} {an od : Option Addr} {osl : Array (Option Value)} {cl : List (Str × Addr)}
theorem fr_none {h : Heap} {a : Addr} (ha : h.objs.size ≤ a) : h.get? a = none := by
  cases e : h.get? a with
  | none => rfl
  | some o => exact absurd (Heap.lt_size e) (Nat.not_lt.mpr ha)

/-- a def without cells; the binding of the arguments makes the objects that `pre` lists -/
theorem rcall_gen {pre : List (Addr × Obj)} {h1 : Heap} {tk1 : Nat} {binds : List (Str × Value)}
    (ho : s.heap.get? f = some ⟨oc, od, .func (fnX name qual params body scope cl dV kV doc pm an cdv ct), osl⟩) (hcd : s.heap.CodeRec cdv qual)
    (hbind : ∀ (A : Around) (E : Value → Shared → Prop) (Q : List (Str × Value) → Shared → Prop), A.handled = none → Q binds { s with heap := h1, toks := tk1 } → wpAny (model prog w) A (bindArgs (fnX name qual params body scope cl dV kV doc pm an cdv ct) ⟨vs, []⟩) Q E s)
    (hst : Stays s.heap h1) (hpre : ∀ p ∈ pre, h1.get? p.1 = some p.2 ∧ s.heap.get? p.1 = none) (hsz : s.heap.objs.size ≤ h1.objs.size)
    (hloc : ∀ y ∈ binds, scope.names.lookup y.1 = some .local)
    (hco : scope.isCoroutine = false) (hgen : scope.isGenerator = false) (hk : scope.kind = .function) (hcell : ∀ x ∈ scope.names, x.2 ≠ .cell)
    (walk : ∀ (loose : List Str) (mean : ExcName → Option Value) (mg mb : Str → Option Value) (g : Heap) (L' : Addr) (h₁ : Heap), Stays s.heap g → Fr g L' h₁ (fun y => binds.reverse.lookup y) → News g L' h₁ pre → (hd.heap_1 w.params).In g → Top topProg loose mean mg mb g →
      wpAny (model prog w) ((room D U).deeper (envX qual scope L' f cdv cl)) (execs body (envX qual scope L' f cdv cl))
        (fun fl s' => PEnd g s Post (match fl with | .ret v => v | _ => .none) s') (fun _ _ => False) { s with heap := h₁, toks := tk1 + binds.length }) (hD : D < 1000 := by decide) :
    RCall w (.ref f) vs D U s Post := by
  intro A Q E hh hd hu G hret
  obtain ⟨X, loose, mean, mg, mb, T⟩ := G
  refine wpAny_room hh hd hu (wpAny_call ?_)
  refine codeAny_call_function (fd := fnX name qual params body scope cl dV kV doc pm an cdv ct) (body := body) (by show D < recursionLimit; exact hD) ho rfl hco hgen rfl hcd ?_
  refine hbind _ _ _ rfl ?_
  refine wpAny_newFunctionEnv (s := { s with heap := h1, toks := tk1 }) hcell hloc (fun h₁ hns hsb => ⟨(T.nolimit.keeps hst).fresh _ hsb, codeAny_func ?_⟩) hk
  have hk₁ : Stays h1 h₁ := fun b o e => hsb.extBut b o (Nat.ne_of_lt (Heap.lt_size e)) (Heap.get?_push_of_some _ e)
  refine wpAny_mono (walk loose mean mg mb s.heap h1.objs.size h₁ (fun _ _ e => e) ⟨hns, fun b o e => hk₁ _ _ (hst b o e), hsz⟩ (fun p hp => ⟨hk₁ _ _ (hpre p hp).1, Nat.ne_of_lt (Heap.lt_size (hpre p hp).1), (hpre p hp).2⟩) X T) (fun fl s' hl => ?_) fun _ _ x => x.elim
  obtain ⟨L2, m2, h2, tk2, e, F2, hp⟩ := hl
  subst e
  exact hret _ _ _ (fun b o e => F2.keep _ _ e) (Nat.le_trans F2.above (Nat.le_of_lt F2.ns.lt)) hp
end

section
variable {w : World} {f : Addr} {vs : List Value} {D U : Nat} {s : Shared} {Post : Heap → Value → Prop} {name qual : Str} {params : Arguments} {body : List Stmt} {scope : Scope} {dV kV doc pm cdv ct oc : Value} {an od : Option Addr} {osl : Array (Option Value)}

/-- of the text's own plain def -/
theorem rcall_of {binds : List (Str × Value)}
    (ho : (hd.heap_1 w.params).lookup f = some ⟨oc, od, .func (fnOf name qual params body scope dV kV doc pm an cdv ct), osl⟩) (hcd : codeIn (hd.heap_1 w.params) cdv qual = true)
    (hbind : BindsTo s (fnOf name qual params body scope dV kV doc pm an cdv ct) ⟨vs, []⟩ binds) (hloc : ∀ y ∈ binds, scope.names.lookup y.1 = some .local)
    (hco : scope.isCoroutine = false) (hgen : scope.isGenerator = false) (hk : scope.kind = .function) (hcell : ∀ x ∈ scope.names, x.2 ≠ .cell)
    (walk : ∀ (loose : List Str) (mean : ExcName → Option Value) (mg mb : Str → Option Value) (g : Heap) (L' : Addr) (h₁ : Heap), Stays s.heap g → Fr g L' h₁ (fun y => binds.reverse.lookup y) → News g L' h₁ [] → (hd.heap_1 w.params).In g → Top topProg loose mean mg mb g →
      wpAny (model prog w) ((room D U).deeper (envOf qual scope L' f cdv)) (execs body (envOf qual scope L' f cdv))
        (fun fl s' => PEnd g s Post (match fl with | .ret v => v | _ => .none) s') (fun _ _ => False) { s with heap := h₁, toks := s.toks + binds.length }) (hD : D < 1000 := by decide) :
    RCall w (.ref f) vs D U s Post := fun A Q E hh hd hu G hret =>
  rcall_gen (cl := []) (pre := []) (h1 := s.heap) (tk1 := s.toks) (G.1 _ _ ho) (codeRec_of G.1 hcd) (fun A E Q _ q => hbind _ _ _ _ q) (fun _ _ e => e) (fun _ hp => (nomatch hp)) (Nat.le_refl _) hloc hco hgen hk hcell walk hD A Q E hh hd hu G hret
/-- of the text's own def with one more object bound -/
theorem rcall_rest {binds : Addr → List (Str × Value)} {ob : Obj}
    (ho : (hd.heap_1 w.params).lookup f = some ⟨oc, od, .func (fnOf name qual params body scope dV kV doc pm an cdv ct), osl⟩) (hcd : codeIn (hd.heap_1 w.params) cdv qual = true)
    (hbind : ∀ (A : Around) (E : Value → Shared → Prop) (Q : List (Str × Value) → Shared → Prop), A.handled = none → Q (binds s.heap.objs.size) { s with heap := s.heap.push ob } → wpAny (model prog w) A (bindArgs (fnOf name qual params body scope dV kV doc pm an cdv ct) ⟨vs, []⟩) Q E s)
    (hfr : ob.isFreed = false) (hloc : ∀ D, ∀ y ∈ binds D, scope.names.lookup y.1 = some .local)
    (hco : scope.isCoroutine = false) (hgen : scope.isGenerator = false) (hk : scope.kind = .function) (hcell : ∀ x ∈ scope.names, x.2 ≠ .cell)
    (walk : ∀ (loose : List Str) (mean : ExcName → Option Value) (mg mb : Str → Option Value) (g : Heap) (L' : Addr) (h₁ : Heap) (a : Addr), Stays s.heap g → Fr g L' h₁ (fun y => (binds a).reverse.lookup y) → News g L' h₁ [(a, ob)] → (hd.heap_1 w.params).In g → Top topProg loose mean mg mb g →
      wpAny (model prog w) ((room D U).deeper (envOf qual scope L' f cdv)) (execs body (envOf qual scope L' f cdv))
        (fun fl s' => PEnd g s Post (match fl with | .ret v => v | _ => .none) s') (fun _ _ => False) { s with heap := h₁, toks := s.toks + (binds a).length }) (hD : D < 1000 := by decide) :
    RCall w (.ref f) vs D U s Post := fun A Q E hh hd hu G hret =>
  rcall_gen (cl := []) (pre := [(s.heap.objs.size, ob)]) (h1 := s.heap.push ob) (tk1 := s.toks) (G.1 _ _ ho) (codeRec_of G.1 hcd) hbind (fun _ _ e => Heap.get?_push_of_some _ e)
    (fun p hp => by rw [List.mem_singleton.mp hp]; exact ⟨Heap.get?_push_size _ hfr, fr_none (Nat.le_refl _)⟩) (by rw [Heap.size_push]; exact Nat.le_succ _) (hloc _) hco hgen hk hcell (fun l m a b g L' h₁ => walk l m a b g L' h₁ _) hD A Q E hh hd hu G hret

/-- of the text's own def with cells -/
theorem rcall_cells {binds : List (Str × Value)}
    (ho : (hd.heap_1 w.params).lookup f = some ⟨oc, od, .func (fnOf name qual params body scope dV kV doc pm an cdv ct), osl⟩) (hcd : codeIn (hd.heap_1 w.params) cdv qual = true)
    (hbind : BindsTo s (fnOf name qual params body scope dV kV doc pm an cdv ct) ⟨vs, []⟩ binds) (hkind : (binds.all fun y => scope.names.lookup y.1 == some .local || scope.names.lookup y.1 == some .cell) = true)
    (hnd : ((cellsFrom 0 scope.names []).map (·.1)).Nodup)
    (hco : scope.isCoroutine = false) (hgen : scope.isGenerator = false) (hk : scope.kind = .function)
    (walk : ∀ (loose : List Str) (mean : ExcName → Option Value) (mg mb : Str → Option Value) (g : Heap) (L' : Addr) (h₁ : Heap) (tk : Nat) (cells : List (Addr × Obj)),
      Stays s.heap g → Fr g L' h₁ (bindL (envOfC qual scope L' f cdv).kindOf binds fun _ => none) → News g L' h₁ cells →
      CellsAre (bindC (envOfC qual scope L' f cdv).kindOf binds fun _ => none) (cellsFrom (L' + 1) scope.names []) cells → (hd.heap_1 w.params).In g → Top topProg loose mean mg mb g →
      wpAny (model prog w) ((room D U).deeper (envOfC qual scope L' f cdv)) (execs body (envOfC qual scope L' f cdv))
        (fun fl s' => PEnd g s Post (match fl with | .ret v => v | _ => .none) s') (fun _ _ => False) { s with heap := h₁, toks := tk }) (hD : D < 1000 := by decide) :
    RCall w (.ref f) vs D U s Post := by
  intro A Q E hh hd hu G hret
  obtain ⟨X, loose, mean, mg, mb, T⟩ := G
  refine wpAny_room hh hd hu (wpAny_call ?_)
  refine codeAny_call_function (fd := fnOf name qual params body scope dV kV doc pm an cdv ct) (body := body) (by show D < recursionLimit; exact hD) (X _ _ ho) rfl hco hgen rfl (codeRec_of X hcd) (hbind _ _ _ _ ?_)
  refine wpAny_newFunctionEnv_cells hk (kindsX hkind _) fun env' he s' x => ?_
  subst he
  have st := x.toInCall.keep
  refine ⟨T.nolimit.keeps st, codeAny_func ?_⟩
  obtain ⟨h₁, tk, rfl, _⟩ := x.done
  have hnd' := cellsFrom_names scope.names 0 (s.heap.objs.size + 1) [] [] rfl ▸ hnd
  obtain ⟨cells, NC, Y⟩ := Cl.news (h₀ := s.heap) (Nat.le_refl _) fun n c hm => ⟨x.cell n c (lookup_of_mem_nodup hnd' hm), x.above n c hm⟩
  refine wpAny_mono (walk loose mean mg mb s.heap s.heap.objs.size h₁ tk cells (fun _ _ e => e) ⟨x.toInCall.ns, st, Nat.le_refl _⟩ NC Y X T) (fun fl s' hl => ?_) fun _ _ z => z.elim
  obtain ⟨L2, m2, h2, tk2, e, F2, hp⟩ := hl
  subst e
  exact hret _ _ _ (fun b o e => F2.keep _ _ e) (Nat.le_trans F2.above (Nat.le_of_lt F2.ns.lt)) hp
end

/-- a contract used in a walk -/
theorem rcall_use {w : World} {f : Value} {vs : List Value} {D U : Nat} {s : Shared} {Post : Heap → Value → Prop} {loose : List Str} {mean : ExcName → Option Value} {mg mb : Str → Option Value} {A : Around}
    {h₀ : Heap} {L : Addr} {m : Str → Option Value} {news : List (Addr × Obj)} {Q E : Value → Shared → Prop}
    (C : RCall w f vs D U s Post) (F : Fr h₀ L s.heap m) (X : (hd.heap_1 w.params).In h₀) (N : News h₀ L s.heap news) (T : Top topProg loose mean mg mb h₀) (hh : A.handled = none) (hd : A.depth ≤ D) (hu : A.units ≤ U)
    (ret : ∀ r h' tk', Post h' r → Fr h₀ L h' m → News h₀ L h' news → Stays s.heap h' → s.heap.objs.size ≤ h'.objs.size → Q r { s with heap := h', toks := tk' }) :
    wpAny (model prog w) A (call f vs) Q E s :=
  C A Q E hh hd hu ⟨X.keeps F.keep, loose, mean, mg, mb, T.keeps F.keep⟩ fun r h' tk' st sz hp => ret r h' tk' hp (Fr.keeps F st) (News.grown N st) st sz
end
section
open PySem PySem.W PyProof.Rows PySem.Calls
set_option maxRecDepth 100000
theorem kind_isub : builtinKind "issubclass" = none := by decide +kernel
theorem plain_isub : plainId "issubclass" = true := by decide +kernel
theorem entry_isub : entryFor table "issubclass" = some Builtin.«issubclass» := entryFor_of_fast (by kernel_rfl)
theorem args_isub (a b : Value) : argsOk "issubclass" ⟨[a, b], []⟩ := by unfold argsOk; kernel_rfl
theorem kind_isubn : builtinKind "issubclass.nested" = none := by decide +kernel
theorem plain_isubn : plainId "issubclass.nested" = true := by decide +kernel
theorem entry_isubn : entryFor table "issubclass.nested" = some Builtin.«issubclass.nested» := entryFor_of_fast (by kernel_rfl)
theorem args_isubn (a b c : Value) : argsOk "issubclass.nested" ⟨[a, b, c], []⟩ := by unfold argsOk; kernel_rfl
theorem quiet_isubn (a : Args) : (Code.builtin "issubclass.nested" a).quiet = true := Code.quiet_builtin _ (by decide +kernel)
theorem sub_str_str : isSubtype (.type "str") (.type "str") = pure true := by rw [isSubtype_type]; kernel_rfl
theorem typ_str : typeOf (.type "str") = pure (.type "type") := by kernel_rfl
theorem istype_str : isType (.type "str") = pure true := by kernel_rfl

section
variable {prog : Program} {w : World} {A : Around} {E : Value → Shared → Prop} {s : Shared}
theorem isubn_str {tk : Tok} {d : Int} {Q : Value → Shared → Prop} (h : Q (.bool true) s) : wpAny (model prog w) A (call (.builtin "issubclass.nested") [.type "str", .type "str", .int d tk]) Q E s := by
  refine call_function_entry kind_isubn plain_isubn entry_isubn (args_isubn _ _ _) ?_
  unfold Builtin.«issubclass.nested»
  refine wpAny_bind (wpAny_of_eq typ_str ?_)
  have f1 := sub_str_str
  repeat (any_goals (first | assumption | wp_step))
  exact ⟨_, rfl, h⟩
theorem isub_str_tuple {D : Addr} {n : Nat} {Q : Value → Shared → Prop} (ho : s.heap.get? D = some { cls := .type "tuple", data := .seq #[.type "str", .type "bytes"] n }) (h : ∀ tk, Q (.bool true) { s with toks := tk }) :
    wpAny (model prog w) A (call (.builtin "issubclass") [.type "str", .ref D]) Q E s := by
  refine call_function_any kind_isub plain_isub entry_isub (args_isub _ _) ?_
  obtain ⟨h', g, d, t, os⟩ := s
  have hT2 : (⟨h', g, d, t, os⟩ : Shared).TypeIs (.ref D) "tuple" := ⟨_, ho, rfl⟩
  have f1 := F.isi_sub_tuple
  repeat (any_goals (first | assumption | wp_step))
  refine ⟨quiet_isubn _, codeAny_builtin entry_isubn ?_⟩
  rw [Around.under_plainId (id := "issubclass.nested") (by decide +kernel) _]
  repeat (any_goals (first | assumption | ((with_reducible show wpAny _ _ (call (Value.builtin "issubclass.nested") _) _ _ _); refine isubn_str ?_) | wp_step))
  exact h _
end




-- a call of a contract's

-- the walk of a body


set_option maxHeartbeats 8000000 in
theorem fspath_c (w : World) (x : Str) (t : Tok) (s : Shared) : RCall w (.ref 137) [.str x t] 980 9000 s (PStr x) := by
  refine rcall_of (binds := [(Str.ofString "path", .str x t)]) (by k_is) (by k_is) (BindsTo.of_eq rfl) (locs rfl) rfl rfl rfl (by decide) ?_
  (
  intro loose mean mg mb g L' h₁ hst F' N' X' T';
  (try dsimp only); (try k_fold); (repeat' (first | (k_unfold; (try dsimp only)) | (k_end; wrow_close) | ((with_reducible show wpAny _ _ (call (Value.builtin "issubclass") _) _ _ _); (k_here; (with_reducible show wpAny _ _ (call (Value.builtin "issubclass") [Value.type "str", Value.ref _]) _ _ _); k_dflt (refine' isub_str_tuple (by exact News.get (by k_asm) (by k_mem)) ?_; k_whole; intro tk''))) | walk1 | (dsimp only; (first | ((with_reducible show wpAny _ _ (call (Value.builtin "issubclass") _) _ _ _); (k_here; (with_reducible show wpAny _ _ (call (Value.builtin "issubclass") [Value.type "str", Value.ref _]) _ _ _); k_dflt (refine' isub_str_tuple (by exact News.get (by k_asm) (by k_mem)) ?_; k_whole; intro tk''))) | walk1)) | (leave1; (try dsimp only)) | fail "no step")))
  exact pend_str (by assumption) rfl
set_option maxHeartbeats 8000000 in
theorem get_sep_c (w : World) (x : Str) (t : Tok) (s : Shared) : RCall w (.ref 151) [.str x t] 980 9000 s (PStr (Str.ofString "/")) := by
  refine rcall_of (binds := [(Str.ofString "path", .str x t)]) (by k_is) (by k_is) (BindsTo.of_eq rfl) (locs rfl) rfl rfl rfl (by decide) ?_
  (
  intro loose mean mg mb g L' h₁ hst F' N' X' T';
  (try dsimp only); (try k_fold); (repeat' (first | (k_unfold; (try dsimp only)) | (k_end; wrow_close) | ((with_reducible show wpAny _ _ (call (Value.builtin "issubclass") _) _ _ _); (k_here; (with_reducible show wpAny _ _ (call (Value.builtin "issubclass") [Value.type "str", Value.ref _]) _ _ _); k_dflt (refine' isub_str_tuple (by exact News.get (by k_asm) (by k_mem)) ?_; k_whole; intro tk''))) | walk1 | (dsimp only; (first | ((with_reducible show wpAny _ _ (call (Value.builtin "issubclass") _) _ _ _); (k_here; (with_reducible show wpAny _ _ (call (Value.builtin "issubclass") [Value.type "str", Value.ref _]) _ _ _); k_dflt (refine' isub_str_tuple (by exact News.get (by k_asm) (by k_mem)) ?_; k_whole; intro tk''))) | walk1)) | (leave1; (try dsimp only)) | fail "no step")))
  exact pend_str (by assumption) rfl


noncomputable def dirS (x : Str) : Str :=
  let h := Txt.slice x none (some (Txt.rfind x (Str.ofString "/") + 1))
  if (h.length : Int) ≠ 0 ∧ (h != Txt.mul (Str.ofString "/") h.length) = true then Txt.rstripChars h (Str.ofString "/") else h
noncomputable def baseS (x : Str) : Str := Txt.slice x (some (Txt.rfind x (Str.ofString "/") + 1)) none
noncomputable def joinS (x y : Str) : Str := if Txt.startswith y (Str.ofString "/") = true then y else if (x.length : Int) ≠ 0 then (if Txt.endswith x (Str.ofString "/") = true then x ++ y else x ++ (Str.ofString "/" ++ y)) else y
set_option maxHeartbeats 8000000 in
theorem dirname_c (w : World) (x : Str) (t : Tok) (s : Shared) (hx : x.length ≤ 1048576) : RCall w (.ref 172) [.str x t] 960 8900 s (PStr (dirS x)) := by
  refine rcall_of (binds := [(Str.ofString "p", .str x t)]) (by k_is) (by k_is) (BindsTo.of_eq rfl) (locs rfl) rfl rfl rfl (by decide) ?_
  (
  intro loose mean mg mb g L' h₁ hst F' N' X' T';
  (try dsimp only); (try k_fold); (repeat' (first | (k_unfold; (try dsimp only)) | (k_end; wrow_close) | ((with_reducible show wpAny _ _ (call (Value.ref _) _) _ _ _); (k_here; k_dflt (first   | (refine' rcall_use (fspath_c _ _ _ _) (by k_asm) (by k_asm) (by k_asm) (by k_asm) (by exact rfl) (by exact Nat.le_of_ble_eq_true rfl) (by exact Nat.le_of_ble_eq_true rfl) ?_;   intro r9 h9 tk9 hp9 F9 N9 st9 sz9; (try (refine hideG fun G9 b9 => ?_; obtain ⟨t9, hp9⟩ := hp9; refine b9 ?_; clear b9 G9)); (try subst hp9); (try dsimp only); (try k_fold))   | (refine' rcall_use (get_sep_c _ _ _ _) (by k_asm) (by k_asm) (by k_asm) (by k_asm) (by exact rfl) (by exact Nat.le_of_ble_eq_true rfl) (by exact Nat.le_of_ble_eq_true rfl) ?_;   intro r9 h9 tk9 hp9 F9 N9 st9 sz9; (try (refine hideG fun G9 b9 => ?_; obtain ⟨t9, hp9⟩ := hp9; refine b9 ?_; clear b9 G9)); (try subst hp9); (try dsimp only); (try k_fold))))) | ((with_reducible show wpAny _ _ (call (Value.builtin "issubclass") _) _ _ _); (k_here; (with_reducible show wpAny _ _ (call (Value.builtin "issubclass") [Value.type "str", Value.ref _]) _ _ _); k_dflt (refine' isub_str_tuple (by exact News.get (by k_asm) (by k_mem)) ?_; k_whole; intro tk''))) | walk1 | (dsimp only; (first | ((with_reducible show wpAny _ _ (call (Value.ref _) _) _ _ _); (k_here; k_dflt (first   | (refine' rcall_use (fspath_c _ _ _ _) (by k_asm) (by k_asm) (by k_asm) (by k_asm) (by exact rfl) (by exact Nat.le_of_ble_eq_true rfl) (by exact Nat.le_of_ble_eq_true rfl) ?_;   intro r9 h9 tk9 hp9 F9 N9 st9 sz9; (try (refine hideG fun G9 b9 => ?_; obtain ⟨t9, hp9⟩ := hp9; refine b9 ?_; clear b9 G9)); (try subst hp9); (try dsimp only); (try k_fold))   | (refine' rcall_use (get_sep_c _ _ _ _) (by k_asm) (by k_asm) (by k_asm) (by k_asm) (by exact rfl) (by exact Nat.le_of_ble_eq_true rfl) (by exact Nat.le_of_ble_eq_true rfl) ?_;   intro r9 h9 tk9 hp9 F9 N9 st9 sz9; (try (refine hideG fun G9 b9 => ?_; obtain ⟨t9, hp9⟩ := hp9; refine b9 ?_; clear b9 G9)); (try subst hp9); (try dsimp only); (try k_fold))))) | ((with_reducible show wpAny _ _ (call (Value.builtin "issubclass") _) _ _ _); (k_here; (with_reducible show wpAny _ _ (call (Value.builtin "issubclass") [Value.type "str", Value.ref _]) _ _ _); k_dflt (refine' isub_str_tuple (by exact News.get (by k_asm) (by k_mem)) ?_; k_whole; intro tk''))) | walk1)) | (leave1; (try dsimp only)) | fail "no step")))
  all_goals refine pend_str (by assumption) ?_
  all_goals unfold dirS
  all_goals dsimp only
  · exact (if_pos ⟨by assumption, by assumption⟩).symm
  · exact (if_neg fun h => absurd h.2 (Bool.eq_false_iff.mp (by assumption))).symm
  · exact (if_neg fun h => absurd (by assumption) h.1).symm
set_option maxHeartbeats 8000000 in
theorem basename_c (w : World) (x : Str) (t : Tok) (s : Shared) (hx : x.length ≤ 1048576) : RCall w (.ref 165) [.str x t] 960 8900 s (PStr (baseS x)) := by
  refine rcall_of (binds := [(Str.ofString "p", .str x t)]) (by k_is) (by k_is) (BindsTo.of_eq rfl) (locs rfl) rfl rfl rfl (by decide) ?_
  (
  intro loose mean mg mb g L' h₁ hst F' N' X' T';
  (try dsimp only); (try k_fold); (repeat' (first | (k_unfold; (try dsimp only)) | (k_end; wrow_close) | ((with_reducible show wpAny _ _ (call (Value.ref _) _) _ _ _); (k_here; k_dflt (first   | (refine' rcall_use (fspath_c _ _ _ _) (by k_asm) (by k_asm) (by k_asm) (by k_asm) (by exact rfl) (by exact Nat.le_of_ble_eq_true rfl) (by exact Nat.le_of_ble_eq_true rfl) ?_;   intro r9 h9 tk9 hp9 F9 N9 st9 sz9; (try (refine hideG fun G9 b9 => ?_; obtain ⟨t9, hp9⟩ := hp9; refine b9 ?_; clear b9 G9)); (try subst hp9); (try dsimp only); (try k_fold))   | (refine' rcall_use (get_sep_c _ _ _ _) (by k_asm) (by k_asm) (by k_asm) (by k_asm) (by exact rfl) (by exact Nat.le_of_ble_eq_true rfl) (by exact Nat.le_of_ble_eq_true rfl) ?_;   intro r9 h9 tk9 hp9 F9 N9 st9 sz9; (try (refine hideG fun G9 b9 => ?_; obtain ⟨t9, hp9⟩ := hp9; refine b9 ?_; clear b9 G9)); (try subst hp9); (try dsimp only); (try k_fold))))) | ((with_reducible show wpAny _ _ (call (Value.builtin "issubclass") _) _ _ _); (k_here; (with_reducible show wpAny _ _ (call (Value.builtin "issubclass") [Value.type "str", Value.ref _]) _ _ _); k_dflt (refine' isub_str_tuple (by exact News.get (by k_asm) (by k_mem)) ?_; k_whole; intro tk''))) | walk1 | (dsimp only; (first | ((with_reducible show wpAny _ _ (call (Value.ref _) _) _ _ _); (k_here; k_dflt (first   | (refine' rcall_use (fspath_c _ _ _ _) (by k_asm) (by k_asm) (by k_asm) (by k_asm) (by exact rfl) (by exact Nat.le_of_ble_eq_true rfl) (by exact Nat.le_of_ble_eq_true rfl) ?_;   intro r9 h9 tk9 hp9 F9 N9 st9 sz9; (try (refine hideG fun G9 b9 => ?_; obtain ⟨t9, hp9⟩ := hp9; refine b9 ?_; clear b9 G9)); (try subst hp9); (try dsimp only); (try k_fold))   | (refine' rcall_use (get_sep_c _ _ _ _) (by k_asm) (by k_asm) (by k_asm) (by k_asm) (by exact rfl) (by exact Nat.le_of_ble_eq_true rfl) (by exact Nat.le_of_ble_eq_true rfl) ?_;   intro r9 h9 tk9 hp9 F9 N9 st9 sz9; (try (refine hideG fun G9 b9 => ?_; obtain ⟨t9, hp9⟩ := hp9; refine b9 ?_; clear b9 G9)); (try subst hp9); (try dsimp only); (try k_fold))))) | ((with_reducible show wpAny _ _ (call (Value.builtin "issubclass") _) _ _ _); (k_here; (with_reducible show wpAny _ _ (call (Value.builtin "issubclass") [Value.type "str", Value.ref _]) _ _ _); k_dflt (refine' isub_str_tuple (by exact News.get (by k_asm) (by k_mem)) ?_; k_whole; intro tk''))) | walk1)) | (leave1; (try dsimp only)) | fail "no step")))
  exact pend_str (by assumption) rfl
set_option maxHeartbeats 8000000 in
theorem join_c (w : World) (x y : Str) (t t2 : Tok) (s : Shared) (hx : x.length ≤ 1000) (hy : y.length ≤ 1000) : RCall w (.ref 158) [.str x t, .str y t2] 960 8900 s (PStr (joinS x y)) := by
  refine rcall_rest (ob := { cls := .type "tuple", data := .seq [Value.str y t2].toArray }) (binds := fun D => [(Str.ofString "a", .str x t), (Str.ofString "p", .ref D)]) (by k_is) (by k_is) ?_ rfl (fun D => locs rfl) rfl rfl rfl (by decide) ?_
  · intro A E Q _ h
    show wpAny (model prog w) A (newTuple [Value.str y t2] >>= fun D => pure [(Str.ofString "a", .str x t), (Str.ofString "p", D)]) Q E s
    exact wpAny_bind (wpAny_newTuple (wpAny_pure h))
  intro loose mean mg mb g L' h₁ D hst F' N' X' T'
  (try dsimp only); (try k_fold); (repeat' (first | (k_unfold; (try dsimp only)) | (k_end; wrow_close) | ((with_reducible show wpAny _ _ (call (Value.ref _) _) _ _ _); (k_here; k_dflt (first   | (refine' rcall_use (fspath_c _ _ _ _) (by k_asm) (by k_asm) (by k_asm) (by k_asm) (by exact rfl) (by exact Nat.le_of_ble_eq_true rfl) (by exact Nat.le_of_ble_eq_true rfl) ?_;   intro r9 h9 tk9 hp9 F9 N9 st9 sz9; (try (refine hideG fun G9 b9 => ?_; obtain ⟨t9, hp9⟩ := hp9; refine b9 ?_; clear b9 G9)); (try subst hp9); (try dsimp only); (try k_fold))   | (refine' rcall_use (get_sep_c _ _ _ _) (by k_asm) (by k_asm) (by k_asm) (by k_asm) (by exact rfl) (by exact Nat.le_of_ble_eq_true rfl) (by exact Nat.le_of_ble_eq_true rfl) ?_;   intro r9 h9 tk9 hp9 F9 N9 st9 sz9; (try (refine hideG fun G9 b9 => ?_; obtain ⟨t9, hp9⟩ := hp9; refine b9 ?_; clear b9 G9)); (try subst hp9); (try dsimp only); (try k_fold))))) | ((with_reducible show wpAny _ _ (call (Value.builtin "issubclass") _) _ _ _); (k_here; (with_reducible show wpAny _ _ (call (Value.builtin "issubclass") [Value.type "str", Value.ref _]) _ _ _); k_dflt (refine' isub_str_tuple (by exact News.get (by k_asm) (by k_mem)) ?_; k_whole; intro tk''))) | walk1 | (dsimp only; (first | ((with_reducible show wpAny _ _ (call (Value.ref _) _) _ _ _); (k_here; k_dflt (first   | (refine' rcall_use (fspath_c _ _ _ _) (by k_asm) (by k_asm) (by k_asm) (by k_asm) (by exact rfl) (by exact Nat.le_of_ble_eq_true rfl) (by exact Nat.le_of_ble_eq_true rfl) ?_;   intro r9 h9 tk9 hp9 F9 N9 st9 sz9; (try (refine hideG fun G9 b9 => ?_; obtain ⟨t9, hp9⟩ := hp9; refine b9 ?_; clear b9 G9)); (try subst hp9); (try dsimp only); (try k_fold))   | (refine' rcall_use (get_sep_c _ _ _ _) (by k_asm) (by k_asm) (by k_asm) (by k_asm) (by exact rfl) (by exact Nat.le_of_ble_eq_true rfl) (by exact Nat.le_of_ble_eq_true rfl) ?_;   intro r9 h9 tk9 hp9 F9 N9 st9 sz9; (try (refine hideG fun G9 b9 => ?_; obtain ⟨t9, hp9⟩ := hp9; refine b9 ?_; clear b9 G9)); (try subst hp9); (try dsimp only); (try k_fold))))) | ((with_reducible show wpAny _ _ (call (Value.builtin "issubclass") _) _ _ _); (k_here; (with_reducible show wpAny _ _ (call (Value.builtin "issubclass") [Value.type "str", Value.ref _]) _ _ _); k_dflt (refine' isub_str_tuple (by exact News.get (by k_asm) (by k_mem)) ?_; k_whole; intro tk''))) | walk1)) | (leave1; (try dsimp only)) | fail "no step"))
  all_goals refine pend_str (by assumption) ?_
  all_goals unfold joinS
  · exact (if_pos (by assumption)).symm
  · exact ((if_neg (Bool.eq_false_iff.mp (by assumption))).trans ((if_pos (by assumption)).trans (if_pos (by assumption)))).symm
  · exact ((if_neg (Bool.eq_false_iff.mp (by assumption))).trans ((if_pos (by assumption)).trans (if_neg (Bool.eq_false_iff.mp (by assumption))))).symm
  · exact ((if_neg (Bool.eq_false_iff.mp (by assumption))).trans (if_neg (fun h => h (by assumption)))).symm
end
section
open PySem PySem.W PyProof.Rows PySem.Calls
set_option maxRecDepth 100000
theorem slot_map_next : Slot "map" "__next__" "map.__next__" :=
  .of (owner := "map") (n := "__next__") (by rw [typeLookup_type, builtinLookup_eq_fast]; kernel_rfl) (by decide +kernel) (by decide +kernel) (by decide +kernel)
    (by first | exact .inl (by decide +kernel) | exact .inr (by decide +kernel)) (by rw [isSubtype_type]; kernel_rfl)
theorem entry_map_next : entryFor table "map.__next__" = some Builtin.«map.__next__» := entryFor_of_fast (by kernel_rfl)
theorem args_map_next (a : Value) : argsOk "map.__next__" ⟨[a], []⟩ := by unfold argsOk; kernel_rfl
theorem slot_map_iter : Slot "map" "__iter__" "map.__iter__" :=
  .of (owner := "map") (n := "__iter__") (by rw [typeLookup_type, builtinLookup_eq_fast]; kernel_rfl) (by decide +kernel) (by decide +kernel) (by decide +kernel)
    (by first | exact .inl (by decide +kernel) | exact .inr (by decide +kernel)) (by rw [isSubtype_type]; kernel_rfl)
theorem map_no_len : typeLookup (.type "map") "__len__" = pure none := by rw [typeLookup_type, builtinLookup_eq_fast]; kernel_rfl
theorem map_no_hint : typeLookup (.type "map") "__length_hint__" = pure none := by rw [typeLookup_type, builtinLookup_eq_fast]; kernel_rfl
noncomputable abbrev tupO (vs : List Value) : Obj := { cls := .type "tuple", data := .seq vs.toArray }
noncomputable abbrev mapO (T : Addr) (f : Addr) : Obj := { cls := .type "map", data := .fields #[.ref T, .ref f] }
noncomputable abbrev litO (l : Addr) (i : Int) : Obj := { cls := .type "list_iterator", data := .fields #[.ref l, .int i 0] }
section
variable {prog : Program} {w : World} {A : Around} {E : Value → Shared → Prop} {s : Shared}
theorem map_next_item {M T I l f : Addr} {i : Nat} {items : Array Value} {x : Value} {Q : Option Value → Shared → Prop} (hM : s.heap.get? M = some (mapO T f)) (hT : s.heap.get? T = some (tupO [.ref I])) (hit : s.heap.IsListIter I l i) (hl : s.heap.IsList l items)
    (hx : items[i]? = some x) (hMI : M ≠ I)
    (hcall : ∀ h1, h1.IsListIter I l (i + 1) → Heap.SameBut I s.heap h1 → wpAny (model prog w) A.in1 (call (.ref f) [x]) (fun v s' => Q (some v) s') (fun _ _ => False) { s with heap := h1 }) :
    wpAny (model prog w) A (pyNext (.ref M)) Q E s := by
  have hTy : s.TypeIs (.ref M) "map" := ⟨_, hM, rfl⟩
  unfold pyNext
  refine wpAny_bind (wpAny_attempt (wpAny_callSpecial?_slot (name := Str.ofString "__next__") hTy slot_map_next
    (wpAny_call_entry slot_map_next hTy entry_map_next ?_ (args_map_next _))))
  show wpAny _ _ (field (.ref M) 0 >>= _) _ _ s
  refine wpAny_bind (wpAny_field hM rfl (x := .ref T) rfl ?_)
  show wpAny _ _ (seqItems? (.ref T) >>= _) _ _ s
  refine wpAny_bind (wpAny_seqItems hT rfl ?_)
  dsimp only
  rw [← Array.forIn_toList, List.forIn_cons]
  refine wpAny_bind (wpAny_bind (wpAny_bind (wpAny_holding (wpAny_nextOf_list_item hit hl hx fun h1 hit1 hs1 => ?_))))
  refine wpAny_pure ?_
  dsimp only
  rw [List.forIn_nil]
  refine wpAny_pure ?_
  have hM1 : h1.get? M = some (mapO T f) := (hs1.2 M hMI).trans hM
  show wpAny _ _ (field (.ref M) 1 >>= _) _ _ { s with heap := h1 }
  refine wpAny_bind (wpAny_field (s := { s with heap := h1 }) hM1 rfl (x := .ref f) rfl ?_)
  refine wpAny_bind (wpAny_holding (wpAny_mono (hcall h1 hit1 hs1) (fun v s' hv => ?_) fun _ _ e => e.elim))
  refine wpAny_bind (wpAny_letGo ?_)
  exact wpAny_pure ⟨v, rfl, wpAny_pure hv⟩
theorem map_next_end {M T I l f : Addr} {i : Nat} {items : Array Value} {Q : Option Value → Shared → Prop} (hh : A.handled = none) (hM : s.heap.get? M = some (mapO T f)) (hT : s.heap.get? T = some (tupO [.ref I])) (hit : s.heap.IsListIter I l i) (hl : s.heap.IsList l items)
    (hx : items[i]? = none)
    (hQ : ∀ h', Heap.ExtBut I s.heap h' → Q none { s with heap := h' }) :
    wpAny (model prog w) A (pyNext (.ref M)) Q E s := by
  have hTy : s.TypeIs (.ref M) "map" := ⟨_, hM, rfl⟩
  unfold pyNext
  refine wpAny_bind (wpAny_attempt (wpAny_callSpecial?_slot (name := Str.ofString "__next__") hTy slot_map_next
    (wpAny_call_entry slot_map_next hTy entry_map_next ?_ (args_map_next _))))
  show wpAny _ _ (field (.ref M) 0 >>= _) _ _ s
  refine wpAny_bind (wpAny_field hM rfl (x := .ref T) rfl ?_)
  show wpAny _ _ (seqItems? (.ref T) >>= _) _ _ s
  refine wpAny_bind (wpAny_seqItems hT rfl ?_)
  dsimp only
  rw [← Array.forIn_toList, List.forIn_cons]
  refine wpAny_bind (wpAny_bind (wpAny_bind (wpAny_holding (wpAny_nextOf_list_end hh hit hl hx fun h' e hk he => ?_))))
  obtain ⟨o, ho, hc⟩ := he
  refine wpAny_bind (wpAny_isInstance (T := "StopIteration") (b := true) ⟨_, ho, hc⟩ isSubtype_stop ?_)
  exact wpAny_pure (hQ _ hk)
theorem entry_map_iter : entryFor table "map.__iter__" = some Builtin.«dict_keyiterator.__iter__» := entryFor_alias (id' := "dict_keyiterator.__iter__") (by kernel_rfl) (by first | rfl | decide +kernel | (unfold String.splitOn; simp +decide [String.splitOnAux])) (by decide +kernel) (by kernel_rfl)
theorem args_map_iter (a : Value) : argsOk "map.__iter__" ⟨[a], []⟩ := by unfold argsOk; kernel_rfl
theorem map_iter {M T f : Addr} {Q : Value → Shared → Prop} (hM : s.heap.get? M = some (mapO T f)) (h : Q (.ref M) s) : wpAny (model prog w) A (pyIter (.ref M)) Q E s := by
  have hTy : s.TypeIs (.ref M) "map" := ⟨_, hM, rfl⟩
  refine wpAny_pyIter_slot hTy slot_map_iter (wpAny_call_entry slot_map_iter hTy entry_map_iter ?_ (args_map_iter _))
  show wpAny _ _ (ret (.ref M)) _ _ s
  exact wpAny_pure ⟨_, rfl, "map", _, hTy, slot_map_next.lookup, h⟩
end
section
variable {w : World} {A : Around} {E : Value → Shared → Prop} {s : Shared}
/-- what stands but for one -/
noncomputable abbrev But (I : Addr) (h h' : Heap) : Prop := ∀ b o, b ≠ I → h.get? b = some o → h'.get? b = some o
theorem map_item {h₀ : Heap} {M T I l : Addr} {i : Nat} {items : Array Value} {x : Str} {t : Tok} {Q : Option Value → Shared → Prop} (hA : A.handled = none) (hd : A.depth ≤ 970) (hu : A.units ≤ 8900) (G : Gd w h₀) (k : Stays h₀ s.heap) (hI : h₀.get? I = none)
    (hM : s.heap.get? M = some (mapO T 137)) (hT : s.heap.get? T = some (tupO [.ref I])) (hit : s.heap.IsListIter I l i) (hl : s.heap.IsList l items) (hx : items[i]? = some (.str x t)) (hMI : M ≠ I)
    (hQ : ∀ h' tk t', h'.IsListIter I l (i + 1) → But I s.heap h' → Q (some (.str x t')) { s with heap := h', toks := tk }) :
    wpAny (model prog w) A (pyNext (.ref M)) Q E s := by
  refine map_next_item hM hT hit hl hx hMI fun h1 hit1 hs1 => ?_
  refine fspath_c w x t _ A.in1 _ _ hA (by show A.depth ≤ 980; omega) (by show A.units + 1 ≤ 9000; omega) (G.keeps fun b o e => (hs1.2 b (fun q => by rw [q, hI] at e; cases e)).trans (k b o e)) fun r h' tk' st _ hp => ?_
  obtain ⟨t', rfl⟩ := hp
  obtain ⟨o, ho, r⟩ := hit1
  exact hQ h' tk' t' ⟨o, st _ _ ho, r⟩ fun b o hb e => st _ _ ((hs1.2 b hb).trans e)
theorem collect_map {h₀ : Heap} {M T I l : Addr} {x y : Str} {t t2 : Tok} {Q : List Value → Shared → Prop} (hA : A.handled = none) (hd : A.depth ≤ 970) (hu : A.units ≤ 8890) (G : Gd w h₀) (k : Stays h₀ s.heap) (hI : h₀.get? I = none)
    (hM : s.heap.get? M = some (mapO T 137)) (hT : s.heap.get? T = some (tupO [.ref I])) (hit : s.heap.IsListIter I l 0) (hl : s.heap.IsList l #[.str x t, .str y t2]) (hMI : M ≠ I) (hTI : T ≠ I) (hlI : l ≠ I)
    (hQ : ∀ h' tk t1 t2, s.heap.objs.size ≤ h'.objs.size → But I s.heap h' → Q [.str x t1, .str y t2] { s with heap := h', toks := tk }) :
    wpAny (model prog w) A (collect (.ref M)) Q E s := by
  have lt : ∀ {b o}, s.heap.get? b = some o → b < s.heap.objs.size := fun e => Heap.lt_size e
  have hTyM : s.TypeIs (.ref M) "map" := ⟨_, hM, rfl⟩
  unfold collect
  refine wpAny_bind (wpAny_runValue (codeAny_builtin F.entry_proto_collect ?_))
  rw [Around.under_plainId F.plain_proto_collect _]
  show wpAny _ A.in1 (newList [] >>= fun l => again (.builtin "list.__iadd__" ⟨[l, .ref M], []⟩)) _ _ s
  refine wpAny_bind (wpAny_newObj_type ?_)
  refine wpAny_pure ⟨plainId_quiet F.plain_list_iadd _, codeAny_builtin F.entry_list_iadd ?_⟩
  rw [Around.under_plainId F.plain_list_iadd _]
  show wpAny _ A.in1 (Builtin.List.listExtendWith (.ref s.heap.objs.size) (.ref M) (.ref s.heap.objs.size)) _ _ _
  have up : Stays s.heap (s.heap.push { cls := .type "list", data := .seq ([] : List Value).toArray }) := fun b o e => Heap.get?_push_of_some _ e
  have hTyM' : (⟨s.heap.push { cls := .type "list", data := .seq ([] : List Value).toArray }, s.gens, s.drawn, s.toks, s.os⟩ : Shared).TypeIs (.ref M) "map" := ⟨_, up _ _ hM, rfl⟩
  unfold Builtin.List.listExtendWith
  refine wpAny_bind (wpAny_typeOf hTyM' ?_)
  have h1 : Builtin.List.listSameRef (.ref s.heap.objs.size) (.ref M) = false := by
    have := Nat.ne_of_gt (lt hM)
    simp [Builtin.List.listSameRef, this]
  have h2 : (Value.type "map" == Value.type "list") = false := by decide
  have h3 : (Value.type "map" == Value.type "tuple") = false := by decide
  simp only [h1, h2, h3, Bool.or_false, Bool.false_eq_true, if_false]
  refine wpAny_bind (map_iter (up _ _ hM) ?_)
  refine wpAny_bind (wpAny_holding ?_)
  unfold Builtin.List.listLengthHint
  refine wpAny_bind (wpAny_specialOf hTyM' map_no_len ?_)
  show wpAny _ A.in1 (specialOf (Value.ref M) (Str.ofString "__length_hint__") >>= _) _ _ _
  refine wpAny_bind (wpAny_specialOf hTyM' map_no_hint ?_)
  refine wpAny_pure ?_
  show wpAny _ A.in1 (rule "list.extend.makes-room" >>= fun _ => Builtin.List.listTouch (.ref s.heap.objs.size) >>= fun _ =>
    again (.builtin "list.extend.loop" ⟨[.ref s.heap.objs.size, .ref M, .ref s.heap.objs.size], []⟩)) _ _ _
  refine wpAny_bind (wpAny_rule ?_)
  have hS₁ : (s.heap.push { cls := .type "list", data := .seq ([] : List Value).toArray }).get? s.heap.objs.size = some { cls := .type "list", data := .seq ([] : List Value).toArray } := Heap.get?_push_size _ rfl
  refine wpAny_bind ?_
  show wpAny _ A.in1 (updateSeq s.heap.objs.size (·.push .none) >>= fun _ => updateSeq s.heap.objs.size (·.pop)) _ _ _
  refine wpAny_bind (wpAny_updateSeq hS₁ rfl ?_)
  have hS₂ := Heap.get?_update_self (Obj.mapSeq (·.push Value.none)) hS₁ rfl
  refine wpAny_updateSeq hS₂ rfl ?_
  have hS₃ := Heap.get?_update_self (Obj.mapSeq (·.pop)) hS₂ rfl
  -- the heap at the loop's start
  generalize hH : ((s.heap.push { cls := .type "list", data := .seq ([] : List Value).toArray }).update s.heap.objs.size (Obj.mapSeq (·.push Value.none))).update s.heap.objs.size (Obj.mapSeq (·.pop)) = H at hS₃ ⊢
  have upH : Stays s.heap H := fun b o e => by
    rw [← hH]
    exact (Heap.get?_update_other _ _ (Nat.ne_of_gt (lt e))).trans ((Heap.get?_update_other _ _ (Nat.ne_of_gt (lt e))).trans (up b o e))
  have tp : ∀ {b o}, s.heap.get? b = some o → b ≠ s.heap.objs.size := fun e => Nat.ne_of_lt (lt e)
  have ltI : I ≠ s.heap.objs.size := let ⟨_, e, _⟩ := hit; tp e
  -- a turn
  have turn : ∀ (i : Nat) (v : Str) (tv : Tok) (H1 : Heap) (tk : Nat) (acc : Array Value) (c : Nat) (R : Result → Shared → Prop), (#[Value.str x t, Value.str y t2] : Array Value)[i]? = some (.str v tv) → acc.size ≤ 5 → H1.IsListIter I l i → But I s.heap H1 →
      H1.get? s.heap.objs.size = some { cls := .type "list", dict := none, data := .seq acc c, slots := #[] } →
      (∀ H2 tk' t' c', H2.IsListIter I l (i + 1) → But I s.heap H2 → H2.get? s.heap.objs.size = some { cls := .type "list", dict := none, data := .seq (acc.push (.str v t')) c', slots := #[] } →
        codeAny (model prog w) A (.builtin "list.extend.loop" ⟨[.ref s.heap.objs.size, .ref M, .ref s.heap.objs.size], []⟩) R { s with heap := H2, toks := tk' }) →
      codeAny (model prog w) A (.builtin "list.extend.loop" ⟨[.ref s.heap.objs.size, .ref M, .ref s.heap.objs.size], []⟩) R { s with heap := H1, toks := tk } := by
    intro i v tv H1 tk acc c R hx ha hi1 hb hS next
    refine codeAny_builtin F.entry_extend_loop ?_
    rw [Around.under_plainId F.plain_extend_loop _]
    show wpAny _ A.in1 (pyNext (.ref M) >>= _) _ _ _
    have k1 : Stays h₀ H1 := fun b o e => hb b o (fun q => by rw [q, hI] at e; cases e) (k b o e)
    refine wpAny_bind (map_item (s := { s with heap := H1, toks := tk }) (i := i) (by exact hA) (by exact hd) (by show A.units + 1 ≤ 8900; omega) G k1 hI (hb _ _ hMI hM) (hb _ _ hTI hT) hi1 (hl.at fun o e => hb _ _ hlI e) hx hMI fun H2 tk2 t' hi2 hb2 => ?_)
    have hS2 := hb2 _ _ (Ne.symm ltI) hS
    show wpAny _ A.in1 (updateSeq s.heap.objs.size (·.push _) >>= _) _ _ _
    refine wpAny_bind (wpAny_updateSeq (s := { s with heap := H2, toks := tk2 }) hS2 rfl (wpAny_pure ⟨plainId_quiet F.plain_extend_loop _, next _ _ t' _ ?_ ?_ (Heap.get?_update_self _ hS2 rfl)⟩) (by rw [sizeLine_eq]; omega) (by show (acc.push _).size ≤ _; rw [Array.size_push, sizeLine_eq]; omega))
    · obtain ⟨o, e, r⟩ := hi2
      exact ⟨o, (Heap.get?_update_other _ _ (Ne.symm ltI)).trans e, r⟩
    · exact fun b o hbI e => (Heap.get?_update_other _ _ (Ne.symm (tp e))).trans (hb2 _ _ hbI (hb _ _ hbI e))
  have hit0 : H.IsListIter I l 0 := by obtain ⟨o, e, r⟩ := hit; exact ⟨o, upH _ _ e, r⟩
  refine wpAny_pure ⟨plainId_quiet F.plain_extend_loop _, turn 0 x t H s.toks #[] 2 _ rfl (by simp) hit0 (fun b o _ e => upH b o e) hS₃ fun H2 tk2 u1 c2 i2 b2 g2 => ?_⟩
  refine turn 1 y t2 H2 tk2 _ c2 _ rfl (by simp) i2 b2 g2 fun H3 tk3 u2 c3 i3 b3 g3 => ?_
  refine codeAny_builtin F.entry_extend_loop ?_
  rw [Around.under_plainId F.plain_extend_loop _]
  show wpAny _ A.in1 (pyNext (.ref M) >>= _) _ _ _
  refine wpAny_bind (map_next_end (s := { s with heap := H3, toks := tk3 }) (by exact hA) (b3 _ _ hMI hM) (b3 _ _ hTI hT) i3 (hl.at fun o e => b3 _ _ hlI e) rfl fun H4 hx4 => ?_)
  have b4 : But I s.heap H4 := fun b o hb e => hx4 b o hb (b3 b o hb e)
  have g4 := hx4 _ _ (Ne.symm ltI) g3
  refine wpAny_pure ?_
  show wpAny _ A (load s.heap.objs.size >>= _) _ _ _
  refine wpAny_bind (wpAny_load g4 ?_)
  exact wpAny_pure (hQ H4 tk3 u1 u2 (Nat.le_of_lt (Heap.lt_size g4)) b4)
end
end
section
open PySem PySem.W PyProof.Rows PySem.Calls
open PySem.Sem (wp)
open PySem.AutoSeq1 (wpAny_loadPart')
set_option maxRecDepth 100000
theorem slot_map_init : Slot "map" "__init__" "object.__init__" :=
  .of (owner := "object") (n := "__init__") (by rw [typeLookup_type, builtinLookup_eq_fast]; kernel_rfl) (by decide +kernel) (by decide +kernel) (by decide +kernel)
    (by first | exact .inl (by decide +kernel) | exact .inr (by decide +kernel)) (by rw [isSubtype_type]; kernel_rfl)
theorem mro_map : mroOf (.type "map") = pure [.type "map", .type "object"] := by rw [mroOf_type]; kernel_rfl
theorem lookup_map_new : typeLookup (.type "map") "__new__" = pure (some (.builtin "map.__new__")) := by rw [typeLookup_type, builtinLookup_eq_fast]; kernel_rfl
theorem called_map : TypeCalled "map" "map.__new__" "object.__init__" :=
  ⟨by decide +kernel, by decide +kernel, ⟨_, _, mro_map⟩, madeBy_type mro_map lookup_map_new (by decide +kernel), by decide +kernel, by rw [isSubtype_type]; kernel_rfl, slot_map_init⟩
theorem typeCall_map_2 (a b : Value) : checkTypeCall "map" ⟨[a, b], []⟩ = pure () := by kernel_rfl
theorem newCall_map_2 (a b : Value) : checkBuiltinCall "map.__new__" ⟨[.type "map", a, b], []⟩ = pure () := by kernel_rfl
theorem entry_map_new : entryFor table "map.__new__" = some Builtin.«map.__new__» := entryFor_of_fast (by kernel_rfl)
theorem sub_map : isSubtype (.type "map") (.type "map") = pure true := by rw [isSubtype_type]; kernel_rfl
noncomputable abbrev mapH1 (h : Heap) (l : Addr) : Heap := h.push (litO l 0)
noncomputable abbrev mapH2 (h : Heap) (l : Addr) : Heap := (mapH1 h l).push (tupO [.ref h.objs.size])
noncomputable abbrev mapH3 (h : Heap) (l f : Addr) : Heap := (mapH2 h l).push (mapO (mapH1 h l).objs.size f)
theorem meets_map_new (f l : Addr) (xs : Array Value) :
    Meets (Builtin.«map.__new__» ⟨[.type "map", .ref f, .ref l], []⟩) (fun _ R s => s.heap.IsList l xs ∧
      R (.ok (.ret (.ref (mapH2 s.heap l).objs.size))) { s with heap := mapH3 s.heap l f }) :=
  .of_wp fun prog w A R s h => by
    obtain ⟨hp, g, d, tk, os⟩ := s; obtain ⟨hl1, h⟩ := h
    have hsub := sub_map
    have hL1 : Heap.IsList (Shared.heap ⟨hp, g, d, tk, os⟩) l xs := hl1
    wp_walk using wpAny_pyIter_list hL1
    exact ⟨_, rfl, h⟩
section
variable {prog : Program} {w : World} {A : Around} {E : Value → Shared → Prop} {s : Shared}
theorem call_map {f l : Addr} {xs : Array Value} {Q : Value → Shared → Prop} (hl : s.heap.IsList l xs)
    (h : ∀ M T I h', Stays s.heap h' → h'.get? M = some (mapO T f) → h'.get? T = some (tupO [.ref I]) → h'.get? I = some (litO l 0) → s.heap.objs.size ≤ I → I < T → T < M → Q (.ref M) { s with heap := h' }) :
    wpAny (model prog w) A (call (.type "map") [.ref f, .ref l]) Q E s := by
  refine callType_new called_map (by decide) (typeCall_map_2 _ _) (newCall_map_2 _ _) (fun obj => F.args_object_init_3 obj _ _) entry_map_new
    (meets_map_new f l xs) ⟨hl, ?_⟩
  have z1 : (mapH1 s.heap l).objs.size = s.heap.objs.size + 1 := Heap.size_push ..
  have z2 : (mapH2 s.heap l).objs.size = s.heap.objs.size + 2 := by rw [Heap.size_push, z1]
  have g3 : (mapH3 s.heap l f).get? (mapH2 s.heap l).objs.size = some _ := Heap.get?_push_size _ rfl
  have g2 : (mapH3 s.heap l f).get? (mapH1 s.heap l).objs.size = some _ := Heap.get?_push_of_some _ (Heap.get?_push_size _ rfl)
  have g1 : (mapH3 s.heap l f).get? s.heap.objs.size = some _ := Heap.get?_push_of_some _ (Heap.get?_push_of_some _ (Heap.get?_push_size _ rfl))
  refine ⟨⟨_, g3, rfl⟩, h _ _ _ _ (fun b o e => Heap.get?_push_of_some _ (Heap.get?_push_of_some _ (Heap.get?_push_of_some _ e))) g3 g2 g1 (Nat.le_refl _) (by rw [z1]; exact Nat.lt_succ_self _) (by rw [z1, z2]; exact Nat.lt_succ_self _)⟩
end
section
variable {w : World} {A : Around} {E : Value → Shared → Prop} {s : Shared}
theorem codeTupMap {h₀ : Heap} {M T I l : Addr} {x y : Str} {t t2 : Tok} {Q₁ : Value → Shared → Prop} (hA : A.handled = none) (hd : A.depth ≤ 960) (hu : A.units ≤ 8880) (G : Gd w h₀) (k : Stays h₀ s.heap) (hI : h₀.get? I = none)
    (hM : s.heap.get? M = some (mapO T 137)) (hT : s.heap.get? T = some (tupO [.ref I])) (hit : s.heap.IsListIter I l 0) (hl : s.heap.IsList l #[.str x t, .str y t2]) (hMI : M ≠ I) (hTI : T ≠ I) (hlI : l ≠ I)
    (h : ∀ D h' tk t1 t2, But I s.heap h' → h'.get? D = some (tupO [.str x t1, .str y t2]) → s.heap.objs.size ≤ D → Q₁ (.ref D) { s with heap := h', toks := tk }) :
    codeAny (model prog w) A (.call (.builtin "tuple.__new__") ⟨[.type "tuple", .ref M], []⟩) (wants Q₁ E) s := by
  refine codeAny_of_tree ?_
  show wpAny _ A.in1 (do checkBuiltinCall "tuple.__new__" ⟨[.type "tuple", .ref M], []⟩; again (.builtin "tuple.__new__" ⟨[.type "tuple", .ref M], []⟩)) _ _ s
  refine wpAny_bind (wpAny_of_eq (F.newCall_tuple_1 _) (wpAny_pure ⟨plainId_quiet F.plain_tuple_new _, codeAny_builtin F.entry_tuple_new ?_⟩))
  rw [Around.under_plainId F.plain_tuple_new _]
  have hsub := sub_tuple_self
  have hinit := init_tuple_lookup
  have hmh := madeHere_tuple
  have hTI' : s.TypeIs (.ref M) "map" := ⟨_, hM, rfl⟩
  have hcl : ∀ (Q : List Value → Shared → Prop), (∀ h' tk t1 t2, s.heap.objs.size ≤ h'.objs.size → But I s.heap h' → Q [.str x t1, .str y t2] { s with heap := h', toks := tk }) → wpAny (model prog w) A.in1 (collect (.ref M)) Q E s := fun Q hQ =>
    collect_map (A := A.in1) hA (by show A.depth ≤ 970; omega) (by show A.units + 1 ≤ 8890; omega) G k hI hM hT hit hl hMI hTI hlI hQ
  wp_walk using wpAny_typeOf hTI', hcl
  intro h' tk t1 t2 hsz hb
  show wpAny _ _ (Builtin.Tuple.tupleExact _ >>= fun v => ret v) _ _ _
  unfold Builtin.Tuple.tupleExact
  refine wpAny_bind (wpAny_newObj_type ?_)
  refine wpAny_pure ?_
  exact h _ _ tk t1 t2 (fun b o hbI e => Heap.get?_push_of_some _ (hb b o hbI e)) (Heap.get?_push_size _ rfl) hsz
theorem call_tuple_map {h₀ : Heap} {M T I l : Addr} {x y : Str} {t t2 : Tok} {Q : Value → Shared → Prop} (hA : A.handled = none) (hd : A.depth ≤ 950) (hu : A.units ≤ 8870) (G : Gd w h₀) (k : Stays h₀ s.heap) (hI : h₀.get? I = none)
    (hM : s.heap.get? M = some (mapO T 137)) (hT : s.heap.get? T = some (tupO [.ref I])) (hit : s.heap.IsListIter I l 0) (hl : s.heap.IsList l #[.str x t, .str y t2]) (hMI : M ≠ I) (hTI : T ≠ I) (hlI : l ≠ I)
    (h : ∀ D h' tk t1 t2, But I s.heap h' → h'.get? D = some (tupO [.str x t1, .str y t2]) → s.heap.objs.size ≤ D → Q (.ref D) { s with heap := h', toks := tk }) :
    wpAny (model prog w) A (call (.type "tuple") [.ref M]) Q E s := by
  refine callType_codes (Q₁ := fun obj s₁ => s₁.TypeIs obj "tuple" ∧ Q obj s₁) F.called_tuple (F.typeCall_tuple_1 _) F.entry_object_init
    (codeTupMap (A := A.in1) hA (by show A.depth ≤ 960; omega) (by show A.units + 1 ≤ 8880; omega) G k hI hM hT hit hl hMI hTI hlI fun D h' tk t1 t2 hb hD hsz => ⟨⟨_, hD, rfl⟩, h D h' tk t1 t2 hb hD hsz⟩) fun obj s₁ h₁ => ?_
  exact ⟨h₁.1, F.args_object_init_2 obj _, object_init_meets F.called_tuple.init.lookup F.called_tuple.made (by decide) prog w A.in1 _ s₁ ⟨h₁.1, rfl, h₁.2⟩⟩
theorem fresh_of {h₀ h : Heap} {L a : Addr} {m : Str → Option Value} (F : Fr h₀ L h m) (ha : h.objs.size ≤ a) : h₀.get? a = none := by
  cases e : h₀.get? a with
  | none => rfl
  | some o => exact absurd (Heap.lt_size (F.keep _ _ e)) (Nat.not_lt.mpr ha)
theorem News.snoc {h₀ h h' : Heap} {L a : Addr} {m : Str → Option Value} {o : Obj} {news : List (Addr × Obj)} (F : Fr h₀ L h m) (N : News h₀ L h' news) (ha : h.objs.size ≤ a) (e : h'.get? a = some o) : News h₀ L h' ((a, o) :: news) := fun p hp => by
  rcases List.mem_cons.mp hp with rfl | hp
  · exact ⟨e, fun q => absurd F.ns.lt (by rw [← q]; exact Nat.not_lt.mpr ha), fresh_of F ha⟩
  · exact N p hp
theorem map_K {prog : Program} {h₀ : Heap} {L l f : Addr} {m : Str → Option Value} {news : List (Addr × Obj)} {Q : Value → Shared → Prop} {xs : Array Value} (F : Fr h₀ L s.heap m) (N : News h₀ L s.heap news) (hl : s.heap.IsList l xs)
   (h : ∀ M T I h', Fr h₀ L h' m → News h₀ L h' ((M, mapO T f) :: (T, tupO [.ref I]) :: (I, litO l 0) :: news) → (∀ p ∈ news, p.1 < I) → I < T → T < M → l < I → Q (.ref M) { s with heap := h' }) : wpAny (model prog w) A (call (.type "map") [.ref f, .ref l]) Q E s := by
  refine call_map hl fun M T I h' st hM hT hI l1 l2 l3 => ?_
  have N1 := News.snoc F (News.grown N st) l1 hI
  have N2 := News.snoc F N1 (Nat.le_of_lt (Nat.lt_of_le_of_lt l1 l2)) hT
  have N3 := News.snoc F N2 (Nat.le_of_lt (Nat.lt_trans (Nat.lt_of_le_of_lt l1 l2) l3)) hM
  exact h M T I h' (F.keeps st) N3 (fun p hp => Nat.lt_of_lt_of_le (Heap.lt_size (N p hp).1) l1) l2 l3 (by obtain ⟨o, e, _⟩ := hl; exact Nat.lt_of_lt_of_le (Heap.lt_size e) l1)
theorem tup_K {loose : List Str} {mean : ExcName → Option Value} {mg mb : Str → Option Value} {h₀ : Heap} {L l M T I : Addr} {m : Str → Option Value} {news : List (Addr × Obj)} {Q : Value → Shared → Prop} {x y : Str} {t t2 : Tok} (F : Fr h₀ L s.heap m) (N : News h₀ L s.heap ((M, mapO T 137) :: (T, tupO [.ref I]) :: (I, litO l 0) :: news)) (hl : s.heap.IsList l #[.str x t, .str y t2])
   (X : (hd.heap_1 w.params).In h₀) (Tp : Top topProg loose mean mg mb h₀) (hA : A.handled = none) (hd : A.depth ≤ 950) (hu : A.units ≤ 8870) (hMI : I < M) (hTI : I < T) (hlI : l < I) (off : ∀ p ∈ news, p.1 < I)
   (h : ∀ D t1 t2 h' tk, Fr h₀ L h' m → News h₀ L h' ((D, tupO [.str x t1, .str y t2]) :: news) → (∀ p ∈ news, p.1 < D) → l < D → Q (.ref D) { s with heap := h', toks := tk }) : wpAny (model prog w) A (call (.type "tuple") [.ref M]) Q E s := by
  have zM := N _ (.head _)
  have zT := N _ (.tail _ (.head _))
  have zI := N _ (.tail _ (.tail _ (.head _)))
  refine call_tuple_map (h₀ := h₀) hA hd hu ⟨X, _, _, _, _, Tp⟩ F.keep zI.2.2 zM.1 zT.1 ⟨_, zI.1, rfl, rfl⟩ hl (Nat.ne_of_gt hMI) (Nat.ne_of_gt hTI) (Nat.ne_of_lt hlI) fun D h' tk t1 t2 hb hD hsz => ?_
  have hb' : ∀ b o, b ∉ [I] → s.heap.get? b = some o → h'.get? b = some o := fun b o hm e => hb b o (fun q => hm (by rw [q]; exact List.mem_singleton.mpr rfl)) e
  have N0 : News h₀ L s.heap news := fun p hp => N p (.tail _ (.tail _ (.tail _ hp)))
  refine h D t1 t2 h' tk (LCg.fr_but F hb' (Ne.symm zI.2.1) zI.2.2) (News.snoc F (LCg.news_but N0 hb' fun p hp => Nat.ne_of_lt (off p hp)) hsz hD) (fun p hp => Nat.lt_of_lt_of_le (Heap.lt_size (N0 p hp).1) hsz) (by obtain ⟨o, e, _⟩ := hl; exact Nat.lt_of_lt_of_le (Heap.lt_size e) hsz)
end
end
section
open PySem PySem.W PyProof.Rows PySem.Calls
set_option maxRecDepth 100000
open LCg
section
variable {prog : Program} {w : World} {A : Around} {E : Value → Shared → Prop} {s : Shared} {h₀ : Heap} {L : Addr} {m : Str → Option Value} {env : Env}
/-- the source is a tuple of the ledger's -/
noncomputable def TupSrc (prog : Program) (w : World) (A : Around) (h₀ : Heap) (L : Addr) (m : Str → Option Value) (env : Env) (elt : Expr) (x : Str) (scope : Scope) (cl : List (Str × Addr)) (Fin : Shared → List Value → List (Addr × Obj) → Prop) (xv : Value) (s₁ : Shared) : Prop :=
  ∃ ax its news k, xv = .ref ax ∧ A.handled = none ∧ Fr h₀ L s₁.heap m ∧ News h₀ L s₁.heap news ∧ (ax, ({ cls := .type "tuple", data := .seq its k } : Obj)) ∈ news ∧ its.size ≤ sizeLine ∧
    ∀ g, CompRest prog w A h₀ L m env elt x scope cl { s₁ with heap := g } (fun nw => (ax, ({ cls := .type "tuple", data := .seq its k } : Obj)) ∈ nw) (fun i v => its[i]? = some v) (Fin { s₁ with heap := g }) its.size 0 [] news
theorem TupSrc.intro {elt : Expr} {x : Str} {scope : Scope} {cl : List (Str × Addr)} {Fin : Shared → List Value → List (Addr × Obj) → Prop} {ax : Addr} {its : Array Value} {k : Nat} {news : List (Addr × Obj)} {s₁ : Shared}
    (hh : A.handled = none) (F : Fr h₀ L s₁.heap m) (N : News h₀ L s₁.heap news) (hm : (ax, ({ cls := .type "tuple", data := .seq its k } : Obj)) ∈ news) (hsz : its.size ≤ sizeLine)
    (h : ∀ g, CompRest prog w A h₀ L m env elt x scope cl { s₁ with heap := g } (fun nw => (ax, ({ cls := .type "tuple", data := .seq its k } : Obj)) ∈ nw) (fun i v => its[i]? = some v) (Fin { s₁ with heap := g }) its.size 0 [] news) :
    TupSrc prog w A h₀ L m env elt x scope cl Fin (.ref ax) s₁ := ⟨ax, its, news, k, rfl, hh, F, N, hm, hsz, h⟩
theorem Assign_ListComp_W {elt iter : Expr} {x y : Str} {px py : Pos} {scope : Scope} {cl : List (Str × Addr)} {pos spos : Pos} {Q : Flow → Shared → Prop} (F₀ : Fr h₀ L s.heap m) (hLe : env.locals = L)
    (hsw : swapsWith (.ListComp elt [⟨.Name x px, iter, [], 0⟩] scope pos) (some (.Name y py)) spos.line env = pure true)
    (hclos : closureFor scope env = pure cl) (hcell : ∀ z ∈ scope.names, z.2 ≠ .cell) (hkind : scope.kind = .function)
    (hnames : ∀ z ∈ scope.names, z.2 = .local → scope.names.lookup z.1 = some .local) (hx : scope.names.lookup x = some .local)
    (hy : env.kindOf y = some .local) (hp : (env.scope.kind == .class || (env.scope.kind == .module && env.locals != env.globals)) = false)
    (h : wpAny (model prog w) A (eval iter env) (TupSrc prog w A h₀ L m env elt x scope cl (fun s₂ => FinA h₀ L m s₂ y Q)) E s)
    (hs : ∀ x, foldedSetIterable iter env x = pure x := by intro _; rfl) :
    wpAny (model prog w) A (exec (.Assign [.Name y py] (.ListComp elt [⟨.Name x px, iter, [], 0⟩] scope pos) spos) env) Q E s := by
  subst hLe
  rw [exec_Assign_Name_used _ _ _ _ hsw]
  refine wpAny_bind (wpAny_standAt (wpAny_bind ?_))
  show wpAny _ A (do let _ ← comprehension (.ListComp elt [⟨.Name x px, iter, [], 0⟩] scope pos) scope env _ (newList []) false (eval iter env) (some (assign (.Name y py) env))) _ _ s
  refine wpAny_bind (wpAny_mono (wpAny_comprehension_free (use := some (assign (.Name y py) env)) (Q := fun _ s' => Q .next s') rfl hs hclos hkind hnames
    (wpAny_mono h (fun xv s₁ h₁ => ?_) fun _ _ e => e)) (fun _ s' hq => wpAny_pure (wpAny_pure hq)) fun _ _ e => e)
  refine hideG fun G9 b9 => ?_
  obtain ⟨ax, its, news, kk, e91, hh, F, N, hm, hsz, R⟩ := h₁
  refine b9 ?_
  clear b9 G9
  subst e91
  have hl : s₁.heap.IsTuple ax its := ⟨_, (N _ hm).1, rfl, _, rfl⟩
  have hlt : ax < s₁.heap.objs.size := Heap.lt_size (N _ hm).1
  refine wpAny_pyIter_tuple hl ?_
  have up : ∀ b o, s₁.heap.get? b = some o → (s₁.heap.push { cls := .type "tuple_iterator", data := .fields #[.ref ax, .int 0 0] }).get? b = some o := fun b o e => Heap.get?_push_of_some _ e
  refine block_U (Walks.tuple hh s₁.heap.objs.size ax (Nat.ne_of_lt hlt) its) hsz (fun i h st => by obtain ⟨o, e, _⟩ := st.1; exact ⟨o, e⟩)
    (fun i h h' o nw st e e' k N S => ⟨by obtain ⟨o', q, r⟩ := st.1; rw [e] at q; cases q; exact ⟨o, e', r⟩, ⟨_, (N _ S).1, rfl, _, rfl⟩⟩) hcell hkind hx ⟨⟨_, Heap.get?_push_size _ rfl, rfl, rfl⟩, hl.at fun o e => up _ _ e⟩ (fun b hb => ?_)
    (F.keeps up) (N.grown up) (Nat.ne_of_lt F.ns.lt) (next_is_new F) (fun p hp => Nat.ne_of_lt (Heap.lt_size (N p hp).1)) hm (R _) ?_
  · show b < (s₁.heap.push _).objs.size
    rw [Heap.size_push]
    rcases List.mem_cons.mp hb with rfl | hb
    · exact Nat.lt_succ_self _
    · rw [List.mem_singleton.mp hb]; exact Nat.lt_succ_of_lt hlt
  · intro D C h' tk m' ys news' F' N' o1 hn hC₀ hD₀ hCL hDL hCD offC fin
    show wpAny _ A (assign (.Name y py) env (.ref D)) _ _ _
    refine wpAny_assign_Name (wpAny_storeName_local hy F'.ns (fun h₂ hn₂ hs₂ => ?_) hp)
    have hL₀ : h₀.get? env.locals = none := Heap.get?_none_of_le F'.above
    have F₂ : Fr h₀ env.locals h₂ (fun z => if z = y then some (.ref D) else m z) := ⟨hn₂, fun b o e => hs₂.extBut b o (fun q => by rw [q, hL₀] at e; cases e) (F'.keep b o e), F'.above⟩
    refine ⟨m', hn.sameBut hs₂ hCL, fun h'' hs'' => fin D h'' _ (F₂.change hs'' hCL hC₀) (fun p hp => ?_) o1⟩
    have z : h₂.get? p.1 = some p.2 := hs₂.extBut _ _ (N' p hp).2.1 (N' p hp).1
    refine ⟨hs''.extBut _ _ ?_ z, (N' p hp).2⟩
    rcases List.mem_cons.mp hp with rfl | hp
    · exact Ne.symm hCD
    · exact offC p hp
end
end
section
open PySem PySem.W PyProof.Rows PySem.Calls
set_option maxRecDepth 100000
noncomputable abbrev ledOf (w : World) : Bool := !(w.params.followText "set-order")
noncomputable abbrev tab1 (led : Bool) : SetTable := ⟨7, #[1], #[], 0, led, 0, true⟩
noncomputable abbrev set0 (w : World) : Obj := { cls := .type "set", dict := none, data := .set #[] 0 (.fresh 0 0 (ledOf w)) }
noncomputable abbrev set1 (w : World) (n : Nat) : Obj := { cls := .type "set", dict := none, data := .set #[(1, .bool true)] n (tab1 (ledOf w)) }
section
variable {prog : Program} {w : World} {A : Around} {E : Value → Shared → Prop} {s : Shared}
theorem hash_true {Q : Int → Shared → Prop} (h : Q 1 { s with toks := s.toks + 1 }) : wpAny (model prog w) A (pyHash (.bool true)) Q E s := by
  have hT : s.TypeIs (.bool true) "bool" := rfl
  unfold pyHash
  have hv : [Value.bool true].any Value.onHeap = false := rfl
  refine wpAny_bind ?_
  rw [cRoomFor, if_neg (by rw [hv]; exact Bool.false_ne_true)]; refine wpAny_pure ?_
  refine wpAny_bind (wpAny_specialOf hT F.slot_bool_hash.lookup ?_)
  show wpAny _ _ (if (some (Value.builtin "int.__hash__") == some Value.none) = true then _ else _) Q E s
  rw [if_neg (by rw [beq_builtin_none]; exact Bool.false_ne_true)]
  refine wpAny_bind (wpAny_specialOf hT F.slot_bool_hash.lookup ?_)
  show wpAny _ _ (callSpecialIfBoundUnlessNone? (.bool true) "__hash__" _ >>= _) Q E s
  refine wpAny_bind (wpAny_callSpecialIfBoundUnlessNone?_slot hT F.slot_bool_hash
    (wpAny_call_entry F.slot_bool_hash hT entry_int_hash
      (show wpAny _ _ (do ret (← mkInt (rawHash 1))) _ _ s from wpAny_ret_mkInt ?_) (args_int_hash _)))
  have hr := rawHash_range 1
  show wpAny _ _ (if (decide (-(2 : Int) ^ 63 ≤ rawHash 1) && decide (rawHash 1 < 2 ^ 63)) = true then _ else _) Q E _
  rw [if_pos (by rw [decide_eq_true hr.1, decide_eq_true hr.2]; rfl)]
  exact wpAny_pure h
theorem newSet_w {Q : Value → Shared → Prop} (h : Q (.ref s.heap.objs.size) { s with heap := s.heap.push (set0 w) }) : wpAny (model prog w) A (newSet (.type "set")) Q E s := by
  unfold newSet setsByText
  refine wpAny_bind (wpAny_bind (wpAny_askSetting (wpAny_pure ?_)))
  dsimp only
  simp only [newObj]
  exact wpAny_bind (wpAny_alloc (wpAny_pure h))
/-- the scan finds it or not -/
theorem scan_none {a : Addr} {Q : ScanMet → Shared → Prop} {es : Array (Int × Value)} (he : es = #[]) (h : Q .absent s) : wpAny (model prog w) A (setScan a (.bool true) 1 true es) Q E s := by
  subst he
  show wpAny _ _ (setScanFrom a (.bool true) 1 true [] 0) _ _ _
  unfold setScanFrom
  exact wpAny_pure h
theorem scan_one {a : Addr} {n : Nat} {Q : ScanMet → Shared → Prop} (ho : s.heap.get? a = some (set1 w n)) (h : Q (.found 0) s) : wpAny (model prog w) A (setScan a (.bool true) 1 true #[(1, .bool true)]) Q E s := by
  show wpAny _ _ (setScanFrom a (.bool true) 1 true [(1, .bool true)] 0) _ _ _
  unfold setScanFrom
  show wpAny _ _ (setEpoch a >>= _) _ _ _
  refine wpAny_bind (wpAny_setEpoch_of ho rfl rfl ?_)
  unfold eqBool
  refine wpAny_bind ?_
  rw [if_pos (by rfl)]
  refine wpAny_bind (wpAny_rule (wpAny_pure ?_))
  rw [if_pos rfl]
  exact wpAny_pure h
theorem add_none {a : Addr} {Q : Value → Shared → Prop} (ho : s.heap.get? a = some (set0 w))
    (h : ∀ h', Heap.SameBut a s.heap h' → h'.get? a = some (set1 w 1) → Q .none { s with heap := h', toks := s.toks + 1 }) :
    wpAny (model prog w) A (call (.builtin "set.add") [.ref a, .bool true]) Q E s := by
  have hT : s.TypeIs (.ref a) "set" := ⟨_, ho, rfl⟩
  refine wpAny_call_entry F.slot_set_add hT F.entry_set_add ?_ (F.args_set_add_2 _ _)
  unfold Builtin.«set.add» Builtin.Frozenset.oneOther
  simp only [List.isEmpty_nil, bind_assoc]
  unfold Builtin.Frozenset.addrOf setAdd
  refine wpAny_bind (wpAny_pure ?_)
  try dsimp only
  refine wpAny_bind (wpAny_pure ?_)
  try dsimp only
  refine wpAny_bind ?_
  refine wpAny_holding ?_
  refine wpAny_bind (hash_true ?_)
  unfold setAddHashed setAddHashedIn
  refine wpAny_holding (wpAny_bind (wpAny_setState_of ho rfl rfl ?_))
  dsimp only
  rw [if_pos (by decide +kernel)]
  unfold setAddByScan
  refine wpAny_bind ?_
  refine wpAny_bind (wpAny_rule ?_)
  refine wpAny_bind (scan_none rfl ?_)
  dsimp only
  refine wpAny_bind (wpAny_pure ?_)
  have e : layNew (.fresh 0 0 (ledOf w)) #[] 1 (.bool true) = (#[(1, .bool true)], tab1 (ledOf w), false, false) := by cases ledOf w <;> decide +kernel
  rw [e]
  dsimp only
  show wpAny _ _ (_ >>= _) _ _ _
  refine wpAny_bind (wpAny_pure ?_)
  refine wpAny_bind (wpAny_storeSet_of ho rfl ?_)
  rw [if_neg (by show ¬ (!false && (tab1 (ledOf w)).tooFull) = true; cases ledOf w <;> decide +kernel)]
  refine wpAny_pure (wpAny_pure ?_)
  show wpAny _ _ (ret Value.none) _ _ _
  exact wpAny_pure ⟨_, rfl, h _ (Heap.SameBut.update ..) (Heap.get?_update_self _ ho rfl)⟩
theorem add_one {a : Addr} {n : Nat} {Q : Value → Shared → Prop} (ho : s.heap.get? a = some (set1 w n))
    (h : Q .none { s with toks := s.toks + 1 }) :
    wpAny (model prog w) A (call (.builtin "set.add") [.ref a, .bool true]) Q E s := by
  have hT : s.TypeIs (.ref a) "set" := ⟨_, ho, rfl⟩
  refine wpAny_call_entry F.slot_set_add hT F.entry_set_add ?_ (F.args_set_add_2 _ _)
  unfold Builtin.«set.add» Builtin.Frozenset.oneOther
  simp only [List.isEmpty_nil, bind_assoc]
  unfold Builtin.Frozenset.addrOf setAdd
  refine wpAny_bind (wpAny_pure ?_)
  try dsimp only
  refine wpAny_bind (wpAny_pure ?_)
  try dsimp only
  refine wpAny_bind ?_
  refine wpAny_holding ?_
  refine wpAny_bind (hash_true ?_)
  unfold setAddHashed setAddHashedIn
  refine wpAny_holding (wpAny_bind (wpAny_setState_of ho rfl rfl ?_))
  dsimp only
  rw [if_pos (by decide +kernel)]
  unfold setAddByScan
  refine wpAny_bind ?_
  refine wpAny_bind (wpAny_rule ?_)
  refine wpAny_bind (scan_one (n := n) ho ?_)
  dsimp only
  refine wpAny_pure (wpAny_pure ?_)
  show wpAny _ _ (ret Value.none) _ _ _
  exact wpAny_pure ⟨_, rfl, h⟩
theorem slot_setit_next : Slot "set_iterator" "__next__" "set_iterator.__next__" :=
  .of (owner := "set_iterator") (n := "__next__") (by rw [typeLookup_type, builtinLookup_eq_fast]; kernel_rfl) (by decide +kernel) (by decide +kernel) (by decide +kernel)
    (by first | exact .inl (by decide +kernel) | exact .inr (by decide +kernel)) (by rw [isSubtype_type]; kernel_rfl)
theorem entry_setit_next : entryFor table "set_iterator.__next__" = some Builtin.«set_iterator.__next__» := entryFor_of_fast (by kernel_rfl)
theorem args_setit_next (a : Value) : argsOk "set_iterator.__next__" ⟨[a], []⟩ := by unfold argsOk; kernel_rfl
theorem entry_set_iter : entryFor table "set.__iter__" = some Builtin.«frozenset.__iter__» :=
  entryFor_alias (id' := "frozenset.__iter__") (by kernel_rfl) rfl (by decide +kernel) (by kernel_rfl)
theorem args_set_iter (a : Value) : argsOk "set.__iter__" ⟨[a], []⟩ := by unfold argsOk; kernel_rfl
noncomputable abbrev sitO (S : Addr) (f i : Int) (n : Nat) (x : Value) : Obj := { cls := .type "set_iterator", data := .fields #[.int f 0, .int i 0, x, .int 1 0, .int n 0] }
theorem set_iter {S : Addr} {n : Nat} {Q : Value → Shared → Prop} (hS : s.heap.get? S = some (set1 w n))
    (h : Q (.ref s.heap.objs.size) { s with heap := s.heap.push (sitO S 0 0 n (.ref S)) }) : wpAny (model prog w) A (pyIter (.ref S)) Q E s := by
  have hT : s.TypeIs (.ref S) "set" := ⟨_, hS, rfl⟩
  refine wpAny_pyIter_slot hT F.slot_set_iter (wpAny_call_entry F.slot_set_iter hT entry_set_iter ?_ (args_set_iter _))
  unfold Builtin.«frozenset.__iter__»
  refine wpAny_bind (m := Builtin.Frozenset.slot0 _ _) (wpAny_pure ?_)
  refine wpAny_bind (m := Builtin.Frozenset.sizeOf _) ?_
  unfold Builtin.Frozenset.sizeOf
  refine wpAny_bind (wpAny_setEntries_of hS rfl rfl (wpAny_pure ?_))
  refine wpAny_bind (m := setDrawn _) ?_
  unfold setDrawn setsByText
  refine wpAny_bind (wpAny_setState_of hS rfl rfl ?_)
  dsimp only
  refine wpAny_bind (wpAny_bind (wpAny_askSetting (wpAny_pure ?_)))
  refine wpAny_pure ?_
  split
  · rename_i hq; exact absurd (Bool.and_eq_true_iff.mp hq).2 Bool.false_ne_true
  refine wpAny_bind (wpAny_pure ?_)
  refine wpAny_bind (wpAny_setEpoch_of hS rfl rfl ?_)
  refine wpAny_bind (wpAny_newObj_type ?_)
  exact wpAny_pure ⟨_, rfl, "set_iterator", _, ⟨_, Heap.get?_push_size _ rfl, rfl⟩, slot_setit_next.lookup, h⟩
theorem pick_one (f : Nat → Nat) (x : Int × Value) : pickOrder f #[x] = #[x] := by
  unfold pickOrder
  show pickOrder.go f 1 0 [x] #[] = _
  unfold pickOrder.go
  have : f 0 % [x].length = 0 := Nat.mod_one _
  rw [this]
  show pickOrder.go f 0 1 [] (#[].push x) = _
  rfl
theorem set_next {S I : Addr} {n : Nat} {Q : Option Value → Shared → Prop} (hS : s.heap.get? S = some (set1 w n)) (hI : s.heap.get? I = some (sitO S 0 0 n (.ref S)))
    (h : ∀ h', Heap.SameBut I s.heap h' → h'.get? I = some (sitO S (if w.params.followText "set-order" then 0 else 2) 1 n (.ref S)) → Q (some (.bool true)) { s with heap := h' }) : wpAny (model prog w) A (pyNext (.ref I)) Q E s := by
  have hT : s.TypeIs (.ref I) "set_iterator" := ⟨_, hI, rfl⟩
  have hSI : S ≠ I := fun e => by rw [e, hI] at hS; exact absurd (show Value.type "set_iterator" = Value.type "set" from congrArg Obj.cls (Option.some.inj hS)) (by decide)
  unfold pyNext
  refine wpAny_bind (wpAny_attempt (wpAny_callSpecial?_slot (name := Str.ofString "__next__") hT slot_setit_next
    (wpAny_call_entry slot_setit_next hT entry_setit_next ?_ (args_setit_next _))))
  unfold Builtin.«set_iterator.__next__»
  refine wpAny_bind (m := slotArgs _ _ _) (wpAny_pure ?_)
  show wpAny _ _ (fieldsOf (.ref I) >>= _) _ _ s
  refine wpAny_bind (wpAny_fieldsOf hI rfl ?_)
  show wpAny _ _ (setEntries S >>= _) _ _ s
  refine wpAny_bind (wpAny_setEntries_of hS rfl rfl ?_)
  show wpAny _ _ (setNext S 0 0 n >>= _) _ _ s
  refine wpAny_bind ?_
  have key : ∀ E : Value → Shared → Prop, wpAny (model prog w) A.in1 (setNext S 0 0 n) (fun r s' => s' = s ∧ r = some (.bool true, if w.params.followText "set-order" then 0 else 2)) E s := by
    intro E
    unfold setNext setsByText
    refine wpAny_bind (wpAny_setState_of hS rfl rfl ?_)
    dsimp only
    refine wpAny_bind (wpAny_bind (wpAny_askSetting (wpAny_pure ?_)))
    split
    · rename_i hb
      replace hb : w.params.followText "set-order" = true := hb
      show wpAny _ _ (if (n != n) = true then _ else _) _ _ _
      rw [if_neg (by simp)]
      unfold setWalk setsByText
      refine wpAny_bind (wpAny_bind (wpAny_setState_of hS rfl rfl ?_))
      dsimp only
      refine wpAny_bind (wpAny_bind (wpAny_askSetting (wpAny_pure ?_)))
      split
      · refine wpAny_bind (wpAny_askSetting (wpAny_pure ?_))
        rw [pick_one]
        refine wpAny_pure ⟨rfl, ?_⟩
        simp
      · rename_i hn; exact absurd hb hn
    · rename_i hb
      replace hb : ¬ w.params.followText "set-order" = true := hb
      have hl : ledOf w = true := by unfold ledOf; rw [Bool.eq_false_iff.mpr hb]; rfl
      split
      · rename_i hq; exact absurd hq Bool.false_ne_true
      · rw [hl]
        refine wpAny_bind (wpAny_pure ?_)
        refine wpAny_pure ⟨rfl, ?_⟩
        decide +kernel
  refine wpAny_mono (key _) (fun r s' hr => ?_) fun _ _ e => e
  obtain ⟨rfl, rfl⟩ := hr
  dsimp only
  refine wpAny_bind (wpAny_setField_rec hI (by simp) fun h1 hI1 hs1 => ?_)
  refine wpAny_bind (wpAny_setField_rec hI1 (by simp) fun h2 hI2 hs2 => ?_)
  refine wpAny_pure ⟨_, rfl, wpAny_pure (h h2 (hs1.trans hs2) ?_)⟩
  rw [hI2]
  cases w.params.followText "set-order" <;> rfl
theorem set_done {S I : Addr} {n : Nat} {Q : Option Value → Shared → Prop} (hh : A.handled = none) (hS : s.heap.get? S = some (set1 w n)) (hI : s.heap.get? I = some (sitO S (if w.params.followText "set-order" then 0 else 2) 1 n (.ref S)))
    (h : ∀ h', Heap.ExtBut I s.heap h' → Q none { s with heap := h' }) : wpAny (model prog w) A (pyNext (.ref I)) Q E s := by
  have hT : s.TypeIs (.ref I) "set_iterator" := ⟨_, hI, rfl⟩
  unfold pyNext
  refine wpAny_bind (wpAny_attempt (wpAny_callSpecial?_slot (name := Str.ofString "__next__") hT slot_setit_next
    (wpAny_call_entry slot_setit_next hT entry_setit_next ?_ (args_setit_next _))))
  unfold Builtin.«set_iterator.__next__»
  refine wpAny_bind (m := slotArgs _ _ _) (wpAny_pure ?_)
  show wpAny _ _ (fieldsOf (.ref I) >>= _) _ _ s
  refine wpAny_bind (wpAny_fieldsOf hI rfl ?_)
  show wpAny _ _ (setEntries S >>= _) _ _ s
  refine wpAny_bind (wpAny_setEntries_of hS rfl rfl ?_)
  show wpAny _ _ (setNext S (if w.params.followText "set-order" then (0 : Int) else 2).toNat 1 n >>= _) _ _ s
  refine wpAny_bind ?_
  have key : ∀ E : Value → Shared → Prop, wpAny (model prog w) A.in1 (setNext S (if w.params.followText "set-order" then (0 : Int) else 2).toNat 1 n) (fun r s' => s' = s ∧ r = none) E s := by
    intro E
    unfold setNext setsByText
    refine wpAny_bind (wpAny_setState_of hS rfl rfl ?_)
    dsimp only
    refine wpAny_bind (wpAny_bind (wpAny_askSetting (wpAny_pure ?_)))
    split
    · rename_i hb
      replace hb : w.params.followText "set-order" = true := hb
      show wpAny _ _ (if (n != n) = true then _ else _) _ _ _
      rw [if_neg (by simp)]
      unfold setWalk setsByText
      refine wpAny_bind (wpAny_bind (wpAny_setState_of hS rfl rfl ?_))
      dsimp only
      refine wpAny_bind (wpAny_bind (wpAny_askSetting (wpAny_pure ?_)))
      split
      · refine wpAny_bind (wpAny_askSetting (wpAny_pure ?_))
        rw [pick_one]
        refine wpAny_pure ⟨rfl, ?_⟩
        simp
      · rename_i hn; exact absurd hb hn
    · rename_i hb
      replace hb : ¬ w.params.followText "set-order" = true := hb
      have hl : ledOf w = true := by unfold ledOf; rw [Bool.eq_false_iff.mpr hb]; rfl
      split
      · rename_i hq; exact absurd hq Bool.false_ne_true
      · rw [hl]
        refine wpAny_bind (wpAny_pure ?_)
        refine wpAny_pure ⟨rfl, ?_⟩
        decide +kernel
  refine wpAny_mono (key _) (fun r s' hr => ?_) fun _ _ e => e
  obtain ⟨rfl, rfl⟩ := hr
  dsimp only
  refine wpAny_bind (wpAny_setField_rec hI (by simp) fun h1 hI1 hs1 => ?_)
  show wpAny _ _ (newExc (.type "StopIteration") [] >>= _) _ _ _
  refine wpAny_bind ?_
  simp only [newExc, newTuple]
  refine wpAny_bind (wpAny_newObj_type ?_ (by size_fits))
  refine wpAny_bind (m := firstArgMember _ _) (wpAny_of_eq (a := Value.none) (by first | rfl | (simp only [firstArgMember]; rfl)) ?_)
  refine wpAny_newObj_type ?_ (by size_fits)
  simp only [raiseNew]
  refine wpAny_bind (wpAny_handled ?_)
  first | rw [show A.in1.handled = none from hh] | rw [hh]
  refine wpAny_bind (wpAny_pure (wpAny_throw ?_))
  refine wpAny_bind (wpAny_isInstance (T := "StopIteration") (b := true) ⟨_, Heap.get?_push_size _ rfl, rfl⟩ isSubtype_stop ?_)
  exact wpAny_pure (h _ ((hs1.extBut.push _).push _))
/-- one place takes the set's one element -/
theorem unpack_set {S : Addr} {n : Nat} {f : Value → Sem Unit} {Q : Unit → Shared → Prop} (hh : A.handled = none) (hS : s.heap.get? S = some (set1 w n))
    (h : ∀ h', Heap.ExtBut s.heap.objs.size s.heap h' → wpAny (model prog w) A (f (.bool true)) (fun _ s' => Q () s') E { s with heap := h' }) :
    wpAny (model prog w) A (unpack (.ref S) [(false, f)]) Q E s := by
  have hT : s.TypeIs (.ref S) "set" := ⟨_, hS, rfl⟩
  have hlt : S ≠ s.heap.objs.size := Nat.ne_of_lt (Heap.lt_size hS)
  unfold unpack
  refine wpAny_bind (wpAny_holding ?_)
  show wpAny _ _ (unpackItems (.ref S) 1 none) _ _ _
  unfold unpackItems
  refine wpAny_bind ?_
  unfold notIterableAtAll
  refine wpAny_bind (wpAny_specialOf hT F.slot_set_iter.lookup ?_)
  refine wpAny_pure ?_
  simp only [Bool.false_eq_true, if_false]
  refine wpAny_bind (wpAny_holding (set_iter hS ?_))
  refine wpAny_bind (wpAny_holding ?_)
  show wpAny _ _ (pyNext (.ref s.heap.objs.size) >>= _) _ _ _
  refine wpAny_bind (set_next (n := n) (Heap.get?_push_of_some _ hS) (Heap.get?_push_size _ rfl) fun h1 hs1 hI1 => ?_)
  dsimp only
  refine wpAny_bind (wpAny_holding (wpAny_pure (wpAny_pure ?_)))
  have hS1 : h1.get? S = some (set1 w n) := (hs1.2 S hlt).trans (Heap.get?_push_of_some _ hS)
  refine wpAny_bind (wpAny_holding (set_done (n := n) hh hS1 hI1 fun h2 he => ?_))
  refine wpAny_pure ?_
  show wpAny _ _ (assignInOrder [f] [.bool true]) _ _ _
  show wpAny _ _ (holding [] (f (.bool true)) >>= fun _ => assignInOrder [] []) _ _ _
  refine wpAny_bind (wpAny_holding (wpAny_mono (h h2 fun b o hb e => he b o hb ((hs1.2 b hb).trans (Heap.get?_push_of_some _ e))) (fun _ s' q => wpAny_pure q) fun _ _ e => e))
end
end
section
open PySem PySem.W PyProof.Rows PySem.Calls
set_option maxRecDepth 100000
open LCg
section
variable {prog : Program} {w : World} {A : Around} {R : Result → Shared → Prop} {s : Shared}
theorem setStart {elt target iter : Expr} {scope : Scope} {pos : Pos} {it acc : Value} {env : Env}
    (h0 : codeAny (model prog w) A (.compLoop (.SetComp elt [⟨target, iter, [], 0⟩] scope pos) 0 it acc env) R s)
    (h : wpAny (model prog w) A (pyIter it) (fun it' s' => codeAny (model prog w) A (.compLoop (.SetComp elt [⟨target, iter, [], 0⟩] scope pos) 0 it' acc env) R s')
      (notedBy (model prog w) A env fun x s' => R (.error x) s') s) :
    codeAny (model prog w) A (.compStart (.SetComp elt [⟨target, iter, [], 0⟩] scope pos) 0 it acc env) R s := by
  refine codeAny_of_tree ?_
  show wpAny _ A ((compStart (.SetComp elt [⟨target, iter, [], 0⟩] scope pos) 0 it acc env).onRaise (fun x => do noteFrame x env; standAt theWindowsPlace)) _ _ s
  refine wpAny_notedAt ?_
  unfold compStart
  show wpAny _ A (ask >>= _) _ _ s
  refine wpAny_bind (wpAny_askSetting (wpAny_ite ?_))
  split
  · first
      | exact wpAny_bind (wpAny_pure (wpAny_pure (And.intro rfl h0)))
      | exact wpAny_pure (And.intro rfl h0)
  · first
      | exact wpAny_bind (wpAny_rule (wpAny_bind (wpAny_standAt (wpAny_bind (wpAny_mono h (fun it' s' h' => wpAny_pure (And.intro rfl h')) fun _ _ x => x)))))
      | (refine wpAny_bind (wpAny_rule ?_); show wpAny _ _ (standAt iter.pos >>= _) _ _ s; exact wpAny_bind (wpAny_standAt (wpAny_bind (wpAny_mono h (fun it' s' h' => wpAny_pure (And.intro rfl h')) fun _ _ x => x))))
theorem setTurn (elt target iter : Expr) (scope : Scope) (pos : Pos) (it acc : Value) (env : Env) :
    compTurn (.SetComp elt [⟨target, iter, [], 0⟩] scope pos) 0 it acc env = (standAt iter.pos >>= fun _ => pyNext it >>= fun r => match r with
      | none => pure (.done .next)
      | some v => letOwnedTupleGo target it v >>= fun _ => assign target env v >>= fun _ =>
        (eval elt env >>= fun x => standAt elt.pos >>= fun _ => call (.builtin "set.add") [acc, x] >>= fun _ => pure ()) >>= fun _ =>
          again (.compLoop (.SetComp elt [⟨target, iter, [], 0⟩] scope pos) 0 it acc env)) := by rfl
theorem setLoop {elt target iter : Expr} {scope : Scope} {pos : Pos} {it acc : Value} {env : Env} (I : Nat → Shared → Prop)
    (turn : ∀ n s, I n s → wpAny (model prog w) A (pyNext it) (fun r s₁ => match r with
      | none => R (.ok .next) s₁
      | some v => wpAny (model prog w) A (assign target env v) (fun _ s₂ => wpAny (model prog w) A (eval elt env) (fun x s₃ =>
          wpAny (model prog w) A (call (.builtin "set.add") [acc, x]) (fun _ s₄ => ∃ m, m < n ∧ I m s₄) (notedBy (model prog w) A env fun e s' => R (.error e) s') s₃)
          (notedBy (model prog w) A env fun e s' => R (.error e) s') s₂) (notedBy (model prog w) A env fun e s' => R (.error e) s') s₁) (notedBy (model prog w) A env fun e s' => R (.error e) s') s)
    (n : Nat) (h : I n s) (ht : ∀ v, letOwnedTupleGo target it v = pure () := by intro _; rfl) :
    codeAny (model prog w) A (.compLoop (.SetComp elt [⟨target, iter, [], 0⟩] scope pos) 0 it acc env) R s := by
  refine codeAny_loop rfl I (fun n s hI => ?_) n h
  show wpAny _ A ((compTurn (.SetComp elt [⟨target, iter, [], 0⟩] scope pos) 0 it acc env).onRaise (fun x => do noteFrame x env; theTreesLotGoes x)) _ _ s
  refine wpAny_noted ?_
  rw [setTurn]
  refine wpAny_bind (wpAny_standAt (wpAny_bind (wpAny_mono (turn n s hI) (fun r s₁ h₁ => ?_) fun _ _ h' => h')))
  cases r with
  | none => exact wpAny_pure h₁
  | some v =>
    refine wpAny_bind (wpAny_of_eq (ht v) ?_)
    exact wpAny_bind (wpAny_mono h₁ (fun _ s₂ h₂ => wpAny_bind (wpAny_bind (wpAny_mono h₂ (fun x s₃ h₃ => wpAny_bind (wpAny_standAt (wpAny_bind (wpAny_mono h₃
      (fun _ s₄ h₄ => wpAny_pure (wpAny_pure ⟨rfl, h₄⟩)) fun _ _ h' => h')))) fun _ _ h' => h'))) fun _ _ h' => h')
end
section
variable {prog : Program} {w : World} {A : Around} {E : Value → Shared → Prop} {s : Shared} {h₀ : Heap} {L : Addr} {m : Str → Option Value} {env : Env}
/-- a turn gives True -/
noncomputable def TrueEnd (h₀ : Heap) (L : Addr) (m : Str → Option Value) (news : List (Addr × Obj)) (s₁ : Shared) (y : Value) (s' : Shared) : Prop :=
  y = .bool true ∧ ∃ h' tk', s' = { s₁ with heap := h', toks := tk' } ∧ Fr h₀ L h' m ∧ News h₀ L h' news
theorem TrueEnd.intro {news : List (Addr × Obj)} {s₁ : Shared} {b : Bool} {h' : Heap} {tk' : Nat} (F : Fr h₀ L h' m) (N : News h₀ L h' news) (hb : b = true) :
    TrueEnd h₀ L m news s₁ (.bool b) { s₁ with heap := h', toks := tk' } := ⟨by rw [hb], h', tk', rfl, F, N⟩
noncomputable def TrueSrc (prog : Program) (w : World) (A : Around) (h₀ : Heap) (L : Addr) (m : Str → Option Value) (env : Env) (elt : Expr) (x : Str) (scope : Scope) (cl : List (Str × Addr)) (Q : Value → Shared → Prop) (xv : Value) (s₁ : Shared) : Prop :=
  ∃ ax its news k, xv = .ref ax ∧ A.handled = none ∧ Fr h₀ L s₁.heap m ∧ News h₀ L s₁.heap news ∧ (ax, ({ cls := .type "tuple", data := .seq its k } : Obj)) ∈ news ∧ its.size ≤ sizeLine ∧ 0 < its.size ∧
    (∀ (i : Nat) v I oI C oC D oD m₂ h tk (E' : Value → Shared → Prop), its[i]? = some v → NsObj oC m₂ → m₂ x = some v → Fr h₀ L h m → News h₀ L h ((I, oI) :: (C, oC) :: (D, oD) :: news) → Off3 I C D news → ((@Ne Nat I C) ∧ (@Ne Nat I D) ∧ (@Ne Nat C D)) →
      wpAny (model prog w) A (eval elt (compEnvC scope cl C env)) (TrueEnd h₀ L m ((I, oI) :: (C, oC) :: (D, oD) :: news) { s₁ with heap := h, toks := tk }) E' { s₁ with heap := h, toks := tk }) ∧
    ∀ D h tk, Fr h₀ L h m → News h₀ L h ((D, set1 w 1) :: news) → Off1 D news → Q (.ref D) { s₁ with heap := h, toks := tk }
theorem TrueSrc.intro {elt : Expr} {x : Str} {scope : Scope} {cl : List (Str × Addr)} {Q : Value → Shared → Prop} {ax : Addr} {its : Array Value} {k : Nat} {news : List (Addr × Obj)} {s₁ : Shared}
    (hh : A.handled = none) (F : Fr h₀ L s₁.heap m) (N : News h₀ L s₁.heap news) (hm : (ax, ({ cls := .type "tuple", data := .seq its k } : Obj)) ∈ news) (hsz : its.size ≤ sizeLine) (hpos : 0 < its.size)
    (turn : ∀ (i : Nat) v I oI C oC D oD m₂ h tk (E' : Value → Shared → Prop), its[i]? = some v → NsObj oC m₂ → m₂ x = some v → Fr h₀ L h m → News h₀ L h ((I, oI) :: (C, oC) :: (D, oD) :: news) → Off3 I C D news → ((@Ne Nat I C) ∧ (@Ne Nat I D) ∧ (@Ne Nat C D)) →
      wpAny (model prog w) A (eval elt (compEnvC scope cl C env)) (TrueEnd h₀ L m ((I, oI) :: (C, oC) :: (D, oD) :: news) { s₁ with heap := h, toks := tk }) E' { s₁ with heap := h, toks := tk })
    (fin : ∀ D h tk, Fr h₀ L h m → News h₀ L h ((D, set1 w 1) :: news) → Off1 D news → Q (.ref D) { s₁ with heap := h, toks := tk }) :
    TrueSrc prog w A h₀ L m env elt x scope cl Q (.ref ax) s₁ := ⟨ax, its, news, k, rfl, hh, F, N, hm, hsz, hpos, turn, fin⟩
theorem SetComp_true {elt iter : Expr} {x : Str} {px : Pos} {scope : Scope} {cl : List (Str × Addr)} {pos : Pos} {Q : Value → Shared → Prop} (F₀ : Fr h₀ L s.heap m)
    (hclos : closureFor scope env = pure cl) (hcell : ∀ y ∈ scope.names, y.2 ≠ .cell) (hkind : scope.kind = .function)
    (hnames : ∀ y ∈ scope.names, y.2 = .local → scope.names.lookup y.1 = some .local) (hx : scope.names.lookup x = some .local)
    (h : wpAny (model prog w) A (eval iter env) (TrueSrc prog w A h₀ L m env elt x scope cl Q) E s)
    (hs : ∀ x, foldedSetIterable iter env x = pure x := by intro _; rfl) :
    wpAny (model prog w) A (eval (.SetComp elt [⟨.Name x px, iter, [], 0⟩] scope pos) env) Q E s := by
  show wpAny _ _ (comprehension (.SetComp elt [⟨.Name x px, iter, [], 0⟩] scope pos) scope env (firstIterPos [⟨.Name x px, iter, [], 0⟩] pos) (newSet (.type "set")) false (eval iter env)) _ _ _
  refine wpAny_comprehension_free (use := none) rfl hs hclos hkind hnames (wpAny_mono h (fun xv s₁ h₁ => ?_) fun _ _ e => e)
  refine hideG fun G9 b9 => ?_
  obtain ⟨ax, its, news, kk, e91, hh, F, N, hm, hsz, hpos, turn, fin⟩ := h₁
  refine b9 ?_
  clear b9 G9
  subst e91
  have hl : s₁.heap.IsTuple ax its := ⟨_, (N _ hm).1, rfl, _, rfl⟩
  have hlt : ax < s₁.heap.objs.size := Heap.lt_size (N _ hm).1
  refine wpAny_pyIter_tuple hl (newSet_w ?_)
  have up : ∀ b o, s₁.heap.get? b = some o → (s₁.heap.push { cls := .type "tuple_iterator", data := .fields #[.ref ax, .int 0 0] }).get? b = some o := fun b o e => Heap.get?_push_of_some _ e
  refine wpAny_newFunctionEnv hcell (by intro y hy; simp at hy) (fun h₁ hns₁ hsb₁ => ?_) hkind
  dsimp only at hns₁ hsb₁ ⊢
  generalize hH1 : s₁.heap.push { cls := .type "tuple_iterator", data := .fields #[.ref ax, .int 0 0] } = H1 at hns₁ hsb₁ up ⊢
  generalize hH2 : H1.push (set0 w) = H2 at hns₁ hsb₁ ⊢
  have z1 : H1.objs.size = s₁.heap.objs.size + 1 := by rw [← hH1, Heap.size_push]
  have z2 : H2.objs.size = s₁.heap.objs.size + 2 := by rw [← hH2, Heap.size_push, z1]
  generalize hI : s₁.heap.objs.size = I at *
  generalize hD : H1.objs.size = D at *
  generalize hC : H2.objs.size = C at *
  have ID : I ≠ D := by omega
  have IC : I ≠ C := by omega
  have DC : D ≠ C := by omega
  have lo : ∀ b, b < I → b ≠ I ∧ b ≠ D ∧ b ≠ C := fun b hb => ⟨by omega, by omega, by omega⟩
  have old : ∀ b o, s₁.heap.get? b = some o → h₁.get? b = some o := fun b o e => hsb₁.extBut b o (lo b (hI ▸ Heap.lt_size e)).2.2 (Heap.get?_push_of_some _ (hH2 ▸ Heap.get?_push_of_some _ (up b o e)))
  have hIt : h₁.IsTupleIter I ax 0 := ⟨_, hsb₁.extBut I _ IC (Heap.get?_push_of_some _ (hH2 ▸ Heap.get?_push_of_some _ (hH1 ▸ hI ▸ Heap.get?_push_size _ rfl))), rfl, rfl⟩
  have hD0 : h₁.get? D = some (set0 w) := hsb₁.extBut D _ DC (Heap.get?_push_of_some _ (hH2 ▸ hD ▸ Heap.get?_push_size _ rfl))
  have fresh₀ : ∀ a, I ≤ a → h₀.get? a = none := fun a ha => fresh_of F (hI ▸ ha)
  have hI₀ := fresh₀ I (Nat.le_refl _)
  have hD₀ := fresh₀ D (by omega)
  have hC₀ := fresh₀ C (by omega)
  have hLlt : L < I := hI ▸ F.ns.lt
  have hIL := (lo L hLlt).1
  have hDL : D ≠ L := Ne.symm (lo L hLlt).2.1
  have hCL : C ≠ L := Ne.symm (lo L hLlt).2.2
  have offN : ∀ p ∈ news, p.1 < I := fun p hp => hI ▸ Heap.lt_size (N p hp).1
  have off₀ : Off3 I C D news := Off3.of fun p hp => ⟨(lo _ (offN p hp)).1, (lo _ (offN p hp)).2.2, (lo _ (offN p hp)).2.1⟩
  have haI : ax ≠ I := (lo _ (hI ▸ hlt)).1
  have tupAt : ∀ {h' : Heap} {nw : List (Addr × Obj)}, News h₀ L h' nw → (∀ p ∈ news, p ∈ nw) → h'.IsTuple ax its := fun N' sub => ⟨_, (N' _ (sub _ hm)).1, rfl, _, rfl⟩
  have loop : ∀ s₃ : Shared, s₃ = { s₁ with heap := h₁, toks := s₁.toks + ([] : List (Str × Value)).length } →
      codeAny (model prog w) A (.compLoop (.SetComp elt [⟨.Name x px, iter, [], 0⟩] scope pos) 0 (.ref I) (.ref D) (compEnvC scope cl C env)) (compPost (model prog w) A E none Q (.ref D) C) s₃ := by
    rintro s₃ rfl
    refine setLoop
      (fun k s' => ∃ h' tk i m', s' = { s₁ with heap := h', toks := tk } ∧ i ≤ its.size ∧ k = its.size + 1 - i ∧ h'.IsTupleIter I ax i ∧ Fr h₀ L h' m ∧ h'.Ns C m' ∧
        News h₀ L h' ((D, if i = 0 then set0 w else set1 w 1) :: news)) ?_ (its.size + 1)
      ⟨h₁, _, 0, _, rfl, Nat.zero_le _, rfl, hIt, F.keeps old, hns₁, fun p hp => ?_⟩
    · intro k s' p92
      refine hideG fun G9 b9 => ?_
      obtain ⟨h', tk, i, m', e93, hi, e94, hit, F', hn', N'⟩ := p92
      refine b9 ?_
      clear b9 G9
      subst e93
      subst e94
      have htup : h'.IsTuple ax its := tupAt N' fun p hp => List.mem_cons_of_mem _ hp
      by_cases hlt' : i < its.size
      · refine wpAny_pyNext_tuple_item hit htup (x := its[i]) (by simp [hlt']) fun h₂ hit₂ hs₂ => ?_
        have b₂ : ∀ b o, b ∉ [I] → h'.get? b = some o → h₂.get? b = some o := fun b o hb e => (hs₂.2 b (by simpa using hb)).trans e
        have F₂ := fr_but F' b₂ (Ne.symm hIL.symm) hI₀
        have N₂ : News h₀ L h₂ ((D, if i = 0 then set0 w else set1 w 1) :: news) := news_but N' b₂ fun p hp => by
          rcases List.mem_cons.mp hp with rfl | hp
          · exact Ne.symm ID
          · exact (lo _ (offN p hp)).1
        refine wpAny_assign_Name (wpAny_storeName_local (lookup_relabel_local hx) (hn'.at' fun o e => b₂ C o (by simpa using Ne.symm IC) e) (fun h₃ hn₃ hs₃ => ?_) (by simp [compEnvC, relabel, hkind]))
        refine hideG fun G9 b9 => ?_
        obtain ⟨oI, heI, rI⟩ := hit₂
        refine b9 ?_
        clear b9 G9
        have heI₃ : h₃.get? I = some oI := hs₃.extBut I _ IC heI
        refine hideG fun G9 b9 => ?_
        obtain ⟨oC, heC, hoC⟩ := ns_obj hn₃
        refine b9 ?_
        clear b9 G9
        have F₃ : Fr h₀ L h₃ m := F₂.change hs₃ hCL hC₀
        have N₃ : News h₀ L h₃ ((I, oI) :: (C, oC) :: (D, if i = 0 then set0 w else set1 w 1) :: news) := fun p hp => by
          rcases List.mem_cons.mp hp with rfl | hp
          · exact ⟨heI₃, Ne.symm hIL, hI₀⟩
          · rcases List.mem_cons.mp hp with rfl | hp
            · exact ⟨heC, hCL, hC₀⟩
            · have z := N₂ p hp
              refine ⟨hs₃.extBut _ _ ?_ z.1, z.2⟩
              rcases List.mem_cons.mp hp with rfl | hp
              · exact DC
              · exact (lo _ (offN p hp)).2.2
        refine wpAny_mono (turn i its[i] I oI C oC D _ _ h₃ _ _ (by simp [hlt']) hoC (by simp) F₃ N₃ off₀ ⟨IC, ID, Ne.symm DC⟩) (fun y s₄ h₄ => ?_) fun _ _ e => e
        refine hideG fun G9 b9 => ?_
        obtain ⟨e95, h₄, tk₄, e96, F₄, N₄⟩ := h₄
        refine b9 ?_
        clear b9 G9
        subst e95
        subst e96
        have zI := (N₄ (I, oI) List.mem_cons_self).1
        have zC := (N₄ (C, oC) (List.mem_cons_of_mem _ List.mem_cons_self)).1
        have zD := (N₄ (D, _) (List.mem_cons_of_mem _ (List.mem_cons_of_mem _ List.mem_cons_self))).1
        have N₄' : News h₀ L h₄ news := fun p hp => N₄ p (List.mem_cons_of_mem _ (List.mem_cons_of_mem _ (List.mem_cons_of_mem _ hp)))
        by_cases h0 : i = 0
        · rw [if_pos h0] at zD
          refine add_none zD fun h₅ hs₅ hD₅ => ?_
          refine ⟨its.size + 1 - (i + 1), by omega, h₅, _, i + 1, _, rfl, hlt', rfl, ⟨oI, (hs₅.2 I ID).trans zI, rI⟩, F₄.change hs₅ hDL hD₀, (hoC.ns zC).sameBut hs₅ (Ne.symm DC), fun p hp => ?_⟩
          rcases List.mem_cons.mp hp with rfl | hp
          · exact ⟨hD₅, hDL, hD₀⟩
          · exact ⟨hs₅.extBut _ _ (lo _ (offN p hp)).2.1 (N₄' p hp).1, (N₄' p hp).2⟩
        · rw [if_neg h0] at zD
          refine add_one zD ?_
          refine ⟨its.size + 1 - (i + 1), by omega, h₄, _, i + 1, _, rfl, hlt', rfl, ⟨oI, zI, rI⟩, F₄, hoC.ns zC, fun p hp => ?_⟩
          rcases List.mem_cons.mp hp with rfl | hp
          · exact ⟨zD, hDL, hD₀⟩
          · exact N₄' p hp
      · obtain rfl : i = its.size := Nat.le_antisymm hi (Nat.not_lt.mp hlt')
        refine wpAny_pyNext_tuple_end hh hit htup (by simp) fun h₂ he₂ => ?_
        have b₂ : ∀ b o, b ∉ [I] → h'.get? b = some o → h₂.get? b = some o := fun b o hb e => he₂ b o (by simpa using hb) e
        rw [if_neg (by omega)] at N'
        have N₂ : News h₀ L h₂ ((D, set1 w 1) :: news) := news_but N' b₂ fun p hp => by
          rcases List.mem_cons.mp hp with rfl | hp
          · exact Ne.symm ID
          · exact (lo _ (offN p hp)).1
        have F₂ := fr_but F' b₂ (Ne.symm hIL.symm) hI₀
        refine ⟨m', hn'.at' fun o e => b₂ C o (by simpa using Ne.symm IC) e, fun h'' hs'' => fin D h'' tk (F₂.change hs'' hCL hC₀) (fun p hp => ?_) (Off3.one off₀)⟩
        refine ⟨hs''.extBut _ _ ?_ (N₂ p hp).1, (N₂ p hp).2⟩
        rcases List.mem_cons.mp hp with rfl | hp
        · exact DC
        · exact (lo _ (offN p hp)).2.2
    · rcases List.mem_cons.mp hp with rfl | hp
      · exact ⟨hD0, hDL, hD₀⟩
      · exact ⟨old _ _ (N p hp).1, (N p hp).2⟩
  exact setStart (loop _ rfl) (wpAny_pyIter_tupleiter hIt (loop _ rfl))
end
section
variable {prog : Program} {w : World} {A : Around} {E : Value → Shared → Prop} {s : Shared} {h₀ : Heap} {L : Addr} {m : Str → Option Value} {env : Env}
theorem unpackS_K {S : Addr} {n : Nat} {x : Str} {px : Pos} {x1} {pos : Pos} {news : List (Addr × Obj)} {Q : Unit → Shared → Prop} (F : Fr h₀ L s.heap m) (N : News h₀ L s.heap news) (hh : A.handled = none) (hm : (S, set1 w n) ∈ news)
    (h : ∀ h', Fr h₀ L h' m → News h₀ L h' news → wpAny (model prog w) A (assign (.Name x px) env (.bool true)) Q E { s with heap := h' }) :
    wpAny (model prog w) A (assign (.Tuple [.Name x px] x1 pos) env (.ref S)) Q E s := by
  rw [arm_assign_Tuple]
  refine wpAny_bind (wpAny_standAt ?_)
  show wpAny _ _ (unpack (.ref S) [(false, assign (.Name x px) env)]) _ _ _
  refine unpack_set (n := n) hh (N _ hm).1 fun h' he => ?_
  have st : ∀ b o, s.heap.get? b = some o → h'.get? b = some o := fun b o e => he b o (Nat.ne_of_lt (Heap.lt_size e)) e
  exact h h' (F.keeps st) (N.grown st)
theorem two_of {P : Str → Prop} {x y : Str} {t1 t2 : Tok} {i : Nat} {v : Value} (e : (#[Value.str x t1, Value.str y t2] : Array Value)[i]? = some v) (hx : P x) (hy : P y) : ∃ z t, v = .str z t ∧ P z := by
  match i, e with
  | 0, e => exact ⟨x, t1, (Option.some.inj e).symm, hx⟩
  | 1, e => exact ⟨y, t2, (Option.some.inj e).symm, hy⟩
  | i + 2, e => cases e
end
end
section
open PySem PySem.W PyProof.Rows PySem.Calls
set_option maxRecDepth 100000
open LCg LCt
section
variable {prog : Program} {w : World} {A : Around} {E : Value → Shared → Prop} {s : Shared} {h₀ : Heap} {L : Addr} {m : Str → Option Value} {env : Env}
/-- a test answers b and leaves all -/
noncomputable def FlatT (h₀ : Heap) (L : Addr) (m : Str → Option Value) (news : List (Addr × Obj)) (s₁ : Shared) (b : Bool) (ok : Bool) (s' : Shared) : Prop :=
  ok = b ∧ ∃ h' tk', s' = { s₁ with heap := h', toks := tk' } ∧ Fr h₀ L h' m ∧ News h₀ L h' news
theorem FlatT.intro {news : List (Addr × Obj)} {s₁ : Shared} {b ok : Bool} {h' : Heap} {tk' : Nat} (F : Fr h₀ L h' m) (N : News h₀ L h' news) (hb : ok = b) :
    FlatT h₀ L m news s₁ b ok { s₁ with heap := h', toks := tk' } := ⟨hb, h', tk', rfl, F, N⟩
theorem restT {x : Str} {px : Pos} {ct : Expr} {scope : Scope} {cl : List (Str × Addr)} {S : List (Addr × Obj) → Prop} {its : Array Value} {news : List (Addr × Obj)} {Fin : List Value → List (Addr × Obj) → Prop} (keep : Value → Bool)
    (hS : S news) (hkind : scope.kind = .function) (hx : scope.names.lookup x = some .local) (hd : (x == ("__debug__" : Str)) = false)
    (turn : ∀ v I oI C oC D oD m₂ h tk (E' : Value → Shared → Prop), v ∈ its.toList → NsObj oC m₂ → m₂ x = some v → Fr h₀ L h m → News h₀ L h ((I, oI) :: (C, oC) :: (D, oD) :: news) → Off3 I C D news → ((@Ne Nat I C) ∧ (@Ne Nat I D) ∧ (@Ne Nat C D)) →
      wpAny (model prog w) A (isTrue ct (compEnvC scope cl C env) (eval ct (compEnvC scope cl C env))) (FlatT h₀ L m ((I, oI) :: (C, oC) :: (D, oD) :: news) { s with heap := h, toks := tk } (keep v)) E' { s with heap := h, toks := tk })
    (fin : Fin (its.toList.filter keep) news) :
    CompRestT prog w A h₀ L m env ct (.Name x px) x scope cl s S (fun i v => its[i]? = some v) Fin its.size 0 [] news := by
  suffices H : ∀ k i ys, i + k = its.size → ys = (its.toList.take i).filter keep → CompRestT prog w A h₀ L m env ct (.Name x px) x scope cl s S (fun i v => its[i]? = some v) Fin k i ys news from
    H its.size 0 [] (Nat.zero_add _) (by simp)
  intro k
  induction k with
  | zero =>
    intro i ys hi hy
    refine CompRestT.zero ?_
    rw [hy, List.take_of_length_le (by rw [Array.length_toList]; omega)]
    exact fin
  | succ k ih =>
    intro i ys hi hy
    refine CompRestT.succ fun v I oI C oC D m₂ h tk E' hv hC hm F N off ne => ?_
    have hlt : i < its.toList.length := by rw [Array.length_toList]; omega
    have hv' : its.toList[i]? = some v := by rw [Array.getElem?_toList]; exact hv
    have hget : its.toList[i] = v := by rw [List.getElem?_eq_getElem hlt] at hv'; exact Option.some.inj hv'
    have tk1 : its.toList.take (i + 1) = its.toList.take i ++ [v] := by rw [List.take_succ_eq_append_getElem hlt, hget]
    refine wpAny_mono (turn v I oI C oC D _ m₂ h tk E' (hget ▸ List.getElem_mem hlt) hC hm F N off ne) (fun ok s' h' => ?_) fun _ _ e => e
    obtain ⟨rfl, h2, tk2, rfl, F2, N2⟩ := h'
    by_cases hk : keep v = true
    · rw [if_pos hk]
      refine LCgL.ld_own N2 (.tail _ (.head _)) hC hm ?_ (by simp [compEnvC, relabel, hkind]) (lookup_relabel_local hx) hd
      refine CompEnd.intro F2 N2 news (fun p hp => hp) off hS (ih (i + 1) _ (by omega) ?_)
      rw [tk1, List.filter_append, hy]
      simp [hk]
    · rw [if_neg hk]
      refine CompEnd.intro F2 N2 news (fun p hp => hp) off hS (ih (i + 1) _ (by omega) ?_)
      rw [tk1, List.filter_append, hy]
      simp [hk]
theorem strs_filter (l : List (Str × Tok)) (keep : Str → Bool) (kv : Value → Bool) (hk : ∀ x t, kv (.str x t) = keep x) : (strValues l).filter kv = strValues (l.filter fun p => keep p.1) := by
  induction l with
  | nil => rfl
  | cons p l ih =>
    obtain ⟨x, t⟩ := p
    show List.filter kv (.str x t :: strValues l) = _
    rw [List.filter_cons, List.filter_cons, hk, ih]
    cases keep x <;> rfl
/-- on texts -/
noncomputable def onStr (keep : Str → Bool) : Value → Bool
  | .str x _ => keep x
  | _ => false
theorem restT_strs {x : Str} {px : Pos} {ct : Expr} {scope : Scope} {cl : List (Str × Addr)} {S : List (Addr × Obj) → Prop} {l : List (Str × Tok)} {news : List (Addr × Obj)} {Fin : List Value → List (Addr × Obj) → Prop} (keep : Str → Bool)
    (hS : S news) (hkind : scope.kind = .function) (hx : scope.names.lookup x = some .local) (hd : (x == ("__debug__" : Str)) = false)
    (turn : ∀ z tz I oI C oC D oD m₂ h tk (E' : Value → Shared → Prop), (z, tz) ∈ l → NsObj oC m₂ → m₂ x = some (.str z tz) → Fr h₀ L h m → News h₀ L h ((I, oI) :: (C, oC) :: (D, oD) :: news) → Off3 I C D news → ((@Ne Nat I C) ∧ (@Ne Nat I D) ∧ (@Ne Nat C D)) →
      wpAny (model prog w) A (isTrue ct (compEnvC scope cl C env) (eval ct (compEnvC scope cl C env))) (FlatT h₀ L m ((I, oI) :: (C, oC) :: (D, oD) :: news) { s with heap := h, toks := tk } (keep z)) E' { s with heap := h, toks := tk })
    (fin : Fin (strValues (l.filter fun p => keep p.1)) news) :
    CompRestT prog w A h₀ L m env ct (.Name x px) x scope cl s S (fun i v => (strValues l).toArray[i]? = some v) Fin (strValues l).toArray.size 0 [] news := by
  refine restT (onStr keep) hS hkind hx hd (fun v I oI C oC D oD m₂ h tk E' hv hC hm F N off ne => ?_) ?_
  · have hv' : v ∈ strValues l := by simpa using hv
    obtain ⟨p, hp, rfl⟩ := List.mem_map.mp hv'
    exact turn p.1 p.2 I oI C oC D oD m₂ h tk E' hp hC hm F N off ne
  · have e : (strValues l).toArray.toList.filter (onStr keep) = strValues (l.filter fun p => keep p.1) := by
      simpa using strs_filter l keep (onStr keep) fun _ _ => rfl
    rw [e]; exact fin
end
theorem strs_size {l : List (Str × Tok)} (h : l.length ≤ 10000) : (strValues l).toArray.size ≤ sizeLine := by
  rw [List.size_toArray, strValues, List.length_map, PySem.sizeLine_eq]; omega
theorem mem_len {l : List (Str × Tok)} {xs : List Str} {z : Str} {t : Tok} (hv : (z, t) ∈ l) (e : l.map (·.1) = xs) (hs : ∀ z ∈ xs, z.length ≤ 1000) : z.length ≤ 1000 := hs z (e ▸ List.mem_map_of_mem (f := (·.1)) hv)
end
section
open PySem PySem.W PyProof.Rows PySem.Calls
set_option maxRecDepth 100000
noncomputable def ltS (x y : Str) : Bool := decide (x.cps.toList < y.cps.toList)
noncomputable def lexLt : List Str → List Str → Bool
  | x :: xs, y :: ys => if x = y then lexLt xs ys else ltS x y
  | xs, ys => decide (xs.length < ys.length)
noncomputable def lexGt : List Str → List Str → Bool
  | x :: xs, y :: ys => if x = y then lexGt xs ys else ltS y x
  | xs, ys => decide (xs.length > ys.length)
section
variable {prog : Program} {w : World} {A : Around} {E : Value → Shared → Prop} {s : Shared}
theorem rich_lt {x y : Str} {t u : Tok} {Q : Value → Shared → Prop} (h : Q (.bool (ltS x y)) s) : wpAny (model prog w) A (richCompare .Lt (.str x t) (.str y u)) Q E s := by
  refine wpAny_richCompare_same_or (typeIs_str _ _ _) (typeIs_str _ _ _) F.slot_str_lt (wpAny_call_entry F.slot_str_lt (typeIs_str _ _ _) F.entry_str_lt ?_ (F.args_str_lt_2 _ _)) (.inl rfl)
  show wpAny _ _ (ret (.bool (ltS x y))) _ _ _
  exact wpAny_pure ⟨_, rfl, (fun e => by cases e), h⟩
theorem rich_gt {x y : Str} {t u : Tok} {Q : Value → Shared → Prop} (h : Q (.bool (ltS y x)) s) : wpAny (model prog w) A (richCompare .Gt (.str x t) (.str y u)) Q E s := by
  refine wpAny_richCompare_same_or (typeIs_str _ _ _) (typeIs_str _ _ _) F.slot_str_gt (wpAny_call_entry F.slot_str_gt (typeIs_str _ _ _) F.entry_str_gt ?_ (F.args_str_gt_2 _ _)) (.inl rfl)
  show wpAny _ _ (ret (.bool (ltS y x))) _ _ _
  exact wpAny_pure ⟨_, rfl, (fun e => by cases e), h⟩
theorem plain_leq : plainId "list.__eq__.loop" = true := by decide +kernel
theorem entry_leq : entryFor table "list.__eq__.loop" = some Builtin.«list.__eq__.loop» := entryFor_of_fast (by kernel_rfl)
theorem slot_list_gt : Slot "list" (cmpInfo .Gt).2.1 "list.__gt__" :=
  .of (owner := "list") (n := "__gt__") (by rw [typeLookup_type, builtinLookup_eq_fast]; kernel_rfl) (by decide +kernel) (by decide +kernel) (by decide +kernel)
    (by first | exact .inl (by decide +kernel) | exact .inr (by decide +kernel)) (by rw [isSubtype_type]; kernel_rfl)
theorem entry_list_gt : entryFor table "list.__gt__" = some Builtin.«list.__gt__» := entryFor_of_fast (by kernel_rfl)
theorem args_list_gt (a b : Value) : argsOk "list.__gt__" ⟨[a, b], []⟩ := by unfold argsOk; kernel_rfl
theorem lex_lt {a b : Addr} {oa ob : Obj} {na nb : Nat} {xs ys : List (Str × Tok)} {R : Result → Shared → Prop}
    (ha : s.heap.get? a = some oa) (hda : oa.data = .seq (strValues xs).toArray na) (hb : s.heap.get? b = some ob) (hdb : ob.data = .seq (strValues ys).toArray nb) :
    ∀ (xs' ys' px py : List (Str × Tok)), xs = px ++ xs' → ys = py ++ ys' → px.length = py.length → R (.ok (.ret (.bool (lexLt (xs'.map (·.1)) (ys'.map (·.1)))))) s →
      codeAny (model prog w) A (.builtin "list.__eq__.loop" ⟨[.ref a, .ref b, .int (px.length : Nat) 0, .int 0 0], []⟩) R s := by
  have gx : ∀ i : Nat, (strValues xs).toArray[i]? = (xs[i]?).map fun p => Value.str p.1 p.2 := fun i => by simp [strValues]
  have gy : ∀ i : Nat, (strValues ys).toArray[i]? = (ys[i]?).map fun p => Value.str p.1 p.2 := fun i => by simp [strValues]
  have sx : (strValues xs).toArray.size = xs.length := by simp [strValues]
  have sy : (strValues ys).toArray.size = ys.length := by simp [strValues]
  intro xs'
  induction xs' with
  | nil =>
    intro ys' px py hx hy hl h
    refine codeAny_builtin entry_leq ?_
    rw [Around.under_plainId plain_leq _]
    show wpAny _ _ (Builtin.List.listItems (.ref a) >>= _) _ _ _
    refine wpAny_bind (wpAny_listItems ha hda ?_)
    refine wpAny_bind (wpAny_listItems hb hdb ?_)
    have e : ((px.length : Nat) : Int).toNat = px.length := rfl
    have hX : xs[px.length]? = none := List.getElem?_eq_none (by rw [hx, List.append_nil]; exact Nat.le_refl _)
    rw [e, gx, gy, hX]
    have fin : wpAny (model prog w) A.in1 (do
      let as ← Builtin.List.listItems (.ref a)
      let bs ← Builtin.List.listItems (.ref b)
      ret (.bool (decide (as.size < bs.size)))) (fun fin s' => match fin with | .done f => R (.ok f) s' | .again c' => c'.quiet = true ∧ codeAny (model prog w) A c' R s') (fun e s' => R (.error e) s') s := by
      refine wpAny_bind (wpAny_listItems ha hda ?_)
      refine wpAny_bind (wpAny_listItems hb hdb ?_)
      refine wpAny_pure ?_
      rw [sx, sy]
      have q : decide (xs.length < ys.length) = lexLt (List.map (·.1) ([] : List (Str × Tok))) (ys'.map (·.1)) := by
        rw [hx, hy, List.append_nil, List.length_append, hl]
        cases ys' with
        | nil => simp [lexLt]
        | cons q r => simp [lexLt]
      rw [q]; exact h
    cases ys[px.length]? <;> exact fin
  | cons p r ih =>
    intro ys' px py hx hy hl h
    refine codeAny_builtin entry_leq ?_
    rw [Around.under_plainId plain_leq _]
    show wpAny _ _ (Builtin.List.listItems (.ref a) >>= _) _ _ _
    refine wpAny_bind (wpAny_listItems ha hda ?_)
    refine wpAny_bind (wpAny_listItems hb hdb ?_)
    have e : ((px.length : Nat) : Int).toNat = px.length := rfl
    have hX : xs[px.length]? = some p := by rw [hx]; simp
    rw [e, gx, gy, hX]
    cases ys' with
    | nil =>
      have hY : ys[px.length]? = none := List.getElem?_eq_none (by rw [hy, List.append_nil, hl]; exact Nat.le_refl _)
      rw [hY]
      dsimp only [Option.map]
      refine wpAny_bind (wpAny_listItems ha hda ?_)
      refine wpAny_bind (wpAny_listItems hb hdb ?_)
      refine wpAny_pure ?_
      show R (.ok (.ret (.bool (decide ((strValues xs).toArray.size < (strValues ys).toArray.size))))) s
      rw [sx, sy]
      have q : decide (xs.length < ys.length) = lexLt (List.map (·.1) (p :: r)) (List.map (·.1) ([] : List (Str × Tok))) := by
        rw [hx, hy, List.append_nil, List.length_append, hl]
        simp [lexLt]
      rw [q]; exact h
    | cons q r' =>
      have hY : ys[px.length]? = some q := by rw [hy, hl]; simp
      rw [hY]
      dsimp only [Option.map]
      refine wpAny_bind (wpAny_eqBool_str ?_)
      by_cases hpq : p.1 = q.1
      · rw [if_pos (decide_eq_true hpq)]
        refine wpAny_pure ⟨plainId_quiet plain_leq _, ?_⟩
        have e2 : rawInt ((px.length : Int) + 1) = .int ((px ++ [p]).length : Nat) 0 := by rw [List.length_append]; rfl
        rw [e2]
        refine ih r' (px ++ [p]) (py ++ [q]) (by rw [hx]; simp) (by rw [hy]; simp) (by simp [hl]) ?_
        have q2 : lexLt (List.map (·.1) (p :: r)) (List.map (·.1) (q :: r')) = lexLt (List.map (·.1) r) (List.map (·.1) r') := by
          show (if p.1 = q.1 then _ else _) = _
          rw [if_pos hpq]
        rw [q2] at h; exact h
      · rw [if_neg (fun h => hpq (of_decide_eq_true h))]
        refine wpAny_bind (wpAny_listItems ha hda ?_)
        refine wpAny_bind (wpAny_listItems hb hdb ?_)
        rw [gx, gy, hX, hY]
        dsimp only [Option.map]
        refine wpAny_bind (rich_lt ?_)
        refine wpAny_pure ?_
        have q2 : lexLt (List.map (·.1) (p :: r)) (List.map (·.1) (q :: r')) = ltS p.1 q.1 := by
          show (if p.1 = q.1 then _ else _) = _
          rw [if_neg hpq]
        rw [q2] at h; exact h
theorem lex_gt {a b : Addr} {oa ob : Obj} {na nb : Nat} {xs ys : List (Str × Tok)} {R : Result → Shared → Prop}
    (ha : s.heap.get? a = some oa) (hda : oa.data = .seq (strValues xs).toArray na) (hb : s.heap.get? b = some ob) (hdb : ob.data = .seq (strValues ys).toArray nb) :
    ∀ (xs' ys' px py : List (Str × Tok)), xs = px ++ xs' → ys = py ++ ys' → px.length = py.length → R (.ok (.ret (.bool (lexGt (xs'.map (·.1)) (ys'.map (·.1)))))) s →
      codeAny (model prog w) A (.builtin "list.__eq__.loop" ⟨[.ref a, .ref b, .int (px.length : Nat) 0, .int 4 0], []⟩) R s := by
  have gx : ∀ i : Nat, (strValues xs).toArray[i]? = (xs[i]?).map fun p => Value.str p.1 p.2 := fun i => by simp [strValues]
  have gy : ∀ i : Nat, (strValues ys).toArray[i]? = (ys[i]?).map fun p => Value.str p.1 p.2 := fun i => by simp [strValues]
  have sx : (strValues xs).toArray.size = xs.length := by simp [strValues]
  have sy : (strValues ys).toArray.size = ys.length := by simp [strValues]
  intro xs'
  induction xs' with
  | nil =>
    intro ys' px py hx hy hl h
    refine codeAny_builtin entry_leq ?_
    rw [Around.under_plainId plain_leq _]
    show wpAny _ _ (Builtin.List.listItems (.ref a) >>= _) _ _ _
    refine wpAny_bind (wpAny_listItems ha hda ?_)
    refine wpAny_bind (wpAny_listItems hb hdb ?_)
    have e : ((px.length : Nat) : Int).toNat = px.length := rfl
    have hX : xs[px.length]? = none := List.getElem?_eq_none (by rw [hx, List.append_nil]; exact Nat.le_refl _)
    rw [e, gx, gy, hX]
    have fin : wpAny (model prog w) A.in1 (do
      let as ← Builtin.List.listItems (.ref a)
      let bs ← Builtin.List.listItems (.ref b)
      ret (.bool (decide (as.size > bs.size)))) (fun fin s' => match fin with | .done f => R (.ok f) s' | .again c' => c'.quiet = true ∧ codeAny (model prog w) A c' R s') (fun e s' => R (.error e) s') s := by
      refine wpAny_bind (wpAny_listItems ha hda ?_)
      refine wpAny_bind (wpAny_listItems hb hdb ?_)
      refine wpAny_pure ?_
      rw [sx, sy]
      have q : decide (xs.length > ys.length) = lexGt (List.map (·.1) ([] : List (Str × Tok))) (ys'.map (·.1)) := by
        rw [hx, hy, List.append_nil, List.length_append, hl]
        cases ys' with
        | nil => simp [lexGt]
        | cons q r => simp [lexGt]
      rw [q]; exact h
    cases ys[px.length]? <;> exact fin
  | cons p r ih =>
    intro ys' px py hx hy hl h
    refine codeAny_builtin entry_leq ?_
    rw [Around.under_plainId plain_leq _]
    show wpAny _ _ (Builtin.List.listItems (.ref a) >>= _) _ _ _
    refine wpAny_bind (wpAny_listItems ha hda ?_)
    refine wpAny_bind (wpAny_listItems hb hdb ?_)
    have e : ((px.length : Nat) : Int).toNat = px.length := rfl
    have hX : xs[px.length]? = some p := by rw [hx]; simp
    rw [e, gx, gy, hX]
    cases ys' with
    | nil =>
      have hY : ys[px.length]? = none := List.getElem?_eq_none (by rw [hy, List.append_nil, hl]; exact Nat.le_refl _)
      rw [hY]
      dsimp only [Option.map]
      refine wpAny_bind (wpAny_listItems ha hda ?_)
      refine wpAny_bind (wpAny_listItems hb hdb ?_)
      refine wpAny_pure ?_
      show R (.ok (.ret (.bool (decide ((strValues xs).toArray.size > (strValues ys).toArray.size))))) s
      rw [sx, sy]
      have q : decide (xs.length > ys.length) = lexGt (List.map (·.1) (p :: r)) (List.map (·.1) ([] : List (Str × Tok))) := by
        rw [hx, hy, List.append_nil, List.length_append, hl]
        simp [lexGt]
      rw [q]; exact h
    | cons q r' =>
      have hY : ys[px.length]? = some q := by rw [hy, hl]; simp
      rw [hY]
      dsimp only [Option.map]
      refine wpAny_bind (wpAny_eqBool_str ?_)
      by_cases hpq : p.1 = q.1
      · rw [if_pos (decide_eq_true hpq)]
        refine wpAny_pure ⟨plainId_quiet plain_leq _, ?_⟩
        have e2 : rawInt ((px.length : Int) + 1) = .int ((px ++ [p]).length : Nat) 0 := by rw [List.length_append]; rfl
        rw [e2]
        refine ih r' (px ++ [p]) (py ++ [q]) (by rw [hx]; simp) (by rw [hy]; simp) (by simp [hl]) ?_
        have q2 : lexGt (List.map (·.1) (p :: r)) (List.map (·.1) (q :: r')) = lexGt (List.map (·.1) r) (List.map (·.1) r') := by
          show (if p.1 = q.1 then _ else _) = _
          rw [if_pos hpq]
        rw [q2] at h; exact h
      · rw [if_neg (fun h => hpq (of_decide_eq_true h))]
        refine wpAny_bind (wpAny_listItems ha hda ?_)
        refine wpAny_bind (wpAny_listItems hb hdb ?_)
        rw [gx, gy, hX, hY]
        dsimp only [Option.map]
        refine wpAny_bind (rich_gt ?_)
        refine wpAny_pure ?_
        have q2 : lexGt (List.map (·.1) (p :: r)) (List.map (·.1) (q :: r')) = ltS q.1 p.1 := by
          show (if p.1 = q.1 then _ else _) = _
          rw [if_neg hpq]
        rw [q2] at h; exact h
theorem call_slot_any {T : String} {name : Str} {id : String} {b : Builtin} {self : Value} {rest : List Value} {Q : Value → Shared → Prop} (h : Slot T name id) (hT : s.TypeIs self T)
    (hb : entryFor table id = some b)
    (hc : wpAny (model prog w) A.in1 (b ⟨self :: rest, []⟩) (fun fin s' => match fin with
      | .done f => (match (Except.ok f : Result) with | .ok (.ret v) => Q v s' | .ok _ => False | .error e => E e s')
      | .again c' => c'.quiet = true ∧ codeAny (model prog w) A c' (fun r s' => match r with | .ok (.ret v) => Q v s' | .ok _ => False | .error e => E e s') s') E s)
    (ha : argsOk id ⟨self :: rest, []⟩) :
    wpAny (model prog w) A (call (.builtin id) (self :: rest)) Q E s := by
  refine wpAny_call (codeAny_call_builtin h.plain hb (h.check _ _ _ _ _ _ _ _ hT ha (wpAny_mono hc (fun fin s' h' => ?_) fun _ _ h' => h')))
  cases fin with
  | done f => cases f <;> exact h'
  | again c => exact h'
theorem isi_list : isSubtype (.type "list") (.type "list") = pure true := by rw [isSubtype_type]; kernel_rfl
theorem rich_list_lt {a b : Addr} {oa ob : Obj} {na nb : Nat} {xs ys : List (Str × Tok)} {Q : Value → Shared → Prop} (hu : A.units < cLine)
    (ha : s.heap.get? a = some oa) (hca : oa.cls = .type "list") (hda : oa.data = .seq (strValues xs).toArray na) (hb : s.heap.get? b = some ob) (hcb : ob.cls = .type "list") (hdb : ob.data = .seq (strValues ys).toArray nb)
    (h : Q (.bool (lexLt (xs.map (·.1)) (ys.map (·.1)))) s) : wpAny (model prog w) A (richCompare .Lt (.ref a) (.ref b)) Q E s := by
  have hTa : s.TypeIs (.ref a) "list" := ⟨_, ha, hca⟩
  have hTb : s.TypeIs (.ref b) "list" := ⟨_, hb, hcb⟩
  refine wpAny_richCompare_same_or hTa hTb F.slot_list_lt (call_slot_any F.slot_list_lt hTa F.entry_list_lt ?_ (F.args_list_lt_2 _ _)) (.inr hu)
  show wpAny _ _ (isInstance (.ref b) (.type "list") >>= _) _ _ _
  refine wpAny_bind (wpAny_isInstance (T := "list") (b := true) hTb isi_list ?_)
  refine wpAny_pure ⟨plainId_quiet plain_leq _, ?_⟩
  exact lex_lt ha hda hb hdb xs ys [] [] rfl rfl rfl ⟨(fun e => by cases e), h⟩
theorem args_list_gt2 (a b : Value) : argsOk "list.__gt__" ⟨[a, b], []⟩ := args_list_gt a b
theorem rich_list_gt {a b : Addr} {oa ob : Obj} {na nb : Nat} {xs ys : List (Str × Tok)} {Q : Value → Shared → Prop} (hu : A.units < cLine)
    (ha : s.heap.get? a = some oa) (hca : oa.cls = .type "list") (hda : oa.data = .seq (strValues xs).toArray na) (hb : s.heap.get? b = some ob) (hcb : ob.cls = .type "list") (hdb : ob.data = .seq (strValues ys).toArray nb)
    (h : Q (.bool (lexGt (xs.map (·.1)) (ys.map (·.1)))) s) : wpAny (model prog w) A (richCompare .Gt (.ref a) (.ref b)) Q E s := by
  have hTa : s.TypeIs (.ref a) "list" := ⟨_, ha, hca⟩
  have hTb : s.TypeIs (.ref b) "list" := ⟨_, hb, hcb⟩
  refine wpAny_richCompare_same_or hTa hTb slot_list_gt (call_slot_any slot_list_gt hTa entry_list_gt ?_ (args_list_gt _ _)) (.inr hu)
  show wpAny _ _ (isInstance (.ref b) (.type "list") >>= _) _ _ _
  refine wpAny_bind (wpAny_isInstance (T := "list") (b := true) hTb isi_list ?_)
  refine wpAny_pure ⟨plainId_quiet plain_leq _, ?_⟩
  exact lex_gt ha hda hb hdb xs ys [] [] rfl rfl rfl ⟨(fun e => by cases e), h⟩
/-- of two: the first but where the second is before it -/
theorem min_two {D : Addr} {v1 v2 : Value} {b : Bool} {Q : Value → Shared → Prop} (hh : A.handled = none) (hD : s.heap.IsList D #[v1, v2])
    (hcmp : ∀ (s' : Shared) (Q' : Value → Shared → Prop) (E' : Value → Shared → Prop), (∀ a o, s.heap.get? a = some o → s'.heap.get? a = some o) → Q' (.bool b) s' → wpAny (model prog w) A.in1 (richCompare .Lt v2 v1) Q' E' s')
    (h : ∀ h' tk, (∀ a o, s.heap.get? a = some o → h'.get? a = some o) → Q (if b = true then v2 else v1) { s with heap := h', toks := tk }) : wpAny (model prog w) A (call (.builtin "min") [.ref D]) Q E s := by
  have hname : (toString "min" ++ toString ".loop" : String) = "min.loop" := by decide
  refine call_function_tree F.kind_min F.plain_min F.entry_min (F.args_min1 _) ?_
  show wpAny _ A.in1 (Builtin.Builtins.bindParams "min" ["key", "default"] 0 ⟨[], []⟩ >>= _) _ _ s
  refine wpAny_bind (wpAny_of_eq (show Builtin.Builtins.bindParams "min" ["key", "default"] 0 ⟨[], []⟩ = pure [none, none] from rfl) ?_)
  refine wpAny_bind (wpAny_pure ?_)
  refine wpAny_bind (wpAny_pyIter_list hD ?_)
  have lt : ∀ {b o}, s.heap.get? b = some o → b < s.heap.objs.size := fun e => Heap.lt_size e
  have hDlt : D < s.heap.objs.size := by obtain ⟨_, e, _⟩ := hD; exact lt e
  refine wpAny_bind (wpAny_newObj_type ?_)
  rw [hname]
  generalize hI : s.heap.objs.size = I at *
  generalize hH1 : s.heap.push { cls := .type "list_iterator", data := .fields #[.ref D, .int 0 0] } = H1 at *
  have z1 : H1.objs.size = I + 1 := by rw [← hH1, Heap.size_push, hI]
  generalize hH2 : H1.push { cls := .type "list", data := .seq ([] : List Value).toArray } = H2 at *
  have W := Walks.list (prog := prog) (w := w) (A := A.in1) hh I D (Nat.ne_of_lt hDlt) #[v1, v2]
  have up : ∀ a o, s.heap.get? a = some o → H2.get? a = some o := fun a o e => hH2 ▸ Heap.get?_push_of_some _ (hH1 ▸ Heap.get?_push_of_some _ e)
  have gS : H2.get? (I + 1) = some { cls := .type "list", data := .seq ([] : List Value).toArray } := by rw [← hH2, ← z1]; exact Heap.get?_push_size _ rfl
  have gI : H2.IsListIter I D 0 := ⟨_, hH2 ▸ Heap.get?_push_of_some _ (hH1 ▸ hI ▸ Heap.get?_push_size _ rfl), rfl, rfl⟩
  have SI : I + 1 ∉ [I] := by simp
  have notI : ∀ {a o}, s.heap.get? a = some o → a ∉ [I] := fun e hm => by rw [List.mem_singleton.mp hm] at e; exact Nat.lt_irrefl _ (lt e)
  have notS : ∀ {a o}, s.heap.get? a = some o → I + 1 ≠ a := fun e q => absurd (lt e) (by rw [← q]; exact Nat.not_lt.mpr (Nat.le_succ _))
  have fpS : ∀ b, b ∈ [I, D] → I + 1 ≠ b := fun b hb q => by
    rcases List.mem_cons.mp hb with e | hb
    · exact absurd (q.trans e) (Nat.succ_ne_self I)
    · exact absurd hDlt (by rw [← List.mem_singleton.mp hb, ← q]; exact Nat.not_lt.mpr (Nat.le_succ _))
  rw [z1]
  refine wpAny_pure ⟨plainId_quiet F.plain_min_loop _, ?_⟩
  -- the first
  refine codeAny_builtin F.entry_min_loop ?_
  rw [Around.under_plainId F.plain_min_loop _]
  show wpAny _ A.in1 (seqItems? (.ref (I + 1)) >>= _) _ _ _
  refine wpAny_bind (wpAny_seqItems (s := ⟨H2, s.gens, s.drawn, s.toks, s.os⟩) gS rfl ?_)
  show wpAny _ A.in1 (tryCatch (pyNext (.ref I)) _ >>= _) _ _ _
  refine wpAny_bind (wpAny_tryCatch (W.item 0 _ _ _ (by decide : 0 < 2) ⟨gI, hD.at fun o e => up _ _ e⟩ fun v h3 tk3 hv st3 k3 => ?_))
  obtain rfl : v1 = v := Option.some.inj hv
  have gS3 := k3 _ _ SI gS
  show wpAny _ A.in1 (updateSeq (I + 1) (fun _ => #[v1, v1]) >>= _) _ _ _
  refine wpAny_bind ?_
  refine wpAny_updateSeq (s := ⟨h3, s.gens, s.drawn, tk3, s.os⟩) gS3 rfl ?_
  rw [hname]
  have gS4 := Heap.get?_update_self (Obj.mapSeq (fun _ => #[v1, v1])) gS3 rfl
  generalize hH4 : h3.update (I + 1) (Obj.mapSeq (fun _ => #[v1, v1])) = h4 at *
  have k4 : ∀ b o, I + 1 ≠ b → h3.get? b = some o → h4.get? b = some o := fun b o hb e => hH4 ▸ (Heap.get?_update_other _ _ hb).trans e
  have up4 : ∀ a o, s.heap.get? a = some o → h4.get? a = some o := fun a o e => k4 _ _ (notS e) (k3 _ _ (notI e) (up _ _ e))
  refine wpAny_pure ⟨plainId_quiet F.plain_min_loop _, ?_⟩
  -- the second
  refine codeAny_builtin F.entry_min_loop ?_
  rw [Around.under_plainId F.plain_min_loop _]
  show wpAny _ A.in1 (seqItems? (.ref (I + 1)) >>= _) _ _ _
  refine wpAny_bind (wpAny_seqItems (s := ⟨h4, s.gens, s.drawn, tk3, s.os⟩) gS4 rfl ?_)
  show wpAny _ A.in1 (tryCatch (pyNext (.ref I)) _ >>= _) _ _ _
  refine wpAny_bind (wpAny_tryCatch (W.item 1 ⟨h4, s.gens, s.drawn, tk3, s.os⟩ _ _ (by decide : 1 < 2) (W.frame _ _ _ st3 fun b hb o e => k4 b o (fpS b hb) e) fun v h5 tk5 hv st5 k5 => ?_))
  obtain rfl : v2 = v := Option.some.inj hv
  have gS5 := k5 _ _ SI gS4
  have up5 : ∀ a o, s.heap.get? a = some o → h5.get? a = some o := fun a o e => k5 _ _ (notI e) (up4 _ _ e)
  show wpAny _ A.in1 (tryCatch (holding [v2, v2] (richCompare .Lt v2 v1 >>= _)) _ >>= _) _ _ _
  refine wpAny_bind (wpAny_tryCatch (wpAny_holding (wpAny_bind (hcmp ⟨h5, s.gens, s.drawn, tk5, s.os⟩ _ _ up5 ?_))))
  refine wpAny_bind (wpAny_holding (wpAny_truthy_bool ?_))
  refine wpAny_bind (wpAny_letGo (wpAny_pure ?_))
  -- the end
  have last : ∀ (vb : Value) (h6 : Heap) (c : Nat), (∀ b o, I + 1 ≠ b → h5.get? b = some o → h6.get? b = some o) → h6.get? (I + 1) = some { cls := .type "list", dict := none, data := .seq #[vb, vb] c, slots := #[] } →
      (∀ h' tk, (∀ a o, s.heap.get? a = some o → h'.get? a = some o) → Q vb { s with heap := h', toks := tk }) →
      codeAny (model prog w) A (.builtin "min.loop" ⟨[.ref I, .none, .ref (I + 1)], []⟩) (fun r s' => match r with | .ok (.ret v) => Q v s' | .ok _ => False | .error e => E e s') ⟨h6, s.gens, s.drawn, tk5, s.os⟩ := by
    intro vb h6 c k6 gS6 hq
    refine codeAny_builtin F.entry_min_loop ?_
    rw [Around.under_plainId F.plain_min_loop _]
    show wpAny _ A.in1 (seqItems? (.ref (I + 1)) >>= _) _ _ _
    refine wpAny_bind (wpAny_seqItems (s := ⟨h6, s.gens, s.drawn, tk5, s.os⟩) gS6 rfl ?_)
    show wpAny _ A.in1 (tryCatch (pyNext (.ref I)) _ >>= _) _ _ _
    refine wpAny_bind (wpAny_tryCatch (W.done ⟨h6, s.gens, s.drawn, tk5, s.os⟩ _ _ (W.frame _ _ _ st5 fun b hb o e => k6 b o (fpS b hb) e) fun h7 tk7 k7 => ?_))
    have gS7 := k7 _ _ SI gS6
    show wpAny _ A.in1 (updateSeq (I + 1) (fun _ => #[]) >>= _) _ _ _
    refine wpAny_bind ?_
    refine wpAny_updateSeq (s := ⟨h7, s.gens, s.drawn, tk7, s.os⟩) gS7 rfl (wpAny_bind (wpAny_letGo (wpAny_pure ?_)))
    exact hq _ _ fun a o e => (Heap.get?_update_other _ _ (notS e)).trans (k7 _ _ (notI e) (k6 _ _ (notS e) (up5 _ _ e)))
  cases b with
  | true =>
    simp only [if_true]
    refine wpAny_bind ?_
    refine wpAny_updateSeq (s := ⟨h5, s.gens, s.drawn, tk5, s.os⟩) gS5 rfl (wpAny_bind (wpAny_letGo ?_))
    rw [hname]
    refine wpAny_pure ⟨plainId_quiet F.plain_min_loop _, last v2 _ _ (fun b o hb e => (Heap.get?_update_other _ _ hb).trans e) (Heap.get?_update_self _ gS5 rfl) fun h' tk k => ?_⟩
    exact h h' tk k
  | false =>
    simp only [Bool.false_eq_true, if_false]
    refine wpAny_bind (wpAny_letGo ?_)
    rw [hname]
    refine wpAny_pure ⟨plainId_quiet F.plain_min_loop _, last v1 h5 _ (fun b o hb e => e) gS5 fun h' tk k => ?_⟩
    exact h h' tk k
/-- of two: the first but where the second is before it -/
theorem max_two {D : Addr} {v1 v2 : Value} {b : Bool} {Q : Value → Shared → Prop} (hh : A.handled = none) (hD : s.heap.IsList D #[v1, v2])
    (hcmp : ∀ (s' : Shared) (Q' : Value → Shared → Prop) (E' : Value → Shared → Prop), (∀ a o, s.heap.get? a = some o → s'.heap.get? a = some o) → Q' (.bool b) s' → wpAny (model prog w) A.in1 (richCompare .Gt v2 v1) Q' E' s')
    (h : ∀ h' tk, (∀ a o, s.heap.get? a = some o → h'.get? a = some o) → Q (if b = true then v2 else v1) { s with heap := h', toks := tk }) : wpAny (model prog w) A (call (.builtin "max") [.ref D]) Q E s := by
  have hname : (toString "max" ++ toString ".loop" : String) = "max.loop" := by decide
  refine call_function_tree F.kind_max F.plain_max F.entry_max (F.args_max1 _) ?_
  show wpAny _ A.in1 (Builtin.Builtins.bindParams "max" ["key", "default"] 0 ⟨[], []⟩ >>= _) _ _ s
  refine wpAny_bind (wpAny_of_eq (show Builtin.Builtins.bindParams "max" ["key", "default"] 0 ⟨[], []⟩ = pure [none, none] from rfl) ?_)
  refine wpAny_bind (wpAny_pure ?_)
  refine wpAny_bind (wpAny_pyIter_list hD ?_)
  have lt : ∀ {b o}, s.heap.get? b = some o → b < s.heap.objs.size := fun e => Heap.lt_size e
  have hDlt : D < s.heap.objs.size := by obtain ⟨_, e, _⟩ := hD; exact lt e
  refine wpAny_bind (wpAny_newObj_type ?_)
  rw [hname]
  generalize hI : s.heap.objs.size = I at *
  generalize hH1 : s.heap.push { cls := .type "list_iterator", data := .fields #[.ref D, .int 0 0] } = H1 at *
  have z1 : H1.objs.size = I + 1 := by rw [← hH1, Heap.size_push, hI]
  generalize hH2 : H1.push { cls := .type "list", data := .seq ([] : List Value).toArray } = H2 at *
  have W := Walks.list (prog := prog) (w := w) (A := A.in1) hh I D (Nat.ne_of_lt hDlt) #[v1, v2]
  have up : ∀ a o, s.heap.get? a = some o → H2.get? a = some o := fun a o e => hH2 ▸ Heap.get?_push_of_some _ (hH1 ▸ Heap.get?_push_of_some _ e)
  have gS : H2.get? (I + 1) = some { cls := .type "list", data := .seq ([] : List Value).toArray } := by rw [← hH2, ← z1]; exact Heap.get?_push_size _ rfl
  have gI : H2.IsListIter I D 0 := ⟨_, hH2 ▸ Heap.get?_push_of_some _ (hH1 ▸ hI ▸ Heap.get?_push_size _ rfl), rfl, rfl⟩
  have SI : I + 1 ∉ [I] := by simp
  have notI : ∀ {a o}, s.heap.get? a = some o → a ∉ [I] := fun e hm => by rw [List.mem_singleton.mp hm] at e; exact Nat.lt_irrefl _ (lt e)
  have notS : ∀ {a o}, s.heap.get? a = some o → I + 1 ≠ a := fun e q => absurd (lt e) (by rw [← q]; exact Nat.not_lt.mpr (Nat.le_succ _))
  have fpS : ∀ b, b ∈ [I, D] → I + 1 ≠ b := fun b hb q => by
    rcases List.mem_cons.mp hb with e | hb
    · exact absurd (q.trans e) (Nat.succ_ne_self I)
    · exact absurd hDlt (by rw [← List.mem_singleton.mp hb, ← q]; exact Nat.not_lt.mpr (Nat.le_succ _))
  rw [z1]
  refine wpAny_pure ⟨plainId_quiet F.plain_max_loop _, ?_⟩
  -- the first
  refine codeAny_builtin F.entry_max_loop ?_
  rw [Around.under_plainId F.plain_max_loop _]
  show wpAny _ A.in1 (seqItems? (.ref (I + 1)) >>= _) _ _ _
  refine wpAny_bind (wpAny_seqItems (s := ⟨H2, s.gens, s.drawn, s.toks, s.os⟩) gS rfl ?_)
  show wpAny _ A.in1 (tryCatch (pyNext (.ref I)) _ >>= _) _ _ _
  refine wpAny_bind (wpAny_tryCatch (W.item 0 _ _ _ (by decide : 0 < 2) ⟨gI, hD.at fun o e => up _ _ e⟩ fun v h3 tk3 hv st3 k3 => ?_))
  obtain rfl : v1 = v := Option.some.inj hv
  have gS3 := k3 _ _ SI gS
  show wpAny _ A.in1 (updateSeq (I + 1) (fun _ => #[v1, v1]) >>= _) _ _ _
  refine wpAny_bind ?_
  refine wpAny_updateSeq (s := ⟨h3, s.gens, s.drawn, tk3, s.os⟩) gS3 rfl ?_
  rw [hname]
  have gS4 := Heap.get?_update_self (Obj.mapSeq (fun _ => #[v1, v1])) gS3 rfl
  generalize hH4 : h3.update (I + 1) (Obj.mapSeq (fun _ => #[v1, v1])) = h4 at *
  have k4 : ∀ b o, I + 1 ≠ b → h3.get? b = some o → h4.get? b = some o := fun b o hb e => hH4 ▸ (Heap.get?_update_other _ _ hb).trans e
  have up4 : ∀ a o, s.heap.get? a = some o → h4.get? a = some o := fun a o e => k4 _ _ (notS e) (k3 _ _ (notI e) (up _ _ e))
  refine wpAny_pure ⟨plainId_quiet F.plain_max_loop _, ?_⟩
  -- the second
  refine codeAny_builtin F.entry_max_loop ?_
  rw [Around.under_plainId F.plain_max_loop _]
  show wpAny _ A.in1 (seqItems? (.ref (I + 1)) >>= _) _ _ _
  refine wpAny_bind (wpAny_seqItems (s := ⟨h4, s.gens, s.drawn, tk3, s.os⟩) gS4 rfl ?_)
  show wpAny _ A.in1 (tryCatch (pyNext (.ref I)) _ >>= _) _ _ _
  refine wpAny_bind (wpAny_tryCatch (W.item 1 ⟨h4, s.gens, s.drawn, tk3, s.os⟩ _ _ (by decide : 1 < 2) (W.frame _ _ _ st3 fun b hb o e => k4 b o (fpS b hb) e) fun v h5 tk5 hv st5 k5 => ?_))
  obtain rfl : v2 = v := Option.some.inj hv
  have gS5 := k5 _ _ SI gS4
  have up5 : ∀ a o, s.heap.get? a = some o → h5.get? a = some o := fun a o e => k5 _ _ (notI e) (up4 _ _ e)
  show wpAny _ A.in1 (tryCatch (holding [v2, v2] (richCompare .Gt v2 v1 >>= _)) _ >>= _) _ _ _
  refine wpAny_bind (wpAny_tryCatch (wpAny_holding (wpAny_bind (hcmp ⟨h5, s.gens, s.drawn, tk5, s.os⟩ _ _ up5 ?_))))
  refine wpAny_bind (wpAny_holding (wpAny_truthy_bool ?_))
  refine wpAny_bind (wpAny_letGo (wpAny_pure ?_))
  -- the end
  have last : ∀ (vb : Value) (h6 : Heap) (c : Nat), (∀ b o, I + 1 ≠ b → h5.get? b = some o → h6.get? b = some o) → h6.get? (I + 1) = some { cls := .type "list", dict := none, data := .seq #[vb, vb] c, slots := #[] } →
      (∀ h' tk, (∀ a o, s.heap.get? a = some o → h'.get? a = some o) → Q vb { s with heap := h', toks := tk }) →
      codeAny (model prog w) A (.builtin "max.loop" ⟨[.ref I, .none, .ref (I + 1)], []⟩) (fun r s' => match r with | .ok (.ret v) => Q v s' | .ok _ => False | .error e => E e s') ⟨h6, s.gens, s.drawn, tk5, s.os⟩ := by
    intro vb h6 c k6 gS6 hq
    refine codeAny_builtin F.entry_max_loop ?_
    rw [Around.under_plainId F.plain_max_loop _]
    show wpAny _ A.in1 (seqItems? (.ref (I + 1)) >>= _) _ _ _
    refine wpAny_bind (wpAny_seqItems (s := ⟨h6, s.gens, s.drawn, tk5, s.os⟩) gS6 rfl ?_)
    show wpAny _ A.in1 (tryCatch (pyNext (.ref I)) _ >>= _) _ _ _
    refine wpAny_bind (wpAny_tryCatch (W.done ⟨h6, s.gens, s.drawn, tk5, s.os⟩ _ _ (W.frame _ _ _ st5 fun b hb o e => k6 b o (fpS b hb) e) fun h7 tk7 k7 => ?_))
    have gS7 := k7 _ _ SI gS6
    show wpAny _ A.in1 (updateSeq (I + 1) (fun _ => #[]) >>= _) _ _ _
    refine wpAny_bind ?_
    refine wpAny_updateSeq (s := ⟨h7, s.gens, s.drawn, tk7, s.os⟩) gS7 rfl (wpAny_bind (wpAny_letGo (wpAny_pure ?_)))
    exact hq _ _ fun a o e => (Heap.get?_update_other _ _ (notS e)).trans (k7 _ _ (notI e) (k6 _ _ (notS e) (up5 _ _ e)))
  cases b with
  | true =>
    simp only [if_true]
    refine wpAny_bind ?_
    refine wpAny_updateSeq (s := ⟨h5, s.gens, s.drawn, tk5, s.os⟩) gS5 rfl (wpAny_bind (wpAny_letGo ?_))
    rw [hname]
    refine wpAny_pure ⟨plainId_quiet F.plain_max_loop _, last v2 _ _ (fun b o hb e => (Heap.get?_update_other _ _ hb).trans e) (Heap.get?_update_self _ gS5 rfl) fun h' tk k => ?_⟩
    exact h h' tk k
  | false =>
    simp only [Bool.false_eq_true, if_false]
    refine wpAny_bind (wpAny_letGo ?_)
    rw [hname]
    refine wpAny_pure ⟨plainId_quiet F.plain_max_loop _, last v1 h5 _ (fun b o hb e => e) gS5 fun h' tk k => ?_⟩
    exact h h' tk k
end
open LCg
section
variable {prog : Program} {w : World} {A : Around} {E : Value → Shared → Prop} {s : Shared} {h₀ : Heap} {L : Addr} {m : Str → Option Value} {news : List (Addr × Obj)}
theorem lst_isList {h : Heap} {D : Addr} {vs : List Value} (N : News h₀ L h news) (hm : (D, lst vs) ∈ news) : h.IsList D vs.toArray := ⟨_, (N _ hm).1, rfl, _, rfl⟩
theorem News.dup {h : Heap} {p : Addr × Obj} (N : News h₀ L h news) (hp : p ∈ news) : News h₀ L h (p :: news) := fun q hq => by
  rcases List.mem_cons.mp hq with rfl | hq
  · exact N _ hp
  · exact N _ hq
theorem min_K {D a b : Addr} {xs ys : List (Str × Tok)} {Q : Value → Shared → Prop} (F : Fr h₀ L s.heap m) (N : News h₀ L s.heap news) (hh : A.handled = none) (hu : A.units ≤ 9000)
    (hD : (D, lst [.ref a, .ref b]) ∈ news) (ha : (a, lst (strValues xs)) ∈ news) (hb : (b, lst (strValues ys)) ∈ news)
    (h : ∀ c zs h' tk, zs = (if lexLt (ys.map (·.1)) (xs.map (·.1)) = true then ys else xs) → Fr h₀ L h' m → News h₀ L h' ((c, lst (strValues zs)) :: news) → Q (.ref c) { s with heap := h', toks := tk }) :
    wpAny (model prog w) A (call (.builtin "min") [.ref D]) Q E s := by
  have hu' : A.in1.units < cLine := by show A.units + 1 < 9900; omega
  refine min_two (b := lexLt (ys.map (·.1)) (xs.map (·.1))) hh (lst_isList N hD) (fun s' Q' E' k hq => ?_) fun h' tk k => ?_
  · exact rich_list_lt hu' (k _ _ (N _ hb).1) rfl rfl (k _ _ (N _ ha).1) rfl rfl hq
  · cases e : lexLt (ys.map (·.1)) (xs.map (·.1)) with
    | true => exact h b ys h' tk (by rw [e]; rfl) (F.keeps k) (News.dup (N.grown k) hb)
    | false => exact h a xs h' tk (by rw [e]; rfl) (F.keeps k) (News.dup (N.grown k) ha)
theorem max_K {D a b : Addr} {xs ys : List (Str × Tok)} {Q : Value → Shared → Prop} (F : Fr h₀ L s.heap m) (N : News h₀ L s.heap news) (hh : A.handled = none) (hu : A.units ≤ 9000)
    (hD : (D, lst [.ref a, .ref b]) ∈ news) (ha : (a, lst (strValues xs)) ∈ news) (hb : (b, lst (strValues ys)) ∈ news)
    (h : ∀ c zs h' tk, zs = (if lexGt (ys.map (·.1)) (xs.map (·.1)) = true then ys else xs) → Fr h₀ L h' m → News h₀ L h' ((c, lst (strValues zs)) :: news) → Q (.ref c) { s with heap := h', toks := tk }) :
    wpAny (model prog w) A (call (.builtin "max") [.ref D]) Q E s := by
  have hu' : A.in1.units < cLine := by show A.units + 1 < 9900; omega
  refine max_two (b := lexGt (ys.map (·.1)) (xs.map (·.1))) hh (lst_isList N hD) (fun s' Q' E' k hq => ?_) fun h' tk k => ?_
  · exact rich_list_gt hu' (k _ _ (N _ hb).1) rfl rfl (k _ _ (N _ ha).1) rfl rfl hq
  · cases e : lexGt (ys.map (·.1)) (xs.map (·.1)) with
    | true => exact h b ys h' tk (by rw [e]; rfl) (F.keeps k) (News.dup (N.grown k) hb)
    | false => exact h a xs h' tk (by rw [e]; rfl) (F.keeps k) (News.dup (N.grown k) ha)
end
end
section
open PySem PySem.W PyProof.Rows PySem.Calls
set_option maxRecDepth 100000
open LCg
section
variable {prog : Program} {w : World} {A : Around} {E : Value → Shared → Prop} {s : Shared} {h₀ : Heap} {m : Str → Option Value} {news : List (Addr × Obj)} {env : Env}
/-- the end of a turn of «for i, c in enumerate(list)» -/
noncomputable def EnumPost (h₀ : Heap) (L : Addr) (m : Str → Option Value) (xi xc : Str) (news own : List (Addr × Obj)) (J' : Prop) (s₁ : Shared) (Q : Flow → Shared → Prop) (f : Flow) (s₂ : Shared) : Prop :=
  match f with
  | .ret v => Q (.ret v) s₂
  | .brk => Q .next s₂
  | _ => J' ∧ ∃ h' tk uc ui, s₂ = { s₁ with heap := h', toks := tk } ∧ Fr h₀ L h' (fun y => if y = xc then uc else if y = xi then ui else m y) ∧ News h₀ L h' (news ++ own)
theorem enum_post {L : Addr} {xi xc : Str} {own : List (Addr × Obj)} {J' : Prop} {s₁ : Shared} {Q : Flow → Shared → Prop} {h' : Heap} {tk : Nat} {uc ui : Option Value} (F : Fr h₀ L h' (fun y => if y = xc then uc else if y = xi then ui else m y)) (N : News h₀ L h' (news ++ own)) (hj : J') :
    EnumPost h₀ L m xi xc news own J' s₁ Q .next { s₁ with heap := h', toks := tk } := ⟨hj, h', tk, uc, ui, rfl, F, N⟩
theorem enum_loop {xi xc : Str} {body : List Stmt} {Q : Flow → Shared → Prop} {l : Addr} {its : Array Value} {k : Nat} (J : Nat → Prop) (hh : A.handled = none) (hne : xc ≠ xi)
    (F : Fr h₀ env.locals s.heap m) (N : News h₀ env.locals s.heap news) (hm : (l, ({ cls := .type "list", data := .seq its k } : Obj)) ∈ news) (h0 : J 0)
    (turn : ∀ i v t h tk own, its[i]? = some v → J i → Fr h₀ env.locals h (fun y => if y = xc then some v else if y = xi then some (.int (i : Nat) t) else m y) → News h₀ env.locals h (news ++ own) →
      wpAny (model prog w) A (execs body env) (EnumPost h₀ env.locals m xi xc news own (J (i + 1)) { s with heap := h, toks := tk } Q) E { s with heap := h, toks := tk })
    (done : ∀ uc ui h tk, J its.size → Fr h₀ env.locals h (fun y => if y = xc then uc else if y = xi then ui else m y) → News h₀ env.locals h news → Q .next { s with heap := h, toks := tk }) :
    wpAny (model prog w) A (call (.type "enumerate") [.ref l]) (fun xv s₁ => wpAny (model prog w) A (pyIter xv) (fun it s₂ => PairAt3 prog w A h₀ env xi xc body Q E it s₂) E s₁) E s := by
  have hl : s.heap.IsList l its := ⟨_, (N _ hm).1, rfl, _, rfl⟩
  refine call_enumerate_list hl fun h1 he hit hsz k1 => ?_
  refine wpAny_pyIter_enum he ?_
  have hlt : l < s.heap.objs.size := Heap.lt_size (N _ hm).1
  have hL : env.locals < s.heap.objs.size := F.ns.lt
  generalize hI : s.heap.objs.size = I at *
  have W := WalksT.enumerate (prog := prog) (w := w) (A := A) hh (I + 1) I l (Nat.succ_ne_self I) (Nat.ne_of_lt (Nat.lt_succ_of_lt hlt)) (Nat.ne_of_lt hlt) its
  have fr : ∀ a, I ≤ a → h₀.get? a = none := fun a ha => fresh_of F (hI ▸ ha)
  have offN : ∀ p ∈ news, p.1 ∉ [I + 1, I] := fun p hp hq => by
    have z : p.1 < I := hI ▸ Heap.lt_size (N p hp).1
    rcases List.mem_cons.mp hq with e | hq
    · rw [e] at z; exact absurd z (Nat.not_lt.mpr (Nat.le_succ _))
    · rw [List.mem_singleton.mp hq] at z; exact absurd z (Nat.lt_irrefl _)
  refine ⟨I + 1, _, _, its.size, _, _, _, (fun i v0 v1 => ∃ t, its[i]? = some v1 ∧ v0 = .int (i : Nat) t), m, news, (fun i m₁ news₁ => news₁ = news ∧ J i ∧ ∃ uc ui, m₁ = fun y => if y = xc then uc else if y = xi then ui else m y), rfl, W,
    (fun i vals ⟨t, x, hx, e⟩ => ⟨_, _, e, t, hx, rfl⟩), ?_, ?_, offN, ⟨⟨_, he⟩, hit, hl.at fun o e => k1 _ _ e⟩, F.keeps k1, N.grown k1, ⟨rfl, h0, m xc, m xi, ?_⟩, ?_, ?_⟩
  · intro hq
    rcases List.mem_cons.mp hq with e | hq
    · rw [e] at hL; exact absurd hL (Nat.not_lt.mpr (Nat.le_succ _))
    · rcases List.mem_cons.mp hq with e | hq
      · rw [e] at hL; exact absurd hL (Nat.lt_irrefl _)
      · have := (N _ hm).2.1
        exact this (List.mem_singleton.mp hq).symm
  · intro b hb
    rcases List.mem_cons.mp hb with rfl | hb
    · exact fr _ (Nat.le_succ _)
    · rw [List.mem_singleton.mp hb]; exact fr _ (Nat.le_refl _)
  · funext y
    by_cases h1 : y = xc
    · rw [if_pos h1, h1]
    · rw [if_neg h1]
      by_cases h2 : y = xi
      · rw [if_pos h2, h2]
      · rw [if_neg h2]
  · rintro i v0 v1 m₁ news₁ s₁ own ⟨h, tk, rfl⟩ hi ⟨t, hx, rfl⟩ ⟨rfl, hj, uc, ui, rfl⟩ _ _ F₁ N₁
    have e : (fun y => if y = xc then some v1 else if y = xi then some (Value.int (i : Nat) t) else (if y = xc then uc else if y = xi then ui else m y)) = fun y => if y = xc then some v1 else if y = xi then some (Value.int (i : Nat) t) else m y := by
      funext y
      by_cases h1 : y = xc
      · simp [h1]
      · by_cases h2 : y = xi
        · simp [h2]
        · simp [h1, h2]
    rw [e] at F₁
    have N₂ : News h₀ env.locals h (news₁ ++ own) := fun p hp => N₁ p ((List.mem_append.mp hp).elim (fun h => List.mem_append.mpr (.inr h)) fun h => List.mem_append.mpr (.inl h))
    refine wpAny_mono (turn i v1 t h tk own hx hj F₁ N₂) (fun f s₂ p => ?_) fun _ _ e => e
    have fin : (J (i + 1) ∧ ∃ h' tk' uc ui, s₂ = { s with heap := h', toks := tk' } ∧ Fr h₀ env.locals h' (fun y => if y = xc then uc else if y = xi then ui else m y) ∧ News h₀ env.locals h' (news₁ ++ own)) → LoopStep3 h₀ env.locals own news₁ (fun m₁ news₂ => news₂ = news₁ ∧ J (i + 1) ∧ ∃ uc ui, m₁ = fun y => if y = xc then uc else if y = xi then ui else m y) { s with heap := h, toks := tk } (fun v s' => Q (.ret v) s') (fun s' => Q .next s') .next s₂ := by
      rintro ⟨hj', h', tk', uc', ui', rfl, F', N'⟩
      exact ⟨rfl, h', tk', _, news₁, rfl, F', (fun p hp => N' p ((List.mem_append.mp hp).elim (fun h => List.mem_append.mpr (.inr h)) fun h => List.mem_append.mpr (.inl h))), rfl, rfl, hj', uc', ui', rfl⟩
    cases f with
    | ret v => exact p
    | brk => exact p
    | next => exact fin p
    | cont => exact fin p
  · rintro h' tk m' news' F' N' _ ⟨rfl, hj, uc, ui, rfl⟩
    exact done uc ui h' tk hj F' N'
end
open LCg
section
variable {prog : Program} {w : World} {A : Around} {E : Value → Shared → Prop} {s : Shared} {h₀ : Heap} {m : Str → Option Value} {news : List (Addr × Obj)} {env : Env}
theorem lexGt_eq (xs ys : List Str) : lexGt xs ys = lexLt ys xs := by
  induction xs generalizing ys with
  | nil => cases ys <;> simp [lexGt, lexLt]
  | cons x xs ih =>
    cases ys with
    | nil => simp [lexGt, lexLt]
    | cons y ys =>
      show (if x = y then lexGt xs ys else ltS y x) = (if y = x then lexLt ys xs else ltS y x)
      by_cases h : x = y
      · rw [if_pos h, if_pos h.symm, ih]
      · rw [if_neg h, if_neg (fun e => h e.symm)]
theorem lexLt_irrefl (xs : List Str) : lexLt xs xs = false := by
  induction xs with
  | nil => rfl
  | cons x xs ih => show (if x = x then lexLt xs xs else ltS x x) = false; rw [if_pos rfl, ih]
theorem ltS_asymm {x y : Str} (h : ltS x y = true) : ltS y x = false := by
  have := of_decide_eq_true h
  exact decide_eq_false fun h2 => absurd (List.lt_trans this h2) (List.lt_irrefl _)
theorem lexLt_asymm (xs ys : List Str) (h : lexLt xs ys = true) : lexLt ys xs = false := by
  induction xs generalizing ys with
  | nil => cases ys with
    | nil => cases h
    | cons y ys => rfl
  | cons x xs ih =>
    cases ys with
    | nil => simp [lexLt] at h
    | cons y ys =>
      change (if x = y then lexLt xs ys else ltS x y) = true at h
      show (if y = x then lexLt ys xs else ltS y x) = false
      by_cases e : x = y
      · rw [if_pos e] at h; rw [if_pos e.symm]; exact ih _ h
      · rw [if_neg e] at h; rw [if_neg (fun q => e q.symm)]; exact ltS_asymm h
/-- what is not after the other has a partner as long as both go alike -/
theorem lex_in {xs ys : List Str} (h : lexLt ys xs = false) : ∀ i, i < xs.length → xs.take i = ys.take i → i < ys.length := by
  induction xs generalizing ys with
  | nil => intro i hi; exact absurd hi (Nat.not_lt_zero _)
  | cons x xs ih =>
    intro i hi ht
    cases ys with
    | nil => exact absurd h (by simp [lexLt])
    | cons y ys =>
      cases i with
      | zero => exact Nat.succ_pos _
      | succ i =>
        rw [List.take_succ_cons, List.take_succ_cons] at ht
        obtain ⟨rfl, ht2⟩ := List.cons.inj ht
        change (if x = x then lexLt ys xs else ltS x x) = false at h
        rw [if_pos rfl] at h
        exact Nat.succ_lt_succ (ih h i (Nat.lt_of_succ_lt_succ hi) ht2)
theorem minmax_in {xs ys zs1 zs2 : List (Str × Tok)} (h1 : zs1 = if lexLt (ys.map (·.1)) (xs.map (·.1)) = true then ys else xs) (h2 : zs2 = if lexGt (ys.map (·.1)) (xs.map (·.1)) = true then ys else xs) :
    lexLt (zs2.map (·.1)) (zs1.map (·.1)) = false := by
  rw [lexGt_eq] at h2
  by_cases e : lexLt (ys.map (·.1)) (xs.map (·.1)) = true
  · rw [if_pos e] at h1
    have := lexLt_asymm _ _ e
    rw [this] at h2
    rw [if_neg (by simp)] at h2
    rw [h1, h2, this]
  · rw [if_neg e] at h1
    by_cases e2 : lexLt (xs.map (·.1)) (ys.map (·.1)) = true
    · rw [if_pos e2] at h2
      rw [h1, h2]; exact Bool.eq_false_iff.mpr e
    · rw [if_neg e2] at h2
      rw [h1, h2]; exact lexLt_irrefl _
end
open LCg
/-- a list of few short texts -/
noncomputable def SmallL (zs : List (Str × Tok)) : Prop := zs.length ≤ 10000 ∧ ∀ p ∈ zs, p.1.length ≤ 1000
theorem small_filter {l : List (Str × Tok)} {x sep : Str} {f : Str × Tok → Bool} (e : l.map (·.1) = Txt.split x sep) (hlen : l.length ≤ x.length + 2) (hx : x.length ≤ 1000) (hs : ∀ z ∈ Txt.split x sep, z.length ≤ 1000) : SmallL (l.filter f) :=
  ⟨Nat.le_trans (List.length_filter_le ..) (by omega), fun p hp => mem_len (z := p.1) (t := p.2) (List.mem_filter.mp hp).1 e hs⟩
theorem small_if {zs xs ys : List (Str × Tok)} {c : Bool} (hz : zs = if c = true then ys else xs) (hx : SmallL xs) (hy : SmallL ys) : SmallL zs := by
  cases c
  · rw [hz, if_neg (by simp)]; exact hx
  · rw [hz, if_pos rfl]; exact hy
theorem small_take {zs : List (Str × Tok)} {i : Nat} (h : SmallL zs) : SmallL (zs.take i) :=
  ⟨by rw [List.length_take]; have := h.1; omega, fun p hp => h.2 p (List.mem_of_mem_take hp)⟩
section
variable {prog : Program} {w : World} {A : Around} {E : Value → Shared → Prop} {s : Shared} {h₀ : Heap} {L : Addr} {m : Str → Option Value} {news : List (Addr × Obj)}
theorem item_K {value slice : Expr} {c : Addr} {zs zs1 : List (Str × Tok)} {i : Nat} {p q : Str × Tok} {t : Tok} {Q : Value → Shared → Prop} (N : News h₀ L s.heap news) (hm : (c, lst (strValues zs)) ∈ news) (hb : SmallL zs1) (hp : zs1[i]? = some p) (hq : zs[i]? = some q) (h : Q (.str q.1 q.2) s)
    (hs : subscripted slice false (.ref c) (.int (i : Nat) t) = operate [.ref c, .int (i : Nat) t] (getItem (.ref c) (.int (i : Nat) t)) := by with_unfolding_all rfl) :
    wpAny (model prog w) A (subscriptTail value slice (.ref c) (.int (i : Nat) t)) Q E s := by
  have hi : i < zs1.length := by
    rcases Nat.lt_or_ge i zs1.length with h | h
    · exact h
    · rw [List.getElem?_eq_none h] at hp; cases hp
  have hb1 := hb.1
  refine item_listR (lst_isList N hm) (Int.natCast_nonneg _) (by omega) (x := .str q.1 q.2) ?_ h hs
  show (strValues zs).toArray[i]? = _
  simp [strValues, hq]
theorem strsAre_sv (zs : List (Str × Tok)) : StrsAre (strValues zs) (zs.map (·.1)) := strsAre_of_values zs
theorem sum_small : ∀ (zs : List (Str × Tok)), (∀ p ∈ zs, p.1.length ≤ 1000) → ((zs.map (·.1)).map (·.length)).sum ≤ zs.length * 1000
  | [], _ => by simp
  | p :: r, h => by
    have h1 := h p (.head _)
    have h2 := sum_small r fun q hq => h q (.tail _ hq)
    simp only [List.map_cons, List.sum_cons, List.length_cons]
    omega
theorem join_K {D : Addr} {zs : List (Str × Tok)} {items : Array Value} {k : Nat} {x : Str} {t : Tok} {Q : Value → Shared → Prop} (N : News h₀ L s.heap news) (hm : (D, ({ cls := .type "list", data := .seq items k } : Obj)) ∈ news) (he : items = (strValues zs).toArray) (hb : SmallL zs) (hx : x.length ≤ 16)
    (h : ∀ t' k, (Txt.join x (zs.map (·.1))).length ≤ 16000000 → Q (.str (Txt.join x (zs.map (·.1))) t') { s with toks := k }) : wpAny (model prog w) A (call (.builtin "str.join") [.str x t, .ref D]) Q E s := by
  subst he
  refine join_list (D := D) (items := (strValues zs).toArray) (ys := zs.map (·.1)) ⟨_, (N _ hm).1, rfl, _, rfl⟩ (by simpa using strsAre_sv zs) ?_ (fun t' k => h t' k ?_)
  all_goals have h1 := sum_small zs hb.2
  all_goals have h2 := hb.1
  all_goals have h3 : zs.length * x.length ≤ zs.length * 16 := Nat.mul_le_mul_left _ hx
  · rw [List.length_map]; omega
  · have h4 : (Builtin.Str.glued x (zs.map (·.1))).length ≤ ((zs.map (·.1)).map (·.length)).sum + (zs.map (·.1)).length * x.length := by rw [StrLaws.glued_eq_join]; exact StrLaws.join_length_le x (zs.map (·.1))
    change (Txt.join x (zs.map (·.1))).length ≤ _ at h4
    rw [List.length_map] at h4
    omega
end
open LCg
section
variable {prog : Program} {w : World} {A : Around} {E : Value → Shared → Prop} {s : Shared} {h₀ : Heap} {m : Str → Option Value} {news : List (Addr × Obj)} {env : Env}
theorem enum_common {xi xc : Str} {body : List Stmt} {Q : Flow → Shared → Prop} {l : Addr} {xs ys zs1 zs2 : List (Str × Tok)} {k : Nat} (hz1 : zs1 = if lexLt (ys.map (·.1)) (xs.map (·.1)) = true then ys else xs) (hz2 : zs2 = if lexGt (ys.map (·.1)) (xs.map (·.1)) = true then ys else xs)
    (hb : SmallL zs1) {L : Addr} (hh : A.handled = none) (hne : xc ≠ xi)
    (F : Fr h₀ L s.heap m) (N : News h₀ L s.heap news) (hm : (l, ({ cls := .type "list", data := .seq (strValues zs1).toArray k } : Obj)) ∈ news) (hLe : env.locals = L)
    (turn : ∀ i p q t h tk own, SmallL zs1 → zs1[i]? = some p → zs2[i]? = some q → (zs1.take i).map (·.1) = (zs2.take i).map (·.1) → Fr h₀ L h (fun y => if y = xc then some (.str p.1 p.2) else if y = xi then some (.int (i : Nat) t) else m y) → News h₀ L h (news ++ own) →
      wpAny (model prog w) A (execs body env) (EnumPost h₀ L m xi xc news own (p.1 = q.1) { s with heap := h, toks := tk } Q) E { s with heap := h, toks := tk })
    (done : ∀ uc ui h tk, SmallL zs1 → zs1.map (·.1) = (zs2.take zs1.length).map (·.1) → Fr h₀ L h (fun y => if y = xc then uc else if y = xi then ui else m y) → News h₀ L h news → Q .next { s with heap := h, toks := tk }) :
    wpAny (model prog w) A (call (.type "enumerate") [.ref l]) (fun xv s₁ => wpAny (model prog w) A (pyIter xv) (fun it s₂ => PairAt3 prog w A h₀ env xi xc body Q E it s₂) E s₁) E s := by
  subst hLe
  have sz : (strValues zs1).toArray.size = zs1.length := by simp [strValues]
  refine enum_loop (fun i => (zs1.take i).map (·.1) = (zs2.take i).map (·.1)) hh hne F N hm rfl (fun i v t h tk own hv hj F1 N1 => ?_) (fun uc ui h tk hj F1 N1 => ?_)
  · have hv' : (zs1[i]?).map (fun p => Value.str p.1 p.2) = some v := by rw [← hv]; simp [strValues]
    cases hp : zs1[i]? with
    | none => rw [hp] at hv'; cases hv'
    | some p =>
      rw [hp] at hv'
      obtain rfl : Value.str p.1 p.2 = v := Option.some.inj hv'
      have hi : i < zs1.length := by
        rcases Nat.lt_or_ge i zs1.length with h | h
        · exact h
        · rw [List.getElem?_eq_none h] at hp; cases hp
      have hi2 : i < zs2.length := by
        have := lex_in (minmax_in hz1 hz2) i (by rw [List.length_map]; exact hi) (by rw [List.map_take, List.map_take] at hj; exact hj)
        rwa [List.length_map] at this
      have hq : zs2[i]? = some zs2[i] := List.getElem?_eq_getElem hi2
      refine wpAny_mono (turn i p zs2[i] t h tk own hb hp hq hj F1 N1) (fun f s₂ e => ?_) fun _ _ e => e
      have conv : p.1 = zs2[i].1 → (zs1.take (i + 1)).map (·.1) = (zs2.take (i + 1)).map (·.1) := fun e => by
        rw [List.take_add_one, List.take_add_one, hp, hq, List.map_append, List.map_append, hj]
        simp [e]
      cases f with
      | ret v => exact e
      | brk => exact e
      | next => exact ⟨conv e.1, e.2⟩
      | cont => exact ⟨conv e.1, e.2⟩
  · refine done uc ui h tk hb ?_ F1 N1
    rw [sz] at hj
    rwa [List.take_length] at hj
end
open LCg
section
variable {prog : Program} {w : World} {A : Around} {E : Value → Shared → Prop} {s : Shared} {h₀ : Heap} {L : Addr} {m : Str → Option Value} {news : List (Addr × Obj)}
theorem take_K {value slice : Expr} {c : Addr} {zs : List (Str × Tok)} {i : Nat} {p : Str × Tok} {t : Tok} {Q : Value → Shared → Prop} (F : Fr h₀ L s.heap m) (N : News h₀ L s.heap news) (hm : (c, lst (strValues zs)) ∈ news) (hb : SmallL zs) (hp : zs[i]? = some p)
    (h : ∀ D h', Fr h₀ L h' m → News h₀ L h' ((D, ({ cls := .type "list", data := .seq (strValues (zs.take i)).toArray } : Obj)) :: news) → (∀ p ∈ news, p.1 < D) → Q (.ref D) { s with heap := h' })
    (hs : subscripted slice false (.ref c) (.ref s.heap.objs.size) = operate [.ref s.heap.objs.size, .ref c] (getItem (.ref c) (.ref s.heap.objs.size)) := by with_unfolding_all rfl)
    (ht : ∀ r, letTemporaryGo value (.ref c) r = pure () := by intro _; with_unfolding_all rfl) :
    wpAny (model prog w) A (subscriptTail value slice (.ref c) (.ref s.heap.objs.size)) Q E { s with heap := s.heap.push { cls := .type "slice", data := .fields #[.none, .int (i : Nat) t, .none] } } := by
  have hi : i < zs.length := by
    rcases Nat.lt_or_ge i zs.length with h | h
    · exact h
    · rw [List.getElem?_eq_none h] at hp; cases hp
  have hb1 := hb.1
  have e : slicePick (strValues zs).toArray none (some ((i : Nat) : Int)) none = (strValues (zs.take i)).toArray := by
    rw [slicePick_upto _ _ (by simp [strValues]; omega)]
    simp [strValues, List.map_take]
  refine slice_list F N (lst_isList N hm) .none (.int _ _) (fun h' F' N' => ?_) hs ht (strs_size hb1)
  rw [e] at N'
  exact h _ h' F' N' fun p hp => Nat.lt_succ_of_lt (Heap.lt_size (N p hp).1)
end
end
section
open PySem PySem.W PyProof.Rows PySem.Calls
set_option maxRecDepth 100000
noncomputable def keepC (z : Str) : Bool := decide ((z.length : Int) ≠ 0) && (z != Str.ofString ".")
theorem keep_t {z : Str} (h1 : (z.length : Int) ≠ 0) (h2 : (z != Str.ofString ".") = true) : true = keepC z := by unfold keepC; rw [decide_eq_true h1, h2]; rfl
theorem keep_f1 {z : Str} (h2 : (z != Str.ofString ".") = false) : false = keepC z := by unfold keepC; rw [h2, Bool.and_false]
theorem keep_f2 {z : Str} (h1 : ¬ (z.length : Int) ≠ 0) : false = keepC z := by unfold keepC; rw [decide_eq_false h1, Bool.false_and]
theorem keep_f3 {z : Str} (h1 : (z.length : Int) = 0) : false = keepC z := keep_f2 fun h => h h1
noncomputable def compsS (x : Str) : List Str := (Txt.split x (Str.ofString "/")).filter keepC
/-- the beginning that both have -/
noncomputable def preL {α : Type} [DecidableEq α] : List α → List α → List α
  | x :: xs, y :: ys => if x = y then x :: preL xs ys else []
  | _, _ => []
noncomputable def lowL (a b : List Str) : List Str := if lexLt b a = true then b else a
noncomputable def highL (a b : List Str) : List Str := if lexGt b a = true then b else a
noncomputable def commonS (x y : Str) : Str := Str.ofString "/" ++ Txt.join (Str.ofString "/") (preL (lowL (compsS x) (compsS y)) (highL (compsS x) (compsS y)))
theorem pre_brk {α : Type} [DecidableEq α] {p q : α} : ∀ {xs ys : List α} {i : Nat}, xs.take i = ys.take i → xs[i]? = some p → ys[i]? = some q → p ≠ q → preL xs ys = xs.take i
  | [], _, _, _, hp, _, _ => by simp at hp
  | _ :: _, [], _, _, _, hq, _ => by simp at hq
  | x :: xs, y :: ys, 0, _, hp, hq, hne => by
    have e1 : x = p := by simpa using hp
    have e2 : y = q := by simpa using hq
    show (if x = y then _ else _) = _
    rw [if_neg (by rw [e1, e2]; exact hne)]; rfl
  | x :: xs, y :: ys, i + 1, h, hp, hq, hne => by
    rw [List.take_succ_cons, List.take_succ_cons] at h
    obtain ⟨rfl, h2⟩ := List.cons.inj h
    show (if x = x then x :: preL xs ys else _) = _
    rw [if_pos rfl, pre_brk h2 (by simpa using hp) (by simpa using hq) hne]; rfl
theorem pre_done {α : Type} [DecidableEq α] : ∀ {xs ys : List α}, xs = ys.take xs.length → preL xs ys = xs
  | [], _, _ => by unfold preL; rfl
  | x :: xs, [], h => by simp at h
  | x :: xs, y :: ys, h => by
    rw [List.length_cons, List.take_succ_cons] at h
    obtain ⟨rfl, h2⟩ := List.cons.inj h
    show (if x = x then x :: preL xs ys else _) = _
    rw [if_pos rfl, pre_done h2]
theorem map_filter_fst (l : List (Str × Tok)) (f : Str → Bool) : (l.filter fun p => f p.1).map (·.1) = (l.map (·.1)).filter f := by
  induction l with
  | nil => rfl
  | cons p l ih =>
    rw [List.map_cons, List.filter_cons, List.filter_cons]
    cases f p.1 <;> simp [ih]
theorem low_of {l1 l2 zs1 : List (Str × Tok)} {x y : Str} (e1 : l1.map (·.1) = Txt.split x (Str.ofString "/")) (e2 : l2.map (·.1) = Txt.split y (Str.ofString "/"))
    (hz : zs1 = if lexLt ((l2.filter fun p => keepC p.1).map (·.1)) ((l1.filter fun p => keepC p.1).map (·.1)) = true then (l2.filter fun p => keepC p.1) else (l1.filter fun p => keepC p.1)) : zs1.map (·.1) = lowL (compsS x) (compsS y) := by
  unfold lowL compsS
  rw [map_filter_fst, map_filter_fst, e1, e2] at hz
  rw [hz]
  split
  · rw [map_filter_fst, e2]
  · rw [map_filter_fst, e1]
theorem high_of {l1 l2 zs1 : List (Str × Tok)} {x y : Str} (e1 : l1.map (·.1) = Txt.split x (Str.ofString "/")) (e2 : l2.map (·.1) = Txt.split y (Str.ofString "/"))
    (hz : zs1 = if lexGt ((l2.filter fun p => keepC p.1).map (·.1)) ((l1.filter fun p => keepC p.1).map (·.1)) = true then (l2.filter fun p => keepC p.1) else (l1.filter fun p => keepC p.1)) : zs1.map (·.1) = highL (compsS x) (compsS y) := by
  unfold highL compsS
  rw [map_filter_fst, map_filter_fst, e1, e2] at hz
  rw [hz]
  split
  · rw [map_filter_fst, e2]
  · rw [map_filter_fst, e1]
theorem common_brk {l1 l2 zs1 zs2 : List (Str × Tok)} {x y : Str} {i : Nat} {p q : Str × Tok} (e1 : l1.map (·.1) = Txt.split x (Str.ofString "/")) (e2 : l2.map (·.1) = Txt.split y (Str.ofString "/"))
    (hz1 : zs1 = if lexLt ((l2.filter fun p => keepC p.1).map (·.1)) ((l1.filter fun p => keepC p.1).map (·.1)) = true then (l2.filter fun p => keepC p.1) else (l1.filter fun p => keepC p.1))
    (hz2 : zs2 = if lexGt ((l2.filter fun p => keepC p.1).map (·.1)) ((l1.filter fun p => keepC p.1).map (·.1)) = true then (l2.filter fun p => keepC p.1) else (l1.filter fun p => keepC p.1))
    (hp : zs1[i]? = some p) (hq : zs2[i]? = some q) (hj : (zs1.take i).map (·.1) = (zs2.take i).map (·.1)) (hne : (p.1 != q.1) = true) :
    Str.ofString "/" ++ Txt.join (Str.ofString "/") ((zs1.take i).map (·.1)) = commonS x y := by
  unfold commonS
  rw [← low_of e1 e2 hz1, ← high_of e1 e2 hz2, pre_brk (i := i) (p := p.1) (q := q.1) (by rw [← List.map_take, ← List.map_take]; exact hj) (by simp [hp]) (by simp [hq]) (by simpa using hne), List.map_take]
theorem common_done {l1 l2 zs1 zs2 : List (Str × Tok)} {x y : Str} (e1 : l1.map (·.1) = Txt.split x (Str.ofString "/")) (e2 : l2.map (·.1) = Txt.split y (Str.ofString "/"))
    (hz1 : zs1 = if lexLt ((l2.filter fun p => keepC p.1).map (·.1)) ((l1.filter fun p => keepC p.1).map (·.1)) = true then (l2.filter fun p => keepC p.1) else (l1.filter fun p => keepC p.1))
    (hz2 : zs2 = if lexGt ((l2.filter fun p => keepC p.1).map (·.1)) ((l1.filter fun p => keepC p.1).map (·.1)) = true then (l2.filter fun p => keepC p.1) else (l1.filter fun p => keepC p.1))
    (hj : zs1.map (·.1) = (zs2.take zs1.length).map (·.1)) :
    Str.ofString "/" ++ Txt.join (Str.ofString "/") (zs1.map (·.1)) = commonS x y := by
  unfold commonS
  rw [← low_of e1 e2 hz1, ← high_of e1 e2 hz2, pre_done (by rw [List.length_map, ← List.map_take]; exact hj)]
end
section
open PySem PySem.W PyProof.Rows PySem.Calls
set_option maxRecDepth 100000




























theorem of_not_bne {a b : Str} (h : (a != b) = false) : a = b := by simpa using h
set_option maxHeartbeats 8000000 in
theorem common_c (w : World) (x y : Str) (t t2 : Tok) (l : Addr) (s : Shared) (hx : x.length ≤ 1000) (hy : y.length ≤ 1000) (hxs : Txt.startswith x (Str.ofString "/") = true) (hsx : ∀ z ∈ Txt.split x (Str.ofString "/"), z.length ≤ 1000) (hsy : ∀ z ∈ Txt.split y (Str.ofString "/"), z.length ≤ 1000) (hys : Txt.startswith y (Str.ofString "/") = true) (hl : s.heap.IsList l #[.str x t, .str y t2]) : RCall w (.ref 177) [.ref l] 900 8000 s (PStr (commonS x y)) := by
  refine rcall_cells (by k_is) (by k_is) (BindsTo.of_eq rfl) (binds := [(Str.ofString "paths", .ref l)]) (by exact rfl) (by decide +kernel) rfl rfl rfl ?_
  intro loose mean mg mb g L' h₁ tk' cells hst F' N' Y' X' T'
  have hl' : g.IsList l #[.str x t, .str y t2] := hl.at fun o e => hst l o e
  k_cells Y'; (try simp only [List.cons_append, List.nil_append] at N')
  (try dsimp only); (try k_fold); (repeat' (first | (k_unfold; (try dsimp only)) | (k_end; wrow_close) | ((fail_if_success (with_reducible show wpAny _ _ _ _ _ _)); (k_here; k_dflt (refine LCt.CompSrcT.ledger (by rfl) (by k_asm) (by k_asm) (by k_mem) (strs_size (by omega)) ?_); intro g'; (refine restT_strs keepC (by lcg_src) (by rfl) (by rfl) (by decide) (fun z' tz' I' oI' C' oC' D' oD' m' h' tk' E' hv' hC' hx' F' N' off' ne' => ?_) ?_) <;> ((try simp only [LCg.Off3, and_true] at off'); (try dsimp only); (try (have hz9 := mem_len hv' (by assumption) (by assumption)))))) | ((fail_if_success (with_reducible show wpAny _ _ _ _ _ _)); refine FlatT.intro (by k_asm) (by k_asm) (by first | exact keep_t (by assumption) (by assumption) | exact keep_f1 (by assumption) | exact keep_f2 (by assumption) | exact keep_f3 (by assumption))) | ((with_reducible show wpAny _ _ (call (Value.ref _) _) _ _ _); (k_here; k_dflt (first   | (refine' rcall_use (fspath_c _ _ _ _) (by k_asm) (by k_asm) (by k_asm) (by k_asm) (by exact rfl) (by exact Nat.le_of_ble_eq_true rfl) (by exact Nat.le_of_ble_eq_true rfl) ?_;   intro r9 h9 tk9 hp9 F9 N9 st9 sz9; (try (refine hideG fun G9 b9 => ?_; obtain ⟨t9, hp9⟩ := hp9; refine b9 ?_; clear b9 G9)); (try subst hp9); (try dsimp only); (try k_fold))   | (refine' rcall_use (get_sep_c _ _ _ _) (by k_asm) (by k_asm) (by k_asm) (by k_asm) (by exact rfl) (by exact Nat.le_of_ble_eq_true rfl) (by exact Nat.le_of_ble_eq_true rfl) ?_;   intro r9 h9 tk9 hp9 F9 N9 st9 sz9; (try (refine hideG fun G9 b9 => ?_; obtain ⟨t9, hp9⟩ := hp9; refine b9 ?_; clear b9 G9)); (try subst hp9); (try dsimp only); (try k_fold))))) | ((with_reducible show wpAny _ _ (binaryOp Operator.Add _ _) _ _ _); (k_here; (with_reducible show wpAny _ _ (binaryOp _ (Value.ref _) (Value.ref _)) _ _ _); (k_dflt (refine addL_K (by k_asm) (by k_asm) (by k_mem) (by k_mem) (cat_size (by assumption)) ?_)); intro D' h' F' N' l1; (try k_lt l1); (try dsimp only))) | ((with_reducible show wpAny _ _ (subscriptTail _ _ (Value.ref _) (Value.ref _)) _ _ _); (k_here; (k_dflt (refine take_K (by k_asm) (by k_asm) (by k_mem) (by assumption) (by assumption) ?_)); intro D' h' F' N' l1; (try dsimp only))) | ((fail_if_success (with_reducible show wpAny _ _ _ _ _ _)); first | (refine enum_post (by k_asm) (by k_asm) (by assumption)) | (dsimp only [EnumPost])) | ((with_reducible show wpAny _ _ (call (Value.builtin "str.join") _) _ _ _); (k_here; (k_dflt (refine join_K (by k_asm) (by k_mem) (by first | rfl | assumption) (by first | assumption | exact small_take (by assumption)) (by exact Nat.le_of_ble_eq_true rfl) ?_)); intro t' k' hlen'; (try dsimp only))) | ((with_reducible show wpAny _ _ (subscriptTail _ _ (Value.ref _) (Value.int _ _)) _ _ _); (k_here; (k_dflt (refine item_K (by k_asm) (by k_mem) (by assumption) (by assumption) (by assumption) ?_)))) | ((with_reducible show wpAny _ _ (call (Value.type "enumerate") _) _ _ _); (k_here; (k_dflt (refine enum_common (by assumption) (by assumption) (small_if (by assumption) (small_filter (by assumption) (by assumption) (by assumption) (by assumption)) (small_filter (by assumption) (by assumption) (by assumption) (by assumption))) (by exact rfl) (by decide) (by k_asm) (by k_asm) (by k_mem) (by rfl) (fun i' p' q' t' h' tk' own' hb' hp' hq' hj' F' N' => ?_) (fun uc' ui' h' tk' hb' hj' F' N' => ?_))) <;> (try dsimp only))) | ((with_reducible show wpAny _ _ (call (Value.builtin "max") _) _ _ _); (k_here; k_dflt (refine' max_K (by k_asm) (by k_asm) (by exact rfl) (by exact Nat.le_of_ble_eq_true rfl) (by k_mem) (by k_mem) (by k_mem) ?_; k_whole); intro c' zs' h' tk' hz' F' N')) | ((with_reducible show wpAny _ _ (call (Value.builtin "min") _) _ _ _); (k_here; k_dflt (refine' min_K (by k_asm) (by k_asm) (by exact rfl) (by exact Nat.le_of_ble_eq_true rfl) (by k_mem) (by k_mem) (by k_mem) ?_; k_whole); intro c' zs' h' tk' hz' F' N')) | ((with_reducible show wpAny _ _ (eval (PySem.Expr.Name _ _) _) _ _ _); (k_here; (with_reducible show wpAny _ _ (eval (Expr.Name _ _) (compEnvC _ _ _ (compEnvC _ _ _ _))) _ _ _); k_dflt (first   | (refine' lcf_cell (by k_asm) (by rfl) (by k_mem) (by k_asm) ?_ (by rfl) (by with_unfolding_all rfl); k_whole)   | (refine' lcf_free (by k_asm) (by rfl) (by k_mem) (by k_asm) ?_ (by rfl) (by with_unfolding_all rfl); k_whole)))) | ((fail_if_success (with_reducible show wpAny _ _ _ _ _ _)); refine FlatT.intro (by k_asm) (by k_asm) ?_) | ((with_reducible show wpAny _ _ (eval (PySem.Expr.ListComp _ _ _ _) _) _ _ _); (k_here; (with_reducible show wpAny _ _ (eval (Expr.ListComp (Expr.Name _ _) _ _ _) _) _ _ _); k_dflt (refine LCt.ListComp_T (F₀ := by k_asm) (by with_unfolding_all rfl) (by decide) (by rfl) (by decide) (by rfl) ?_))) | ((with_reducible show wpAny _ _ (assign _ _ _) _ _ _); (k_here; k_dflt (refine' unpackS_K (by k_asm) (by k_asm) (by exact rfl) (by k_mem) ?_); intro h' F' N')) | ((fail_if_success (with_reducible show wpAny _ _ _ _ _ _)); exact TrueEnd.intro (by k_asm) (by k_asm) (by first | rfl | assumption)) | ((fail_if_success (with_reducible show wpAny _ _ _ _ _ _)); (k_here; (k_dflt (refine TrueSrc.intro (by rfl) (by k_asm) (by k_asm) (by k_mem) (by first | size_fits | exact Nat.le_of_ble_eq_true rfl) (by exact Nat.le_of_ble_eq_true rfl) (fun i' v' I' oI' C' oC' D' oD' m' h' tk' E' hv' hC' hx' F' N' off' ne' => ?_) (fun D' h' tk' F' N' o1' => ?_))) <;> ((try simp only [LCg.Off3, and_true] at off'); (try simp only [LCg.Off1, and_true] at o1'); (try (obtain ⟨z', t', hq9, hz'⟩ := two_of (P := fun z => Txt.startswith z (Str.ofString "/") = true) hv' (by assumption) (by assumption); subst hq9)); (try dsimp only)))) | ((with_reducible show wpAny _ _ (eval (PySem.Expr.SetComp _ _ _ _) _) _ _ _); (k_here; k_dflt (refine SetComp_true (F₀ := by k_asm) (by rfl) (by decide) (by rfl) (by decide) (by rfl) ?_))) | ((with_reducible show wpAny _ _ (call (Value.builtin "str.split") _) _ _ _); (k_here; (with_reducible show wpAny _ _ (call (Value.builtin "str.split") _) _ _ _); k_dflt (refine KSpl.split1 (by k_asm) (by k_asm) (by decide) ?_ (by size_fits)); intro D' l' h' k' e' a' F' N' l1; (try k_lt l1); (have hlen' := len_le_of_split e'))) | ((fail_if_success (with_reducible show wpAny _ _ _ _ _ _)); (k_here; k_dflt (refine TupSrc.intro (by rfl) (by k_asm) (by k_asm) (by k_mem) (by first | size_fits | exact Nat.le_of_ble_eq_true rfl) ?_; intro g'; lcg_lit))) | ((with_reducible show wpAny _ _ (exec _ _) _ _ _); (k_here; (with_reducible show wpAny _ _ (exec (Stmt.Assign _ (Expr.ListComp (Expr.Call _ _ _ _) _ _ _) _) _) _ _ _); k_dflt (refine Assign_ListComp_W (F₀ := by k_asm) (by rfl) (by with_unfolding_all rfl) (by rfl) (by decide) (by rfl) (by decide) (by rfl) (by rfl) (by rfl) ?_))) | ((with_reducible show wpAny _ _ (exec _ _) _ _ _); (k_here; refine wpAny_Try_except ?_; (try k_fold))) | ((with_reducible show wpAny _ _ (call (Value.type "tuple") _) _ _ _); (k_here; k_dflt (refine' tup_K (by k_asm) (by k_asm) (by exact Heap.IsList.at (by k_asm) (fun o e => Fr.keep (by k_asm) _ o e)) (by k_asm) (by k_asm) (by exact rfl) (by exact Nat.le_of_ble_eq_true rfl) (by exact Nat.le_of_ble_eq_true rfl) (by refine ltN ?_; omega) (by refine ltN ?_; omega) (by refine ltN ?_; omega) (by ((repeat' first | exact List.forall_mem_nil _ | refine List.forall_mem_cons.mpr ⟨?_, ?_⟩) <;> (refine ltN ?_; (try dsimp only); omega))) ?_; k_whole; intro D' t1' t2' h' tk' F' N' l1 l2; k_lt l1; k_lt2 l2; (try k_sweep); (try k_fold)))) | ((with_reducible show wpAny _ _ (call (Value.type "map") _) _ _ _); (k_here; k_dflt (refine' map_K (by k_asm) (by k_asm) (by exact Heap.IsList.at (by k_asm) (fun o e => Fr.keep (by k_asm) _ o e)) ?_; k_whole; intro M' T' I' h' F' N' l1 l2 l3 l4; k_lt l1; k_lt2 l2; k_lt2 l3; k_lt2 l4; (try k_sweep)))) | walk1 | (dsimp only; (first | ((fail_if_success (with_reducible show wpAny _ _ _ _ _ _)); (k_here; k_dflt (refine LCt.CompSrcT.ledger (by rfl) (by k_asm) (by k_asm) (by k_mem) (strs_size (by omega)) ?_); intro g'; (refine restT_strs keepC (by lcg_src) (by rfl) (by rfl) (by decide) (fun z' tz' I' oI' C' oC' D' oD' m' h' tk' E' hv' hC' hx' F' N' off' ne' => ?_) ?_) <;> ((try simp only [LCg.Off3, and_true] at off'); (try dsimp only); (try (have hz9 := mem_len hv' (by assumption) (by assumption)))))) | ((fail_if_success (with_reducible show wpAny _ _ _ _ _ _)); refine FlatT.intro (by k_asm) (by k_asm) (by first | exact keep_t (by assumption) (by assumption) | exact keep_f1 (by assumption) | exact keep_f2 (by assumption) | exact keep_f3 (by assumption))) | ((with_reducible show wpAny _ _ (call (Value.ref _) _) _ _ _); (k_here; k_dflt (first   | (refine' rcall_use (fspath_c _ _ _ _) (by k_asm) (by k_asm) (by k_asm) (by k_asm) (by exact rfl) (by exact Nat.le_of_ble_eq_true rfl) (by exact Nat.le_of_ble_eq_true rfl) ?_;   intro r9 h9 tk9 hp9 F9 N9 st9 sz9; (try (refine hideG fun G9 b9 => ?_; obtain ⟨t9, hp9⟩ := hp9; refine b9 ?_; clear b9 G9)); (try subst hp9); (try dsimp only); (try k_fold))   | (refine' rcall_use (get_sep_c _ _ _ _) (by k_asm) (by k_asm) (by k_asm) (by k_asm) (by exact rfl) (by exact Nat.le_of_ble_eq_true rfl) (by exact Nat.le_of_ble_eq_true rfl) ?_;   intro r9 h9 tk9 hp9 F9 N9 st9 sz9; (try (refine hideG fun G9 b9 => ?_; obtain ⟨t9, hp9⟩ := hp9; refine b9 ?_; clear b9 G9)); (try subst hp9); (try dsimp only); (try k_fold))))) | ((with_reducible show wpAny _ _ (binaryOp Operator.Add _ _) _ _ _); (k_here; (with_reducible show wpAny _ _ (binaryOp _ (Value.ref _) (Value.ref _)) _ _ _); (k_dflt (refine addL_K (by k_asm) (by k_asm) (by k_mem) (by k_mem) (cat_size (by assumption)) ?_)); intro D' h' F' N' l1; (try k_lt l1); (try dsimp only))) | ((with_reducible show wpAny _ _ (subscriptTail _ _ (Value.ref _) (Value.ref _)) _ _ _); (k_here; (k_dflt (refine take_K (by k_asm) (by k_asm) (by k_mem) (by assumption) (by assumption) ?_)); intro D' h' F' N' l1; (try dsimp only))) | ((fail_if_success (with_reducible show wpAny _ _ _ _ _ _)); first | (refine enum_post (by k_asm) (by k_asm) (by assumption)) | (dsimp only [EnumPost])) | ((with_reducible show wpAny _ _ (call (Value.builtin "str.join") _) _ _ _); (k_here; (k_dflt (refine join_K (by k_asm) (by k_mem) (by first | rfl | assumption) (by first | assumption | exact small_take (by assumption)) (by exact Nat.le_of_ble_eq_true rfl) ?_)); intro t' k' hlen'; (try dsimp only))) | ((with_reducible show wpAny _ _ (subscriptTail _ _ (Value.ref _) (Value.int _ _)) _ _ _); (k_here; (k_dflt (refine item_K (by k_asm) (by k_mem) (by assumption) (by assumption) (by assumption) ?_)))) | ((with_reducible show wpAny _ _ (call (Value.type "enumerate") _) _ _ _); (k_here; (k_dflt (refine enum_common (by assumption) (by assumption) (small_if (by assumption) (small_filter (by assumption) (by assumption) (by assumption) (by assumption)) (small_filter (by assumption) (by assumption) (by assumption) (by assumption))) (by exact rfl) (by decide) (by k_asm) (by k_asm) (by k_mem) (by rfl) (fun i' p' q' t' h' tk' own' hb' hp' hq' hj' F' N' => ?_) (fun uc' ui' h' tk' hb' hj' F' N' => ?_))) <;> (try dsimp only))) | ((with_reducible show wpAny _ _ (call (Value.builtin "max") _) _ _ _); (k_here; k_dflt (refine' max_K (by k_asm) (by k_asm) (by exact rfl) (by exact Nat.le_of_ble_eq_true rfl) (by k_mem) (by k_mem) (by k_mem) ?_; k_whole); intro c' zs' h' tk' hz' F' N')) | ((with_reducible show wpAny _ _ (call (Value.builtin "min") _) _ _ _); (k_here; k_dflt (refine' min_K (by k_asm) (by k_asm) (by exact rfl) (by exact Nat.le_of_ble_eq_true rfl) (by k_mem) (by k_mem) (by k_mem) ?_; k_whole); intro c' zs' h' tk' hz' F' N')) | ((with_reducible show wpAny _ _ (eval (PySem.Expr.Name _ _) _) _ _ _); (k_here; (with_reducible show wpAny _ _ (eval (Expr.Name _ _) (compEnvC _ _ _ (compEnvC _ _ _ _))) _ _ _); k_dflt (first   | (refine' lcf_cell (by k_asm) (by rfl) (by k_mem) (by k_asm) ?_ (by rfl) (by with_unfolding_all rfl); k_whole)   | (refine' lcf_free (by k_asm) (by rfl) (by k_mem) (by k_asm) ?_ (by rfl) (by with_unfolding_all rfl); k_whole)))) | ((fail_if_success (with_reducible show wpAny _ _ _ _ _ _)); refine FlatT.intro (by k_asm) (by k_asm) ?_) | ((with_reducible show wpAny _ _ (eval (PySem.Expr.ListComp _ _ _ _) _) _ _ _); (k_here; (with_reducible show wpAny _ _ (eval (Expr.ListComp (Expr.Name _ _) _ _ _) _) _ _ _); k_dflt (refine LCt.ListComp_T (F₀ := by k_asm) (by with_unfolding_all rfl) (by decide) (by rfl) (by decide) (by rfl) ?_))) | ((with_reducible show wpAny _ _ (assign _ _ _) _ _ _); (k_here; k_dflt (refine' unpackS_K (by k_asm) (by k_asm) (by exact rfl) (by k_mem) ?_); intro h' F' N')) | ((fail_if_success (with_reducible show wpAny _ _ _ _ _ _)); exact TrueEnd.intro (by k_asm) (by k_asm) (by first | rfl | assumption)) | ((fail_if_success (with_reducible show wpAny _ _ _ _ _ _)); (k_here; (k_dflt (refine TrueSrc.intro (by rfl) (by k_asm) (by k_asm) (by k_mem) (by first | size_fits | exact Nat.le_of_ble_eq_true rfl) (by exact Nat.le_of_ble_eq_true rfl) (fun i' v' I' oI' C' oC' D' oD' m' h' tk' E' hv' hC' hx' F' N' off' ne' => ?_) (fun D' h' tk' F' N' o1' => ?_))) <;> ((try simp only [LCg.Off3, and_true] at off'); (try simp only [LCg.Off1, and_true] at o1'); (try (obtain ⟨z', t', hq9, hz'⟩ := two_of (P := fun z => Txt.startswith z (Str.ofString "/") = true) hv' (by assumption) (by assumption); subst hq9)); (try dsimp only)))) | ((with_reducible show wpAny _ _ (eval (PySem.Expr.SetComp _ _ _ _) _) _ _ _); (k_here; k_dflt (refine SetComp_true (F₀ := by k_asm) (by rfl) (by decide) (by rfl) (by decide) (by rfl) ?_))) | ((with_reducible show wpAny _ _ (call (Value.builtin "str.split") _) _ _ _); (k_here; (with_reducible show wpAny _ _ (call (Value.builtin "str.split") _) _ _ _); k_dflt (refine KSpl.split1 (by k_asm) (by k_asm) (by decide) ?_ (by size_fits)); intro D' l' h' k' e' a' F' N' l1; (try k_lt l1); (have hlen' := len_le_of_split e'))) | ((fail_if_success (with_reducible show wpAny _ _ _ _ _ _)); (k_here; k_dflt (refine TupSrc.intro (by rfl) (by k_asm) (by k_asm) (by k_mem) (by first | size_fits | exact Nat.le_of_ble_eq_true rfl) ?_; intro g'; lcg_lit))) | ((with_reducible show wpAny _ _ (exec _ _) _ _ _); (k_here; (with_reducible show wpAny _ _ (exec (Stmt.Assign _ (Expr.ListComp (Expr.Call _ _ _ _) _ _ _) _) _) _ _ _); k_dflt (refine Assign_ListComp_W (F₀ := by k_asm) (by rfl) (by with_unfolding_all rfl) (by rfl) (by decide) (by rfl) (by decide) (by rfl) (by rfl) (by rfl) ?_))) | ((with_reducible show wpAny _ _ (exec _ _) _ _ _); (k_here; refine wpAny_Try_except ?_; (try k_fold))) | ((with_reducible show wpAny _ _ (call (Value.type "tuple") _) _ _ _); (k_here; k_dflt (refine' tup_K (by k_asm) (by k_asm) (by exact Heap.IsList.at (by k_asm) (fun o e => Fr.keep (by k_asm) _ o e)) (by k_asm) (by k_asm) (by exact rfl) (by exact Nat.le_of_ble_eq_true rfl) (by exact Nat.le_of_ble_eq_true rfl) (by refine ltN ?_; omega) (by refine ltN ?_; omega) (by refine ltN ?_; omega) (by ((repeat' first | exact List.forall_mem_nil _ | refine List.forall_mem_cons.mpr ⟨?_, ?_⟩) <;> (refine ltN ?_; (try dsimp only); omega))) ?_; k_whole; intro D' t1' t2' h' tk' F' N' l1 l2; k_lt l1; k_lt2 l2; (try k_sweep); (try k_fold)))) | ((with_reducible show wpAny _ _ (call (Value.type "map") _) _ _ _); (k_here; k_dflt (refine' map_K (by k_asm) (by k_asm) (by exact Heap.IsList.at (by k_asm) (fun o e => Fr.keep (by k_asm) _ o e)) ?_; k_whole; intro M' T' I' h' F' N' l1 l2 l3 l4; k_lt l1; k_lt2 l2; k_lt2 l3; k_lt2 l4; (try k_sweep)))) | walk1)) | (leave1; (try dsimp only)) | fail "no step"))
  all_goals (try assumption)
  all_goals first
    | exact pend_str (by assumption) (common_brk (by assumption) (by assumption) (by assumption) (by assumption) (by assumption) (by assumption) (by assumption) (by assumption))
    | exact pend_str (by assumption) (common_done (by assumption) (by assumption) (by assumption) (by assumption) (by assumption))
    | exact of_not_bne (by assumption)
end
section
open PySem PySem.W PyProof.Rows PySem.Calls
set_option maxRecDepth 100000
section
variable {prog : Program} {w : World} {A : Around} {E : Value → Shared → Prop} {s : Shared} {h₀ : Heap} {L : Addr} {m : Str → Option Value} {env : Env}
/-- a turn's end of a while that keeps a list of texts and one more local -/
noncomputable def ListStep (h₀ : Heap) (L : Addr) (x y : Str) (m : Str → Option Value) (J : Nat → Value → List (Str × Tok) → Prop) (n : Nat) (s : Shared) (f : Flow) (s₃ : Shared) : Prop :=
  f = .next ∧ ∃ h' tk a' D' k' zs' n' u v, s₃ = { s with heap := h', toks := tk } ∧ Fr h₀ L h' (fun z => if z = x then some a' else if z = y then some (.ref D') else if z = x then u else if z = y then v else m z) ∧
    News h₀ L h' [(D', ({ cls := .type "list", data := .seq (strValues zs').toArray k' } : Obj))] ∧ n' < n ∧ J n' a' zs'
theorem list_step {x y : Str} {J : Nat → Value → List (Str × Tok) → Prop} {n n' : Nat} {h' : Heap} {tk : Nat} {a' : Value} {D' : Addr} {k' : Nat} {zs' : List (Str × Tok)} {u v : Option Value} {news : List (Addr × Obj)}
    (F : Fr h₀ L h' (fun z => if z = x then some a' else if z = y then some (.ref D') else if z = x then u else if z = y then v else m z)) (N : News h₀ L h' news) {its : Array Value}
    (hm : (D', ({ cls := .type "list", data := .seq its k' } : Obj)) ∈ news) (hi : its = (strValues zs').toArray) (hn : n' < n) (hj : J n' a' zs') :
    ListStep h₀ L x y m J n s .next { s with heap := h', toks := tk } :=
  ⟨rfl, h', tk, a', D', k', zs', n', u, v, rfl, F, (fun p hp => by rw [List.mem_singleton.mp hp]; exact hi ▸ N _ hm), hn, hj⟩
theorem While_list {test : Expr} {body : List Stmt} {pos : Pos} {Q : Flow → Shared → Prop} {x y : Str} (J : Nat → Value → List (Str × Tok) → Prop) {n₀ : Nat} {a : Value} {D : Addr} {k : Nat} {zs : List (Str × Tok)} {news : List (Addr × Obj)} {its : Array Value}
    (F : Fr h₀ L s.heap (fun z => if z = x then some a else if z = y then some (.ref D) else m z)) (N : News h₀ L s.heap news) (hm : (D, ({ cls := .type "list", data := .seq its k } : Obj)) ∈ news) (hi : its = (strValues zs).toArray) (h0 : J n₀ a zs)
    (turn : ∀ n a zs D k h tk, J n a zs → Fr h₀ L h (fun z => if z = x then some a else if z = y then some (.ref D) else m z) → News h₀ L h [(D, ({ cls := .type "list", data := .seq (strValues zs).toArray k } : Obj))] →
      wpAny (model prog w) A (isTrue test env (eval test env)) (fun b s₂ => if b = true then wpAny (model prog w) A (execs body env) (ListStep h₀ L x y m J n s) E s₂ else Q .next s₂) E { s with heap := h, toks := tk })
    (hE : PassesOwn (model prog w) A env E := by passes_own) :
    wpAny (model prog w) A (exec (.While test body [] pos) env) Q E s := by
  subst hi
  refine While_inv (h₀ := h₀) (L := L) (fun n m₁ news₁ => ∃ a zs D k, m₁ = (fun z => if z = x then some a else if z = y then some (.ref D) else m z) ∧ news₁ = [(D, ({ cls := .type "list", data := .seq (strValues zs).toArray k } : Obj))] ∧ J n a zs)
    F (fun p hp => by rw [List.mem_singleton.mp hp]; exact N _ hm) ⟨a, zs, D, k, rfl, rfl, h0⟩ ?_ hE
  intro n m₁ news₁ h₁ tk₁ F₁ N₁ p91
  refine hideG fun G9 b9 => ?_
  obtain ⟨a, zs, D, k, e92, e93, hj⟩ := p91
  refine b9 ?_
  clear b9 G9
  subst e92
  subst e93
  refine wpAny_mono (turn n a zs D k h₁ tk₁ hj F₁ N₁) (fun b s₂ h₂ => ?_) fun _ _ e => e
  cases b with
  | false => exact h₂
  | true =>
    refine wpAny_mono h₂ (fun f s₃ h₃ => ?_) fun _ _ e => e
    refine hideG fun G9 b9 => ?_
    obtain ⟨e94, h', tk, a', D', k', zs', n', u, v, e95, F', N', hn, hj'⟩ := h₃
    refine b9 ?_
    clear b9 G9
    subst e94
    subst e95
    have e : (fun z => if z = x then some a' else if z = y then some (Value.ref D') else if z = x then u else if z = y then v else m z) = fun z => if z = x then some a' else if z = y then some (Value.ref D') else m z := by
      funext z
      by_cases h1 : z = x
      · simp [h1]
      · by_cases h2 : z = y
        · simp [h2]
        · simp [h1, h2]
    rw [e] at F'
    exact ⟨rfl, h', tk, _, _, n', rfl, F', N', hn, a', zs', D', k', rfl, rfl, hj'⟩
end
section
variable {prog : Program} {w : World} {A : Around} {E : Value → Shared → Prop} {s : Shared} {h₀ : Heap} {L : Addr} {m : Str → Option Value} {news : List (Addr × Obj)}
theorem addL_K {a b : Addr} {xs ys : Array Value} {k k2 : Nat} {Q : Value → Shared → Prop} (F : Fr h₀ L s.heap m) (N : News h₀ L s.heap news) (ha : (a, ({ cls := .type "list", data := .seq xs k } : Obj)) ∈ news) (hb : (b, ({ cls := .type "list", data := .seq ys k2 } : Obj)) ∈ news)
    (hz : xs.size + ys.size ≤ sizeLine) (h : ∀ D h', Fr h₀ L h' m → News h₀ L h' ((D, ({ cls := .type "list", data := .seq (xs ++ ys) } : Obj)) :: news) → (∀ p ∈ news, p.1 < D) → Q (.ref D) { s with heap := h' }) :
    wpAny (model prog w) A (binaryOp .Add (.ref a) (.ref b)) Q E s := by
  refine P.add_list (l := a) (b := b) (items := xs) (items2 := ys) (n := k) (n2 := k2) (N _ ha).1 (N _ hb).1 ?_ hz
  exact h _ _ (F.push _) (N.push F _) fun p hp => Heap.lt_size (N p hp).1
theorem cat_size {v : Value} {zs : List (Str × Tok)} (h : SmallL zs) : (#[v] : Array Value).size + (strValues zs).toArray.size ≤ sizeLine := by
  have h1 := h.1
  have h2 : (strValues zs).toArray.size = zs.length := by simp [strValues]
  rw [h2, PySem.sizeLine_eq]
  show 1 + _ ≤ _
  omega
theorem cat_strs {x : Str} {t : Tok} {zs : List (Str × Tok)} : (#[Value.str x t] : Array Value) ++ (strValues zs).toArray = (strValues ((x, t) :: zs)).toArray := by
  simp [strValues]
theorem small_cons {x : Str} {t : Tok} {zs : List (Str × Tok)} (h : SmallL zs) (hl : zs.length ≤ 9000) (hx : x.length ≤ 1000) : SmallL ((x, t) :: zs) :=
  ⟨by rw [List.length_cons]; omega, fun p hp => by rcases List.mem_cons.mp hp with rfl | hp; · exact hx
                                                   · exact h.2 p hp⟩
end
end
section
open PySem PySem.W PyProof.Rows PySem.Calls
set_option maxRecDepth 100000







noncomputable def letS (k : Nat) : Str := ⟨#[97 + k % 3]⟩
noncomputable def placeF : Nat → Nat → List Str → List Str
  | 0, _, acc => acc
  | f + 1, k, acc => if k = 0 then acc else placeF f ((k - 1) / 3) (letS (k - 1) :: acc)
noncomputable def JP (n : Nat) (k : Nat) (a : Value) (zs : List (Str × Tok)) : Prop := ∃ t, a = .int (k : Nat) t ∧ k ≤ 39 ∧ zs.length + k ≤ 39 ∧ SmallL zs ∧ placeF k k (zs.map (·.1)) = placeF (n + 1) (n + 1) []
theorem jp0 {n : Nat} {t : Tok} (hn : n ≤ 38) : JP n (n + 1) (.int ((n : Int) + 1) t) [] := ⟨t, rfl, by omega, by simp; omega, ⟨by simp, by simp⟩, rfl⟩
noncomputable def placeS (n : Nat) : Str := Str.ofString "/" ++ Txt.join (Str.ofString "/") (placeF (n + 1) (n + 1) [])
theorem item_letS : ∀ r < 3, Txt.item (Str.ofString "abc") ((r : Nat) : Int) = letS r := by decide +kernel
theorem letS_mod (k : Nat) : letS (k % 3) = letS k := by unfold letS; rw [Nat.mod_mod]
theorem place_lt {k : Nat} (hpos : 0 < (k : Int)) : (k - 1) / 3 < k := by omega
theorem placeF_any : ∀ (f g k : Nat) (acc : List Str), k ≤ f → k ≤ g → placeF f k acc = placeF g k acc
  | 0, 0, _, _, _, _ => rfl
  | 0, g + 1, k, acc, h, _ => by
    have : k = 0 := by omega
    show acc = (if k = 0 then acc else _)
    rw [if_pos this]
  | f + 1, 0, k, acc, _, h => by
    have : k = 0 := by omega
    show (if k = 0 then acc else _) = acc
    rw [if_pos this]
  | f + 1, g + 1, k, acc, h1, h2 => by
    show (if k = 0 then acc else placeF f _ _) = (if k = 0 then acc else placeF g _ _)
    by_cases hk : k = 0
    · rw [if_pos hk, if_pos hk]
    · rw [if_neg hk, if_neg hk]
      exact placeF_any f g _ _ (by omega) (by omega)
theorem place_j {n k : Nat} {zs : List (Str × Tok)} {t t2 : Tok} (hk : k ≤ 39) (hl : zs.length + k ≤ 39) (hs : SmallL zs) (hp : placeF k k (zs.map (·.1)) = placeF (n + 1) (n + 1) []) (hpos : 0 < (k : Int)) :
    JP n ((k - 1) / 3) (.int (((k : Int) - 1).fdiv 3) t) ((Txt.item (Str.ofString "abc") (((k : Int) - 1).fmod 3), t2) :: zs) := by
  have hk0 : 0 < k := by omega
  have e1 : ((k : Int) - 1).fdiv 3 = (((k - 1) / 3 : Nat) : Int) := by
    rw [Int.fdiv_eq_ediv_of_nonneg _ (by decide)]; omega
  have e2 : ((k : Int) - 1).fmod 3 = (((k - 1) % 3 : Nat) : Int) := by
    rw [Int.fmod_eq_emod_of_nonneg _ (by decide)]; omega
  have e3 : Txt.item (Str.ofString "abc") (((k : Int) - 1).fmod 3) = letS (k - 1) := by
    rw [e2, item_letS _ (Nat.mod_lt _ (by decide)), letS_mod]
  refine ⟨t, by rw [e1], by omega, by rw [List.length_cons]; omega, small_cons hs (by omega) ?_, ?_⟩
  · rw [e3]; show 1 ≤ 1000; decide
  · rw [← hp]
    obtain ⟨j, rfl⟩ : ∃ j, k = j + 1 := ⟨k - 1, by omega⟩
    show placeF _ _ (Txt.item _ _ :: _) = (if j + 1 = 0 then _ else placeF j ((j + 1 - 1) / 3) (letS (j + 1 - 1) :: _))
    rw [if_neg (by omega), e3]
    exact placeF_any _ _ _ _ (by omega) (by omega)
theorem place_end {n k : Nat} {zs : List (Str × Tok)} (hp : placeF k k (zs.map (·.1)) = placeF (n + 1) (n + 1) []) (hpos : ¬ 0 < (k : Int)) : Str.ofString "/" ++ Txt.join (Str.ofString "/") (zs.map (·.1)) = placeS n := by
  obtain rfl : k = 0 := by omega
  unfold placeS
  rw [← hp]; rfl

set_option maxHeartbeats 8000000 in
theorem place_c (w : World) (n : Nat) (t : Tok) (s : Shared) (hn : n ≤ 38) : RCall w (.ref 184) [.int n t] 950 8800 s (PStr (placeS n)) := by
  refine rcall_of (binds := [(Str.ofString "number", .int n t)]) (by k_is) (by k_is) (BindsTo.of_eq rfl) (locs rfl) rfl rfl rfl (by decide) ?_
  (
  intro loose mean mg mb g L' h₁ hst F' N' X' T';
  (try dsimp only); (try k_fold); (repeat' (first | (k_unfold; (try dsimp only)) | (k_end; wrow_close) | ((with_reducible show wpAny _ _ (exec (Stmt.While _ _ _ _) _) _ _ _); (k_here; (k_dflt (refine While_list (JP _) (by k_asm) (by k_asm) (by k_mem) (show _ = (strValues []).toArray from rfl) (jp0 (by assumption)) (fun k' a' zs' D' c' h' tk' hj' F' N' => ?_))); (obtain ⟨t', ha', hk', hl', hs', hp'⟩ := hj'; subst ha'; (try dsimp only)))) | ((with_reducible show wpAny _ _ (binaryOp Operator.Add _ _) _ _ _); (k_here; (with_reducible show wpAny _ _ (binaryOp _ (Value.ref _) (Value.ref _)) _ _ _); (k_dflt (refine addL_K (by k_asm) (by k_asm) (by k_mem) (by k_mem) (cat_size (by assumption)) ?_)); intro D' h' F' N' l1; (try k_lt l1); (try dsimp only))) | ((with_reducible show wpAny _ _ (call (Value.builtin "str.join") _) _ _ _); (k_here; (k_dflt (refine join_K (by k_asm) (by k_mem) (by first | rfl | assumption) (by first | assumption | exact small_take (by assumption)) (by exact Nat.le_of_ble_eq_true rfl) ?_)); intro t' k' hlen'; (try dsimp only))) | ((with_reducible show wpAny _ _ (eval (PySem.Expr.Name _ _) _) _ _ _); (k_here; (with_reducible show wpAny _ _ (eval (Expr.Name _ _) (compEnvC _ _ _ (compEnvC _ _ _ _))) _ _ _); k_dflt (first   | (refine' lcf_cell (by k_asm) (by rfl) (by k_mem) (by k_asm) ?_ (by rfl) (by with_unfolding_all rfl); k_whole)   | (refine' lcf_free (by k_asm) (by rfl) (by k_mem) (by k_asm) ?_ (by rfl) (by with_unfolding_all rfl); k_whole)))) | walk1 | (dsimp only; (first | ((with_reducible show wpAny _ _ (exec (Stmt.While _ _ _ _) _) _ _ _); (k_here; (k_dflt (refine While_list (JP _) (by k_asm) (by k_asm) (by k_mem) (show _ = (strValues []).toArray from rfl) (jp0 (by assumption)) (fun k' a' zs' D' c' h' tk' hj' F' N' => ?_))); (obtain ⟨t', ha', hk', hl', hs', hp'⟩ := hj'; subst ha'; (try dsimp only)))) | ((with_reducible show wpAny _ _ (binaryOp Operator.Add _ _) _ _ _); (k_here; (with_reducible show wpAny _ _ (binaryOp _ (Value.ref _) (Value.ref _)) _ _ _); (k_dflt (refine addL_K (by k_asm) (by k_asm) (by k_mem) (by k_mem) (cat_size (by assumption)) ?_)); intro D' h' F' N' l1; (try k_lt l1); (try dsimp only))) | ((with_reducible show wpAny _ _ (call (Value.builtin "str.join") _) _ _ _); (k_here; (k_dflt (refine join_K (by k_asm) (by k_mem) (by first | rfl | assumption) (by first | assumption | exact small_take (by assumption)) (by exact Nat.le_of_ble_eq_true rfl) ?_)); intro t' k' hlen'; (try dsimp only))) | ((with_reducible show wpAny _ _ (eval (PySem.Expr.Name _ _) _) _ _ _); (k_here; (with_reducible show wpAny _ _ (eval (Expr.Name _ _) (compEnvC _ _ _ (compEnvC _ _ _ _))) _ _ _); k_dflt (first   | (refine' lcf_cell (by k_asm) (by rfl) (by k_mem) (by k_asm) ?_ (by rfl) (by with_unfolding_all rfl); k_whole)   | (refine' lcf_free (by k_asm) (by rfl) (by k_mem) (by k_asm) ?_ (by rfl) (by with_unfolding_all rfl); k_whole)))) | walk1)) | (leave1; (try dsimp only)) | fail "no step")))
  · exact list_step (by k_asm) (by k_asm) (by k_mem) cat_strs (place_lt (by assumption)) (place_j (by assumption) (by assumption) (by assumption) (by assumption) (by assumption))
  · exact pend_str (by assumption) (place_end (by assumption) (by assumption))
end
section
open PySem PySem.W PyProof.Rows PySem.Calls
set_option maxRecDepth 100000







theorem stays_none {g G : Heap} (k : Stays g G) {b : Addr} (e : G.get? b = none) : g.get? b = none := by
  cases q : g.get? b with
  | none => rfl
  | some o => have := k b o q; rw [e] at this; cases this
/-- a list of texts as the value, made by the call -/
noncomputable abbrev PList (g0 : Heap) (r : List Str) : Heap → Value → Prop := fun h v => ∃ D zs k, v = .ref D ∧ g0.get? D = none ∧ h.get? D = some { cls := .type "list", data := .seq (strValues zs).toArray k } ∧ zs.map (·.1) = r ∧ SmallL zs
theorem pend_list {g s₀ : Heap} {s : Shared} {r : List Str} {L' D : Addr} {m' : Str → Option Value} {h' : Heap} {tk' k : Nat} {zs : List (Str × Tok)} {news : List (Addr × Obj)} (st : Stays s₀ g) (F : Fr g L' h' m') (N : News g L' h' news) (hm : (D, ({ cls := .type "list", data := .seq (strValues zs).toArray k } : Obj)) ∈ news) (e : zs.map (·.1) = r) (hs : SmallL zs) : PEnd g s (PList s₀ r) (.ref D) { s with heap := h', toks := tk' } :=
  ⟨L', m', h', tk', rfl, F, D, zs, k, rfl, stays_none st (N _ hm).2.2, (N _ hm).1, e, hs⟩
/-- fuel, the text, what is told -/
noncomputable def chainF : Nat → Str → List Str → Option (List Str)
  | 0, _, _ => none
  | f + 1, x, acc => if 1000 < x.length then none else if x = Str.ofString "/" then some acc else chainF f (dirS x) (x :: acc)
noncomputable def JC (r : List Str) (k : Nat) (a : Value) (zs : List (Str × Tok)) : Prop := ∃ x t, a = .str x t ∧ zs.length + k ≤ 10 ∧ SmallL zs ∧ chainF k x (zs.map (·.1)) = some r
theorem chain_len {k : Nat} {x : Str} {acc r : List Str} (h : chainF k x acc = some r) : x.length ≤ 1048576 := by
  cases k with
  | zero => cases h
  | succ k =>
    rcases Nat.lt_or_ge 1000 x.length with hl | hl
    · rw [chainF, if_pos hl] at h; cases h
    · omega
theorem jc0 {x : Str} {t : Tok} {r : List Str} (h : chainF 10 x [] = some r) : JC r 10 (.str x t) [] := ⟨x, t, rfl, by simp, ⟨by simp, by simp⟩, h⟩
theorem chain_end {k : Nat} {x : Str} {acc r : List Str} (h : chainF k x acc = some r) (hx : (x != Str.ofString "/") = false) : acc = r := by
  have e : x = Str.ofString "/" := by simpa using hx
  cases k with
  | zero => cases h
  | succ k =>
    subst e
    rw [chainF, if_neg (by decide), if_pos rfl] at h
    exact Option.some.inj h
theorem chain_lt {k : Nat} {x : Str} {acc r : List Str} (h : chainF k x acc = some r) : k - 1 < k := by
  cases k with
  | zero => cases h
  | succ k => omega
theorem chain_next {k : Nat} {x : Str} {t t2 : Tok} {zs : List (Str × Tok)} {r : List Str} (h : chainF k x (zs.map (·.1)) = some r) (hs : SmallL zs) (hl : zs.length + k ≤ 10) (hx : (x != Str.ofString "/") = true) :
    JC r (k - 1) (.str (dirS x) t) ((x, t2) :: zs) := by
  have e : x ≠ Str.ofString "/" := by simpa using hx
  cases k with
  | zero => cases h
  | succ k =>
    rcases Nat.lt_or_ge 1000 x.length with h1 | h1
    · rw [chainF, if_pos h1] at h; cases h
    · rw [chainF, if_neg (by omega), if_neg e] at h
      exact ⟨_, t, rfl, by rw [List.length_cons]; omega, small_cons hs (by omega) h1, h⟩

set_option maxHeartbeats 8000000 in
theorem chain_c (w : World) (x : Str) (r : List Str) (t : Tok) (s : Shared) (hr : chainF 10 x [] = some r) : RCall w (.ref 196) [.str x t] 950 8800 s (PList s.heap r) := by
  refine rcall_of (binds := [(Str.ofString "place", .str x t)]) (by k_is) (by k_is) (BindsTo.of_eq rfl) (locs rfl) rfl rfl rfl (by decide) ?_
  (
  intro loose mean mg mb g L' h₁ hst F' N' X' T';
  (try dsimp only); (try k_fold); (repeat' (first | (k_unfold; (try dsimp only)) | (k_end; wrow_close) | ((with_reducible show wpAny _ _ (exec (Stmt.While _ _ _ _) _) _ _ _); (k_here; (k_dflt (refine While_list (JC _) (by k_asm) (by k_asm) (by k_mem) (show _ = (strValues []).toArray from rfl) (jc0 (by assumption)) (fun k' a' zs' D' c' h' tk' hj' F' N' => ?_))); (obtain ⟨x', t', ha', hl', hs', hp'⟩ := hj'; subst ha'; have hq' := chain_len hp'; (try dsimp only)))) | ((with_reducible show wpAny _ _ (call (Value.ref _) _) _ _ _); (k_here; k_dflt (first   | (refine' rcall_use (dirname_c _ _ _ _ (by assumption)) (by k_asm) (by k_asm) (by k_asm) (by k_asm) (by exact rfl) (by exact Nat.le_of_ble_eq_true rfl) (by exact Nat.le_of_ble_eq_true rfl) ?_;   intro r9 h9 tk9 hp9 F9 N9 st9 sz9; (try (refine hideG fun G9 b9 => ?_; obtain ⟨t9, hp9⟩ := hp9; refine b9 ?_; clear b9 G9)); (try subst hp9); (try dsimp only); (try k_fold))))) | ((with_reducible show wpAny _ _ (binaryOp Operator.Add _ _) _ _ _); (k_here; (with_reducible show wpAny _ _ (binaryOp _ (Value.ref _) (Value.ref _)) _ _ _); (k_dflt (refine addL_K (by k_asm) (by k_asm) (by k_mem) (by k_mem) (cat_size (by assumption)) ?_)); intro D' h' F' N' l1; (try k_lt l1); (try dsimp only))) | ((with_reducible show wpAny _ _ (eval (PySem.Expr.Name _ _) _) _ _ _); (k_here; (with_reducible show wpAny _ _ (eval (Expr.Name _ _) (compEnvC _ _ _ (compEnvC _ _ _ _))) _ _ _); k_dflt (first   | (refine' lcf_cell (by k_asm) (by rfl) (by k_mem) (by k_asm) ?_ (by rfl) (by with_unfolding_all rfl); k_whole)   | (refine' lcf_free (by k_asm) (by rfl) (by k_mem) (by k_asm) ?_ (by rfl) (by with_unfolding_all rfl); k_whole)))) | walk1 | (dsimp only; (first | ((with_reducible show wpAny _ _ (exec (Stmt.While _ _ _ _) _) _ _ _); (k_here; (k_dflt (refine While_list (JC _) (by k_asm) (by k_asm) (by k_mem) (show _ = (strValues []).toArray from rfl) (jc0 (by assumption)) (fun k' a' zs' D' c' h' tk' hj' F' N' => ?_))); (obtain ⟨x', t', ha', hl', hs', hp'⟩ := hj'; subst ha'; have hq' := chain_len hp'; (try dsimp only)))) | ((with_reducible show wpAny _ _ (call (Value.ref _) _) _ _ _); (k_here; k_dflt (first   | (refine' rcall_use (dirname_c _ _ _ _ (by assumption)) (by k_asm) (by k_asm) (by k_asm) (by k_asm) (by exact rfl) (by exact Nat.le_of_ble_eq_true rfl) (by exact Nat.le_of_ble_eq_true rfl) ?_;   intro r9 h9 tk9 hp9 F9 N9 st9 sz9; (try (refine hideG fun G9 b9 => ?_; obtain ⟨t9, hp9⟩ := hp9; refine b9 ?_; clear b9 G9)); (try subst hp9); (try dsimp only); (try k_fold))))) | ((with_reducible show wpAny _ _ (binaryOp Operator.Add _ _) _ _ _); (k_here; (with_reducible show wpAny _ _ (binaryOp _ (Value.ref _) (Value.ref _)) _ _ _); (k_dflt (refine addL_K (by k_asm) (by k_asm) (by k_mem) (by k_mem) (cat_size (by assumption)) ?_)); intro D' h' F' N' l1; (try k_lt l1); (try dsimp only))) | ((with_reducible show wpAny _ _ (eval (PySem.Expr.Name _ _) _) _ _ _); (k_here; (with_reducible show wpAny _ _ (eval (Expr.Name _ _) (compEnvC _ _ _ (compEnvC _ _ _ _))) _ _ _); k_dflt (first   | (refine' lcf_cell (by k_asm) (by rfl) (by k_mem) (by k_asm) ?_ (by rfl) (by with_unfolding_all rfl); k_whole)   | (refine' lcf_free (by k_asm) (by rfl) (by k_mem) (by k_asm) ?_ (by rfl) (by with_unfolding_all rfl); k_whole)))) | walk1)) | (leave1; (try dsimp only)) | fail "no step")))
  · exact list_step (by k_asm) (by k_asm) (by k_mem) cat_strs (chain_lt (by assumption)) (chain_next (by assumption) (by assumption) (by assumption) (by assumption))
  · exact pend_list (by assumption) (by k_asm) (by k_asm) (by k_mem) (chain_end (by assumption) (by assumption)) (by assumption)
end
section
open PySem PySem.W PyProof.Rows PySem.Calls
set_option maxRecDepth 100000






section
variable {prog : Program} {w : World} {A : Around} {E : Value → Shared → Prop} {s : Shared} {h₀ : Heap} {L : Addr} {m : Str → Option Value} {env : Env}
/-- a turn's end of a while that keeps one local -/
noncomputable def OneStep (h₀ : Heap) (L : Addr) (x : Str) (m : Str → Option Value) (J : Nat → Value → Prop) (n : Nat) (s : Shared) (f : Flow) (s₃ : Shared) : Prop :=
  f = .next ∧ ∃ h' tk a' n' u, s₃ = { s with heap := h', toks := tk } ∧ Fr h₀ L h' (fun z => if z = x then some a' else if z = x then u else m z) ∧ n' < n ∧ J n' a'
theorem one_step {x : Str} {J : Nat → Value → Prop} {n n' : Nat} {h' : Heap} {tk : Nat} {a' : Value} {u : Option Value}
    (F : Fr h₀ L h' (fun z => if z = x then some a' else if z = x then u else m z)) (hn : n' < n) (hj : J n' a') :
    OneStep h₀ L x m J n s .next { s with heap := h', toks := tk } := ⟨rfl, h', tk, a', n', u, rfl, F, hn, hj⟩
theorem While_one {test : Expr} {body : List Stmt} {pos : Pos} {Q : Flow → Shared → Prop} {x : Str} (J : Nat → Value → Prop) {n₀ : Nat} {a : Value}
    (F : Fr h₀ L s.heap (fun z => if z = x then some a else m z)) (h0 : J n₀ a)
    (turn : ∀ n a h tk, J n a → Fr h₀ L h (fun z => if z = x then some a else m z) → News h₀ L h [] →
      wpAny (model prog w) A (isTrue test env (eval test env)) (fun b s₂ => if b = true then wpAny (model prog w) A (execs body env) (OneStep h₀ L x m J n s) E s₂ else Q .next s₂) E { s with heap := h, toks := tk })
    (hE : PassesOwn (model prog w) A env E := by passes_own) :
    wpAny (model prog w) A (exec (.While test body [] pos) env) Q E s := by
  refine While_inv (h₀ := h₀) (L := L) (news := []) (fun n m₁ news₁ => ∃ a, m₁ = (fun z => if z = x then some a else m z) ∧ J n a)
    F (fun p hp => nomatch hp) ⟨a, rfl, h0⟩ ?_ hE
  rintro n m₁ news₁ h₁ tk₁ F₁ N₁ ⟨a, rfl, hj⟩
  refine wpAny_mono (turn n a h₁ tk₁ hj F₁ (fun p hp => nomatch hp)) (fun b s₂ h₂ => ?_) fun _ _ e => e
  cases b with
  | false => exact h₂
  | true =>
    refine wpAny_mono h₂ (fun f s₃ h₃ => ?_) fun _ _ e => e
    obtain ⟨rfl, h', tk, a', n', u, rfl, F', hn, hj'⟩ := h₃
    have e : (fun z => if z = x then some a' else if z = x then u else m z) = fun z => if z = x then some a' else m z := by
      funext z
      by_cases h1 : z = x
      · simp [h1]
      · simp [h1]
    rw [e] at F'
    exact ⟨rfl, h', tk, _, [], n', rfl, F', (fun p hp => nomatch hp), hn, a', rfl, hj'⟩
end
noncomputable def branchF : Nat → Str → Str → Option Str
  | 0, _, _ => none
  | f + 1, x, above => if 1000 < x.length then none else if dirS x = above then some x else branchF f (dirS x) above
noncomputable def JB (above r : Str) (k : Nat) (a : Value) : Prop := ∃ x t, a = .str x t ∧ branchF k x above = some r
theorem branch_len {k : Nat} {x above r : Str} (h : branchF k x above = some r) : x.length ≤ 1048576 := by
  cases k with
  | zero => cases h
  | succ k =>
    rcases Nat.lt_or_ge 1000 x.length with hl | hl
    · rw [branchF, if_pos hl] at h; cases h
    · omega
theorem jb0 {x above : Str} {t : Tok} {r : Str} (h : branchF 10 x above = some r) : JB above r 10 (.str x t) := ⟨x, t, rfl, h⟩
theorem branch_end {k : Nat} {x above r : Str} (h : branchF k x above = some r) (hx : (dirS x != above) = false) : x = r := by
  have e : dirS x = above := by simpa using hx
  cases k with
  | zero => cases h
  | succ k =>
    rcases Nat.lt_or_ge 1000 x.length with hl | hl
    · rw [branchF, if_pos hl] at h; cases h
    · rw [branchF, if_neg (by omega), if_pos e] at h
      exact Option.some.inj h
theorem branch_lt {k : Nat} {x above r : Str} (h : branchF k x above = some r) : k - 1 < k := by
  cases k with
  | zero => cases h
  | succ k => omega
theorem branch_next {k : Nat} {x above r : Str} {t : Tok} (h : branchF k x above = some r) (hx : (dirS x != above) = true) : JB above r (k - 1) (.str (dirS x) t) := by
  have e : dirS x ≠ above := by simpa using hx
  cases k with
  | zero => cases h
  | succ k =>
    rcases Nat.lt_or_ge 1000 x.length with h1 | h1
    · rw [branchF, if_pos h1] at h; cases h
    · rw [branchF, if_neg (by omega), if_neg e] at h
      exact ⟨_, t, rfl, h⟩

set_option maxHeartbeats 8000000 in
theorem branch_c (w : World) (x above r : Str) (t t2 : Tok) (s : Shared) (hr : branchF 10 x above = some r) : RCall w (.ref 203) [.str x t, .str above t2] 950 8800 s (PStr r) := by
  refine rcall_of (binds := [(Str.ofString "place", .str x t), (Str.ofString "above", .str above t2)]) (by k_is) (by k_is) (BindsTo.of_eq rfl) (locs rfl) rfl rfl rfl (by decide) ?_
  (
  intro loose mean mg mb g L' h₁ hst F' N' X' T';
  (try dsimp only); (try k_fold); (repeat' (first | (k_unfold; (try dsimp only)) | (k_end; wrow_close) | ((with_reducible show wpAny _ _ (exec (Stmt.While _ _ _ _) _) _ _ _); (k_here; (k_dflt (refine While_one (JB _ _) (by k_asm) (jb0 (by assumption)) (fun k' a' h' tk' hj' F' N' => ?_))); (obtain ⟨x', t', ha', hp'⟩ := hj'; subst ha'; have hq' := branch_len hp'; (try dsimp only)))) | ((with_reducible show wpAny _ _ (call (Value.ref _) _) _ _ _); (k_here; k_dflt (first   | (refine' rcall_use (dirname_c _ _ _ _ (by assumption)) (by k_asm) (by k_asm) (by k_asm) (by k_asm) (by exact rfl) (by exact Nat.le_of_ble_eq_true rfl) (by exact Nat.le_of_ble_eq_true rfl) ?_;   intro r9 h9 tk9 hp9 F9 N9 st9 sz9; (try (refine hideG fun G9 b9 => ?_; obtain ⟨t9, hp9⟩ := hp9; refine b9 ?_; clear b9 G9)); (try subst hp9); (try dsimp only); (try k_fold))))) | ((with_reducible show wpAny _ _ (eval (PySem.Expr.Name _ _) _) _ _ _); (k_here; (with_reducible show wpAny _ _ (eval (Expr.Name _ _) (compEnvC _ _ _ (compEnvC _ _ _ _))) _ _ _); k_dflt (first   | (refine' lcf_cell (by k_asm) (by rfl) (by k_mem) (by k_asm) ?_ (by rfl) (by with_unfolding_all rfl); k_whole)   | (refine' lcf_free (by k_asm) (by rfl) (by k_mem) (by k_asm) ?_ (by rfl) (by with_unfolding_all rfl); k_whole)))) | walk1 | (dsimp only; (first | ((with_reducible show wpAny _ _ (exec (Stmt.While _ _ _ _) _) _ _ _); (k_here; (k_dflt (refine While_one (JB _ _) (by k_asm) (jb0 (by assumption)) (fun k' a' h' tk' hj' F' N' => ?_))); (obtain ⟨x', t', ha', hp'⟩ := hj'; subst ha'; have hq' := branch_len hp'; (try dsimp only)))) | ((with_reducible show wpAny _ _ (call (Value.ref _) _) _ _ _); (k_here; k_dflt (first   | (refine' rcall_use (dirname_c _ _ _ _ (by assumption)) (by k_asm) (by k_asm) (by k_asm) (by k_asm) (by exact rfl) (by exact Nat.le_of_ble_eq_true rfl) (by exact Nat.le_of_ble_eq_true rfl) ?_;   intro r9 h9 tk9 hp9 F9 N9 st9 sz9; (try (refine hideG fun G9 b9 => ?_; obtain ⟨t9, hp9⟩ := hp9; refine b9 ?_; clear b9 G9)); (try subst hp9); (try dsimp only); (try k_fold))))) | ((with_reducible show wpAny _ _ (eval (PySem.Expr.Name _ _) _) _ _ _); (k_here; (with_reducible show wpAny _ _ (eval (Expr.Name _ _) (compEnvC _ _ _ (compEnvC _ _ _ _))) _ _ _); k_dflt (first   | (refine' lcf_cell (by k_asm) (by rfl) (by k_mem) (by k_asm) ?_ (by rfl) (by with_unfolding_all rfl); k_whole)   | (refine' lcf_free (by k_asm) (by rfl) (by k_mem) (by k_asm) ?_ (by rfl) (by with_unfolding_all rfl); k_whole)))) | walk1)) | (leave1; (try dsimp only)) | fail "no step")))
  · exact one_step (by k_asm) (branch_lt (by assumption)) (branch_next (by assumption) (by assumption))
  · exact pend_str (by assumption) (branch_end (by assumption) (by assumption))
end
section
open PySem PySem.W PyProof.Rows PySem.Calls
set_option maxRecDepth 100000
noncomputable def freedO : Obj := { cls := .none, data := .freed }
/-- the heap without some of its objects -/
noncomputable def hide (S : List Addr) (h : Heap) : Heap := { h with objs := h.objs.mapIdx fun i o => if i ∈ S then freedO else o }
theorem hide_size (S : List Addr) (h : Heap) : (hide S h).objs.size = h.objs.size := by simp [hide]
theorem hide_out {S : List Addr} {h : Heap} {a : Addr} (ha : a ∉ S) : (hide S h).get? a = h.get? a := by
  unfold hide Heap.get?
  simp only [Array.getElem?_mapIdx]
  cases h.objs[a]? with
  | none => rfl
  | some o => simp [ha]
theorem hide_in {S : List Addr} {h : Heap} {a : Addr} (ha : a ∈ S) : (hide S h).get? a = none := by
  unfold hide Heap.get?
  simp only [Array.getElem?_mapIdx]
  cases h.objs[a]? with
  | none => rfl
  | some o => simp [ha, freedO]
theorem hide_sub {S : List Addr} {h : Heap} {b : Addr} {o : Obj} (e : (hide S h).get? b = some o) : h.get? b = some o := by
  by_cases hb : b ∈ S
  · rw [hide_in hb] at e; cases e
  · rw [hide_out hb] at e; exact e
/-- a call that raises nothing and keeps what g has (the tree's nodes may turn) -/
noncomputable def TCall (w : World) (f : Value) (vs : List Value) (D U : Nat) (s : Shared) (g : Heap) (Post : Heap → Value → Prop) : Prop :=
  ∀ (A : Around) (Q E : Value → Shared → Prop), A.handled = none → A.depth ≤ D → A.units ≤ U →
    (∀ r h' tk', Stays g h' → s.heap.objs.size ≤ h'.objs.size → Post h' r → Q r { s with heap := h', toks := tk' }) → wpAny (model prog w) A (call f vs) Q E s
/-- the ground of such a call: all but the nodes -/
structure Ground (w : World) (g h : Heap) (nodes : List (Addr × Obj)) : Prop where
  gd : Gd w g
  sub : ∀ b o, g.get? b = some o → h.get? b = some o
  size : g.objs.size ≤ h.objs.size
  at_ : ∀ p ∈ nodes, h.get? p.1 = some p.2 ∧ g.get? p.1 = none
/-- the nodes hidden, the rest is a ground -/
theorem ground_hide {w : World} {g₀ h : Heap} {nodes : List (Addr × Obj)} (G : Gd w g₀) (k : Stays g₀ h) (hn : ∀ p ∈ nodes, h.get? p.1 = some p.2 ∧ g₀.get? p.1 = none) : Ground w (hide (nodes.map (·.1)) h) h nodes where
  gd := G.keeps fun b o e => by
    rw [hide_out]
    · exact k b o e
    · intro hb
      obtain ⟨p, hp, rfl⟩ := List.mem_map.mp hb
      rw [(hn p hp).2] at e; cases e
  sub := fun b o e => hide_sub e
  size := Nat.le_of_eq (hide_size _ _)
  at_ := fun p hp => ⟨(hn p hp).1, hide_in (List.mem_map_of_mem (f := (·.1)) hp)⟩
section
variable {w : World} {f : Addr} {vs : List Value} {D U : Nat} {s : Shared} {Post : Heap → Value → Prop} {name qual : Str} {params : Arguments} {body : List Stmt} {scope : Scope} {dV kV doc pm cdv ct oc : Value} {an od : Option Addr} {osl : Array (Option Value)}
/-- of the text's own plain def, over a ground -/
theorem tcall_of {binds : List (Str × Value)} {g : Heap} {nodes : List (Addr × Obj)} (G : Ground w g s.heap nodes)
    (ho : (hd.heap_1 w.params).lookup f = some ⟨oc, od, .func (fnOf name qual params body scope dV kV doc pm an cdv ct), osl⟩) (hcd : codeIn (hd.heap_1 w.params) cdv qual = true)
    (hbind : BindsTo s (fnOf name qual params body scope dV kV doc pm an cdv ct) ⟨vs, []⟩ binds) (hloc : ∀ y ∈ binds, scope.names.lookup y.1 = some .local)
    (hco : scope.isCoroutine = false) (hgen : scope.isGenerator = false) (hk : scope.kind = .function) (hcell : ∀ x ∈ scope.names, x.2 ≠ .cell)
    (walk : ∀ (loose : List Str) (mean : ExcName → Option Value) (mg mb : Str → Option Value) (L' : Addr) (h₁ : Heap), Fr g L' h₁ (fun y => binds.reverse.lookup y) → News g L' h₁ nodes → s.heap.objs.size ≤ L' → (∀ b o, s.heap.get? b = some o → h₁.get? b = some o) → (hd.heap_1 w.params).In g → Top topProg loose mean mg mb g →
      wpAny (model prog w) ((room D U).deeper (envOf qual scope L' f cdv)) (execs body (envOf qual scope L' f cdv))
        (fun fl s' => PEnd g s Post (match fl with | .ret v => v | _ => .none) s' ∧ s.heap.objs.size ≤ s'.heap.objs.size) (fun _ _ => False) { s with heap := h₁, toks := s.toks + binds.length }) (hD : D < 1000 := by decide) :
    TCall w (.ref f) vs D U s g Post := by
  intro A Q E hh hd hu hret
  obtain ⟨X, loose, mean, mg, mb, T⟩ := G.gd
  have Xs := X.keeps G.sub
  refine wpAny_room hh hd hu (wpAny_call ?_)
  refine codeAny_call_function (fd := fnOf name qual params body scope dV kV doc pm an cdv ct) (body := body) (by show D < recursionLimit; exact hD) (Xs _ _ ho) rfl hco hgen rfl (codeRec_of Xs hcd) (hbind _ _ _ _ ?_)
  refine wpAny_newFunctionEnv (s := s) hcell hloc (fun h₁ hns hsb => ⟨((T.nolimit.keeps G.sub)).fresh _ hsb, codeAny_func ?_⟩) hk
  have hk₁ : ∀ b o, s.heap.get? b = some o → h₁.get? b = some o := fun b o e => hsb.extBut b o (Nat.ne_of_lt (Heap.lt_size e)) (Heap.get?_push_of_some _ e)
  refine wpAny_mono (walk loose mean mg mb s.heap.objs.size h₁ ⟨hns, fun b o e => hk₁ _ _ (G.sub b o e), G.size⟩ (fun p hp => ⟨hk₁ _ _ (G.at_ p hp).1, Nat.ne_of_lt (Heap.lt_size (G.at_ p hp).1), (G.at_ p hp).2⟩) (Nat.le_refl _) hk₁ X T) (fun fl s' hl => ?_) fun _ _ x => x.elim
  obtain ⟨⟨L2, m2, h2, tk2, e, F2, hp⟩, hz⟩ := hl
  subst e
  exact hret _ _ _ (fun b o e => F2.keep _ _ e) hz hp
end
end
section
open PySem PySem.W PyProof.Rows PySem.Calls
set_option maxRecDepth 100000
/-- a place: its names, the last ahead -/
noncomputable abbrev Place := List Str
noncomputable def isDir (W : List (Place × Bool)) (p : Place) : Prop := p = [] ∨ (p, false) ∈ W
noncomputable def kidOf (p : Place) : Place × Bool → Option Str
  | (n :: r, _) => if r = p then some n else none
  | _ => none
noncomputable def kidNames (W : List (Place × Bool)) (p : Place) : List Str := W.filterMap (kidOf p)
theorem kidNames_mem {W : List (Place × Bool)} {p : Place} {n : Str} : n ∈ kidNames W p ↔ ∃ b, (n :: p, b) ∈ W := by
  unfold kidNames
  rw [List.mem_filterMap]
  constructor
  · rintro ⟨⟨q, b⟩, hq, he⟩
    cases q with
    | nil => cases he
    | cons a r =>
      by_cases h : r = p
      · subst h
        simp only [kidOf, if_true] at he
        cases he
        exact ⟨b, hq⟩
      · simp only [kidOf, if_neg h] at he
        cases he
  · rintro ⟨b, h⟩
    exact ⟨_, h, by simp [kidOf]⟩
theorem kidNames_len (W : List (Place × Bool)) (p : Place) : (kidNames W p).length ≤ W.length := List.length_filterMap_le _ _
theorem kidNames_add (W : List (Place × Bool)) (p q : Place) (n : Str) (b : Bool) : kidNames (W ++ [(n :: p, b)]) q = kidNames W q ++ (if p = q then [n] else []) := by
  unfold kidNames
  rw [List.filterMap_append]
  by_cases h : p = q
  · simp [kidOf, h]
  · simp [kidOf, h]
structure WOk (W : List (Place × Bool)) : Prop where
  nodup : (W.map (·.1)).Nodup
  up : ∀ n p b, (n :: p, b) ∈ W → isDir W p
  root : ∀ b, ([], b) ∉ W
theorem WOk.one {W : List (Place × Bool)} (K : WOk W) {p : Place} {b c : Bool} (h1 : (p, b) ∈ W) (h2 : (p, c) ∈ W) : b = c := by
  have : ∀ {l : List (Place × Bool)}, (l.map (·.1)).Nodup → (p, b) ∈ l → (p, c) ∈ l → b = c := by
    intro l
    induction l with
    | nil => intro _ h; cases h
    | cons a r ih =>
      intro hn h1 h2
      rw [List.map_cons, List.nodup_cons] at hn
      rcases List.mem_cons.mp h1 with e1 | e1
      · rcases List.mem_cons.mp h2 with e2 | e2
        · rw [← e1] at e2; exact (congrArg Prod.snd e2).symm
        · exact absurd (List.mem_map_of_mem (f := (·.1)) e2) (by rw [← e1] at hn; exact hn.1)
      · rcases List.mem_cons.mp h2 with e2 | e2
        · exact absurd (List.mem_map_of_mem (f := (·.1)) e1) (by rw [← e2] at hn; exact hn.1)
        · exact ih hn.2 e1 e2
  exact this K.nodup h1 h2
theorem isDir.add {W : List (Place × Bool)} {p : Place} {q : Place × Bool} (h : isDir W p) : isDir (W ++ [q]) p := h.elim .inl fun h => .inr (List.mem_append_left _ h)
theorem WOk.add {W : List (Place × Bool)} (K : WOk W) {n : Str} {p : Place} {b : Bool} (hp : isDir W p) (hn : ∀ b, (n :: p, b) ∉ W) : WOk (W ++ [(n :: p, b)]) where
  nodup := by
    rw [List.map_append, List.nodup_append]
    refine ⟨K.nodup, by simp, ?_⟩
    intro a ha c hc
    simp only [List.map_cons, List.map_nil, List.mem_singleton] at hc
    subst hc
    rintro rfl
    obtain ⟨⟨q, c⟩, hq, e⟩ := List.mem_map.mp ha
    subst e
    exact hn c hq
  up := fun m q c h => by
    rcases List.mem_append.mp h with h | h
    · exact (K.up m q c h).add
    · rw [List.mem_singleton] at h
      cases h
      exact hp.add
  root := fun c h => by
    rcases List.mem_append.mp h with h | h
    · exact K.root c h
    · rw [List.mem_singleton] at h; cases h
structure Kvs (W : List (Place × Bool)) (ad : Place → Addr) (p : Place) (kvs : List (Str × Value)) : Prop where
  names : kvs.map (·.1) = kidNames W p
  val : ∀ n v, (n, v) ∈ kvs → ((n :: p, true) ∈ W ∧ ∃ t, v = .str (Str.ofString "") t) ∨ ((n :: p, false) ∈ W ∧ v = .ref (ad (n :: p)))
structure Tree (w : World) (W : List (Place × Bool)) (ad : Place → Addr) (nl : List (Addr × Obj)) : Prop where
  ok : WOk W
  nodup : (nl.map (·.1)).Nodup
  node : ∀ p, isDir W p → ∃ o kvs, (ad p, o) ∈ nl ∧ o.IsDictOf (strKind prog w) kvs ∧ Kvs W ad p kvs
  inj : ∀ p q, isDir W p → isDir W q → ad p = ad q → p = q
  low : ∀ p, isDir W p → (ad p == sysModules) = false
section
variable {w : World} {W : List (Place × Bool)} {ad : Place → Addr} {nl : List (Addr × Obj)} {p : Place} {kvs : List (Str × Value)}
theorem valueAt_find (kvs : List (Str × Value)) (n : Str) : (∃ v, (n, v) ∈ kvs ∧ valueAt kvs n = some v) ∨ (n ∉ kvs.map (·.1) ∧ valueAt kvs n = none) := by
  unfold valueAt
  cases h : kvs.find? fun kv => kv.1 = n with
  | none =>
    right
    refine ⟨fun hm => ?_, rfl⟩
    obtain ⟨q, hq, e⟩ := List.mem_map.mp hm
    have := List.find?_eq_none.mp h q hq
    simp [e] at this
  | some q =>
    left
    have h1 := List.find?_some h
    have h2 := List.mem_of_find?_eq_some h
    simp only [decide_eq_true_eq] at h1
    refine ⟨q.2, ?_, rfl⟩
    rw [← h1]; exact h2
theorem Kvs.look (K : Kvs W ad p kvs) (n : Str) : ((∀ b, (n :: p, b) ∉ W) ∧ valueAt kvs n = none) ∨ ((n :: p, false) ∈ W ∧ valueAt kvs n = some (.ref (ad (n :: p)))) ∨ ((n :: p, true) ∈ W ∧ ∃ t, valueAt kvs n = some (.str (Str.ofString "") t)) := by
  rcases valueAt_find kvs n with ⟨v, hm, he⟩ | ⟨hm, he⟩
  · rcases K.val n v hm with ⟨h, t, rfl⟩ | ⟨h, rfl⟩
    · exact .inr (.inr ⟨h, t, he⟩)
    · exact .inr (.inl ⟨h, he⟩)
  · refine .inl ⟨fun b hb => hm ?_, he⟩
    rw [K.names]
    exact kidNames_mem.mpr ⟨b, hb⟩
theorem Kvs.size (K : Kvs W ad p kvs) : kvs.length ≤ W.length := by
  have := congrArg List.length K.names
  rw [List.length_map] at this
  rw [this]
  exact kidNames_len W p
/-- a node takes up one more name -/
theorem Kvs.put (K : Kvs W ad p kvs) {n : Str} {b : Bool} {v : Value} {dn : Addr} (hn : ∀ b, (n :: p, b) ∉ W) (hv : (b = true ∧ ∃ t, v = .str (Str.ofString "") t) ∨ (b = false ∧ v = .ref dn)) :
    Kvs (W ++ [(n :: p, b)]) (fun q => if q = n :: p then dn else ad q) p (stored kvs n v) := by
  have he : valueAt kvs n = none := by
    rcases K.look n with ⟨_, h⟩ | ⟨h, _⟩ | ⟨h, _⟩
    · exact h
    · exact absurd h (hn _)
    · exact absurd h (hn _)
  rw [stored_absent he]
  refine ⟨?_, ?_⟩
  · rw [kidNames_add, List.map_append, K.names, if_pos rfl]; rfl
  · intro m u hm
    rcases List.mem_append.mp hm with hm' | hm
    · have hne : m ≠ n := fun e => by
        subst e
        rcases K.val m u hm' with ⟨h, _⟩ | ⟨h, _⟩
        · exact hn _ h
        · exact hn _ h
      rcases K.val m u hm' with ⟨h, r⟩ | ⟨h, e⟩
      · exact .inl ⟨List.mem_append_left _ h, r⟩
      · refine .inr ⟨List.mem_append_left _ h, ?_⟩
        have : ¬ (m :: p = n :: p) := fun q => hne (List.cons.inj q).1
        simp only [if_neg this]
        exact e
    · rw [List.mem_singleton] at hm
      cases hm
      rcases hv with ⟨rfl, r⟩ | ⟨rfl, r⟩
      · exact .inl ⟨by simp, r⟩
      · exact .inr ⟨by simp, by simp [r]⟩
theorem Kvs.keep (K : Kvs W ad p kvs) {n : Str} {q : Place} {b : Bool} {dn : Addr} (hn : ∀ b, (n :: q, b) ∉ W) (hq : q ≠ p) :
    Kvs (W ++ [(n :: q, b)]) (fun z => if z = n :: q then dn else ad z) p kvs := by
  refine ⟨?_, ?_⟩
  · rw [kidNames_add, K.names, if_neg hq, List.append_nil]
  · intro m u hm
    rcases K.val m u hm with ⟨h, r⟩ | ⟨h, e⟩
    · exact .inl ⟨List.mem_append_left _ h, r⟩
    · refine .inr ⟨List.mem_append_left _ h, ?_⟩
      have : ¬ (m :: p = n :: q) := fun z => hq (List.cons.inj z).2.symm
      simp only [if_neg this]
      exact e
theorem isDir_add {n : Str} {q z : Place} {b : Bool} : isDir (W ++ [(n :: q, b)]) z ↔ isDir W z ∨ (b = false ∧ z = n :: q) := by
  unfold isDir
  rw [List.mem_append, List.mem_singleton]
  constructor
  · rintro (h | h | h)
    · exact .inl (.inl h)
    · exact .inl (.inr h)
    · cases h; exact .inr ⟨rfl, rfl⟩
  · rintro ((h | h) | ⟨rfl, rfl⟩)
    · exact .inl h
    · exact .inr (.inl h)
    · exact .inr (.inr rfl)
/-- all but one address -/
noncomputable def offA (d : Addr) (nl : List (Addr × Obj)) : List (Addr × Obj) := nl.filter fun q => decide (q.1 ≠ d)
theorem offA_mem {d : Addr} {q : Addr × Obj} : q ∈ offA d nl ↔ q ∈ nl ∧ q.1 ≠ d := by simp [offA]
theorem offA_ne {d : Addr} : ∀ q ∈ offA d nl, q.1 ≠ d := fun _ h => (offA_mem.mp h).2
theorem offA_sub {d : Addr} : ∀ q ∈ offA d nl, q ∈ nl := fun _ h => (offA_mem.mp h).1
theorem offA_nodup {d : Addr} (h : (nl.map (·.1)).Nodup) : ((offA d nl).map (·.1)).Nodup := h.sublist (List.Sublist.map _ List.filter_sublist)
theorem ledger_one {d : Addr} {o o' : Obj} (h : (nl.map (·.1)).Nodup) (h1 : (d, o) ∈ nl) (h2 : (d, o') ∈ nl) : o = o' := by
  induction nl with
  | nil => cases h1
  | cons a r ih =>
    rw [List.map_cons, List.nodup_cons] at h
    rcases List.mem_cons.mp h1 with e1 | e1
    · rcases List.mem_cons.mp h2 with e2 | e2
      · rw [← e1] at e2; exact (congrArg Prod.snd e2).symm
      · exact absurd (List.mem_map_of_mem (f := (·.1)) e2) (by rw [← e1] at h; exact h.1)
    · rcases List.mem_cons.mp h2 with e2 | e2
      · exact absurd (List.mem_map_of_mem (f := (·.1)) e1) (by rw [← e2] at h; exact h.1)
      · exact ih h.2 e1 e2
theorem not_dir_new {n : Str} (hn : ∀ b, (n :: p, b) ∉ W) : ¬ isDir W (n :: p) := fun h => h.elim (fun e => by cases e) (hn _)
theorem Tree.addDir (T : Tree w W ad nl) (hp : isDir W p) {n : Str} (hn : ∀ b, (n :: p, b) ∉ W) {dn : Addr} {o' on : Obj} (hk : Kvs W ad p kvs) (ho' : o'.IsDictOf (strKind prog w) (stored kvs n (.ref dn)))
    (hon : on.IsDictOf (strKind prog w) []) (hdn : ∀ q ∈ nl, q.1 ≠ dn) (hlow : (dn == sysModules) = false) :
    Tree w (W ++ [(n :: p, false)]) (fun q => if q = n :: p then dn else ad q) ((ad p, o') :: (dn, on) :: offA (ad p) nl) := by
  have off : ∀ z, isDir W z → z ≠ n :: p := fun z hz e => not_dir_new hn (e ▸ hz)
  have adn : ∀ z, isDir W z → ad z ≠ dn := fun z hz => by
    obtain ⟨o, _, h, _⟩ := T.node z hz
    exact hdn _ h
  refine ⟨T.ok.add hp hn, ?_, ?_, ?_, ?_⟩
  · rw [List.map_cons, List.map_cons, List.nodup_cons, List.nodup_cons]
    refine ⟨?_, ?_, offA_nodup T.nodup⟩
    · rw [List.mem_cons]
      rintro (h | h)
      · exact adn p hp h
      · obtain ⟨q, hq, e⟩ := List.mem_map.mp h
        exact offA_ne q hq e
    · intro h
      obtain ⟨q, hq, e⟩ := List.mem_map.mp h
      exact hdn q (offA_sub q hq) e
  · intro z hz
    rcases isDir_add.mp hz with hz | ⟨_, rfl⟩
    · rw [if_neg (off z hz)]
      by_cases e : z = p
      · subst e
        exact ⟨o', _, .head _, ho', hk.put hn (.inr ⟨rfl, rfl⟩)⟩
      · obtain ⟨o, kvs', h1, h2, h3⟩ := T.node z hz
        exact ⟨o, kvs', .tail _ (.tail _ (offA_mem.mpr ⟨h1, fun q => e (T.inj _ _ hz hp q)⟩)), h2, h3.keep hn (Ne.symm e)⟩
    · rw [if_pos rfl]
      refine ⟨on, [], .tail _ (.head _), hon, ⟨?_, fun _ _ h => nomatch h⟩⟩
      rw [kidNames_add, if_neg (fun e => by have := congrArg List.length e; simp at this), List.append_nil]
      symm
      rw [List.map_nil]
      cases hh : kidNames W (n :: p) with
      | nil => rfl
      | cons m r =>
        obtain ⟨b, hb⟩ := kidNames_mem.mp (hh ▸ List.mem_cons_self : m ∈ kidNames W (n :: p))
        exact absurd (T.ok.up _ _ _ hb) (not_dir_new hn)
  · intro z y hz hy e
    rcases isDir_add.mp hz with hz | ⟨_, rfl⟩
    · rw [if_neg (off z hz)] at e
      rcases isDir_add.mp hy with hy | ⟨_, rfl⟩
      · rw [if_neg (off y hy)] at e; exact T.inj _ _ hz hy e
      · rw [if_pos rfl] at e; exact absurd e (adn z hz)
    · rw [if_pos rfl] at e
      rcases isDir_add.mp hy with hy | ⟨_, rfl⟩
      · rw [if_neg (off y hy)] at e; exact absurd e.symm (adn y hy)
      · rfl
  · intro z hz
    rcases isDir_add.mp hz with hz | ⟨_, rfl⟩
    · rw [if_neg (off z hz)]; exact T.low z hz
    · rw [if_pos rfl]; exact hlow
theorem Tree.addFile (T : Tree w W ad nl) (hp : isDir W p) {n : Str} (hn : ∀ b, (n :: p, b) ∉ W) {o' : Obj} {t : Tok} (hk : Kvs W ad p kvs) (ho' : o'.IsDictOf (strKind prog w) (stored kvs n (.str (Str.ofString "") t))) :
    Tree w (W ++ [(n :: p, true)]) ad ((ad p, o') :: offA (ad p) nl) := by
  have eta : (fun q => if q = n :: p then ad (n :: p) else ad q) = ad := by
    funext q
    by_cases h : q = n :: p
    · rw [if_pos h, h]
    · rw [if_neg h]
  refine ⟨T.ok.add hp hn, ?_, ?_, ?_, ?_⟩
  · rw [List.map_cons, List.nodup_cons]
    refine ⟨?_, offA_nodup T.nodup⟩
    intro h
    obtain ⟨q, hq, e⟩ := List.mem_map.mp h
    exact offA_ne q hq e
  · intro z hz
    rcases isDir_add.mp hz with hz | ⟨h, _⟩
    · by_cases e : z = p
      · subst e
        have := hk.put (dn := ad (n :: z)) hn (.inl ⟨rfl, t, rfl⟩)
        rw [eta] at this
        exact ⟨o', _, .head _, ho', this⟩
      · obtain ⟨o, kvs', h1, h2, h3⟩ := T.node z hz
        have := h3.keep (b := true) (dn := ad (n :: p)) hn (Ne.symm e)
        rw [eta] at this
        exact ⟨o, kvs', .tail _ (offA_mem.mpr ⟨h1, fun q => e (T.inj _ _ hz hp q)⟩), h2, this⟩
    · cases h
  · intro z y hz hy e
    rcases isDir_add.mp hz with hz | ⟨h, _⟩
    · rcases isDir_add.mp hy with hy | ⟨h, _⟩
      · exact T.inj _ _ hz hy e
      · cases h
    · cases h
  · intro z hz
    rcases isDir_add.mp hz with hz | ⟨h, _⟩
    · exact T.low z hz
    · cases h
end
/-- a folder is put in where nothing stands -/
noncomputable def insA (W : List (Place × Bool)) (p : Place) : List (Place × Bool) := if p ∈ W.map (·.1) then W else W ++ [(p, false)]
noncomputable def goW : List Str → Place → List (Place × Bool) → List (Place × Bool)
  | [], _, W => W
  | n :: ns, p, W => goW ns (n :: p) (insA W (n :: p))
noncomputable def barred : List Str → Place → List (Place × Bool) → Prop
  | [], _, _ => False
  | n :: ns, p, W => (n :: p, true) ∈ W ∨ barred ns (n :: p) W
theorem insA_file {W : List (Place × Bool)} {p q : Place} : (q, true) ∈ insA W p ↔ (q, true) ∈ W := by
  unfold insA
  split
  · exact Iff.rfl
  · rw [List.mem_append, List.mem_singleton]
    exact ⟨fun h => h.elim id fun e => (nomatch e), .inl⟩
theorem insA_none {W : List (Place × Bool)} {p : Place} (h : ∀ b, (p, b) ∉ W) : insA W p = W ++ [(p, false)] := by
  unfold insA
  rw [if_neg]
  intro hm
  obtain ⟨⟨q, b⟩, hq, e⟩ := List.mem_map.mp hm
  subst e
  exact h b hq
theorem insA_some {W : List (Place × Bool)} {p : Place} {b : Bool} (h : (p, b) ∈ W) : insA W p = W := by
  unfold insA
  rw [if_pos (List.mem_map_of_mem (f := (·.1)) h)]
theorem barred_congr {W V : List (Place × Bool)} (h : ∀ q, (q, true) ∈ W ↔ (q, true) ∈ V) : ∀ ns p, barred ns p W ↔ barred ns p V
  | [], _ => Iff.rfl
  | n :: ns, p => by simp only [barred, h, barred_congr h ns (n :: p)]
theorem barred_dir {W : List (Place × Bool)} (K : WOk W) : ∀ ns n p, barred ns (n :: p) W → isDir W (n :: p)
  | [], _, _, h => h.elim
  | m :: ns, n, p, h => by
    rcases h with h | h
    · exact K.up _ _ _ h
    · rcases barred_dir K ns m (n :: p) h with e | h
      · cases e
      · exact K.up _ _ _ h
end
section
open PySem PySem.W PyProof.Rows PySem.Calls
set_option maxRecDepth 100000
section
variable {w : World} {A : Around} {E : Value → Shared → Prop} {s : Shared} {h₀ : Heap} {m : Str → Option Value} {env : Env}
noncomputable def GocNew (h₀ : Heap) (L : Addr) (w : World) (xk xc : Str) (m : Str → Option Value) (d : Addr) (kvs : List (Str × Value)) (n : Str) (R : List (Addr × Obj)) (s : Shared) (f : Flow) (s₂ : Shared) : Prop :=
  f = .next ∧ ∃ h' tk o' dn on u, s₂ = { s with heap := h', toks := tk } ∧ Fr h₀ L h' (fun y => if y = xc then some (.ref dn) else if y = xk then u else m y) ∧ News h₀ L h' ((d, o') :: (dn, on) :: R) ∧
    o'.IsDictOf (strKind prog w) (stored kvs n (.ref dn)) ∧ on.IsDictOf (strKind prog w) [] ∧ (∀ q ∈ R, q.1 < dn) ∧ d < dn ∧ (dn == sysModules) = false
noncomputable def GocOld (h₀ : Heap) (L : Addr) (xk xc : Str) (m : Str → Option Value) (d1 : Addr) (R : List (Addr × Obj)) (s : Shared) (f : Flow) (s₂ : Shared) : Prop :=
  f = .next ∧ ∃ h' tk u, s₂ = { s with heap := h', toks := tk } ∧ Fr h₀ L h' (fun y => if y = xc then some (.ref d1) else if y = xk then u else m y) ∧ News h₀ L h' R
theorem take_succ_rev {α : Type} {l : List α} {i : Nat} {a : α} (h : l[i]? = some a) : (l.take (i + 1)).reverse = a :: (l.take i).reverse := by
  rw [List.take_add_one, h]; simp
theorem drop_at {α : Type} {l : List α} {i : Nat} {a : α} (h : l[i]? = some a) : l.drop i = a :: l.drop (i + 1) := by
  obtain ⟨hi, rfl⟩ := List.getElem?_eq_some_iff.mp h
  exact List.drop_eq_getElem_cons hi
noncomputable def GocFile (w : World) (W : List (Place × Bool)) (ad : Place → Addr) (ns : List Str) (nl rest R : List (Addr × Obj)) : Prop :=
  barred ns [] W ∧ ∃ ad' nl', Tree w W ad' nl' ∧ ad' [] = ad [] ∧ (∀ q ∈ nl' ++ rest, q ∈ R) ∧ ∀ q ∈ rest, ∀ r ∈ nl', q.1 ≠ r.1
theorem goc_loop {xk xc : Str} {body : List Stmt} {Q : Flow → Shared → Prop} {t : Addr} {ns : List (Str × Tok)} {nl rest news : List (Addr × Obj)} {W : List (Place × Bool)} {ad : Place → Addr}
    (hh : A.handled = none) (hne : xc ≠ xk) (F : Fr h₀ env.locals s.heap m) (hc : m xc = some (.ref (ad []))) (N : News h₀ env.locals s.heap news)
    (hnl : ∀ q ∈ nl, q ∈ news) (hrest : ∀ q ∈ rest, q ∈ news) (hm : (t, tupO (strValues ns)) ∈ rest) (off : ∀ q ∈ rest, ∀ r ∈ nl, q.1 ≠ r.1) (T : Tree w W ad nl) (hsz : W.length + ns.length ≤ 1000)
    (missing : ∀ n u d o kvs R h tk, o.IsDictOf (strKind prog w) kvs → valueAt kvs n = none → (valueAt kvs n).isSome = false → valueAt (stored kvs n (.none)) n = some .none → (d == sysModules) = false → kvs.length ≤ sizeLine → (∀ q ∈ R, q.1 ≠ d) →
      Fr h₀ env.locals h (fun y => if y = xk then some (.str n u) else if y = xc then some (.ref d) else m y) → News h₀ env.locals h ((d, o) :: R) →
      wpAny (model prog w) A (execs body env) (GocNew h₀ env.locals w xk xc m d kvs n R { s with heap := h, toks := tk }) E { s with heap := h, toks := tk })
    (folder : ∀ n u d o kvs d1 o1 kvs1 R h tk, o.IsDictOf (strKind prog w) kvs → valueAt kvs n = some (.ref d1) → (valueAt kvs n).isSome = true → (d == sysModules) = false → o1.IsDictOf (strKind prog w) kvs1 → (d1 == sysModules) = false →
      Fr h₀ env.locals h (fun y => if y = xk then some (.str n u) else if y = xc then some (.ref d) else m y) → News h₀ env.locals h ((d, o) :: (d1, o1) :: R) →
      wpAny (model prog w) A (execs body env) (GocOld h₀ env.locals xk xc m d1 R { s with heap := h, toks := tk }) E { s with heap := h, toks := tk })
    (file : ∀ n u d o kvs t1 R h tk, o.IsDictOf (strKind prog w) kvs → valueAt kvs n = some (.str (Str.ofString "") t1) → (valueAt kvs n).isSome = true → (d == sysModules) = false → GocFile w W ad (ns.map (·.1)) nl rest R →
      Fr h₀ env.locals h (fun y => if y = xk then some (.str n u) else if y = xc then some (.ref d) else m y) → News h₀ env.locals h ((d, o) :: R) →
      wpAny (model prog w) A (execs body env) (fun _ _ => False) E { s with heap := h, toks := tk })
    (done : ∀ W' ad' nl' u h tk, W' = goW (ns.map (·.1)) [] W → ¬ barred (ns.map (·.1)) [] W → Tree w W' ad' nl' → ad' [] = ad [] → isDir W' (ns.map (·.1)).reverse → W'.length ≤ W.length + ns.length → (∀ q ∈ rest, ∀ r ∈ nl', q.1 ≠ r.1) →
      Fr h₀ env.locals h (fun y => if y = xc then some (.ref (ad' (ns.map (·.1)).reverse)) else if y = xk then u else m y) → News h₀ env.locals h (nl' ++ rest) → Q .next { s with heap := h, toks := tk }) :
    wpAny (model prog w) A (pyIter (.ref t)) (fun it s₂ => LoopAtV prog w A h₀ env xk body Q E it s₂) E s := by
  have hlt := (N _ (hrest _ hm)).1
  have htup : s.heap.IsTuple t (strValues ns).toArray := ⟨_, hlt, rfl, _, rfl⟩
  have hlt' : t < s.heap.objs.size := Heap.lt_size hlt
  refine wpAny_pyIter_tuple htup ?_
  have W0 := Walks.tuple (prog := prog) (w := w) (A := A) hh s.heap.objs.size t (Nat.ne_of_lt hlt') (strValues ns).toArray
  have hlen : (strValues ns).toArray.size = ns.length := by simp [strValues]
  rw [hlen] at W0
  generalize hI : s.heap.objs.size = I at *
  have hIn : h₀.get? I = none := by rw [← hI]; exact next_is_new F
  have nI : ∀ q ∈ news, q.1 ≠ I := fun q hq e => by
    have := Heap.lt_size (N q hq).1
    rw [hI, e] at this
    exact absurd this (Nat.lt_irrefl _)
  let J : Nat → (Str → Option Value) → List (Addr × Obj) → Prop := fun i m₁ news₁ => ∃ W' ad' nl', news₁ = nl' ++ rest ∧ (∃ u, m₁ = fun y => if y = xc then some (.ref (ad' ((ns.map (·.1)).take i).reverse)) else if y = xk then u else m y) ∧
    Tree w W' ad' nl' ∧ ad' [] = ad [] ∧ isDir W' ((ns.map (·.1)).take i).reverse ∧ goW ((ns.map (·.1)).drop i) ((ns.map (·.1)).take i).reverse W' = goW (ns.map (·.1)) [] W ∧
    (barred ((ns.map (·.1)).drop i) ((ns.map (·.1)).take i).reverse W' ↔ barred (ns.map (·.1)) [] W) ∧ (barred ((ns.map (·.1)).drop i) ((ns.map (·.1)).take i).reverse W' → W' = W) ∧ W'.length ≤ W.length + i ∧ ∀ q ∈ rest, ∀ r ∈ nl', q.1 ≠ r.1
  refine ⟨_, _, _, ns.length, _, _, m, nl ++ rest, J, rfl, W0, ?_, ?_, ?_, ⟨⟨_, hI ▸ Heap.get?_push_size _ rfl, rfl, rfl⟩, htup.at fun o e => Heap.get?_push_of_some _ e⟩, F.push _, ?_, ?_, ?_, ?_⟩
  · intro hm'
    rcases List.mem_cons.mp hm' with e | hm'
    · exact absurd F.ns.lt (by rw [e, hI]; exact Nat.lt_irrefl _)
    · exact (N _ (hrest _ hm)).2.1 (List.mem_singleton.mp hm').symm
  · intro b hb
    rw [List.mem_singleton.mp hb]; exact hIn
  · intro q hq hb
    exact nI q ((List.mem_append.mp hq).elim (hnl q) (hrest q)) (List.mem_singleton.mp hb)
  · intro q hq
    have := N q ((List.mem_append.mp hq).elim (hnl q) (hrest q))
    exact ⟨Heap.get?_push_of_some _ this.1, this.2⟩
  · refine ⟨W, ad, nl, rfl, ⟨m xk, ?_⟩, T, rfl, .inl rfl, by simp, by simp, fun _ => rfl, Nat.le_refl _, off⟩
    funext y
    by_cases h1 : y = xc
    · rw [if_pos h1, h1, hc]; rfl
    · rw [if_neg h1]
      by_cases h2 : y = xk
      · rw [if_pos h2, h2]
      · rw [if_neg h2]
  · intro i v m₁ news₁ s₁ own p91 hi hP p93 hnw hown hownat hownall hst F₁ N₁
    refine hideG fun G9 b9 => ?_
    obtain ⟨h, tk, e92⟩ := p91
    obtain ⟨W', ad', nl', e94, ⟨u, e95⟩, T', hroot, hdir, hgo, hbar, hsame, hlen', off'⟩ := p93
    refine b9 ?_
    clear b9 G9
    subst e92
    subst e94
    subst e95
    have hv : (strValues ns)[i]? = some v := by simpa using hP
    obtain ⟨⟨n, tn⟩, hn, rfl⟩ : ∃ p : Str × Tok, ns[i]? = some p ∧ .str p.1 p.2 = v := by
      rw [strValues, List.getElem?_map] at hv
      cases hq : ns[i]? with
      | none => rw [hq] at hv; cases hv
      | some p => rw [hq] at hv; exact ⟨p, rfl, Option.some.inj hv⟩
    have hn' : (ns.map (·.1))[i]? = some n := by rw [List.getElem?_map, hn]; rfl
    generalize hp : ((ns.map (·.1)).take i).reverse = p at *
    have hp1 : ((ns.map (·.1)).take (i + 1)).reverse = n :: p := by rw [take_succ_rev hn', hp]
    rw [drop_at hn'] at hgo hbar hsame
    simp only [goW, barred] at hgo hbar hsame
    have em : (fun y => if y = xk then some (Value.str n tn) else (if y = xc then some (Value.ref (ad' p)) else if y = xk then u else m y)) = fun y => if y = xk then some (Value.str n tn) else if y = xc then some (Value.ref (ad' p)) else m y := by
      funext y
      by_cases h1 : y = xk
      · simp [h1]
      · simp [h1]
    rw [em] at F₁
    refine hideG fun G9 b9 => ?_
    obtain ⟨o, kvs, hmo, hdo, hk⟩ := T'.node p hdir
    refine b9 ?_
    clear b9 G9
    have hksz : kvs.length ≤ sizeLine := Nat.le_trans hk.size (Nat.le_trans hlen' (Nat.le_trans (Nat.add_le_add_left (Nat.le_of_lt hi) _) (Nat.le_trans hsz (by decide))))
    obtain ⟨oI, hoI⟩ : ∃ o, h.get? I = some o := by
      obtain ⟨⟨o, ho, _⟩, _⟩ := hst
      exact ⟨o, ho⟩
    have hIown : (I, oI) ∈ own := hownall I (by simp) hIn oI hoI
    have ownd : ∀ q ∈ own, ∀ r ∈ nl', q.1 ≠ r.1 := fun q hq r hr e => by
      rcases List.mem_cons.mp (hown q hq) with e1 | e1
      · exact hnw r (List.mem_append_left _ hr) (by rw [← e, e1]; exact List.mem_singleton.mpr rfl)
      · rw [List.mem_singleton.mp e1] at e
        exact off' _ hm r hr e
    have restI : ∀ q ∈ rest, q.1 ∉ [I] := fun q hq => hnw q (List.mem_append_right _ hq)
    rcases hk.look n with ⟨hno, hva⟩ | ⟨hfo, hva⟩ | ⟨hfi, t1, hva⟩
    · -- nothing there
      refine wpAny_mono (missing n tn (ad' p) o kvs (offA (ad' p) nl' ++ (rest ++ own)) h tk hdo hva (by rw [hva]; rfl) (by rw [stored_absent hva]; unfold valueAt; rw [List.find?_append]; have := hva; unfold valueAt at this; rw [Option.map_eq_none_iff] at this; rw [this]; simp) (T'.low p hdir) hksz ?_ F₁ ?_) ?_ fun _ _ e => e
      · intro q hq
        rcases List.mem_append.mp hq with hq | hq
        · exact offA_ne q hq
        · rcases List.mem_append.mp hq with hq | hq
          · exact off' q hq _ hmo
          · exact ownd q hq _ hmo
      · intro q hq
        rcases List.mem_cons.mp hq with rfl | hq
        · exact N₁ _ (List.mem_append_right _ (List.mem_append_left _ hmo))
        · rcases List.mem_append.mp hq with hq | hq
          · exact N₁ _ (List.mem_append_right _ (List.mem_append_left _ (offA_sub q hq)))
          · rcases List.mem_append.mp hq with hq | hq
            · exact N₁ _ (List.mem_append_right _ (List.mem_append_right _ hq))
            · exact N₁ _ (List.mem_append_left _ hq)
      · intro f s₂ p96
        refine hideG fun G9 b9 => ?_
        obtain ⟨e97, h', tk', o', dn, on, u', e98, F', N', ho', hon, hlt1, hlt2, hlow⟩ := p96
        refine b9 ?_
        clear b9 G9
        subst e97
        subst e98
        have hins : insA W' (n :: p) = W' ++ [(n :: p, false)] := insA_none hno
        have TT := T'.addDir hdir hno (dn := dn) hk ho' hon (fun q hq e => by
          by_cases e2 : q.1 = ad' p
          · rw [e2] at e; rw [e] at hlt2; exact Nat.lt_irrefl _ hlt2
          · have := hlt1 q (List.mem_append_left _ (offA_mem.mpr ⟨hq, e2⟩)); rw [e] at this; exact Nat.lt_irrefl _ this) hlow
        refine .next ⟨rfl, h', tk', _, ((ad' p, o') :: (dn, on) :: offA (ad' p) nl') ++ rest, rfl, F', ?_, ?_, W' ++ [(n :: p, false)], (fun q => if q = n :: p then dn else ad' q), _, rfl, ⟨u', ?_⟩, TT, ?root, ?_, ?_, ?_, ?_, ?_, ?_⟩
        case root => simp only [List.nil_eq, reduceCtorEq, if_false]; exact hroot
        · intro q hq
          rcases List.mem_append.mp hq with hq | hq
          · exact N' q (.tail _ (.tail _ (List.mem_append_right _ (List.mem_append_right _ hq))))
          · rcases List.mem_append.mp hq with hq | hq
            · rcases List.mem_cons.mp hq with rfl | hq
              · exact N' _ (.head _)
              · rcases List.mem_cons.mp hq with rfl | hq
                · exact N' _ (.tail _ (.head _))
                · exact N' _ (.tail _ (.tail _ (List.mem_append_left _ hq)))
            · exact N' q (.tail _ (.tail _ (List.mem_append_right _ (List.mem_append_left _ hq))))
        · intro q hq
          rcases List.mem_append.mp hq with hq | hq
          · rcases List.mem_cons.mp hq with rfl | hq
            · exact hnw (ad' p, o) (List.mem_append_left _ hmo)
            · rcases List.mem_cons.mp hq with rfl | hq
              · intro hb
                have := hlt1 (I, oI) (List.mem_append_right _ (List.mem_append_right _ hIown))
                have hb' : dn = I := List.mem_singleton.mp hb
                exact absurd this (by show ¬ I < dn; rw [hb']; exact Nat.lt_irrefl _)
              · exact hnw q (List.mem_append_left _ (offA_sub q hq))
          · exact restI q hq
        · rw [hp1]; simp only [if_true]
        · rw [hp1]; exact .inr (by simp)
        · rw [hp1, ← hgo, hins]
        · rw [hp1, ← hins, ← hbar, barred_congr (fun q => insA_file)]
          exact ⟨.inr, fun h => h.elim (fun h => absurd h (hno _)) id⟩
        · rw [hp1, ← hins, barred_congr (fun q => insA_file)]
          intro hb
          exact absurd (barred_dir T'.ok _ _ _ hb) (not_dir_new hno)
        · rw [List.length_append]; simp; omega
        · intro q hq r hr
          rcases List.mem_cons.mp hr with rfl | hr
          · exact off' q hq (ad' p, o) hmo
          · rcases List.mem_cons.mp hr with rfl | hr
            · exact Nat.ne_of_lt (hlt1 q (List.mem_append_right _ (List.mem_append_left _ hq)))
            · exact off' q hq r (offA_sub r hr)
    · -- a folder
      have hdir' : isDir W' (n :: p) := .inr hfo
      refine hideG fun G9 b9 => ?_
      obtain ⟨o1, kvs1, hm1, hd1, hk1⟩ := T'.node _ hdir'
      refine b9 ?_
      clear b9 G9
      have hins : insA W' (n :: p) = W' := insA_some hfo
      refine wpAny_mono (folder n tn (ad' p) o kvs (ad' (n :: p)) o1 kvs1 (own ++ (nl' ++ rest)) h tk hdo hva (by rw [hva]; rfl) (T'.low p hdir) hd1 (T'.low _ hdir') F₁ ?_) ?_ fun _ _ e => e
      · intro q hq
        rcases List.mem_cons.mp hq with rfl | hq
        · exact N₁ _ (List.mem_append_right _ (List.mem_append_left _ hmo))
        · rcases List.mem_cons.mp hq with rfl | hq
          · exact N₁ _ (List.mem_append_right _ (List.mem_append_left _ hm1))
          · exact N₁ _ hq
      · intro f s₂ p99
        refine hideG fun G9 b9 => ?_
        obtain ⟨e910, h', tk', u', e911, F', N'⟩ := p99
        refine b9 ?_
        clear b9 G9
        subst e910
        subst e911
        refine .next ⟨rfl, h', tk', _, nl' ++ rest, rfl, F', N', hnw, W', ad', nl', rfl, ⟨u', ?_⟩, T', hroot, ?_, ?_, ?_, ?_, ?_, off'⟩
        · rw [hp1]
        · rw [hp1]; exact hdir'
        · rw [hp1, ← hgo, hins]
        · rw [hp1, ← hbar]
          exact ⟨.inr, fun h => h.elim (fun h => absurd (T'.ok.one h hfo) (by decide)) id⟩
        · rw [hp1]
          intro hb
          exact hsame (.inr hb)
        · omega
    · -- a file
      have hW : W' = W := hsame (.inl hfi)
      refine wpAny_mono (file n tn (ad' p) o kvs t1 (own ++ (nl' ++ rest)) h tk hdo hva (by rw [hva]; rfl) (T'.low p hdir) ⟨hbar.mp (.inl hfi), ad', nl', hW ▸ T', hroot, fun q hq => List.mem_append_right _ hq, off'⟩ F₁ ?_) (fun _ _ x => x.elim) fun _ _ e => e
      intro q hq
      rcases List.mem_cons.mp hq with rfl | hq
      · exact N₁ _ (List.mem_append_right _ (List.mem_append_left _ hmo))
      · exact N₁ _ hq
  · intro h' tk m' news' F' N' _ p912
    refine hideG fun G9 b9 => ?_
    obtain ⟨W', ad', nl', e913, ⟨u, e914⟩, T', hroot, hdir, hgo, hbar, hsame, hlen', off'⟩ := p912
    refine b9 ?_
    clear b9 G9
    subst e913
    subst e914
    have e1 : (ns.map (·.1)).take ns.length = ns.map (·.1) := by rw [List.take_of_length_le]; simp
    have e2 : (ns.map (·.1)).drop ns.length = [] := by rw [List.drop_eq_nil_of_le]; simp
    rw [e1] at hdir hgo hbar F'
    rw [e2] at hgo hbar
    exact done W' ad' nl' u h' tk hgo (fun hb => hbar.mpr hb) T' hroot hdir hlen' off' F' N'
end
end
section
open PySem PySem.W PyProof.Rows PySem.Calls
set_option maxRecDepth 100000
section
variable {prog : Program} {w : World} {A : Around} {E : Value → Shared → Prop} {s : Shared} {X N I : String}
theorem call_exc_made (hc : ExcClass X N I) {rest : List Value} {Q : Value → Shared → Prop}
    (h : ∀ h' e, Heap.MadeExc s.heap h' e X rest → Q (.ref e) { s with heap := h' }) (hrest : rest.length ≤ sizeLine := by size_fits) :
    wpAny (model prog w) A (call (.type X) rest) Q E s := by
  refine wpAny_call (codeAny_of_tree ?_)
  show wpAny _ _ (callAny (.type X) ⟨rest, []⟩) _ _ s
  simp only [callAny]
  refine wpAny_pure ⟨Code.quiet_builtin _ (by decide +kernel), codeAny_builtin entry_type_call ?_⟩
  rw [Around.under_plain (weight_type_call X _ _) (by first | rfl | kernel_rfl | decide +kernel)]
  unfold Builtin.«type.__call__»
  dsimp only
  rw [if_neg (by rw [hc.notType]; exact Bool.false_ne_true), if_neg (by rw [hc.canNew]; exact Bool.false_ne_true)]
  obtain ⟨l, hl, hle⟩ := hc.mro
  refine wpAny_bind (wpAny_of_eq (hc.typeCall rest) (wpAny_bind (wpAny_of_eq hl ?_)))
  rw [if_neg (by rw [hle]; exact Bool.false_ne_true)]
  refine wpAny_bind (wpAny_of_eq hc.madeBy ?_)
  dsimp only
  refine wpAny_bind (wpAny_pure (wpAny_bind (wpAny_holding (new_exc hc ?_ hrest))))
  refine wpAny_bind (wpAny_isInstance (T := X) ⟨_, Heap.get?_push_size _ rfl, rfl⟩ hc.self ?_)
  simp only [Bool.not_true, Bool.false_eq_true, if_false]
  refine wpAny_bind (wpAny_holding (wpAny_callSpecial?_slot (name := Str.ofString "__init__") (T := X) ⟨_, Heap.get?_push_size _ rfl, rfl⟩ hc.init
    (init_exc hc (Heap.get?_push_size _ rfl) rfl rfl rfl ?_ hrest)))
  dsimp only
  rw [if_neg (by simp)]
  refine wpAny_pure (h _ _ ⟨fun b o hb => ?_, Heap.get?_none_of_le (by simp), _,
    Heap.get?_update_self _ (Heap.get?_push_of_some _ (Heap.get?_push_size _ rfl)) (Obj.isFreed_of_fields (Obj.data_mapFields rfl _)), Heap.get?_none_of_le (by simp; omega), ?_⟩)
  · rw [Heap.get?_update_other _ _ (Nat.ne_of_gt (Nat.lt_of_lt_of_le (Heap.lt_size hb) (by simp)))]
    exact Heap.get?_push_of_some _ (Heap.get?_push_of_some _ (Heap.get?_push_of_some _ hb))
  · rw [Heap.get?_update_other _ _ (by simp)]
    exact Heap.get?_push_size _ rfl
theorem call_exc_raise_made (hc : ExcClass X N I) {rest : List Value}
    (h : ∀ h' e, Heap.MadeExc s.heap h' e X rest → E (.ref e) { s with heap := h' }) (hrest : rest.length ≤ sizeLine := by size_fits) : wpAny (model prog w) A (call (.type X) rest) (Raisable E) E s :=
  call_exc_made (hrest := hrest) hc fun h' e hx => raisable_of_new hc hx.newExc (h h' e hx)
end
section
variable {prog : Program} {w : World} {A : Around} {E : Value → Shared → Prop} {s : Shared} {e t0 : Addr}
theorem slotKE : Slot "KeyError" "__str__" "KeyError.__str__" := .of (owner := "KeyError") (n := "__str__") (by rw [typeLookup_type, builtinLookup_eq_fast]; kernel_rfl) (by decide +kernel) (by decide +kernel) (by decide +kernel)
    (by first | exact .inl (by decide +kernel) | exact .inr (by decide +kernel)) (by rw [isSubtype_type]; kernel_rfl)
theorem call_keStr {m : Str} {tk : Tok} {Q : Value → Shared → Prop} (x : s.heap.ExcAt e "KeyError" (.ref t0)) (ht : s.heap.TupAt t0 [.str m tk]) (hsz : (reprText m).length ≤ sizeLine) (hq : Q (.str (reprText m) s.toks) { s with toks := s.toks + 1 }) :
    wpAny (model prog w) A (call (.builtin "KeyError.__str__") [.ref e]) Q E s :=
  wpAny_call_entry slotKE x.typeIs PySem.F.entry_keyError_str (keyErrorStr_entry_one x ht ⟨_, rfl, hq⟩ hsz) (PySem.F.args_keyError_str _)
theorem strOf_ke (hu : A.units < cLine) {m : Str} {tk : Tok} {Q : Value → Shared → Prop} (x : s.heap.ExcAt e "KeyError" (.ref t0)) (ht : s.heap.TupAt t0 [.str m tk]) (hsz : (reprText m).length ≤ sizeLine) (hq : Q (.str (reprText m) s.toks) { s with toks := s.toks + 1 }) :
    wpAny (model prog w) A (PySem.Builtin.Str.strOf (.ref e)) Q E s := by
  unfold PySem.Builtin.Str.strOf
  repeat (first | with_reducible refine wpAny_cRoomFor hu ?_ | with_reducible refine wpAny_callSpecial?_slot x.typeIs slotKE (call_keStr x ht hsz ?_) | wp_step)
  exact hq
theorem str_ke (hu : A.units + 2 < cLine) {m : Str} {tk : Tok} {Q : Value → Shared → Prop} (x : s.heap.ExcAt e "KeyError" (.ref t0)) (ht : s.heap.TupAt t0 [.str m tk]) (hsz : (reprText m).length ≤ sizeLine) (h : Q (.str (reprText m) s.toks) { s with toks := s.toks + 1 }) :
    wpAny (model prog w) A (call (.type "str") [.ref e]) Q E s :=
  callType_new PySem.F.called_str (by decide) (PySem.F.typeCall_str_1 _) (PySem.F.newCall_str_1 _) (fun obj => PySem.F.args_object_init_2 obj _) PySem.F.entry_str_new
    (meets_str_new (S := fun A' R s' => A'.units + 1 < cLine ∧ s'.heap.ExcAt e "KeyError" (.ref t0) ∧ s'.heap.TupAt t0 [.str m tk] ∧ R (.ok (.ret (.str (reprText m) s'.toks))) { s' with toks := s'.toks + 1 })
      fun _ _ A' _ _ hq => strOf_ke (A := A'.in1) hq.1 hq.2.1 hq.2.2.1 hsz hq.2.2.2)
    ⟨(show A.units + 1 + 1 < cLine from hu), x, ht, typeIs_str _ _ _, h⟩
theorem str_got_ke {h₀ h : Heap} {L t : Addr} {news : List (Addr × Obj)} {g : Array GenState} {d : Drawn} {tk : Nat} {os : OsState} {m r : Str} {u : Tok} {Q : Value → Shared → Prop} (G : Got news e t (.type "KeyError") [.str m u]) (N : News h₀ L h news) (hu : A.units + 2 < cLine)
    (hr : reprText m = r) (hsz : r.length ≤ sizeLine) (hq : Q (.str r tk) ⟨h, g, d, tk + 1, os⟩) :
    wpAny (model prog w) A (call (.type "str") [.ref e]) Q E ⟨h, g, d, tk, os⟩ := by
  subst hr
  exact str_ke hu (Got.excAt N G).1 (Got.excAt N G).2 hsz hq
theorem isi_dl {news : List (Addr × Obj)} {h₀ : Heap} {L d : Addr} {o : Obj} {K : Type} [DecidableEq K] {knd : PySem.KeyKind prog w K} {kvs : List (K × Value)} {Q : Value → Shared → Prop} (N : News h₀ L s.heap news) (hp : (d, o) ∈ news) (hd : o.IsDictOf knd kvs)
    (h : Q (.bool false) { s with toks := s.toks + 1 }) : wpAny (model prog w) A (call (.builtin "isinstance") [.ref d, .type "list"]) Q E s := by
  obtain ⟨es, ep, hc, _⟩ := hd
  exact IsiPair.dict_list (N _ hp).1 hc.1 h
theorem isi_dd {news : List (Addr × Obj)} {h₀ : Heap} {L d : Addr} {o : Obj} {K : Type} [DecidableEq K] {knd : PySem.KeyKind prog w K} {kvs : List (K × Value)} {Q : Value → Shared → Prop} (N : News h₀ L s.heap news) (hp : (d, o) ∈ news) (hd : o.IsDictOf knd kvs)
    (h : Q (.bool true) s) : wpAny (model prog w) A (call (.builtin "isinstance") [.ref d, .type "dict"]) Q E s := by
  obtain ⟨es, ep, hc, _⟩ := hd
  exact IsiPair.dict_dict (N _ hp).1 hc.1 h
theorem isi_ds {news : List (Addr × Obj)} {h₀ : Heap} {L d : Addr} {o : Obj} {K : Type} [DecidableEq K] {knd : PySem.KeyKind prog w K} {kvs : List (K × Value)} {Q : Value → Shared → Prop} (N : News h₀ L s.heap news) (hp : (d, o) ∈ news) (hd : o.IsDictOf knd kvs)
    (h : Q (.bool false) { s with toks := s.toks + 1 }) : wpAny (model prog w) A (call (.builtin "isinstance") [.ref d, .type "str"]) Q E s := by
  obtain ⟨es, ep, hc, _⟩ := hd
  exact IsiPair.dict_str (N _ hp).1 hc.1 h
end
section
variable {prog : Program} {w : World} {A₀ A : Around} {s : Shared} {base h₀ g₀ : Heap} {outer : List Env} {L a : Addr} {m : Str → Option Value} {env : Env} {news : List (Addr × Obj)} {K : Frag} {p : Program} {loose : List Str} {mean : ExcName → Option Value} {mg mb : Str → Option Value}
    {R : Result → Shared → Prop} {name qual : Str} {params : Arguments} {body : List Stmt} {scope : Scope} {dV kV doc pm cdv ct oc : Value} {an od : Option Addr} {osl : Array (Option Value)} {f : Addr} {args : Args} {binds : List (Str × Value)}
theorem code_defE0 (B : Below A₀ base [] h₀) (F : Fr h₀ L s.heap m) (X₀ : K.In h₀) (N : News h₀ L s.heap news) (T : Top p loose mean mg mb h₀) (hA : A.frames = some [env]) (hf : env.frame = some L) (hke : env.scope.kind = .function)
    (ho : K.lookup f = some ⟨oc, od, .func (fnOf name qual params body scope dV kV doc pm an cdv ct), osl⟩) (hcd : codeIn K cdv qual = true) (hroom : A.depth < recursionLimit)
    (hbind : BindsTo s (fnOf name qual params body scope dV kV doc pm an cdv ct) args binds) (hloc : ∀ y ∈ binds, scope.names.lookup y.1 = some .local)
    (h : ∀ g L' h₁, Fr h₀ L g m → Fr g L' h₁ (fun y => binds.reverse.lookup y) → News g L' h₁ news → Below A base [env] g → K.In g → Top p loose mean mg mb g → KtsDicts ([env].filterMap (·.frame)) g →
      wpAny (model prog w) (A.deeper (envOf qual scope L' f cdv)) (execs body (envOf qual scope L' f cdv))
        (fun fl s' => LeaveS0 ([env].filterMap (·.frame)) h₀ L m g R (match fl with | .ret v => v | _ => .none) s')
        (fun e s' => wpAny (model prog w) (A.deeper (envOf qual scope L' f cdv)) (leaving (envOf qual scope L' f cdv) e) (fun _ s'' => R (.error e) s'') (fun e' s'' => R (.error e') s'') s')
        { s with heap := h₁, toks := s.toks + binds.length })
    (hco : scope.isCoroutine = false) (hgen : scope.isGenerator = false) (hk : scope.kind = .function)
    (hcell : ∀ x ∈ scope.names, x.2 ≠ .cell) : codeAny (model prog w) A (.call (.ref f) args) R s := by
  have X := X₀.keeps F.keep
  refine codeAny_call_def (fd := fnOf name qual params body scope dV kV doc pm an cdv ct) (body := body) (binds := binds) hroom (X _ _ ho) rfl (T.nolimit.keeps F.keep) (codeRec_of X hcd) rfl hbind hcell hloc (fun h₁ hns hk₁ => ?_) hco hgen hk
  obtain ⟨FG, B₂, st, _⟩ := groundX (R := R) B F N hA hf hke
  obtain ⟨oL, es, ep, hLg, hLd, hLk, hLf⟩ := FG.ns
  have hNs : ∀ (sl : Array (Option Value)) h', h'.get? L = some { oL with slots := sl } → Heap.Ns h' L m := fun sl h' e => ⟨_, es, ep, e, hLd, hLk, hLf⟩
  have mem : ∀ b ∈ [env].filterMap (·.frame), b = L := fun b hb => by
    obtain ⟨e, he, hb⟩ := List.mem_filterMap.mp hb
    rw [List.mem_singleton.mp he, hf] at hb
    exact (Option.some.inj hb).symm
  refine wpAny_mono (h _ s.heap.objs.size h₁ FG ⟨hns, fun b o e => hk₁ b o (of_hideAll _ e), Nat.le_of_eq (hideAll_size _ _)⟩
    (fun p hp => ⟨hk₁ _ _ (N p hp).1, Nat.ne_of_lt (Heap.lt_size (N p hp).1), hideAll_none _ (List.mem_map_of_mem hp)⟩) B₂ (X₀.keeps st) (T.keeps st) (fun b hb => by
      rw [mem b hb]
      exact ⟨oL, es, ep, hLg, hLd⟩)) (fun fl s' hl => ?_) fun _ _ y => y
  obtain ⟨g', L', m', news', T', F', N', k⟩ := hl
  have nL₀ : h₀.get? L = none := kts_self F
  obtain ⟨sl, hs⟩ := T'.up hLg
  refine k ⟨hNs sl _ (F'.keep _ _ hs), fun b o e => F'.keep b o (T'.other b o (st b o e) (fun q => by
    rw [mem b q, nL₀] at e
    cases e)), F.above⟩ fun p hp => ⟨(N' p hp).1, fun q => ?_, ?_⟩
  · have := (N' p hp).2.2; rw [q, hs] at this; cases this
  · cases q : h₀.get? p.1 with
    | none => rfl
    | some o =>
      obtain ⟨sl', hs'⟩ := T'.up (st _ _ q)
      have := (N' p hp).2.2
      rw [hs'] at this
      cases this
end
end
section
open PySem PySem.W PyProof.Rows PySem.Calls
set_option maxRecDepth 100000










section
variable {w : World} {A : Around} {E : Value → Shared → Prop} {s : Shared} {h₀ : Heap} {L : Addr} {m : Str → Option Value} {news : List (Addr × Obj)}
theorem tupStr_K {Q : Value → Shared → Prop} {D : Addr} {l : List (Str × Tok)} (F : Fr h₀ L s.heap m) (N : News h₀ L s.heap news) (hm : (D, LCg.lst (strValues l)) ∈ news) (hz : l.length ≤ 16384)
    (h : ∀ T h', Fr h₀ L h' m → News h₀ L h' ((T, tupO (strValues l)) :: news) → (∀ p ∈ news, p.1 < T) → Q (.ref T) { s with heap := h' }) : wpAny (model prog w) A (call (.type "tuple") [.ref D]) Q E s :=
  kde_tupleOf F N (items := (strValues l).toArray) ⟨_, (N _ hm).1, rfl, _, rfl⟩ (by simpa [strValues] using hz) (by simp) h
end

noncomputable def keepN (z : Str) : Bool := z != Str.ofString ""


theorem Good.nl_in {nl : List (Addr × Obj)} {own : List (Addr × Obj)} : ∀ q ∈ nl, q ∈ nl ++ own := fun _ h => List.mem_append_left _ h
section
variable {w : World} {A : Around} {E : Value → Shared → Prop} {s : Shared} {h₀ : Heap} {m : Str → Option Value} {env : Env}
theorem goc_iter {xk xc : Str} {body : List Stmt} {Q : Flow → Shared → Prop} {t x d3 : Addr} {ox od : Obj} {ns : List (Str × Tok)} {nl own pre : List (Addr × Obj)} {W : List (Place × Bool)} {ad : Place → Addr}
    (hh : A.handled = none) (hne : xc ≠ xk) (F : Fr h₀ env.locals s.heap m) (hc : m xc = some (.ref (ad []))) (N : News h₀ env.locals s.heap ((t, tupO (strValues ns)) :: pre)) (hTup : ∀ q ∈ pre, q.1 < t)
    (hsub : ∀ q ∈ (x, ox) :: (d3, od) :: (nl ++ own), q ∈ pre) (off : ∀ q ∈ (x, ox) :: (d3, od) :: own, ∀ r ∈ nl, q.1 ≠ r.1) (T : Tree w W ad nl) (hsz : W.length + ns.length ≤ 1000)
    (missing : ∀ n u d o kvs R h tk, o.IsDictOf (strKind prog w) kvs → valueAt kvs n = none → (valueAt kvs n).isSome = false → valueAt (stored kvs n (.none)) n = some .none → (d == sysModules) = false → kvs.length ≤ sizeLine → (∀ q ∈ R, q.1 ≠ d) →
      Fr h₀ env.locals h (fun y => if y = xk then some (.str n u) else if y = xc then some (.ref d) else m y) → News h₀ env.locals h ((d, o) :: R) →
      wpAny (model prog w) A (execs body env) (GocNew h₀ env.locals w xk xc m d kvs n R { s with heap := h, toks := tk }) E { s with heap := h, toks := tk })
    (folder : ∀ n u d o kvs d1 o1 kvs1 R h tk, o.IsDictOf (strKind prog w) kvs → valueAt kvs n = some (.ref d1) → (valueAt kvs n).isSome = true → (d == sysModules) = false → o1.IsDictOf (strKind prog w) kvs1 → (d1 == sysModules) = false →
      Fr h₀ env.locals h (fun y => if y = xk then some (.str n u) else if y = xc then some (.ref d) else m y) → News h₀ env.locals h ((d, o) :: (d1, o1) :: R) →
      wpAny (model prog w) A (execs body env) (GocOld h₀ env.locals xk xc m d1 R { s with heap := h, toks := tk }) E { s with heap := h, toks := tk })
    (file : ∀ n u d o kvs t1 R h tk, o.IsDictOf (strKind prog w) kvs → valueAt kvs n = some (.str (Str.ofString "") t1) → (valueAt kvs n).isSome = true → (d == sysModules) = false → GocFile w W ad (ns.map (·.1)) nl ((t, tupO (strValues ns)) :: (x, ox) :: (d3, od) :: own) R →
      Fr h₀ env.locals h (fun y => if y = xk then some (.str n u) else if y = xc then some (.ref d) else m y) → News h₀ env.locals h ((d, o) :: R) →
      wpAny (model prog w) A (execs body env) (fun _ _ => False) E { s with heap := h, toks := tk })
    (done : ∀ W' ad' nl' u h tk, W' = goW (ns.map (·.1)) [] W → ¬ barred (ns.map (·.1)) [] W → Tree w W' ad' nl' → ad' [] = ad [] → isDir W' (ns.map (·.1)).reverse → W'.length ≤ W.length + ns.length → (∀ q ∈ (t, tupO (strValues ns)) :: (x, ox) :: (d3, od) :: own, ∀ r ∈ nl', q.1 ≠ r.1) →
      Fr h₀ env.locals h (fun y => if y = xc then some (.ref (ad' (ns.map (·.1)).reverse)) else if y = xk then u else m y) → News h₀ env.locals h (nl' ++ ((t, tupO (strValues ns)) :: (x, ox) :: (d3, od) :: own)) → Q .next { s with heap := h, toks := tk }) :
    wpAny (model prog w) A (pyIter (.ref t)) (fun it s₂ => LoopAtV prog w A h₀ env xk body Q E it s₂) E s := by
  refine goc_loop (rest := (t, tupO (strValues ns)) :: (x, ox) :: (d3, od) :: own) hh hne F hc N ?_ ?_ (.head _) ?_ T hsz missing folder file done
  · exact fun q hq => .tail _ (hsub q (.tail _ (.tail _ (List.mem_append_left _ hq))))
  · intro q hq
    rcases List.mem_cons.mp hq with rfl | hq
    · exact .head _
    · rcases List.mem_cons.mp hq with rfl | hq
      · exact .tail _ (hsub _ (.head _))
      · rcases List.mem_cons.mp hq with rfl | hq
        · exact .tail _ (hsub _ (.tail _ (.head _)))
        · exact .tail _ (hsub q (.tail _ (.tail _ (List.mem_append_right _ hq))))
  · intro q hq r hr
    rcases List.mem_cons.mp hq with rfl | hq
    · exact Ne.symm (Nat.ne_of_lt (hTup r (hsub r (.tail _ (.tail _ (List.mem_append_left _ hr))))))
    · exact off q hq r hr
theorem len_filter {l : List (Str × Tok)} {k : Str → Bool} {W : List (Place × Bool)} {n : Nat} (h : l.length ≤ n) (hW : W.length + n ≤ 1000) : W.length + (l.filter fun p => k p.1).length ≤ 1000 := by
  have := List.length_filter_le (fun p : Str × Tok => k p.1) l
  omega
end


theorem is_str {w : World} (n : Str) (t : Tok) : (PySem.strKind prog w).is n (.str n t) = true := by simp [PySem.strKind, Value.isStrOf]
theorem valueAt_stored {kvs : List (Str × Value)} {n : Str} {v : Value} (h : valueAt kvs n = none) : valueAt (stored kvs n v) n = some v := by
  rw [stored_absent h]
  unfold valueAt at *
  rw [Option.map_eq_none_iff] at h
  rw [List.find?_append, h]; simp




theorem allLt_mem {d : Nat} {l : List (Addr × Obj)} (h : AllLt d l) : ∀ q ∈ l, q.1 < d := by
  induction l with
  | nil => intro q hq; cases hq
  | cons a r ih =>
    intro q hq
    rcases List.mem_cons.mp hq with rfl | hq
    · exact h.1
    · exact ih h.2 q hq
section
variable {h₀ h' : Heap} {L : Addr} {m : Str → Option Value} {w : World} {xk xc : Str} {d dn : Addr} {kvs : List (Str × Value)} {n : Str} {R : List (Addr × Obj)} {s : Shared} {o' on o o1 : Obj} {u z : Option Value} {tk : Nat}
theorem goc_map {v u z : Option Value} (F : Fr h₀ L h' (fun y => if y = xc then v else if y = xk then u else if y = xc then z else m y)) : Fr h₀ L h' (fun y => if y = xc then v else if y = xk then u else m y) := by
  have e : (fun y => if y = xc then v else if y = xk then u else if y = xc then z else m y) = fun y => if y = xc then v else if y = xk then u else m y := by
    funext y
    by_cases h1 : y = xc
    · simp [h1]
    · simp [h1]
  rw [← e]; exact F
theorem goc_new (F : Fr h₀ L h' (fun y => if y = xc then some (.ref dn) else if y = xk then u else if y = xc then z else m y)) (N : News h₀ L h' ((dn, on) :: (d, o') :: R)) (ho : o'.IsDictOf (PySem.strKind prog w) (stored kvs n (.ref dn))) (hon : on.IsDictOf (PySem.strKind prog w) [])
    (hl : d < dn ∧ AllLt dn R) (hlow : (dn == sysModules) = false) : GocNew h₀ L w xk xc m d kvs n R s .next { s with heap := h', toks := tk } :=
  ⟨rfl, h', tk, o', dn, on, u, rfl, goc_map F, fun q hq => (List.mem_cons.mp hq).elim (fun e => e ▸ N _ (.tail _ (.head _))) fun hq => (List.mem_cons.mp hq).elim (fun e => e ▸ N _ (.head _)) fun hq => N _ (.tail _ (.tail _ hq)), ho, hon, allLt_mem hl.2, hl.1, hlow⟩
theorem goc_old {d1 : Addr} (F : Fr h₀ L h' (fun y => if y = xc then some (.ref d1) else if y = xk then u else if y = xc then z else m y)) (N : News h₀ L h' ((d, o) :: (d1, o1) :: R)) : GocOld h₀ L xk xc m d1 R s .next { s with heap := h', toks := tk } :=
  ⟨rfl, h', tk, u, rfl, goc_map F, fun q hq => N q (.tail _ (.tail _ hq))⟩
end




theorem map_keep {l : List (Str × Tok)} {k : Str → Bool} {z : List Str} (h : l.map (·.1) = z) : (l.filter fun p => k p.1).map (·.1) = z.filter k := by
  subst h
  induction l with
  | nil => rfl
  | cons a r ih =>
    rw [List.map_cons, List.filter_cons, List.filter_cons]
    cases k a.1 with
    | true => simp only [if_true, List.map_cons]; rw [ih]
    | false => simp only [Bool.false_eq_true, if_false]; exact ih
/-- the names of a place's text -/
noncomputable def namesOf (x : Str) : List Str := (Txt.split x (Str.ofString "/")).filter keepN
theorem ok_of {l : List (Str × Tok)} {fo : Str} (he : l.map (·.1) = Txt.split fo (Str.ofString "/")) : (l.filter fun p => keepN p.1).map (·.1) = namesOf fo := map_keep he
theorem fin_ok {w : World} {h₀ : Heap} {L : Addr} {m : Str → Option Value} {s : Shared} {Q : Value → Shared → Prop} {W : List (Place × Bool)} {ad : Place → Addr} {l : List (Str × Tok)} {fo : Str} {own' : List (Addr × Obj)} {c : Addr × Obj} {W' : List (Place × Bool)} {ad' : Place → Addr} {nl' : List (Addr × Obj)} {h' : Heap} {tk' : Nat}
    (e : l.map (·.1) = Txt.split fo (Str.ofString "/")) (hl : l.length ≤ fo.length + 2)
    (k : ∀ W' ad' nl' h' tk', W' = goW (namesOf fo) [] W → ¬ barred (namesOf fo) [] W → Tree w W' ad' nl' → ad' [] = ad [] → isDir W' (namesOf fo).reverse → W'.length ≤ W.length + (fo.length + 2) → (∀ q ∈ own', ∀ r ∈ nl', q.1 ≠ r.1) →
      Fr h₀ L h' m → News h₀ L h' (nl' ++ own') → Q (.ref (ad' (namesOf fo).reverse)) { s with heap := h', toks := tk' })
    (hW : W' = goW ((l.filter fun p => keepN p.1).map (·.1)) [] W) (hb : ¬ barred ((l.filter fun p => keepN p.1).map (·.1)) [] W) (T : Tree w W' ad' nl') (hroot : ad' [] = ad []) (hdir : isDir W' ((l.filter fun p => keepN p.1).map (·.1)).reverse)
    (hlen : W'.length ≤ W.length + (l.filter fun p => keepN p.1).length) (off : ∀ q ∈ c :: own', ∀ r ∈ nl', q.1 ≠ r.1) (F : Fr h₀ L h' m) (N : News h₀ L h' (nl' ++ c :: own')) :
    Q (.ref (ad' ((l.filter fun p => keepN p.1).map (·.1)).reverse)) { s with heap := h', toks := tk' } := by
  have hll := List.length_filter_le (fun p : Str × Tok => keepN p.1) l
  rw [ok_of e] at hW hb hdir ⊢
  exact k W' ad' nl' h' tk' hW hb T hroot hdir (by omega) (fun q hq => off q (.tail _ hq)) F fun q hq => N q ((List.mem_append.mp hq).elim (fun h => List.mem_append_left _ h) fun h => List.mem_append_right _ (.tail _ h))
theorem fin_err {w : World} {h₀ : Heap} {L : Addr} {m : Str → Option Value} {s : Shared} {Q : Value → Shared → Prop} {W : List (Place × Bool)} {ad : Place → Addr} {l : List (Str × Tok)} {fo : Str} {own' nl R : List (Addr × Obj)} {c p : Addr × Obj} {h' : Heap} {tk' : Nat} {u : Tok}
    (e : l.map (·.1) = Txt.split fo (Str.ofString "/"))
    (k : ∀ ad' nl' h' tk' u, barred (namesOf fo) [] W → Tree w W ad' nl' → ad' [] = ad [] → (∀ q ∈ own', ∀ r ∈ nl', q.1 ≠ r.1) → Fr h₀ L h' m → News h₀ L h' (nl' ++ own') → Q (.str (Str.ofString "'There is no nest behind this key'") u) { s with heap := h', toks := tk' })
    (G : GocFile w W ad ((l.filter fun p => keepN p.1).map (·.1)) nl (c :: own') R) (F : Fr h₀ L h' m) (N : News h₀ L h' (p :: R)) :
    Q (.str (Str.ofString "'There is no nest behind this key'") u) { s with heap := h', toks := tk' } := by
  rw [ok_of e] at G
  obtain ⟨hb, ad', nl', T, hroot, hsub, off⟩ := G
  exact k ad' nl' h' tk' u hb T hroot (fun q hq => off q (.tail _ hq)) F fun q hq => N q (.tail _ (hsub q ((List.mem_append.mp hq).elim (fun h => List.mem_append_left _ h) fun h => List.mem_append_right _ (.tail _ h))))
set_option maxHeartbeats 8000000 in
theorem opened_K (w : World) {base h₀ : Heap} {n : Str} {nms : List (Str × NameKind)} {mr : List (Str × Const)} {L fa : Addr} {cd : Value} {s : Shared} {m : Str → Option Value} {x d3 d2 : Addr} {tk : Tok} {own nl : List (Addr × Obj)}
    {loose : List Str} {mean : ExcName → Option Value} {mg mb : Str → Option Value} {W : List (Place × Bool)} {ad : Place → Addr} {fo : Str} {tf : Tok} {Q E : Value → Shared → Prop}
    (hT : Tree w W ad nl) (hd2 : ad [] = d2) (hW : W.length + (fo.length + 2) ≤ 1000) (hoff : ∀ q ∈ (x, instObj 53 d3) :: (d3, dictOf [{ hash := PyData.keyHash w.params (Str.ofString "dict"), key := .str (Str.ofString "dict") tk, val := .ref d2 }] 1) :: own, ∀ r ∈ nl, q.1 ≠ r.1)
    (hlen : fo.length ≤ 1000) (hpc : ∀ z ∈ Txt.split fo (Str.ofString "/"), z.length ≤ 1000) (B : Below callerA base [] h₀) (XB : (hd.heap_1 w.params).In base) (TB : Top topProg loose mean mg mb base) (F : Fr h₀ L s.heap m) (X : (hd.heap_1 w.params).In h₀) (Tp : Top topProg loose mean mg mb h₀)
    (N : News h₀ L s.heap ((x, instObj 53 d3) :: (d3, dictOf [{ hash := PyData.keyHash w.params (Str.ofString "dict"), key := .str (Str.ofString "dict") tk, val := .ref d2 }] 1) :: (nl ++ own)))
    (kOk : ∀ W' ad' nl' h' tk', W' = goW (namesOf fo) [] W → ¬ barred (namesOf fo) [] W → Tree w W' ad' nl' → ad' [] = ad [] → isDir W' (namesOf fo).reverse → W'.length ≤ W.length + (fo.length + 2) → (∀ q ∈ ((x, instObj 53 d3) :: (d3, dictOf [{ hash := PyData.keyHash w.params (Str.ofString "dict"), key := .str (Str.ofString "dict") tk, val := .ref d2 }] 1) :: own), ∀ r ∈ nl', q.1 ≠ r.1) →
      Fr h₀ L h' m → News h₀ L h' (nl' ++ ((x, instObj 53 d3) :: (d3, dictOf [{ hash := PyData.keyHash w.params (Str.ofString "dict"), key := .str (Str.ofString "dict") tk, val := .ref d2 }] 1) :: own)) → Q (.ref (ad' (namesOf fo).reverse)) { s with heap := h', toks := tk' })
    (kErr : ∀ ad' nl' h' tk' u, barred (namesOf fo) [] W → Tree w W ad' nl' → ad' [] = ad [] → (∀ q ∈ ((x, instObj 53 d3) :: (d3, dictOf [{ hash := PyData.keyHash w.params (Str.ofString "dict"), key := .str (Str.ofString "dict") tk, val := .ref d2 }] 1) :: own), ∀ r ∈ nl', q.1 ≠ r.1) → Fr h₀ L h' m → News h₀ L h' (nl' ++ ((x, instObj 53 d3) :: (d3, dictOf [{ hash := PyData.keyHash w.params (Str.ofString "dict"), key := .str (Str.ofString "dict") tk, val := .ref d2 }] 1) :: own)) → Q (.str (Str.ofString "'There is no nest behind this key'") u) { s with heap := h', toks := tk' }) :
    wpAny (model prog w) (callerA.deeper (envOfC n { kind := ScopeKind.function, names := nms, isGenerator := false, isCoroutine := false, more := mr } L fa cd)) (call (.ref 189) [.ref x, .str fo tf]) Q E s := by
  subst hd2
  refine wpAny_call ?_
  refine' code_defE0 ?k1 ?k2 ?k3 ?k4 ?k5 ?kA ?kF ?kK ?k6 ?k7 ?k8 ?k9 ?kB ?_ ?c2 ?c3 ?c4 ?c5
  case kA => exact rfl
  case kF => exact rfl
  case kK => exact rfl
  case k1 => k_asm
  case k2 => k_asm
  case k3 => k_asm
  case k4 => k_asm
  case k5 => k_asm
  case k6 => k_is
  case k7 => k_is
  case k8 => k_room
  case k9 => exact BindsTo.of_eq rfl
  case kB => exact locs rfl
  case c2 => exact rfl
  case c3 => exact rfl
  case c4 => exact rfl
  case c5 => decide
  k_whole
  intro g' L' h' FG' F' N' B' X' T' D'
  (try dsimp only)
  (try k_lift B')
  (try k_fold)
  (repeat' (first | (k_unfold; (try dsimp only)) | (k_end; wrow_close) | ((with_reducible show wpAny _ _ (call (Value.type "str") _) _ _ _); (k_here; k_dflt (refine str_got_ke (r := Str.ofString "'There is no nest behind this key'") (by assumption) (by assumption) (by units_room) (by decide +kernel) (by decide +kernel) ?_))) | ((with_reducible show wpAny _ _ (call (Value.builtin "isinstance") _) _ _ _); (k_here; k_dflt (first | refine isi_dl (by k_asm) (by k_mem) (by assumption) ?_ | refine isi_dd (by k_asm) (by k_mem) (by assumption) ?_))) | ((fail_if_success (with_reducible show wpAny _ _ _ _ _ _)); exact goc_old (by k_asm) (by k_asm)) | ((fail_if_success (with_reducible show wpAny _ _ _ _ _ _)); exact goc_new (by k_asm) (by k_asm) (by assumption) (by assumption) (by assumption) (by assumption)) | ((with_reducible show wpAny _ _ (call (Value.type "KeyError") _) _ _ _); (refine call_exc_raise_made excClass_KeyError ?_; intro _ _ _)) | ((with_reducible show wpAny _ _ (subscriptTail _ _ (Value.ref _) (Value.str _ _)) _ _ _); (k_here; k_dflt (refine kda_item (by k_asm) (by k_mem) (by assumption) (is_str _ _) (by first | assumption | exact valueAt_stored (by assumption)) ?_))) | ((with_reducible show wpAny _ _ (setItem (Value.ref _) _ _) _ _ _); (k_here; k_dflt (refine kda_set (by k_asm) (by k_asm) (UpdF.tail (by k_ne) (UpdF.head (by assumption))) (by assumption) (is_str _ _) (by assumption) ?_); intro h' o' F' N' hd')) | ((with_reducible show wpAny _ _ (compareOp CmpOp.NotIn _ _) _ _ _); (k_here; k_dflt (refine kdg_notin (by k_asm) (by k_mem) (by assumption) (by assumption) (is_str _ _) _ (by assumption) ?_); (try dsimp only [Bool.not_true, Bool.not_false]))) | ((with_reducible show wpAny _ _ (pyIter (Value.ref _)) _ _ _); (k_here; refine goc_iter (xc := Str.ofString "cont") (by exact rfl) (by decide) (by k_asm) (by exact rfl) (by k_asm) (by assumption) (by intro q hq; exact .tail _ (.tail _ hq)) (by assumption) (by assumption) (len_filter (by assumption) (by assumption)) (fun n' u' d' o' kvs' R' h' tk' hd' hv' hi' hs' hl' hz' ho' F' N' => ?_) (fun n' u' d' o' kvs' d1' o1' kvs1' R' h' tk' hd' hv' hi' hl' hd1' hl1' F' N' => ?_) (fun n' u' d' o' kvs' t1' R' h' tk' hd' hv' hi' hl' hG' F' N' => ?_) (fun W' ad' nl' u' h' tk' hW' hb' T' hroot' hdir' hlen' off' F' N' => ?_))) | ((with_reducible show wpAny _ _ (exec (Stmt.For _ _ _ _ _) _) _ _ _); (k_here; (rename Fr _ _ _ _ => lF'); (with_unfolding_all refine' For_invVF lF' (by exact rfl) (by exact rfl) ?_; k_whole))) | ((fail_if_success (with_reducible show wpAny _ _ _ _ _ _)); refine FlatT.intro (by k_asm) (by k_asm) (by first | rfl | assumption)) | ((fail_if_success (with_reducible show wpAny _ _ _ _ _ _)); (k_here; k_dflt (refine LCt.CompSrcT.ledger (by rfl) (by k_asm) (by k_asm) (by k_mem) (strs_size (by omega)) ?_); intro g'; (refine restT_strs keepN (by lcg_src) (by rfl) (by rfl) (by decide) (fun z' tz' I' oI' C' oC' D' oD' m' h' tk' E' hv' hC' hx' F' N' off' ne' => ?_) ?_) <;> ((try simp only [LCg.Off3, and_true] at off'); (try dsimp only); (try (have hz9 := mem_len hv' (by assumption) (by assumption)))))) | ((with_reducible show wpAny _ _ (call (Value.type "tuple") _) _ _ _); (k_here; (k_dflt (refine tupStr_K (by k_asm) (by k_asm) (by k_mem) (Nat.le_trans (List.length_filter_le _ _) (by omega)) ?_)); intro D' h' F' N' hTup)) | ((with_reducible show wpAny _ _ (eval (PySem.Expr.Name _ _) _) _ _ _); (k_here; (with_reducible show wpAny _ _ (eval (Expr.Name _ _) (compEnvC _ _ _ (compEnvC _ _ _ _))) _ _ _); k_dflt (first   | (refine' lcf_cell (by k_asm) (by rfl) (by k_mem) (by k_asm) ?_ (by rfl) (by with_unfolding_all rfl); k_whole)   | (refine' lcf_free (by k_asm) (by rfl) (by k_mem) (by k_asm) ?_ (by rfl) (by with_unfolding_all rfl); k_whole)))) | ((fail_if_success (with_reducible show wpAny _ _ _ _ _ _)); refine FlatT.intro (by k_asm) (by k_asm) ?_) | ((with_reducible show wpAny _ _ (eval (PySem.Expr.ListComp _ _ _ _) _) _ _ _); (k_here; (with_reducible show wpAny _ _ (eval (Expr.ListComp (Expr.Name _ _) _ _ _) _) _ _ _); k_dflt (refine LCt.ListComp_T (F₀ := by k_asm) (by with_unfolding_all rfl) (by decide) (by rfl) (by decide) (by rfl) ?_))) | ((with_reducible show wpAny _ _ (call (Value.builtin "str.split") _) _ _ _); (k_here; (with_reducible show wpAny _ _ (call (Value.builtin "str.split") _) _ _ _); k_dflt (refine KSpl.split1 (by k_asm) (by k_asm) (by decide) ?_ (by size_fits)); intro D' l' h' k' e' a' F' N' l1; (try k_lt l1); (have hlen' := len_le_of_split e'))) | ((with_reducible show wpAny _ _ (exec _ _) _ _ _); (k_here; refine wpAny_Try_except ?_; (try k_fold))) | ((with_reducible show wpAny _ _ (call (Value.type "tuple") _) _ _ _); (k_here; k_dflt (refine' tup_K (by k_asm) (by k_asm) (by exact Heap.IsList.at (by k_asm) (fun o e => Fr.keep (by k_asm) _ o e)) (by k_asm) (by k_asm) (by exact rfl) (by exact Nat.le_of_ble_eq_true rfl) (by exact Nat.le_of_ble_eq_true rfl) (by refine ltN ?_; omega) (by refine ltN ?_; omega) (by refine ltN ?_; omega) (by ((repeat' first | exact List.forall_mem_nil _ | refine List.forall_mem_cons.mpr ⟨?_, ?_⟩) <;> (refine ltN ?_; (try dsimp only); omega))) ?_; k_whole; intro D' t1' t2' h' tk' F' N' l1 l2; k_lt l1; k_lt2 l2; (try k_sweep); (try k_fold)))) | walk1 | (dsimp only; (first | ((with_reducible show wpAny _ _ (call (Value.type "str") _) _ _ _); (k_here; k_dflt (refine str_got_ke (r := Str.ofString "'There is no nest behind this key'") (by assumption) (by assumption) (by units_room) (by decide +kernel) (by decide +kernel) ?_))) | ((with_reducible show wpAny _ _ (call (Value.builtin "isinstance") _) _ _ _); (k_here; k_dflt (first | refine isi_dl (by k_asm) (by k_mem) (by assumption) ?_ | refine isi_dd (by k_asm) (by k_mem) (by assumption) ?_))) | ((fail_if_success (with_reducible show wpAny _ _ _ _ _ _)); exact goc_old (by k_asm) (by k_asm)) | ((fail_if_success (with_reducible show wpAny _ _ _ _ _ _)); exact goc_new (by k_asm) (by k_asm) (by assumption) (by assumption) (by assumption) (by assumption)) | ((with_reducible show wpAny _ _ (call (Value.type "KeyError") _) _ _ _); (refine call_exc_raise_made excClass_KeyError ?_; intro _ _ _)) | ((with_reducible show wpAny _ _ (subscriptTail _ _ (Value.ref _) (Value.str _ _)) _ _ _); (k_here; k_dflt (refine kda_item (by k_asm) (by k_mem) (by assumption) (is_str _ _) (by first | assumption | exact valueAt_stored (by assumption)) ?_))) | ((with_reducible show wpAny _ _ (setItem (Value.ref _) _ _) _ _ _); (k_here; k_dflt (refine kda_set (by k_asm) (by k_asm) (UpdF.tail (by k_ne) (UpdF.head (by assumption))) (by assumption) (is_str _ _) (by assumption) ?_); intro h' o' F' N' hd')) | ((with_reducible show wpAny _ _ (compareOp CmpOp.NotIn _ _) _ _ _); (k_here; k_dflt (refine kdg_notin (by k_asm) (by k_mem) (by assumption) (by assumption) (is_str _ _) _ (by assumption) ?_); (try dsimp only [Bool.not_true, Bool.not_false]))) | ((with_reducible show wpAny _ _ (pyIter (Value.ref _)) _ _ _); (k_here; refine goc_iter (xc := Str.ofString "cont") (by exact rfl) (by decide) (by k_asm) (by exact rfl) (by k_asm) (by assumption) (by intro q hq; exact .tail _ (.tail _ hq)) (by assumption) (by assumption) (len_filter (by assumption) (by assumption)) (fun n' u' d' o' kvs' R' h' tk' hd' hv' hi' hs' hl' hz' ho' F' N' => ?_) (fun n' u' d' o' kvs' d1' o1' kvs1' R' h' tk' hd' hv' hi' hl' hd1' hl1' F' N' => ?_) (fun n' u' d' o' kvs' t1' R' h' tk' hd' hv' hi' hl' hG' F' N' => ?_) (fun W' ad' nl' u' h' tk' hW' hb' T' hroot' hdir' hlen' off' F' N' => ?_))) | ((with_reducible show wpAny _ _ (exec (Stmt.For _ _ _ _ _) _) _ _ _); (k_here; (rename Fr _ _ _ _ => lF'); (with_unfolding_all refine' For_invVF lF' (by exact rfl) (by exact rfl) ?_; k_whole))) | ((fail_if_success (with_reducible show wpAny _ _ _ _ _ _)); refine FlatT.intro (by k_asm) (by k_asm) (by first | rfl | assumption)) | ((fail_if_success (with_reducible show wpAny _ _ _ _ _ _)); (k_here; k_dflt (refine LCt.CompSrcT.ledger (by rfl) (by k_asm) (by k_asm) (by k_mem) (strs_size (by omega)) ?_); intro g'; (refine restT_strs keepN (by lcg_src) (by rfl) (by rfl) (by decide) (fun z' tz' I' oI' C' oC' D' oD' m' h' tk' E' hv' hC' hx' F' N' off' ne' => ?_) ?_) <;> ((try simp only [LCg.Off3, and_true] at off'); (try dsimp only); (try (have hz9 := mem_len hv' (by assumption) (by assumption)))))) | ((with_reducible show wpAny _ _ (call (Value.type "tuple") _) _ _ _); (k_here; (k_dflt (refine tupStr_K (by k_asm) (by k_asm) (by k_mem) (Nat.le_trans (List.length_filter_le _ _) (by omega)) ?_)); intro D' h' F' N' hTup)) | ((with_reducible show wpAny _ _ (eval (PySem.Expr.Name _ _) _) _ _ _); (k_here; (with_reducible show wpAny _ _ (eval (Expr.Name _ _) (compEnvC _ _ _ (compEnvC _ _ _ _))) _ _ _); k_dflt (first   | (refine' lcf_cell (by k_asm) (by rfl) (by k_mem) (by k_asm) ?_ (by rfl) (by with_unfolding_all rfl); k_whole)   | (refine' lcf_free (by k_asm) (by rfl) (by k_mem) (by k_asm) ?_ (by rfl) (by with_unfolding_all rfl); k_whole)))) | ((fail_if_success (with_reducible show wpAny _ _ _ _ _ _)); refine FlatT.intro (by k_asm) (by k_asm) ?_) | ((with_reducible show wpAny _ _ (eval (PySem.Expr.ListComp _ _ _ _) _) _ _ _); (k_here; (with_reducible show wpAny _ _ (eval (Expr.ListComp (Expr.Name _ _) _ _ _) _) _ _ _); k_dflt (refine LCt.ListComp_T (F₀ := by k_asm) (by with_unfolding_all rfl) (by decide) (by rfl) (by decide) (by rfl) ?_))) | ((with_reducible show wpAny _ _ (call (Value.builtin "str.split") _) _ _ _); (k_here; (with_reducible show wpAny _ _ (call (Value.builtin "str.split") _) _ _ _); k_dflt (refine KSpl.split1 (by k_asm) (by k_asm) (by decide) ?_ (by size_fits)); intro D' l' h' k' e' a' F' N' l1; (try k_lt l1); (have hlen' := len_le_of_split e'))) | ((with_reducible show wpAny _ _ (exec _ _) _ _ _); (k_here; refine wpAny_Try_except ?_; (try k_fold))) | ((with_reducible show wpAny _ _ (call (Value.type "tuple") _) _ _ _); (k_here; k_dflt (refine' tup_K (by k_asm) (by k_asm) (by exact Heap.IsList.at (by k_asm) (fun o e => Fr.keep (by k_asm) _ o e)) (by k_asm) (by k_asm) (by exact rfl) (by exact Nat.le_of_ble_eq_true rfl) (by exact Nat.le_of_ble_eq_true rfl) (by refine ltN ?_; omega) (by refine ltN ?_; omega) (by refine ltN ?_; omega) (by ((repeat' first | exact List.forall_mem_nil _ | refine List.forall_mem_cons.mpr ⟨?_, ?_⟩) <;> (refine ltN ?_; (try dsimp only); omega))) ?_; k_whole; intro D' t1' t2' h' tk' F' N' l1 l2; k_lt l1; k_lt2 l2; (try k_sweep); (try k_fold)))) | walk1)) | (leave1; (try dsimp only)) | fail "no step"))
  · exact fin_err (by assumption) kErr (by assumption) (by assumption) (by assumption)
  · exact fin_ok (by assumption) (by assumption) kOk (by assumption) (by assumption) (by assumption) (by assumption) (by assumption) (by assumption) (by assumption) (by assumption) (by assumption)
end
section
open PySem PySem.W PyProof.Rows PySem.Calls
set_option maxRecDepth 100000
section
variable {prog : Program} {w : World} {A : Around} {E : Value → Shared → Prop} {s : Shared} {K : Type} [DecidableEq K] {knd : PySem.KeyKind prog w K} {d : Addr} {o : Obj} {kvs : List (K × Value)} {x : Str} {t : Tok} {Q : Value → Shared → Prop}
theorem dict_eq_str (da : s.heap.DictOf knd d kvs) (hq : Q .notImplemented s) : wpAny (model prog w) A (call (.builtin "dict.__eq__") [.ref d, .str x t]) Q E s := by
  refine wpAny_call_entry PySem.F.slot_dict_eq da.typeIs PySem.F.entry_dict_eq ?_ (PySem.F.args_dict_eq_2 _ _)
  show wpAny _ _ (Builtin.Dict.dictSlotArgs "__eq__" ⟨[.ref d, .str x t], []⟩ >>= _) _ _ s
  refine wpAny_bind ?_
  unfold Builtin.Dict.dictSlotArgs
  refine wpAny_bind (wpAny_notOrdered_dict da.typeIs ?_)
  show wpAny _ _ (pure (Value.ref d, Value.str x t)) _ _ s
  refine wpAny_pure ?_
  refine wpAny_bind (wpAny_isInstance (T := "str") (typeIs_str _ _ _) PySem.F.sub_str_dict ?_)
  simp only [Bool.not_false, if_true]
  repeat wp_step
  exact ⟨_, rfl, hq⟩
theorem dict_ne_str (da : s.heap.DictOf knd d kvs) (hq : Q .notImplemented s) : wpAny (model prog w) A (call (.builtin "dict.__ne__") [.ref d, .str x t]) Q E s := by
  refine wpAny_call_entry PySem.F.slot_dict_ne da.typeIs PySem.F.entry_dict_ne ?_ (PySem.F.args_dict_ne_2 _ _)
  show wpAny _ _ (Builtin.Dict.dictSlotArgs "__ne__" ⟨[.ref d, .str x t], []⟩ >>= _) _ _ s
  refine wpAny_bind ?_
  unfold Builtin.Dict.dictSlotArgs
  refine wpAny_bind (wpAny_notOrdered_dict da.typeIs ?_)
  show wpAny _ _ (pure (Value.ref d, Value.str x t)) _ _ s
  refine wpAny_pure ?_
  refine wpAny_bind (wpAny_isInstance (T := "str") (typeIs_str _ _ _) PySem.F.sub_str_dict ?_)
  simp only [Bool.not_false, if_true]
  repeat wp_step
  exact ⟨_, rfl, hq⟩
theorem str_eq_dict (da : s.heap.DictOf knd d kvs) (hq : Q .notImplemented s) : wpAny (model prog w) A (call (.builtin "str.__eq__") [.str x t, .ref d]) Q E s := by
  refine wpAny_call_entry PySem.F.slot_str_eq_refl (typeIs_str s x t) PySem.F.entry_str_eq ?_ (PySem.F.args_str_eq_2 _ _)
  unfold Builtin.«str.__eq__»
  have hT := da.typeIs
  obtain ⟨o, ho, es, ep, hc, hdd, _⟩ := Heap.dictOf_iff.mp da
  repeat (first | with_reducible refine wpAny_isInstance (T := "dict") hT PySem.F.sub_dict_str ?_ | with_reducible refine wpAny_isInstance (T := "str") (typeIs_str _ _ _) isSubtype_str_str ?_ | (refine wpAny_load ho ?_; simp only [hdd]) | wp_step)
  exact ⟨_, rfl, hq⟩
theorem str_ne_dict (da : s.heap.DictOf knd d kvs) (hq : Q .notImplemented s) : wpAny (model prog w) A (call (.builtin "str.__ne__") [.str x t, .ref d]) Q E s := by
  refine wpAny_call_entry PySem.F.slot_str_ne_refl (typeIs_str s x t) PySem.F.entry_str_ne ?_ (PySem.F.args_str_ne_2 _ _)
  unfold Builtin.«str.__ne__»
  have hT := da.typeIs
  obtain ⟨o, ho, es, ep, hc, hdd, _⟩ := Heap.dictOf_iff.mp da
  repeat (first | with_reducible refine wpAny_isInstance (T := "dict") hT PySem.F.sub_dict_str ?_ | with_reducible refine wpAny_isInstance (T := "str") (typeIs_str _ _ _) isSubtype_str_str ?_ | (refine wpAny_load ho ?_; simp only [hdd]) | wp_step)
  exact ⟨_, rfl, hq⟩
theorem eq_dict_str (da : s.heap.DictOf knd d kvs) (hu : A.units < cLine) (h : Q (.bool false) s) : wpAny (model prog w) A (compareOp .Eq (.ref d) (.str x t)) Q E s := by
  show wpAny _ A (richCompare .Eq _ _) Q E s
  exact SeqAt.rc_eq_decline_or (k := false) da.typeIs (typeIs_str s x t) (by decide) PySem.F.sub_str_dict PySem.F.slot_dict_eq PySem.F.slot_str_eq_refl
    (fun _ hq => dict_eq_str da hq) (fun _ hq => str_eq_dict da hq)
    (fun _ hq => wpAny_of_eq (rfl : isSame (.ref d) (.str x t) = pure false) hq) (.inr hu) h
theorem ne_dict_str (da : s.heap.DictOf knd d kvs) (hu : A.units < cLine) (h : Q (.bool true) s) : wpAny (model prog w) A (compareOp .NotEq (.ref d) (.str x t)) Q E s := by
  show wpAny _ A (richCompare .NotEq _ _) Q E s
  exact SeqAt.rc_ne_decline_or (k := false) da.typeIs (typeIs_str s x t) (by decide) PySem.F.sub_str_dict PySem.F.slot_dict_ne PySem.F.slot_str_ne_refl
    (fun _ hq => dict_ne_str da hq) (fun _ hq => str_ne_dict da hq)
    (fun _ hq => wpAny_of_eq (rfl : isSame (.ref d) (.str x t) = pure false) hq) (.inr hu) h
end
end
section
open PySem PySem.W PyProof.Rows PySem.Calls
set_option maxRecDepth 100000




theorem type_ne {a b : String} (h : a ≠ b) : Value.type a ≠ Value.type b := fun e => h (Value.type.inj e)
/-- the told places in the ledger -/
noncomputable def Told (tl : List (Addr × Obj)) : List Value → List (Str × Bool) → Prop
  | [], [] => True
  | v :: vs, x :: xs => (∃ a t, v = .ref a ∧ (a, tupO [.str x.1 t, .bool x.2]) ∈ tl) ∧ Told tl vs xs
  | _, _ => False
theorem Told.mono {tl tl' : List (Addr × Obj)} (h : ∀ q ∈ tl, q ∈ tl') : ∀ {vs xs}, Told tl vs xs → Told tl' vs xs
  | [], [], _ => trivial
  | _ :: _, _ :: _, ⟨⟨a, t, e, hm⟩, r⟩ => ⟨⟨a, t, e, h _ hm⟩, r.mono h⟩
  | [], _ :: _, h => h.elim
  | _ :: _, [], h => h.elim
theorem Told.append {tl : List (Addr × Obj)} {vs' : List Value} {xs' : List (Str × Bool)} (h' : Told tl vs' xs') : ∀ {vs xs}, Told tl vs xs → Told tl (vs ++ vs') (xs ++ xs')
  | [], [], _ => h'
  | _ :: _, _ :: _, ⟨h, r⟩ => ⟨h, Told.append h' r⟩
  | [], _ :: _, h => h.elim
  | _ :: _, [], h => h.elim
theorem Told.len {tl : List (Addr × Obj)} : ∀ {vs xs}, Told tl vs xs → vs.length = xs.length
  | [], [], _ => rfl
  | _ :: _, _ :: _, ⟨_, r⟩ => congrArg (· + 1) r.len
  | [], _ :: _, h => h.elim
  | _ :: _, [], h => h.elim
noncomputable abbrev lstO (vs : List Value) (k : Nat) : Obj := { cls := .type "list", data := .seq vs.toArray k }
section
variable {w : World} {A : Around} {E : Value → Shared → Prop} {s : Shared} {h₀ : Heap} {m : Str → Option Value} {env : Env}
noncomputable def WalkEnd (h₀ : Heap) (L : Addr) (xn : Str) (m : Str → Option Value) (own : List (Addr × Obj)) (xs : List (Str × Bool)) (s : Shared) (f : Flow) (s₂ : Shared) : Prop :=
  f = .next ∧ ∃ h' tk D vs k tl u up, s₂ = { s with heap := h', toks := tk } ∧ Fr h₀ L h' (fun y => if y = xn then u else if y = Str.ofString "told" then some (.ref D) else if y = Str.ofString "place" then up else m y) ∧
    News h₀ L h' ((D, lstO vs k) :: (tl ++ own)) ∧ (∀ q ∈ tl, q.2.cls = .type "tuple") ∧ Told tl vs xs
theorem walk_iter {xn : Str} {body : List Stmt} {Q : Flow → Shared → Prop} {d D0 : Addr} {k0 : Nat} {o : Obj} {kvs : List (Str × Value)} (g : Str → List (Str × Bool))
    (hh : A.handled = none) (hne : Str.ofString "told" ≠ xn) (hd0 : h₀.get? d = some o) (hdo : o.IsDictOf (PySem.strKind prog w) kvs) (lo : (d == sysModules) = false)
    (F : Fr h₀ env.locals s.heap m) (hm : m (Str.ofString "told") = some (.ref D0)) (N : News h₀ env.locals s.heap [(D0, lstO [] k0)])
    (turn : ∀ i n v t D vs k tl own up h tk, kvs[i]? = some (n, v) → Told tl vs (((kvs.map (·.1)).take i).flatMap g) → (∀ q ∈ tl, q.2.cls = .type "tuple") →
      Fr h₀ env.locals h (fun y => if y = xn then some (.str n t) else if y = Str.ofString "told" then some (.ref D) else if y = Str.ofString "place" then up else m y) → News h₀ env.locals h ((D, lstO vs k) :: (tl ++ own)) → (∀ q ∈ tl ++ own, q.1 ≠ D) →
      wpAny (model prog w) A (execs body env) (WalkEnd h₀ env.locals xn m own (((kvs.map (·.1)).take i).flatMap g ++ g n) { s with heap := h, toks := tk }) E { s with heap := h, toks := tk })
    (done : ∀ D vs k tl u up h tk, Told tl vs ((kvs.map (·.1)).flatMap g) → (∀ q ∈ tl, q.2.cls = .type "tuple") →
      Fr h₀ env.locals h (fun y => if y = xn then u else if y = Str.ofString "told" then some (.ref D) else if y = Str.ofString "place" then up else m y) → News h₀ env.locals h ((D, lstO vs k) :: tl) → Q .next { s with heap := h, toks := tk }) :
    wpAny (model prog w) A (pyIter (.ref d)) (fun it s₂ => LoopAtV prog w A h₀ env xn body Q E it s₂) E s := by
  refine hideG fun G9 b9 => ?_
  obtain ⟨ep, ha⟩ := KdkAt.of hdo
  refine b9 ?_
  clear b9 G9
  have hds := F.keep d o hd0
  have hlt : d < s.heap.objs.size := Heap.lt_size hds
  refine wpAny_pyIter_dict lo (ha.dictAt hds) ?_
  have W0 := Walks.dictKeys (prog := prog) (w := w) (A := A) (knd := PySem.strKind prog w) hh s.heap.objs.size d (Nat.ne_of_lt hlt) kvs ep
  have hIn : h₀.get? s.heap.objs.size = none := next_is_new F
  have hLd : env.locals ≠ d := fun e => by
    have := Heap.lt_size hd0
    rw [← e] at this
    exact absurd this (Nat.not_lt.mpr F.above)
  let J : Nat → (Str → Option Value) → List (Addr × Obj) → Prop := fun i m₁ news₁ => ∃ D vs k tl u up, news₁ = (D, lstO vs k) :: tl ∧ m₁ = (fun y => if y = xn then u else if y = Str.ofString "told" then some (.ref D) else if y = Str.ofString "place" then up else m y) ∧
    (∀ q ∈ tl, q.2.cls = .type "tuple") ∧ Told tl vs (((kvs.map (·.1)).take i).flatMap g)
  refine ⟨_, _, _, kvs.length, _, _, m, [(D0, lstO [] k0)], J, rfl, W0, ?_, ?_, ?_, ⟨⟨_, Heap.get?_push_size _ rfl, rfl, rfl⟩, (ha.dictAt hds).at' fun o e => Heap.get?_push_of_some _ e⟩, F.push _, ?_, ?_, ?_, ?_⟩
  · intro hm'
    rcases List.mem_cons.mp hm' with e | hm'
    · exact absurd F.ns.lt (by rw [e]; exact Nat.lt_irrefl _)
    · exact hLd (List.mem_singleton.mp hm')
  · intro b hb
    rw [List.mem_singleton.mp hb]; exact hIn
  · intro q hq hb
    have := Heap.lt_size (N q hq).1
    rw [List.mem_singleton.mp hb] at this
    exact Nat.lt_irrefl _ this
  · exact fun q hq => ⟨Heap.get?_push_of_some _ (N q hq).1, (N q hq).2⟩
  · refine ⟨D0, [], k0, [], m xn, m (Str.ofString "place"), rfl, ?_, fun _ h => (nomatch h), by simp [Told]⟩
    funext y
    by_cases h1 : y = xn
    · rw [if_pos h1, h1]
    · rw [if_neg h1]
      by_cases h2 : y = Str.ofString "told"
      · rw [if_pos h2, h2, hm]
      · rw [if_neg h2]
        by_cases h3 : y = Str.ofString "place"
        · rw [if_pos h3, h3]
        · rw [if_neg h3]
  · intro i v m₁ news₁ s₁ own p91 hi p93 p94 hnw hown hownat hownall hst F₁ N₁
    refine hideG fun G9 b9 => ?_
    obtain ⟨h, tk, e92⟩ := p91
    obtain ⟨n, vv, hkv, hisv⟩ := p93
    obtain ⟨D, vs, k, tl, u, up, e95, e96, htl, hT⟩ := p94
    refine b9 ?_
    clear b9 G9
    subst e92
    subst e95
    subst e96
    obtain ⟨t, rfl⟩ := Value.isStrOf_shape hisv
    have em : (fun y => if y = xn then some (Value.str n t) else (if y = xn then u else if y = Str.ofString "told" then some (Value.ref D) else if y = Str.ofString "place" then up else m y)) = fun y => if y = xn then some (Value.str n t) else if y = Str.ofString "told" then some (Value.ref D) else if y = Str.ofString "place" then up else m y := by
      funext y
      by_cases h1 : y = xn
      · simp [h1]
      · simp [h1]
    rw [em] at F₁
    refine hideG fun G9 b9 => ?_
    obtain ⟨oI, hoI, hcI, _⟩ := hst.1
    refine b9 ?_
    clear b9 G9
    have hIown : (s.heap.objs.size, oI) ∈ own := hownall _ (by simp) hIn oI hoI
    have ownI : ∀ q ∈ own, q.1 = s.heap.objs.size := fun q hq => by
      rcases List.mem_cons.mp (hown q hq) with e | e
      · exact e
      · rw [List.mem_singleton] at e
        have h1 := (N₁ q (List.mem_append_left _ hq)).2.2
        rw [e, hd0] at h1; cases h1
    have N₂ : News h₀ env.locals h ((D, lstO vs k) :: (tl ++ own)) := fun q hq => N₁ q ((List.mem_cons.mp hq).elim (fun e => List.mem_append_right _ (e ▸ .head _)) fun hq => (List.mem_append.mp hq).elim (fun hq => List.mem_append_right _ (.tail _ hq)) fun hq => List.mem_append_left _ hq)
    refine wpAny_mono (turn i n vv t D vs k tl own up h tk hkv hT htl F₁ N₂ ?_) ?_ fun _ _ e => e
    · intro q hq e
      rcases List.mem_append.mp hq with hq | hq
      · have h1 := (N₂ q (.tail _ (List.mem_append_left _ hq))).1
        have h2 := (N₂ _ (.head _)).1
        rw [e, h2] at h1
        have h3 := htl q hq
        rw [← Option.some.inj h1] at h3
        exact type_ne (by decide) h3
      · exact hnw _ (.head _) (List.mem_singleton.mpr (e.symm.trans (ownI q hq)))
    · intro f s₂ p97
      refine hideG fun G9 b9 => ?_
      obtain ⟨e98, h', tk', D', vs', k', tl', u', up', e99, F', N', htl', hT'⟩ := p97
      refine b9 ?_
      clear b9 G9
      subst e98
      subst e99
      have hI' := (N' _ (.tail _ (List.mem_append_right _ hIown))).1
      have off : ∀ q ∈ (D', lstO vs' k') :: tl', q.1 ∉ [s.heap.objs.size] := fun q hq hb => by
        rw [List.mem_singleton] at hb
        have h1 : h'.get? q.1 = some q.2 := by
          rcases List.mem_cons.mp hq with e | hq
          · rw [e]; exact (N' _ (.head _)).1
          · exact (N' q (.tail _ (List.mem_append_left _ hq))).1
        have hI'' : h'.get? s.heap.objs.size = some oI := hI'
        rw [hb, hI''] at h1
        have h2 := Option.some.inj h1
        rw [h2] at hcI
        rcases List.mem_cons.mp hq with e | hq
        · rw [e] at hcI; exact type_ne (by decide) hcI
        · rw [htl' q hq] at hcI; exact type_ne (by decide) hcI
      refine .next ⟨rfl, h', tk', _, (D', lstO vs' k') :: tl', rfl, F', ?_, off, D', vs', k', tl', u', up', rfl, rfl, htl', ?_⟩
      · intro q hq
        rcases List.mem_append.mp hq with hq | hq
        · exact N' q (.tail _ (List.mem_append_right _ hq))
        · rcases List.mem_cons.mp hq with e | hq
          · rw [e]; exact N' _ (.head _)
          · exact N' q (.tail _ (List.mem_append_left _ hq))
      · have hn : (kvs.map (·.1))[i]? = some n := by rw [List.getElem?_map, hkv]; rfl
        rw [List.take_add_one, hn, List.flatMap_append]
        simpa using hT'
  · intro h' tk m' news' F' N' _ p910
    refine hideG fun G9 b9 => ?_
    obtain ⟨D, vs, k, tl, u, up, e911, e912, htl, hT⟩ := p910
    refine b9 ?_
    clear b9 G9
    subst e911
    subst e912
    rw [List.take_of_length_le (by simp)] at hT
    exact done D vs k tl u up h' tk hT htl F' N'
theorem item_base {d : Addr} {o : Obj} {kvs : List (Str × Value)} {n : Str} {t : Tok} {v : Value} {value slice : PySem.Expr} {L : Addr} {Q : Value → Shared → Prop} (F : Fr h₀ L s.heap m) (hd0 : h₀.get? d = some o) (hdo : o.IsDictOf (PySem.strKind prog w) kvs) (hl : valueAt kvs n = some v) (h : Q v { s with toks := s.toks + 1 })
    (hs : subscripted slice false (.ref d) (.str n t) = operate [.ref d, .str n t] (getItem (.ref d) (.str n t)) := by with_unfolding_all rfl) (hg : ∀ r, letTemporaryGo value (.ref d) r = pure () := by intro _; with_unfolding_all rfl) :
    wpAny (model prog w) A (subscriptTail value slice (.ref d) (.str n t)) Q E s :=
  have hD : s.heap.DictOf (PySem.strKind prog w) d kvs := Heap.dictOf_iff.mpr ⟨o, F.keep _ _ hd0, hdo⟩
  subscriptTail_builtin hD.typeIs slot_dict_getitem.lookup (wpAny_getItem_of (is_str n t) hD.mapOf hl h) hs hg
theorem eq_ds {d : Addr} {o : Obj} {kvs : List (Str × Value)} {x : Str} {t : Tok} {L : Addr} {Q : Value → Shared → Prop} (F : Fr h₀ L s.heap m) (hd0 : h₀.get? d = some o) (hdo : o.IsDictOf (PySem.strKind prog w) kvs) (hu : A.units < cLine) (h : Q (.bool false) s) : wpAny (model prog w) A (compareOp .Eq (.ref d) (.str x t)) Q E s :=
  eq_dict_str (Heap.dictOf_iff.mpr ⟨o, F.keep _ _ hd0, hdo⟩) hu h
theorem ne_ds {d : Addr} {o : Obj} {kvs : List (Str × Value)} {x : Str} {t : Tok} {L : Addr} {Q : Value → Shared → Prop} (F : Fr h₀ L s.heap m) (hd0 : h₀.get? d = some o) (hdo : o.IsDictOf (PySem.strKind prog w) kvs) (hu : A.units < cLine) (h : Q (.bool true) s) : wpAny (model prog w) A (compareOp .NotEq (.ref d) (.str x t)) Q E s :=
  ne_dict_str (Heap.dictOf_iff.mpr ⟨o, F.keep _ _ hd0, hdo⟩) hu h
end
/-- a list of told places, made by the call -/
noncomputable def PTold (g : Heap) (xs : List (Str × Bool)) : Heap → Value → Prop := fun h v => ∃ D vs k tl, v = .ref D ∧ (∀ q ∈ (D, lstO vs k) :: tl, h.get? q.1 = some q.2 ∧ g.get? q.1 = none) ∧ (∀ q ∈ tl, q.2.cls = .type "tuple") ∧ Told tl vs xs
theorem pend_told {g s₀ : Heap} {s : Shared} {xs : List (Str × Bool)} {L' D : Addr} {m' : Str → Option Value} {h' : Heap} {tk' k : Nat} {vs : List Value} {tl : List (Addr × Obj)} (st : Stays s₀ g) (F : Fr g L' h' m') (N : News g L' h' ((D, lstO vs k) :: tl)) (htl : ∀ q ∈ tl, q.2.cls = .type "tuple") (hT : Told tl vs xs) :
    PEnd g s (PTold s₀ xs) (.ref D) { s with heap := h', toks := tk' } :=
  ⟨L', m', h', tk', rfl, F, D, vs, k, tl, rfl, fun q hq => ⟨(N q hq).1, kts_none st (N q hq).2.2⟩, htl, hT⟩
/-- what a call made goes to the ledger -/
theorem news_made {h₀ g h' : Heap} {L : Addr} {m : Str → Option Value} {new news : List (Addr × Obj)} (hn : ∀ q ∈ new, h'.get? q.1 = some q.2 ∧ g.get? q.1 = none) (F : Fr h₀ L g m) (N : News h₀ L h' news) : News h₀ L h' (new ++ news) := fun q hq => by
  rcases List.mem_append.mp hq with hq | hq
  · refine ⟨(hn q hq).1, fun e => ?_, kts_none F.keep (hn q hq).2⟩
    obtain ⟨oL, _, _, hL, _⟩ := F.ns
    have := (hn q hq).2
    rw [e, hL] at this; cases this
  · exact N q hq
structure TreeH (w : World) (W : List (Place × Bool)) (ad : Place → Addr) (h : Heap) : Prop where
  ok : WOk W
  node : ∀ p, isDir W p → ∃ o kvs, h.get? (ad p) = some o ∧ o.IsDictOf (strKind prog w) kvs ∧ Kvs W ad p kvs
  low : ∀ p, isDir W p → (ad p == sysModules) = false
theorem TreeH.keeps {w : World} {W : List (Place × Bool)} {ad : Place → Addr} {h h' : Heap} (T : TreeH w W ad h) (k : Stays h h') : TreeH w W ad h' :=
  ⟨T.ok, fun p hp => let ⟨o, kvs, h1, r⟩ := T.node p hp; ⟨o, kvs, k _ _ h1, r⟩, T.low⟩
theorem TreeH.of {w : World} {W : List (Place × Bool)} {ad : Place → Addr} {nl : List (Addr × Obj)} {h₀ h : Heap} {L : Addr} {news : List (Addr × Obj)} (T : Tree w W ad nl) (N : News h₀ L h news) (hs : ∀ q ∈ nl, q ∈ news) : TreeH w W ad h :=
  ⟨T.ok, fun p hp => let ⟨o, kvs, h1, r⟩ := T.node p hp; ⟨o, kvs, (N _ (hs _ h1)).1, r⟩, T.low⟩
/-- what the walk tells below a place -/
noncomputable def subT (W : List (Place × Bool)) : Nat → Place → Str → List (Str × Bool)
  | 0, _, _ => []
  | k + 1, p, a => (kidNames W p).flatMap fun n => if (n :: p, false) ∈ W then (joinS a n, false) :: subT W k (n :: p) (joinS a n) else [(joinS a n, true)]
end
section
open PySem PySem.W PyProof.Rows PySem.Calls
set_option maxRecDepth 100000






theorem take_flat {g : Str → List (Str × Bool)} {l : List Str} {i : Nat} {n : Str} (h : l[i]? = some n) : ((l.take i).flatMap g).length + (g n).length ≤ (l.flatMap g).length := by
  obtain ⟨hi, rfl⟩ := List.getElem?_eq_some_iff.mp h
  have e : l.flatMap g = (l.take i).flatMap g ++ (g l[i] ++ (l.drop (i + 1)).flatMap g) := by
    conv => lhs; rw [← List.take_append_drop i l, List.flatMap_append, List.drop_eq_getElem_cons hi, List.flatMap_cons]
  rw [e, List.length_append, List.length_append]
  omega
theorem joinS_len (x y : Str) : (joinS x y).length ≤ x.length + y.length + 1 := by
  unfold joinS
  have h1 : (Str.ofString "/").length = 1 := by decide
  split
  · omega
  · split
    · split
      · rw [strLen_append]; omega
      · rw [strLen_append, strLen_append]; omega
    · omega
/-- the contract of the walk at one depth -/
noncomputable def WC (w : World) (W : List (Place × Bool)) (ad : Place → Addr) (k D U : Nat) : Prop :=
  ∀ p a t s, isDir W p → p.length + k = 4 → a.length + 60 * k ≤ 900 → TreeH w W ad s.heap → RCall w (.ref 217) [.ref (ad p), .str a t] D U s (PTold s.heap (subT W k p a))

theorem depth_rm {D U N : Nat} {env : Env} (h : D + 1 ≤ N) : ((room D U).deeper env).depth ≤ N := h
theorem units_rm {D U N : Nat} {env : Env} (h : U + 3 ≤ N) : ((room D U).deeper env).units ≤ N := by rw [units_deeper]; exact h
theorem units_rl {D U : Nat} {env : Env} (h : U ≤ 8700) : ((room D U).deeper env).units < cLine := by rw [units_deeper]; have := cLine_is; show U + 3 < cLine; omega
theorem IHuse {w : World} {W : List (Place × Bool)} {ad : Place → Addr} {k D U : Nat} {p : Place} {a : Str} {t : Tok} {s : Shared} {h₀ : Heap} {L : Addr} {m : Str → Option Value} (C : WC w W ad k D U) (hp : isDir W p) (hk : p.length + k = 4) (ha : a.length + 60 * k ≤ 900) (F : Fr h₀ L s.heap m) (T : TreeH w W ad h₀) :
    RCall w (.ref 217) [.ref (ad p), .str a t] D U s (PTold s.heap (subT W k p a)) := C p a t s hp hk ha (T.keeps F.keep)





section
variable {w : World} {A : Around} {E : Value → Shared → Prop} {s : Shared} {h₀ h' : Heap} {L D T : Addr} {m : Str → Option Value} {vs : List Value} {k : Nat} {R tl own : List (Addr × Obj)} {ot : Obj} {xn : Str} {xs : List (Str × Bool)} {x : Str} {t : Tok} {b : Bool} {tk : Nat}
theorem tell_K {Q : Value → Shared → Prop} (F : Fr h₀ L s.heap m) (N : News h₀ L s.heap ((T, ot) :: (D, lstO vs k) :: R)) (ne : T ≠ D) (off : ∀ q ∈ R, q.1 ≠ D) (hsz : vs.length ≤ 1000)
    (h : ∀ h', Fr h₀ L h' m → News h₀ L h' ((T, ot) :: (D, lstO (vs ++ [.ref T]) (k + 1)) :: R) → Q .none { s with heap := h' }) : wpAny (model prog w) A (call (.builtin "list.append") [.ref D, .ref T]) Q E s := by
  refine append_K (its := vs.toArray) (n := k) F N (Upd.tail ne (Upd.head off)) (fun h' F' N' => h h' F' ?_) (by rw [sizeLine_eq]; simp; omega)
  simpa [lstO] using N'
theorem addT_K {Q : Value → Shared → Prop} {a c : Addr} {vs2 : List Value} {k2 : Nat} {news : List (Addr × Obj)} (F : Fr h₀ L s.heap m) (N : News h₀ L s.heap news) (ha : (a, lstO vs k) ∈ news) (hc : (c, lstO vs2 k2) ∈ news) (h1 : vs.length ≤ 2000) (h2 : vs2.length ≤ 2000)
    (h : ∀ D h', Fr h₀ L h' m → News h₀ L h' ((D, lstO (vs ++ vs2) 0) :: news) → Q (.ref D) { s with heap := h' }) : wpAny (model prog w) A (binaryOp .Add (.ref a) (.ref c)) Q E s := by
  refine addL_K (xs := vs.toArray) (ys := vs2.toArray) F N ha hc (by rw [sizeLine_eq]; simp; omega) (fun D h' F' N' _ => h D h' F' ?_)
  have e : vs.toArray ++ vs2.toArray = (vs ++ vs2).toArray := by simp
  rw [e] at N'
  exact N'
theorem walk_end1 {u up up' : Option Value} (F : Fr h₀ L h' (fun y => if y = Str.ofString "place" then up' else if y = xn then u else if y = Str.ofString "told" then some (.ref D) else if y = Str.ofString "place" then up else m y)) (hne : xn ≠ Str.ofString "place")
    (N : News h₀ L h' ((T, tupO [.str x t, .bool b]) :: (D, lstO (vs ++ [.ref T]) k) :: (tl ++ own))) (htl : ∀ q ∈ tl, q.2.cls = .type "tuple") (hT : Told tl vs xs) : WalkEnd h₀ L xn m own (xs ++ [(x, b)]) s .next { s with heap := h', toks := tk } := by
  have e : (fun y => if y = Str.ofString "place" then up' else if y = xn then u else if y = Str.ofString "told" then some (Value.ref D) else if y = Str.ofString "place" then up else m y) = fun y => if y = xn then u else if y = Str.ofString "told" then some (Value.ref D) else if y = Str.ofString "place" then up' else m y := by
    funext y
    by_cases h1 : y = Str.ofString "place"
    · rw [if_pos h1, if_neg (fun z => hne (z.symm.trans h1)), if_neg (by rw [h1]; decide), if_pos h1]
    · simp [h1]
  rw [e] at F
  refine ⟨rfl, h', tk, D, vs ++ [.ref T], k, (T, tupO [.str x t, .bool b]) :: tl, u, up', rfl, F, ?_, ?_, ?_⟩
  · intro q hq
    rcases List.mem_cons.mp hq with h | hq
    · rw [h]; exact N _ (.tail _ (.head _))
    · rcases List.mem_cons.mp hq with h | hq
      · rw [h]; exact N _ (.head _)
      · exact N q (.tail _ (.tail _ hq))
  · intro q hq
    rcases List.mem_cons.mp hq with h | hq
    · rw [h]
    · exact htl q hq
  · have h3 : Told ((T, tupO [.str x t, .bool b]) :: tl) [.ref T] [(x, b)] := ⟨⟨T, t, rfl, .head _⟩, trivial⟩
    exact Told.append h3 (hT.mono fun q hq => .tail _ hq)
theorem walk_end2 {u up up' z : Option Value} {D3 D9 : Addr} {o9 oD : Obj} {vs9 : List Value} {tl9 : List (Addr × Obj)} {xs9 : List (Str × Bool)} (F : Fr h₀ L h' (fun y => if y = Str.ofString "told" then some (.ref D3) else if y = Str.ofString "place" then up' else if y = xn then u else if y = Str.ofString "told" then z else if y = Str.ofString "place" then up else m y)) (hne : xn ≠ Str.ofString "place") (hne2 : xn ≠ Str.ofString "told")
    (N : News h₀ L h' ((D3, lstO (vs ++ [.ref T] ++ vs9) k) :: (D9, o9) :: (tl9 ++ (T, tupO [.str x t, .bool b]) :: (D, oD) :: (tl ++ own)))) (htl : ∀ q ∈ tl, q.2.cls = .type "tuple") (htl9 : ∀ q ∈ tl9, q.2.cls = .type "tuple") (hT : Told tl vs xs) (hT9 : Told tl9 vs9 xs9) :
    WalkEnd h₀ L xn m own (xs ++ (x, b) :: xs9) s .next { s with heap := h', toks := tk } := by
  have e : (fun y => if y = Str.ofString "told" then some (Value.ref D3) else if y = Str.ofString "place" then up' else if y = xn then u else if y = Str.ofString "told" then z else if y = Str.ofString "place" then up else m y) = fun y => if y = xn then u else if y = Str.ofString "told" then some (Value.ref D3) else if y = Str.ofString "place" then up' else m y := by
    funext y
    by_cases h1 : y = Str.ofString "told"
    · rw [if_pos h1, if_neg (fun z => hne2 (z.symm.trans h1)), if_pos h1]
    · by_cases h2 : y = Str.ofString "place"
      · rw [if_neg h1, if_pos h2, if_neg (fun z => hne (z.symm.trans h2)), if_neg h1, if_pos h2]
      · simp [h1, h2]
  rw [e] at F
  refine ⟨rfl, h', tk, D3, vs ++ [.ref T] ++ vs9, k, tl9 ++ (T, tupO [.str x t, .bool b]) :: tl, u, up', rfl, F, ?_, ?_, ?_⟩
  · intro q hq
    rcases List.mem_cons.mp hq with h | hq
    · rw [h]; exact N _ (.head _)
    · rcases List.mem_append.mp hq with hq | hq
      · rcases List.mem_append.mp hq with hq | hq
        · exact N q (.tail _ (.tail _ (List.mem_append_left _ hq)))
        · rcases List.mem_cons.mp hq with h | hq
          · rw [h]; exact N _ (.tail _ (.tail _ (List.mem_append_right _ (.head _))))
          · exact N q (.tail _ (.tail _ (List.mem_append_right _ (.tail _ (.tail _ (List.mem_append_left _ hq))))))
      · exact N q (.tail _ (.tail _ (List.mem_append_right _ (.tail _ (.tail _ (List.mem_append_right _ hq))))))
  · intro q hq
    rcases List.mem_append.mp hq with hq | hq
    · exact htl9 q hq
    · rcases List.mem_cons.mp hq with h | hq
      · rw [h]
      · exact htl q hq
  · have h1 : Told (tl9 ++ (T, tupO [.str x t, .bool b]) :: tl) vs xs := hT.mono fun q hq => List.mem_append_right _ (.tail _ hq)
    have h2 : Told (tl9 ++ (T, tupO [.str x t, .bool b]) :: tl) vs9 xs9 := hT9.mono fun q hq => List.mem_append_left _ hq
    have h3 : Told (tl9 ++ (T, tupO [.str x t, .bool b]) :: tl) [.ref T] [(x, b)] := ⟨⟨T, t, rfl, List.mem_append_right _ (.head _)⟩, trivial⟩
    have h4 := Told.append h2 (Told.append h3 h1)
    simpa using h4
end
theorem told_len1 {vs : List Value} {v : Value} (h : vs.length ≤ 1000) : (vs ++ [v]).length ≤ 2000 := by rw [List.length_append]; simp; omega
theorem told_len2 {tl : List (Addr × Obj)} {vs : List Value} {xs : List (Str × Bool)} (h : Told tl vs xs) (hx : xs.length ≤ 1000) : vs.length ≤ 2000 := by rw [h.len]; omega



set_option maxHeartbeats 8000000 in
theorem walk_step (w : World) (W : List (Place × Bool)) (ad : Place → Addr) (k D U : Nat) (hD : D ≤ 940) (hU : U ≤ 8600) (IH : WC w W ad k (D + 5) (U + 50)) (hlen : ∀ k p a, (subT W k p a).length ≤ 1000) (hnm : ∀ n p b, (n :: p, b) ∈ W → n.length ≤ 50) : WC w W ad (k + 1) D U := by
  intro p a t s hp hk ha T
  obtain ⟨o, kvs, hat, hdo, hkv⟩ := T.node p hp
  have hlow := T.low p hp
  have hb := hlen (k + 1) p a
  have ha' : a.length ≤ 1000 := by omega
  refine rcall_of (binds := [(Str.ofString "nest", .ref (ad p)), (Str.ofString "above", .str a t)]) (by k_is) (by k_is) (BindsTo.of_eq rfl) (locs rfl) rfl rfl rfl (by decide) ?_ (by omega)
  intro loose mean mg mb g L' h₁ hst F0 N0 X0 T0
  (try dsimp only); (try k_fold); (repeat' (first | (k_unfold; (try dsimp only)) | (k_end; wrow_close) | ((fail_if_success (with_reducible show wpAny _ _ _ _ _ _)); first | exact walk_end1 (by k_asm) (by decide) (by k_asm) (by assumption) (by assumption) | exact walk_end2 (by k_asm) (by decide) (by decide) (by k_asm) (by assumption) (by assumption) (by assumption) (by assumption)) | ((with_reducible show wpAny _ _ (binaryOp Operator.Add _ _) _ _ _); (k_here; k_dflt (refine addT_K (by k_asm) (by k_asm) (by first | exact .tail _ (List.mem_append_right _ (.tail _ (.head _))) | k_mem) (by k_mem) (told_len1 (by assumption)) (told_len2 (by assumption) (by assumption)) ?_); intro D' h' F' N')) | ((with_reducible show wpAny _ _ (call (Value.builtin "list.append") _) _ _ _); (k_here; k_dflt (refine tell_K (by k_asm) (by k_asm) (by k_ne) (by assumption) (by assumption) ?_); intro h' F' N')) | ((with_reducible show wpAny _ _ (compareOp CmpOp.NotEq _ _) _ _ _); (k_here; (with_reducible show wpAny _ _ (compareOp _ (Value.ref _) (Value.str _ _)) _ _ _); k_dflt (refine ne_ds (by k_asm) (by assumption) (by assumption) (by exact units_rl (by omega)) ?_))) | ((with_reducible show wpAny _ _ (compareOp CmpOp.Eq _ _) _ _ _); (k_here; (with_reducible show wpAny _ _ (compareOp _ (Value.ref _) (Value.str _ _)) _ _ _); k_dflt (refine eq_ds (by k_asm) (by assumption) (by assumption) (by exact units_rl (by omega)) ?_))) | ((with_reducible show wpAny _ _ (subscriptTail _ _ (Value.ref _) (Value.str _ _)) _ _ _); (k_here; k_dflt (refine item_base (by k_asm) (by assumption) (by assumption) (by assumption) ?_))) | ((with_reducible show wpAny _ _ (call (Value.ref _) _) _ _ _); (k_here; k_dflt (first   | (refine' rcall_use (join_c _ _ _ _ _ _ (by assumption) (by assumption)) (by k_asm) (by k_asm) (by k_asm) (by k_asm) (by exact rfl) (by exact depth_rm (by omega)) (by exact units_rm (by omega)) ?_; intro r9 h9 tk9 hp9 F9 N9 st9 sz9; refine hideG fun G9 b9 => ?_; obtain ⟨t9, hq9⟩ := hp9; refine b9 ?_; clear b9 G9; subst hq9)   | (refine' rcall_use (IHuse (by assumption) (by assumption) (by assumption) (by assumption) (by k_asm) (by assumption)) (by k_asm) (by k_asm) (by k_asm) (by k_asm) (by exact rfl) (by exact depth_rm (by omega)) (by exact units_rm (by omega)) ?_; intro r9 h9 tk9 hp9 F9 N9 st9 sz9; refine hideG fun G9 b9 => ?_; obtain ⟨D9, vs9, k9, tl9, hq9, hn9, htl9, hT9⟩ := hp9; refine b9 ?_; clear b9 G9; subst hq9; have N10 := news_made hn9 (by assumption) N9; clear N9; simp only [List.cons_append] at N10)); (try dsimp only); (try k_fold))) | ((with_reducible show wpAny _ _ (exec (Stmt.For _ _ _ _ _) _) _ _ _); (k_here; (rename Fr _ _ _ _ => lF'); (with_unfolding_all refine' For_invVF lF' (by exact rfl) (by exact rfl) ?_; k_whole))) | ((with_reducible show wpAny _ _ (binaryOp Operator.Add _ _) _ _ _); (k_here; (with_reducible show wpAny _ _ (binaryOp _ (Value.ref _) (Value.ref _)) _ _ _); (k_dflt (refine addL_K (by k_asm) (by k_asm) (by k_mem) (by k_mem) (cat_size (by assumption)) ?_)); intro D' h' F' N' l1; (try k_lt l1); (try dsimp only))) | ((with_reducible show wpAny _ _ (eval (PySem.Expr.Name _ _) _) _ _ _); (k_here; (with_reducible show wpAny _ _ (eval (Expr.Name _ _) (compEnvC _ _ _ (compEnvC _ _ _ _))) _ _ _); k_dflt (first   | (refine' lcf_cell (by k_asm) (by rfl) (by k_mem) (by k_asm) ?_ (by rfl) (by with_unfolding_all rfl); k_whole)   | (refine' lcf_free (by k_asm) (by rfl) (by k_mem) (by k_asm) ?_ (by rfl) (by with_unfolding_all rfl); k_whole)))) | walk1 | (dsimp only; (first | ((fail_if_success (with_reducible show wpAny _ _ _ _ _ _)); first | exact walk_end1 (by k_asm) (by decide) (by k_asm) (by assumption) (by assumption) | exact walk_end2 (by k_asm) (by decide) (by decide) (by k_asm) (by assumption) (by assumption) (by assumption) (by assumption)) | ((with_reducible show wpAny _ _ (binaryOp Operator.Add _ _) _ _ _); (k_here; k_dflt (refine addT_K (by k_asm) (by k_asm) (by first | exact .tail _ (List.mem_append_right _ (.tail _ (.head _))) | k_mem) (by k_mem) (told_len1 (by assumption)) (told_len2 (by assumption) (by assumption)) ?_); intro D' h' F' N')) | ((with_reducible show wpAny _ _ (call (Value.builtin "list.append") _) _ _ _); (k_here; k_dflt (refine tell_K (by k_asm) (by k_asm) (by k_ne) (by assumption) (by assumption) ?_); intro h' F' N')) | ((with_reducible show wpAny _ _ (compareOp CmpOp.NotEq _ _) _ _ _); (k_here; (with_reducible show wpAny _ _ (compareOp _ (Value.ref _) (Value.str _ _)) _ _ _); k_dflt (refine ne_ds (by k_asm) (by assumption) (by assumption) (by exact units_rl (by omega)) ?_))) | ((with_reducible show wpAny _ _ (compareOp CmpOp.Eq _ _) _ _ _); (k_here; (with_reducible show wpAny _ _ (compareOp _ (Value.ref _) (Value.str _ _)) _ _ _); k_dflt (refine eq_ds (by k_asm) (by assumption) (by assumption) (by exact units_rl (by omega)) ?_))) | ((with_reducible show wpAny _ _ (subscriptTail _ _ (Value.ref _) (Value.str _ _)) _ _ _); (k_here; k_dflt (refine item_base (by k_asm) (by assumption) (by assumption) (by assumption) ?_))) | ((with_reducible show wpAny _ _ (call (Value.ref _) _) _ _ _); (k_here; k_dflt (first   | (refine' rcall_use (join_c _ _ _ _ _ _ (by assumption) (by assumption)) (by k_asm) (by k_asm) (by k_asm) (by k_asm) (by exact rfl) (by exact depth_rm (by omega)) (by exact units_rm (by omega)) ?_; intro r9 h9 tk9 hp9 F9 N9 st9 sz9; refine hideG fun G9 b9 => ?_; obtain ⟨t9, hq9⟩ := hp9; refine b9 ?_; clear b9 G9; subst hq9)   | (refine' rcall_use (IHuse (by assumption) (by assumption) (by assumption) (by assumption) (by k_asm) (by assumption)) (by k_asm) (by k_asm) (by k_asm) (by k_asm) (by exact rfl) (by exact depth_rm (by omega)) (by exact units_rm (by omega)) ?_; intro r9 h9 tk9 hp9 F9 N9 st9 sz9; refine hideG fun G9 b9 => ?_; obtain ⟨D9, vs9, k9, tl9, hq9, hn9, htl9, hT9⟩ := hp9; refine b9 ?_; clear b9 G9; subst hq9; have N10 := news_made hn9 (by assumption) N9; clear N9; simp only [List.cons_append] at N10)); (try dsimp only); (try k_fold))) | ((with_reducible show wpAny _ _ (exec (Stmt.For _ _ _ _ _) _) _ _ _); (k_here; (rename Fr _ _ _ _ => lF'); (with_unfolding_all refine' For_invVF lF' (by exact rfl) (by exact rfl) ?_; k_whole))) | ((with_reducible show wpAny _ _ (binaryOp Operator.Add _ _) _ _ _); (k_here; (with_reducible show wpAny _ _ (binaryOp _ (Value.ref _) (Value.ref _)) _ _ _); (k_dflt (refine addL_K (by k_asm) (by k_asm) (by k_mem) (by k_mem) (cat_size (by assumption)) ?_)); intro D' h' F' N' l1; (try k_lt l1); (try dsimp only))) | ((with_reducible show wpAny _ _ (eval (PySem.Expr.Name _ _) _) _ _ _); (k_here; (with_reducible show wpAny _ _ (eval (Expr.Name _ _) (compEnvC _ _ _ (compEnvC _ _ _ _))) _ _ _); k_dflt (first   | (refine' lcf_cell (by k_asm) (by rfl) (by k_mem) (by k_asm) ?_ (by rfl) (by with_unfolding_all rfl); k_whole)   | (refine' lcf_free (by k_asm) (by rfl) (by k_mem) (by k_asm) ?_ (by rfl) (by with_unfolding_all rfl); k_whole)))) | walk1)) | (leave1; (try dsimp only)) | fail "no step"))
  refine walk_iter (k0 := 0) (fun n => if (n :: p, false) ∈ W then (joinS a n, false) :: subT W k (n :: p) (joinS a n) else [(joinS a n, true)]) (by exact rfl) (by decide) (hst _ _ hat) hdo hlow (by k_asm) (by exact rfl) (by k_asm) (fun i' n' v' t' D' vs' k' tl' own' up' h' tk' hkv' hT' htl' F' N' off' => ?_) (fun D' vs' k' tl' u' up' h' tk' hT' htl' F' N' => ?_)
  · have hT2 := hT'.len
    have hn2 : (kvs.map (·.1))[i']? = some n' := by rw [List.getElem?_map, hkv']; rfl
    have hfl := take_flat (g := fun n => if (n :: p, false) ∈ W then (joinS a n, false) :: subT W k (n :: p) (joinS a n) else [(joinS a n, true)]) hn2
    rw [hkv.names] at hfl
    have hvs : vs'.length ≤ 1000 := by rw [hT2, hkv.names]; exact Nat.le_trans (Nat.le_trans (Nat.le_add_right _ _) hfl) hb
    have hva : valueAt kvs n' = some v' := valueAt_of_get (keysNodup_of_isDictOf hdo) hkv'
    rcases hkv.val n' v' (List.mem_of_getElem? hkv') with ⟨hfi, t1, rfl⟩ | ⟨hfo, rfl⟩
    · have hnf : (n' :: p, false) ∉ W := fun h => absurd (T.ok.one hfi h) (by decide)
      have hnl := hnm _ _ _ hfi
      have hn3 : n'.length ≤ 1000 := by omega
      rw [if_neg hnf]
      have hat' := hst _ _ hat
      (repeat' (first | (k_unfold; (try dsimp only)) | (k_end; wrow_close) | ((fail_if_success (with_reducible show wpAny _ _ _ _ _ _)); first | exact walk_end1 (by k_asm) (by decide) (by k_asm) (by assumption) (by assumption) | exact walk_end2 (by k_asm) (by decide) (by decide) (by k_asm) (by assumption) (by assumption) (by assumption) (by assumption)) | ((with_reducible show wpAny _ _ (binaryOp Operator.Add _ _) _ _ _); (k_here; k_dflt (refine addT_K (by k_asm) (by k_asm) (by first | exact .tail _ (List.mem_append_right _ (.tail _ (.head _))) | k_mem) (by k_mem) (told_len1 (by assumption)) (told_len2 (by assumption) (by assumption)) ?_); intro D' h' F' N')) | ((with_reducible show wpAny _ _ (call (Value.builtin "list.append") _) _ _ _); (k_here; k_dflt (refine tell_K (by k_asm) (by k_asm) (by k_ne) (by assumption) (by assumption) ?_); intro h' F' N')) | ((with_reducible show wpAny _ _ (compareOp CmpOp.NotEq _ _) _ _ _); (k_here; (with_reducible show wpAny _ _ (compareOp _ (Value.ref _) (Value.str _ _)) _ _ _); k_dflt (refine ne_ds (by k_asm) (by assumption) (by assumption) (by exact units_rl (by omega)) ?_))) | ((with_reducible show wpAny _ _ (compareOp CmpOp.Eq _ _) _ _ _); (k_here; (with_reducible show wpAny _ _ (compareOp _ (Value.ref _) (Value.str _ _)) _ _ _); k_dflt (refine eq_ds (by k_asm) (by assumption) (by assumption) (by exact units_rl (by omega)) ?_))) | ((with_reducible show wpAny _ _ (subscriptTail _ _ (Value.ref _) (Value.str _ _)) _ _ _); (k_here; k_dflt (refine item_base (by k_asm) (by assumption) (by assumption) (by assumption) ?_))) | ((with_reducible show wpAny _ _ (call (Value.ref _) _) _ _ _); (k_here; k_dflt (first   | (refine' rcall_use (join_c _ _ _ _ _ _ (by assumption) (by assumption)) (by k_asm) (by k_asm) (by k_asm) (by k_asm) (by exact rfl) (by exact depth_rm (by omega)) (by exact units_rm (by omega)) ?_; intro r9 h9 tk9 hp9 F9 N9 st9 sz9; refine hideG fun G9 b9 => ?_; obtain ⟨t9, hq9⟩ := hp9; refine b9 ?_; clear b9 G9; subst hq9)   | (refine' rcall_use (IHuse (by assumption) (by assumption) (by assumption) (by assumption) (by k_asm) (by assumption)) (by k_asm) (by k_asm) (by k_asm) (by k_asm) (by exact rfl) (by exact depth_rm (by omega)) (by exact units_rm (by omega)) ?_; intro r9 h9 tk9 hp9 F9 N9 st9 sz9; refine hideG fun G9 b9 => ?_; obtain ⟨D9, vs9, k9, tl9, hq9, hn9, htl9, hT9⟩ := hp9; refine b9 ?_; clear b9 G9; subst hq9; have N10 := news_made hn9 (by assumption) N9; clear N9; simp only [List.cons_append] at N10)); (try dsimp only); (try k_fold))) | ((with_reducible show wpAny _ _ (exec (Stmt.For _ _ _ _ _) _) _ _ _); (k_here; (rename Fr _ _ _ _ => lF'); (with_unfolding_all refine' For_invVF lF' (by exact rfl) (by exact rfl) ?_; k_whole))) | ((with_reducible show wpAny _ _ (binaryOp Operator.Add _ _) _ _ _); (k_here; (with_reducible show wpAny _ _ (binaryOp _ (Value.ref _) (Value.ref _)) _ _ _); (k_dflt (refine addL_K (by k_asm) (by k_asm) (by k_mem) (by k_mem) (cat_size (by assumption)) ?_)); intro D' h' F' N' l1; (try k_lt l1); (try dsimp only))) | ((with_reducible show wpAny _ _ (eval (PySem.Expr.Name _ _) _) _ _ _); (k_here; (with_reducible show wpAny _ _ (eval (Expr.Name _ _) (compEnvC _ _ _ (compEnvC _ _ _ _))) _ _ _); k_dflt (first   | (refine' lcf_cell (by k_asm) (by rfl) (by k_mem) (by k_asm) ?_ (by rfl) (by with_unfolding_all rfl); k_whole)   | (refine' lcf_free (by k_asm) (by rfl) (by k_mem) (by k_asm) ?_ (by rfl) (by with_unfolding_all rfl); k_whole)))) | walk1 | (dsimp only; (first | ((fail_if_success (with_reducible show wpAny _ _ _ _ _ _)); first | exact walk_end1 (by k_asm) (by decide) (by k_asm) (by assumption) (by assumption) | exact walk_end2 (by k_asm) (by decide) (by decide) (by k_asm) (by assumption) (by assumption) (by assumption) (by assumption)) | ((with_reducible show wpAny _ _ (binaryOp Operator.Add _ _) _ _ _); (k_here; k_dflt (refine addT_K (by k_asm) (by k_asm) (by first | exact .tail _ (List.mem_append_right _ (.tail _ (.head _))) | k_mem) (by k_mem) (told_len1 (by assumption)) (told_len2 (by assumption) (by assumption)) ?_); intro D' h' F' N')) | ((with_reducible show wpAny _ _ (call (Value.builtin "list.append") _) _ _ _); (k_here; k_dflt (refine tell_K (by k_asm) (by k_asm) (by k_ne) (by assumption) (by assumption) ?_); intro h' F' N')) | ((with_reducible show wpAny _ _ (compareOp CmpOp.NotEq _ _) _ _ _); (k_here; (with_reducible show wpAny _ _ (compareOp _ (Value.ref _) (Value.str _ _)) _ _ _); k_dflt (refine ne_ds (by k_asm) (by assumption) (by assumption) (by exact units_rl (by omega)) ?_))) | ((with_reducible show wpAny _ _ (compareOp CmpOp.Eq _ _) _ _ _); (k_here; (with_reducible show wpAny _ _ (compareOp _ (Value.ref _) (Value.str _ _)) _ _ _); k_dflt (refine eq_ds (by k_asm) (by assumption) (by assumption) (by exact units_rl (by omega)) ?_))) | ((with_reducible show wpAny _ _ (subscriptTail _ _ (Value.ref _) (Value.str _ _)) _ _ _); (k_here; k_dflt (refine item_base (by k_asm) (by assumption) (by assumption) (by assumption) ?_))) | ((with_reducible show wpAny _ _ (call (Value.ref _) _) _ _ _); (k_here; k_dflt (first   | (refine' rcall_use (join_c _ _ _ _ _ _ (by assumption) (by assumption)) (by k_asm) (by k_asm) (by k_asm) (by k_asm) (by exact rfl) (by exact depth_rm (by omega)) (by exact units_rm (by omega)) ?_; intro r9 h9 tk9 hp9 F9 N9 st9 sz9; refine hideG fun G9 b9 => ?_; obtain ⟨t9, hq9⟩ := hp9; refine b9 ?_; clear b9 G9; subst hq9)   | (refine' rcall_use (IHuse (by assumption) (by assumption) (by assumption) (by assumption) (by k_asm) (by assumption)) (by k_asm) (by k_asm) (by k_asm) (by k_asm) (by exact rfl) (by exact depth_rm (by omega)) (by exact units_rm (by omega)) ?_; intro r9 h9 tk9 hp9 F9 N9 st9 sz9; refine hideG fun G9 b9 => ?_; obtain ⟨D9, vs9, k9, tl9, hq9, hn9, htl9, hT9⟩ := hp9; refine b9 ?_; clear b9 G9; subst hq9; have N10 := news_made hn9 (by assumption) N9; clear N9; simp only [List.cons_append] at N10)); (try dsimp only); (try k_fold))) | ((with_reducible show wpAny _ _ (exec (Stmt.For _ _ _ _ _) _) _ _ _); (k_here; (rename Fr _ _ _ _ => lF'); (with_unfolding_all refine' For_invVF lF' (by exact rfl) (by exact rfl) ?_; k_whole))) | ((with_reducible show wpAny _ _ (binaryOp Operator.Add _ _) _ _ _); (k_here; (with_reducible show wpAny _ _ (binaryOp _ (Value.ref _) (Value.ref _)) _ _ _); (k_dflt (refine addL_K (by k_asm) (by k_asm) (by k_mem) (by k_mem) (cat_size (by assumption)) ?_)); intro D' h' F' N' l1; (try k_lt l1); (try dsimp only))) | ((with_reducible show wpAny _ _ (eval (PySem.Expr.Name _ _) _) _ _ _); (k_here; (with_reducible show wpAny _ _ (eval (Expr.Name _ _) (compEnvC _ _ _ (compEnvC _ _ _ _))) _ _ _); k_dflt (first   | (refine' lcf_cell (by k_asm) (by rfl) (by k_mem) (by k_asm) ?_ (by rfl) (by with_unfolding_all rfl); k_whole)   | (refine' lcf_free (by k_asm) (by rfl) (by k_mem) (by k_asm) ?_ (by rfl) (by with_unfolding_all rfl); k_whole)))) | walk1)) | (leave1; (try dsimp only)) | fail "no step"))
    · have hnl := hnm _ _ _ hfo
      have hn3 : n'.length ≤ 1000 := by omega
      have hfo' : isDir W (n' :: p) := .inr hfo
      have hk' : (n' :: p).length + k = 4 := by rw [List.length_cons]; omega
      have haa : (joinS a n').length + 60 * k ≤ 900 := by have := joinS_len a n'; omega
      have TH := T.keeps hst
      have hls := hlen k (n' :: p) (joinS a n')
      obtain ⟨o1, kvs1, hat1, hdo1, _⟩ := T.node _ hfo'
      have hat1' := hst _ _ hat1
      rw [if_pos hfo]
      have hat' := hst _ _ hat
      (repeat' (first | (k_unfold; (try dsimp only)) | (k_end; wrow_close) | ((fail_if_success (with_reducible show wpAny _ _ _ _ _ _)); first | exact walk_end1 (by k_asm) (by decide) (by k_asm) (by assumption) (by assumption) | exact walk_end2 (by k_asm) (by decide) (by decide) (by k_asm) (by assumption) (by assumption) (by assumption) (by assumption)) | ((with_reducible show wpAny _ _ (binaryOp Operator.Add _ _) _ _ _); (k_here; k_dflt (refine addT_K (by k_asm) (by k_asm) (by first | exact .tail _ (List.mem_append_right _ (.tail _ (.head _))) | k_mem) (by k_mem) (told_len1 (by assumption)) (told_len2 (by assumption) (by assumption)) ?_); intro D' h' F' N')) | ((with_reducible show wpAny _ _ (call (Value.builtin "list.append") _) _ _ _); (k_here; k_dflt (refine tell_K (by k_asm) (by k_asm) (by k_ne) (by assumption) (by assumption) ?_); intro h' F' N')) | ((with_reducible show wpAny _ _ (compareOp CmpOp.NotEq _ _) _ _ _); (k_here; (with_reducible show wpAny _ _ (compareOp _ (Value.ref _) (Value.str _ _)) _ _ _); k_dflt (refine ne_ds (by k_asm) (by assumption) (by assumption) (by exact units_rl (by omega)) ?_))) | ((with_reducible show wpAny _ _ (compareOp CmpOp.Eq _ _) _ _ _); (k_here; (with_reducible show wpAny _ _ (compareOp _ (Value.ref _) (Value.str _ _)) _ _ _); k_dflt (refine eq_ds (by k_asm) (by assumption) (by assumption) (by exact units_rl (by omega)) ?_))) | ((with_reducible show wpAny _ _ (subscriptTail _ _ (Value.ref _) (Value.str _ _)) _ _ _); (k_here; k_dflt (refine item_base (by k_asm) (by assumption) (by assumption) (by assumption) ?_))) | ((with_reducible show wpAny _ _ (call (Value.ref _) _) _ _ _); (k_here; k_dflt (first   | (refine' rcall_use (join_c _ _ _ _ _ _ (by assumption) (by assumption)) (by k_asm) (by k_asm) (by k_asm) (by k_asm) (by exact rfl) (by exact depth_rm (by omega)) (by exact units_rm (by omega)) ?_; intro r9 h9 tk9 hp9 F9 N9 st9 sz9; refine hideG fun G9 b9 => ?_; obtain ⟨t9, hq9⟩ := hp9; refine b9 ?_; clear b9 G9; subst hq9)   | (refine' rcall_use (IHuse (by assumption) (by assumption) (by assumption) (by assumption) (by k_asm) (by assumption)) (by k_asm) (by k_asm) (by k_asm) (by k_asm) (by exact rfl) (by exact depth_rm (by omega)) (by exact units_rm (by omega)) ?_; intro r9 h9 tk9 hp9 F9 N9 st9 sz9; refine hideG fun G9 b9 => ?_; obtain ⟨D9, vs9, k9, tl9, hq9, hn9, htl9, hT9⟩ := hp9; refine b9 ?_; clear b9 G9; subst hq9; have N10 := news_made hn9 (by assumption) N9; clear N9; simp only [List.cons_append] at N10)); (try dsimp only); (try k_fold))) | ((with_reducible show wpAny _ _ (exec (Stmt.For _ _ _ _ _) _) _ _ _); (k_here; (rename Fr _ _ _ _ => lF'); (with_unfolding_all refine' For_invVF lF' (by exact rfl) (by exact rfl) ?_; k_whole))) | ((with_reducible show wpAny _ _ (binaryOp Operator.Add _ _) _ _ _); (k_here; (with_reducible show wpAny _ _ (binaryOp _ (Value.ref _) (Value.ref _)) _ _ _); (k_dflt (refine addL_K (by k_asm) (by k_asm) (by k_mem) (by k_mem) (cat_size (by assumption)) ?_)); intro D' h' F' N' l1; (try k_lt l1); (try dsimp only))) | ((with_reducible show wpAny _ _ (eval (PySem.Expr.Name _ _) _) _ _ _); (k_here; (with_reducible show wpAny _ _ (eval (Expr.Name _ _) (compEnvC _ _ _ (compEnvC _ _ _ _))) _ _ _); k_dflt (first   | (refine' lcf_cell (by k_asm) (by rfl) (by k_mem) (by k_asm) ?_ (by rfl) (by with_unfolding_all rfl); k_whole)   | (refine' lcf_free (by k_asm) (by rfl) (by k_mem) (by k_asm) ?_ (by rfl) (by with_unfolding_all rfl); k_whole)))) | walk1 | (dsimp only; (first | ((fail_if_success (with_reducible show wpAny _ _ _ _ _ _)); first | exact walk_end1 (by k_asm) (by decide) (by k_asm) (by assumption) (by assumption) | exact walk_end2 (by k_asm) (by decide) (by decide) (by k_asm) (by assumption) (by assumption) (by assumption) (by assumption)) | ((with_reducible show wpAny _ _ (binaryOp Operator.Add _ _) _ _ _); (k_here; k_dflt (refine addT_K (by k_asm) (by k_asm) (by first | exact .tail _ (List.mem_append_right _ (.tail _ (.head _))) | k_mem) (by k_mem) (told_len1 (by assumption)) (told_len2 (by assumption) (by assumption)) ?_); intro D' h' F' N')) | ((with_reducible show wpAny _ _ (call (Value.builtin "list.append") _) _ _ _); (k_here; k_dflt (refine tell_K (by k_asm) (by k_asm) (by k_ne) (by assumption) (by assumption) ?_); intro h' F' N')) | ((with_reducible show wpAny _ _ (compareOp CmpOp.NotEq _ _) _ _ _); (k_here; (with_reducible show wpAny _ _ (compareOp _ (Value.ref _) (Value.str _ _)) _ _ _); k_dflt (refine ne_ds (by k_asm) (by assumption) (by assumption) (by exact units_rl (by omega)) ?_))) | ((with_reducible show wpAny _ _ (compareOp CmpOp.Eq _ _) _ _ _); (k_here; (with_reducible show wpAny _ _ (compareOp _ (Value.ref _) (Value.str _ _)) _ _ _); k_dflt (refine eq_ds (by k_asm) (by assumption) (by assumption) (by exact units_rl (by omega)) ?_))) | ((with_reducible show wpAny _ _ (subscriptTail _ _ (Value.ref _) (Value.str _ _)) _ _ _); (k_here; k_dflt (refine item_base (by k_asm) (by assumption) (by assumption) (by assumption) ?_))) | ((with_reducible show wpAny _ _ (call (Value.ref _) _) _ _ _); (k_here; k_dflt (first   | (refine' rcall_use (join_c _ _ _ _ _ _ (by assumption) (by assumption)) (by k_asm) (by k_asm) (by k_asm) (by k_asm) (by exact rfl) (by exact depth_rm (by omega)) (by exact units_rm (by omega)) ?_; intro r9 h9 tk9 hp9 F9 N9 st9 sz9; refine hideG fun G9 b9 => ?_; obtain ⟨t9, hq9⟩ := hp9; refine b9 ?_; clear b9 G9; subst hq9)   | (refine' rcall_use (IHuse (by assumption) (by assumption) (by assumption) (by assumption) (by k_asm) (by assumption)) (by k_asm) (by k_asm) (by k_asm) (by k_asm) (by exact rfl) (by exact depth_rm (by omega)) (by exact units_rm (by omega)) ?_; intro r9 h9 tk9 hp9 F9 N9 st9 sz9; refine hideG fun G9 b9 => ?_; obtain ⟨D9, vs9, k9, tl9, hq9, hn9, htl9, hT9⟩ := hp9; refine b9 ?_; clear b9 G9; subst hq9; have N10 := news_made hn9 (by assumption) N9; clear N9; simp only [List.cons_append] at N10)); (try dsimp only); (try k_fold))) | ((with_reducible show wpAny _ _ (exec (Stmt.For _ _ _ _ _) _) _ _ _); (k_here; (rename Fr _ _ _ _ => lF'); (with_unfolding_all refine' For_invVF lF' (by exact rfl) (by exact rfl) ?_; k_whole))) | ((with_reducible show wpAny _ _ (binaryOp Operator.Add _ _) _ _ _); (k_here; (with_reducible show wpAny _ _ (binaryOp _ (Value.ref _) (Value.ref _)) _ _ _); (k_dflt (refine addL_K (by k_asm) (by k_asm) (by k_mem) (by k_mem) (cat_size (by assumption)) ?_)); intro D' h' F' N' l1; (try k_lt l1); (try dsimp only))) | ((with_reducible show wpAny _ _ (eval (PySem.Expr.Name _ _) _) _ _ _); (k_here; (with_reducible show wpAny _ _ (eval (Expr.Name _ _) (compEnvC _ _ _ (compEnvC _ _ _ _))) _ _ _); k_dflt (first   | (refine' lcf_cell (by k_asm) (by rfl) (by k_mem) (by k_asm) ?_ (by rfl) (by with_unfolding_all rfl); k_whole)   | (refine' lcf_free (by k_asm) (by rfl) (by k_mem) (by k_asm) ?_ (by rfl) (by with_unfolding_all rfl); k_whole)))) | walk1)) | (leave1; (try dsimp only)) | fail "no step"))
  · (repeat' (first | (k_unfold; (try dsimp only)) | (k_end; wrow_close) | ((fail_if_success (with_reducible show wpAny _ _ _ _ _ _)); first | exact walk_end1 (by k_asm) (by decide) (by k_asm) (by assumption) (by assumption) | exact walk_end2 (by k_asm) (by decide) (by decide) (by k_asm) (by assumption) (by assumption) (by assumption) (by assumption)) | ((with_reducible show wpAny _ _ (binaryOp Operator.Add _ _) _ _ _); (k_here; k_dflt (refine addT_K (by k_asm) (by k_asm) (by first | exact .tail _ (List.mem_append_right _ (.tail _ (.head _))) | k_mem) (by k_mem) (told_len1 (by assumption)) (told_len2 (by assumption) (by assumption)) ?_); intro D' h' F' N')) | ((with_reducible show wpAny _ _ (call (Value.builtin "list.append") _) _ _ _); (k_here; k_dflt (refine tell_K (by k_asm) (by k_asm) (by k_ne) (by assumption) (by assumption) ?_); intro h' F' N')) | ((with_reducible show wpAny _ _ (compareOp CmpOp.NotEq _ _) _ _ _); (k_here; (with_reducible show wpAny _ _ (compareOp _ (Value.ref _) (Value.str _ _)) _ _ _); k_dflt (refine ne_ds (by k_asm) (by assumption) (by assumption) (by exact units_rl (by omega)) ?_))) | ((with_reducible show wpAny _ _ (compareOp CmpOp.Eq _ _) _ _ _); (k_here; (with_reducible show wpAny _ _ (compareOp _ (Value.ref _) (Value.str _ _)) _ _ _); k_dflt (refine eq_ds (by k_asm) (by assumption) (by assumption) (by exact units_rl (by omega)) ?_))) | ((with_reducible show wpAny _ _ (subscriptTail _ _ (Value.ref _) (Value.str _ _)) _ _ _); (k_here; k_dflt (refine item_base (by k_asm) (by assumption) (by assumption) (by assumption) ?_))) | ((with_reducible show wpAny _ _ (call (Value.ref _) _) _ _ _); (k_here; k_dflt (first   | (refine' rcall_use (join_c _ _ _ _ _ _ (by assumption) (by assumption)) (by k_asm) (by k_asm) (by k_asm) (by k_asm) (by exact rfl) (by exact depth_rm (by omega)) (by exact units_rm (by omega)) ?_; intro r9 h9 tk9 hp9 F9 N9 st9 sz9; refine hideG fun G9 b9 => ?_; obtain ⟨t9, hq9⟩ := hp9; refine b9 ?_; clear b9 G9; subst hq9)   | (refine' rcall_use (IHuse (by assumption) (by assumption) (by assumption) (by assumption) (by k_asm) (by assumption)) (by k_asm) (by k_asm) (by k_asm) (by k_asm) (by exact rfl) (by exact depth_rm (by omega)) (by exact units_rm (by omega)) ?_; intro r9 h9 tk9 hp9 F9 N9 st9 sz9; refine hideG fun G9 b9 => ?_; obtain ⟨D9, vs9, k9, tl9, hq9, hn9, htl9, hT9⟩ := hp9; refine b9 ?_; clear b9 G9; subst hq9; have N10 := news_made hn9 (by assumption) N9; clear N9; simp only [List.cons_append] at N10)); (try dsimp only); (try k_fold))) | ((with_reducible show wpAny _ _ (exec (Stmt.For _ _ _ _ _) _) _ _ _); (k_here; (rename Fr _ _ _ _ => lF'); (with_unfolding_all refine' For_invVF lF' (by exact rfl) (by exact rfl) ?_; k_whole))) | ((with_reducible show wpAny _ _ (binaryOp Operator.Add _ _) _ _ _); (k_here; (with_reducible show wpAny _ _ (binaryOp _ (Value.ref _) (Value.ref _)) _ _ _); (k_dflt (refine addL_K (by k_asm) (by k_asm) (by k_mem) (by k_mem) (cat_size (by assumption)) ?_)); intro D' h' F' N' l1; (try k_lt l1); (try dsimp only))) | ((with_reducible show wpAny _ _ (eval (PySem.Expr.Name _ _) _) _ _ _); (k_here; (with_reducible show wpAny _ _ (eval (Expr.Name _ _) (compEnvC _ _ _ (compEnvC _ _ _ _))) _ _ _); k_dflt (first   | (refine' lcf_cell (by k_asm) (by rfl) (by k_mem) (by k_asm) ?_ (by rfl) (by with_unfolding_all rfl); k_whole)   | (refine' lcf_free (by k_asm) (by rfl) (by k_mem) (by k_asm) ?_ (by rfl) (by with_unfolding_all rfl); k_whole)))) | walk1 | (dsimp only; (first | ((fail_if_success (with_reducible show wpAny _ _ _ _ _ _)); first | exact walk_end1 (by k_asm) (by decide) (by k_asm) (by assumption) (by assumption) | exact walk_end2 (by k_asm) (by decide) (by decide) (by k_asm) (by assumption) (by assumption) (by assumption) (by assumption)) | ((with_reducible show wpAny _ _ (binaryOp Operator.Add _ _) _ _ _); (k_here; k_dflt (refine addT_K (by k_asm) (by k_asm) (by first | exact .tail _ (List.mem_append_right _ (.tail _ (.head _))) | k_mem) (by k_mem) (told_len1 (by assumption)) (told_len2 (by assumption) (by assumption)) ?_); intro D' h' F' N')) | ((with_reducible show wpAny _ _ (call (Value.builtin "list.append") _) _ _ _); (k_here; k_dflt (refine tell_K (by k_asm) (by k_asm) (by k_ne) (by assumption) (by assumption) ?_); intro h' F' N')) | ((with_reducible show wpAny _ _ (compareOp CmpOp.NotEq _ _) _ _ _); (k_here; (with_reducible show wpAny _ _ (compareOp _ (Value.ref _) (Value.str _ _)) _ _ _); k_dflt (refine ne_ds (by k_asm) (by assumption) (by assumption) (by exact units_rl (by omega)) ?_))) | ((with_reducible show wpAny _ _ (compareOp CmpOp.Eq _ _) _ _ _); (k_here; (with_reducible show wpAny _ _ (compareOp _ (Value.ref _) (Value.str _ _)) _ _ _); k_dflt (refine eq_ds (by k_asm) (by assumption) (by assumption) (by exact units_rl (by omega)) ?_))) | ((with_reducible show wpAny _ _ (subscriptTail _ _ (Value.ref _) (Value.str _ _)) _ _ _); (k_here; k_dflt (refine item_base (by k_asm) (by assumption) (by assumption) (by assumption) ?_))) | ((with_reducible show wpAny _ _ (call (Value.ref _) _) _ _ _); (k_here; k_dflt (first   | (refine' rcall_use (join_c _ _ _ _ _ _ (by assumption) (by assumption)) (by k_asm) (by k_asm) (by k_asm) (by k_asm) (by exact rfl) (by exact depth_rm (by omega)) (by exact units_rm (by omega)) ?_; intro r9 h9 tk9 hp9 F9 N9 st9 sz9; refine hideG fun G9 b9 => ?_; obtain ⟨t9, hq9⟩ := hp9; refine b9 ?_; clear b9 G9; subst hq9)   | (refine' rcall_use (IHuse (by assumption) (by assumption) (by assumption) (by assumption) (by k_asm) (by assumption)) (by k_asm) (by k_asm) (by k_asm) (by k_asm) (by exact rfl) (by exact depth_rm (by omega)) (by exact units_rm (by omega)) ?_; intro r9 h9 tk9 hp9 F9 N9 st9 sz9; refine hideG fun G9 b9 => ?_; obtain ⟨D9, vs9, k9, tl9, hq9, hn9, htl9, hT9⟩ := hp9; refine b9 ?_; clear b9 G9; subst hq9; have N10 := news_made hn9 (by assumption) N9; clear N9; simp only [List.cons_append] at N10)); (try dsimp only); (try k_fold))) | ((with_reducible show wpAny _ _ (exec (Stmt.For _ _ _ _ _) _) _ _ _); (k_here; (rename Fr _ _ _ _ => lF'); (with_unfolding_all refine' For_invVF lF' (by exact rfl) (by exact rfl) ?_; k_whole))) | ((with_reducible show wpAny _ _ (binaryOp Operator.Add _ _) _ _ _); (k_here; (with_reducible show wpAny _ _ (binaryOp _ (Value.ref _) (Value.ref _)) _ _ _); (k_dflt (refine addL_K (by k_asm) (by k_asm) (by k_mem) (by k_mem) (cat_size (by assumption)) ?_)); intro D' h' F' N' l1; (try k_lt l1); (try dsimp only))) | ((with_reducible show wpAny _ _ (eval (PySem.Expr.Name _ _) _) _ _ _); (k_here; (with_reducible show wpAny _ _ (eval (Expr.Name _ _) (compEnvC _ _ _ (compEnvC _ _ _ _))) _ _ _); k_dflt (first   | (refine' lcf_cell (by k_asm) (by rfl) (by k_mem) (by k_asm) ?_ (by rfl) (by with_unfolding_all rfl); k_whole)   | (refine' lcf_free (by k_asm) (by rfl) (by k_mem) (by k_asm) ?_ (by rfl) (by with_unfolding_all rfl); k_whole)))) | walk1)) | (leave1; (try dsimp only)) | fail "no step"))
    exact pend_told hst (by k_asm) (by k_asm) (by assumption) (by rw [hkv.names] at hT'; exact hT')
theorem walk_c (w : World) (W : List (Place × Bool)) (ad : Place → Addr) (hlen : ∀ k p a, (subT W k p a).length ≤ 1000) (hnm : ∀ n p b, (n :: p, b) ∈ W → n.length ≤ 50) (h3 : ∀ p b, (p, b) ∈ W → p.length ≤ 3) : WC w W ad 4 900 8400 := by
  have h0 : WC w W ad 0 920 8600 := by
    intro p a t s hp hk
    rcases hp with e | hp
    · rw [e] at hk; cases hk
    · have := h3 _ _ hp; omega
  exact walk_step w W ad 3 900 8400 (by decide) (by decide) (walk_step w W ad 2 905 8450 (by decide) (by decide) (walk_step w W ad 1 910 8500 (by decide) (by decide) (walk_step w W ad 0 915 8550 (by decide) (by decide) h0 hlen hnm) hlen hnm) hlen hnm) hlen hnm
end
section
open PySem PySem.W PyProof.Rows PySem.Calls
set_option maxRecDepth 100000
noncomputable def lets : List Str := [letS 0, letS 1, letS 2]
noncomputable def ups (l : List Place) : List Place := l.flatMap fun p => lets.map fun n => n :: p
/-- the places below the root, and all with the root -/
noncomputable def allQ : List Place := ups [[]] ++ (ups (ups [[]]) ++ ups (ups (ups [[]])))
noncomputable def allP : List Place := [] :: allQ
noncomputable def pstr (p : Place) : Str := Str.ofString "/" ++ Txt.join (Str.ofString "/") p.reverse
/-- the place of a number -/
noncomputable def plc (n : Nat) : Place := (placeF (n + 1) (n + 1) []).reverse
theorem pstr_plc (n : Nat) : pstr (plc n) = placeS n := by unfold pstr plc placeS; rw [List.reverse_reverse]
theorem plc_in : ∀ n ≤ 38, plc n ∈ allQ := by decide +kernel
/-- the common beginning of two places -/
noncomputable def comP (p q : Place) : Place := (preL p.reverse q.reverse).reverse
/-- q and what is above it, up to the child of the root, the highest ahead -/
noncomputable def chainP : Place → List Place
  | [] => []
  | n :: p => chainP p ++ [n :: p]
/-- the place on the way from a place to p that lies right below it -/
noncomputable def belowP (p q : Place) : Place := q.drop (q.length - (p.length + 1))
theorem t_len : ∀ p ∈ allP, (pstr p).length ≤ 10 := by decide +kernel
theorem t_starts : ∀ p ∈ allP, Txt.startswith (pstr p) (Str.ofString "/") = true := by decide +kernel
theorem t_split : ∀ p ∈ allP, ∀ z ∈ Txt.split (pstr p) (Str.ofString "/"), z.length ≤ 1000 := by decide +kernel
theorem t_dir : ∀ p ∈ allQ, dirS (pstr p) = pstr p.tail := by decide +kernel
theorem t_base : ∀ p ∈ allQ, some (baseS (pstr p)) = p.head? := by decide +kernel
theorem t_names : ∀ p ∈ allP, namesOf (pstr p) = p.reverse := by decide +kernel
theorem t_join : ∀ p ∈ allP, p.length ≤ 2 → ∀ n ∈ lets, joinS (pstr p) n = pstr (n :: p) := by decide +kernel
theorem t_chain : ∀ p ∈ allP, chainF 10 (pstr p) [] = some ((chainP p).map pstr) := by decide +kernel
theorem t_inj : ∀ p ∈ allP, ∀ q ∈ allP, pstr p = pstr q → p = q := by decide +kernel
theorem t_comps : ∀ p ∈ allP, compsS (pstr p) = p.reverse := by decide +kernel
theorem t_pre : ∀ p ∈ allP, ∀ q ∈ allP, preL (lowL p q) (highL p q) = preL p q := by decide +kernel
theorem rev_in : ∀ p ∈ allP, p.reverse ∈ allP := by decide +kernel
theorem t_com (p : Place) (hp : p ∈ allP) (q : Place) (hq : q ∈ allP) : commonS (pstr p) (pstr q) = pstr (comP p q) := by
  unfold commonS
  rw [t_comps p hp, t_comps q hq, t_pre _ (rev_in p hp) _ (rev_in q hq)]
  unfold pstr comP
  rw [List.reverse_reverse]
/-- what lies above or at a place -/
noncomputable def upsOf : Place → List Place
  | [] => [[]]
  | n :: p => (n :: p) :: upsOf p
theorem t_branch : ∀ p ∈ allP, ∀ q ∈ (upsOf p).tail, branchF 10 (pstr p) (pstr q) = some (pstr (belowP q p)) := by decide +kernel
end
section
open PySem PySem.W PyProof.Rows PySem.Calls
set_option maxRecDepth 100000
noncomputable abbrev dictD (w : World) (tk : Tok) (d2 : Addr) : Obj := dictOf [{ hash := PyData.keyHash w.params (Str.ofString "dict"), key := .str (Str.ofString "dict") tk, val := .ref d2 }] 1
section
variable {w : World} {base h₀ : Heap} {L : Addr} {s : Shared} {m : Str → Option Value} {front back nl R : List (Addr × Obj)} {W : List (Place × Bool)} {ad : Place → Addr} {Q E : Value → Shared → Prop}
theorem off_front (O : OwnOff R (front.map (·.1))) (hR : R = nl ++ back) : ∀ q ∈ front, ∀ r ∈ nl, q.1 ≠ r.1 := fun q hq r hr e => O r (hR ▸ List.mem_append_left _ hr) q.1 (List.mem_map_of_mem hq) e.symm
theorem off_again {nl' : List (Addr × Obj)} (O : OwnOff R (front.map (·.1))) (hR : R = nl ++ back) (h : ∀ q ∈ front, ∀ r ∈ nl', q.1 ≠ r.1) : OwnOff (nl' ++ back) (front.map (·.1)) := fun q hq b hb e => by
  obtain ⟨p, hp, rfl⟩ := List.mem_map.mp hb
  rcases List.mem_append.mp hq with hq | hq
  · exact h p hp q hq e.symm
  · exact O q (hR ▸ List.mem_append_right _ hq) p.1 (List.mem_map_of_mem hp) e
theorem opened_K2 {n : Str} {nms : List (Str × NameKind)} {mr : List (Str × Const)} {fa : Addr} {cd : Value} {x d3 d2 : Addr} {tk : Tok}
    {loose : List Str} {mean : ExcName → Option Value} {mg mb : Str → Option Value} {p : Place} {fo : Str} {tf : Tok}
    (N : News h₀ L s.heap (front ++ R)) (hR : R = nl ++ back) (hx : (x, instObj 53 d3) ∈ front) (hd3 : (d3, dictD w tk d2) ∈ front) (O : OwnOff R (front.map (·.1))) (off : ∀ q ∈ back, ∀ r ∈ nl, q.1 ≠ r.1) (T : Tree w W ad nl) (hd2 : ad [] = d2)
    (hp : p ∈ allP) (hfo : fo = pstr p) (hWl : W.length ≤ 900) (B : Below callerA base [] h₀) (XB : (hd.heap_1 w.params).In base) (TB : Top topProg loose mean mg mb base) (F : Fr h₀ L s.heap m) (X : (hd.heap_1 w.params).In h₀) (Tp : Top topProg loose mean mg mb h₀)
    (kOk : ∀ W' ad' nl' R' h' tk', R' = nl' ++ back → W' = goW p.reverse [] W → ¬ barred p.reverse [] W → Tree w W' ad' nl' → ad' [] = d2 → isDir W' p → OwnOff R' (front.map (·.1)) → (∀ q ∈ back, ∀ r ∈ nl', q.1 ≠ r.1) →
      Fr h₀ L h' m → News h₀ L h' (front ++ R') → Q (.ref (ad' p)) { s with heap := h', toks := tk' })
    (kErr : ∀ ad' nl' R' h' tk' u, R' = nl' ++ back → barred p.reverse [] W → Tree w W ad' nl' → ad' [] = d2 → OwnOff R' (front.map (·.1)) → (∀ q ∈ back, ∀ r ∈ nl', q.1 ≠ r.1) →
      Fr h₀ L h' m → News h₀ L h' (front ++ R') → Q (.str (Str.ofString "'There is no nest behind this key'") u) { s with heap := h', toks := tk' }) :
    wpAny (model prog w) (callerA.deeper (envOfC n { kind := ScopeKind.function, names := nms, isGenerator := false, isCoroutine := false, more := mr } L fa cd)) (call (.ref 189) [.ref x, .str fo tf]) Q E s := by
  subst hfo
  have hnm := t_names p hp
  have hl := t_len p hp
  have hofff := off_front O hR
  have hoff : ∀ q ∈ (x, instObj 53 d3) :: (d3, dictD w tk d2) :: (front ++ back), ∀ r ∈ nl, q.1 ≠ r.1 := by
    intro q hq
    rcases List.mem_cons.mp hq with h | hq
    · rw [h]; exact hofff _ hx
    · rcases List.mem_cons.mp hq with h | hq
      · rw [h]; exact hofff _ hd3
      · exact (List.mem_append.mp hq).elim (hofff q) (off q)
  refine opened_K w (own := front ++ back) (W := W) (ad := ad) (nl := nl) (d2 := d2) (d3 := d3) (tk := tk) T hd2 (by omega) hoff (by omega) (t_split p hp) B XB TB F X Tp ?_ ?_ ?_
  · intro q hq
    rcases List.mem_cons.mp hq with h | hq
    · rw [h]; exact N _ (List.mem_append_left _ hx)
    · rcases List.mem_cons.mp hq with h | hq
      · rw [h]; exact N _ (List.mem_append_left _ hd3)
      · rcases List.mem_append.mp hq with hq | hq
        · exact N q (List.mem_append_right _ (hR ▸ List.mem_append_left _ hq))
        · rcases List.mem_append.mp hq with hq | hq
          · exact N q (List.mem_append_left _ hq)
          · exact N q (List.mem_append_right _ (hR ▸ List.mem_append_right _ hq))
  · intro W' ad' nl' h' tk' hW hb T' hroot hdir _ off' F' N'
    rw [hnm] at hW hb hdir ⊢
    rw [List.reverse_reverse] at hdir ⊢
    refine kOk W' ad' nl' (nl' ++ back) h' tk' rfl hW hb T' (hroot.trans hd2) hdir (off_again O hR fun q hq => off' q (.tail _ (.tail _ (List.mem_append_left _ hq)))) (fun q hq => off' q (.tail _ (.tail _ (List.mem_append_right _ hq)))) F' fun q hq => ?_
    rcases List.mem_append.mp hq with hq | hq
    · exact N' q (List.mem_append_right _ (.tail _ (.tail _ (List.mem_append_left _ hq))))
    · rcases List.mem_append.mp hq with hq | hq
      · exact N' q (List.mem_append_left _ hq)
      · exact N' q (List.mem_append_right _ (.tail _ (.tail _ (List.mem_append_right _ hq))))
  · intro ad' nl' h' tk' u hb T' hroot off' F' N'
    rw [hnm] at hb
    refine kErr ad' nl' (nl' ++ back) h' tk' u rfl hb T' (hroot.trans hd2) (off_again O hR fun q hq => off' q (.tail _ (.tail _ (List.mem_append_left _ hq)))) (fun q hq => off' q (.tail _ (.tail _ (List.mem_append_right _ hq)))) F' fun q hq => ?_
    rcases List.mem_append.mp hq with hq | hq
    · exact N' q (List.mem_append_right _ (.tail _ (.tail _ (List.mem_append_left _ hq))))
    · rcases List.mem_append.mp hq with hq | hq
      · exact N' q (List.mem_append_left _ hq)
      · exact N' q (List.mem_append_right _ (.tail _ (.tail _ (List.mem_append_right _ hq))))
/-- nest.setdefault(name, '') on a node of the tree; gs stand ahead of the ledger's front -/
theorem setdef_K {A : Around} {gs : List (Addr × Obj)} {p : Place} {n : Str} {t u : Tok} (F : Fr h₀ L s.heap m) (N : News h₀ L s.heap (gs ++ (front ++ R))) (hR : R = nl ++ back) (O : OwnOff R (front.map (·.1))) (Og : OwnOff R (gs.map (·.1))) (off : ∀ q ∈ back, ∀ r ∈ nl, q.1 ≠ r.1) (T : Tree w W ad nl) (hp : isDir W p) (hWl : W.length ≤ 900)
    (old : ∀ b, (n :: p, b) ∈ W → ∀ v, Q v { s with toks := s.toks + 1 })
    (new : (∀ b, (n :: p, b) ∉ W) → ∀ nl' R' h', R' = nl' ++ back → Tree w (W ++ [(n :: p, true)]) ad nl' → OwnOff R' (front.map (·.1)) → OwnOff R' (gs.map (·.1)) → (∀ q ∈ back, ∀ r ∈ nl', q.1 ≠ r.1) → Fr h₀ L h' m → News h₀ L h' (gs ++ (front ++ R')) → ∀ v, Q v { s with heap := h', toks := s.toks + 1 }) :
    wpAny (model prog w) A (call (.builtin "dict.setdefault") [.ref (ad p), .str n t, .str (Str.ofString "") u]) Q E s := by
  obtain ⟨o, kvs, hm, hdo, hk⟩ := T.node p hp
  have hmR : (ad p, o) ∈ R := hR ▸ List.mem_append_left _ hm
  have hmN : (ad p, o) ∈ gs ++ (front ++ R) := List.mem_append_right _ (List.mem_append_right _ hmR)
  have hsz : kvs.length ≤ sizeLine := Nat.le_trans hk.size (Nat.le_trans hWl (by decide))
  have hargs : argsOk "dict.setdefault" ⟨[.ref (ad p), .str n t, .str (Str.ofString "") u], []⟩ := by unfold argsOk; kernel_rfl
  have hlow := T.low p hp
  rcases hk.look n with ⟨hno, hv⟩ | ⟨hf, hv⟩ | ⟨hf, t1, hv⟩
  · -- laid in
    have N2 : News h₀ L s.heap ((ad p, o) :: (offA (ad p) nl ++ (back ++ (gs ++ front)))) := fun q hq => by
      rcases List.mem_cons.mp hq with h | hq
      · rw [h]; exact N _ hmN
      · rcases List.mem_append.mp hq with hq | hq
        · exact N q (List.mem_append_right _ (List.mem_append_right _ (hR ▸ List.mem_append_left _ (offA_sub q hq))))
        · rcases List.mem_append.mp hq with hq | hq
          · exact N q (List.mem_append_right _ (List.mem_append_right _ (hR ▸ List.mem_append_right _ hq)))
          · rcases List.mem_append.mp hq with hq | hq
            · exact N q (List.mem_append_left _ hq)
            · exact N q (List.mem_append_right _ (List.mem_append_left _ hq))
    refine kob_setdef_new F N2 (UpdF.head ?_) hdo hlow (is_str n t) hargs hv hsz ?_
    · intro q hq
      rcases List.mem_append.mp hq with hq | hq
      · exact offA_ne q hq
      · rcases List.mem_append.mp hq with hq | hq
        · exact off q hq _ hm
        · rcases List.mem_append.mp hq with hq | hq
          · exact fun e => Og _ hmR q.1 (List.mem_map_of_mem hq) e.symm
          · exact fun e => O _ hmR q.1 (List.mem_map_of_mem hq) e.symm
    · intro h' o' F' N' hd'
      have sub : ∀ r ∈ (ad p, o') :: offA (ad p) nl, ∃ r' ∈ nl, r.1 = r'.1 := fun r hr => by
        rcases List.mem_cons.mp hr with h | hr
        · rw [h]; exact ⟨_, hm, rfl⟩
        · exact ⟨r, offA_sub r hr, rfl⟩
      refine new hno ((ad p, o') :: offA (ad p) nl) _ h' rfl (T.addFile hp hno hk hd') ?_ ?_ ?_ F' ?_ _
      · refine off_again O hR fun q hq r hr => ?_
        obtain ⟨r', hr', e⟩ := sub r hr
        rw [e]; exact off_front O hR q hq r' hr'
      · refine off_again Og hR fun q hq r hr => ?_
        obtain ⟨r', hr', e⟩ := sub r hr
        rw [e]; exact off_front Og hR q hq r' hr'
      · intro q hq r hr
        obtain ⟨r', hr', e⟩ := sub r hr
        rw [e]; exact off q hq r' hr'
      · intro q hq
        rcases List.mem_append.mp hq with hq | hq
        · exact N' q (.tail _ (List.mem_append_right _ (List.mem_append_right _ (List.mem_append_left _ hq))))
        · rcases List.mem_append.mp hq with hq | hq
          · exact N' q (.tail _ (List.mem_append_right _ (List.mem_append_right _ (List.mem_append_right _ hq))))
          · rcases List.mem_append.mp hq with hq | hq
            · rcases List.mem_cons.mp hq with h | hq
              · rw [h]; exact N' _ (.head _)
              · exact N' q (.tail _ (List.mem_append_left _ hq))
            · exact N' q (.tail _ (List.mem_append_right _ (List.mem_append_left _ hq)))
  · exact kob_setdef_there N hmN hdo hlow (is_str n t) hargs hv hsz (old _ hf _)
  · exact kob_setdef_there N hmN hdo hlow (is_str n t) hargs hv hsz (old _ hf _)
theorem setdef_m {A : Around} {gs : List (Addr × Obj)} {p : Place} {pl : Sem Bool} {Q : Value × List Value → Shared → Prop} (N : News h₀ L s.heap gs) (hR : R = nl ++ back) (hs : ∀ q ∈ R, q ∈ gs) (T : Tree w W ad nl) (hp : isDir W p)
    (h : Q (.builtin "dict.setdefault", [.ref (ad p)]) s) : wpAny (model prog w) A (getMethod (.ref (ad p)) (Str.ofString "setdefault") pl) Q E s := by
  obtain ⟨o, kvs, hm, hdo, hk⟩ := T.node p hp
  exact kob_method PySem.F.slot_dict_setdefault PySem.F.type_dict_setdefault N (hs _ (hR ▸ List.mem_append_left _ hm)) hdo h
theorem nest_isi {A : Around} {gs : List (Addr × Obj)} {p : Place} (N : News h₀ L s.heap gs) (hR : R = nl ++ back) (hs : ∀ q ∈ R, q ∈ gs) (T : Tree w W ad nl) (hp : isDir W p)
    (h : Q (.bool false) { s with toks := s.toks + 1 }) : wpAny (model prog w) A (call (.builtin "isinstance") [.ref (ad p), .type "str"]) Q E s := by
  obtain ⟨o, kvs, hm, hdo, hk⟩ := T.node p hp
  exact isi_ds N (hs _ (hR ▸ List.mem_append_left _ hm)) hdo h
end
end
section
open PySem PySem.W PyProof.Rows PySem.Calls
set_option maxRecDepth 100000
/-- the law's own objects ahead of the tree's -/
noncomputable abbrev frontO (w : World) (tk : Tok) (d2 cW cF cD lw lf x d3 : Addr) (oW oF oD : Obj) (zsW zsF : List (Str × Tok)) (kw kf : Nat) : List (Addr × Obj) :=
  [(cW, oW), (cF, oF), (cD, oD), (lw, lstO (strValues zsW) kw), (lf, lstO (strValues zsF) kf), (x, instObj 53 d3), (d3, dictD w tk d2)]
/-- the lists tell the arrivals -/
structure LawSt (W : List (Place × Bool)) (zsW zsF : List (Str × Tok)) : Prop where
  ways : zsW.map (·.1) = W.map fun q => pstr q.1
  files : zsF.map (·.1) = (W.filter (·.2)).map fun q => pstr q.1
  inQ : ∀ q ∈ W, q.1 ∈ allQ
noncomputable def Apart (l : List Addr) : Prop := l.Pairwise (· ≠ ·)
noncomputable def lawM (m : Str → Option Value) (a b c d : Option Value) : Str → Option Value := fun y => if y = Str.ofString "x" then a else if y = Str.ofString "place" then b else if y = Str.ofString "barred" then c else if y = Str.ofString "nest" then d else m y
theorem lawM_norm {m : Str → Option Value} {a b c d a' b' c' d' : Option Value} : (fun y => if y = Str.ofString "nest" then d' else if y = Str.ofString "barred" then c' else if y = Str.ofString "place" then b' else if y = Str.ofString "x" then a' else if y = Str.ofString "place" then b else if y = Str.ofString "barred" then c else if y = Str.ofString "nest" then d else m y) = lawM m a' b' c' d' := by
  have e1 : Str.ofString "nest" ≠ Str.ofString "barred" := by decide
  have e2 : Str.ofString "nest" ≠ Str.ofString "place" := by decide
  have e3 : Str.ofString "nest" ≠ Str.ofString "x" := by decide
  have e4 : Str.ofString "barred" ≠ Str.ofString "place" := by decide
  have e5 : Str.ofString "barred" ≠ Str.ofString "x" := by decide
  have e6 : Str.ofString "place" ≠ Str.ofString "x" := by decide
  funext y
  unfold lawM
  by_cases h1 : y = Str.ofString "nest"
  · subst h1; simp [e1, e2, e3]
  · by_cases h2 : y = Str.ofString "barred"
    · subst h2; simp [h1, e4, e5]
    · by_cases h3 : y = Str.ofString "place"
      · subst h3; simp [h1, h2, e6]
      · by_cases h4 : y = Str.ofString "x"
        · subst h4; simp [h1, h2, h3]
        · simp [h1, h2, h3, h4]
/-- an arrival: nothing goes, and a place of its top is there -/
noncomputable def Came (W : List (Place × Bool)) (k : Nat) (W' : List (Place × Bool)) : Prop := (∀ q ∈ W, q ∈ W') ∧ ∃ q ∈ W', q.1.getLast? = (plc (k / 2)).getLast?
noncomputable def LawEnd (C : List (Place × Bool) → Prop) (h₀ : Heap) (L : Addr) (w : World) (m : Str → Option Value) (tk : Tok) (d2 cW cF cD x d3 : Addr) (back : List (Addr × Obj)) (s : Shared) (f : Flow) (s₂ : Shared) : Prop :=
  f = .next ∧ ∃ h' tk' oW oF oD lw lf kw kf zsW zsF W ad nl a b c d, s₂ = { s with heap := h', toks := tk' } ∧ Fr h₀ L h' (lawM m a b c d) ∧ News h₀ L h' (frontO w tk d2 cW cF cD lw lf x d3 oW oF oD zsW zsF kw kf ++ (nl ++ back)) ∧
    oW.data = .cell (some (.ref lw)) ∧ oF.data = .cell (some (.ref lf)) ∧ (∃ v, oD.data = .cell v) ∧ LawSt W zsW zsF ∧ Tree w W ad nl ∧ ad [] = d2 ∧ (∀ q ∈ back, ∀ r ∈ nl, q.1 ≠ r.1) ∧ OwnOff (nl ++ back) [cW, cF, cD, lw, lf, x, d3] ∧ Apart [cW, cF, cD, lw, lf, x, d3] ∧ C W
section
variable {w : World} {A : Around} {E : Value → Shared → Prop} {s : Shared} {h₀ : Heap} {m : Str → Option Value} {env : Env}
theorem law_loop {body : List Stmt} {Q : Flow → Shared → Prop} {D cW cF cD lw0 lf0 x d3 d2 : Addr} {oW0 oF0 oD0 o0 : Obj} {vs : List Value} {ns : List Int} {kD kw0 kf0 : Nat} {tk : Tok} {tabs news : List (Addr × Obj)}
    (hh : A.handled = none) (hi : IntsAre vs ns) (hns : ∀ n ∈ ns, 0 ≤ n ∧ n < 78) (F : Fr h₀ env.locals s.heap m) (N : News h₀ env.locals s.heap news) (hD : (D, W.listOf vs.toArray kD) ∈ news)
    (hsub : ∀ q ∈ frontO w tk d2 cW cF cD lw0 lf0 x d3 oW0 oF0 oD0 [] [] kw0 kf0 ++ ([(d2, o0)] ++ tabs), q ∈ news) (hap : Apart [cW, cF, cD, lw0, lf0, x, d3]) (hoff : OwnOff ([(d2, o0)] ++ tabs) [cW, cF, cD, lw0, lf0, x, d3]) (hoff2 : ∀ q ∈ tabs, ∀ r ∈ [(d2, o0)], q.1 ≠ r.1)
    (hDoff : ∀ q ∈ frontO w tk d2 cW cF cD lw0 lf0 x d3 oW0 oF0 oD0 [] [] kw0 kf0 ++ ([(d2, o0)] ++ tabs), q.1 ≠ D) (hroot : o0.IsDictOf (strKind prog w) []) (hlow : (d2 == sysModules) = false)
    (hW0 : oW0.data = .cell (some (.ref lw0))) (hF0 : oF0.data = .cell (some (.ref lf0))) (hD0 : ∃ v, oD0.data = .cell v)
    (turn : ∀ (k : Nat) t oW oF oD lw lf kw kf zsW zsF W ad nl R back b c d h tk', k < 78 → R = nl ++ back → oW.data = .cell (some (.ref lw)) → oF.data = .cell (some (.ref lf)) → (∃ v, oD.data = .cell v) → LawSt W zsW zsF → Tree w W ad nl → ad [] = d2 → (∀ q ∈ back, ∀ r ∈ nl, q.1 ≠ r.1) →
      OwnOff R [cW, cF, cD, lw, lf, x, d3] → Apart [cW, cF, cD, lw, lf, x, d3] → Fr h₀ env.locals h (fun y => if y = Str.ofString "x" then some (.int (k : Nat) t) else if y = Str.ofString "place" then b else if y = Str.ofString "barred" then c else if y = Str.ofString "nest" then d else m y) →
      News h₀ env.locals h (frontO w tk d2 cW cF cD lw lf x d3 oW oF oD zsW zsF kw kf ++ R) →
      wpAny (model prog w) A (execs body env) (LawEnd (Came W k) h₀ env.locals w m tk d2 cW cF cD x d3 back { s with heap := h, toks := tk' }) E { s with heap := h, toks := tk' })
    (done : ∀ oW oF oD lw lf kw kf zsW zsF W ad nl a b c d h tk', oW.data = .cell (some (.ref lw)) → oF.data = .cell (some (.ref lf)) → (∃ v, oD.data = .cell v) → LawSt W zsW zsF → Tree w W ad nl → ad [] = d2 → (∀ q ∈ tabs, ∀ r ∈ nl, q.1 ≠ r.1) → OwnOff (nl ++ tabs) [cW, cF, cD, lw, lf, x, d3] →
      Apart [cW, cF, cD, lw, lf, x, d3] → (∀ n : Nat, (n : Int) ∈ ns → ∃ q ∈ W, q.1.getLast? = (plc (n / 2)).getLast?) → Fr h₀ env.locals h (lawM m a b c d) → News h₀ env.locals h (frontO w tk d2 cW cF cD lw lf x d3 oW oF oD zsW zsF kw kf ++ (nl ++ tabs)) → Q .next { s with heap := h, toks := tk' }) :
    wpAny (model prog w) A (pyIter (.ref D)) (fun it s₂ => LoopAtV prog w A h₀ env (Str.ofString "x") body Q E it s₂) E s := by
  have hDs := (N _ hD).1
  have hls : s.heap.IsList D vs.toArray := ⟨_, hDs, rfl, _, rfl⟩
  have hlt : D < s.heap.objs.size := Heap.lt_size hDs
  refine wpAny_pyIter_list hls ?_
  have W0 := Walks.list (prog := prog) (w := w) (A := A) hh s.heap.objs.size D (Nat.ne_of_lt hlt) vs.toArray
  have hlen : vs.toArray.size = ns.length := by simp [hi.length]
  rw [hlen] at W0
  have hIn : h₀.get? s.heap.objs.size = none := next_is_new F
  have hD0n : h₀.get? D = none := (N _ hD).2.2
  let J : Nat → (Str → Option Value) → List (Addr × Obj) → Prop := fun i m₁ news₁ => ∃ oW oF oD lw lf kw kf zsW zsF W ad nl a b c d, news₁ = frontO w tk d2 cW cF cD lw lf x d3 oW oF oD zsW zsF kw kf ++ (nl ++ tabs) ∧ m₁ = lawM m a b c d ∧
    oW.data = .cell (some (.ref lw)) ∧ oF.data = .cell (some (.ref lf)) ∧ (∃ v, oD.data = .cell v) ∧ LawSt W zsW zsF ∧ Tree w W ad nl ∧ ad [] = d2 ∧ (∀ q ∈ tabs, ∀ r ∈ nl, q.1 ≠ r.1) ∧ OwnOff (nl ++ tabs) [cW, cF, cD, lw, lf, x, d3] ∧ Apart [cW, cF, cD, lw, lf, x, d3] ∧ (∀ q ∈ news₁, q.1 ≠ D) ∧ ∀ (j n : Nat), j < i → ns[j]? = some (n : Int) → ∃ q ∈ W, q.1.getLast? = (plc (n / 2)).getLast?
  refine ⟨_, _, _, ns.length, _, _, m, frontO w tk d2 cW cF cD lw0 lf0 x d3 oW0 oF0 oD0 [] [] kw0 kf0 ++ ([(d2, o0)] ++ tabs), J, rfl, W0, ?_, ?_, ?_, ⟨⟨_, Heap.get?_push_size _ rfl, rfl, rfl⟩, hls.at fun o e => Heap.get?_push_of_some _ e⟩, F.push _, ?_, ?_, ?_, ?_⟩
  · intro hm'
    rcases List.mem_cons.mp hm' with e | hm'
    · exact absurd F.ns.lt (by rw [e]; exact Nat.lt_irrefl _)
    · exact (N _ hD).2.1 (List.mem_singleton.mp hm').symm
  · intro b hb
    rw [List.mem_singleton.mp hb]; exact hIn
  · intro q hq hb
    have := Heap.lt_size (N q (hsub q hq)).1
    rw [List.mem_singleton.mp hb] at this
    exact Nat.lt_irrefl _ this
  · exact fun q hq => ⟨Heap.get?_push_of_some _ (N q (hsub q hq)).1, (N q (hsub q hq)).2⟩
  · have hdir : ∀ p, isDir [] p → p = [] := fun p hp => hp.elim id fun h => (nomatch h)
    refine ⟨oW0, oF0, oD0, lw0, lf0, kw0, kf0, [], [], [], (fun _ => d2), [(d2, o0)], m (Str.ofString "x"), m (Str.ofString "place"), m (Str.ofString "barred"), m (Str.ofString "nest"), rfl, ?_, hW0, hF0, hD0, ⟨rfl, rfl, fun _ h => (nomatch h)⟩, ?_, rfl, hoff2, hoff, hap, hDoff, fun j n hj _ => absurd hj (Nat.not_lt_zero _)⟩
    · funext y
      unfold lawM
      by_cases h1 : y = Str.ofString "x"
      · rw [if_pos h1, h1]
      · rw [if_neg h1]
        by_cases h2 : y = Str.ofString "place"
        · rw [if_pos h2, h2]
        · rw [if_neg h2]
          by_cases h3 : y = Str.ofString "barred"
          · rw [if_pos h3, h3]
          · rw [if_neg h3]
            by_cases h4 : y = Str.ofString "nest"
            · rw [if_pos h4, h4]
            · rw [if_neg h4]
    · refine ⟨⟨List.nodup_nil, fun _ _ _ h => (nomatch h), fun _ h => (nomatch h)⟩, by simp, fun p _ => ⟨o0, [], List.mem_singleton.mpr rfl, hroot, ⟨rfl, fun _ _ h => (nomatch h)⟩⟩, fun p q hp hq _ => by rw [hdir p hp, hdir q hq], fun _ _ => hlow⟩
  · rintro i v m₁ news₁ s₁ own ⟨h, tk', rfl⟩ hi' hP hJ hnw hown hownat hownall hstep F₁ N₁
    refine hideG fun G back => ?_
    obtain ⟨oW, oF, oD, lw, lf, kw, kf, zsW, zsF, W, ad, nl, a, b, c, d, e1, e2, hW, hF, hDd, hst, hT, hroot', off1, off2, ap, offD, hcame⟩ := hJ
    refine back ?_
    clear back G
    subst e1 e2
    obtain ⟨n, hn, t, rfl⟩ : ∃ n, ns[i]? = some n ∧ ∃ t, v = .int n t := by
      have hv : vs[i]? = some v := by simpa using hP
      obtain ⟨n, hn⟩ : ∃ n, ns[i]? = some n := ⟨ns[i], by simp [hi']⟩
      obtain ⟨t, ht⟩ := hi.get i n hn
      rw [hv] at ht
      exact ⟨n, hn, t, Option.some.inj ht⟩
    obtain ⟨h0, h78⟩ := hns n (List.mem_of_getElem? hn)
    obtain ⟨k, rfl⟩ := Int.eq_ofNat_of_zero_le h0
    have em : (fun y => if y = Str.ofString "x" then some (Value.int (k : Nat) t) else lawM m a b c d y) = fun y => if y = Str.ofString "x" then some (Value.int (k : Nat) t) else if y = Str.ofString "place" then b else if y = Str.ofString "barred" then c else if y = Str.ofString "nest" then d else m y := by
      funext y
      unfold lawM
      by_cases h1 : y = Str.ofString "x"
      · rw [if_pos h1, if_pos h1]
      · rw [if_neg h1, if_neg h1, if_neg h1]
    rw [em] at F₁
    obtain ⟨oI, hoI, hcI, _⟩ := hstep.1
    have hIown : (s.heap.objs.size, oI) ∈ own := hownall _ (by simp) hIn oI hoI
    obtain ⟨oDl, hoDl, _⟩ := hstep.2
    have hDown : (D, oDl) ∈ own := hownall _ (by simp) hD0n oDl hoDl
    have owne : ∀ q ∈ own, q.1 = s.heap.objs.size ∨ q.1 = D := fun q hq => (List.mem_cons.mp (hown q hq)).imp id fun e => List.mem_singleton.mp e
    have ownoff : ∀ q ∈ own, ∀ r ∈ frontO w tk d2 cW cF cD lw lf x d3 oW oF oD zsW zsF kw kf ++ (nl ++ tabs), q.1 ≠ r.1 := fun q hq r hr e => by
      rcases owne q hq with e1 | e1
      · exact hnw r hr (List.mem_singleton.mpr (e.symm.trans e1))
      · exact offD r hr (e.symm.trans e1)
    refine wpAny_mono (turn k t oW oF oD lw lf kw kf zsW zsF W ad nl (nl ++ (tabs ++ own)) (tabs ++ own) b c d h tk' (by omega) rfl hW hF hDd hst hT hroot' ?_ ?_ ap F₁ ?_) ?_ fun _ _ e => e
    · intro q hq r hr
      rcases List.mem_append.mp hq with hq | hq
      · exact off1 q hq r hr
      · exact ownoff q hq r (List.mem_append_right _ (List.mem_append_left _ hr))
    · intro q hq ad' had
      rcases List.mem_append.mp hq with hq | hq
      · exact off2 q (List.mem_append_left _ hq) ad' had
      · rcases List.mem_append.mp hq with hq | hq
        · exact off2 q (List.mem_append_right _ hq) ad' had
        · intro e
          have : ad' ∈ (frontO w tk d2 cW cF cD lw lf x d3 oW oF oD zsW zsF kw kf).map (·.1) := had
          obtain ⟨r, hr, hre⟩ := List.mem_map.mp this
          exact ownoff q hq r (List.mem_append_left _ hr) (e.trans hre.symm)
    · intro q hq
      rcases List.mem_append.mp hq with hq | hq
      · exact N₁ q (List.mem_append_right _ (List.mem_append_left _ hq))
      · rcases List.mem_append.mp hq with hq | hq
        · exact N₁ q (List.mem_append_right _ (List.mem_append_right _ (List.mem_append_left _ hq)))
        · rcases List.mem_append.mp hq with hq | hq
          · exact N₁ q (List.mem_append_right _ (List.mem_append_right _ (List.mem_append_right _ hq)))
          · exact N₁ q (List.mem_append_left _ hq)
    · intro f s₂ hE
      refine hideG fun G back => ?_
      obtain ⟨e1, h', tk'', oW', oF', oD', lw', lf', kw', kf', zsW', zsF', W', ad', nl', a', b', c', d', e2, F', N', hW', hF', hDd', hst', hT', hroot'', off1', off2', ap', hC'⟩ := hE
      refine back ?_
      clear back G
      subst e1 e2
      have off3 : ∀ q ∈ own, ∀ r ∈ frontO w tk d2 cW cF cD lw' lf' x d3 oW' oF' oD' zsW' zsF' kw' kf' ++ (nl' ++ tabs), r.1 ≠ q.1 := by
        intro q hq r hr e
        rcases List.mem_append.mp hr with hr | hr
        · have h1 : r.1 ∈ [cW, cF, cD, lw', lf', x, d3] := List.mem_map_of_mem (f := (·.1)) hr
          exact off2' q (List.mem_append_right _ (List.mem_append_right _ hq)) r.1 h1 e.symm
        · rcases List.mem_append.mp hr with hr | hr
          · exact off1' q (List.mem_append_right _ hq) r hr e.symm
          · exact ownoff q hq r (List.mem_append_right _ (List.mem_append_right _ hr)) e.symm
      refine .next ⟨rfl, h', tk'', _, frontO w tk d2 cW cF cD lw' lf' x d3 oW' oF' oD' zsW' zsF' kw' kf' ++ (nl' ++ tabs), rfl, F', ?_, ?_, oW', oF', oD', lw', lf', kw', kf', zsW', zsF', W', ad', nl', a', b', c', d', rfl, rfl, hW', hF', hDd', hst', hT', hroot'', ?_, ?_, ap', ?_, ?_⟩
      · intro q hq
        rcases List.mem_append.mp hq with hq | hq
        · exact N' q (List.mem_append_right _ (List.mem_append_right _ (List.mem_append_right _ hq)))
        · rcases List.mem_append.mp hq with hq | hq
          · exact N' q (List.mem_append_left _ hq)
          · rcases List.mem_append.mp hq with hq | hq
            · exact N' q (List.mem_append_right _ (List.mem_append_left _ hq))
            · exact N' q (List.mem_append_right _ (List.mem_append_right _ (List.mem_append_left _ hq)))
      · intro q hq hb
        exact off3 _ hIown q hq (List.mem_singleton.mp hb)
      · exact fun q hq r hr => off1' q (List.mem_append_left _ hq) r hr
      · intro q hq b hb
        rcases List.mem_append.mp hq with hq | hq
        · exact off2' q (List.mem_append_left _ hq) b hb
        · exact off2' q (List.mem_append_right _ (List.mem_append_left _ hq)) b hb
      · exact fun q hq => off3 _ hDown q hq
      · intro j n9 hj hn9
        rcases Nat.lt_succ_iff_lt_or_eq.mp hj with hj | hj
        · obtain ⟨q, hq, e⟩ := hcame j n9 hj hn9
          exact ⟨q, hC'.1 q hq, e⟩
        · subst hj
          rw [hn] at hn9
          have e9 : k = n9 := by
            have := Option.some.inj hn9
            omega
          subst e9
          exact hC'.2
  · intro h' tk' m' news' F' N' _ hJ
    refine hideG fun G back => ?_
    obtain ⟨oW, oF, oD, lw, lf, kw, kf, zsW, zsF, W, ad, nl, a, b, c, d, e1, e2, hW, hF, hDd, hst, hT, hroot', off1, off2, ap, offD, hcame⟩ := hJ
    refine back ?_
    clear back G
    subst e1 e2
    refine done oW oF oD lw lf kw kf zsW zsF W ad nl a b c d h' tk' hW hF hDd hst hT hroot' off1 off2 ap (fun n hn => ?_) F' N'
    obtain ⟨j, hj, e⟩ := List.getElem_of_mem hn
    exact hcame j n hj (by rw [List.getElem?_eq_getElem hj, e])
end
end
section
open PySem PySem.W PyProof.Rows PySem.Calls
set_option maxRecDepth 100000
noncomputable def keepW (zs : List (Str × Tok)) (z : Str) : Bool := !((zs.map (·.1)).any (· == z))
theorem len3 : ∀ p ∈ allP, p.length ≤ 3 := by decide +kernel
theorem chain_in : ∀ p ∈ allP, ∀ q ∈ chainP p, q ∈ allQ ∧ q.length ≤ p.length := by decide +kernel
theorem chain_nodup : ∀ p ∈ allP, (chainP p).Nodup := by decide +kernel
theorem goW_chain {W : List (Place × Bool)} : ∀ fo : Place, fo.length ≤ 3 → goW fo.reverse [] W = (chainP fo).foldl insA W := by
  intro fo h
  match fo, h with
  | [], _ => rfl
  | [_], _ => rfl
  | [_, _], _ => rfl
  | [_, _, _], _ => rfl
theorem foldl_insA : ∀ (l : List Place) (W : List (Place × Bool)), l.Nodup → l.foldl insA W = W ++ (l.filter fun q => !decide (q ∈ W.map (·.1))).map fun q => (q, false)
  | [], W, _ => by simp
  | x :: r, W, hn => by
    rw [List.nodup_cons] at hn
    rw [List.foldl_cons, foldl_insA r _ hn.2, List.filter_cons]
    by_cases hx : x ∈ W.map (·.1)
    · have e : insA W x = W := by unfold insA; rw [if_pos hx]
      rw [e]
      simp [hx]
    · have e : insA W x = W ++ [(x, false)] := by unfold insA; rw [if_neg hx]
      have ef : r.filter (fun q => !decide (q ∈ (W ++ [(x, false)]).map (·.1))) = r.filter fun q => !decide (q ∈ W.map (·.1)) := by
        apply List.filter_congr
        intro q hq
        have hne : q ≠ x := fun e => hn.1 (e ▸ hq)
        simp [hne]
      rw [e, ef]
      simp only [hx, decide_false, Bool.not_false, if_true, List.map_cons, List.append_assoc, List.singleton_append]
theorem goW_eq {W : List (Place × Bool)} {fo : Place} (h : fo ∈ allP) : goW fo.reverse [] W = W ++ ((chainP fo).filter fun q => !decide (q ∈ W.map (·.1))).map fun q => (q, false) := by
  rw [goW_chain fo (len3 fo h), foldl_insA _ _ (chain_nodup fo h)]
theorem goW_small {W W' : List (Place × Bool)} {fo : Place} (e : W' = goW fo.reverse [] W) (h : fo ∈ allP) (hW : W.length ≤ 39) : W'.length ≤ 900 := by
  subst e
  rw [goW_eq h, List.length_append, List.length_map]
  have h1 := List.length_filter_le (fun q => !decide (q ∈ W.map (·.1))) (chainP fo)
  have h2 : ∀ p ∈ allP, (chainP p).length ≤ 3 := by decide +kernel
  have := h2 fo h
  omega
theorem keepW_eq {W : List (Place × Bool)} {zsW zsF : List (Str × Tok)} (S : LawSt W zsW zsF) {p : Place} (hp : p ∈ allP) : keepW zsW (pstr p) = !decide (p ∈ W.map (·.1)) := by
  unfold keepW
  rw [S.ways]
  congr 1
  rw [Bool.eq_iff_iff, List.any_eq_true, decide_eq_true_iff]
  constructor
  · rintro ⟨z, hz, e⟩
    obtain ⟨q, hq, rfl⟩ := List.mem_map.mp hz
    have := t_inj _ (.tail _ (S.inQ q hq)) _ hp (beq_iff_eq.mp e)
    rw [← this]; exact List.mem_map_of_mem hq
  · intro h
    obtain ⟨q, hq, e⟩ := List.mem_map.mp h
    exact ⟨pstr q.1, List.mem_map.mpr ⟨q, hq, rfl⟩, by rw [e]; exact beq_self_eq_true _⟩
theorem filter_strs {f : Str → Bool} {g : Place → Bool} : ∀ {zs : List (Str × Tok)} {l : List Place}, zs.map (·.1) = l.map pstr → (∀ q ∈ l, f (pstr q) = g q) → (zs.filter fun p => f p.1).map (·.1) = (l.filter g).map pstr
  | [], [], _, _ => rfl
  | [], _ :: _, h, _ => by cases h
  | _ :: _, [], h, _ => by cases h
  | z :: zs, q :: l, h, hg => by
    rw [List.map_cons, List.map_cons] at h
    have h1 := (List.cons.inj h).1
    have h2 := filter_strs (List.cons.inj h).2 fun r hr => hg r (.tail _ hr)
    rw [List.filter_cons, List.filter_cons, h1, hg q (.head _)]
    cases g q with
    | true => simp only [if_true, List.map_cons]; rw [h1, h2]
    | false => simp only [Bool.false_eq_true, if_false]; exact h2
theorem ways_next {W : List (Place × Bool)} {zsW zsF : List (Str × Tok)} (S : LawSt W zsW zsF) {P : Place} (hP : P ∈ allP) {zs9 : List (Str × Tok)} (hz : zs9.map (·.1) = (chainP P).map pstr) :
    (zsW ++ zs9.filter fun p => keepW zsW p.1).map (·.1) = (W.map (·.1) ++ (chainP P).filter fun q => !decide (q ∈ W.map (·.1))).map pstr := by
  rw [List.map_append, S.ways, List.map_append, filter_strs (g := fun q => !decide (q ∈ W.map (·.1))) hz fun q hq => keepW_eq S (.tail _ (chain_in P hP q hq).1), List.map_map]
  rfl
theorem filt_false (l : List Place) : (l.map fun q => (q, false)).filter (·.2) = [] := by
  rw [List.filter_eq_nil_iff]
  intro q hq
  obtain ⟨p, _, rfl⟩ := List.mem_map.mp hq
  simp
theorem map_false (l : List Place) : (l.map fun q => (q, false)).map (·.1) = l := by rw [List.map_map]; simp [Function.comp_def]
/-- a folder came -/
theorem st_dir {W W1 : List (Place × Bool)} {zsW zsF zs9 : List (Str × Tok)} (S : LawSt W zsW zsF) {P : Place} (hP : P ∈ allP) (hz : zs9.map (·.1) = (chainP P).map pstr) (e : W1 = goW P.reverse [] W) : LawSt W1 (zsW ++ zs9.filter fun p => keepW zsW p.1) zsF := by
  subst e
  rw [goW_eq hP]
  refine ⟨?_, ?_, ?_⟩
  · rw [ways_next S hP hz, List.map_append, List.map_append, List.map_map, List.map_map]; rfl
  · rw [S.files, List.filter_append, filt_false, List.append_nil]
  · intro q hq
    rcases List.mem_append.mp hq with hq | hq
    · exact S.inQ q hq
    · obtain ⟨p, hp, rfl⟩ := List.mem_map.mp hq
      exact (chain_in P hP p (List.mem_filter.mp hp).1).1
/-- a file came where something stood -/
theorem st_old {W W1 : List (Place × Bool)} {zsW zsF zs9 : List (Str × Tok)} (S : LawSt W zsW zsF) {n : Str} {P : Place} (hn : n :: P ∈ allQ) (hP : P ∈ allP) (hz : zs9.map (·.1) = (chainP (n :: P)).map pstr) (e : W1 = goW P.reverse [] W) {b : Bool} (hb : (n :: P, b) ∈ W1) :
    keepW zsW (pstr (n :: P)) = false ∧ LawSt W1 (zsW ++ zs9.filter fun p => keepW zsW p.1) zsF := by
  have hin : n :: P ∈ W.map (·.1) := by
    rw [e, goW_eq hP] at hb
    rcases List.mem_append.mp hb with hb | hb
    · exact List.mem_map_of_mem (f := (·.1)) hb
    · obtain ⟨p, hp, e⟩ := List.mem_map.mp hb
      have h1 := (chain_in P hP p (List.mem_filter.mp hp).1).2
      have h2 := congrArg Prod.fst e
      dsimp only at h2
      rw [h2, List.length_cons] at h1
      exact absurd h1 (Nat.not_succ_le_self _)
  have hch : (chainP (n :: P)).filter (fun q => !decide (q ∈ W.map (·.1))) = (chainP P).filter fun q => !decide (q ∈ W.map (·.1)) := by
    show (chainP P ++ [n :: P]).filter _ = _
    rw [List.filter_append, List.filter_cons, decide_eq_true hin]; simp
  refine ⟨by rw [keepW_eq S (.tail _ hn), decide_eq_true hin]; rfl, ?_⟩
  subst e
  rw [goW_eq hP]
  refine ⟨?_, ?_, ?_⟩
  · rw [ways_next S (.tail _ hn) hz, hch, List.map_append, List.map_append, List.map_map, List.map_map]; rfl
  · rw [S.files, List.filter_append, filt_false, List.append_nil]
  · intro q hq
    rcases List.mem_append.mp hq with hq | hq
    · exact S.inQ q hq
    · obtain ⟨p, hp, rfl⟩ := List.mem_map.mp hq
      exact (chain_in P hP p (List.mem_filter.mp hp).1).1
/-- a file came where nothing stood -/
theorem st_new {W W1 : List (Place × Bool)} {zsW zsF zs9 : List (Str × Tok)} (S : LawSt W zsW zsF) {n : Str} {P : Place} {t : Tok} (hn : n :: P ∈ allQ) (hP : P ∈ allP) (hz : zs9.map (·.1) = (chainP (n :: P)).map pstr) (e : W1 = goW P.reverse [] W) (hb : ∀ b, (n :: P, b) ∉ W1) :
    keepW zsW (pstr (n :: P)) = true ∧ LawSt (W1 ++ [(n :: P, true)]) (zsW ++ zs9.filter fun p => keepW zsW p.1) (zsF ++ [(pstr (n :: P), t)]) := by
  have hin : n :: P ∉ W.map (·.1) := by
    intro h
    obtain ⟨⟨q, b⟩, hq, e2⟩ := List.mem_map.mp h
    dsimp only at e2
    subst e2
    exact hb b (by rw [e, goW_eq hP]; exact List.mem_append_left _ hq)
  have hch : (chainP (n :: P)).filter (fun q => !decide (q ∈ W.map (·.1))) = (chainP P).filter (fun q => !decide (q ∈ W.map (·.1))) ++ [n :: P] := by
    show (chainP P ++ [n :: P]).filter _ = _
    rw [List.filter_append, List.filter_cons, decide_eq_false hin]; rfl
  refine ⟨by rw [keepW_eq S (.tail _ hn), decide_eq_false hin]; rfl, ?_⟩
  subst e
  rw [goW_eq hP]
  refine ⟨?_, ?_, ?_⟩
  · rw [ways_next S (.tail _ hn) hz, hch]
    simp [List.map_append, List.map_map, Function.comp_def]
  · rw [List.map_append, S.files, List.filter_append, List.filter_append, filt_false, List.append_nil, List.map_append]; rfl
  · intro q hq
    rcases List.mem_append.mp hq with hq | hq
    · rcases List.mem_append.mp hq with hq | hq
      · exact S.inQ q hq
      · obtain ⟨p, hp, rfl⟩ := List.mem_map.mp hq
        exact (chain_in P hP p (List.mem_filter.mp hp).1).1
    · rw [List.mem_singleton] at hq; subst hq; exact hn
theorem came_dir {W W1 : List (Place × Bool)} {n : Str} {P : Place} {k : Nat} (hk : plc (k / 2) = n :: P) (hn : n :: P ∈ allP) (e : W1 = goW (n :: P).reverse [] W) : Came W k W1 := by
  subst e
  rw [goW_eq hn]
  refine ⟨fun q hq => List.mem_append_left _ hq, ?_⟩
  by_cases hin : n :: P ∈ W.map (·.1)
  · obtain ⟨q, hq, e⟩ := List.mem_map.mp hin
    exact ⟨q, List.mem_append_left _ hq, by rw [hk, e]⟩
  · refine ⟨(n :: P, false), List.mem_append_right _ (List.mem_map.mpr ⟨n :: P, List.mem_filter.mpr ⟨?_, ?_⟩, rfl⟩), by rw [hk]⟩
    · show n :: P ∈ chainP P ++ [n :: P]
      simp
    · rw [decide_eq_false hin]; rfl
theorem came_old {W W1 : List (Place × Bool)} {n : Str} {P : Place} {k : Nat} (hk : plc (k / 2) = n :: P) (hP : P ∈ allP) (e : W1 = goW P.reverse [] W) {b : Bool} (hb : (n :: P, b) ∈ W1) : Came W k W1 := by
  refine ⟨fun q hq => ?_, _, hb, by rw [hk]⟩
  subst e
  rw [goW_eq hP]
  exact List.mem_append_left _ hq
theorem came_new {W W1 : List (Place × Bool)} {n : Str} {P : Place} {k : Nat} (hk : plc (k / 2) = n :: P) (hP : P ∈ allP) (e : W1 = goW P.reverse [] W) : Came W k (W1 ++ [(n :: P, true)]) := by
  refine ⟨fun q hq => List.mem_append_left _ ?_, (n :: P, true), List.mem_append_right _ (.head _), by rw [hk]⟩
  subst e
  rw [goW_eq hP]
  exact List.mem_append_left _ hq
theorem top_ups : ∀ p ∈ allP, ∀ q ∈ upsOf p, q ≠ [] → q.getLast? = p.getLast? := by decide +kernel
theorem top_tail : ∀ p ∈ allQ, p.tail ≠ [] → p.tail.getLast? = p.getLast? := by decide +kernel
theorem ups_nil : ∀ q ∈ upsOf [], q = [] := by decide
theorem came_up {W : List (Place × Bool)} {zsW zsF : List (Str × Tok)} (S : LawSt W zsW zsF) {n : Str} {P fo : Place} {k : Nat} (hk : plc (k / 2) = n :: P) (hn : n :: P ∈ allQ) (hP : P ∈ allP) (hf : fo = n :: P ∨ fo = P) (hb : ∃ q ∈ upsOf fo, (q, true) ∈ W) : Came W k W := by
  obtain ⟨q, hq, hm⟩ := hb
  refine ⟨fun q hq => hq, _, hm, ?_⟩
  have hq0 : q ≠ [] := fun e => by
    have := S.inQ _ hm
    dsimp only at this
    rw [e] at this
    exact absurd this (by decide)
  rw [hk]
  rcases hf with rfl | rfl
  · exact top_ups _ (.tail _ hn) q hq hq0
  · have h1 := top_ups _ hP q hq hq0
    have hne : fo ≠ [] := fun e => by
      rw [e] at hq
      exact hq0 (ups_nil q hq)
    rw [show q.getLast? = fo.getLast? from h1]
    exact top_tail (n :: fo) hn hne
/-- the end of a turn -/
theorem law_end {h₀ : Heap} {L : Addr} {w : World} {m : Str → Option Value} {tk : Tok} {d2 cW cF cD x d3 : Addr} {nl back R news : List (Addr × Obj)} {s : Shared} {h' : Heap} {tk' : Nat} {oW oF oD : Obj} {lw lf : Addr} {kw kf : Nat} {zsW zsF : List (Str × Tok)} {W : List (Place × Bool)} {ad : Place → Addr} {a b c d a' b' c' d' : Option Value} {vD : Option Value}
    (F : Fr h₀ L h' (fun y => if y = Str.ofString "nest" then d' else if y = Str.ofString "barred" then c' else if y = Str.ofString "place" then b' else if y = Str.ofString "x" then a' else if y = Str.ofString "place" then b else if y = Str.ofString "barred" then c else if y = Str.ofString "nest" then d else m y))
    (hR : R = nl ++ back) (O : OwnOff R [cW, cF, cD, lw, lf, x, d3]) (ap : Apart [cW, cF, cD, lw, lf, x, d3]) (N : News h₀ L h' news) (hs : ∀ q ∈ frontO w tk d2 cW cF cD lw lf x d3 oW oF oD zsW zsF kw kf, q ∈ news) (mR : ∀ q ∈ R, q ∈ news)
    (hW : oW.data = .cell (some (.ref lw))) (hF : oF.data = .cell (some (.ref lf))) (hD : oD.data = .cell vD) (S : LawSt W zsW zsF) (T : Tree w W ad nl) (hr : ad [] = d2) (off : ∀ q ∈ back, ∀ r ∈ nl, q.1 ≠ r.1) {C : List (Place × Bool) → Prop} (hC : C W) :
    LawEnd C h₀ L w m tk d2 cW cF cD x d3 back s .next { s with heap := h', toks := tk' } := by
  rw [lawM_norm (a := none)] at F
  subst hR
  exact ⟨rfl, h', tk', oW, oF, oD, lw, lf, kw, kf, zsW, zsF, W, ad, nl, a', b', c', d', rfl, F, fun q hq => N q ((List.mem_append.mp hq).elim (hs q) (mR q)), hW, hF, ⟨vD, hD⟩, S, T, hr, off, O, ap, hC⟩
/-- the addresses with a fresh one for the list of ways -/
theorem apart_new {a b c d d' e f g : Addr} (h : Apart [a, b, c, d, e, f, g]) (h1 : a < d' ∧ b < d' ∧ c < d' ∧ e < d' ∧ f < d' ∧ g < d') : Apart [a, b, c, d', e, f, g] := by
  obtain ⟨l1, l2, l3, l4, l5, l6⟩ := h1
  simp only [Apart, List.pairwise_cons, List.mem_cons, List.not_mem_nil, or_false, forall_eq_or_imp, forall_eq, List.Pairwise.nil, and_true, false_implies, implies_true] at h ⊢
  refine hideG fun G9 b9 => ?_
  obtain ⟨⟨a1, a2, a3, a4, a5, a6⟩, ⟨b1, b2, b3, b4, b5⟩, ⟨c1, c2, c3, c4⟩, ⟨d1, d2, d3⟩, ⟨e1, e2⟩, f1⟩ := h
  refine b9 ?_
  clear b9 G9
  exact ⟨⟨a1, a2, Nat.ne_of_lt l1, a4, a5, a6⟩, ⟨b1, Nat.ne_of_lt l2, b3, b4, b5⟩, ⟨Nat.ne_of_lt l3, c2, c3, c4⟩, ⟨Nat.ne_of_gt l4, Nat.ne_of_gt l5, Nat.ne_of_gt l6⟩, ⟨e1, e2⟩, f1⟩
theorem off_new {R : List (Addr × Obj)} {a b c d d' e f g : Addr} (h : OwnOff R [a, b, c, d, e, f, g]) (h1 : ∀ q ∈ R, q.1 < d') : OwnOff R [a, b, c, d', e, f, g] := by
  intro q hq z hz
  have H := h q hq
  revert z hz
  exact fmc (H _ (.head _)) (fmc (H _ (.tail _ (.head _))) (fmc (H _ (.tail _ (.tail _ (.head _)))) (fmc (Nat.ne_of_lt (h1 q hq)) (fmc (H _ (.tail _ (.tail _ (.tail _ (.tail _ (.head _)))))) (fmc (H _ (.tail _ (.tail _ (.tail _ (.tail _ (.tail _ (.head _))))))) (fmc (H _ (.tail _ (.tail _ (.tail _ (.tail _ (.tail _ (.tail _ (.head _)))))))) (List.forall_mem_nil _)))))))
/-- what the lists hold, for the walk -/
theorem kw_old {W W1 : List (Place × Bool)} {zsW zsF : List (Str × Tok)} (S : LawSt W zsW zsF) {n : Str} {P : Place} (hn : n :: P ∈ allQ) (hP : P ∈ allP) (e : W1 = goW P.reverse [] W) {b : Bool} (hb : (n :: P, b) ∈ W1) : keepW zsW (pstr (n :: P)) = false := by
  have hz : (((chainP (n :: P)).map pstr).map fun z => (z, (0 : Tok))).map (·.1) = (chainP (n :: P)).map pstr := by rw [List.map_map]; simp [Function.comp_def]
  exact (st_old S hn hP hz e hb).1
theorem kw_new {W W1 : List (Place × Bool)} {zsW zsF : List (Str × Tok)} (S : LawSt W zsW zsF) {n : Str} {P : Place} (hn : n :: P ∈ allQ) (hP : P ∈ allP) (e : W1 = goW P.reverse [] W) (hb : ∀ b, (n :: P, b) ∉ W1) : keepW zsW (pstr (n :: P)) = true := by
  have hz : (((chainP (n :: P)).map pstr).map fun z => (z, (0 : Tok))).map (·.1) = (chainP (n :: P)).map pstr := by rw [List.map_map]; simp [Function.comp_def]
  exact (st_new (t := 0) S hn hP hz e hb).1
theorem fresh_ne {h₀ g : Heap} {L D : Addr} {news : List (Addr × Obj)} (e : g.get? D = none) (N : News h₀ L g news) : ∀ q ∈ news, q.1 ≠ D := by
  intro q hq h
  have := (N q hq).1
  rw [h, e] at this; cases this
theorem filt_len {zs : List (Str × Tok)} {f : Str × Tok → Bool} (h : SmallL zs) : (zs.filter f).length ≤ 10000 := Nat.le_trans (List.length_filter_le _ _) h.1
section
variable {h₀ : Heap} {L : Addr} {w : World} {m : Str → Option Value} {tk : Tok} {d2 cW cF cD x d3 : Addr} {nl back R news : List (Addr × Obj)} {s : Shared} {h' : Heap} {tk' : Nat} {oW oF oD : Obj} {lw lf : Addr} {kw kf : Nat} {zsW zsF : List (Str × Tok)} {W : List (Place × Bool)} {ad : Place → Addr} {a b c d a' b' c' d' : Option Value} {vD : Option Value}
/-- the end of a turn, the objects found in the ledger -/
theorem law_endM (F : Fr h₀ L h' (fun y => if y = Str.ofString "nest" then d' else if y = Str.ofString "barred" then c' else if y = Str.ofString "place" then b' else if y = Str.ofString "x" then a' else if y = Str.ofString "place" then b else if y = Str.ofString "barred" then c else if y = Str.ofString "nest" then d else m y))
    (N : News h₀ L h' news) (hR : R = nl ++ back) (O : OwnOff R [cW, cF, cD, lw, lf, x, d3]) (off : ∀ q ∈ back, ∀ r ∈ nl, q.1 ≠ r.1) (T : Tree w W ad nl) (hr : ad [] = d2) (ap : Apart [cW, cF, cD, lw, lf, x, d3])
    (m3 : (cD, oD) ∈ news) (hD : oD.data = .cell vD) (m1 : (cW, oW) ∈ news) (hW : oW.data = .cell (some (.ref lw))) (m2 : (cF, oF) ∈ news) (hF : oF.data = .cell (some (.ref lf))) (m4 : (lw, lstO (strValues zsW) kw) ∈ news) (m5 : (lf, lstO (strValues zsF) kf) ∈ news) (m6 : (x, instObj 53 d3) ∈ news) (m7 : (d3, dictD w tk d2) ∈ news)
    (mR : ∀ q ∈ R, q ∈ news) (S : LawSt W zsW zsF) {C : List (Place × Bool) → Prop} (hC : C W) : LawEnd C h₀ L w m tk d2 cW cF cD x d3 back s .next { s with heap := h', toks := tk' } := by
  refine law_end (a := none) (kw := kw) (kf := kf) F hR O ap N (fun q hq => ?_) mR hW hF hD S T hr off hC
  simp only [frontO, List.mem_cons, List.not_mem_nil, or_false] at hq
  rcases hq with rfl | rfl | rfl | rfl | rfl | rfl | rfl <;> assumption
/-- the same with a new list of ways -/
theorem law_endW {D u1 u2 : Addr} (F : Fr h₀ L h' (fun y => if y = Str.ofString "nest" then d' else if y = Str.ofString "barred" then c' else if y = Str.ofString "place" then b' else if y = Str.ofString "x" then a' else if y = Str.ofString "place" then b else if y = Str.ofString "barred" then c else if y = Str.ofString "nest" then d else m y))
    (N : News h₀ L h' news) (hR : R = nl ++ back) (O : OwnOff R [cW, cF, cD, lw, lf, x, d3]) (off : ∀ q ∈ back, ∀ r ∈ nl, q.1 ≠ r.1) (T : Tree w W ad nl) (hr : ad [] = d2) (ap : Apart [cW, cF, cD, lw, lf, x, d3])
    (hlt : u1 < D ∧ u2 < D ∧ cW < D ∧ cF < D ∧ cD < D ∧ lw < D ∧ lf < D ∧ x < D ∧ d3 < D ∧ AllLt D R)
    (m3 : (cD, oD) ∈ news) (hD : oD.data = .cell vD) (m1 : (cW, oW) ∈ news) (hW : oW.data = .cell (some (.ref D))) (m2 : (cF, oF) ∈ news) (hF : oF.data = .cell (some (.ref lf))) (m4 : (D, lstO (strValues zsW) kw) ∈ news) (m5 : (lf, lstO (strValues zsF) kf) ∈ news) (m6 : (x, instObj 53 d3) ∈ news) (m7 : (d3, dictD w tk d2) ∈ news)
    (mR : ∀ q ∈ R, q ∈ news) (S : LawSt W zsW zsF) {C : List (Place × Bool) → Prop} (hC : C W) : LawEnd C h₀ L w m tk d2 cW cF cD x d3 back s .next { s with heap := h', toks := tk' } := by
  obtain ⟨_, _, g1, g2, g3, _, g5, g6, g7, g8⟩ := hlt
  exact law_endM F N hR (off_new O fun q hq => allLt_mem g8 q hq) off T hr (apart_new ap ⟨g1, g2, g3, g5, g6, g7⟩) m3 hD m1 hW m2 hF m4 m5 m6 m7 mR S hC
end
end
section
open PySem PySem.W PyProof.Rows PySem.Calls PySem.W.X
set_option maxRecDepth 100000
/-- the slots with one set -/
noncomputable def putS : List (Option Value) → Nat → Option Value → List (Option Value)
  | [], 0, v => [v]
  | [], j + 1, v => none :: putS [] j v
  | _ :: r, 0, v => v :: r
  | x :: r, j + 1, v => x :: putS r j v
theorem putS_list : ∀ (l : List (Option Value)) (j : Nat) (v : Option Value), (l ++ List.replicate (j + 1 - l.length) none).set j v = putS l j v
  | [], 0, v => rfl
  | [], j + 1, v => by
    have := putS_list [] j v
    simp only [List.nil_append, List.length_nil, Nat.sub_zero] at this ⊢
    rw [putS, ← this, List.replicate_succ, List.set_cons_succ]
  | x :: r, 0, v => by simp [putS]
  | x :: r, j + 1, v => by
    have := putS_list r j v
    rw [putS, ← this, List.cons_append, List.set_cons_succ, List.length_cons, Nat.add_sub_add_right]
theorem putS_eq (l : List (Option Value)) (j : Nat) (v : Option Value) : (l.toArray ++ Array.replicate (j + 1 - l.toArray.size) none).setIfInBounds j v = (putS l j v).toArray := by
  rw [← putS_list, ← List.setIfInBounds_toArray, ← List.append_toArray, List.size_toArray, ← Array.toArray_toList (xs := Array.replicate _ _), Array.toList_replicate]
section
variable {prog : Program} {w : World} {A : Around} {E : Value → Shared → Prop} {s : Shared} {h₀ : Heap} {chg news : List (Addr × Obj)}
theorem m_load {a : Addr} {o : Obj} {Q : Obj → Shared → Prop} (D : Mem h₀ s.heap chg news) (i : Nat) (hi : news[i]? = some (a, o)) (h : Q o s) : wpAny (model prog w) A (load a) Q E s := wpAny_load (D.at i a o hi) h
theorem m_part {a : Addr} {o : Obj} {p : Option Value} {Q : Obj → Shared → Prop} (D : Mem h₀ s.heap chg news) (i : Nat) (hi : news[i]? = some (a, o)) (h : Q o s) : wpAny (model prog w) A (loadPart a p) Q E s := wpAny_loadPart (D.at i a o hi) h
theorem m_alloc {o : Obj} {Q : Addr → Shared → Prop} (D : Mem h₀ s.heap chg news) (hf : o.isFreed = false) (h : ∀ a h', Mem h₀ h' chg ((a, o) :: news) → Q a { s with heap := h' }) : wpAny (model prog w) A (alloc o) Q E s :=
  wpAny_alloc (h _ _ (D.alloc hf))
theorem m_upd {a : Addr} {o : Obj} {p : Option Value} {f : Obj → Obj} {Q : Unit → Shared → Prop} (D : Mem h₀ s.heap chg news) (i : Nat) (hi : news[i]? = some (a, o)) (hf : (f o).isFreed = false) (h : ∀ h', Mem h₀ h' chg (news.set i (a, f o)) → Q () { s with heap := h' }) :
    wpAny (model prog w) A (updatePart a p f) Q E s := wpAny_updatePart (D.at i a o hi) (h _ (D.update hi hf))
theorem m_upd0 {a : Addr} {o : Obj} {f : Obj → Obj} {Q : Unit → Shared → Prop} (D : Mem h₀ s.heap chg news) (i : Nat) (hi : news[i]? = some (a, o)) (hf : (f o).isFreed = false) (h : ∀ h', Mem h₀ h' chg (news.set i (a, f o)) → Q () { s with heap := h' }) :
    wpAny (model prog w) A (update a f) Q E s := wpAny_update (D.at i a o hi) (h _ (D.update hi hf))
/-- a slot of an object is set -/
theorem m_slot {a : Addr} {o : Obj} {j : Nat} {v : Option Value} {l : List (Option Value)} {Q : Unit → Shared → Prop} (D : Mem h₀ s.heap chg news) (i : Nat) (hi : news[i]? = some (a, o)) (hj : j < 100) (hsl : o.slots = l.toArray) (hf : ({ o with slots := (putS l j v).toArray } : Obj).isFreed = false)
    (h : ∀ h', Mem h₀ h' chg (news.set i (a, { o with slots := (putS l j v).toArray })) → Q () { s with heap := h' }) :
    wpAny (model prog w) A (setSlotAt a j v) Q E s := by
  have e : (o.slots ++ Array.replicate (j + 1 - o.slots.size) none).setIfInBounds j v = (putS l j v).toArray := by rw [hsl]; exact putS_eq l j v
  rw [← e] at hf h
  unfold setSlotAt
  rw [if_neg (by rw [sizeLine_eq]; omega)]
  exact m_upd D i hi hf h
theorem m_upd2 {a : Addr} {o o' : Obj} {p : Option Value} {f : Obj → Obj} {Q : Unit → Shared → Prop} (D : Mem h₀ s.heap chg news) (i : Nat) (hi : news[i]? = some (a, o)) (ho : f o = o') (hf : o'.isFreed = false) (h : ∀ h', Mem h₀ h' chg (news.set i (a, o')) → Q () { s with heap := h' }) :
    wpAny (model prog w) A (updatePart a p f) Q E s := by subst ho; exact m_upd D i hi hf h
theorem m_upd3 {a : Addr} {o o' : Obj} {f : Obj → Obj} {Q : Unit → Shared → Prop} (D : Mem h₀ s.heap chg news) (i : Nat) (hi : news[i]? = some (a, o)) (ho : f o = o') (hf : o'.isFreed = false) (h : ∀ h', Mem h₀ h' chg (news.set i (a, o')) → Q () { s with heap := h' }) :
    wpAny (model prog w) A (update a f) Q E s := by subst ho; exact m_upd0 D i hi hf h
/-- a name is looked up in a dict -/
theorem m_get {a : Addr} {o : Obj} {x : Str} {v : Option Value} {Q : Option Value → Shared → Prop} (D : Mem h₀ s.heap chg news) (i : Nat) (hi : news[i]? = some (a, o)) (hv : nsLook x o = pure v) (h : Q v s) : wpAny (model prog w) A (nsGet a x) Q E s := by
  unfold nsGet
  refine wpAny_bind (m_part D i hi ?_)
  rw [hv]
  exact wpAny_pure h
/-- the hash of a name -/
noncomputable def hashOf (w : World) (x : Str) : Int := if x.cps.isEmpty then 0 else reduceHash (w.params.strHash x.cps)
/-- a name is set in a dict -/
theorem m_nsSet {a : Addr} {o : Obj} {x : Str} {v : Value} {es : Array DictEntry} {n : Nat} {Q : Unit → Shared → Prop} (D : Mem h₀ s.heap chg news) (i : Nat) (o' : Int → Tok → Obj) (hi : news[i]? = some (a, o)) (hd : o.data = .dict es n) (hr : aRefKeyMayBeTheName x es = false)
    (ho : ∀ hh tk, Obj.putName x hh (.str x tk) v o = o' hh tk) (hf : ∀ hh tk, (o' hh tk).isFreed = false) (h : ∀ h', Mem h₀ h' chg (news.set i (a, o' (hashOf w x) s.toks)) → Q () { s with heap := h', toks := s.toks + 1 }) : wpAny (model prog w) A (nsSet a x v) Q E s := by
  unfold nsSet strHash
  refine wpAny_bind (wpAny_bind (wpAny_askSetting (wpAny_pure ?_)))
  refine wpAny_bind (wpAny_mkText ?_)
  refine wpAny_bind (m_part (s := { s with toks := s.toks + 1 }) D i hi ?_)
  rw [hd]
  dsimp only
  rw [if_neg (by rw [hr]; decide)]
  exact m_upd2 (s := { s with toks := s.toks + 1 }) D i hi (ho _ _) (hf _ _) h
theorem m_nsSetV {a : Addr} {o : Obj} {x : Str} {v : Value} {es : Array DictEntry} {n : Nat} {Q : Unit → Shared → Prop} (D : Mem h₀ s.heap chg news) (i : Nat) (o' : Int → Tok → Obj) (hi : news[i]? = some (a, o)) (hd : o.data = .dict es n) (hr : aRefKeyMayBeTheName x es = false) (hz : es.size ≤ 100)
    (ho : ∀ hh tk, Obj.putName x hh (.str x tk) v o = o' hh tk) (hf : ∀ hh tk, (o' hh tk).isFreed = false) (h : ∀ h', Mem h₀ h' chg (news.set i (a, o' (hashOf w x) s.toks)) → Q () { s with heap := h', toks := s.toks + 1 }) : wpAny (model prog w) A (nsSetByValue a x v) Q E s := by
  unfold nsSetByValue
  refine wpAny_bind (m_part D i hi ?_)
  rw [hd]
  dsimp only
  rw [if_neg (by have := sizeLine_eq; simp; omega)]
  exact m_nsSet D i o' hi hd hr ho hf h
/-- a name that is there goes -/
theorem m_del {a : Addr} {o o' : Obj} {x : Str} {Q : Bool → Shared → Prop} (D : Mem h₀ s.heap chg news) (i : Nat) (hi : news[i]? = some (a, o)) (hh : nsHas x o = pure true) (ho : Obj.dropName x o = o') (hf : o'.isFreed = false) (h : ∀ h', Mem h₀ h' chg (news.set i (a, o')) → Q true { s with heap := h' }) :
    wpAny (model prog w) A (nsDel a x) Q E s := by
  subst ho
  unfold nsDel
  refine wpAny_bind (m_part D i hi ?_)
  rw [hh]
  refine wpAny_bind (wpAny_pure ?_)
  exact wpAny_bind (m_upd D i hi hf fun h' D' => wpAny_pure (h h' D'))
end
end
section
open PySem PySem.W PyProof.Rows PySem.Calls
set_option maxRecDepth 100000
theorem tn_sub1 : isSubtype (.type "tuple") (.type "tuple") = pure true := by rw [isSubtype_type]; kernel_rfl
theorem tn_sub2 : isSubtype (.type "dict") (.type "dict") = pure true := by rw [isSubtype_type]; kernel_rfl
theorem tn_sub3 : isSubtype (.type "type") (.type "type") = pure true := by rw [isSubtype_type]; kernel_rfl
theorem tn_iter : typeLookup (.type "dict") "__iter__" = pure (some (.builtin "dict.__iter__")) := by rw [typeLookup_type, builtinLookup_eq_fast]; kernel_rfl
theorem tn_mroObj : mroOf (.type "object") = pure [.type "object"] := by kernel_rfl
theorem tn_turned : Builtin.notOverATurnedClass [.type "object"] = pure () := by kernel_rfl
theorem tn_typeObj : typeOf (.type "object") = pure (.type "type") := by kernel_rfl
theorem tn_ext : Builtin.extendedBase [.type "object"] = pure (.type "object") := by kernel_rfl
/-- the class body's names, as they stand when the class is made -/
noncomputable abbrev clsEntries (k : Nat → Tok) (hs : Nat → Int) (v1 v2 : Tok) (line : Value) (sl sa : Addr) (f : Nat → Addr) : Array DictEntry :=
  #[⟨hs 0, .str "__module__" (k 0), .str "cpy313.functools" v1⟩, ⟨hs 1, .str "__qualname__" (k 1), .str "cmp_to_key.<locals>.K" v2⟩, ⟨hs 2, .str "__firstlineno__" (k 2), line⟩, ⟨hs 3, .str "__slots__" (k 3), .ref sl⟩,
    ⟨hs 4, .str "__init__" (k 4), .ref (f 0)⟩, ⟨hs 5, .str "__lt__" (k 5), .ref (f 1)⟩, ⟨hs 6, .str "__gt__" (k 6), .ref (f 2)⟩, ⟨hs 7, .str "__eq__" (k 7), .ref (f 3)⟩, ⟨hs 8, .str "__le__" (k 8), .ref (f 4)⟩, ⟨hs 9, .str "__ge__" (k 9), .ref (f 5)⟩,
    ⟨hs 10, .str "__hash__" (k 10), .none⟩, ⟨hs 11, .str "__static_attributes__" (k 11), .ref sa⟩]
open PySem.Builtin in
theorem tn_best : Slots.bestBase [.type "object"] = pure (.type "object") := by kernel_rfl
open PySem.Builtin in
theorem tn_names : Slots.slotNamesOf (.type "object") = pure [] := by kernel_rfl
open PySem.Builtin in
theorem tn_dict : Slots.givesDict (.type "object") = pure false := by kernel_rfl
open PySem.Builtin in
theorem tn_weak : Slots.givesWeak (.type "object") = pure false := by kernel_rfl
open PySem.Builtin in
theorem tn_var : Slots.varSize (.type "object") = pure false := by kernel_rfl
section
variable {prog : Program} {w : World} {A : Around} {E : Value → Shared → Prop} {s : Shared} {k : Nat → Tok} {hs : Nat → Int} {v1 v2 ts : Tok} {line : Value} {sl sa : Addr} {f : Nat → Addr}
theorem tn_find : (clsEntries k hs v1 v2 line sl sa f).find? (·.key.isStr "__slots__") = some ⟨hs 3, .str "__slots__" (k 3), .ref sl⟩ := by rfl
theorem tn_ident : Builtin.Slots.isIdentifier (Str.ofString "obj") = some true := by kernel_rfl
theorem tn_any : (clsEntries k hs v1 v2 line sl sa f).any (·.key.isStr "obj") = false := by kernel_rfl
theorem l_collect {Q : List Value → Shared → Prop} {v : Value} (it : Addr) {o : Obj} {items : Array Value} {n : Nat} (hv : v = .ref it) (ho : s.heap.get? it = some o) (hc : o.cls = .type "list") (hd : o.data = .seq items n)
    (hsz : items.size ≤ sizeLine) (hQ : ∀ h', (∀ b o', s.heap.get? b = some o' → h'.get? b = some o') → Q items.toList { s with heap := h' }) : wpAny (model prog w) A (collect v) Q E s := by
  subst hv
  exact wpAny_collect_seq it (.inl rfl) ho hc hd hQ hsz
theorem ite_f {α : Type} {Q : α → Shared → Prop} {b : Bool} {x y : Sem α} (hb : b = false) (h : wpAny (model prog w) A y Q E s) : wpAny (model prog w) A (if b = true then x else y) Q E s := by rw [hb]; exact h
theorem ite_t {α : Type} {Q : α → Shared → Prop} {b : Bool} {x y : Sem α} (hb : b = true) (h : wpAny (model prog w) A x Q E s) : wpAny (model prog w) A (if b = true then x else y) Q E s := by rw [hb]; exact h
theorem ite_n {α : Type} {Q : α → Shared → Prop} {c : Prop} [Decidable c] {x y : Sem α} (hc : ¬ c) (h : wpAny (model prog w) A y Q E s) : wpAny (model prog w) A (if c then x else y) Q E s := by rw [if_neg hc]; exact h
structure HoldC (P : Prop) : Prop where
  h : P
theorem hold_c {Q : List Value → Shared → Prop} {v : Value} (h : HoldC (wpAny (model prog w) A (collect v) Q E s)) : wpAny (model prog w) A (collect v) Q E s := h.h
set_option maxHeartbeats 8000000 in
theorem l_read {Q : Builtin.Slots.Plan → Shared → Prop} {bases : List Value} (hb : bases = [.type "object"]) (hsl : s.heap.get? sl = some { cls := .type "list", data := .seq #[.str "obj" ts] 0 })
    (h : ∀ h', (∀ b o', s.heap.get? b = some o' → h'.get? b = some o') → Q { names := ["obj"], dict := false, weak := false, inherited := [] } { s with heap := h' }) :
    wpAny (model prog w) A (Builtin.Slots.read (Str.ofString "K") bases (clsEntries k hs v1 v2 line sl sa f)) Q E s := by
  subst hb
  have g1 := tn_best
  have g2 := tn_names
  have g3 := tn_dict
  have g4 := tn_weak
  have g5 := tn_var
  unfold Builtin.Slots.read
  repeat (first | (with_reducible refine hold_c ?_) | wp_step)
  refine ⟨l_collect sl rfl hsl rfl rfl (Nat.le_of_ble_eq_true rfl) ?_⟩
  intro h' hk
  wp_walk
  rw [tn_ident]
  wp_walk
  refine ite_f (by kernel_rfl) ?_
  wp_walk
  refine Eq.mp (congrArg (fun p => Q p _) ?_) (h h' hk)
  kernel_rfl
theorem l_turned {Q : Unit → Shared → Prop} {bs : List Value} (hb : bs = [.type "object"]) (h : Q () s) : wpAny (model prog w) A (Builtin.notOverATurnedClass bs) Q E s := by rw [hb, tn_turned]; exact wpAny_pure h
theorem tn_mroHook : typeLookup (.type "type") "mro" = pure (some (.builtin "type.mro")) := by rw [typeLookup_type, builtinLookup_eq_fast]; kernel_rfl
theorem tn_lin : Builtin.linearize [.type "object"] mroOf = pure [.type "object"] := by kernel_rfl
theorem l_lin {Q : List Value → Shared → Prop} {bs : List Value} (hb : bs = [.type "object"]) (h : Q [.type "object"] s) : wpAny (model prog w) A (Builtin.linearize bs mroOf) Q E s := by rw [hb, tn_lin]; exact wpAny_pure h
theorem filt_self (a : Addr) : (Value.ref a :: [Value.type "object"]).filter (fun x => x != Value.ref a) = [.type "object"] := by
  rw [List.filter_cons, bne_self_eq_false]; rfl
theorem l_any {F : Value → Sem Bool} {l : List Value} {Q : Bool → Shared → Prop} (hl : l = [.type "object"]) (hF : F (.type "object") = pure false) (h : Q false s) : wpAny (model prog w) A (List.anyM F l) Q E s := by
  subst hl
  unfold List.anyM
  rw [hF]
  exact wpAny_bind (wpAny_pure (wpAny_pure h))
theorem tn_made : Bind.madeBy (.type "object") = pure (some "object.__new__") := by kernel_rfl
theorem l_try {α : Type} {m : Sem α} {k : Value → Sem α} {Q : α → Shared → Prop} (h : wpAny (model prog w) A m Q (fun e s' => wpAny (model prog w) A (k e) Q E s') s) : wpAny (model prog w) A (Sem.tryCatch m k) Q E s := wpAny_tryCatch h
theorem l_eq {α : Type} {m : Sem α} {v : α} {Q : α → Shared → Prop} (e : m = pure v) (h : Q v s) : wpAny (model prog w) A m Q E s := by rw [e]; exact wpAny_pure h
theorem m_holdF {β : Type} {xs : Array DictEntry} {b : β} {f : DictEntry → β → Sem (ForInStep β)} {Q : β → Shared → Prop} (h : HoldC (wpAny (model prog w) A (forIn xs b f) Q E s)) : wpAny (model prog w) A (forIn xs b f) Q E s := h.h
theorem m_holdC {f : Value} {vs : List Value} {kw : List (Str × Value)} {Q : Value → Shared → Prop} (h : HoldC (wpAny (model prog w) A (call f vs kw) Q E s)) : wpAny (model prog w) A (call f vs kw) Q E s := h.h
theorem m_hold {o : Obj} {Q : Addr → Shared → Prop} (h : HoldC (wpAny (model prog w) A (alloc o) Q E s)) : wpAny (model prog w) A (alloc o) Q E s := h.h
theorem m_hold2 {a : Addr} {x : Str} {v : Value} {Q : Unit → Shared → Prop} (h : HoldC (wpAny (model prog w) A (nsSetByValue a x v) Q E s)) : wpAny (model prog w) A (nsSetByValue a x v) Q E s := h.h
theorem m_hold3 {a : Addr} {x : Str} {v : Value} {Q : Unit → Shared → Prop} (h : HoldC (wpAny (model prog w) A (nsSet a x v) Q E s)) : wpAny (model prog w) A (nsSet a x v) Q E s := h.h
theorem l_ext {Q : Value → Shared → Prop} {bs : List Value} (hb : bs = [.type "object"]) (h : Q (.type "object") s) : wpAny (model prog w) A (Builtin.extendedBase bs) Q E s := by rw [hb, tn_ext]; exact wpAny_pure h
end
section
open PySem.W.X
variable {prog : Program} {w : World} {A : Around} {E : Value → Shared → Prop} {h : Heap} {g : Array GenState} {d : Drawn} {t : Nat} {os : OsState} {h₀ : Heap} {chg news : List (Addr × Obj)}
theorem n_load {a : Addr} {o : Obj} {Q : Obj → Shared → Prop} (D : Mem h₀ h chg news) (i : Nat) (hi : news[i]? = some (a, o)) (hq : Q o ⟨h, g, d, t, os⟩) : wpAny (model prog w) A (load a) Q E ⟨h, g, d, t, os⟩ := m_load (s := ⟨h, g, d, t, os⟩) D i hi hq
theorem n_part {a : Addr} {o : Obj} {p : Option Value} {Q : Obj → Shared → Prop} (D : Mem h₀ h chg news) (i : Nat) (hi : news[i]? = some (a, o)) (hq : Q o ⟨h, g, d, t, os⟩) : wpAny (model prog w) A (loadPart a p) Q E ⟨h, g, d, t, os⟩ := m_part (s := ⟨h, g, d, t, os⟩) D i hi hq
theorem n_get {a : Addr} {o : Obj} {x : Str} {v : Option Value} {Q : Option Value → Shared → Prop} (D : Mem h₀ h chg news) (i : Nat) (hi : news[i]? = some (a, o)) (hv : nsLook x o = pure v) (hq : Q v ⟨h, g, d, t, os⟩) : wpAny (model prog w) A (nsGet a x) Q E ⟨h, g, d, t, os⟩ := m_get (s := ⟨h, g, d, t, os⟩) D i hi hv hq
theorem n_alloc {o : Obj} {Q : Addr → Shared → Prop} (D : Mem h₀ h chg news) (hf : o.isFreed = false) (hq : ∀ a h', Mem h₀ h' chg ((a, o) :: news) → Q a ⟨h', g, d, t, os⟩) : wpAny (model prog w) A (alloc o) Q E ⟨h, g, d, t, os⟩ := m_alloc (s := ⟨h, g, d, t, os⟩) D hf hq
theorem n_slot {a : Addr} {o : Obj} {j : Nat} {v : Option Value} {l : List (Option Value)} {Q : Unit → Shared → Prop} (D : Mem h₀ h chg news) (i : Nat) (hi : news[i]? = some (a, o)) (hj : j < 100) (hsl : o.slots = l.toArray) (hf : ({ o with slots := (putS l j v).toArray } : Obj).isFreed = false)
    (hq : ∀ h', Mem h₀ h' chg (news.set i (a, { o with slots := (putS l j v).toArray })) → Q () ⟨h', g, d, t, os⟩) : wpAny (model prog w) A (setSlotAt a j v) Q E ⟨h, g, d, t, os⟩ := m_slot (s := ⟨h, g, d, t, os⟩) D i hi hj hsl hf hq
theorem n_upd2 {a : Addr} {o o' : Obj} {p : Option Value} {f : Obj → Obj} {Q : Unit → Shared → Prop} (D : Mem h₀ h chg news) (i : Nat) (hi : news[i]? = some (a, o)) (ho : f o = o') (hf : o'.isFreed = false) (hq : ∀ h', Mem h₀ h' chg (news.set i (a, o')) → Q () ⟨h', g, d, t, os⟩) :
    wpAny (model prog w) A (updatePart a p f) Q E ⟨h, g, d, t, os⟩ := m_upd2 (s := ⟨h, g, d, t, os⟩) D i hi ho hf hq
theorem n_upd3 {a : Addr} {o o' : Obj} {f : Obj → Obj} {Q : Unit → Shared → Prop} (D : Mem h₀ h chg news) (i : Nat) (hi : news[i]? = some (a, o)) (ho : f o = o') (hf : o'.isFreed = false) (hq : ∀ h', Mem h₀ h' chg (news.set i (a, o')) → Q () ⟨h', g, d, t, os⟩) :
    wpAny (model prog w) A (update a f) Q E ⟨h, g, d, t, os⟩ := m_upd3 (s := ⟨h, g, d, t, os⟩) D i hi ho hf hq
theorem n_nsSet {a : Addr} {o : Obj} {x : Str} {v : Value} {es : Array DictEntry} {n : Nat} {Q : Unit → Shared → Prop} (D : Mem h₀ h chg news) (i : Nat) (o' : Int → Tok → Obj) (hi : news[i]? = some (a, o)) (hd : o.data = .dict es n) (hr : aRefKeyMayBeTheName x es = false)
    (ho : ∀ hh tk, Obj.putName x hh (.str x tk) v o = o' hh tk) (hf : ∀ hh tk, (o' hh tk).isFreed = false) (hq : ∀ h', Mem h₀ h' chg (news.set i (a, o' (hashOf w x) t)) → Q () ⟨h', g, d, t + 1, os⟩) : wpAny (model prog w) A (nsSet a x v) Q E ⟨h, g, d, t, os⟩ := m_nsSet (s := ⟨h, g, d, t, os⟩) D i o' hi hd hr ho hf hq
theorem n_nsSetV {a : Addr} {o : Obj} {x : Str} {v : Value} {es : Array DictEntry} {n : Nat} {Q : Unit → Shared → Prop} (D : Mem h₀ h chg news) (i : Nat) (o' : Int → Tok → Obj) (hi : news[i]? = some (a, o)) (hd : o.data = .dict es n) (hr : aRefKeyMayBeTheName x es = false) (hz : es.size ≤ 100)
    (ho : ∀ hh tk, Obj.putName x hh (.str x tk) v o = o' hh tk) (hf : ∀ hh tk, (o' hh tk).isFreed = false) (hq : ∀ h', Mem h₀ h' chg (news.set i (a, o' (hashOf w x) t)) → Q () ⟨h', g, d, t + 1, os⟩) : wpAny (model prog w) A (nsSetByValue a x v) Q E ⟨h, g, d, t, os⟩ := m_nsSetV (s := ⟨h, g, d, t, os⟩) D i o' hi hd hr hz ho hf hq
theorem n_read {k : Nat → Tok} {hs : Nat → Int} {v1 v2 ts : Tok} {line : Value} {sl sa : Addr} {f : Nat → Addr} {Q : Builtin.Slots.Plan → Shared → Prop} {bases : List Value} (hb : bases = [.type "object"]) (hsl : h.get? sl = some { cls := .type "list", data := .seq #[.str "obj" ts] 0 })
    (hq : ∀ h', (∀ b o', h.get? b = some o' → h'.get? b = some o') → Q { names := ["obj"], dict := false, weak := false, inherited := [] } ⟨h', g, d, t, os⟩) :
    wpAny (model prog w) A (Builtin.Slots.read (Str.ofString "K") bases (clsEntries k hs v1 v2 line sl sa f)) Q E ⟨h, g, d, t, os⟩ := l_read (s := ⟨h, g, d, t, os⟩) hb hsl hq
end
end
section
open PySem PySem.W PyProof.Rows PySem.Calls
set_option maxRecDepth 100000
section
variable {prog : Program} {w : World} {A : Around} {E : Value → Shared → Prop} {s : Shared}
/-- a loop over a dict's entries that changes nothing -/
theorem l_loop {β : Type} {F : DictEntry → β → Sem (ForInStep β)} {es : Array DictEntry} {b : β} {Q : β → Shared → Prop} (ht : ∀ e ∈ es.toList, wpAny (model prog w) A (F e b) (fun r s' => r = .yield b ∧ s' = s) E s) (h : Q b s) : wpAny (model prog w) A (forIn es b F) Q E s := by
  refine wpAny_forIn_array' F (fun rest b' s' => b' = b ∧ s' = s ∧ ∀ e ∈ rest, e ∈ es.toList) Q (fun x rest b' s' hI => ?_) (fun b' s' hI => ?_) es b ⟨rfl, rfl, fun _ h => h⟩
  · obtain ⟨rfl, rfl, hm⟩ := hI
    refine wpAny_mono (ht x (hm x (.head _))) (fun r s'' hr => ?_) fun _ _ x => x
    obtain ⟨rfl, rfl⟩ := hr
    exact ⟨rfl, rfl, fun e he => hm e (.tail _ he)⟩
  · obtain ⟨rfl, rfl, _⟩ := hI
    exact h
/-- an entry that is told of no owner -/
structure SnOk (prog : Program) (w : World) (h : Heap) (e : DictEntry) : Prop where
  key : ∃ x t, e.key = .str x t
  laid : Builtin.laidUnderItsOwnName e.key e.val = false
  sp : ∀ (A : Around) (E : Value → Shared → Prop) (s : Shared) (Q : Option Value → Shared → Prop), s.heap = h → Q none s → wpAny (model prog w) A (specialOf e.val "__set_name__") Q E s
theorem sp_ref {h : Heap} {a : Addr} {o : Obj} {T : String} (ho : h.get? a = some o) (hc : o.cls = .type T) (hl : typeLookup (.type T) "__set_name__" = pure none) : ∀ (A : Around) (E : Value → Shared → Prop) (s : Shared) (Q : Option Value → Shared → Prop), s.heap = h → Q none s → wpAny (model prog w) A (specialOf (.ref a) "__set_name__") Q E s := by
  intro A E s Q hs hq
  subst hs
  unfold specialOf typeOf
  refine wpAny_bind (wpAny_bind (wpAny_loadPart ho (wpAny_pure ?_)))
  rw [hc, hl]
  exact wpAny_pure hq
theorem sp_val {h : Heap} {v : Value} {T : String} (ht : typeOf v = pure (.type T)) (hl : typeLookup (.type T) "__set_name__" = pure none) : ∀ (A : Around) (E : Value → Shared → Prop) (s : Shared) (Q : Option Value → Shared → Prop), s.heap = h → Q none s → wpAny (model prog w) A (specialOf v "__set_name__") Q E s := by
  intro A E s Q hs hq
  unfold specialOf
  rw [ht]
  refine wpAny_bind (wpAny_pure ?_)
  rw [hl]
  exact wpAny_pure hq
end
theorem sn_str : typeLookup (.type "str") "__set_name__" = pure none := by rw [typeLookup_type, builtinLookup_eq_fast]; kernel_rfl
theorem sn_int : typeLookup (.type "int") "__set_name__" = pure none := by rw [typeLookup_type, builtinLookup_eq_fast]; kernel_rfl
theorem sn_list : typeLookup (.type "list") "__set_name__" = pure none := by rw [typeLookup_type, builtinLookup_eq_fast]; kernel_rfl
theorem sn_fun : typeLookup (.type "function") "__set_name__" = pure none := by rw [typeLookup_type, builtinLookup_eq_fast]; kernel_rfl
theorem sn_none : typeLookup (.type "NoneType") "__set_name__" = pure none := by rw [typeLookup_type, builtinLookup_eq_fast]; kernel_rfl
theorem sn_tup : typeLookup (.type "tuple") "__set_name__" = pure none := by rw [typeLookup_type, builtinLookup_eq_fast]; kernel_rfl
theorem sn_mem : typeLookup (.type "member_descriptor") "__set_name__" = pure none := by rw [typeLookup_type, builtinLookup_eq_fast]; kernel_rfl
/-- the same without the qualified name -/
noncomputable abbrev clsEntries1 (k : Nat → Tok) (hs : Nat → Int) (v1 : Tok) (line : Value) (sl sa : Addr) (f : Nat → Addr) : Array DictEntry :=
  #[⟨hs 0, .str "__module__" (k 0), .str "cpy313.functools" v1⟩, ⟨hs 2, .str "__firstlineno__" (k 2), line⟩, ⟨hs 3, .str "__slots__" (k 3), .ref sl⟩,
    ⟨hs 4, .str "__init__" (k 4), .ref (f 0)⟩, ⟨hs 5, .str "__lt__" (k 5), .ref (f 1)⟩, ⟨hs 6, .str "__gt__" (k 6), .ref (f 2)⟩, ⟨hs 7, .str "__eq__" (k 7), .ref (f 3)⟩, ⟨hs 8, .str "__le__" (k 8), .ref (f 4)⟩, ⟨hs 9, .str "__ge__" (k 9), .ref (f 5)⟩,
    ⟨hs 10, .str "__hash__" (k 10), .none⟩, ⟨hs 11, .str "__static_attributes__" (k 11), .ref sa⟩]
/-- with the slot's descriptor -/
noncomputable abbrev clsEntries2 (k : Nat → Tok) (hs : Nat → Int) (v1 : Tok) (line : Value) (sl sa : Addr) (f : Nat → Addr) (h1 : Int) (t1 : Tok) (ad : Addr) : Array DictEntry :=
  #[⟨hs 0, .str "__module__" (k 0), .str "cpy313.functools" v1⟩, ⟨hs 2, .str "__firstlineno__" (k 2), line⟩, ⟨hs 3, .str "__slots__" (k 3), .ref sl⟩,
    ⟨hs 4, .str "__init__" (k 4), .ref (f 0)⟩, ⟨hs 5, .str "__lt__" (k 5), .ref (f 1)⟩, ⟨hs 6, .str "__gt__" (k 6), .ref (f 2)⟩, ⟨hs 7, .str "__eq__" (k 7), .ref (f 3)⟩, ⟨hs 8, .str "__le__" (k 8), .ref (f 4)⟩, ⟨hs 9, .str "__ge__" (k 9), .ref (f 5)⟩,
    ⟨hs 10, .str "__hash__" (k 10), .none⟩, ⟨hs 11, .str "__static_attributes__" (k 11), .ref sa⟩, ⟨h1, .str "obj" t1, .ref ad⟩]
/-- and the doc -/
noncomputable abbrev clsEntries3 (k : Nat → Tok) (hs : Nat → Int) (v1 : Tok) (line : Value) (sl sa : Addr) (f : Nat → Addr) (h1 : Int) (t1 : Tok) (ad : Addr) (h2 : Int) (t2 : Tok) : Array DictEntry :=
  #[⟨hs 0, .str "__module__" (k 0), .str "cpy313.functools" v1⟩, ⟨hs 2, .str "__firstlineno__" (k 2), line⟩, ⟨hs 3, .str "__slots__" (k 3), .ref sl⟩,
    ⟨hs 4, .str "__init__" (k 4), .ref (f 0)⟩, ⟨hs 5, .str "__lt__" (k 5), .ref (f 1)⟩, ⟨hs 6, .str "__gt__" (k 6), .ref (f 2)⟩, ⟨hs 7, .str "__eq__" (k 7), .ref (f 3)⟩, ⟨hs 8, .str "__le__" (k 8), .ref (f 4)⟩, ⟨hs 9, .str "__ge__" (k 9), .ref (f 5)⟩,
    ⟨hs 10, .str "__hash__" (k 10), .none⟩, ⟨hs 11, .str "__static_attributes__" (k 11), .ref sa⟩, ⟨h1, .str "obj" t1, .ref ad⟩, ⟨h2, .str "__doc__" t2, .none⟩]
theorem ents_sn {prog : Program} {w : World} {h : Heap} {k : Nat → Tok} {hs : Nat → Int} {v1 : Tok} {ln : Int} {lt : Tok} {sl sa : Addr} {f : Nat → Addr} {h1 : Int} {t1 : Tok} {ad : Addr} {h2 : Int} {t2 : Tok} {osl osa oad : Obj}
    (hf : ∀ i < 6, ∃ o, h.get? (f i) = some o ∧ o.cls = .type "function") (h3 : h.get? sl = some osl) (c3 : osl.cls = .type "list") (h4 : h.get? sa = some osa) (c4 : osa.cls = .type "tuple") (h5 : h.get? ad = some oad) (c5 : oad.cls = .type "member_descriptor") :
    ∀ e ∈ (clsEntries3 k hs v1 (.int ln lt) sl sa f h1 t1 ad h2 t2).toList, SnOk prog w h e := by
  refine hideG fun G9 b9 => ?_
  obtain ⟨o0, a0, b0⟩ := hf 0 (by decide)
  obtain ⟨o1, a1, b1⟩ := hf 1 (by decide)
  obtain ⟨o2, a2, b2⟩ := hf 2 (by decide)
  obtain ⟨o3, a3, b3⟩ := hf 3 (by decide)
  obtain ⟨o4, a4, b4⟩ := hf 4 (by decide)
  obtain ⟨o5, a5, b5⟩ := hf 5 (by decide)
  refine b9 ?_
  clear b9 G9
  simp only [List.forall_mem_cons]
  refine ⟨⟨⟨_, _, rfl⟩, rfl, sp_val rfl sn_str⟩, ⟨⟨_, _, rfl⟩, rfl, sp_val rfl sn_int⟩, ⟨⟨_, _, rfl⟩, rfl, sp_ref h3 c3 sn_list⟩, ⟨⟨_, _, rfl⟩, rfl, sp_ref a0 b0 sn_fun⟩, ⟨⟨_, _, rfl⟩, rfl, sp_ref a1 b1 sn_fun⟩, ⟨⟨_, _, rfl⟩, rfl, sp_ref a2 b2 sn_fun⟩,
    ⟨⟨_, _, rfl⟩, rfl, sp_ref a3 b3 sn_fun⟩, ⟨⟨_, _, rfl⟩, rfl, sp_ref a4 b4 sn_fun⟩, ⟨⟨_, _, rfl⟩, rfl, sp_ref a5 b5 sn_fun⟩, ⟨⟨_, _, rfl⟩, rfl, sp_val rfl sn_none⟩, ⟨⟨_, _, rfl⟩, rfl, sp_ref h4 c4 sn_tup⟩, ⟨⟨_, _, rfl⟩, rfl, sp_ref h5 c5 sn_mem⟩, ⟨⟨_, _, rfl⟩, rfl, sp_val rfl sn_none⟩, fun _ hh => (nomatch hh)⟩
end
section
open PySem PySem.W PyProof.Rows PySem.Calls PySem.W.X
set_option maxRecDepth 100000
section
variable {prog : Program} {w : World} {A : Around} {E : Value → Shared → Prop} {s : Shared} {h₀ : Heap} {news : List (Addr × Obj)}
theorem mem_keep {h : Heap} (D : Mem h₀ h [] news) : ∀ b o, h₀.get? b = some o → h.get? b = some o := fun b o e => D.keep b o e (by cases hasCls o <;> rfl)
/-- what one more def leaves -/
theorem Mem.made {h h' : Heap} {P c' : Addr} {ps ps' : Array Value} {oc fn : Obj} {i : Nat} (D : Mem h₀ h [] news) (hi : news[i]? = some (P, tabObj ps)) (hx : Heap.ExtBut P h h') (hge : h.objs.size ≤ c') (hlt : c' < h'.objs.size)
    (hoc : h'.get? c' = some oc) (htb : h'.get? P = some (tabObj ps')) (hf : fn.isFreed = false) : Mem h₀ (h'.push fn) [] ((h'.objs.size, fn) :: (c', oc) :: news.set i (P, tabObj ps')) := by
  have z := D.nw _ (List.mem_of_getElem? hi)
  have sz : ∀ b o, h₀.get? b = some o → b < h.objs.size := fun b o e => Heap.lt_size (mem_keep D b o e)
  have fresh : ∀ b, h.objs.size ≤ b → h₀.get? b = none := fun b hb => by
    cases q : h₀.get? b with
    | none => rfl
    | some o => exact absurd (sz b o q) (Nat.not_lt.mpr hb)
  have hsz : h.objs.size ≤ h'.objs.size := Nat.le_of_lt (Nat.lt_of_le_of_lt hge hlt)
  have sp := pairwise_split hi
  have e : news.set i (P, tabObj ps') = news.take i ++ (P, tabObj ps') :: news.drop (i + 1) := by
    obtain ⟨hl, _⟩ := List.getElem?_eq_some_iff.mp hi
    exact List.set_eq_take_append_cons_drop.trans (if_pos hl)
  have ord' := D.ord
  rw [sp, List.map_append, List.map_cons] at ord'
  have p1 : ∀ p ∈ news.take i, p.1 ≠ P := fun p hp => Nat.ne_of_gt ((List.pairwise_append.mp ord').2.2 p.1 (List.mem_map_of_mem hp) P (.head _))
  have p2 : ∀ p ∈ news.drop (i + 1), p.1 ≠ P := fun p hp => Nat.ne_of_lt ((List.pairwise_cons.mp (List.pairwise_append.mp ord').2.1).1 p.1 (List.mem_map_of_mem hp))
  have lt : ∀ p ∈ news.set i (P, tabObj ps'), p.1 < h.objs.size := fun p hp => by
    rw [e] at hp
    rcases List.mem_append.mp hp with hp | hp
    · exact Heap.lt_size (D.nw p (by rw [sp]; exact List.mem_append_left _ hp)).1
    · rcases List.mem_cons.mp hp with rfl | hp
      · exact Heap.lt_size z.1
      · exact Heap.lt_size (D.nw p (by rw [sp]; exact List.mem_append_right _ (.tail _ hp))).1
  refine ⟨fun b o e' _ => Heap.get?_push_of_some _ (hx b o (fun q => by rw [q, z.2] at e'; cases e') (mem_keep D b o e')), fun _ hp => (nomatch hp), List.nodup_nil, fun p hp => ?_, ?_⟩
  · rcases List.mem_cons.mp hp with rfl | hp
    · exact ⟨Heap.get?_push_size _ hf, fresh _ hsz⟩
    · rcases List.mem_cons.mp hp with rfl | hp
      · exact ⟨Heap.get?_push_of_some _ hoc, fresh _ hge⟩
      · rw [e] at hp
        rcases List.mem_append.mp hp with hp | hp
        · have y := D.nw p (by rw [sp]; exact List.mem_append_left _ hp)
          exact ⟨Heap.get?_push_of_some _ (hx _ _ (p1 p hp) y.1), y.2⟩
        · rcases List.mem_cons.mp hp with rfl | hp
          · exact ⟨Heap.get?_push_of_some _ htb, z.2⟩
          · have y := D.nw p (by rw [sp]; exact List.mem_append_right _ (.tail _ hp))
            exact ⟨Heap.get?_push_of_some _ (hx _ _ (p2 p hp) y.1), y.2⟩
  · refine List.Pairwise.cons (fun b hb => ?_) (List.Pairwise.cons (fun b hb => ?_) ?_)
    · rcases List.mem_cons.mp hb with rfl | hb
      · exact hlt
      · obtain ⟨p, hp, rfl⟩ := List.mem_map.mp hb
        exact Nat.lt_of_lt_of_le (lt p hp) hsz
    · obtain ⟨p, hp, rfl⟩ := List.mem_map.mp hb
      exact Nat.lt_of_lt_of_le (lt p hp) hge
    · rw [e, List.map_append, List.map_cons]; exact ord'
theorem tri_list {a b : Int} {c : Value} : ∀ l : List Value, TriplesOk l → TriplesOk (l ++ [rawInt a, rawInt b, c])
  | [], _ => True.intro
  | .int _ _ :: .int _ _ :: _ :: r, h => tri_list r h
theorem tri_snoc {ps : Array Value} {a b : Int} {c : Value} (h : TriplesOk ps.toList) : TriplesOk (ps ++ #[rawInt a, rawInt b, c]).toList := by
  rw [Array.toList_append]; exact tri_list _ h
/-- kept closed: to unfold it is dear -/
structure TriOk (ps : Array Value) : Prop where
  h : TriplesOk ps.toList
/-- a def of the class's body makes its function -/
theorem m_fn {p : Program} {loose : List Str} {mean : ExcName → Option Value} {mg mb : Str → Option Value} {name qual : Str} {params : Arguments} {body : List Stmt} {scope : Scope} {env : Env} {c P : Addr} {ps : Array Value} {pos : Pos} {firstLine : Nat} {clos : List (Str × Addr)} {Q : Value → Shared → Prop}
    (D : Mem h₀ s.heap [] news) (T : Top p loose mean mg mb h₀) (C : CodeHd h₀ c P) (hcode : env.code = .ref c) (hge0 : env.globals = mainGlobals) (hcl : closureFor scope env = pure clos) (i : Nat) (hi : news[i]? = some (P, tabObj ps)) (ht : TriOk ps) (hnf : codeAmong pos ps.toList = none)
    (h : ∀ f c' oc vs t ctv doc h' tk, Mem h₀ h' [] ((f, fnMade name qual params body scope clos doc ((mg "__name__").getD .none) c' ctv) :: (c', oc) :: news.set i (P, tabObj (ps ++ #[rawInt pos.line, rawInt pos.col, .ref c']))) → oc.data = .fields vs → (vs[1]? = some (.str qual t) ∧ oc.cls = .type "code") → TriOk (ps ++ #[rawInt pos.line, rawInt pos.col, .ref c']) → Q (.ref f) { s with heap := h', toks := tk }) :
    wpAny (model prog w) A (makeFunction name qual params (.stmts body) scope env [] [] [] pos firstLine) Q E s := by
  have hm := D.nw _ (List.mem_of_getElem? hi)
  have k := mem_keep D
  have hgs := T.g.keeps k
  refine hideG fun G9 b9 => ?_
  obtain ⟨bm, ob, b1, b2, b3, b4, b5, b6⟩ := T.bmain
  refine b9 ?_
  clear b9 G9
  have hgP : mainGlobals ≠ P := fun q => by
    obtain ⟨o, es, ep, e, hd, _⟩ := hgs
    rw [q, hm.1] at e; cases e; cases hd
  have hbP : bm ≠ P := fun q => by
    have e := k _ _ b3
    rw [q, hm.1] at e; cases e; cases b4
  have fin : ∀ c' ctv doc h' tk, Heap.ExtBut P s.heap h' → s.heap.objs.size ≤ c' → c' < h'.objs.size → h'.CodeRec (.ref c') qual → (∃ P', h'.TableAt c' P' #[]) → h'.get? P = some (tabObj (ps ++ #[rawInt pos.line, rawInt pos.col, .ref c'])) →
      Q (.ref h'.objs.size) { s with heap := h'.push (fnMade name qual params body scope clos doc ((mg "__name__").getD .none) c' ctv), toks := tk } := by
    intro c' ctv doc h' tk hx hge hlt hrec htab htb
    obtain ⟨c₂, oc, vs, t, e2, hoc, hd, hv⟩ := hrec
    cases e2
    obtain ⟨P', ⟨o2, vs2, x1, x2, _⟩, _⟩ := htab
    rw [hoc] at x1; cases x1
    exact h _ c' oc vs t ctv doc _ tk (Mem.made D hi hx hge hlt hoc htb rfl) hd ⟨hv, x2⟩ ⟨tri_snoc ht.h⟩
  clear h
  rw [makeFunction_eq]
  simp only [List.zip_nil_right, List.filterMap_nil, List.isEmpty_nil, if_true, pure_bind]
  unfold makeTail
  rw [hcl, hge0]
  refine wpAny_bind (wpAny_pure ?_)
  cases clos with
  | nil =>
    simp only [List.isEmpty_nil, if_true]
    refine wpAny_bind (wpAny_pure ?_)
    refine wpAny_bind (wpAny_functionCodeX hcode ((C.keeps k).code hm.1 ht.h) ((C.keeps k).tab hm.1) hnf fun c' h' tk hx hge hlt _ hrec htb hnew => ?_)
    have hg' := hgs.extBut hx hgP
    obtain ⟨P', _, _, hT⟩ := hnew
    refine wpAny_bind (wpAny_builtinsFor hg' b1 b2 (hx _ _ hbP (k _ _ b3)) b4 b5 b6 ?_)
    refine wpAny_bind (wpAny_nsGet hg' ?_)
    cases hdoc : docOf body with
    | none => exact wpAny_bind (wpAny_pure (wpAny_newObj_type (fin c' .none .none h' tk hx hge hlt hrec ⟨P', hT⟩ htb.2) (by size_fits)))
    | some t => exact wpAny_bind (wpAny_mkText (wpAny_newObj_type (fin c' .none _ h' _ hx hge hlt hrec ⟨P', hT⟩ htb.2) (by size_fits)))
  | cons q r =>
    simp only [List.isEmpty_cons, Bool.false_eq_true, if_false]
    refine wpAny_bind (wpAny_newTextTuple ?_)
    have C2 := (C.keeps k).keeps (h' := s.heap.push _) fun b o e => Heap.get?_push_of_some { cls := .type "tuple", data := .seq (List.map (fun x => Value.ref x.2) ((q :: r).mergeSort fun a b => decide (a.1.cps.toList ≤ b.1.cps.toList))).toArray } e
    refine wpAny_bind (wpAny_functionCodeX hcode (C2.code (Heap.get?_push_of_some _ hm.1) ht.h) (C2.tab (Heap.get?_push_of_some _ hm.1)) hnf fun c' h' tk hx hge hlt _ hrec htb hnew => ?_)
    have hg' := (hgs.push _).extBut hx hgP
    have hx' : Heap.ExtBut P s.heap h' := fun b o hb' e => hx b o hb' (Heap.get?_push_of_some _ e)
    have hge' : s.heap.objs.size ≤ c' := Nat.le_trans (by rw [Heap.size_push]; omega) hge
    obtain ⟨P', _, _, hT⟩ := hnew
    refine wpAny_bind (wpAny_builtinsFor hg' b1 b2 (hx' _ _ hbP (k _ _ b3)) b4 b5 b6 ?_)
    refine wpAny_bind (wpAny_nsGet hg' ?_)
    cases hdoc : docOf body with
    | none => exact wpAny_bind (wpAny_pure (wpAny_newObj_type (fin c' _ .none h' tk hx' hge' hlt hrec ⟨P', hT⟩ htb.2) (by size_fits)))
    | some t => exact wpAny_bind (wpAny_mkText (wpAny_newObj_type (fin c' _ _ h' _ hx' hge' hlt hrec ⟨P', hT⟩ htb.2) (by size_fits)))
end
end
section
open PySem PySem.W PyProof.Rows PySem.Calls PySem.W.X
set_option maxRecDepth 100000
noncomputable abbrev dictN (l : List DictEntry) (n : Nat) : Obj := { cls := .type "dict", data := .dict l.toArray n }
/-- the class's body and scope, as they stand in the heap's part -/
noncomputable def clsBody (K : Frag) : Option (List Stmt) := match K.lookup 64 with
  | some ⟨_, _, .func fd, _⟩ => (match fd.body with
    | .stmts (.ClassDef _ _ _ b _ _ _ _ _ _ _ :: _) => some b
    | _ => none)
  | _ => none
noncomputable def clsScope (K : Frag) : Option Scope := match K.lookup 64 with
  | some ⟨_, _, .func fd, _⟩ => (match fd.body with
    | .stmts (.ClassDef _ _ _ _ _ _ sc _ _ _ _ :: _) => some sc
    | _ => none)
  | _ => none
/-- the i-th statement of the class's body, a def -/
noncomputable def clsDef (K : Frag) (i : Nat) : Option (Str × Arguments × List Stmt × Scope) := match clsBody K with
  | some b => (match b[i]? with
    | some (.FunctionDef name params body _ _ _ sc _ _ _) => some (name, params, body, sc)
    | _ => none)
  | none => none
/-- a function of the class -/
structure FnIs (w : World) (i : Nat) (qual : Str) (clos : List (Str × Addr)) (pm : Value) (h : Heap) (f c : Addr) : Prop where
  ex : ∃ name params body sc dc ct oc vs t, clsDef (hd.heap_1 w.params) i = some (name, params, body, sc) ∧ h.get? f = some (fnMade name qual params body sc clos dc pm c ct) ∧ h.get? c = some oc ∧ oc.data = .fields vs ∧ vs[1]? = some (.str qual t) ∧ oc.cls = .type "code"
noncomputable abbrev qInit : Str := "cmp_to_key.<locals>.K.__init__"
noncomputable abbrev qLt : Str := "cmp_to_key.<locals>.K.__lt__"
/-- the names at the body's end -/
noncomputable abbrev clsList0 (k : Nat → Tok) (hs : Nat → Int) (v1 v2 : Tok) (line : Value) (sl : Addr) (f : Nat → Addr) : List DictEntry :=
  [⟨hs 0, .str "__module__" (k 0), .str "cpy313.functools" v1⟩, ⟨hs 1, .str "__qualname__" (k 1), .str "cmp_to_key.<locals>.K" v2⟩, ⟨hs 2, .str "__firstlineno__" (k 2), line⟩, ⟨hs 3, .str "__slots__" (k 3), .ref sl⟩,
    ⟨hs 4, .str "__init__" (k 4), .ref (f 0)⟩, ⟨hs 5, .str "__lt__" (k 5), .ref (f 1)⟩, ⟨hs 6, .str "__gt__" (k 6), .ref (f 2)⟩, ⟨hs 7, .str "__eq__" (k 7), .ref (f 3)⟩, ⟨hs 8, .str "__le__" (k 8), .ref (f 4)⟩, ⟨hs 9, .str "__ge__" (k 9), .ref (f 5)⟩,
    ⟨hs 10, .str "__hash__" (k 10), .none⟩]
noncomputable abbrev clsEnv (sc : Scope) (n c fr cell : Addr) : Env :=
  { scope := sc, locals := n, globals := mainGlobals, qual := Str.ofString "cmp_to_key.<locals>.K" ++ Str.ofString ".", code := .ref c, frame := some fr, builtins := builtinsNs, cells := [(Str.ofString "mycmp", cell)] }
section
variable {prog : Program} {w : World} {A : Around} {E : Value → Shared → Prop} {s : Shared} {h₀ : Heap} {news : List (Addr × Obj)}
theorem m_storeN {env : Env} {n : Addr} {x : Str} {v : Value} {l : List DictEntry} {k : Nat} {Q : Unit → Shared → Prop} (D : Mem h₀ s.heap [] news) (i : Nat) (hi : news[i]? = some (n, dictN l k)) (hn : env.locals = n) (hst : storeName env x v = localSet env x v) (hr : aRefKeyMayBeTheName x l.toArray = false)
    (l' : Int → Tok → List DictEntry) (k' : Nat) (ho : ∀ hh tk, Obj.putName x hh (.str x tk) v (dictN l k) = dictN (l' hh tk) k') (h : ∀ h' t, Mem h₀ h' [] (news.set i (n, dictN (l' (hashOf w x) t) k')) → Q () { s with heap := h', toks := s.toks + 1 }) : wpAny (model prog w) A (storeName env x v) Q E s := by
  subst hn
  rw [hst]
  unfold localSet
  refine wpAny_bind (m_load D i hi ?_)
  rw [if_pos (by rfl)]
  exact m_nsSet D i (fun hh tk => dictN (l' hh tk) k') hi rfl hr ho (fun _ _ => rfl) fun h' D' => h h' _ D'
theorem m_storeA {env : Env} {n : Addr} {x : Str} {v : Value} {l : List DictEntry} {k : Nat} {Q : Unit → Shared → Prop} (D : Mem h₀ s.heap [] news) (i : Nat) (hi : news[i]? = some (n, dictN l k)) (hn : env.locals = n) (hst : storeName env x v = localSet env x v) (hr : aRefKeyMayBeTheName x l.toArray = false)
    (ho : ∀ hh tk, Obj.putName x hh (.str x tk) v (dictN l k) = dictN (l ++ [⟨hh, .str x tk, v⟩]) (k + 1)) (h : ∀ h' t, Mem h₀ h' [] (news.set i (n, dictN (l ++ [⟨hashOf w x, .str x t, v⟩]) (k + 1))) → Q () { s with heap := h', toks := s.toks + 1 }) : wpAny (model prog w) A (storeName env x v) Q E s :=
  m_storeN D i hi hn hst hr (fun hh tk => l ++ [⟨hh, .str x tk, v⟩]) (k + 1) ho h
theorem m_list1 {env : Env} {x : Str} {kd : Nat} {p pos : Pos} {Q : Value → Shared → Prop} (D : Mem h₀ s.heap [] news) (h : ∀ a h' t, Mem h₀ h' [] ((a, { cls := .type "list", data := .seq #[.str x t] }) :: news) → Q (.ref a) { s with heap := h', toks := s.toks + 1 }) :
    wpAny (model prog w) A (eval (.List [.Constant (.str x) kd p] pos) env) Q E s :=
  wpAny_List (spliced_more (wpAny_Constant_str (spliced_none ⟨Nat.le_of_ble_eq_true rfl, h _ _ _ (D.alloc (o := { cls := .type "list", data := .seq #[.str x s.toks] }) rfl)⟩)))
end
set_option maxHeartbeats 8000000 in
theorem cls_body (w : World) {A : Around} {E : Value → Shared → Prop} {s : Shared} {h₀ : Heap} {body : List Stmt} {sc : Scope} {Q : Flow → Shared → Prop} {loose : List Str} {mean : ExcName → Option Value} {mg mb : Str → Option Value} {n c P fr cell : Addr} {a0 a1 a2 : Int} {u0 u1 u2 : Tok} {v0 v2 : Value} {t1 : Tok} {k0 : Nat}
    (hb : clsBody (hd.heap_1 w.params) = some body) (hs : clsScope (hd.heap_1 w.params) = some sc) (T : Top topProg loose mean mg mb h₀) (C : CodeHd h₀ c P)
    (D : Mem h₀ s.heap [] [(P, tabObj #[]), (n, dictN [⟨a0, .str "__module__" u0, v0⟩, ⟨a1, .str "__qualname__" u1, .str "cmp_to_key.<locals>.K" t1⟩, ⟨a2, .str "__firstlineno__" u2, v2⟩] k0)])
    (hQ : ∀ h' tk' k hs v1 ts sl (f c : Nat → Addr) ne, (∀ b o, h₀.get? b = some o → h'.get? b = some o) → h'.get? n = some (dictN (clsList0 k hs v1 t1 v2 sl f) ne) → h'.get? sl = some { cls := .type "list", data := .seq #[.str "obj" ts] } →
      FnIs w 2 qInit [] ((mg "__name__").getD .none) h' (f 0) (c 0) → FnIs w 3 qLt [("mycmp", cell)] ((mg "__name__").getD .none) h' (f 1) (c 1) → (∀ i < 6, ∃ o, h'.get? (f i) = some o ∧ o.cls = .type "function") →
      (∀ b ∈ [sl, f 0, f 1, c 0, c 1], h₀.get? b = none) → Q .next { s with heap := h', toks := tk' }) :
    wpAny (model prog w) A (execs body (clsEnv sc n c fr cell)) Q E s := by
  have eb : clsBody (hd.heap_1 w.params) = some _ := rfl
  have es : clsScope (hd.heap_1 w.params) = some _ := rfl
  obtain rfl := Option.some.inj (hb.symm.trans eb)
  obtain rfl := Option.some.inj (hs.symm.trans es)
  clear eb es hb hs
  refine wpAny_execs_cons (wpAny_Assign_Name (wpAny_Constant_str ?_))
  refine m_storeN D 1 rfl rfl rfl rfl (fun hh tk => [⟨a0, .str "__module__" u0, .str "cpy313.functools" s.toks⟩, ⟨a1, .str "__qualname__" u1, .str "cmp_to_key.<locals>.K" t1⟩, ⟨a2, .str "__firstlineno__" u2, v2⟩]) k0 (fun _ _ => rfl) ?_
  intro h1 q1 D1
  simp only [List.set_cons_zero, List.set_cons_succ] at D1
  dsimp only
  refine wpAny_execs_cons (wpAny_Assign_Name (m_list1 D1 ?_))
  intro sl h2 q2 D2
  dsimp only
  refine m_storeA D2 2 rfl rfl rfl (by kernel_rfl) (fun _ _ => by kernel_rfl) ?_
  intro h3 q3 D3
  simp only [List.set_cons_zero, List.set_cons_succ] at D3
  dsimp only
  refine wpAny_execs_cons (nestDef_K rfl rfl rfl (m_fn D3 T C rfl rfl rfl 1 rfl ⟨True.intro⟩ (by kernel_rfl) ?_))
  intro f0 c0 oc0 vs0 tt0 ct0 dc0 h4 tk0 D4 hd0 hv0 ht0
  simp only [List.set_cons_zero, List.set_cons_succ] at D4
  dsimp only
  refine m_storeA D4 4 rfl rfl rfl (by kernel_rfl) (fun _ _ => by kernel_rfl) ?_
  intro h5 q5 D5
  simp only [List.set_cons_zero, List.set_cons_succ] at D5
  dsimp only
  refine wpAny_execs_cons (nestDef_K rfl rfl rfl (m_fn D5 T C rfl rfl rfl 3 rfl ht0 (by kernel_rfl) ?_))
  intro f1 c1 oc1 vs1 tt1 ct1 dc1 h6 tk1 D6 hd1 hv1 ht1
  simp only [List.set_cons_zero, List.set_cons_succ] at D6
  dsimp only
  refine m_storeA D6 6 rfl rfl rfl (by kernel_rfl) (fun _ _ => by kernel_rfl) ?_
  intro h7 q7 D7
  simp only [List.set_cons_zero, List.set_cons_succ] at D7
  dsimp only
  refine wpAny_execs_cons (nestDef_K rfl rfl rfl (m_fn D7 T C rfl rfl rfl 5 rfl ht1 (by kernel_rfl) ?_))
  intro f2 c2 oc2 vs2 tt2 ct2 dc2 h8 tk2 D8 hd2 hv2 ht2
  simp only [List.set_cons_zero, List.set_cons_succ] at D8
  dsimp only
  refine m_storeA D8 8 rfl rfl rfl (by kernel_rfl) (fun _ _ => by kernel_rfl) ?_
  intro h9 q9 D9
  simp only [List.set_cons_zero, List.set_cons_succ] at D9
  dsimp only
  refine wpAny_execs_cons (nestDef_K rfl rfl rfl (m_fn D9 T C rfl rfl rfl 7 rfl ht2 (by kernel_rfl) ?_))
  intro f3 c3 oc3 vs3 tt3 ct3 dc3 h10 tk3 D10 hd3 hv3 ht3
  simp only [List.set_cons_zero, List.set_cons_succ] at D10
  dsimp only
  refine m_storeA D10 10 rfl rfl rfl (by kernel_rfl) (fun _ _ => by kernel_rfl) ?_
  intro h11 q11 D11
  simp only [List.set_cons_zero, List.set_cons_succ] at D11
  dsimp only
  refine wpAny_execs_cons (nestDef_K rfl rfl rfl (m_fn D11 T C rfl rfl rfl 9 rfl ht3 (by kernel_rfl) ?_))
  intro f4 c4 oc4 vs4 tt4 ct4 dc4 h12 tk4 D12 hd4 hv4 ht4
  simp only [List.set_cons_zero, List.set_cons_succ] at D12
  dsimp only
  refine m_storeA D12 12 rfl rfl rfl (by kernel_rfl) (fun _ _ => by kernel_rfl) ?_
  intro h13 q13 D13
  simp only [List.set_cons_zero, List.set_cons_succ] at D13
  dsimp only
  refine wpAny_execs_cons (nestDef_K rfl rfl rfl (m_fn D13 T C rfl rfl rfl 11 rfl ht4 (by kernel_rfl) ?_))
  intro f5 c5 oc5 vs5 tt5 ct5 dc5 h14 tk5 D14 hd5 hv5 ht5
  simp only [List.set_cons_zero, List.set_cons_succ] at D14
  dsimp only
  refine m_storeA D14 14 rfl rfl rfl (by kernel_rfl) (fun _ _ => by kernel_rfl) ?_
  intro h15 q15 D15
  simp only [List.set_cons_zero, List.set_cons_succ] at D15
  dsimp only
  refine wpAny_execs_cons (wpAny_Assign_Name (wpAny_Constant_none ?_))
  refine m_storeA D15 14 rfl rfl rfl (by kernel_rfl) (fun _ _ => by kernel_rfl) ?_
  intro h20 q20 D20
  simp only [List.set_cons_zero, List.set_cons_succ] at D20
  dsimp only
  refine wpAny_execs_nil ?_
  have keep := mem_keep D20
  have N := D20.nw
  clear D D1 D2 D3 D4 D5 D6 D7 D8 D9 D10 D11 D12 D13 D14 D15
  simp only [List.forall_mem_cons] at N
  obtain ⟨N0, M0, N1, M1, N2, M2, N3, M3, N4, M4, N5, M5, NS, NP, NN, _⟩ := N
  refine hQ h20 _ (fun i => [u0, u1, u2, q3, q5, q7, q9, q11, q13, q15, q20].getD i 0) (fun i => [a0, a1, a2, hashOf w "__slots__", hashOf w "__init__", hashOf w "__lt__", hashOf w "__gt__", hashOf w "__eq__", hashOf w "__le__", hashOf w "__ge__", hashOf w "__hash__"].getD i 0) s.toks q2 sl (fun i => [f0, f1, f2, f3, f4, f5].getD i 0) (fun i => [c0, c1].getD i 0) _ keep NN.1 NS.1 ?_ ?_ ?_ ?_
  · exact ⟨_, _, _, _, _, _, _, _, _, rfl, N5.1, M5.1, hd0, hv0⟩
  · exact ⟨_, _, _, _, _, _, _, _, _, rfl, N4.1, M4.1, hd1, hv1⟩
  · intro i hi
    match i, hi with
    | 0, _ => exact ⟨_, N5.1, rfl⟩
    | 1, _ => exact ⟨_, N4.1, rfl⟩
    | 2, _ => exact ⟨_, N3.1, rfl⟩
    | 3, _ => exact ⟨_, N2.1, rfl⟩
    | 4, _ => exact ⟨_, N1.1, rfl⟩
    | 5, _ => exact ⟨_, N0.1, rfl⟩
  · intro b hb
    simp only [List.mem_cons, List.not_mem_nil, or_false] at hb
    rcases hb with rfl | rfl | rfl | rfl | rfl
    · exact NS.2
    · exact N5.2
    · exact N4.2
    · exact M5.2
    · exact M4.2
end
section
open PySem PySem.W PyProof.Rows PySem.Calls PySem.W.X
set_option maxRecDepth 100000
/-- the class, as it grows -/
noncomputable abbrev clsO (a ns b : Addr) (tk v2 : Tok) (mro : List Value) (hasDict : Bool) (slotNames : List Str) (sls : List (Option Value)) : Obj :=
  { cls := .type "type", data := .cls { name := "K", bases := [.type "object"], mro := mro, ns := ns, qualname := "cmp_to_key.<locals>.K", hasDict := hasDict, slotNames := slotNames }, slots := sls.toArray }
/-- the class, made -/
noncomputable abbrev clsK (a ns b : Addr) (tk v2 : Tok) : Obj := clsO a ns b tk v2 [.ref a, .type "object"] false ["obj"] [some (.ref b), none, some (.str "K" tk), some (.str "cmp_to_key.<locals>.K" v2), some (.builtin "object.__new__"), some (.bool false)]
/-- how a run's end is used -/
structure Fin1 (h₀ : Heap) (mk : Addr → List (Addr × Obj)) (Q : Value → Shared → Prop) (g : Array GenState) (d : Drawn) (os : OsState) : Prop where
  use : ∀ a h t, Mem h₀ h [] (mk a) → Q (.ref a) ⟨h, g, d, t, os⟩
section
local macro_rules | `(tactic| x_close) => `(tactic| (exact Fin1.use (by assumption) _ _ _ (by assumption)))

set_option maxHeartbeats 8000000 in
theorem sup_make {prog : Program} {w : World} {A : Around} {E : Value → Shared → Prop} {s : Shared} {Q : Value → Shared → Prop} {aK ns b : Addr} {tk v2 : Tok} (hK : s.heap.get? aK = some (clsK aK ns b tk v2))
    (hret : ∀ a h t, Mem s.heap h [] [(a, { cls := .type "super", data := .fields #[.ref aK, .ref aK, .ref aK] })] → Q (.ref a) ⟨h, s.gens, s.drawn, t, s.os⟩) :
    wpAny (model prog w) A (call (.type "super") [.ref aK, .ref aK]) Q E s := by
  have hR : Fin1 s.heap (fun a => [(a, { cls := .type "super", data := .fields #[.ref aK, .ref aK, .ref aK] })]) Q s.gens s.drawn s.os := ⟨hret⟩
  clear hret
  have hK2 : s.heap.get? aK = some (Obj.mk (.type "type") none (.cls { name := "K", bases := [.type "object"], mro := [.ref aK, .type "object"], ns := ns, qualname := "cmp_to_key.<locals>.K", hasDict := false, slotNames := ["obj"] }) #[some (.ref b), none, some (.str "K" tk), some (.str "cmp_to_key.<locals>.K" v2), some (.builtin "object.__new__"), some (.bool false)]) := hK
  clear hK
  x_run
set_option maxHeartbeats 8000000 in
theorem cm_get {prog : Program} {w : World} {A : Around} {E : Value → Shared → Prop} {s : Shared} {Q : Value → Shared → Prop} {aK ns b : Addr} {tk v2 : Tok} (hK : s.heap.get? aK = some (clsK aK ns b tk v2))
    (hret : ∀ a h t, Mem s.heap h [] [(a, { cls := .type "builtin_function_or_method", data := .fields #[.builtin "object.__init_subclass__", .ref aK] })] → Q (.ref a) ⟨h, s.gens, s.drawn, t, s.os⟩) :
    wpAny (model prog w) A (call (.builtin "classmethod_descriptor.__get__") [.builtin "object.__init_subclass__", .none, .ref aK]) Q E s := by
  have hR : Fin1 s.heap (fun a => [(a, { cls := .type "builtin_function_or_method", data := .fields #[.builtin "object.__init_subclass__", .ref aK] })]) Q s.gens s.drawn s.os := ⟨hret⟩
  clear hret
  have hK2 : s.heap.get? aK = some (Obj.mk (.type "type") none (.cls { name := "K", bases := [.type "object"], mro := [.ref aK, .type "object"], ns := ns, qualname := "cmp_to_key.<locals>.K", hasDict := false, slotNames := ["obj"] }) #[some (.ref b), none, some (.str "K" tk), some (.str "cmp_to_key.<locals>.K" v2), some (.builtin "object.__new__"), some (.bool false)]) := hK
  clear hK
  x_run
end
structure Fin0 (h₀ : Heap) (Q : Value → Shared → Prop) (g : Array GenState) (d : Drawn) (os : OsState) : Prop where
  use : ∀ h t, Mem h₀ h [] [] → Q .none ⟨h, g, d, t, os⟩
section
local macro_rules | `(tactic| x_close) => `(tactic| (exact Fin0.use (by assumption) _ _ (PySem.W.X.Mem.start _)))

set_option maxHeartbeats 8000000 in
theorem init_sub {prog : Program} {w : World} {A : Around} {E : Value → Shared → Prop} {s : Shared} {Q : Value → Shared → Prop} {aK ns b fa : Addr} {tk v2 : Tok} (hK : s.heap.get? aK = some (clsK aK ns b tk v2)) (hf : s.heap.get? fa = some (Obj.mk (.type "builtin_function_or_method") none (.fields #[.builtin "object.__init_subclass__", .ref aK]) #[]))
    (hret : ∀ h t, Mem s.heap h [] [] → Q .none ⟨h, s.gens, s.drawn, t, s.os⟩) :
    wpAny (model prog w) A (call (.ref fa) []) Q E s := by
  have hR : Fin0 s.heap Q s.gens s.drawn s.os := ⟨hret⟩
  clear hret
  have hK2 : s.heap.get? aK = some (Obj.mk (.type "type") none (.cls { name := "K", bases := [.type "object"], mro := [.ref aK, .type "object"], ns := ns, qualname := "cmp_to_key.<locals>.K", hasDict := false, slotNames := ["obj"] }) #[some (.ref b), none, some (.str "K" tk), some (.str "cmp_to_key.<locals>.K" v2), some (.builtin "object.__new__"), some (.bool false)]) := hK
  clear hK
  x_run
end
end
section
open PySem PySem.W PyProof.Rows PySem.Calls
set_option maxRecDepth 100000
theorem sg_own : classOwn (.type "object") "__init_subclass__" = pure (some (.builtin "object.__init_subclass__")) := by kernel_rfl
theorem sg_ty : typeOf (.builtin "object.__init_subclass__") = pure (.type "classmethod_descriptor") := by kernel_rfl
theorem sg_get : typeLookup (.type "classmethod_descriptor") "__get__" = pure (some (.builtin "classmethod_descriptor.__get__")) := by rw [typeLookup_type, builtinLookup_eq_fast]; kernel_rfl
theorem sg_after (a : Addr) : ((List.dropWhile (fun x => x != Value.ref a) [Value.ref a, .type "object"]).drop 1) = [.type "object"] := by
  rw [List.dropWhile_cons_of_neg (by simp)]; rfl
theorem l_one {prog : Program} {w : World} {A : Around} {E : Value → Shared → Prop} {s : Shared} {β : Type} {F : Value → β → Sem (ForInStep β)} {x : Value} {l : List Value} {b : β} {Q : β → Shared → Prop} (hl : l = [x]) (h : wpAny (model prog w) A (F x b) (fun r s' => match r with | .done b' => Q b' s' | .yield b' => Q b' s') E s) : wpAny (model prog w) A (forIn l b F) Q E s := by
  subst hl
  rw [List.forIn_cons]
  refine wpAny_bind (wpAny_mono h (fun r s' hr => ?_) fun _ _ x => x)
  cases r with
  | done b' => exact wpAny_pure hr
  | yield b' => exact wpAny_pure hr
set_option maxHeartbeats 8000000 in
theorem sup_ga {prog : Program} {w : World} {A : Around} {E : Value → Shared → Prop} {h : Heap} {g : Array GenState} {d : Drawn} {t : Nat} {os : OsState} {Q : PySem.Fin → Shared → Prop} {aK ns b sp : Addr} {tk v2 u : Tok} (hK : h.get? aK = some (clsK aK ns b tk v2)) (hS : h.get? sp = some { cls := .type "super", data := .fields #[.ref aK, .ref aK, .ref aK] })
    (hno : Looks (model prog w) h (opaqueClassAbove (.ref aK)) none)
    (hq : ∀ a h' t', X.Mem h h' [] [(a, { cls := .type "builtin_function_or_method", data := .fields #[.builtin "object.__init_subclass__", .ref aK] })] → Q (.done (.ret (.ref a))) ⟨h', g, d, t', os⟩) :
    wpAny (model prog w) A (Builtin.«super.__getattribute__» ⟨[.ref sp, .str "__init_subclass__" u], []⟩) Q E ⟨h, g, d, t, os⟩ := by
  have hdt : ({ cls := .type "super", dict := none, data := .fields #[.ref aK, .ref aK, .ref aK], slots := #[] } : Obj).data = .fields #[.ref aK, .ref aK, .ref aK] := rfl
  have f0 : (#[.ref aK, .ref aK, .ref aK] : Array Value)[0]? = some (.ref aK) := rfl
  have f1 : (#[.ref aK, .ref aK, .ref aK] : Array Value)[1]? = some (.ref aK) := rfl
  have f2 : (#[.ref aK, .ref aK, .ref aK] : Array Value)[2]? = some (.ref aK) := rfl
  unfold Builtin.«super.__getattribute__»
  repeat (first
    | (with_reducible refine wpAny_field hS hdt f0 ?_) | (with_reducible refine wpAny_field hS hdt f1 ?_) | (with_reducible refine wpAny_field hS hdt f2 ?_)
    | (with_reducible refine ks_wpAny_notOpaque hno ?_)
    | (with_reducible refine wpAny_loadPart' hK ?_)
    | (with_reducible refine l_eq sg_own ?_) | (with_reducible refine l_eq sg_ty ?_) | (with_reducible refine l_eq sg_get ?_)
    | ((with_reducible refine l_one (x := .type "object") ?_ ?_); (focus (exact sg_after aK)))
    | (with_reducible refine m_holdC ?_)
    | wp_step)
  have e : (Value.ref aK == Value.ref aK) = true := beq_self_eq_true _
  rw [if_pos e]
  refine ⟨cm_get (s := ⟨h, g, d, t, os⟩) hK ?_⟩
  intro a h' t' D
  repeat wp_step
  exact hq a h' t' D
theorem sg_super_ga {prog : Program} {w : World} {A : Around} {E : Value → Shared → Prop} {h : Heap} {g : Array GenState} {d : Drawn} {t : Nat} {os : OsState} {Q : Value → Shared → Prop} {aK ns b sp : Addr} {tk v2 : Tok} (hK : h.get? aK = some (clsK aK ns b tk v2)) (hS : h.get? sp = some { cls := .type "super", data := .fields #[.ref aK, .ref aK, .ref aK] })
    (hno : Looks (model prog w) h (opaqueClassAbove (.ref aK)) none)
    (hq : ∀ a h' t', X.Mem h h' [] [(a, { cls := .type "builtin_function_or_method", data := .fields #[.builtin "object.__init_subclass__", .ref aK] })] → Q (.ref a) ⟨h', g, d, t', os⟩) :
    wpAny (model prog w) A (getAttr (.ref sp) (Str.ofString "__init_subclass__")) Q E ⟨h, g, d, t, os⟩ := by
  have hlk := F.ks_slot_super_ga.lookup
  have hT : ∀ t', (⟨h, g, d, t', os⟩ : Shared).TypeIs (.ref sp) "super" := fun _ => ⟨_, hS, rfl⟩
  unfold getAttr getAttrBy
  refine wpAny_bind (wpAny_mkText (wpAny_holding (wpAny_bind (wpAny_typeOf (hT _) (wpAny_bind (wpAny_of_eq hlk ?_))))))
  show wpAny _ _ (getAttrByItsOwn (.ref sp) (.str "__init_subclass__" t) (.type "super") (.builtin "super.__getattribute__") true false) _ _ _
  unfold getAttrByItsOwn hookBefore callGetattribute boundAndCalled
  refine wpAny_bind (wpAny_of_eq (show (if onTheHeap (.type "super") then typeLookup (.type "super") "__getattr__" else pure none) = pure none from rfl) ?_)
  refine wpAny_bind (wpAny_attempt (wpAny_holding ?_))
  show wpAny _ _ (bindSpecial (.builtin "super.__getattribute__") (.ref sp) >>= _) _ _ _
  refine wpAny_bind (wpAny_of_eq (F.ks_slot_super_ga.bind _) ?_)
  refine wpAny_call_entry F.ks_slot_super_ga (hT _) F.ks_entry_super_ga (sup_ga hK hS hno fun a h' t' D => ?_) (F.ks_gaArgs_super _ _)
  exact ⟨_, rfl, wpAny_pure (hq a h' t' D)⟩
end
section
open PySem PySem.W PyProof.Rows PySem.Calls Lean Elab Tactic
set_option maxRecDepth 100000
set_option maxHeartbeats 8000000 in
theorem tn (prog : Program) (w : World) (b n : Addr) (A : Around) (Q : PySem.Fin → Shared → Prop) (E : Value → Shared → Prop) (h : Heap) (g : Array GenState) (d : Drawn) (t : Nat) (os : OsState) (tk : Tok) (hb : h.get? b = some { cls := .type "tuple", data := .seq #[.type "object"] 0 })
   (k : Nat → Tok) (hs : Nat → Int) (v1 v2 ts : Tok) (ln : Int) (lt : Tok) (sl sa : Addr) (f : Nat → Addr) (ne : Nat)
   (hn : h.get? n = some { cls := .type "dict", data := .dict (clsEntries k hs v1 v2 (.int ln lt) sl sa f) ne }) (hns : (n == sysModules) = false) (hsl : h.get? sl = some { cls := .type "list", data := .seq #[.str "obj" ts] 0 })
   (hf : ∀ i < 6, ∃ o, h.get? (f i) = some o ∧ o.cls = .type "function") (osa : Obj) (hsa : h.get? sa = some osa) (csa : osa.cls = .type "tuple")
   (hno : ∀ h', (∀ b o, h.get? b = some o → h'.get? b = some o) → ∀ C, Looks (model prog w) h' (opaqueClassAbove (.ref C)) none)
   (hret : ∀ aK aN aD t1 t2 h' t', (∀ b o, h.get? b = some o → h'.get? b = some o) → h'.get? aK = some (clsK aK aN b tk v2) → h'.get? aN = some { cls := .type "dict", data := .dict (clsEntries3 k hs v1 (.int ln lt) sl sa f (hashOf w "obj") t1 aD (hashOf w "__doc__") t2) 3 } →
      h'.get? aD = some { cls := .type "member_descriptor", data := .fields #[.str "obj" t, .ref aK, .builtin "proto.slot", .builtin "proto.slot#set", rawInt 0] } → (∀ x ∈ [aK, aN, aD], h.get? x = none) → Q (.done (.ret (.ref aK))) ⟨h', g, d, t', os⟩) :
    wpAny (model prog w) A (Builtin.«type.__new__» ⟨[.type "type", .str (Str.ofString "K") tk, .ref b, .ref n], []⟩) Q E ⟨h, g, d, t, os⟩ := by
  (wp_delta); (with_reducible refine wpAny_bind ?_); (wp_delta); (with_reducible refine wpAny_pure ?_); (with_reducible refine wpAny_bind ?_); (wp_delta); (with_reducible refine wpAny_bind ?_); (wp_delta); (with_reducible refine wpAny_bind ?_); (with_reducible refine wpAny_loadPart' (by assumption) ?_); (with_reducible refine wpAny_pure ?_); (with_reducible refine l_eq tn_sub1 ?_); ((with_reducible refine ite_f ?_ ?_); (focus (first | rfl | assumption))); (with_reducible refine wpAny_bind ?_); (wp_delta); (with_reducible refine wpAny_bind ?_); (wp_delta); (with_reducible refine wpAny_bind ?_); (with_reducible refine wpAny_loadPart' (by assumption) ?_); (with_reducible refine wpAny_pure ?_); (with_reducible refine l_eq tn_sub2 ?_); ((with_reducible refine ite_f ?_ ?_); (focus (first | rfl | assumption))); (with_reducible refine wpAny_bind ?_); (wp_delta); (with_reducible refine wpAny_bind ?_); (with_reducible refine wpAny_load' (by assumption) ?_); (with_reducible refine wpAny_pure ?_); ((with_reducible refine wpAny_ite_false ?_ ?_); (focus rfl)); (with_reducible refine wpAny_bind ?_); (wp_delta); (wp_delta); (wp_delta); (wp_delta); (with_reducible refine wpAny_bind ?_); (with_reducible refine wpAny_bind ?_); (wp_delta); (with_reducible refine wpAny_pure ?_); ((with_reducible refine ite_f ?_ ?_); (focus (first | rfl | assumption))); (with_reducible refine wpAny_pure ?_); (wp_delta); (wp_delta); (with_reducible refine wpAny_pure ?_); (with_reducible refine wpAny_bind ?_); (wp_delta); (wp_delta); (wp_delta); (wp_delta); (with_reducible refine wpAny_bind ?_); (with_reducible refine wpAny_bind ?_); (with_reducible refine l_eq tn_typeObj ?_); (with_reducible refine wpAny_bind ?_); (with_reducible refine l_eq tn_sub3 ?_); ((with_reducible refine ite_t ?_ ?_); (focus (first | rfl | assumption))); (with_reducible refine wpAny_pure ?_); (wp_delta); (wp_delta); (with_reducible refine wpAny_pure ?_); ((with_reducible refine ite_f ?_ ?_); (focus (first | rfl | assumption))); (with_reducible refine wpAny_bind ?_); ((with_reducible refine l_turned ?_ ?_); (focus rfl)); (with_reducible refine wpAny_bind ?_); ((with_reducible refine l_ext ?_ ?_); (focus rfl)); ((with_reducible refine ite_f ?_ ?_); (focus (first | rfl | assumption))); (with_reducible refine wpAny_bind ?_); (wp_delta); (with_reducible refine wpAny_bind ?_); (with_reducible refine wpAny_loadPart' (by assumption) ?_); (with_reducible refine wpAny_pure ?_); (with_reducible refine wpAny_bind ?_); (wp_delta); (with_reducible refine wpAny_bind ?_); (wp_delta); (with_reducible refine wpAny_bind ?_); (with_reducible refine wpAny_loadPart' (by assumption) ?_); (with_reducible refine wpAny_pure ?_); (with_reducible refine l_eq tn_iter ?_); ((with_reducible refine ite_t ?_ ?_); (focus (first | rfl | assumption))); (with_reducible refine wpAny_bind ?_); (with_reducible refine wpAny_pure ?_); (with_reducible refine wpAny_bind ?_); (with_reducible refine wpAny_holding ?_); ((with_reducible refine n_read ?_ (by assumption) ?_); (focus rfl))
  intro h2 hk2
  replace hb := hk2 _ _ hb
  replace hn := hk2 _ _ hn
  have hsl0 := hsl
  replace hsl := hk2 _ _ hsl
  have D := X.Mem.start h2
  (with_reducible refine wpAny_bind ?_); (wp_delta); ((with_reducible refine wpAny_ite_false ?_ ?_); (focus rfl)); (wp_delta); (wp_delta); (with_reducible refine wpAny_bind ?_); (with_reducible refine m_hold ?_)
  refine ⟨n_alloc D rfl ?_⟩
  intro aN h3 D3
  (with_reducible refine wpAny_pure ?_); (wp_delta)
  refine ite_f (by kernel_rfl) ?_
  (with_reducible refine wpAny_bind ?_); (wp_delta)
  refine ite_f (by kernel_rfl) ?_
  (with_reducible refine wpAny_pure ?_); (wp_delta)
  refine ite_f (by kernel_rfl) ?_
  (with_reducible refine wpAny_bind ?_); ((with_reducible refine' n_get ?D97 0 ?hi97 ?hv97 ?_); (case D97 => assumption); (case hi97 => rfl); (case hv97 => rfl)); (with_reducible refine wpAny_bind ?_); ((with_reducible refine' n_get ?D99 0 ?hi99 ?hv99 ?_); (case D99 => assumption); (case hi99 => rfl); (case hv99 => rfl)); (with_reducible refine wpAny_bind ?_); (wp_delta); (with_reducible refine wpAny_pure ?_); (with_reducible refine wpAny_bind ?_); (with_reducible refine wpAny_pure ?_); (with_reducible refine wpAny_bind ?_); ((with_reducible refine' n_get ?D106 0 ?hi106 ?hv106 ?_); (case D106 => assumption); (case hi106 => rfl); (case hv106 => rfl)); (with_reducible refine wpAny_bind ?_); (with_reducible refine m_hold ?_)
  refine ⟨n_alloc (by assumption) rfl ?_⟩
  intro aK h4 D4
  ((with_reducible refine ite_t ?_ ?_); (focus (first | rfl | assumption))); (with_reducible refine wpAny_bind ?_); ((with_reducible refine' n_slot ?D111 0 ?hi111 ?hj111 ?hs111 ?hf111 ?_); (case D111 => assumption); (case hi111 => rfl); (case hj111 => decide); (case hs111 => rfl); (case hf111 => rfl); intro h3 D3; simp only [List.set_cons_zero, List.set_cons_succ, putS] at D3); (with_reducible refine wpAny_bind ?_); ((with_reducible refine' n_slot ?D113 0 ?hi113 ?hj113 ?hs113 ?hf113 ?_); (case D113 => assumption); (case hi113 => rfl); (case hj113 => decide); (case hs113 => rfl); (case hf113 => rfl); intro h3 D3; simp only [List.set_cons_zero, List.set_cons_succ, putS] at D3); (wp_delta); (with_reducible refine wpAny_bind ?_); ((with_reducible refine' n_slot ?D116 0 ?hi116 ?hj116 ?hs116 ?hf116 ?_); (case D116 => assumption); (case hi116 => rfl); (case hj116 => decide); (case hs116 => rfl); (case hf116 => rfl); intro h3 D3; simp only [List.set_cons_zero, List.set_cons_succ, putS] at D3); (with_reducible refine wpAny_bind ?_); (wp_delta); (with_reducible refine wpAny_bind ?_); ((with_reducible refine' n_part ?D120 1 ?hi120 ?_); (case D120 => assumption); (case hi120 => rfl)); (with_reducible refine wpAny_bind ?_); (wp_delta); (with_reducible refine wpAny_pure ?_); ((with_reducible refine ite_t ?_ ?_); (focus (first | rfl | assumption))); (with_reducible refine wpAny_bind ?_)
  refine n_upd2 (o' := { cls := .type "dict", data := .dict (clsEntries1 k hs v1 (.int ln lt) sl sa f) 1 }) (by assumption) 1 rfl rfl rfl ?_
  intro h5 D5
  simp only [List.set_cons_zero, List.set_cons_succ] at D5
  (with_reducible refine wpAny_pure ?_); (with_reducible refine wpAny_bind ?_); ((with_reducible refine' n_get ?D128 1 ?hi128 ?hv128 ?_); (case D128 => assumption); (case hi128 => rfl); (case hv128 => rfl)); (with_reducible refine wpAny_bind ?_); (wp_delta); (wp_delta); (wp_delta); (wp_delta); (with_reducible refine wpAny_bind ?_); (with_reducible refine wpAny_bind ?_); ((with_reducible refine' n_get ?D136 1 ?hi136 ?hv136 ?_); (case D136 => assumption); (case hi136 => rfl); (case hv136 => rfl)); (with_reducible refine wpAny_pure ?_); (wp_delta); (wp_delta); (with_reducible refine wpAny_bind ?_); (with_reducible refine wpAny_bind ?_); ((with_reducible refine' n_get ?D142 1 ?hi142 ?hv142 ?_); (case D142 => assumption); (case hi142 => rfl); (case hv142 => rfl)); (with_reducible refine wpAny_pure ?_); (wp_delta); (wp_delta); (with_reducible refine wpAny_pure ?_); (with_reducible refine wpAny_bind ?_); ((with_reducible refine' n_get ?D148 1 ?hi148 ?hv148 ?_); (case D148 => assumption); (case hi148 => rfl); (case hv148 => rfl)); (with_reducible refine wpAny_bind ?_); ((with_reducible refine' n_get ?D150 1 ?hi150 ?hv150 ?_); (case D150 => assumption); (case hi150 => rfl); (case hv150 => rfl)); (with_reducible refine wpAny_bind ?_); (wp_delta); (with_reducible refine wpAny_bind ?_); (with_reducible refine l_eq tn_mroHook ?_); (wp_delta); (with_reducible refine wpAny_pure ?_); (with_reducible refine wpAny_bind ?_); ((with_reducible refine l_lin ?_ ?_); (focus rfl)); (with_reducible refine wpAny_bind ?_); (with_reducible refine wpAny_pure ?_); (with_reducible refine wpAny_bind ?_)
  refine l_any (filt_self _) (by kernel_rfl) ?_
  (with_reducible refine wpAny_bind ?_); (wp_delta); (with_reducible refine wpAny_bind ?_); ((with_reducible refine' n_load ?D165 0 ?hi165 ?_); (case D165 => assumption); (case hi165 => rfl)); (with_reducible refine wpAny_bind ?_)
  refine n_upd3 (o' := clsO aK aN b tk v2 [.ref aK, .type "object"] true [] [some (.ref b), none, some (.str "K" tk), some (.str "cmp_to_key.<locals>.K" v2)]) (by assumption) 0 rfl (by kernel_rfl) rfl ?_
  intro h6 D6
  simp only [List.set_cons_zero, List.set_cons_succ] at D6
  clear D D3 D4 D5
  (wp_delta); (with_reducible refine wpAny_bind ?_); ((with_reducible refine' n_part ?D169 0 ?hi169 ?_); (case D169 => assumption); (case hi169 => rfl)); (wp_delta); (with_reducible refine wpAny_pure ?_); (with_reducible refine wpAny_bind ?_); (with_reducible refine l_eq tn_made ?_); (with_reducible refine wpAny_bind ?_); ((with_reducible refine' n_slot ?D175 0 ?hi175 ?hj175 ?hs175 ?hf175 ?_); (case D175 => assumption); (case hi175 => rfl); (case hj175 => decide); (case hs175 => rfl); (case hf175 => rfl); intro h3 D3; simp only [List.set_cons_zero, List.set_cons_succ, putS] at D3); (with_reducible refine wpAny_bind ?_); (wp_delta); (with_reducible refine wpAny_bind ?_); (wp_delta); (with_reducible refine wpAny_bind ?_); ((with_reducible refine' n_part ?D181 0 ?hi181 ?_); (case D181 => assumption); (case hi181 => rfl)); (with_reducible refine wpAny_pure ?_); ((with_reducible refine ite_f ?_ ?_); (focus (first | rfl | assumption))); (with_reducible refine wpAny_bind ?_); ((with_reducible show wpAny _ _ (typeLookup (Value.ref _) _) _ _ _); unfold typeLookup); (with_reducible refine wpAny_bind ?_); (wp_delta); (with_reducible refine wpAny_bind ?_); (wp_delta); (with_reducible refine wpAny_bind ?_); ((with_reducible refine' n_load ?D191 0 ?hi191 ?_); (case D191 => assumption); (case hi191 => rfl)); (with_reducible refine wpAny_pure ?_); (with_reducible refine wpAny_pure ?_); (with_reducible refine wpAny_bind ?_); (wp_delta); (wp_delta); (wp_delta); (wp_delta); (with_reducible refine wpAny_bind ?_); (with_reducible refine wpAny_bind ?_); (wp_delta); (with_reducible refine wpAny_bind ?_); (wp_delta); (with_reducible refine wpAny_bind ?_); ((with_reducible refine' n_load ?D205 0 ?hi205 ?_); (case D205 => assumption); (case hi205 => rfl)); (with_reducible refine wpAny_pure ?_); ((with_reducible refine' n_get ?D207 1 ?hi207 ?hv207 ?_); (case D207 => assumption); (case hi207 => rfl); (case hv207 => rfl)); (with_reducible refine wpAny_pure ?_); (wp_delta); (wp_delta); (with_reducible refine wpAny_bind ?_); (with_reducible refine wpAny_bind ?_); (wp_delta); (with_reducible refine wpAny_pure ?_); (wp_delta); (with_reducible refine wpAny_pure ?_); (with_reducible refine wpAny_pure ?_); (with_reducible refine wpAny_pure ?_); (wp_delta)
  refine ite_f (by kernel_rfl) ?_
  (with_reducible refine wpAny_pure ?_); (with_reducible refine wpAny_bind ?_); (wp_delta); (with_reducible refine wpAny_bind ?_); (wp_delta); (wp_delta); (wp_delta); (wp_delta); (with_reducible refine wpAny_bind ?_); (with_reducible refine wpAny_bind ?_); ((with_reducible refine' n_get ?D230 1 ?hi230 ?hv230 ?_); (case D230 => assumption); (case hi230 => rfl); (case hv230 => rfl)); ((with_reducible refine ite_t ?_ ?_); (focus (first | rfl | assumption))); (with_reducible refine wpAny_bind ?_); (with_reducible refine wpAny_mkStr' ?_); (with_reducible refine wpAny_bind ?_); (wp_delta); (wp_delta); ((with_reducible refine wpAny_ite_false ?_ ?_); (focus rfl)); (wp_delta); (wp_delta); (with_reducible refine wpAny_bind ?_); (with_reducible refine m_hold ?_)
  refine ⟨n_alloc (by assumption) rfl ?_⟩
  intro aD h7 D7
  (with_reducible refine wpAny_pure ?_); (with_reducible refine wpAny_bind ?_); (with_reducible refine m_hold2 ?_)
  refine ⟨n_nsSetV (by assumption) 2 (fun hh tk => { cls := .type "dict", data := .dict (clsEntries2 k hs v1 (.int ln lt) sl sa f hh tk aD) 2 }) rfl rfl rfl (Nat.le_of_ble_eq_true rfl) (fun _ _ => rfl) (fun _ _ => rfl) ?_⟩
  intro h8 D8
  simp only [List.set_cons_zero, List.set_cons_succ] at D8
  (with_reducible refine wpAny_pure ?_); (wp_delta); (wp_delta); (with_reducible refine wpAny_pure ?_); (with_reducible refine wpAny_bind ?_); (wp_delta); (wp_delta); (wp_delta); (wp_delta); (with_reducible refine wpAny_bind ?_); (with_reducible refine wpAny_bind ?_); (with_reducible refine l_eq tn_dict ?_); ((with_reducible refine ite_f ?_ ?_); (focus (first | rfl | assumption))); (with_reducible refine wpAny_pure ?_); (wp_delta); (wp_delta); (with_reducible refine wpAny_pure ?_); ((with_reducible refine wpAny_ite_false ?_ ?_); (focus rfl)); (wp_delta); (wp_delta); (with_reducible refine wpAny_bind ?_); ((with_reducible refine' n_load ?D266 1 ?hi266 ?_); (case D266 => assumption); (case hi266 => rfl)); (with_reducible refine wpAny_bind ?_)
  refine n_upd3 (o' := clsO aK aN b tk v2 [.ref aK, .type "object"] false ["obj"] [some (.ref b), none, some (.str "K" tk), some (.str "cmp_to_key.<locals>.K" v2), some (.builtin "object.__new__")]) (by assumption) 1 rfl (by kernel_rfl) rfl ?_
  intro h9 D9
  simp only [List.set_cons_zero, List.set_cons_succ] at D9
  clear D6 D7 D8
  (wp_delta); (with_reducible refine wpAny_bind ?_); ((with_reducible refine' n_part ?D270 1 ?hi270 ?_); (case D270 => assumption); (case hi270 => rfl)); (wp_delta); (with_reducible refine wpAny_pure ?_); (with_reducible refine wpAny_bind ?_); (with_reducible refine l_eq tn_weak ?_); (with_reducible refine wpAny_bind ?_); ((with_reducible refine' n_slot ?D276 1 ?hi276 ?hj276 ?hs276 ?hf276 ?_); (case D276 => assumption); (case hi276 => rfl); (case hj276 => decide); (case hs276 => rfl); (case hf276 => rfl); intro h3 D3; simp only [List.set_cons_zero, List.set_cons_succ, putS] at D3); ((with_reducible refine ite_f ?_ ?_); (focus (first | rfl | assumption))); ((with_reducible refine ite_f ?_ ?_); (focus (first | rfl | assumption))); (with_reducible refine wpAny_bind ?_); ((with_reducible refine' n_get ?D280 2 ?hi280 ?hv280 ?_); (case D280 => assumption); (case hi280 => rfl); (case hv280 => rfl)); ((with_reducible refine ite_t ?_ ?_); (focus (first | rfl | assumption))); (with_reducible refine wpAny_bind ?_); (with_reducible refine m_hold3 ?_)
  refine ⟨n_nsSet (by assumption) 2 (fun hh tk => { cls := .type "dict", data := .dict (clsEntries3 k hs v1 (.int ln lt) sl sa f (hashOf w "obj") (t + 1) aD hh tk) 3 }) rfl rfl rfl (fun _ _ => rfl) (fun _ _ => rfl) ?_⟩
  intro h10 D10
  simp only [List.set_cons_zero, List.set_cons_succ] at D10
  (with_reducible refine wpAny_bind ?_); ((with_reducible refine' n_get ?D285 2 ?hi285 ?hv285 ?_); (case D285 => assumption); (case hi285 => rfl); (case hv285 => rfl)); ((with_reducible refine ite_t ?_ ?_); (focus (first | rfl | assumption))); (with_reducible refine wpAny_bind ?_); ((with_reducible refine' n_get ?D288 2 ?hi288 ?hv288 ?_); (case D288 => assumption); (case hi288 => rfl); (case hv288 => rfl)); ((with_reducible refine ite_f ?_ ?_); (focus (first | rfl | assumption))); (with_reducible refine wpAny_bind ?_); (wp_delta); (wp_delta); (wp_delta); (wp_delta); (with_reducible refine wpAny_bind ?_); (with_reducible refine wpAny_bind ?_); (wp_delta); ((with_reducible refine ite_t ?_ ?_); (focus (first | rfl | assumption))); (with_reducible refine wpAny_pure ?_); (with_reducible refine wpAny_pure ?_); (wp_delta); (wp_delta); (with_reducible refine wpAny_pure ?_); (with_reducible refine wpAny_bind ?_); (with_reducible refine l_try ?_); (with_reducible refine wpAny_holding ?_); (with_reducible refine wpAny_bind ?_); (wp_delta); (with_reducible refine wpAny_bind ?_); ((with_reducible refine' n_part ?D310 2 ?hi310 ?_); (case D310 => assumption); (case hi310 => rfl)); (with_reducible refine wpAny_pure ?_); (with_reducible refine wpAny_bind ?_); (with_reducible refine m_holdF ?_)
  have keep : ∀ b o', h.get? b = some o' → h10.get? b = some o' := fun b o' e => D10.keep b o' (hk2 b o' e) (by cases X.hasCls o' <;> rfl)
  have hsn := ents_sn (prog := prog) (w := w) (k := k) (hs := hs) (v1 := v1) (ln := ln) (lt := lt) (f := f) (h1 := hashOf w "obj") (t1 := t + 1) (h2 := hashOf w "__doc__") (t2 := t + 1 + 1) (fun i hi => (hf i hi).imp fun o e => ⟨keep _ _ e.1, e.2⟩) (keep _ _ hsl0) rfl (keep _ _ hsa) csa (D10.at 0 _ _ rfl) rfl
  refine ⟨l_loop (fun e he => ?_) ?_⟩
  · obtain ⟨x, tx, hx⟩ := (hsn e he).key
    clear he
    obtain ⟨eh, ek, ev⟩ := e
    dsimp only at hx
    subst hx
    repeat wp_step
    exact ⟨rfl, rfl⟩
  ((with_reducible refine ite_f ?_ ?_); (focus (first | rfl | assumption))); (with_reducible refine wpAny_bind ?_); (wp_delta); (with_reducible refine wpAny_bind ?_); ((with_reducible refine' n_part ?D318 2 ?hi318 ?_); (case D318 => assumption); (case hi318 => rfl)); (with_reducible refine wpAny_pure ?_); (with_reducible refine wpAny_bind ?_); (with_reducible refine m_holdF ?_)
  refine ⟨l_loop (fun e he => ?_) ?_⟩
  · have S := hsn e he
    clear he
    refine ite_f S.laid ?_
    refine wpAny_bind (S.sp _ _ _ _ rfl ?_)
    exact wpAny_pure ⟨rfl, rfl⟩
  (with_reducible refine wpAny_bind ?_); (with_reducible refine m_holdC ?_)
  have hK : h10.get? aK = some (clsK aK aN b tk v2) := D10.at 1 _ _ rfl
  refine ⟨sup_make (s := ⟨h10, g, d, t + 1 + 1 + 1, os⟩) hK ?_⟩
  intro sp h11 t11 DS
  have k11 := mem_keep DS
  refine wpAny_bind (wpAny_holding (sg_super_ga (k11 _ _ hK) (DS.at 0 _ _ rfl) (hno _ (fun b' o' e => k11 _ _ (keep _ _ e)) aK) ?_))
  intro fa h12 t12 DF
  have k12 := mem_keep DF
  refine wpAny_bind (init_sub (s := ⟨h12, g, d, t12, os⟩) (k12 _ _ (k11 _ _ hK)) (DF.at 0 _ _ rfl) ?_)
  intro h13 t13 DG
  have k13 := mem_keep DG
  refine wpAny_pure (wpAny_pure ?_)
  have fr : ∀ x, h2.get? x = none → h.get? x = none := fun x e => by
    cases q : h.get? x with
    | none => rfl
    | some o => have := hk2 _ _ q; rw [e] at this; cases this
  refine hret aK aN aD (t + 1) (t + 1 + 1) h13 t13 (fun b' o' e => k13 _ _ (k12 _ _ (k11 _ _ (keep _ _ e)))) (k13 _ _ (k12 _ _ (k11 _ _ hK))) (k13 _ _ (k12 _ _ (k11 _ _ (D10.at 2 _ _ rfl)))) (k13 _ _ (k12 _ _ (k11 _ _ (D10.at 0 _ _ rfl)))) (fun x hx => ?_)
  simp only [List.mem_cons, List.not_mem_nil, or_false] at hx
  rcases hx with hx | hx | hx <;> rw [hx]
  · exact fr _ (D10.nw (aK, _) (.tail _ (.head _))).2
  · exact fr _ (D10.nw (aN, _) (.tail _ (.tail _ (.head _)))).2
  · exact fr _ (D10.nw (aD, _) (.head _)).2
end
section
open PySem PySem.W PyProof.Rows PySem.Calls
set_option maxRecDepth 100000
theorem ty_entryCall : entryFor table "type.__call__" = some Builtin.«type.__call__» := entryFor_of_tree (by kernel_rfl)
theorem ty_entryNew : entryFor table "type.__new__" = some Builtin.«type.__new__» := entryFor_of_tree (by kernel_rfl)
theorem ty_entryInit : entryFor table "type.__init__" = some Builtin.«type.__init__» := entryFor_of_tree (by kernel_rfl)
theorem ty_check (a b c : Value) : checkTypeCall "type" ⟨[a, b, c], []⟩ = pure () := by kernel_rfl
theorem ty_mro : mroOf (.type "type") = pure [.type "type", .type "object"] := by kernel_rfl
theorem ty_made : Bind.madeBy (.type "type") = pure (some "type.__new__") := by kernel_rfl
theorem ty_checkNew (a b c : Value) : checkBuiltinCall "type.__new__" ⟨[.type "type", a, b, c], []⟩ = pure () := by kernel_rfl
theorem ty_init : typeLookup (.type "type") "__init__" = pure (some (.builtin "type.__init__")) := by rw [typeLookup_type, builtinLookup_eq_fast]; kernel_rfl
theorem ty_bind (a : Addr) : bindSpecial (.builtin "type.__init__") (.ref a) = pure (.builtin "type.__init__", [.ref a]) := by kernel_rfl
theorem l_ck {prog : Program} {w : World} {A : Around} {E : Value → Shared → Prop} {s : Shared} {Q : Unit → Shared → Prop} {a : Args} {x y z : Value} (ha : a = ⟨[x, y, z], []⟩) (h : Q () s) : wpAny (model prog w) A (checkTypeCall "type" a) Q E s := by rw [ha, ty_check]; exact wpAny_pure h
theorem ty_slot : Slot "type" "__init__" "type.__init__" := .of (owner := "type") (n := "__init__") ty_init (by decide +kernel) (by decide +kernel) (by decide +kernel) (by decide +kernel) tn_sub3
theorem ty_args (a b c d : Value) : argsOk "type.__init__" ⟨[a, b, c, d], []⟩ := by unfold argsOk; kernel_rfl
/-- what stands ready when the class is made -/
structure ClsReady (prog : Program) (w : World) (h : Heap) (b n : Addr) (k : Nat → Tok) (hs : Nat → Int) (v1 v2 ts : Tok) (ln : Int) (lt : Tok) (sl sa : Addr) (f : Nat → Addr) (ne : Nat) : Prop where
  hb : h.get? b = some { cls := .type "tuple", data := .seq #[.type "object"] 0 }
  hn : h.get? n = some { cls := .type "dict", data := .dict (clsEntries k hs v1 v2 (.int ln lt) sl sa f) ne }
  hns : (n == sysModules) = false
  hsl : h.get? sl = some { cls := .type "list", data := .seq #[.str "obj" ts] 0 }
  hf : ∀ i < 6, ∃ o, h.get? (f i) = some o ∧ o.cls = .type "function"
  hsa : ∃ osa, h.get? sa = some osa ∧ osa.cls = .type "tuple"
  hno : ∀ h', (∀ b o, h.get? b = some o → h'.get? b = some o) → ∀ C, Looks (model prog w) h' (opaqueClassAbove (.ref C)) none
/-- what stands when it is made -/
structure ClsMade (w : World) (h h' : Heap) (b : Addr) (tk : Tok) (k : Nat → Tok) (hs : Nat → Int) (v1 v2 : Tok) (ln : Int) (lt : Tok) (sl sa : Addr) (f : Nat → Addr) (aK aN aD : Addr) : Prop where
  keep : ∀ b o, h.get? b = some o → h'.get? b = some o
  cls : h'.get? aK = some (clsK aK aN b tk v2)
  ns : ∃ t1 t2, h'.get? aN = some { cls := .type "dict", data := .dict (clsEntries3 k hs v1 (.int ln lt) sl sa f (hashOf w "obj") t1 aD (hashOf w "__doc__") t2) 3 }
  desc : ∃ t, h'.get? aD = some { cls := .type "member_descriptor", data := .fields #[.str "obj" t, .ref aK, .builtin "proto.slot", .builtin "proto.slot#set", rawInt 0] }
  fresh : ∀ x ∈ [aK, aN, aD], h.get? x = none
set_option maxHeartbeats 8000000 in
theorem ty_call {prog : Program} {w : World} {A : Around} {E : Value → Shared → Prop} {h : Heap} {g : Array GenState} {d : Drawn} {t : Nat} {os : OsState} {Q : Value → Shared → Prop} {b n : Addr} {tk : Tok} {k : Nat → Tok} {hs : Nat → Int} {v1 v2 ts : Tok} {ln : Int} {lt : Tok} {sl sa : Addr} {f : Nat → Addr} {ne : Nat}
    (R : ClsReady prog w h b n k hs v1 v2 ts ln lt sl sa f ne) (hret : ∀ aK aN aD h' t', ClsMade w h h' b tk k hs v1 v2 ln lt sl sa f aK aN aD → Q (.ref aK) ⟨h', g, d, t', os⟩) :
    wpAny (model prog w) A (call (.type "type") [.str (Str.ofString "K") tk, .ref b, .ref n] []) Q E ⟨h, g, d, t, os⟩ := by
  refine wpAny_call (codeAny_of_tree ?_)
  show wpAny _ _ (callAny (.type "type") _) _ _ _
  repeat wp_step
  refine ⟨Code.quiet_builtin _ (by decide +kernel), ?_⟩
  refine codeAny_builtin ty_entryCall ?_
  unfold Builtin.«type.__call__»
  repeat (first
    | ((with_reducible refine l_ck ?_ ?_); (focus rfl))
    | (with_reducible refine l_eq ty_mro ?_) | (with_reducible refine l_eq ty_made ?_)
    | (with_reducible refine m_holdC ?_)
    | wp_step)
  refine ⟨wpAny_call (codeAny_call_builtin_at (Code.quiet_builtin _ (by decide +kernel)) ty_entryNew (l_eq (ty_checkNew _ _ _) ?_))⟩
  obtain ⟨osa, hsa, csa⟩ := R.hsa
  refine tn prog w b n _ _ _ h g d t os tk R.hb k hs v1 v2 ts ln lt sl sa f ne R.hn R.hns R.hsl R.hf osa hsa csa R.hno ?_
  intro aK aN aD t1 t2 h' t' keep hK hN hD hfr
  have M : ClsMade w h h' b tk k hs v1 v2 ln lt sl sa f aK aN aD := ⟨keep, hK, ⟨t1, t2, hN⟩, ⟨t, hD⟩, hfr⟩
  clear hN hD hfr keep R
  show wpAny _ _ _ _ _ _
  have hT : ∀ t', (⟨h', g, d, t', os⟩ : Shared).TypeIs (.ref aK) "type" := fun _ => ⟨_, hK, rfl⟩
  have f3 := tn_sub3
  repeat (first
    | (with_reducible refine wpAny_loadPart' hK ?_)
    | (with_reducible refine m_holdC ?_)
    | (with_reducible refine l_eq (ty_bind _) ?_) | (with_reducible refine l_eq ty_init ?_)
    | wp_step)
  refine ⟨wpAny_call_entry ty_slot (hT _) ty_entryInit ?_ (ty_args _ _ _ _)⟩
  unfold Builtin.«type.__init__»
  repeat wp_step
  refine ⟨_, rfl, wpAny_pure ?_⟩
  repeat wp_step
  exact hret aK aN aD h' t' M
end
section
open PySem PySem.W PyProof.Rows PySem.Calls PySem.W.X
set_option maxRecDepth 100000
theorem mem_grow {h₀ h h' : Heap} {news : List (Addr × Obj)} (D : Mem h₀ h [] news) (k : ∀ b o, h.get? b = some o → h'.get? b = some o) : Mem h₀ h' [] news :=
  ⟨fun b o e q => k _ _ (D.keep b o e q), fun _ hp => (nomatch hp), List.nodup_nil, fun p hp => ⟨k _ _ (D.nw p hp).1, (D.nw p hp).2⟩, D.ord⟩
structure FinO (h₀ : Heap) (mk : Addr → List (Addr × Obj)) (Q : Option Value → Shared → Prop) (g : Array GenState) (d : Drawn) (os : OsState) : Prop where
  use : ∀ a h t, Mem h₀ h [] (mk a) → Q (some (.ref a)) ⟨h, g, d, t, os⟩
section
local macro_rules | `(tactic| x_close) => `(tactic| (exact FinO.use (by assumption) _ _ _ (by assumption)))

set_option maxHeartbeats 8000000 in
theorem prep_get {prog : Program} {w : World} {A : Around} {E : Value → Shared → Prop} {s : Shared} {Q : Option Value → Shared → Prop} {u : Tok}
    (hret : ∀ a h t, Mem s.heap h [] [(a, { cls := .type "builtin_function_or_method", data := .fields #[.builtin "type.__prepare__", .type "type"] })] → Q (some (.ref a)) ⟨h, s.gens, s.drawn, t, s.os⟩) :
    wpAny (model prog w) A (getAttrBy? (.type "type") (.str "__prepare__" u)) Q E s := by
  have hR : FinO s.heap (fun a => [(a, { cls := .type "builtin_function_or_method", data := .fields #[.builtin "type.__prepare__", .type "type"] })]) Q s.gens s.drawn s.os := ⟨hret⟩
  clear hret
  x_run
end
theorem prep_getF {prog : Program} {w : World} {A : Around} {E : Value → Shared → Prop} {h : Heap} {g : Array GenState} {d : Drawn} {t : Nat} {os : OsState} {Q : Option Value → Shared → Prop} {u : Tok}
    (hret : ∀ a h' t', Mem h h' [] [(a, { cls := .type "builtin_function_or_method", data := .fields #[.builtin "type.__prepare__", .type "type"] })] → Q (some (.ref a)) ⟨h', g, d, t', os⟩) :
    wpAny (model prog w) A (getAttrBy? (.type "type") (.str "__prepare__" u)) Q E ⟨h, g, d, t, os⟩ := prep_get (s := ⟨h, g, d, t, os⟩) hret
theorem tp_ty : typeOf (.type "type") = pure (.type "type") := by kernel_rfl
theorem tp_mod : isSubtype (.type "type") (.type "module") = pure false := by rw [isSubtype_type]; kernel_rfl
theorem tp_mod2 : isSubtype (.type ((Manifest.find? "type").elim "type" fun x => x.metatype)) (.type "module") = pure false := by rw [isSubtype_type]; kernel_rfl
theorem tp_entry : entryFor table "type.__prepare__" = some Builtin.«type.__prepare__» := entryFor_of_tree (by kernel_rfl)
set_option maxHeartbeats 8000000 in
theorem prep_call {prog : Program} {w : World} {A : Around} {E : Value → Shared → Prop} {h : Heap} {g : Array GenState} {d : Drawn} {t : Nat} {os : OsState} {Q : Value → Shared → Prop} {a b : Addr} {tk : Tok} {h₀ : Heap} {news : List (Addr × Obj)} (ha : h.get? a = some (Obj.mk (.type "builtin_function_or_method") none (.fields #[.builtin "type.__prepare__", .type "type"]) #[]))
    (D : Mem h₀ h [] news) (hret : ∀ n h', Mem h₀ h' [] ((n, { cls := .type "dict", data := .dict #[] }) :: news) → Q (.ref n) ⟨h', g, d, t, os⟩) :
    wpAny (model prog w) A (call (.ref a) [.str (Str.ofString "K") tk, .ref b] []) Q E ⟨h, g, d, t, os⟩ := by
  refine wpAny_call (codeAny_of_tree ?_)
  show wpAny _ _ (callAny (.ref a) _) _ _ _
  repeat (first | (with_reducible refine wpAny_loadPart' ha ?_) | (with_reducible refine wpAny_load' ha ?_) | (with_reducible refine l_eq tp_ty ?_) | (with_reducible refine l_eq tp_mod2 ?_) | (with_reducible refine m_hold ?_) | wp_step)
  refine ⟨Code.quiet_builtin _ (by decide +kernel), ?_⟩
  refine codeAny_builtin tp_entry ?_
  unfold Builtin.«type.__prepare__»
  repeat (first | (with_reducible refine m_hold ?_) | wp_step)
  refine ⟨n_alloc D rfl ?_⟩
  intro n h' D'
  repeat wp_step
  exact hret n h' D'
end
section
open PySem PySem.W PyProof.Rows PySem.Calls PySem.W.X
set_option maxRecDepth 100000
theorem mem_add {h₀ h : Heap} {news : List (Addr × Obj)} {a : Addr} {o : Obj} (D : Mem h₀ h [] news) (e : h.get? a = some o) (e0 : h₀.get? a = none) (lt : ∀ p ∈ news, p.1 < a) : Mem h₀ h [] ((a, o) :: news) := by
  refine ⟨D.keep, D.ch, D.cd, fun p hp => ?_, ?_⟩
  · rcases List.mem_cons.mp hp with rfl | hp
    · exact ⟨e, e0⟩
    · exact D.nw p hp
  · refine List.Pairwise.cons (fun b hb => ?_) D.ord
    obtain ⟨p, hp, rfl⟩ := List.mem_map.mp hb
    exact lt p hp
/-- the code of a class -/
theorem m_classCode {prog : Program} {w : World} {A : Around} {E : Value → Shared → Prop} {s : Shared} {h₀ : Heap} {news : List (Addr × Obj)} {env : Env} {c P : Addr} {pos : Pos} {fl : Nat} {nm q : Str} {sc : Scope} {Q : Value → Shared → Prop}
    (D : Mem h₀ s.heap [] news) (C : CodeHd h₀ c P) (hcode : env.code = .ref c) (i : Nat) (hi : news[i]? = some (P, tabObj #[]))
    (hQ : ∀ c' P' h' tk, CodeHd h' c' P' → Mem h₀ h' [] ((P', tabObj #[]) :: news.set i (P, tabObj #[rawInt pos.line, rawInt pos.col, .ref c'])) → Q (.ref c') { s with heap := h', toks := tk }) :
    wpAny (model prog w) A (classCode env pos fl nm q sc) Q E s := by
  have k := mem_keep D
  have hP := D.at i _ _ hi
  have hlow : ∀ p ∈ news, p.1 < s.heap.objs.size := fun p hp => Heap.lt_size (D.nw p hp).1
  have hfr : ∀ b, s.heap.objs.size ≤ b → h₀.get? b = none := fun b hb => by
    cases q : h₀.get? b with
    | none => rfl
    | some o => exact absurd (Heap.lt_size (k b o q)) (Nat.not_lt.mpr hb)
  refine hideG fun G9 b9 => ?_
  obtain ⟨o, vs, file, tf, flags, tg, inF, text, tt, op, ho, hd, h11, h2, h7, h9, h10, hop, hpd, htr, hne⟩ := (C.keeps k).code hP True.intro
  refine b9 ?_
  clear b9 G9
  unfold classCode codeAt
  rw [hcode, if_neg (show ¬ ((Value.ref c == Value.none) = true) from Bool.false_ne_true)]
  refine wpAny_bind (wpAny_fieldsOf ho hd ?_)
  rw [h11]
  refine wpAny_bind (wpAny_fieldsOf hop hpd ?_)
  rw [show codeAmong pos (#[] : Array Value).toList = none from rfl, h2, h7, h9, h10]
  refine wpAny_bind (wpAny_newCodeX fun c' P' h' tk hk hc' hP' hcode' htab' hrec' => ?_)
  have hop' := hk _ _ hop
  refine wpAny_bind (wpAny_updateFieldsOfTheText hop' hpd ?_)
  have hnf : codeAmong pos (#[] : Array Value).toList = none := rfl
  have e1 : op = tabObj #[] := Option.some.inj (hop.symm.trans hP)
  have hnew : (Obj.mapFields (fun vs => if (codeAmong pos vs.toList).isSome = true then vs else vs ++ #[rawInt pos.line, rawInt pos.col, .ref c']) op) = tabObj #[rawInt pos.line, rawInt pos.col, .ref c'] := by
    rw [e1]
    simp only [Obj.mapFields, hnf]
    rfl
  have hget := Heap.get?_update_self (h := h') (fun o => Obj.mapFields (fun vs => if (codeAmong pos vs.toList).isSome = true then vs else vs ++ #[rawInt pos.line, rawInt pos.col, .ref c']) o) hop' (by rw [hnew]; rfl)
  have hget2 := hget.trans (congrArg some hnew)
  refine wpAny_bind (wpAny_fieldsOf hget2 rfl ?_)
  have hl : (#[rawInt pos.line, rawInt pos.col, Value.ref c'] : Array Value).toList = ([] : List Value) ++ [rawInt pos.line, rawInt pos.col, .ref c'] := rfl
  rw [hl, codeAmong_snoc [] True.intro rfl]
  have hcP : c' ≠ P := Nat.ne_of_gt (Nat.lt_of_lt_of_le (Heap.lt_size hop) hc')
  have hP'P : P' ≠ P := Nat.ne_of_gt (Nat.lt_of_lt_of_le (Heap.lt_size hop) hP')
  have D1 := mem_grow D hk
  have D2 := D1.update (f := fun o => Obj.mapFields (fun vs => if (codeAmong pos vs.toList).isSome = true then vs else vs ++ #[rawInt pos.line, rawInt pos.col, .ref c']) o) hi (by rw [← e1, hnew]; rfl)
  rw [← e1, hnew] at D2
  have hx := (Heap.SameBut.update (h := h') (a := P) (f := fun o => Obj.mapFields (fun vs => if (codeAmong pos vs.toList).isSome = true then vs else vs ++ #[rawInt pos.line, rawInt pos.col, .ref c']) o)).extBut
  have htab2 := htab'.2
  refine wpAny_pure (hQ c' P' _ _ ?_ (mem_add D2 (hx _ _ hP'P htab2) (hfr _ hP') fun p hp => ?_))
  · obtain ⟨oc, vc, f', tf', fl', tg', in', tx', tt', e2, e3, e4, e5, e6⟩ := CodeHd.of hcode' htab'
    exact ⟨oc, vc, f', tf', fl', tg', in', tx', tt', hx _ _ hcP e2, e3, e4, e5, e6⟩
  · rcases List.mem_or_eq_of_mem_set hp with hp | rfl
    · exact Nat.lt_of_lt_of_le (hlow p hp) hP'
    · exact Nat.lt_of_lt_of_le (show P < s.heap.objs.size from hlow (P, tabObj #[]) (List.mem_of_getElem? hi)) hP'
theorem n_classCode {prog : Program} {w : World} {A : Around} {E : Value → Shared → Prop} {h : Heap} {g : Array GenState} {d : Drawn} {t : Nat} {os : OsState} {h₀ : Heap} {news : List (Addr × Obj)} {env : Env} {c P : Addr} {pos : Pos} {fl : Nat} {nm q : Str} {sc : Scope} {Q : Value → Shared → Prop}
    (D : Mem h₀ h [] news) (C : CodeHd h₀ c P) (hcode : env.code = .ref c) (i : Nat) (hi : news[i]? = some (P, tabObj #[]))
    (hQ : ∀ c' P' h' tk, CodeHd h' c' P' → Mem h₀ h' [] ((P', tabObj #[]) :: news.set i (P, tabObj #[rawInt pos.line, rawInt pos.col, .ref c'])) → Q (.ref c') ⟨h', g, d, tk, os⟩) :
    wpAny (model prog w) A (classCode env pos fl nm q sc) Q E ⟨h, g, d, t, os⟩ := m_classCode (s := ⟨h, g, d, t, os⟩) D C hcode i hi hQ
theorem n_builtinsFor {prog : Program} {w : World} {A : Around} {E : Value → Shared → Prop} {h : Heap} {g : Array GenState} {d : Drawn} {t : Nat} {os : OsState} {h₀ : Heap} {a b : Addr} {p : Program} {loose : List Str} {mean : ExcName → Option Value} {mg mb : Str → Option Value} {Q : Addr → Shared → Prop}
    (T : Top p loose mean mg mb h₀) (k : ∀ b o, h₀.get? b = some o → h.get? b = some o) (ha : a = mainGlobals) (hq : Q builtinsNs ⟨h, g, d, t, os⟩) : wpAny (model prog w) A (builtinsFor a b) Q E ⟨h, g, d, t, os⟩ := by
  subst ha
  refine hideG fun G9 b9 => ?_
  obtain ⟨bm, ob, b1, b2, b3, b4, b5, b6⟩ := T.bmain
  refine b9 ?_
  clear b9 G9
  exact wpAny_builtinsFor (s := ⟨h, g, d, t, os⟩) (T.g.keeps k) b1 b2 (k _ _ b3) b4 b5 b6 hq
theorem n_enter {prog : Program} {w : World} {A : Around} {E : Value → Shared → Prop} {h : Heap} {g : Array GenState} {d : Drawn} {t : Nat} {os : OsState} {h₀ : Heap} {p : Program} {loose : List Str} {mean : ExcName → Option Value} {mg mb : Str → Option Value} {Q : Unit → Shared → Prop}
    (T : Top p loose mean mg mb h₀) (k : ∀ b o, h₀.get? b = some o → h.get? b = some o) (hd : A.depth < recursionLimit) (hq : Q () ⟨h, g, d, t, os⟩) : wpAny (model prog w) A enterFrame Q E ⟨h, g, d, t, os⟩ := wpAny_enterFrame (s := ⟨h, g, d, t, os⟩) (T.nolimit.keeps k) hd hq
theorem n_storeA {prog : Program} {w : World} {A : Around} {E : Value → Shared → Prop} {h : Heap} {g : Array GenState} {d : Drawn} {t : Nat} {os : OsState} {h₀ : Heap} {news : List (Addr × Obj)} {env : Env} {n : Addr} {x : Str} {v : Value} {l : List DictEntry} {k : Nat} {Q : Unit → Shared → Prop} (D : Mem h₀ h [] news) (i : Nat) (hi : news[i]? = some (n, dictN l k)) (hn : env.locals = n) (hst : storeName env x v = localSet env x v) (hr : aRefKeyMayBeTheName x l.toArray = false)
    (ho : ∀ hh tk, Obj.putName x hh (.str x tk) v (dictN l k) = dictN (l ++ [⟨hh, .str x tk, v⟩]) (k + 1)) (hq : ∀ h' u, Mem h₀ h' [] (news.set i (n, dictN (l ++ [⟨hashOf w x, .str x u, v⟩]) (k + 1))) → Q () ⟨h', g, d, t + 1, os⟩) : wpAny (model prog w) A (storeName env x v) Q E ⟨h, g, d, t, os⟩ :=
  m_storeA (s := ⟨h, g, d, t, os⟩) D i hi hn hst hr ho hq
/-- a new base: all but the objects that still turn -/
theorem mem_base (S : List Addr) {h : Heap} {news : List (Addr × Obj)} (hS : ∀ p ∈ news, p.1 ∈ S) (hn : ∀ p ∈ news, h.get? p.1 = some p.2) (ord : (news.map (·.1)).Pairwise (· > ·)) : Mem (hide S h) h [] news :=
  ⟨fun _ _ e _ => hide_sub e, fun _ hp => (nomatch hp), List.nodup_nil, fun p hp => ⟨hn p hp, hide_in (hS p hp)⟩, ord⟩
theorem base_keep {S : List Addr} {h₀ h : Heap} (k : ∀ b o, h₀.get? b = some o → h.get? b = some o) (hS : ∀ a ∈ S, h₀.get? a = none) : ∀ b o, h₀.get? b = some o → (hide S h).get? b = some o := by
  intro b o e
  rw [hide_out]
  · exact k b o e
  · intro hb
    rw [hS b hb] at e; cases e
theorem code_base {S : List Addr} {h : Heap} {c P : Addr} (C : CodeHd h c P) (hS : ∀ a ∈ S, ∀ o, h.get? a = some o → o.cls ≠ .type "code") : CodeHd (hide S h) c P := by
  obtain ⟨o, vs, file, tf, flags, tg, inF, text, tt, e, hc, r⟩ := C
  refine ⟨o, vs, file, tf, flags, tg, inF, text, tt, ?_, hc, r⟩
  rw [hide_out]
  · exact e
  · exact fun hb => hS c hb o e hc
theorem cls_bodyF (w : World) {A : Around} {E : Value → Shared → Prop} {h : Heap} {g : Array GenState} {d : Drawn} {t : Nat} {os : OsState} {h₀ : Heap} {body : List Stmt} {sc : Scope} {Q : Flow → Shared → Prop} {loose : List Str} {mean : ExcName → Option Value} {mg mb : Str → Option Value} {n c P fr cell : Addr} {a0 a1 a2 : Int} {u0 u1 u2 : Tok} {v0 v2 : Value} {t1 : Tok} {k0 : Nat}
    (hb : clsBody (hd.heap_1 w.params) = some body) (hs : clsScope (hd.heap_1 w.params) = some sc) (T : Top topProg loose mean mg mb h₀) (C : CodeHd h₀ c P)
    (D : Mem h₀ h [] [(P, tabObj #[]), (n, dictN [⟨a0, .str "__module__" u0, v0⟩, ⟨a1, .str "__qualname__" u1, .str "cmp_to_key.<locals>.K" t1⟩, ⟨a2, .str "__firstlineno__" u2, v2⟩] k0)])
    (hQ : ∀ h' tk' k hs v1 ts sl (f c : Nat → Addr) ne, (∀ b o, h₀.get? b = some o → h'.get? b = some o) → h'.get? n = some (dictN (clsList0 k hs v1 t1 v2 sl f) ne) → h'.get? sl = some { cls := .type "list", data := .seq #[.str "obj" ts] } →
      FnIs w 2 qInit [] ((mg "__name__").getD .none) h' (f 0) (c 0) → FnIs w 3 qLt [("mycmp", cell)] ((mg "__name__").getD .none) h' (f 1) (c 1) → (∀ i < 6, ∃ o, h'.get? (f i) = some o ∧ o.cls = .type "function") →
      (∀ b ∈ [sl, f 0, f 1, c 0, c 1], h₀.get? b = none) → Q .next ⟨h', g, d, tk', os⟩) :
    wpAny (model prog w) A (execs body (clsEnv sc n c fr cell)) Q E ⟨h, g, d, t, os⟩ := cls_body (s := ⟨h, g, d, t, os⟩) w hb hs T C D hQ
end
section
open PySem PySem.W PyProof.Rows PySem.Calls
set_option maxRecDepth 100000
/-- the class statement, as it stands in the heap's part -/
noncomputable def clsStmt (K : Frag) : Option Stmt := match K.lookup 64 with
  | some ⟨_, _, .func fd, _⟩ => (match fd.body with
    | .stmts (b :: _) => some b
    | _ => none)
  | _ => none
noncomputable def ctkScope (K : Frag) : Option Scope := match K.lookup 64 with
  | some ⟨_, _, .func fd, _⟩ => some fd.scope
  | _ => none
theorem tx_boot {mb : Str → Option Value} (hb : ∀ x : Str, x ≠ "__name__" → mb x = bootBuiltins x) : mb "__build_class__" = some (.builtin "__build_class__") ∧ mb "object" = some (.type "object") := ⟨(hb _ (by decide)).trans (by kernel_rfl), (hb _ (by decide)).trans (by kernel_rfl)⟩
theorem l_nsG {prog : Program} {w : World} {A : Around} {E : Value → Shared → Prop} {s : Shared} {a : Addr} {m : Str → Option Value} {x : Str} {v : Option Value} {Q : Option Value → Shared → Prop} (ha : a = mainGlobals) (hn : s.heap.Ns mainGlobals m) (hv : m x = v) (h : Q v s) : wpAny (model prog w) A (nsGet a x) Q E s := by
  subst ha hv; exact wpAny_nsGet hn h
theorem l_nsB {prog : Program} {w : World} {A : Around} {E : Value → Shared → Prop} {s : Shared} {a : Addr} {m : Str → Option Value} {x : Str} {v : Option Value} {Q : Option Value → Shared → Prop} (ha : a = builtinsNs) (hn : s.heap.Ns builtinsNs m) (hv : m x = v) (h : Q v s) : wpAny (model prog w) A (nsGet a x) Q E s := by
  subst ha hv; exact wpAny_nsGet hn h
section
variable {prog : Program} {w : World} {A : Around} {E : Value → Shared → Prop} {s : Shared}
theorem x_hold1 {o n : Value} {Q : Option Value → Shared → Prop} (h : HoldC (wpAny (model prog w) A (getAttrBy? o n) Q E s)) : wpAny (model prog w) A (getAttrBy? o n) Q E s := h.h
theorem x_hold2 {env : Env} {pos : Pos} {fl : Nat} {n q : Str} {sc : Scope} {Q : Value → Shared → Prop} (h : HoldC (wpAny (model prog w) A (classCode env pos fl n q sc) Q E s)) : wpAny (model prog w) A (classCode env pos fl n q sc) Q E s := h.h
theorem x_hold3 {a b : Addr} {Q : Addr → Shared → Prop} (h : HoldC (wpAny (model prog w) A (builtinsFor a b) Q E s)) : wpAny (model prog w) A (builtinsFor a b) Q E s := h.h
theorem x_hold4 {k : Nat} {Q : Unit → Shared → Prop} (h : HoldC (wpAny (model prog w) A (enterFrame k) Q E s)) : wpAny (model prog w) A (enterFrame k) Q E s := h.h
theorem x_hold5 {env : Env} {n : Str} {v : Value} {Q : Unit → Shared → Prop} (h : HoldC (wpAny (model prog w) A (storeName env n v) Q E s)) : wpAny (model prog w) A (storeName env n v) Q E s := h.h
theorem x_hold6 {c : Code} {hd : Option Value} {Q : Flow → Shared → Prop} (h : HoldC (wpAny (model prog w) A (run c hd) Q E s)) : wpAny (model prog w) A (run c hd) Q E s := h.h
theorem x_hold7 {env : Env} {n : Str} {v : Value} {Q : Unit → Shared → Prop} (h : HoldC (wpAny (model prog w) A (bindName env n v) Q E s)) : wpAny (model prog w) A (bindName env n v) Q E s := h.h
theorem x_hold8 {vs : List Value} {Q : Value → Shared → Prop} (h : HoldC (wpAny (model prog w) A (newTuple vs) Q E s)) : wpAny (model prog w) A (newTuple vs) Q E s := h.h
theorem x_hold9 {env : Env} {n : Str} {Q : Value → Shared → Prop} (h : HoldC (wpAny (model prog w) A (loadName env n) Q E s)) : wpAny (model prog w) A (loadName env n) Q E s := h.h
end
/-- what cmp_to_key leaves -/
structure KDone (w : World) (mg : Str → Option Value) (h₀ h' : Heap) (cell aK : Addr) : Prop where
  keep : ∀ b o, h₀.get? b = some o → h'.get? b = some o
  tab : ∃ ps, h'.get? (59 : Addr) = some (tabObj ps)
  ex : ∃ (aN aD b : Addr) (tk v2 : Tok) (k : Nat → Tok) (hs : Nat → Int) (v1 : Tok) (ln : Int) (lt : Tok) (sl sa : Addr) (f c : Nat → Addr) (t1 t2 td : Tok),
    h'.get? aK = some (clsK aK aN b tk v2) ∧ h'.get? aN = some { cls := .type "dict", data := .dict (clsEntries3 k hs v1 (.int ln lt) sl sa f (hashOf w "obj") t1 aD (hashOf w "__doc__") t2) 3 } ∧
    h'.get? aD = some { cls := .type "member_descriptor", data := .fields #[.str "obj" td, .ref aK, .builtin "proto.slot", .builtin "proto.slot#set", rawInt 0] } ∧
    FnIs w 2 qInit [] ((mg "__name__").getD .none) h' (f 0) (c 0) ∧ FnIs w 3 qLt [("mycmp", cell)] ((mg "__name__").getD .none) h' (f 1) (c 1) ∧ (∀ x ∈ [aK, aN, aD, f 0, f 1, c 0, c 1], h₀.get? x = none)
theorem FnIs.keeps {w : World} {i : Nat} {qual : Str} {clos : List (Str × Addr)} {pm : Value} {h h' : Heap} {f c : Addr} (F : FnIs w i qual clos pm h f c) (k : ∀ b o, h.get? b = some o → b = f ∨ b = c → h'.get? b = some o) : FnIs w i qual clos pm h' f c := by
  obtain ⟨name, params, body, sc, dc, ct, oc, vs, t, e1, e2, e3, e4, e5⟩ := F.ex
  exact ⟨name, params, body, sc, dc, ct, oc, vs, t, e1, k _ _ e2 (.inl rfl), k _ _ e3 (.inr rfl), e4, e5⟩
theorem FnIs.off {w : World} {i : Nat} {qual : Str} {clos : List (Str × Addr)} {pm : Value} {h : Heap} {f c n : Addr} {l : List DictEntry} {ne : Nat} (F : FnIs w i qual clos pm h f c) (hn : h.get? n = some (dictN l ne)) : FnIs w i qual clos pm (hide [n] h) f c := by
  refine F.keeps fun b o e hb => ?_
  rw [hide_out]
  · exact e
  · intro hm
    rw [List.mem_singleton.mp hm, hn] at e
    cases e
    obtain ⟨name, params, body, sc, dc, ct, oc, vs, t, e1, e2, e3, e4, e5⟩ := F.ex
    rw [List.mem_singleton.mp hm] at hb
    rcases hb with hb | hb
    · rw [← hb, hn] at e2; exact absurd (Value.type.inj (congrArg Obj.cls (Option.some.inj e2))) (by decide)
    · rw [← hb, hn] at e3; cases e3; cases e4
theorem n_tuple {prog : Program} {w : World} {A : Around} {E : Value → Shared → Prop} {h : Heap} {g : Array GenState} {d : Drawn} {t : Nat} {os : OsState} {h₀ : Heap} {news : List (Addr × Obj)} {vs : List Value} {Q : Value → Shared → Prop} (D : PySem.W.X.Mem h₀ h [] news) (hv : vs = [.type "object"]) (hq : ∀ a h', PySem.W.X.Mem h₀ h' [] ((a, { cls := .type "tuple", data := .seq #[.type "object"] 0 }) :: news) → Q (.ref a) ⟨h', g, d, t, os⟩) :
    wpAny (model prog w) A (newTuple vs) Q E ⟨h, g, d, t, os⟩ := by
  subst hv
  exact wpAny_newTuple (s := ⟨h, g, d, t, os⟩) (hq _ _ (D.alloc (o := { cls := .type "tuple", data := .seq #[.type "object"] 0 }) rfl)) (Nat.le_of_ble_eq_true rfl)
theorem n_mkText {prog : Program} {w : World} {A : Around} {E : Value → Shared → Prop} {h : Heap} {g : Array GenState} {d : Drawn} {t : Nat} {os : OsState} {x : Str} {Q : Value → Shared → Prop} (hq : Q (.str x t) ⟨h, g, d, t + 1, os⟩) : wpAny (model prog w) A (mkText x) Q E ⟨h, g, d, t, os⟩ := wpAny_mkText (s := ⟨h, g, d, t, os⟩) hq
theorem tx_getitem : typeLookup (.type "dict") "__getitem__" = pure (some (.builtin "dict.__getitem__")) := by rw [typeLookup_type, builtinLookup_eq_fast]; kernel_rfl
set_option maxHeartbeats 8000000 in
theorem cls_exec (w : World) {A : Around} {E : Value → Shared → Prop} {h : Heap} {g : Array GenState} {d : Drawn} {t : Nat} {os : OsState} {Q : Flow → Shared → Prop} {loose : List Str} {mean : ExcName → Option Value} {mg mb : Str → Option Value} {st : Stmt} {sc : Scope} {L : Addr} {h₀ : Heap}
    (hst : clsStmt (hd.heap_1 w.params) = some st) (hsc : ctkScope (hd.heap_1 w.params) = some sc) (X : (hd.heap_1 w.params).In h₀) (T : Top topProg loose mean mg mb h₀) (C1 : CodeHd h₀ 63 59) (D : PySem.W.X.Mem h₀ h [] [(59, tabObj #[])]) (hdep : A.depth < recursionLimit)
    (hret : ∀ aK h' t', KDone w mg h₀ h' (L + 1) aK → wpAny (model prog w) A (bindName (envOfC (Str.ofString "cmp_to_key") sc L 64 (.ref 63)) (Str.ofString "K") (.ref aK)) (fun _ s' => Q .next s') E ⟨h', g, d, t', os⟩) :
    wpAny (model prog w) A (exec st (envOfC (Str.ofString "cmp_to_key") sc L 64 (.ref 63))) Q E ⟨h, g, d, t, os⟩ := by
  have eb : clsStmt (hd.heap_1 w.params) = some _ := rfl
  have es : ctkScope (hd.heap_1 w.params) = some _ := rfl
  obtain rfl := Option.some.inj (hst.symm.trans eb)
  obtain rfl := Option.some.inj (hsc.symm.trans es)
  clear eb es hst hsc
  obtain ⟨b1, b2⟩ := tx_boot T.builtins
  have nB := T.b.keeps (mem_keep D)
  have nG := T.g.keeps (mem_keep D)
  have hg1 : mg "object" = none := mg_none_of X T.g (by k_is)
  obtain ⟨vn, hg2⟩ : ∃ v, mg "__name__" = some v := ⟨_, mg_of X T.g (by k_is)⟩
  dsimp only
  rw [arm_exec_ClassDef]
  (with_reducible refine wpAny_bind ?_); (wp_delta); (with_reducible refine wpAny_pure ?_); (with_reducible refine wpAny_bind ?_); (with_reducible refine wpAny_standAt ?_); (with_reducible refine wpAny_bind ?_); (wp_delta); (with_reducible refine wpAny_bind ?_); ((with_reducible refine l_nsB ?_ (by assumption) (by assumption) ?_); (focus rfl)); (wp_delta); (with_reducible refine wpAny_pure ?_); (with_reducible refine wpAny_bind ?_); (with_reducible refine wpAny_holding ?_); (with_reducible refine wpAny_bind ?_); (wp_delta); (with_reducible refine wpAny_bind ?_); (wp_delta); (with_reducible refine wpAny_bind ?_); ((with_reducible refine ite_f ?_ ?_); (focus (first | rfl | assumption))); (wp_delta); (with_reducible refine wpAny_bind ?_); (with_reducible refine wpAny_standAt ?_); ((with_reducible refine ite_f ?_ ?_); (focus (first | rfl | assumption))); (wp_delta); ((with_reducible refine ite_f ?_ ?_); (focus (first | rfl | assumption))); (wp_delta); (wp_delta); (with_reducible refine wpAny_bind ?_); ((with_reducible refine l_nsG ?_ (by assumption) (by assumption) ?_); (focus rfl)); (with_reducible refine wpAny_bind ?_); ((with_reducible refine l_nsB ?_ (by assumption) (by assumption) ?_); (focus rfl)); (with_reducible refine wpAny_pure ?_); ((with_reducible refine ite_f ?_ ?_); (focus (first | rfl | assumption))); (with_reducible refine wpAny_bind ?_); (with_reducible refine wpAny_pure ?_); (with_reducible refine wpAny_bind ?_); (with_reducible refine wpAny_holding ?_); (wp_delta); (with_reducible refine wpAny_pure ?_); (with_reducible refine wpAny_pure ?_); (with_reducible refine wpAny_bind ?_); (with_reducible refine wpAny_pure ?_); (with_reducible refine wpAny_holding ?_); ((with_reducible refine ite_t ?_ ?_); (focus (first | rfl | assumption))); (with_reducible refine wpAny_bind ?_); (wp_delta); (with_reducible refine wpAny_pure ?_); (with_reducible refine wpAny_bind ?_); (with_reducible refine wpAny_pure ?_); (with_reducible refine wpAny_pure ?_); (with_reducible refine wpAny_bind ?_); (with_reducible refine wpAny_standAt ?_); (with_reducible refine wpAny_holding ?_); (wp_delta); (with_reducible refine wpAny_bind ?_); (with_reducible refine x_hold8 ?_)
  refine ⟨n_tuple D rfl ?_⟩
  intro b h1 D1
  (with_reducible refine wpAny_bind ?_); (wp_delta); (wp_delta); (wp_delta); (wp_delta); (with_reducible refine wpAny_bind ?_); (with_reducible refine wpAny_bind ?_); (wp_delta); (with_reducible refine wpAny_pure ?_); ((with_reducible refine ite_t ?_ ?_); (focus (first | rfl | assumption))); ((with_reducible refine wpAny_ite_false ?_ ?_); (focus rfl)); (with_reducible refine wpAny_pure ?_); (wp_delta); (wp_delta); (with_reducible refine wpAny_pure ?_); (wp_delta); (with_reducible refine wpAny_bind ?_); (with_reducible refine l_eq tn_typeObj ?_); (with_reducible refine wpAny_bind ?_); (wp_delta); (with_reducible refine wpAny_pure ?_); ((with_reducible refine ite_t ?_ ?_); (focus (first | rfl | assumption))); (with_reducible refine wpAny_bind ?_); (wp_delta); (wp_delta); (wp_delta); (wp_delta); (with_reducible refine wpAny_bind ?_); (with_reducible refine wpAny_bind ?_); (with_reducible refine l_eq tn_typeObj ?_); (with_reducible refine wpAny_bind ?_); (with_reducible refine l_eq tn_sub3 ?_); ((with_reducible refine ite_t ?_ ?_); (focus (first | rfl | assumption))); (with_reducible refine wpAny_pure ?_); (wp_delta); (wp_delta); (with_reducible refine wpAny_pure ?_); (with_reducible refine wpAny_bind ?_); (with_reducible refine n_mkText ?_); ((with_reducible refine ite_f ?_ ?_); (focus (first | rfl | assumption))); (with_reducible refine wpAny_bind ?_); (with_reducible refine wpAny_pure ?_); (with_reducible refine wpAny_holding ?_); (with_reducible refine wpAny_bind ?_); (wp_delta); (with_reducible refine wpAny_bind ?_); (with_reducible refine n_mkText ?_); (with_reducible refine x_hold1 ?_)
  refine ⟨prep_getF ?_⟩
  intro a h2 t2 DA
  have D2 := mem_grow D1 (mem_keep DA)
  have hpa := DA.at 0 _ _ rfl
  (with_reducible refine wpAny_bind ?_); (with_reducible refine m_holdC ?_)
  refine ⟨prep_call hpa D2 ?_⟩
  intro n h3 D3
  have hns : (n == sysModules) = false := by
    have hn : 59 < n := (List.pairwise_cons.mp D3.ord).1 59 (by simp)
    exact beq_false_of_ne (fun e => by rw [e] at hn; exact absurd hn (by decide))
  (with_reducible refine wpAny_bind ?_); (wp_delta); ((with_reducible refine ite_f ?_ ?_); (focus (first | rfl | assumption))); (with_reducible refine wpAny_pure ?_); (with_reducible refine wpAny_bind ?_); (wp_delta); (with_reducible refine wpAny_bind ?_); (wp_delta); (with_reducible refine wpAny_bind ?_); ((with_reducible refine' n_part ?D116 0 ?hi116 ?_); (case D116 => assumption); (case hi116 => rfl)); (with_reducible refine wpAny_pure ?_); (with_reducible refine l_eq tx_getitem ?_); ((with_reducible refine ite_f ?_ ?_); (focus (first | rfl | assumption))); (with_reducible refine wpAny_holding ?_); ((with_reducible refine ite_f ?_ ?_); (focus (first | rfl | assumption))); (with_reducible refine wpAny_bind ?_); (with_reducible refine wpAny_pure ?_); ((with_reducible refine ite_f ?_ ?_); (focus (first | rfl | assumption))); (with_reducible refine wpAny_bind ?_); (with_reducible refine wpAny_pure ?_); (with_reducible refine wpAny_bind ?_); (with_reducible refine x_hold2 ?_)
  refine ⟨n_classCode D3 C1 rfl 2 rfl ?_⟩
  intro c P h4 t4 C4 D4
  simp only [List.set_cons_zero, List.set_cons_succ] at D4
  (with_reducible refine wpAny_bind ?_); (with_reducible refine x_hold3 ?_)
  have oP := D4.ord
  simp only [List.map_cons, List.map_nil, List.pairwise_cons, List.mem_cons, List.not_mem_nil, or_false, forall_eq_or_imp, forall_eq] at oP
  obtain ⟨⟨oPn, oPb, oP59⟩, ⟨onb, on59⟩, ob59, _⟩ := oP
  have fP := D4.nw _ (.head _)
  have fn := D4.nw _ (.tail _ (.head _))
  have fb := D4.nw _ (.tail _ (.tail _ (.head _)))
  have f59 := D4.nw _ (.tail _ (.tail _ (.tail _ (.head _))))
  have k4 := base_keep (S := [P, n, 59]) (mem_keep D4) (fun a ha => by
    simp only [List.mem_cons, List.not_mem_nil, or_false] at ha
    rcases ha with ha | ha | ha <;> rw [ha]
    · exact fP.2
    · exact fn.2
    · exact f59.2)
  have hb4 : (hide [P, n, 59] h4).get? b = some { cls := .type "tuple", data := .seq #[.type "object"] 0 } := by
    rw [hide_out]
    · exact fb.1
    · intro hb
      simp only [List.mem_cons, List.not_mem_nil, or_false] at hb
      rcases hb with hb | hb | hb
      · exact absurd hb (Nat.ne_of_lt oPb)
      · exact absurd hb (Nat.ne_of_lt onb)
      · exact absurd hb (Nat.ne_of_gt ob59)
  have C5 := code_base (S := [P, n, 59]) C4 (fun a ha o ho => by
    simp only [List.mem_cons, List.not_mem_nil, or_false] at ha
    rcases ha with ha | ha | ha <;> rw [ha] at ho
    · rw [fP.1] at ho; cases ho; intro e; cases e
    · rw [fn.1] at ho; cases ho; intro e; exact absurd (Value.type.inj e) (by decide)
    · rw [f59.1] at ho; cases ho; intro e; cases e)
  have D4' := mem_base [P, n, 59] (h := h4) (news := [(P, _), (n, _), (59, _)]) (fun p hp => by
    simp only [List.mem_cons, List.not_mem_nil, or_false] at hp
    rcases hp with rfl | rfl | rfl <;> simp) (fun p hp => by
    simp only [List.mem_cons, List.not_mem_nil, or_false] at hp
    rcases hp with rfl | rfl | rfl
    · exact fP.1
    · exact fn.1
    · exact f59.1) (by
    simp only [List.map_cons, List.map_nil, List.pairwise_cons, List.mem_cons, List.not_mem_nil, or_false, forall_eq_or_imp, forall_eq, false_implies, implies_true, List.Pairwise.nil, and_true]
    exact ⟨⟨oPn, oP59⟩, on59⟩)
  have T4 := T.keeps k4
  generalize hide [P, n, 59] h4 = g4 at D4' k4 hb4 C5 T4
  replace D4 := D4'
  clear D4' C4 fP fn fb f59
  replace T := T4
  refine ⟨n_builtinsFor T (mem_keep D4) rfl ?_⟩
  have nG4 := T.g.keeps (mem_keep D4)
  (with_reducible refine wpAny_bind ?_); (wp_delta); (with_reducible refine wpAny_bind ?_); ((with_reducible refine l_nsG ?_ (by assumption) (by assumption) ?_); (focus rfl))
  refine n_alloc D4 rfl ?_
  intro fr h5 D5
  have nB5 := T.b.keeps (mem_keep D5)
  have nG5 := T.g.keeps (mem_keep D5)
  (with_reducible refine wpAny_bind ?_); (wp_delta); (with_reducible refine wpAny_bind ?_); (wp_delta); (wp_delta); (wp_delta); (wp_delta); (with_reducible refine wpAny_bind ?_); ((with_reducible refine ite_f ?_ ?_); (focus (first | rfl | assumption))); (with_reducible refine wpAny_pure ?_); (wp_delta); (wp_delta); (with_reducible refine wpAny_bind ?_); ((with_reducible refine ite_f ?_ ?_); (focus (first | rfl | assumption))); (with_reducible refine wpAny_pure ?_); (wp_delta); (wp_delta); (with_reducible refine wpAny_bind ?_); ((with_reducible refine ite_f ?_ ?_); (focus (first | rfl | assumption))); (with_reducible refine wpAny_pure ?_); (wp_delta); (wp_delta); (with_reducible refine wpAny_bind ?_); ((with_reducible refine ite_f ?_ ?_); (focus (first | rfl | assumption))); (with_reducible refine wpAny_pure ?_); (wp_delta); (wp_delta); (with_reducible refine wpAny_bind ?_); ((with_reducible refine ite_f ?_ ?_); (focus (first | rfl | assumption))); (with_reducible refine wpAny_pure ?_); (wp_delta); (wp_delta); (with_reducible refine wpAny_bind ?_); ((with_reducible refine ite_f ?_ ?_); (focus (first | rfl | assumption))); (with_reducible refine wpAny_pure ?_); (wp_delta); (wp_delta); (with_reducible refine wpAny_bind ?_); ((with_reducible refine ite_f ?_ ?_); (focus (first | rfl | assumption))); (with_reducible refine wpAny_pure ?_); (wp_delta); (wp_delta); (with_reducible refine wpAny_bind ?_); ((with_reducible refine ite_f ?_ ?_); (focus (first | rfl | assumption))); (with_reducible refine wpAny_pure ?_); (wp_delta); (wp_delta); (with_reducible refine wpAny_bind ?_); ((with_reducible refine ite_f ?_ ?_); (focus (first | rfl | assumption))); (with_reducible refine wpAny_pure ?_); (wp_delta); (wp_delta); (with_reducible refine wpAny_bind ?_); ((with_reducible refine ite_t ?_ ?_); (focus (first | rfl | assumption))); (with_reducible refine wpAny_bind ?_); (wp_delta); (with_reducible refine wpAny_pure ?_); (with_reducible refine wpAny_pure ?_); (wp_delta); (wp_delta); (with_reducible refine wpAny_pure ?_); (with_reducible refine wpAny_pure ?_); (with_reducible refine wpAny_holding ?_); (with_reducible refine wpAny_bind ?_); (with_reducible refine x_hold4 ?_)
  refine ⟨n_enter T (mem_keep D5) hdep ?_⟩
  (with_reducible refine wpAny_bind ?_); (with_reducible refine wpAny_onRaise ?_); (with_reducible refine wpAny_bind ?_); (wp_delta); ((with_reducible refine ite_f ?_ ?_); (focus (first | rfl | assumption))); (wp_delta); ((with_reducible refine ite_f ?_ ?_); (focus (first | rfl | assumption))); (with_reducible refine wpAny_bind ?_); (wp_delta); (with_reducible refine wpAny_bind ?_); ((with_reducible refine' n_load ?D210 2 ?hi210 ?_); (case D210 => assumption); (case hi210 => rfl)); ((with_reducible refine ite_t ?_ ?_); (focus (first | rfl | assumption))); ((with_reducible refine' n_get ?D212 2 ?hi212 ?hv212 ?_); (case D212 => assumption); (case hi212 => rfl); (case hv212 => rfl)); (wp_delta); (wp_delta); (with_reducible refine wpAny_bind ?_); ((with_reducible refine l_nsG ?_ (by assumption) (by assumption) ?_); (focus rfl)); (with_reducible refine wpAny_pure ?_); (with_reducible refine wpAny_bind ?_); (with_reducible refine x_hold5 ?_)
  refine ⟨n_storeA (l := []) (k := 0) D5 2 rfl rfl rfl (by kernel_rfl) (fun _ _ => by kernel_rfl) ?_⟩
  intro h6 u6 D6
  simp only [List.set_cons_zero, List.set_cons_succ] at D6
  (with_reducible refine wpAny_bind ?_); (with_reducible refine n_mkText ?_); (with_reducible refine wpAny_bind ?_); (with_reducible refine x_hold5 ?_)
  refine ⟨n_storeA D6 2 rfl rfl rfl (by kernel_rfl) (fun _ _ => by kernel_rfl) ?_⟩
  intro h7 u7 D7
  simp only [List.set_cons_zero, List.set_cons_succ] at D7
  (with_reducible refine wpAny_bind ?_); (wp_delta); (with_reducible refine wpAny_bind ?_); (with_reducible refine wpAny_fresh' ?_); (with_reducible refine wpAny_pure ?_); (with_reducible refine wpAny_bind ?_); (with_reducible refine x_hold5 ?_)
  refine ⟨n_storeA D7 2 rfl rfl rfl (by kernel_rfl) (fun _ _ => by kernel_rfl) ?_⟩
  intro h8 u8 D8
  simp only [List.set_cons_zero, List.set_cons_succ, List.nil_append, List.cons_append] at D8
  (with_reducible refine wpAny_pure ?_); (with_reducible refine wpAny_bind ?_); (with_reducible refine x_hold6 ?_)
  refine ⟨wpAny_run (codeAny_body (by rfl) (by rfl) ?_)⟩
  have oP := D8.ord
  simp only [List.map_cons, List.map_nil, List.pairwise_cons, List.mem_cons, List.not_mem_nil, or_false, forall_eq_or_imp, forall_eq] at oP
  obtain ⟨_, ⟨oPn8, oP598⟩, on598, _⟩ := oP
  have fP8 := D8.nw _ (.tail _ (.head _))
  have fn8 := D8.nw _ (.tail _ (.tail _ (.head _)))
  have ffr8 := D8.nw _ (.head _)
  have f598 := D8.nw _ (.tail _ (.tail _ (.tail _ (.head _))))
  have t598 : ∃ ps, (hide [P, n] h8).get? (59 : Addr) = some (tabObj ps) := ⟨_, by
    rw [hide_out]
    · exact f598.1
    · intro hb
      simp only [List.mem_cons, List.not_mem_nil, or_false] at hb
      rcases hb with hb | hb
      · exact absurd hb (Nat.ne_of_lt oP598)
      · exact absurd hb (Nat.ne_of_lt on598)⟩
  have k8 := base_keep (S := [P, n]) (mem_keep D8) (fun a ha => by
    simp only [List.mem_cons, List.not_mem_nil, or_false] at ha
    rcases ha with ha | ha <;> rw [ha]
    · exact fP8.2
    · exact fn8.2)
  have C8 := code_base (S := [P, n]) (C5.keeps (mem_keep D8)) (fun a ha o ho => by
    simp only [List.mem_cons, List.not_mem_nil, or_false] at ha
    rcases ha with ha | ha <;> rw [ha] at ho
    · rw [fP8.1] at ho; cases ho; intro e; cases e
    · rw [fn8.1] at ho; cases ho; intro e; exact absurd (Value.type.inj e) (by decide))
  have D9 := mem_base [P, n] (h := h8) (news := [(P, _), (n, _)]) (fun p hp => by
    simp only [List.mem_cons, List.not_mem_nil, or_false] at hp
    rcases hp with rfl | rfl <;> simp) (fun p hp => by
    simp only [List.mem_cons, List.not_mem_nil, or_false] at hp
    rcases hp with rfl | rfl
    · exact fP8.1
    · exact fn8.1) (by
    simp only [List.map_cons, List.map_nil, List.pairwise_cons, List.mem_cons, List.not_mem_nil, or_false, forall_eq_or_imp, forall_eq, false_implies, implies_true, List.Pairwise.nil, and_true]
    exact oPn8)
  show wpAny _ _ (execs _ (clsEnv _ n c fr (L + 1))) _ _ _
  refine cls_bodyF w rfl rfl (T.keeps k8) C8 D9 ?_
  intro h9 t9 k hs v1 ts sl f cc ne keep9 hN hSl hF0 hF1 hfn hfr9
  (with_reducible refine wpAny_bind ?_); (with_reducible refine wpAny_onRaise ?_); (with_reducible refine wpAny_bind ?_); (wp_delta); (wp_delta); (with_reducible refine wpAny_bind ?_); (with_reducible refine n_mkText ?_); (wp_delta); (with_reducible refine wpAny_pure ?_); (with_reducible refine wpAny_bind ?_); (wp_delta); (wp_delta); (with_reducible refine wpAny_bind ?_)
  have kk : ∀ b o, h₀.get? b = some o → h9.get? b = some o := fun b o e => keep9 _ _ (k8 _ _ (k4 _ _ e))
  have n0 : h₀.get? n = none := by
    cases q : h₀.get? n with
    | none => rfl
    | some o => have := k4 _ _ q; rw [fn8.2] at this; cases this
  have k10 := base_keep (S := [n]) kk (fun a ha => by rw [List.mem_singleton.mp ha]; exact n0)
  have D10 := mem_base [n] (h := h9) (news := [(n, _)]) (fun p hp => by rw [List.mem_singleton.mp hp]; simp) (fun p hp => by rw [List.mem_singleton.mp hp]; exact hN) (by simp)
  have off : ∀ a o, h9.get? a = some o → o.cls ≠ .type "dict" → (hide [n] h9).get? a = some o := fun a o e hc => by
    rw [hide_out]
    · exact e
    · intro hm
      rw [List.mem_singleton.mp hm, hN] at e
      cases e
      exact hc rfl
  refine n_alloc D10 rfl ?_
  intro sa h10 D11
  (with_reducible refine wpAny_pure ?_); (with_reducible refine wpAny_bind ?_); (with_reducible refine x_hold5 ?_)
  refine ⟨n_storeA D11 1 rfl rfl rfl (by kernel_rfl) (fun _ _ => by kernel_rfl) ?_⟩
  intro h12 u12 D12
  simp only [List.set_cons_zero, List.set_cons_succ] at D12
  (with_reducible refine wpAny_pure ?_); ((with_reducible refine ite_f ?_ ?_); (focus (first | rfl | assumption))); (with_reducible refine wpAny_bind ?_); (with_reducible refine m_holdC ?_)
  have k12 : ∀ b o, (hide [n] h9).get? b = some o → h12.get? b = some o := mem_keep D12
  have hb9 := keep9 _ _ (k8 _ _ hb4)
  have hf12 : ∀ i < 6, ∃ o, h12.get? (f i) = some o ∧ o.cls = .type "function" := fun i hi => by
    obtain ⟨o, e, c⟩ := hfn i hi
    exact ⟨o, k12 _ _ (off _ _ e (by rw [c]; exact fun e => absurd (Value.type.inj e) (by decide))), c⟩
  have hno12 : ∀ h', (∀ b o, h12.get? b = some o → h'.get? b = some o) → ∀ C, Looks (model prog w) h' (opaqueClassAbove (.ref C)) none := fun h' kp C => looks_opaque (X.keeps fun b o e => kp _ _ (k12 _ _ (k10 _ _ e))) (by k_is)
  have hn12 := D12.at 1 _ _ rfl
  have hb12 := k12 _ _ (off _ _ hb9 fun e => absurd (Value.type.inj e) (by decide))
  have hsl12 := k12 _ _ (off _ _ hSl fun e => absurd (Value.type.inj e) (by decide))
  have Rd := ClsReady.mk (prog := prog) (w := w) (k := fun i => if i = 11 then u12 else k i) (hs := fun i => if i = 11 then hashOf w "__static_attributes__" else hs i) (v1 := v1) (sl := sl) (sa := sa) (f := f) hb12 hn12 hns hsl12 hf12 ⟨_, D12.at 0 _ _ rfl, rfl⟩ hno12
  refine ⟨ty_call Rd ?_⟩
  intro aK aN aD h13 t13 M
  have up : ∀ b o, h₀.get? b = some o → h12.get? b = some o := fun b o e => k12 _ _ (k10 _ _ e)
  have fr1 : ∀ x, h12.get? x = none → h₀.get? x = none := fun x e => by
    cases q : h₀.get? x with
    | none => rfl
    | some o => have := up _ _ q; rw [e] at this; cases this
  have fr2 : ∀ x, (hide [P, n] h8).get? x = none → h₀.get? x = none := fun x e => by
    cases q : h₀.get? x with
    | none => rfl
    | some o => have := k8 _ _ (k4 _ _ q); rw [e] at this; cases this
  obtain ⟨s1, s2, hNs⟩ := M.ns
  obtain ⟨sd, hDs⟩ := M.desc
  have KD : KDone w mg h₀ h13 (L + 1) aK := by
    refine ⟨fun b o e => M.keep _ _ (up _ _ e), t598.imp fun ps e => M.keep _ _ (k12 _ _ (off _ _ (keep9 _ _ e) (fun e => by cases e))), aN, aD, b, _, _, _, _, _, _, _, sl, sa, f, cc, s1, s2, sd, M.cls, hNs, hDs, (hF0.off hN).keeps fun b o e _ => M.keep _ _ (k12 _ _ e), (hF1.off hN).keeps fun b o e _ => M.keep _ _ (k12 _ _ e), fun x hx => ?_⟩
    simp only [List.mem_cons, List.not_mem_nil, or_false] at hx
    rcases hx with hx | hx | hx | hx | hx | hx | hx <;> rw [hx]
    · exact fr1 _ (M.fresh aK (by simp))
    · exact fr1 _ (M.fresh aN (by simp))
    · exact fr1 _ (M.fresh aD (by simp))
    · exact fr2 _ (hfr9 (f 0) (by simp))
    · exact fr2 _ (hfr9 (f 1) (by simp))
    · exact fr2 _ (hfr9 (cc 0) (by simp))
    · exact fr2 _ (hfr9 (cc 1) (by simp))
  have hend := hret aK h13 t13 KD
  clear M KD Rd
  (with_reducible refine wpAny_pure ?_); (with_reducible refine wpAny_bind ?_); (wp_delta); (with_reducible refine wpAny_pure ?_); (with_reducible refine wpAny_bind ?_); (with_reducible refine wpAny_standAt ?_); (with_reducible refine wpAny_bind ?_); (with_reducible refine x_hold7 ?_)
  exact ⟨wpAny_mono hend (fun _ _ hq => wpAny_pure hq) fun _ _ x => x⟩
end
section
open PySem PySem.W PyProof.Rows PySem.Calls
set_option maxRecDepth 100000





section
variable {w : World} {f : Addr} {vs : List Value} {D U : Nat} {s : Shared} {Post : Heap → Value → Prop} {name qual : Str} {params : Arguments} {body : List Stmt} {scope : Scope} {dV kV doc pm cdv ct oc : Value} {an od : Option Addr} {osl : Array (Option Value)}
theorem tcall_cells {binds : List (Str × Value)} {g : Heap} {nodes : List (Addr × Obj)} (G : Ground w g s.heap nodes) (hgs : g.objs.size = s.heap.objs.size)
    (ho : (hd.heap_1 w.params).lookup f = some ⟨oc, od, .func (fnOf name qual params body scope dV kV doc pm an cdv ct), osl⟩) (hcd : codeIn (hd.heap_1 w.params) cdv qual = true)
    (hbind : BindsTo s (fnOf name qual params body scope dV kV doc pm an cdv ct) ⟨vs, []⟩ binds) (hkind : (binds.all fun y => scope.names.lookup y.1 == some .local || scope.names.lookup y.1 == some .cell) = true)
    (hnd : ((cellsFrom 0 scope.names []).map (·.1)).Nodup)
    (hco : scope.isCoroutine = false) (hgen : scope.isGenerator = false) (hk : scope.kind = .function)
    (walk : ∀ (loose : List Str) (mean : ExcName → Option Value) (mg mb : Str → Option Value) (L' : Addr) (h₁ : Heap) (tk : Nat) (cells : List (Addr × Obj)),
      Fr g L' h₁ (bindL (envOfC qual scope L' f cdv).kindOf binds fun _ => none) → News g L' h₁ (cells ++ nodes) → s.heap.objs.size ≤ L' →
      CellsAre (bindC (envOfC qual scope L' f cdv).kindOf binds fun _ => none) (cellsFrom (L' + 1) scope.names []) cells → (hd.heap_1 w.params).In g → Top topProg loose mean mg mb g →
      wpAny (model prog w) ((room D U).deeper (envOfC qual scope L' f cdv)) (execs body (envOfC qual scope L' f cdv))
        (fun fl s' => PEnd g s Post (match fl with | .ret v => v | _ => .none) s') (fun _ _ => False) { s with heap := h₁, toks := tk }) (hD : D < 1000 := by decide) :
    TCall w (.ref f) vs D U s g Post := by
  intro A Q E hh hd hu hret
  obtain ⟨X, loose, mean, mg, mb, T⟩ := G.gd
  have Xs := X.keeps G.sub
  refine wpAny_room hh hd hu (wpAny_call ?_)
  refine codeAny_call_function (fd := fnOf name qual params body scope dV kV doc pm an cdv ct) (body := body) (by show D < recursionLimit; exact hD) (Xs _ _ ho) rfl hco hgen rfl (codeRec_of Xs hcd) (hbind _ _ _ _ ?_)
  refine wpAny_newFunctionEnv_cells hk (kindsX hkind _) fun env' he s' x => ?_
  subst he
  have st := x.toInCall.keep
  refine ⟨(T.nolimit.keeps G.sub).keeps st, codeAny_func ?_⟩
  obtain ⟨h₁, tk, rfl, _⟩ := x.done
  have hnd' := cellsFrom_names scope.names 0 (s.heap.objs.size + 1) [] [] rfl ▸ hnd
  obtain ⟨cells, NC, Y⟩ := Cl.news (h₀ := g) (L := s.heap.objs.size) (Nat.le_of_eq hgs) fun n c hm => ⟨x.cell n c (lookup_of_mem_nodup hnd' hm), x.above n c hm⟩
  refine wpAny_mono (walk loose mean mg mb s.heap.objs.size h₁ tk cells ⟨x.toInCall.ns, fun b o e => st _ _ (G.sub _ _ e), G.size⟩ (fun p hp => ?_) (Nat.le_refl _) Y X T) (fun fl s' hl => ?_) fun _ _ z => z.elim
  · rcases List.mem_append.mp hp with hp | hp
    · exact NC p hp
    · exact ⟨st _ _ (G.at_ p hp).1, Nat.ne_of_lt (Heap.lt_size (G.at_ p hp).1), (G.at_ p hp).2⟩
  · obtain ⟨L2, m2, h2, tk2, e, F2, hp⟩ := hl
    subst e
    exact hret _ _ _ (fun b o e => F2.keep _ _ e) (hgs ▸ Nat.le_trans F2.above (Nat.le_of_lt F2.ns.lt)) hp
end
/-- what cmp_to_key(f) gives back -/
structure KPost (w : World) (g : Heap) (f : Addr) (h' : Heap) (v : Value) : Prop where
  tab : ∃ ps, h'.get? (59 : Addr) = some (tabObj ps)
  ex : ∃ (aK cell : Addr) (oc : Obj) (pm : Value) (aN aD b : Addr) (tk v2 : Tok) (k : Nat → Tok) (hs : Nat → Int) (v1 : Tok) (ln : Int) (lt : Tok) (sl sa : Addr) (fn c : Nat → Addr) (t1 t2 td : Tok),
    v = .ref aK ∧ h'.get? cell = some oc ∧ oc.data = .cell (some (.ref f)) ∧ h'.get? aK = some (clsK aK aN b tk v2) ∧ h'.get? aN = some { cls := .type "dict", data := .dict (clsEntries3 k hs v1 (.int ln lt) sl sa fn (hashOf w "obj") t1 aD (hashOf w "__doc__") t2) 3 } ∧
    h'.get? aD = some { cls := .type "member_descriptor", data := .fields #[.str "obj" td, .ref aK, .builtin "proto.slot", .builtin "proto.slot#set", rawInt 0] } ∧
    FnIs w 2 qInit [] pm h' (fn 0) (c 0) ∧ FnIs w 3 qLt [("mycmp", cell)] pm h' (fn 1) (c 1) ∧ (∀ x ∈ [cell, aK, aN, aD, fn 0, fn 1, c 0, c 1], g.get? x = none)
set_option maxHeartbeats 8000000 in
theorem ctk_c (w : World) (f : Addr) (s : Shared) (g : Heap) (G : Ground w g s.heap [(59, tabObj #[])]) (hgs : g.objs.size = s.heap.objs.size) (C1 : CodeHd g 63 59) :
    TCall w (.ref 64) [.ref f] 900 8000 s g (KPost w g f) := by
  refine tcall_cells (binds := [(Str.ofString "mycmp", .ref f)]) G hgs (by k_is) (by k_is) (BindsTo.of_eq rfl) (by exact rfl) (by decide +kernel) rfl rfl rfl ?_
  intro loose mean mg mb L' h₁ tk cells F0 N0 hsL Y0 X0 T0
  k_cells Y0
  simp only [List.cons_append, List.nil_append] at N0
  (try dsimp only); (try k_fold); (repeat' (first | (k_unfold; (try dsimp only)) | (k_end; wrow_close) | ((with_reducible show wpAny _ _ (eval (PySem.Expr.Name _ _) _) _ _ _); (k_here; (with_reducible show wpAny _ _ (eval (Expr.Name _ _) (compEnvC _ _ _ (compEnvC _ _ _ _))) _ _ _); k_dflt (first   | (refine' lcf_cell (by k_asm) (by rfl) (by k_mem) (by k_asm) ?_ (by rfl) (by with_unfolding_all rfl); k_whole)   | (refine' lcf_free (by k_asm) (by rfl) (by k_mem) (by k_asm) ?_ (by rfl) (by with_unfolding_all rfl); k_whole)))) | walk1 | (dsimp only; (first | ((with_reducible show wpAny _ _ (eval (PySem.Expr.Name _ _) _) _ _ _); (k_here; (with_reducible show wpAny _ _ (eval (Expr.Name _ _) (compEnvC _ _ _ (compEnvC _ _ _ _))) _ _ _); k_dflt (first   | (refine' lcf_cell (by k_asm) (by rfl) (by k_mem) (by k_asm) ?_ (by rfl) (by with_unfolding_all rfl); k_whole)   | (refine' lcf_free (by k_asm) (by rfl) (by k_mem) (by k_asm) ?_ (by rfl) (by with_unfolding_all rfl); k_whole)))) | walk1)) | (leave1; (try dsimp only)) | fail "no step"))
  obtain ⟨oC, dC, N0⟩ : ∃ oC, oC.data = .cell (some (.ref f)) ∧ News g L' h₁ [(L' + 1, oC), (59, tabObj #[])] := ⟨_, by assumption, N0⟩
  have e59 := N0 _ (.tail _ (.head _))
  have kb := base_keep (S := [59]) F0.keep (fun a ha => by rw [List.mem_singleton.mp ha]; exact e59.2.2)
  have D := mem_base [59] (h := h₁) (news := [(59, tabObj #[])]) (fun p hp => by rw [List.mem_singleton.mp hp]; simp) (fun p hp => by rw [List.mem_singleton.mp hp]; exact e59.1) (by simp)
  refine cls_exec w rfl rfl (X0.keeps kb) (T0.keeps kb) (C1.keeps kb) D (Nat.le_of_ble_eq_true rfl) ?_
  intro aK h' t' KD
  refine wpAny_bindName ?_
  refine hideG fun G9 b9 => ?_
  have hL : (59 : Nat) < L' := Nat.lt_of_lt_of_le (Heap.lt_size (G.at_ _ (.head _)).1) hsL
  have up : ∀ b o, b ≠ 59 → h₁.get? b = some o → h'.get? b = some o := fun b o hb e => KD.keep _ _ (by rw [hide_out (by simpa using hb)]; exact e)
  have fr : ∀ x, (hide [59] h₁).get? x = none → g.get? x = none := fun x e => by
    cases q : g.get? x with
    | none => rfl
    | some o => have := kb _ _ q; rw [e] at this; cases this
  obtain ⟨oL, es, ep, eL, r⟩ := F0.ns
  have eh : (hide [59] h₁).get? L' = some oL := by rw [hide_out (by simpa using Nat.ne_of_gt hL)]; exact eL
  have ne : ∀ x, (hide [59] h₁).get? x = none → x ≠ L' := fun x e q => by rw [q, eh] at e; cases e
  have F' : Fr g L' h' _ := ⟨⟨oL, es, ep, up _ _ (Nat.ne_of_gt hL) eL, r⟩, fun b o e => KD.keep _ _ (kb _ _ e), F0.above⟩
  have ec := N0 _ (.head _)
  obtain ⟨aN, aD, b, tk', v2, k, hs, v1, ln, lt, sl, sa, fn, c, t1, t2, td, q1, q2, q3, q4, q5, q6⟩ := KD.ex
  obtain ⟨n0, p0, y0, sc0, dc0, ct0, oc0, vs0, u0, a1, a2, a3, a4, a5⟩ := q4.ex
  obtain ⟨n1, p1, y1, sc1, dc1, ct1, oc1, vs1, u1, b1, b2, b3, b4, b5⟩ := q5.ex
  obtain ⟨ps59, q59⟩ := KD.tab
  have N' : News g L' h' [(aK, clsK aK aN b tk' v2), (aN, { cls := .type "dict", data := .dict (clsEntries3 k hs v1 (.int ln lt) sl sa fn (hashOf w "obj") t1 aD (hashOf w "__doc__") t2) 3 }), (aD, { cls := .type "member_descriptor", data := .fields #[.str "obj" td, .ref aK, .builtin "proto.slot", .builtin "proto.slot#set", rawInt 0] }),
      (fn 0, fnMade n0 qInit p0 y0 sc0 [] dc0 ((mg (Str.ofString "__name__")).getD .none) (c 0) ct0), (c 0, oc0), (fn 1, fnMade n1 qLt p1 y1 sc1 [(Str.ofString "mycmp", L' + 1)] dc1 ((mg (Str.ofString "__name__")).getD .none) (c 1) ct1), (c 1, oc1), (L' + 1, oC), (59, tabObj ps59)] := by
    have r1 := q6 _ (.head _)
    have r2 := q6 _ (.tail _ (.head _))
    have r3 := q6 _ (.tail _ (.tail _ (.head _)))
    have r4 := q6 _ (.tail _ (.tail _ (.tail _ (.head _))))
    have r5 := q6 _ (.tail _ (.tail _ (.tail _ (.tail _ (.head _)))))
    have r6 := q6 _ (.tail _ (.tail _ (.tail _ (.tail _ (.tail _ (.head _))))))
    have r7 := q6 _ (.tail _ (.tail _ (.tail _ (.tail _ (.tail _ (.tail _ (.head _)))))))
    exact fmc ⟨q1, ne _ r1, fr _ r1⟩ (fmc ⟨q2, ne _ r2, fr _ r2⟩ (fmc ⟨q3, ne _ r3, fr _ r3⟩ (fmc ⟨a2, ne _ r4, fr _ r4⟩ (fmc ⟨a3, ne _ r6, fr _ r6⟩ (fmc ⟨b2, ne _ r5, fr _ r5⟩ (fmc ⟨b3, ne _ r7, fr _ r7⟩
      (fmc ⟨up _ _ (Nat.ne_of_gt (Nat.lt_succ_of_lt hL)) ec.1, ec.2.1, ec.2.2⟩ (fmc ⟨q59, e59.2.1, e59.2.2⟩ (List.forall_mem_nil _)))))))))
  clear q1 q2 q3 q4 q5 q6 a2 a3 b2 b3 N0 F0 KD D
  have hne1 : aK ≠ L' := (N' _ (.head _)).2.1
  have hne2 : aN ≠ L' := (N' _ (.tail _ (.head _))).2.1
  have hne3 : aD ≠ L' := (N' _ (.tail _ (.tail _ (.head _)))).2.1
  have hne4 : fn 0 ≠ L' := (N' _ (.tail _ (.tail _ (.tail _ (.head _))))).2.1
  have hne5 : c 0 ≠ L' := (N' _ (.tail _ (.tail _ (.tail _ (.tail _ (.head _)))))).2.1
  have hne6 : fn 1 ≠ L' := (N' _ (.tail _ (.tail _ (.tail _ (.tail _ (.tail _ (.head _))))))).2.1
  have hne7 : c 1 ≠ L' := (N' _ (.tail _ (.tail _ (.tail _ (.tail _ (.tail _ (.tail _ (.head _)))))))).2.1
  refine b9 ?_
  clear b9 G9
  (repeat' (first | (k_unfold; (try dsimp only)) | (k_end; wrow_close) | ((with_reducible show wpAny _ _ (eval (PySem.Expr.Name _ _) _) _ _ _); (k_here; (with_reducible show wpAny _ _ (eval (Expr.Name _ _) (compEnvC _ _ _ (compEnvC _ _ _ _))) _ _ _); k_dflt (first   | (refine' lcf_cell (by k_asm) (by rfl) (by k_mem) (by k_asm) ?_ (by rfl) (by with_unfolding_all rfl); k_whole)   | (refine' lcf_free (by k_asm) (by rfl) (by k_mem) (by k_asm) ?_ (by rfl) (by with_unfolding_all rfl); k_whole)))) | walk1 | (dsimp only; (first | ((with_reducible show wpAny _ _ (eval (PySem.Expr.Name _ _) _) _ _ _); (k_here; (with_reducible show wpAny _ _ (eval (Expr.Name _ _) (compEnvC _ _ _ (compEnvC _ _ _ _))) _ _ _); k_dflt (first   | (refine' lcf_cell (by k_asm) (by rfl) (by k_mem) (by k_asm) ?_ (by rfl) (by with_unfolding_all rfl); k_whole)   | (refine' lcf_free (by k_asm) (by rfl) (by k_mem) (by k_asm) ?_ (by rfl) (by with_unfolding_all rfl); k_whole)))) | walk1)) | (leave1; (try dsimp only)) | fail "no step"))
  rename Fr _ _ _ _ => F9
  rename News _ _ _ _ => N9
  refine ⟨_, _, _, _, rfl, F9, ⟨ps59, (N9 (59, tabObj ps59) (by simp)).1⟩, ⟨aK, L' + 1, oC, _, aN, aD, b, tk', v2, k, hs, v1, ln, lt, sl, sa, fn, c, t1, t2, td, rfl, (N9 (L' + 1, oC) (by simp)).1, dC, (N9 _ (.head _)).1, (N9 _ (.tail _ (.head _))).1, (N9 _ (.tail _ (.tail _ (.head _)))).1,
    ⟨n0, p0, y0, sc0, dc0, ct0, oc0, vs0, u0, a1, (N9 _ (.tail _ (.tail _ (.tail _ (.head _))))).1, (N9 _ (.tail _ (.tail _ (.tail _ (.tail _ (.head _)))))).1, a4, a5⟩,
    ⟨n1, p1, y1, sc1, dc1, ct1, oc1, vs1, u1, b1, (N9 _ (.tail _ (.tail _ (.tail _ (.tail _ (.tail _ (.head _))))))).1, (N9 _ (.tail _ (.tail _ (.tail _ (.tail _ (.tail _ (.tail _ (.head _)))))))).1, b4, b5⟩, fun x hx => ?_⟩⟩
  revert x hx
  refine fmc ?_ (fmc ?_ (fmc ?_ (fmc ?_ (fmc ?_ (fmc ?_ (fmc ?_ (fmc ?_ (List.forall_mem_nil _))))))))
  · exact (N9 (L' + 1, oC) (by simp)).2.2
  · exact (N9 _ (.head _)).2.2
  · exact (N9 _ (.tail _ (.head _))).2.2
  · exact (N9 _ (.tail _ (.tail _ (.head _)))).2.2
  · exact (N9 _ (.tail _ (.tail _ (.tail _ (.head _))))).2.2
  · exact (N9 _ (.tail _ (.tail _ (.tail _ (.tail _ (.tail _ (.head _))))))).2.2
  · exact (N9 _ (.tail _ (.tail _ (.tail _ (.tail _ (.head _)))))).2.2
  · exact (N9 _ (.tail _ (.tail _ (.tail _ (.tail _ (.tail _ (.tail _ (.head _)))))))).2.2
end
section
open PySem PySem.W PyProof.Rows PySem.Calls PySem.W.X
set_option maxRecDepth 100000
/-- an instance of K -/
noncomputable abbrev instK (aK : Addr) (x : Str) (t : Tok) (da : Addr) : Obj := { cls := .ref aK, dict := some da, data := .plain, slots := #[some (.str x t)] }
structure Fin2 (h₀ : Heap) (ob : Addr → Obj) (Q : Value → Shared → Prop) (g : Array GenState) (d : Drawn) (os : OsState) : Prop where
  use : ∀ (a da : Addr) (h : Heap) (t : Nat) (news : List (Addr × Obj)) (i : Nat), Mem h₀ h [] news → news[i]? = some (a, ob da) → Q (.ref a) ⟨h, g, d, t, os⟩
section
local macro_rules | `(tactic| x_close) => `(tactic| (refine' Fin2.use ?a _ ?da _ _ _ 1 ?b ?c; (case a => assumption); (case b => assumption); (case c => rfl)))

set_option maxHeartbeats 8000000 in
theorem k_new {pg : Program} {i1 i2 : Int} {qn : Str} (w : World) {E : Value → Shared → Prop} {s : Shared} {Q : Value → Shared → Prop} {aK aN aD b f0 c0 : Addr} {tk v2 : Tok} {k : Nat → Tok} {hs : Nat → Int} {v1 : Tok} {ln : Int} {lt : Tok} {sl sa : Addr} {fn : Nat → Addr} {t1 t2 td tq u : Tok} {pm dc ct v0 : Value} {dd : Option Addr} {rest : List Value} {slo : Array (Option Value)} {n0 : Str} {p0 : Arguments} {y0 : List Stmt} {sc0 : Scope} {x : Str}
    (hX : (hd.heap_1 w.params).In s.heap) (h1 : s.heap.get? aK = some (clsK aK aN b tk v2))
    (h2 : s.heap.get? aN = some { cls := .type "dict", data := .dict (clsEntries3 k hs v1 (.int ln lt) sl sa fn (i1) t1 aD (i2) t2) 3 }) (hf0 : fn 0 = f0)
    (h3 : s.heap.get? aD = some { cls := .type "member_descriptor", data := .fields #[.str "obj" td, .ref aK, .builtin "proto.slot", .builtin "proto.slot#set", rawInt 0] })
    (hdef : clsDef (hd.heap_1 w.params) 2 = some (n0, p0, y0, sc0)) (h4 : s.heap.get? f0 = some (fnMade n0 qn p0 y0 sc0 [] dc pm c0 ct))
    (h5 : s.heap.get? c0 = some (Obj.mk (.type "code") dd (.fields ⟨v0 :: .str qn tq :: rest⟩) slo))
    (hret : Fin2 s.heap (instK aK x u) Q s.gens s.drawn s.os) :
    wpAny (model pg w) (room 900 8000) (call (.ref aK) [.str x u]) Q E s := by
  have ed : clsDef (hd.heap_1 w.params) 2 = some (_, _, _, _) := rfl
  have e2 := hdef.symm.trans ed
  simp only [Option.some.injEq, Prod.mk.injEq] at e2
  obtain ⟨rfl, rfl, rfl, rfl⟩ := e2
  have g1 : s.heap.get? aK = some (Obj.mk (.type "type") none (.cls { name := "K", bases := [.type "object"], mro := [.ref aK, .type "object"], ns := aN, qualname := "cmp_to_key.<locals>.K", hasDict := false, slotNames := ["obj"] }) #[some (.ref b), none, some (.str "K" tk), some (.str "cmp_to_key.<locals>.K" v2), some (.builtin "object.__new__"), some (.bool false)]) := h1
  have g2 : s.heap.get? aN = some (Obj.mk (.type "dict") none (.dict #[⟨hs 0, .str "__module__" (k 0), .str "cpy313.functools" v1⟩, ⟨hs 2, .str "__firstlineno__" (k 2), .int ln lt⟩, ⟨hs 3, .str "__slots__" (k 3), .ref sl⟩,
    ⟨hs 4, .str "__init__" (k 4), .ref f0⟩, ⟨hs 5, .str "__lt__" (k 5), .ref (fn 1)⟩, ⟨hs 6, .str "__gt__" (k 6), .ref (fn 2)⟩, ⟨hs 7, .str "__eq__" (k 7), .ref (fn 3)⟩, ⟨hs 8, .str "__le__" (k 8), .ref (fn 4)⟩, ⟨hs 9, .str "__ge__" (k 9), .ref (fn 5)⟩,
    ⟨hs 10, .str "__hash__" (k 10), .none⟩, ⟨hs 11, .str "__static_attributes__" (k 11), .ref sa⟩, ⟨i1, .str "obj" t1, .ref aD⟩, ⟨i2, .str "__doc__" t2, .none⟩] 3) #[]) := by rw [← hf0]; exact h2
  have g3 : s.heap.get? aD = some (Obj.mk (.type "member_descriptor") none (.fields #[.str "obj" td, .ref aK, .builtin "proto.slot", .builtin "proto.slot#set", rawInt 0]) #[]) := h3
  have g4 := h4
  obtain ⟨hp, gn, dr, tk0, os0⟩ := s
  clear h1 h2 h3 ed hdef h4
  unfold fnMade at g4
  dsimp only at *
  x_run
end
/-- what a call of K needs of the heap -/
structure KObjs (w : World) (f : Addr) (h : Heap) (aK : Addr) : Prop where
  ex : ∃ (cell : Addr) (oc : Obj) (pm : Value) (aN aD b : Addr) (tk v2 : Tok) (k : Nat → Tok) (hs : Nat → Int) (v1 : Tok) (ln : Int) (lt : Tok) (sl sa : Addr) (fn c : Nat → Addr) (t1 t2 td : Tok),
    h.get? cell = some oc ∧ oc.data = .cell (some (.ref f)) ∧ h.get? aK = some (clsK aK aN b tk v2) ∧ h.get? aN = some { cls := .type "dict", data := .dict (clsEntries3 k hs v1 (.int ln lt) sl sa fn (hashOf w "obj") t1 aD (hashOf w "__doc__") t2) 3 } ∧
    h.get? aD = some { cls := .type "member_descriptor", data := .fields #[.str "obj" td, .ref aK, .builtin "proto.slot", .builtin "proto.slot#set", rawInt 0] } ∧
    FnIs w 2 qInit [] pm h (fn 0) (c 0) ∧ FnIs w 3 qLt [("mycmp", cell)] pm h (fn 1) (c 1)
theorem KObjs.keeps {w : World} {f aK : Addr} {h h' : Heap} (K : KObjs w f h aK) (k : ∀ b o, h.get? b = some o → h'.get? b = some o) : KObjs w f h' aK := by
  refine hideG fun G9 b9 => ?_
  obtain ⟨cell, oc, pm, aN, aD, b, tk, v2, kk, hs, v1, ln, lt, sl, sa, fn, c, t1, t2, td, q0, q1, q2, q3, q4, q5, q6⟩ := K.ex
  refine b9 ?_
  clear b9 G9
  exact ⟨cell, oc, pm, aN, aD, b, tk, v2, kk, hs, v1, ln, lt, sl, sa, fn, c, t1, t2, td, k _ _ q0, q1, k _ _ q2, k _ _ q3, k _ _ q4, q5.keeps fun b o e _ => k b o e, q6.keeps fun b o e _ => k b o e⟩
/-- K(x) -/
theorem k_new_c (w : World) {A : Around} {E : Value → Shared → Prop} {s : Shared} {Q : Value → Shared → Prop} {f aK : Addr} {x : Str} {u : Tok} (K : KObjs w f s.heap aK) (hX : (hd.heap_1 w.params).In s.heap) (hh : A.handled = none) (hd' : A.depth ≤ 900) (hu : A.units ≤ 8000)
    (hret : ∀ a da h' tk', (∀ b o, s.heap.get? b = some o → h'.get? b = some o) → h'.get? a = some (instK aK x u da) → s.heap.get? a = none → Q (.ref a) { s with heap := h', toks := tk' }) :
    wpAny (model prog w) A (call (.ref aK) [.str x u]) Q E s := by
  refine wpAny_room hh hd' hu ?_
  refine hideG fun G9 b9 => ?_
  obtain ⟨cell, oc, pm, aN, aD, b, tk, v2, kk, hs, v1, ln, lt, sl, sa, fn, c, t1, t2, td, q0, q1, q2, q3, q4, q5, q6⟩ := K.ex
  obtain ⟨name, params, body, sc, dc, ct, oc0, vs, t, e1, e2, e3, e4, e5, e6⟩ := q5.ex
  refine b9 ?_
  clear b9 G9
  obtain ⟨cc, dd, da, so⟩ := oc0
  dsimp only at e4 e6
  subst e4 e6
  have hv : ∃ v0 rest, vs = ⟨v0 :: .str qInit t :: rest⟩ := by
    obtain ⟨l⟩ := vs
    match l, e5 with
    | [], e => simp at e
    | [_], e => simp at e
    | v0 :: v1 :: r, e =>
      have : v1 = .str qInit t := by simpa using e
      exact ⟨v0, r, by rw [this]⟩
  obtain ⟨v0, rest, rfl⟩ := hv
  refine k_new w hX q2 q3 rfl q4 e1 e2 e3 ⟨fun a da h' tk' news i D hi => ?_⟩
  exact hret a da h' tk' (fun b o e => D.keep b o e (by cases hasCls o <;> rfl)) (D.at i _ _ hi) (D.nw _ (List.mem_of_getElem? hi)).2
end
section
open PySem PySem.W PyProof.Rows PySem.Calls PySem.W.X
set_option maxRecDepth 100000
structure FinS (h₀ : Heap) (x : Str) (u : Tok) (Q : Value → Shared → Prop) (g : Array GenState) (d : Drawn) (os : OsState) : Prop where
  use : ∀ (h : Heap) (t : Nat) (news : List (Addr × Obj)), Mem h₀ h [] news → Q (.str x u) ⟨h, g, d, t, os⟩
section
local macro_rules | `(tactic| x_close) => `(tactic| first | (exact FinS.use (by assumption) _ _ _ (by assumption)) | (exact FinS.use (by assumption) _ _ _ (PySem.W.X.Mem.start _)))

set_option maxHeartbeats 8000000 in
theorem k_hooked {pg : Program} {i1 i2 : Int} (w : World) {A : Around} {E : Value → Shared → Prop} {h : Heap} {g : Array GenState} {d : Drawn} {t : Nat} {os : OsState} {Q : Value → Shared → Prop} {a aK aN aD b da : Addr} {tk v2 : Tok} {k : Nat → Tok} {hs : Nat → Int} {v1 : Tok} {ln : Int} {lt : Tok} {sl sa : Addr} {fn : Nat → Addr} {t1 t2 td u z : Tok} {x : Str}
    (g1 : h.get? aK = some (Obj.mk (.type "type") none (.cls { name := "K", bases := [.type "object"], mro := [.ref aK, .type "object"], ns := aN, qualname := "cmp_to_key.<locals>.K", hasDict := false, slotNames := ["obj"] }) #[some (.ref b), none, some (.str "K" tk), some (.str "cmp_to_key.<locals>.K" v2), some (.builtin "object.__new__"), some (.bool false)]))
    (g2 : h.get? aN = some (Obj.mk (.type "dict") none (.dict #[⟨hs 0, .str "__module__" (k 0), .str "cpy313.functools" v1⟩, ⟨hs 2, .str "__firstlineno__" (k 2), .int ln lt⟩, ⟨hs 3, .str "__slots__" (k 3), .ref sl⟩,
    ⟨hs 4, .str "__init__" (k 4), .ref (fn 0)⟩, ⟨hs 5, .str "__lt__" (k 5), .ref (fn 1)⟩, ⟨hs 6, .str "__gt__" (k 6), .ref (fn 2)⟩, ⟨hs 7, .str "__eq__" (k 7), .ref (fn 3)⟩, ⟨hs 8, .str "__le__" (k 8), .ref (fn 4)⟩, ⟨hs 9, .str "__ge__" (k 9), .ref (fn 5)⟩,
    ⟨hs 10, .str "__hash__" (k 10), .none⟩, ⟨hs 11, .str "__static_attributes__" (k 11), .ref sa⟩, ⟨i1, .str "obj" t1, .ref aD⟩, ⟨i2, .str "__doc__" t2, .none⟩] 3) #[]))
    (g3 : h.get? aD = some (Obj.mk (.type "member_descriptor") none (.fields #[.str "obj" td, .ref aK, .builtin "proto.slot", .builtin "proto.slot#set", rawInt 0]) #[]))
    (g4 : h.get? a = some (Obj.mk (.ref aK) (some da) .plain #[some (.str x u)])) (hret : FinS h x u Q g d os) :
    wpAny (model pg w) A (runValue (.builtin "proto.getattr_hooked" ⟨[.ref a, .str "obj" z], []⟩)) Q E ⟨h, g, d, t, os⟩ := by
  x_run
end
theorem l_look {prog : Program} {w : World} {A : Around} {E : Value → Shared → Prop} {h : Heap} {g : Array GenState} {d : Drawn} {t : Nat} {os : OsState} {a : Addr} {o : Obj} {x : Str} {v : Option Value} {Q : Option Value → Shared → Prop} (ho : h.get? a = some o) (hv : nsLook x o = pure v) (hq : Q v ⟨h, g, d, t, os⟩) : wpAny (model prog w) A (nsGet a x) Q E ⟨h, g, d, t, os⟩ := by
  unfold nsGet
  refine wpAny_bind (wpAny_loadPart' ho ?_)
  rw [hv]
  exact wpAny_pure hq
theorem kg_own : classOwn (.type "object") "__getattribute__" = pure (some (.builtin "object.__getattribute__")) := by kernel_rfl
theorem r_hold {c : Code} {prog : Program} {w : World} {A : Around} {E : Value → Shared → Prop} {s : Shared} {Q : Value → Shared → Prop} (h : HoldC (wpAny (model prog w) A (runValue c) Q E s)) : wpAny (model prog w) A (runValue c) Q E s := h.h
set_option maxHeartbeats 8000000 in
theorem k_getobj (w : World) {A : Around} {E : Value → Shared → Prop} {h : Heap} {g : Array GenState} {d : Drawn} {t : Nat} {os : OsState} {Q : Value → Shared → Prop} {f a aK da : Addr} {x : Str} {u : Tok} {ex : Bool} (K : KObjs w f h aK) (ha : h.get? a = some (instK aK x u da)) (hret : FinS h x u Q g d os) :
    wpAny (model prog w) A (getAttr (.ref a) (Str.ofString "obj") ex) Q E ⟨h, g, d, t, os⟩ := by
  refine hideG fun G9 b9 => ?_
  obtain ⟨cell, oc, pm, aN, aD, b, tk, v2, kk, hs, v1, ln, lt, sl, sa, fn, c, t1, t2, td, q0, q1, q2, q3, q4, q5, q6⟩ := K.ex
  refine b9 ?_
  clear b9 G9
  have hv : nsLook "__getattribute__" ({ cls := .type "dict", data := .dict (clsEntries3 kk hs v1 (.int ln lt) sl sa fn (hashOf w "obj") t1 aD (hashOf w "__doc__") t2) 3 } : Obj) = pure none := by kernel_rfl
  repeat (first
    | (with_reducible refine wpAny_loadPart' ha ?_) | (with_reducible refine wpAny_loadPart' q2 ?_) | (with_reducible refine wpAny_load' q2 ?_)
    | (with_reducible refine l_look q3 hv ?_) | (with_reducible refine l_eq kg_own ?_)
    | (with_reducible refine r_hold ?_) | (with_reducible refine wpAny_onRaise ?_)
    | ((with_reducible show wpAny _ _ (typeLookup (Value.ref _) _) _ _ _); unfold typeLookup)
    | wp_step)
  refine ⟨k_hooked w q2 q3 q4 ha ⟨fun h' t' news D => ?_⟩⟩
  exact wpAny_pure (hret.use h' t' news D)
end
section
open PySem PySem.W PyProof.Rows
/-- the questions of a sort, answered by a plain order -/
noncomputable def ev {α : Type} (lt : Nat → Nat → Bool) : KasT α → α
  | .ret a => a
  | .ask i j k => ev lt (k (lt i j))
/-- all questions on the way are about places below n -/
noncomputable def AsksIn {α : Type} (lt : Nat → Nat → Bool) (n : Nat) : KasT α → Prop
  | .ret _ => True
  | .ask i j k => i < n ∧ j < n ∧ i ≠ j ∧ AsksIn lt n (k (lt i j))
theorem ev_bind {α β : Type} {lt : Nat → Nat → Bool} {f : α → KasT β} : ∀ t : KasT α, ev lt (t.bind f) = ev lt (f (ev lt t))
  | .ret _ => rfl
  | .ask i j k => ev_bind (k (lt i j))
theorem asks_bind {α β : Type} {lt : Nat → Nat → Bool} {n : Nat} {f : α → KasT β} : ∀ t : KasT α, AsksIn lt n t → AsksIn lt n (f (ev lt t)) → AsksIn lt n (t.bind f)
  | .ret _, _, h => h
  | .ask i j k, ⟨h1, h2, h4, h3⟩, h => ⟨h1, h2, h4, asks_bind (k (lt i j)) h3 h⟩
/-- a comparator that keeps an invariant and answers by the order -/
theorem kasWp_ev {α : Type} {lt : Nat → Nat → Bool} {n : Nat} {cmp : Nat → Nat → (Bool → Shared → Prop) → Shared → Prop} {Inv : Shared → Prop} {Q : α → Shared → Prop}
    (hc : ∀ i j C s, i < n → j < n → i ≠ j → Inv s → (∀ s', Inv s' → C (lt i j) s') → cmp i j C s) : ∀ (t : KasT α) (s : Shared), AsksIn lt n t → Inv s → (∀ s', Inv s' → Q (ev lt t) s') → t.kasWp cmp Q s
  | .ret _, s, _, hi, hq => hq s hi
  | .ask i j k, s, ⟨h1, h2, h4, h3⟩, hi, hq => hc i j _ s h1 h2 h4 hi fun s' hi' => kasWp_ev hc (k (lt i j)) s' h3 hi' hq
section
variable (r : Nat → Nat)
/-- the order by a rank -/
noncomputable def ltR (i j : Nat) : Bool := decide (r i < r j)
/-- the first k places stand in order -/
noncomputable def SortedP (p : Array Nat) (k : Nat) : Prop := ∀ i j, i ≤ j → j < k → r (p.getD i 0) ≤ r (p.getD j 0)
variable {r}
theorem asc_ok {p : Array Nat} : ∀ f n0 : Nat, 1 ≤ n0 → SortedP r p n0 → n0 ≤ ev (ltR r) (kas_asc p f n0) ∧ ev (ltR r) (kas_asc p f n0) ≤ n0 + f ∧ SortedP r p (ev (ltR r) (kas_asc p f n0))
  | 0, n0, _, hs => ⟨Nat.le_refl _, Nat.le_refl _, hs⟩
  | f + 1, n0, h1, hs => by
    show n0 ≤ ev (ltR r) (if ltR r (p.getD n0 0) (p.getD (n0 - 1) 0) = true then .ret n0 else kas_asc p f (n0 + 1)) ∧ _ ∧ _
    by_cases hc : ltR r (p.getD n0 0) (p.getD (n0 - 1) 0) = true
    · have e : ev (ltR r) (kas_asc p (f + 1) n0) = n0 := by
        show ev (ltR r) (if ltR r (p.getD n0 0) (p.getD (n0 - 1) 0) = true then .ret n0 else kas_asc p f (n0 + 1)) = n0
        rw [if_pos hc]; rfl
      rw [e, if_pos hc]
      exact ⟨Nat.le_refl _, by omega, hs⟩
    · have e : ev (ltR r) (kas_asc p (f + 1) n0) = ev (ltR r) (kas_asc p f (n0 + 1)) := by
        show ev (ltR r) (if ltR r (p.getD n0 0) (p.getD (n0 - 1) 0) = true then .ret n0 else kas_asc p f (n0 + 1)) = _
        rw [if_neg hc]
      have hle : r (p.getD (n0 - 1) 0) ≤ r (p.getD n0 0) := by
        have : ¬ r (p.getD n0 0) < r (p.getD (n0 - 1) 0) := fun h => hc (decide_eq_true h)
        omega
      have hs' : SortedP r p (n0 + 1) := by
        intro i j hij hj
        rcases Nat.lt_or_ge j n0 with hj' | hj'
        · exact hs i j hij hj'
        · have ej : j = n0 := by omega
          subst ej
          rcases Nat.lt_or_ge i j with hi | hi
          · exact Nat.le_trans (hs i (j - 1) (by omega) (by omega)) hle
          · have : i = j := by omega
            rw [this]; exact Nat.le_refl _
      obtain ⟨a, b, c⟩ := asc_ok f (n0 + 1) (by omega) hs'
      rw [e, if_neg hc]
      exact ⟨by omega, by omega, c⟩
theorem place_ok {p : Array Nat} {k : Nat} (hs : SortedP r p k) : ∀ f l m : Nat, m - l ≤ f → l ≤ m → m ≤ k → (∀ i, i < l → r (p.getD i 0) ≤ r (p.getD k 0)) → (∀ i, m ≤ i → i < k → r (p.getD k 0) < r (p.getD i 0)) →
      l ≤ ev (ltR r) (kas_place p k f l m) ∧ ev (ltR r) (kas_place p k f l m) ≤ m ∧ (∀ i, i < ev (ltR r) (kas_place p k f l m) → r (p.getD i 0) ≤ r (p.getD k 0)) ∧ (∀ i, ev (ltR r) (kas_place p k f l m) ≤ i → i < k → r (p.getD k 0) < r (p.getD i 0))
  | 0, l, m, hf, hl, _, h1, h2 => by
    have e : m = l := by omega
    subst e
    exact ⟨Nat.le_refl _, Nat.le_refl _, h1, h2⟩
  | f + 1, l, m, hf, hl, hm, h1, h2 => by
    by_cases hlm : l ≥ m
    · have e : ev (ltR r) (kas_place p k (f + 1) l m) = l := by
        show ev (ltR r) (if l ≥ m then .ret l else _) = l
        rw [if_pos hlm]; rfl
      have e2 : m = l := by omega
      rw [e]; subst e2
      exact ⟨Nat.le_refl _, Nat.le_refl _, h1, h2⟩
    · have hd : (l + m) / 2 < m ∧ l ≤ (l + m) / 2 := by omega
      by_cases hc : ltR r (p.getD k 0) (p.getD ((l + m) / 2) 0) = true
      · have e : ev (ltR r) (kas_place p k (f + 1) l m) = ev (ltR r) (kas_place p k f l ((l + m) / 2)) := by
          show ev (ltR r) (if l ≥ m then .ret l else .ask (p.getD k 0) (p.getD ((l + m) / 2) 0) fun c => if c = true then kas_place p k f l ((l + m) / 2) else kas_place p k f ((l + m) / 2 + 1) m) = _
          rw [if_neg hlm]
          show ev (ltR r) (if ltR r (p.getD k 0) (p.getD ((l + m) / 2) 0) = true then _ else _) = _
          rw [if_pos hc]
        have hlt : r (p.getD k 0) < r (p.getD ((l + m) / 2) 0) := of_decide_eq_true hc
        obtain ⟨a, b, c, d⟩ := place_ok hs f l ((l + m) / 2) (by omega) hd.2 (by omega) h1 (fun i hi hk => Nat.lt_of_lt_of_le hlt (hs _ _ hi hk))
        rw [e]
        exact ⟨a, by omega, c, d⟩
      · have e : ev (ltR r) (kas_place p k (f + 1) l m) = ev (ltR r) (kas_place p k f ((l + m) / 2 + 1) m) := by
          show ev (ltR r) (if l ≥ m then .ret l else .ask (p.getD k 0) (p.getD ((l + m) / 2) 0) fun c => if c = true then kas_place p k f l ((l + m) / 2) else kas_place p k f ((l + m) / 2 + 1) m) = _
          rw [if_neg hlm]
          show ev (ltR r) (if ltR r (p.getD k 0) (p.getD ((l + m) / 2) 0) = true then _ else _) = _
          rw [if_neg hc]
        have hle : r (p.getD ((l + m) / 2) 0) ≤ r (p.getD k 0) := by
          have : ¬ r (p.getD k 0) < r (p.getD ((l + m) / 2) 0) := fun h => hc (decide_eq_true h)
          omega
        obtain ⟨a, b, c, d⟩ := place_ok hs f ((l + m) / 2 + 1) m (by omega) (by omega) hm (fun i hi => Nat.le_trans (hs i ((l + m) / 2) (by omega) (by omega)) hle) h2
        rw [e]
        exact ⟨by omega, b, c, d⟩
theorem getD_bubble {p : Array Nat} {k l : Nat} (hk : k < p.size) (hl : l ≤ k) (i : Nat) : (bubble p k (k - l)).getD i 0 = if i = l then p.getD k 0 else if l < i ∧ i ≤ k then p.getD (i - 1) 0 else p.getD i 0 := by
  have h := getElem?_bubble hk (k - l) (by omega) i
  have e : k - (k - l) = l := by omega
  rw [e] at h
  simp only [Array.getD_eq_getD_getElem?, h]
  split
  · rfl
  · split <;> rfl
theorem bin_ok : ∀ (f : Nat) (p : Array Nat) (k : Nat), SortedP r p k → k + f ≤ p.size → SortedP r (ev (ltR r) (kas_bin f p k)) (k + f) ∧ (ev (ltR r) (kas_bin f p k)).Perm p
  | 0, p, k, hs, _ => ⟨hs, Array.Perm.refl _⟩
  | f + 1, p, k, hs, hz => by
    obtain ⟨_, hl, h1, h2⟩ := place_ok hs k 0 k (by omega) (by omega) (by omega) (fun i hi => absurd hi (by omega)) (fun i hi hk => absurd hk (by omega))
    have e : ev (ltR r) (kas_bin (f + 1) p k) = ev (ltR r) (kas_bin f (bubble p k (k - ev (ltR r) (kas_place p k k 0 k))) (k + 1)) := by
      show ev (ltR r) ((kas_place p k k 0 k).bind fun l => kas_bin f (bubble p k (k - l)) (k + 1)) = _
      rw [ev_bind]
    generalize ev (ltR r) (kas_place p k k 0 k) = l at hl h1 h2 e
    have hk : k < p.size := by omega
    have hs' : SortedP r (bubble p k (k - l)) (k + 1) := by
      intro i j hij hj
      rw [getD_bubble hk hl, getD_bubble hk hl]
      by_cases hi : i = l
      · rw [if_pos hi]
        by_cases hj1 : j = l
        · rw [if_pos hj1]; exact Nat.le_refl _
        · rw [if_neg hj1, if_pos ⟨by omega, by omega⟩]
          exact Nat.le_of_lt (h2 _ (by omega) (by omega))
      · rw [if_neg hi]
        by_cases hil : l < i ∧ i ≤ k
        · rw [if_pos hil]
          rw [if_neg (by omega), if_pos ⟨by omega, by omega⟩]
          exact hs _ _ (by omega) (by omega)
        · rw [if_neg hil]
          by_cases hj1 : j = l
          · rw [if_pos hj1]; exact h1 _ (by omega)
          · rw [if_neg hj1]
            by_cases hjl : l < j ∧ j ≤ k
            · rw [if_pos hjl]; exact hs _ _ (by omega) (by omega)
            · rw [if_neg hjl]; exact hs _ _ hij (by omega)
    obtain ⟨a, b⟩ := bin_ok f (bubble p k (k - l)) (k + 1) hs' (by rw [bubble_size]; omega)
    rw [e]
    exact ⟨by rw [show k + (f + 1) = k + 1 + f by omega]; exact a, b.trans (bubble_perm p k (k - l))⟩
/-- the ranks stand apart -/
noncomputable def Apt (r : Nat → Nat) (p : Array Nat) : Prop := ∀ i j, i < p.size → j < p.size → r (p.getD i 0) = r (p.getD j 0) → i = j
/-- the first k places fall -/
noncomputable def FallP (r : Nat → Nat) (p : Array Nat) (k : Nat) : Prop := ∀ i j, i < j → j < k → r (p.getD j 0) < r (p.getD i 0)
theorem desc_ok {p : Array Nat} (ha : Apt r p) : ∀ f n : Nat, 1 ≤ n → n + f ≤ p.size → FallP r p n → ∃ m, ev (ltR r) (kas_desc f p n 0) = (p, m, 0) ∧ n ≤ m ∧ m ≤ n + f ∧ FallP r p m
  | 0, n, _, _, hs => ⟨n, rfl, Nat.le_refl _, Nat.le_refl _, hs⟩
  | f + 1, n, h1, hz, hs => by
    by_cases hc : ltR r (p.getD n 0) (p.getD (n - 1) 0) = true
    · have e : ev (ltR r) (kas_desc (f + 1) p n 0) = ev (ltR r) (kas_desc f p (n + 1) 0) := by
        show ev (ltR r) (if ltR r (p.getD n 0) (p.getD (n - 1) 0) = true then (if 0 > 0 then _ else kas_desc f p (n + 1) 0) else _) = _
        rw [if_pos hc, if_neg (Nat.lt_irrefl 0)]
      have hlt : r (p.getD n 0) < r (p.getD (n - 1) 0) := of_decide_eq_true hc
      have hs' : FallP r p (n + 1) := by
        intro i j hij hj
        rcases Nat.lt_or_ge j n with hj' | hj'
        · exact hs i j hij hj'
        · have ej : j = n := by omega
          subst ej
          rcases Nat.lt_or_ge i (j - 1) with hi | hi
          · exact Nat.lt_trans hlt (hs i (j - 1) hi (by omega))
          · have : i = j - 1 := by omega
            rw [this]; exact hlt
      obtain ⟨m, a, b, c, d⟩ := desc_ok ha f (n + 1) (by omega) (by omega) hs'
      exact ⟨m, e.trans a, by omega, by omega, d⟩
    · have hne : r (p.getD n 0) ≠ r (p.getD (n - 1) 0) := fun h => by have := ha n (n - 1) (by omega) (by omega) h; omega
      have hd : ltR r (p.getD (n - 1) 0) (p.getD n 0) = true := by
        have : ¬ r (p.getD n 0) < r (p.getD (n - 1) 0) := fun h => hc (decide_eq_true h)
        exact decide_eq_true (by omega)
      have e : ev (ltR r) (kas_desc (f + 1) p n 0) = (p, n, 0) := by
        show ev (ltR r) (if ltR r (p.getD n 0) (p.getD (n - 1) 0) = true then _ else .ask (p.getD (n - 1) 0) (p.getD n 0) fun d => if d = true then .ret (p, n, 0) else kas_desc f p (n + 1) (0 + 1)) = _
        rw [if_neg hc]
        show ev (ltR r) (if ltR r (p.getD (n - 1) 0) (p.getD n 0) = true then _ else _) = _
        rw [if_pos hd]; rfl
      exact ⟨n, e, Nat.le_refl _, by omega, hs⟩
theorem rev_ok {p : Array Nat} {m : Nat} (hm : m ≤ p.size) (hs : FallP r p m) : SortedP r (kas_rev p 0 m) m := by
  have g : ∀ i, i < m → (kas_rev p 0 m).getD i 0 = p.getD (m - 1 - i) 0 := fun i hi => by
    have h := getElem?_mirror_all (xs := p) (i := 0) hm i
    simp only [kas_rev, Array.getD_eq_getD_getElem?, h]
    rw [if_pos ⟨Nat.zero_le _, hi⟩, Nat.zero_add]
  intro i j hij hj
  rw [g i (by omega), g j hj]
  rcases Nat.lt_or_ge i j with h | h
  · exact Nat.le_of_lt (hs _ _ (by omega) (by omega))
  · have : i = j := by omega
    rw [this]; exact Nat.le_refl _
theorem tail3_ok {p : Array Nat} {n nrem : Nat} (h1 : 1 ≤ n) (hn : n ≤ nrem) (hz : nrem ≤ p.size) (hs : FallP r p n) :
    n ≤ (ev (ltR r) (kas_tail3 n nrem p)).1 ∧ (ev (ltR r) (kas_tail3 n nrem p)).1 ≤ nrem ∧ SortedP r (ev (ltR r) (kas_tail3 n nrem p)).2 (ev (ltR r) (kas_tail3 n nrem p)).1 ∧ (ev (ltR r) (kas_tail3 n nrem p)).2.Perm p := by
  unfold kas_tail3
  rw [ev_bind]
  obtain ⟨a, b, c⟩ := asc_ok (p := kas_rev p 0 n) (nrem - n) n h1 (rev_ok (by omega) hs)
  exact ⟨a, by show ev (ltR r) _ ≤ nrem; omega, c, mirror_perm p 0 n _⟩
theorem count_ok {p : Array Nat} {nrem : Nat} (ha : Apt r p) (h1 : 1 ≤ nrem) (hz : nrem ≤ p.size) :
    1 ≤ (ev (ltR r) (kas_count nrem p)).1 ∧ (ev (ltR r) (kas_count nrem p)).1 ≤ nrem ∧ SortedP r (ev (ltR r) (kas_count nrem p)).2 (ev (ltR r) (kas_count nrem p)).1 ∧ (ev (ltR r) (kas_count nrem p)).2.Perm p := by
  have hs1 : SortedP r p 1 := by
    intro i j hij hj
    have e : i = j := by omega
    rw [e]
    exact Nat.le_refl _
  obtain ⟨a, b, c⟩ := asc_ok (r := r) (p := p) (nrem - 1) 1 (Nat.le_refl _) hs1
  unfold kas_count
  rw [ev_bind]
  generalize hm : ev (ltR r) (kas_asc p (nrem - 1) 1) = m at a b c
  by_cases hmn : (m == nrem) = true
  · rw [if_pos hmn]
    exact ⟨a, by show m ≤ nrem; omega, c, Array.Perm.refl _⟩
  · rw [if_neg hmn]
    have hmn' : m ≠ nrem := fun h => hmn (by rw [h]; exact beq_self_eq_true _)
    by_cases hm1 : m > 1
    · rw [if_pos hm1]
      have hne : r (p.getD 0 0) ≠ r (p.getD (m - 1) 0) := fun h => by have := ha 0 (m - 1) (by omega) (by omega) h; omega
      have hle := c 0 (m - 1) (by omega) (by omega)
      have hc : ltR r (p.getD 0 0) (p.getD (m - 1) 0) = true := decide_eq_true (by omega)
      have e : ev (ltR r) (KasT.ask (p.getD 0 0) (p.getD (m - 1) 0) fun c => if c = true then KasT.ret (m, p) else kas_descPart m nrem (kas_rev p 0 m)) = ev (ltR r) (.ret (m, p)) := by
        show ev (ltR r) (if ltR r (p.getD 0 0) (p.getD (m - 1) 0) = true then _ else _) = _
        rw [if_pos hc]
      rw [e]
      exact ⟨a, by show m ≤ nrem; omega, c, Array.Perm.refl _⟩
    · rw [if_neg hm1]
      have em : m = 1 := by omega
      subst em
      have h2 : 2 ≤ nrem := by omega
      have hfall : FallP r p 2 := by
        intro i j hij hj
        have ei : i = 0 := by omega
        have ej : j = 1 := by omega
        subst ei ej
        by_cases hc : ltR r (p.getD 1 0) (p.getD 0 0) = true
        · exact of_decide_eq_true hc
        · exfalso
          obtain ⟨k, hk⟩ : ∃ k, nrem - 1 = k + 1 := ⟨nrem - 2, by omega⟩
          rw [hk] at hm
          have e : ev (ltR r) (kas_asc p (k + 1) 1) = ev (ltR r) (kas_asc p k 2) := by
            show ev (ltR r) (if ltR r (p.getD 1 0) (p.getD 0 0) = true then .ret 1 else kas_asc p k 2) = _
            rw [if_neg hc]
          have hs2 : SortedP r p 2 := by
            intro i j hij hj
            have : ¬ r (p.getD 1 0) < r (p.getD 0 0) := fun h => hc (decide_eq_true h)
            rcases Nat.lt_or_ge i j with hh | hh
            · have ei : i = 0 := by omega
              have ej : j = 1 := by omega
              subst ei ej
              omega
            · have ei : i = j := by omega
              rw [ei]
              exact Nat.le_refl _
          have := (asc_ok (r := r) (p := p) k 2 (by omega) hs2).1
          omega
      obtain ⟨q, e, hq1, hq2, hq3⟩ := desc_ok ha (nrem - 2) 2 (by omega) (by omega) hfall
      have e2 : ev (ltR r) (kas_descPart 1 nrem p) = ev (ltR r) (kas_tail3 q nrem p) := by
        unfold kas_descPart
        rw [ev_bind, e, if_neg (Nat.lt_irrefl 0)]
      rw [e2]
      obtain ⟨x1, x2, x3, x4⟩ := tail3_ok (r := r) (n := q) (nrem := nrem) (by omega) (by omega) hz hq3
      exact ⟨by omega, x2, x3, x4⟩
/-- the sort sorts -/
theorem sort_ok {n : Nat} (h1 : 1 ≤ n) (hr : ∀ i j, i < n → j < n → r i = r j → i = j) : SortedP r (ev (ltR r) (kas_sort n)) n ∧ (ev (ltR r) (kas_sort n)).Perm (List.range n).toArray := by
  have ha : Apt r (List.range n).toArray := by
    intro i j hi hj h
    simp at hi hj
    have gi : (List.range n).toArray.getD i 0 = i := by simp [Array.getD_eq_getD_getElem?, hi]
    have gj : (List.range n).toArray.getD j 0 = j := by simp [Array.getD_eq_getD_getElem?, hj]
    rw [gi, gj] at h
    exact hr i j hi hj h
  obtain ⟨a, b, c, d⟩ := count_ok (nrem := n) ha h1 (by simp)
  unfold kas_sort
  rw [ev_bind]
  generalize ev (ltR r) (kas_count n (List.range n).toArray) = q at a b c d
  have hsz : q.2.size = n := by rw [d.size_eq]; simp
  by_cases hq : q.1 < n
  · rw [if_pos hq]
    have e : max q.1 1 = q.1 := by omega
    rw [e]
    obtain ⟨x, y⟩ := bin_ok (n - q.1) q.2 q.1 c (by omega)
    rw [show q.1 + (n - q.1) = n by omega] at x
    exact ⟨x, y.trans d⟩
  · rw [if_neg hq]
    have e : q.1 = n := by omega
    rw [e] at c
    exact ⟨c, d⟩
end
/-- a permutation of the places below n -/
noncomputable def Bd (n : Nat) (p : Array Nat) : Prop := 0 < n ∧ p.Perm (List.range n).toArray
theorem Bd.size {n : Nat} {p : Array Nat} (h : Bd n p) : p.size = n := by rw [h.2.size_eq]; simp
theorem Bd.get {n : Nat} {p : Array Nat} (h : Bd n p) (i : Nat) : p.getD i 0 < n := by
  by_cases hi : i < p.size
  · have e : p.getD i 0 = p[i] := by simp [Array.getD, hi]
    rw [e]
    have hm := h.2.mem_iff.mp (Array.getElem_mem hi)
    simpa using hm
  · have e : p.getD i 0 = 0 := by simp [Array.getD, hi]
    rw [e]; exact h.1
theorem Bd.ne {n : Nat} {p : Array Nat} (h : Bd n p) {i j : Nat} (hi : i < n) (hj : j < n) (hij : i ≠ j) : p.getD i 0 ≠ p.getD j 0 := by
  have hnd : p.toList.Nodup := (Array.perm_iff_toList_perm.mp h.2).nodup_iff.mpr (by simpa using List.nodup_range)
  have hs := h.size
  have ei : p.getD i 0 = p[i] := by simp [Array.getD, hs ▸ hi]
  have ej : p.getD j 0 = p[j] := by simp [Array.getD, hs ▸ hj]
  rw [ei, ej]
  intro e
  have hi' : i < p.toList.length := by simpa using hs ▸ hi
  have hj' : j < p.toList.length := by simpa using hs ▸ hj
  have e2 : p.toList[i] = p.toList[j] := by simpa using e
  exact hij ((List.getElem_inj hnd).mp e2)
theorem Bd.perm {n : Nat} {p q : Array Nat} (h : Bd n p) (hp : q.Perm p) : Bd n q := ⟨h.1, hp.trans h.2⟩
section
variable {lt : Nat → Nat → Bool} {n : Nat}
theorem AsksIn.ite {α : Type} {c : Prop} [Decidable c] {t u : KasT α} (ht : AsksIn lt n t) (hu : AsksIn lt n u) : AsksIn lt n (if c then t else u) := by
  by_cases h : c
  · rw [if_pos h]; exact ht
  · rw [if_neg h]; exact hu
theorem asc_in {p : Array Nat} (h : Bd n p) : ∀ f a, 1 ≤ a → a + f ≤ n → AsksIn lt n (kas_asc p f a) ∧ a ≤ ev lt (kas_asc p f a) ∧ ev lt (kas_asc p f a) ≤ a + f
  | 0, _, _, _ => ⟨trivial, Nat.le_refl _, Nat.le_refl _⟩
  | f + 1, a, h1, h2 => by
    obtain ⟨x, y, z⟩ := asc_in h f (a + 1) (by omega) (by omega)
    have e : ev lt (kas_asc p (f + 1) a) = ev lt (if lt (p.getD a 0) (p.getD (a - 1) 0) = true then .ret a else kas_asc p f (a + 1)) := rfl
    refine ⟨⟨h.get _, h.get _, h.ne (by omega) (by omega) (by omega), AsksIn.ite trivial x⟩, ?_⟩
    rw [e]
    by_cases c : lt (p.getD a 0) (p.getD (a - 1) 0) = true
    · rw [if_pos c]; exact ⟨Nat.le_refl _, Nat.le_add_right _ _⟩
    · rw [if_neg c]; exact ⟨by omega, by omega⟩
theorem desc_in : ∀ f (p : Array Nat) a q, Bd n p → 1 ≤ a → a + f ≤ n → AsksIn lt n (kas_desc f p a q) ∧ Bd n (ev lt (kas_desc f p a q)).1 ∧ a ≤ (ev lt (kas_desc f p a q)).2.1 ∧ (ev lt (kas_desc f p a q)).2.1 ≤ a + f
  | 0, _, _, _, h, _, _ => ⟨trivial, h, Nat.le_refl _, Nat.le_refl _⟩
  | f + 1, p, a, q, h, ha, hf => by
    have h1 := desc_in f (kas_rev p (a - (q + 1)) a) (a + 1) 0 (h.perm (mirror_perm _ _ _ _)) (by omega) (by omega)
    have h2 := desc_in f p (a + 1) 0 h (by omega) (by omega)
    have h3 := desc_in f p (a + 1) (q + 1) h (by omega) (by omega)
    have e : ev lt (kas_desc (f + 1) p a q) = ev lt (if lt (p.getD a 0) (p.getD (a - 1) 0) = true then (if q > 0 then kas_desc f (kas_rev p (a - (q + 1)) a) (a + 1) 0 else kas_desc f p (a + 1) 0)
      else KasT.ask (p.getD (a - 1) 0) (p.getD a 0) fun d => if d = true then .ret (p, a, q) else kas_desc f p (a + 1) (q + 1)) := rfl
    refine ⟨⟨h.get _, h.get _, h.ne (by omega) (by omega) (by omega), ?_⟩, ?_⟩
    · refine AsksIn.ite (AsksIn.ite h1.1 h2.1) ⟨h.get _, h.get _, h.ne (by omega) (by omega) (by omega), AsksIn.ite trivial h3.1⟩
    · rw [e]
      by_cases c1 : lt (p.getD a 0) (p.getD (a - 1) 0) = true
      · rw [if_pos c1]
        by_cases c2 : q > 0
        · rw [if_pos c2]; exact ⟨h1.2.1, by omega, by omega⟩
        · rw [if_neg c2]; exact ⟨h2.2.1, by omega, by omega⟩
      · rw [if_neg c1]
        show Bd n (ev lt (if lt (p.getD (a - 1) 0) (p.getD a 0) = true then KasT.ret (p, a, q) else kas_desc f p (a + 1) (q + 1))).1 ∧ a ≤ (ev lt (if lt (p.getD (a - 1) 0) (p.getD a 0) = true then KasT.ret (p, a, q) else kas_desc f p (a + 1) (q + 1))).2.1 ∧ (ev lt (if lt (p.getD (a - 1) 0) (p.getD a 0) = true then KasT.ret (p, a, q) else kas_desc f p (a + 1) (q + 1))).2.1 ≤ a + (f + 1)
        by_cases c2 : lt (p.getD (a - 1) 0) (p.getD a 0) = true
        · rw [if_pos c2]; exact ⟨h, Nat.le_refl _, Nat.le_add_right _ _⟩
        · rw [if_neg c2]; exact ⟨h3.2.1, by omega, by omega⟩
theorem tail3_in {p : Array Nat} (h : Bd n p) (a m : Nat) (ha : 1 ≤ a) (ham : a ≤ m) (hm : m ≤ n) : AsksIn lt n (kas_tail3 a m p) ∧ Bd n (ev lt (kas_tail3 a m p)).2 := by
  unfold kas_tail3
  have hb : Bd n (kas_rev p 0 a) := h.perm (mirror_perm _ _ _ _)
  refine ⟨asks_bind _ (asc_in hb _ _ ha (by omega)).1 trivial, ?_⟩
  rw [ev_bind]; exact hb
theorem descPart_in {p : Array Nat} (h : Bd n p) (a m : Nat) (ham : a < m) (hm : m ≤ n) : AsksIn lt n (kas_descPart a m p) ∧ Bd n (ev lt (kas_descPart a m p)).2 := by
  unfold kas_descPart
  obtain ⟨d1, d2, d3, d4⟩ := desc_in (lt := lt) (m - (a + 1)) p (a + 1) 0 h (by omega) (by omega)
  rw [ev_bind]
  generalize hq : ev lt (kas_desc (m - (a + 1)) p (a + 1) 0) = q at d2 d3 d4
  have hb : Bd n (kas_rev q.1 (q.2.1 - (q.2.2 + 1)) q.2.1) := d2.perm (mirror_perm _ _ _ _)
  constructor
  · refine asks_bind _ d1 ?_
    rw [hq]
    exact AsksIn.ite (tail3_in hb _ _ (by omega) (by omega) hm).1 (tail3_in d2 _ _ (by omega) (by omega) hm).1
  · by_cases c : q.2.2 > 0
    · rw [if_pos c]; exact (tail3_in hb _ _ (by omega) (by omega) hm).2
    · rw [if_neg c]; exact (tail3_in d2 _ _ (by omega) (by omega) hm).2
theorem count_in {p : Array Nat} (h : Bd n p) (m : Nat) (h1 : 1 ≤ m) (hm : m ≤ n) : AsksIn lt n (kas_count m p) ∧ Bd n (ev lt (kas_count m p)).2 := by
  unfold kas_count
  rw [ev_bind]
  obtain ⟨x, y, z⟩ := asc_in (lt := lt) h (m - 1) 1 (Nat.le_refl _) (by omega)
  generalize hq : ev lt (kas_asc p (m - 1) 1) = a at y z
  have hb : Bd n (kas_rev p 0 a) := h.perm (mirror_perm _ _ _ _)
  by_cases c0 : (a == m) = true
  · refine ⟨asks_bind _ x ?_, ?_⟩
    · rw [hq, if_pos c0]; trivial
    · rw [if_pos c0]; exact h
  have c9 : a ≠ m := by simpa using c0
  have ham : a < m := by omega
  constructor
  · refine asks_bind _ x ?_
    rw [hq, if_neg c0]
    by_cases c2 : a > 1
    · rw [if_pos c2]
      exact ⟨h.get _, h.get _, h.ne (by omega) (by omega) (by omega), AsksIn.ite trivial (descPart_in hb _ _ ham hm).1⟩
    · rw [if_neg c2]; exact (descPart_in h _ _ ham hm).1
  · rw [if_neg c0]
    by_cases c2 : a > 1
    · rw [if_pos c2]
      show Bd n (ev lt (if lt (p.getD 0 0) (p.getD (a - 1) 0) = true then KasT.ret (a, p) else kas_descPart a m (kas_rev p 0 a))).2
      by_cases c3 : lt (p.getD 0 0) (p.getD (a - 1) 0) = true
      · rw [if_pos c3]; exact h
      · rw [if_neg c3]; exact (descPart_in hb _ _ ham hm).2
    · rw [if_neg c2]; exact (descPart_in h _ _ ham hm).2
theorem place_in {p : Array Nat} (h : Bd n p) (k : Nat) (hk : k < n) : ∀ f l m, m ≤ k → AsksIn lt n (kas_place p k f l m)
  | 0, _, _, _ => trivial
  | f + 1, l, m, hm => by
    show AsksIn lt n (if l ≥ m then .ret l else _)
    by_cases c : l ≥ m
    · rw [if_pos c]; trivial
    · rw [if_neg c]
      exact ⟨h.get _, h.get _, h.ne hk (by omega) (by omega), AsksIn.ite (place_in h k hk f _ _ (by omega)) (place_in h k hk f _ _ hm)⟩
theorem bin_in : ∀ f (p : Array Nat) k, Bd n p → k + f ≤ n → AsksIn lt n (kas_bin f p k) ∧ Bd n (ev lt (kas_bin f p k))
  | 0, _, _, h, _ => ⟨trivial, h⟩
  | f + 1, p, k, h, hk => by
    have hb := fun l => bin_in f (bubble p k (k - l)) (k + 1) (h.perm (bubble_perm _ _ _)) (by omega)
    refine ⟨asks_bind _ (place_in h k (by omega) _ _ _ (Nat.le_refl _)) (hb _).1, ?_⟩
    show Bd n (ev lt ((kas_place p k k 0 k).bind fun l => kas_bin f (bubble p k (k - l)) (k + 1)))
    rw [ev_bind]
    exact (hb _).2
theorem sort_in (h1 : 1 ≤ n) : AsksIn lt n (kas_sort n) ∧ (ev lt (kas_sort n)).Perm (List.range n).toArray := by
  have hb : Bd n (List.range n).toArray := ⟨h1, Array.Perm.refl _⟩
  obtain ⟨a, b⟩ := count_in (lt := lt) hb n h1 (Nat.le_refl _)
  unfold kas_sort
  constructor
  · refine asks_bind _ a ?_
    generalize ev lt (kas_count n (List.range n).toArray) = q at b
    by_cases c : q.1 < n
    · rw [if_pos c]; exact (bin_in _ _ _ b (by omega)).1
    · rw [if_neg c]; trivial
  rw [ev_bind]
  generalize ev lt (kas_count n (List.range n).toArray) = q at b
  by_cases c : q.1 < n
  · rw [if_pos c]; exact (bin_in _ _ _ b (by omega)).2.2
  · rw [if_neg c]; exact b.2
/-- the same answers, the same sort -/
theorem ev_congr {α : Type} {lt' : Nat → Nat → Bool} (hc : ∀ i j, i < n → j < n → i ≠ j → lt i j = lt' i j) : ∀ t : KasT α, AsksIn lt n t → ev lt t = ev lt' t
  | .ret _, _ => rfl
  | .ask i j k, ⟨h1, h2, h3, h4⟩ => by
    have e := hc i j h1 h2 h3
    show ev lt (k (lt i j)) = ev lt' (k (lt' i j))
    rw [ev_congr hc _ h4, e]
end
end
section
open PySem PySem.W PyProof.Rows PySem.Calls
/-- what _law_ahead answers -/
noncomputable def cmpP (ps : List Place) (p q : Place) : Int := if comP p q = p then -1 else if comP p q = q then 1 else (ps.idxOf (belowP (comP p q) p) : Nat) - (ps.idxOf (belowP (comP p q) q) : Nat)
/-- the walk's places, in its order -/
noncomputable def walkP (W : List (Place × Bool)) : Nat → Place → List (Place × Bool)
  | 0, _ => []
  | k + 1, p => (kidNames W p).flatMap fun n => if (n :: p, false) ∈ W then (n :: p, false) :: walkP W k (n :: p) else [(n :: p, true)]
theorem q_parts : ∀ q ∈ allQ, ∀ n, q.head? = some n → n ∈ lets ∧ q.tail ∈ allP ∧ q.tail.length ≤ 2 := by
  have h : ∀ q ∈ allQ, (∀ n ∈ q.head?.toList, n ∈ lets) ∧ q.tail ∈ allP ∧ q.tail.length ≤ 2 := by decide +kernel
  intro q hq n hn
  obtain ⟨a, b, c⟩ := h q hq
  exact ⟨a n (by rw [hn]; exact .head _), b, c⟩
section
variable {W : List (Place × Bool)}
theorem subT_walk (inQ : ∀ q ∈ W, q.1 ∈ allQ) : ∀ k p, p ∈ allP → subT W k p (pstr p) = (walkP W k p).map fun q => (pstr q.1, q.2)
  | 0, _, _ => rfl
  | k + 1, p, hp => by
    unfold subT walkP
    rw [List.map_flatMap]
    rw [List.flatMap_def, List.flatMap_def]
    congr 1
    apply List.map_congr_left
    intro n hn
    obtain ⟨b, hb⟩ := kidNames_mem.mp hn
    have hq := inQ _ hb
    obtain ⟨h1, h2, h3⟩ := q_parts _ hq n rfl
    have e : joinS (pstr p) n = pstr (n :: p) := t_join p hp h3 n h1
    rw [e]
    by_cases hc : (n :: p, false) ∈ W
    · rw [if_pos hc, if_pos hc, List.map_cons, subT_walk inQ k (n :: p) (.tail _ hq)]
    · rw [if_neg hc, if_neg hc]; rfl
theorem walk_sub (K : WOk W) : ∀ k p q, q ∈ walkP W k p → q ∈ W ∧ ∃ a n, q.1 = a ++ n :: p
  | 0, _, _, h => (nomatch h)
  | k + 1, p, q, h => by
    unfold walkP at h
    obtain ⟨n, hn, h⟩ := List.mem_flatMap.mp h
    obtain ⟨b, hb⟩ := kidNames_mem.mp hn
    by_cases hc : (n :: p, false) ∈ W
    · rw [if_pos hc] at h
      rcases List.mem_cons.mp h with rfl | h
      · exact ⟨hc, [], n, rfl⟩
      · obtain ⟨h1, a, n', e⟩ := walk_sub K k (n :: p) q h
        exact ⟨h1, a ++ [n'], n, by rw [e]; simp⟩
    · rw [if_neg hc, List.mem_singleton] at h
      subst h
      cases b with
      | false => exact absurd hb hc
      | true => exact ⟨hb, [], n, rfl⟩
theorem up_dir (K : WOk W) : ∀ (a : List Str) (n : Str) (p : Place) (b : Bool) (m : Str), (m :: a ++ n :: p, b) ∈ W → (n :: p, false) ∈ W
  | [], n, p, b, m, h => (K.up m (n :: p) b h).elim (fun e => by cases e) id
  | c :: a, n, p, b, m, h => (K.up m (c :: a ++ n :: p) b h).elim (fun e => by cases e) fun h => up_dir K a n p _ c h
theorem walk_sup (K : WOk W) : ∀ k p q, q ∈ W → (∃ a n, q.1 = a ++ n :: p ∧ a.length < k) → q ∈ walkP W k p
  | 0, _, _, _, ⟨_, _, _, h⟩ => absurd h (Nat.not_lt_zero _)
  | k + 1, p, (x, b), hq, ⟨a, n, e, hl⟩ => by
    dsimp only at e
    subst e
    unfold walkP
    refine List.mem_flatMap.mpr ⟨n, ?_⟩
    cases a with
    | nil =>
      refine ⟨kidNames_mem.mpr ⟨b, hq⟩, ?_⟩
      by_cases hc : (n :: p, false) ∈ W
      · rw [if_pos hc]
        have : b = false := K.one hq hc
        subst this
        exact .head _
      · rw [if_neg hc]
        cases b with
        | false => exact absurd hq hc
        | true => exact .head _
    | cons m a =>
      have hd := up_dir K a n p b m hq
      refine ⟨kidNames_mem.mpr ⟨false, hd⟩, ?_⟩
      rw [if_pos hd]
      refine .tail _ (walk_sup K k (n :: p) _ hq ?_)
      rcases List.eq_nil_or_concat (m :: a) with h | ⟨a', m', h⟩
      · cases h
      · refine ⟨a', m', by show m :: a ++ n :: p = _; rw [h]; simp, ?_⟩
        have := congrArg List.length h
        simp at this hl
        omega
/-- one comes before the other -/
noncomputable def Before (ps : List Place) (x y : Place) : Prop := comP x y ≠ y ∧ cmpP ps x y < 0
end
theorem preL_app {n1 n2 : Str} (hn : n1 ≠ n2) (a b : List Str) : ∀ p : List Str, preL (p ++ n1 :: a) (p ++ n2 :: b) = p
  | [] => by show preL (n1 :: a) (n2 :: b) = []; unfold preL; rw [if_neg hn]
  | x :: p => by show preL (x :: (p ++ n1 :: a)) (x :: (p ++ n2 :: b)) = x :: p; unfold preL; rw [if_pos rfl, preL_app hn a b p]
theorem preL_pre (a : List Str) : ∀ p : List Str, preL p (p ++ a) = p
  | [] => rfl
  | x :: p => by show preL (x :: p) (x :: (p ++ a)) = x :: p; unfold preL; rw [if_pos rfl, preL_pre a p]
theorem com_fork {n1 n2 : Str} (hn : n1 ≠ n2) (a b p : List Str) : comP (a ++ n1 :: p) (b ++ n2 :: p) = p := by
  unfold comP
  have e1 : (a ++ n1 :: p).reverse = p.reverse ++ n1 :: a.reverse := by simp
  have e2 : (b ++ n2 :: p).reverse = p.reverse ++ n2 :: b.reverse := by simp
  rw [e1, e2, preL_app hn, List.reverse_reverse]
theorem com_pre (a p : List Str) : comP p (a ++ p) = p := by
  unfold comP
  rw [List.reverse_append, preL_pre, List.reverse_reverse]
theorem below_app (a : List Str) (n : Str) (p : Place) : belowP p (a ++ n :: p) = n :: p := by
  unfold belowP
  have : (a ++ n :: p).length - (p.length + 1) = a.length := by simp
  rw [this, List.drop_left]
theorem ne_app (a : List Str) (n : Str) (p : Place) : p ≠ a ++ n :: p := fun h => by
  have := congrArg List.length h
  simp at this
  omega
section
variable {W : List (Place × Bool)}
theorem idx_nodup {ps : List Place} (h : ps.Nodup) : ps.Pairwise fun x y => ps.idxOf x < ps.idxOf y := by
  rw [List.pairwise_iff_getElem]
  intro i j hi hj hij
  rw [h.idxOf_getElem, h.idxOf_getElem]
  exact hij
theorem kid_order (K : WOk W) (p : Place) : (kidNames W p).Pairwise fun n1 n2 => n1 ≠ n2 ∧ (W.map (·.1)).idxOf (n1 :: p) < (W.map (·.1)).idxOf (n2 :: p) := by
  unfold kidNames
  rw [List.pairwise_filterMap]
  have h := idx_nodup K.nodup
  rw [List.pairwise_map] at h
  refine h.imp ?_
  rintro ⟨x, b⟩ ⟨y, c⟩ hlt n1 h1 n2 h2
  dsimp only at hlt
  have g : ∀ {x : Place} {b : Bool} {n : Str}, kidOf p (x, b) = some n → x = n :: p := by
    intro x b n h
    cases x with
    | nil => cases h
    | cons m r =>
      by_cases e : r = p
      · simp only [kidOf, if_pos e] at h; cases h; rw [e]
      · simp only [kidOf, if_neg e] at h; cases h
  rw [g h1, g h2] at hlt
  refine ⟨fun e => ?_, hlt⟩
  rw [e] at hlt
  exact Nat.lt_irrefl _ hlt
theorem walk_before (K : WOk W) : ∀ k p, (walkP W k p).Pairwise fun x y => Before (W.map (·.1)) x.1 y.1
  | 0, _ => List.Pairwise.nil
  | k + 1, p => by
    unfold walkP
    rw [List.pairwise_flatMap]
    constructor
    · intro n hn
      by_cases hc : (n :: p, false) ∈ W
      · rw [if_pos hc, List.pairwise_cons]
        refine ⟨fun q hq => ?_, walk_before K k (n :: p)⟩
        obtain ⟨_, a, n', e⟩ := walk_sub K k _ q hq
        dsimp only
        rw [e]
        have ec : comP (n :: p) (a ++ n' :: n :: p) = n :: p := by
          have := com_pre (a ++ [n']) (n :: p)
          rwa [List.append_assoc] at this
        refine ⟨by rw [ec]; exact ne_app a n' (n :: p), ?_⟩
        unfold cmpP
        rw [if_pos ec]; decide
      · rw [if_neg hc]; exact List.pairwise_singleton _ _
    · refine (kid_order K p).imp ?_
      intro n1 n2 ⟨hne, hlt⟩ x hx y hy
      have g : ∀ n (q : Place × Bool), q ∈ (if (n :: p, false) ∈ W then (n :: p, false) :: walkP W k (n :: p) else [(n :: p, true)]) → ∃ a, q.1 = a ++ n :: p := by
        intro n q hq
        by_cases hc : (n :: p, false) ∈ W
        · rw [if_pos hc] at hq
          rcases List.mem_cons.mp hq with rfl | hq
          · exact ⟨[], rfl⟩
          · obtain ⟨_, a, n', e⟩ := walk_sub K k _ q hq
            exact ⟨a ++ [n'], by rw [e]; simp⟩
        · rw [if_neg hc, List.mem_singleton] at hq
          exact ⟨[], by rw [hq]; rfl⟩
      obtain ⟨a, ea⟩ := g n1 x hx
      obtain ⟨b, eb⟩ := g n2 y hy
      rw [ea, eb]
      have ec := com_fork hne a b p
      refine ⟨by rw [ec]; exact ne_app b n2 p, ?_⟩
      unfold cmpP
      rw [ec, if_neg (ne_app a n1 p), if_neg (ne_app b n2 p), below_app, below_app]
      omega
theorem com_self (x : Place) : comP x x = x := com_pre [] x
theorem com_comm : ∀ x ∈ allQ, ∀ y ∈ allQ, comP x y = comP y x := by decide +kernel
theorem before_not {ps : List Place} {x y : Place} (hx : x ∈ allQ) (hy : y ∈ allQ) (h : Before ps x y) : ¬ cmpP ps y x < 0 := by
  obtain ⟨h1, h2⟩ := h
  have e := com_comm x hx y hy
  rw [e] at h1
  unfold cmpP at h2 ⊢
  rw [if_neg h1]
  rw [e] at h2
  by_cases c : comP y x = x
  · rw [if_pos c]; decide
  · rw [if_neg c]
    rw [if_neg c, if_neg h1] at h2
    omega
noncomputable abbrev walkT (W : List (Place × Bool)) : List Place := (walkP W 4 []).map (·.1)
theorem walkT_before (K : WOk W) : (walkT W).Pairwise (Before (W.map (·.1))) := List.pairwise_map.mpr (walk_before K 4 [])
theorem walkT_nodup (K : WOk W) : (walkT W).Nodup := (walkT_before K).imp fun h e => h.1 (by rw [e]; exact com_self _)
theorem walkT_mem (K : WOk W) (inQ : ∀ q ∈ W, q.1 ∈ allQ) (x : Place) : x ∈ walkT W ↔ x ∈ W.map (·.1) := by
  constructor
  · intro h
    obtain ⟨q, hq, rfl⟩ := List.mem_map.mp h
    exact List.mem_map_of_mem (walk_sub K _ _ q hq).1
  · intro h
    obtain ⟨q, hq, rfl⟩ := List.mem_map.mp h
    refine List.mem_map_of_mem (walk_sup K _ _ q hq ?_)
    have hQ := inQ q hq
    have h3 : ∀ q ∈ allQ, q.length ≤ 3 ∧ q ≠ [] := by decide +kernel
    obtain ⟨h4, h5⟩ := h3 _ hQ
    rcases List.eq_nil_or_concat q.1 with h | ⟨a, n, h⟩
    · exact absurd h h5
    · refine ⟨a, n, by rw [h, List.concat_eq_append], ?_⟩
      rw [h] at h4
      simp at h4
      omega
theorem walkT_perm (K : WOk W) (inQ : ∀ q ∈ W, q.1 ∈ allQ) : (walkT W).Perm (W.map (·.1)) := (List.perm_ext_iff_of_nodup (walkT_nodup K) K.nodup).mpr (walkT_mem K inQ)
/-- the comparison is that of the walk's order -/
theorem cmp_rank (K : WOk W) (inQ : ∀ q ∈ W, q.1 ∈ allQ) {x y : Place} (hx : x ∈ W.map (·.1)) (hy : y ∈ W.map (·.1)) (hne : x ≠ y) : decide (cmpP (W.map (·.1)) x y < 0) = decide ((walkT W).idxOf x < (walkT W).idxOf y) := by
  have hQ : ∀ z ∈ W.map (·.1), z ∈ allQ := fun z hz => by obtain ⟨q, hq, rfl⟩ := List.mem_map.mp hz; exact inQ q hq
  have hx' := (walkT_mem K inQ x).mpr hx
  have hy' := (walkT_mem K inQ y).mpr hy
  have ix := List.idxOf_lt_length_iff.mpr hx'
  have iy := List.idxOf_lt_length_iff.mpr hy'
  have gx := List.getElem_idxOf ix
  have gy := List.getElem_idxOf iy
  have P := List.pairwise_iff_getElem.mp (walkT_before K)
  rw [Bool.eq_iff_iff, decide_eq_true_iff, decide_eq_true_iff]
  constructor
  · intro h
    rcases Nat.lt_trichotomy ((walkT W).idxOf x) ((walkT W).idxOf y) with h1 | h1 | h1
    · exact h1
    · exfalso; apply hne; rw [← gx, ← gy]; simp only [h1]
    · have := P _ _ iy ix h1
      rw [gx, gy] at this
      exact absurd h (before_not (hQ y hy) (hQ x hx) this)
  · intro h
    have := P _ _ ix iy h
    rw [gx, gy] at this
    exact this.2
theorem ways_up (K : WOk W) {p q : Place} (hp : p ∈ W.map (·.1)) (hq : q ∈ (upsOf p).tail) : belowP q p ∈ W.map (·.1) := by
  obtain ⟨⟨x, b⟩, hx, e⟩ := List.mem_map.mp hp
  dsimp only at e
  subst e
  have g : ∀ x : Place, q ∈ (upsOf x).tail → ∃ a n, x = a ++ n :: q := by
    intro x
    induction x with
    | nil => intro h; cases h
    | cons m r ih =>
      intro h
      cases r with
      | nil =>
        simp only [upsOf, List.tail_cons, List.mem_singleton] at h
        exact ⟨[], m, by rw [h]; rfl⟩
      | cons m' r' =>
        have h' : q = m' :: r' ∨ q ∈ (upsOf (m' :: r')).tail := by simpa [upsOf] using h
        rcases h' with rfl | h'
        · exact ⟨[], m, rfl⟩
        · obtain ⟨a, n, e⟩ := ih h'
          exact ⟨m :: a, n, by rw [e]; rfl⟩
  obtain ⟨a, n, e⟩ := g x hq
  subst e
  rw [below_app]
  cases a with
  | nil => exact hp
  | cons m a => exact List.mem_map_of_mem (f := (·.1)) (up_dir K a n q b m hx)
end
end
section
open PySem PySem.W PyProof.Rows PySem.Calls
set_option maxRecDepth 100000





noncomputable def aheadDef (K : Frag) : Option (Str × Arguments × List Stmt × Scope) := match K.lookup 210 with
  | some ⟨_, _, .func fd, _⟩ => (match fd.body with
    | .stmts (.FunctionDef name params body _ _ _ sc _ _ _ :: _) => some (name, params, body, sc)
    | _ => none)
  | _ => none
/-- the function _law_ahead, made -/
structure AhIs (w : World) (lw : Addr) (h : Heap) (f : Addr) : Prop where
  ex : ∃ qAh name params body sc dc pm cd ct cw ow, aheadDef (hd.heap_1 w.params) = some (name, params, body, sc) ∧ h.get? f = some (fnMade name qAh params body sc [(Str.ofString "ways", cw)] dc pm cd ct) ∧ h.CodeRec (.ref cd) qAh ∧ h.get? cw = some ow ∧ ow.data = .cell (some (.ref lw))
theorem AhIs.keeps {w : World} {lw : Addr} {h h' : Heap} {f : Addr} (I : AhIs w lw h f) (k : ∀ b o, h.get? b = some o → h'.get? b = some o) : AhIs w lw h' f := by
  obtain ⟨qn, n, p, b, sc, dc, pm, cd, ct, cw, ow, e1, e2, e3, e4, e5⟩ := I.ex
  exact ⟨qn, n, p, b, sc, dc, pm, cd, ct, cw, ow, e1, k _ _ e2, e3.keeps k, k _ _ e4, e5⟩
theorem com_c3 (w : World) (p q : Place) (t t2 : Tok) (l : Addr) (s : Shared) (hl : s.heap.IsList l #[.str (pstr p) t, .str (pstr q) t2]) (hp : p ∈ allP) (hq : q ∈ allP) : RCall w (.ref 177) [.ref l] 900 8000 s (PStr (pstr (comP p q))) := by
  rw [← t_com p hp q hq]
  exact common_c w _ _ t t2 l s (Nat.le_trans (t_len p hp) (by decide)) (Nat.le_trans (t_len q hq) (by decide)) (t_starts p hp) (t_split p hp) (t_split q hq) (t_starts q hq) hl
theorem com_tail : ∀ p ∈ allQ, ∀ q ∈ allQ, comP p q ≠ p → comP p q ∈ (upsOf p).tail := by decide +kernel
theorem com_tail2 : ∀ p ∈ allQ, ∀ q ∈ allQ, comP p q ≠ q → comP p q ∈ (upsOf q).tail := by decide +kernel
theorem branch_c3 (w : World) (p q : Place) (t t2 : Tok) (s : Shared) (hp : p ∈ allP) (hq : q ∈ (upsOf p).tail) : RCall w (.ref 203) [.str (pstr p) t, .str (pstr q) t2] 950 8800 s (PStr (pstr (belowP q p))) :=
  branch_c w _ _ _ t t2 s (t_branch p hp q hq)
noncomputable abbrev PInt (i : Int) : Heap → Value → Prop := fun _ v => ∃ t, v = .int i t
theorem pend_int {g : Heap} {s : Shared} {i j : Int} {t : Tok} {L' : Addr} {m' : Str → Option Value} {h' : Heap} {tk' : Nat} (F : Fr g L' h' m') (e : j = i) : PEnd g s (PInt i) (.int j t) { s with heap := h', toks := tk' } := ⟨L', m', h', tk', rfl, F, ⟨t, by rw [e]⟩⟩
theorem t_eq {p q : Place} (hp : p ∈ allP) (hq : q ∈ allP) : (pstr p == pstr q) = decide (p = q) := by
  rw [Bool.eq_iff_iff, beq_iff_eq, decide_eq_true_iff]
  exact ⟨t_inj p hp q hq, fun e => by rw [e]⟩
theorem t_nb {p q : Place} (h : (pstr p == pstr q) = false) : p ≠ q := fun e => by rw [e] at h; simp at h
theorem t_yb {p q : Place} (hp : p ∈ allP) (hq : q ∈ allP) (h : (pstr p == pstr q) = true) : p = q := t_inj p hp q hq (beq_iff_eq.mp h)
theorem idx_map {x : Place} (hx : x ∈ allP) : ∀ {ps : List Place}, (∀ y ∈ ps, y ∈ allQ) → (ps.map pstr).idxOf (pstr x) = ps.idxOf x
  | [], _ => rfl
  | y :: r, h => by
    rw [List.map_cons, List.idxOf_cons, List.idxOf_cons, idx_map hx fun z hz => h z (.tail _ hz), t_eq (.tail _ (h y (.head _))) hx]
    congr 1
    rw [Bool.eq_iff_iff, decide_eq_true_iff, beq_iff_eq]
theorem com_in : ∀ p ∈ allQ, ∀ q ∈ allQ, comP p q ∈ allP := by decide +kernel
section
variable {prog : Program} {w : World} {A : Around} {E : Value → Shared → Prop} {s : Shared} {h₀ : Heap} {L : Addr} {m : Str → Option Value} {cn : Str} {cs : Scope} {a c l : Addr} {ccd : Value} {cl : List (Str × Addr)} {x : Str} {pos : Pos} {o : Obj} {v : Value} {Q : Value → Shared → Prop}
theorem nameX_B (F : Fr h₀ L s.heap m) (hc : cl.lookup x = some c) (ho : h₀.get? c = some o) (hd : o.data = .cell (some v)) (h : Q v s)
    (hk : cs.kind = .function := by rfl) (hx : (envX cn cs L a ccd cl).kindOf x = some .free := by rfl) (hb : (x == ("__debug__" : Str)) = false := by decide) (hn : (x == ("__classdict__" : Str)) = false := by decide) :
    wpAny (model prog w) A (eval (.Name x pos) (envX cn cs L a ccd cl)) Q E s := wpAny_Name (wpAny_loadName_free hk hx hc ⟨o, F.keep _ _ ho, hd⟩ h hn) hb
theorem listB_method {name : Str} {id : String} {pl : Sem Bool} {vs : List Value} {k : Nat} {Q : Value × List Value → Shared → Prop} (F : Fr h₀ L s.heap m) (ho : h₀.get? l = some (lstO vs k)) (slot : Slot "list" name id) (ht : typeOf (.builtin id) = pure (.type "method_descriptor"))
    (h : Q (.builtin id, [.ref l]) s) : wpAny (model prog w) A (getMethod (.ref l) name pl) Q E s :=
  getMethod_list_of slot ht ⟨_, F.keep _ _ ho, rfl, _, rfl⟩ ⟨_, F.keep _ _ ho, rfl⟩ h
/-- list.index of a text that is in the list -/
theorem index_strs {zs : List (Str × Tok)} {kw : Nat} {k : Str} {t : Tok} (F : Fr h₀ L s.heap m) (ho : h₀.get? l = some (lstO (strValues zs) kw)) (hk : k ∈ zs.map (·.1)) (hz : zs.length ≤ 1000)
    (h : Q (.int ((zs.map (·.1)).idxOf k : Nat) s.toks) { s with toks := s.toks + 1 }) :
    wpAny (model prog w) A (call (.builtin "list.index") [.ref l, .str k t]) Q E s := by
  have hj : (zs.map (·.1)).idxOf k < (zs.map (·.1)).length := List.idxOf_lt_length_iff.mpr hk
  have hj2 : (zs.map (·.1)).idxOf k < zs.length := by simpa using hj
  have hsz : (strValues zs).toArray.size = zs.length := by simp [strValues]
  have at_ : ∀ j (h1 : j < (strValues zs).toArray.size) (h2 : j < (zs.map (·.1)).length), isStrOf k (strValues zs).toArray[j] = ((zs.map (·.1))[j] == k) := by
    intro j h1 h2
    simp [strValues, isStrOf]
  refine call_meets PySem.F.slot_list_index ⟨_, F.keep _ _ ho, rfl⟩ PySem.F.entry_list_index (PySem.F.args_list_index_2 _ _)
    (PySem.SeqAt.list_indexAt l (strValues zs).toArray kw none #[] (.str k t) (isStrOf k) ((zs.map (·.1)).idxOf k) (by rw [hsz]; exact hj2) (by omega) ?_ ?_) ⟨F.keep _ _ ho, fun y hy => (eq_isStrOf k t (strsAre_of_values zs) y (by simpa using hy)).at _ _, h⟩
  · rw [at_ _ _ hj, beq_iff_eq]
    exact List.getElem_idxOf hj
  · intro j hjs hlt
    have h2 : j < (zs.map (·.1)).length := Nat.lt_trans hlt hj
    rw [at_ j hjs h2]
    have hlt2 : j < List.findIdx (fun x => x == k) (zs.map (·.1)) := hlt
    have := List.not_of_lt_findIdx hlt2
    simpa using this
end
/-- the ways, as the law's list holds them -/
structure WaysOk (ps : List Place) (zs : List (Str × Tok)) : Prop where
  eq : zs.map (·.1) = ps.map pstr
  inQ : ∀ x ∈ ps, x ∈ allQ
  len : zs.length ≤ 1000
  up : ∀ p ∈ ps, ∀ q ∈ (upsOf p).tail, belowP q p ∈ ps
theorem WaysOk.idx {ps : List Place} {zs : List (Str × Tok)} (O : WaysOk ps zs) {x : Place} (hx : x ∈ ps) : (zs.map (·.1)).idxOf (pstr x) = ps.idxOf x := by rw [O.eq]; exact idx_map (.tail _ (O.inQ x hx)) O.inQ
theorem WaysOk.mem {ps : List Place} {zs : List (Str × Tok)} (O : WaysOk ps zs) {x : Place} (hx : x ∈ ps) : pstr x ∈ zs.map (·.1) := by rw [O.eq]; exact List.mem_map_of_mem hx
theorem index_P {prog : Program} {w : World} {A : Around} {E : Value → Shared → Prop} {s : Shared} {h₀ : Heap} {L l : Addr} {m : Str → Option Value} {Q : Value → Shared → Prop} {zs : List (Str × Tok)} {kw : Nat} {ps : List Place} {x : Place} {t : Tok} (O : WaysOk ps zs) (F : Fr h₀ L s.heap m) (ho : h₀.get? l = some (lstO (strValues zs) kw))
    (hx : x ∈ ps) (h : Q (.int (ps.idxOf x : Nat) s.toks) { s with toks := s.toks + 1 }) : wpAny (model prog w) A (call (.builtin "list.index") [.ref l, .str (pstr x) t]) Q E s :=
  index_strs F ho (O.mem hx) O.len (by rw [O.idx hx]; exact h)




set_option maxHeartbeats 8000000 in
theorem ahead_c (w : World) {lw f : Addr} {zs : List (Str × Tok)} {kw : Nat} {ps : List Place} {p q : Place} (t t2 : Tok) (s : Shared) (I : AhIs w lw s.heap f) (hl : s.heap.get? lw = some (lstO (strValues zs) kw)) (O : WaysOk ps zs) (hp : p ∈ ps) (hq : q ∈ ps) :
    RCall w (.ref f) [.str (pstr p) t, .str (pstr q) t2] 880 7800 s (PInt (cmpP ps p q)) := by
  obtain ⟨qAh, name, params, body, sc, dc, pm, cd, ct, cw, ow, e1, e2, e3, e4, e5⟩ := I.ex
  have ed : aheadDef (hd.heap_1 w.params) = some (_, _, _, _) := rfl
  have e9 := e1.symm.trans ed
  simp only [Option.some.injEq, Prod.mk.injEq] at e9
  obtain ⟨rfl, rfl, rfl, rfl⟩ := e9
  clear ed e1
  have hp1 := O.inQ p hp
  have hq1 := O.inQ q hq
  have hp2 : p ∈ allP := .tail _ hp1
  have hq2 : q ∈ allP := .tail _ hq1
  have hc2 := com_in p hp1 q hq1
  refine rcall_gen (pre := []) (h1 := s.heap) (tk1 := s.toks) (binds := [(Str.ofString "one", .str (pstr p) t), (Str.ofString "other", .str (pstr q) t2)]) e2 e3 (fun A E Q _ hq => BindsTo.of_eq rfl _ _ _ _ hq) (fun _ _ e => e) (fun _ hp => (nomatch hp)) (Nat.le_refl _) (locs rfl) rfl rfl rfl (by decide) ?_
  intro loose mean mg mb g L' h₁ hst F' N' X' T'
  replace hl := hst _ _ hl
  replace e4 := hst _ _ e4
  (try dsimp only); (try k_fold); (repeat' (first | (k_unfold; (try dsimp only)) | (k_end; wrow_close) | ((with_reducible show wpAny _ _ (call (Value.ref _) _) _ _ _); (k_here; k_dflt (first   | (refine' rcall_use (com_c3 _ _ _ _ _ _ _ (by exact News.isList (by k_asm) (by k_mem)) (by assumption) (by assumption)) (by k_asm) (by k_asm) (by k_asm) (by k_asm) (by exact rfl) (by exact Nat.le_of_ble_eq_true rfl) (by exact Nat.le_of_ble_eq_true rfl) ?_;   intro r9 h9 tk9 hp9 F9 N9 st9 sz9; (try (refine hideG fun G9 b9 => ?_; obtain ⟨t9, hp9⟩ := hp9; refine b9 ?_; clear b9 G9)); (try subst hp9); (try dsimp only); (try k_fold))   | (refine' rcall_use (branch_c3 _ _ _ _ _ _ (by assumption) (by first | exact com_tail _ (by assumption) _ (by assumption) (t_nb (by assumption)) | exact com_tail2 _ (by assumption) _ (by assumption) (t_nb (by assumption)))) (by k_asm) (by k_asm) (by k_asm) (by k_asm) (by exact rfl) (by exact Nat.le_of_ble_eq_true rfl) (by exact Nat.le_of_ble_eq_true rfl) ?_;   intro r9 h9 tk9 hp9 F9 N9 st9 sz9; (try (refine hideG fun G9 b9 => ?_; obtain ⟨t9, hp9⟩ := hp9; refine b9 ?_; clear b9 G9)); (try subst hp9); (try dsimp only); (try k_fold))))) | ((with_reducible show wpAny _ _ (call (Value.builtin "list.index") _) _ _ _); (k_here; k_dflt (refine' index_P (by assumption) (by k_asm) (by assumption) (by first | exact WaysOk.up (by assumption) _ (by assumption) _ (com_tail _ (by assumption) _ (by assumption) (t_nb (by assumption))) | exact WaysOk.up (by assumption) _ (by assumption) _ (com_tail2 _ (by assumption) _ (by assumption) (t_nb (by assumption)))) ?_; k_whole))) | ((with_reducible show wpAny _ _ (getMethod (Value.ref _) _ _) _ _ _); (k_here; k_dflt (refine' listB_method (by k_asm) (by assumption) PySem.F.slot_list_index PySem.F.type_list_index ?_; k_whole))) | ((with_reducible show wpAny _ _ (eval (PySem.Expr.Name _ _) _) _ _ _); (k_here; (with_reducible show wpAny _ _ (eval (Expr.Name _ _) (envX _ _ _ _ _ _)) _ _ _); k_dflt (refine' nameX_B (by k_asm) (by rfl) (by assumption) (by assumption) ?_ (by rfl) (by rfl); k_whole))) | ((with_reducible show wpAny _ _ (eval (PySem.Expr.Name _ _) _) _ _ _); (k_here; (with_reducible show wpAny _ _ (eval (Expr.Name _ _) (compEnvC _ _ _ (compEnvC _ _ _ _))) _ _ _); k_dflt (first   | (refine' lcf_cell (by k_asm) (by rfl) (by k_mem) (by k_asm) ?_ (by rfl) (by with_unfolding_all rfl); k_whole)   | (refine' lcf_free (by k_asm) (by rfl) (by k_mem) (by k_asm) ?_ (by rfl) (by with_unfolding_all rfl); k_whole)))) | walk1 | (dsimp only; (first | ((with_reducible show wpAny _ _ (call (Value.ref _) _) _ _ _); (k_here; k_dflt (first   | (refine' rcall_use (com_c3 _ _ _ _ _ _ _ (by exact News.isList (by k_asm) (by k_mem)) (by assumption) (by assumption)) (by k_asm) (by k_asm) (by k_asm) (by k_asm) (by exact rfl) (by exact Nat.le_of_ble_eq_true rfl) (by exact Nat.le_of_ble_eq_true rfl) ?_;   intro r9 h9 tk9 hp9 F9 N9 st9 sz9; (try (refine hideG fun G9 b9 => ?_; obtain ⟨t9, hp9⟩ := hp9; refine b9 ?_; clear b9 G9)); (try subst hp9); (try dsimp only); (try k_fold))   | (refine' rcall_use (branch_c3 _ _ _ _ _ _ (by assumption) (by first | exact com_tail _ (by assumption) _ (by assumption) (t_nb (by assumption)) | exact com_tail2 _ (by assumption) _ (by assumption) (t_nb (by assumption)))) (by k_asm) (by k_asm) (by k_asm) (by k_asm) (by exact rfl) (by exact Nat.le_of_ble_eq_true rfl) (by exact Nat.le_of_ble_eq_true rfl) ?_;   intro r9 h9 tk9 hp9 F9 N9 st9 sz9; (try (refine hideG fun G9 b9 => ?_; obtain ⟨t9, hp9⟩ := hp9; refine b9 ?_; clear b9 G9)); (try subst hp9); (try dsimp only); (try k_fold))))) | ((with_reducible show wpAny _ _ (call (Value.builtin "list.index") _) _ _ _); (k_here; k_dflt (refine' index_P (by assumption) (by k_asm) (by assumption) (by first | exact WaysOk.up (by assumption) _ (by assumption) _ (com_tail _ (by assumption) _ (by assumption) (t_nb (by assumption))) | exact WaysOk.up (by assumption) _ (by assumption) _ (com_tail2 _ (by assumption) _ (by assumption) (t_nb (by assumption)))) ?_; k_whole))) | ((with_reducible show wpAny _ _ (getMethod (Value.ref _) _ _) _ _ _); (k_here; k_dflt (refine' listB_method (by k_asm) (by assumption) PySem.F.slot_list_index PySem.F.type_list_index ?_; k_whole))) | ((with_reducible show wpAny _ _ (eval (PySem.Expr.Name _ _) _) _ _ _); (k_here; (with_reducible show wpAny _ _ (eval (Expr.Name _ _) (envX _ _ _ _ _ _)) _ _ _); k_dflt (refine' nameX_B (by k_asm) (by rfl) (by assumption) (by assumption) ?_ (by rfl) (by rfl); k_whole))) | ((with_reducible show wpAny _ _ (eval (PySem.Expr.Name _ _) _) _ _ _); (k_here; (with_reducible show wpAny _ _ (eval (Expr.Name _ _) (compEnvC _ _ _ (compEnvC _ _ _ _))) _ _ _); k_dflt (first   | (refine' lcf_cell (by k_asm) (by rfl) (by k_mem) (by k_asm) ?_ (by rfl) (by with_unfolding_all rfl); k_whole)   | (refine' lcf_free (by k_asm) (by rfl) (by k_mem) (by k_asm) ?_ (by rfl) (by with_unfolding_all rfl); k_whole)))) | walk1)) | (leave1; (try dsimp only)) | fail "no step"))
  · exact pend_int (by assumption) (by unfold cmpP; rw [if_pos (t_yb hc2 hp2 (by assumption))])
  · exact pend_int (by assumption) (by unfold cmpP; rw [if_neg (t_nb (by assumption)), if_pos (t_yb hc2 hq2 (by assumption))])
  · rename (pstr (comP p q) == pstr p) = false => g1
    rename (pstr (comP p q) == pstr q) = false => g2
    exact pend_int (by assumption) (by unfold cmpP; rw [if_neg (t_nb g1), if_neg (t_nb g2)])
end
section
open PySem PySem.W PyProof.Rows PySem.Calls PySem.W.X
set_option maxRecDepth 100000





/-- all that the comparison needs of a heap -/
structure AhAt (w : World) (f aK lw : Addr) (zs : List (Str × Tok)) (kw : Nat) (h : Heap) : Prop where
  k : KObjs w f h aK
  i : AhIs w lw h f
  l : h.get? lw = some (lstO (strValues zs) kw)
theorem AhAt.keeps {w : World} {f aK lw : Addr} {zs : List (Str × Tok)} {kw : Nat} {h h' : Heap} (I : AhAt w f aK lw zs kw h) (k : ∀ b o, h.get? b = some o → h'.get? b = some o) : AhAt w f aK lw zs kw h' := ⟨I.k.keeps k, I.i.keeps k, k _ _ I.l⟩
section
variable {w : World} {A : Around} {E : Value → Shared → Prop} {s : Shared} {h₀ : Heap} {L : Addr} {m : Str → Option Value} {news : List (Addr × Obj)} {Q : Value → Shared → Prop}
theorem getobj_K {f aK a da : Addr} {x : Str} {u : Tok} {ex : Bool} (K : KObjs w f h₀ aK) (ha : h₀.get? a = some (instK aK x u da)) (F : Fr h₀ L s.heap m) (N : News h₀ L s.heap news)
    (h : ∀ h' tk', Fr h₀ L h' m → News h₀ L h' news → Q (.str x u) { s with heap := h', toks := tk' }) : wpAny (model prog w) A (getAttr (.ref a) (Str.ofString "obj") ex) Q E s := by
  obtain ⟨hp, g, d, t, os⟩ := s
  refine k_getobj w (K.keeps F.keep) (F.keep _ _ ha) ⟨fun h' t' own D => ?_⟩
  have k : ∀ b o, hp.get? b = some o → h'.get? b = some o := fun b o e => D.keep b o e (by cases hasCls o <;> rfl)
  exact h h' t' (Fr.keeps F k) (News.grown N k)
theorem callWith_B {q : Addr} {e : PySem.Expr} {rest : List PySem.Expr} {env : Env} {pos : Pos} {first : List Value} (X : FnAt q h₀) (F : Fr h₀ L s.heap m)
    (h : wpAny (model prog w) A (spliced (backTo pos (starEach (e :: rest) env))) (fun vs s₁ => FnAt q s₁.heap ∧ wpAny (model prog w) A (call (.ref q) (first ++ vs)) Q E s₁) E s)
    (he : starEach (e :: rest) env = (false, eval e env) :: starEach rest env := by rfl) (hplain : (backTo pos (starEach rest env)).any (·.1) = false := by rfl) :
    wpAny (model prog w) A (callWith pos (.ref q) first (backTo pos (starEach (e :: rest) env)) []) Q E s := by
  obtain ⟨oc, od, fd, sl, ho⟩ := X
  exact callWith_F ⟨oc, od, fd, sl, F.keep _ _ ho⟩ h he hplain
theorem fnAt_keepF {q : Addr} {h : Heap} (X : FnAt q h₀) (F : Fr h₀ L h m) : FnAt q h := by
  obtain ⟨oc, od, fd, sl, ho⟩ := X
  exact ⟨oc, od, fd, sl, F.keep _ _ ho⟩
end
noncomputable abbrev PBool (b : Bool) : Heap → Value → Prop := fun _ v => v = .bool b
theorem pend_bool {g : Heap} {s : Shared} {b c : Bool} {L' : Addr} {m' : Str → Option Value} {h' : Heap} {tk' : Nat} (F : Fr g L' h' m') (e : c = b) : PEnd g s (PBool b) (.bool c) { s with heap := h', toks := tk' } := ⟨L', m', h', tk', rfl, F, by rw [e]⟩





set_option maxHeartbeats 8000000 in
theorem klt_c (w : World) {f aK a b da db lw f1 c1 cell : Addr} {oc : Obj} {pm : Value} {zs : List (Str × Tok)} {kw : Nat} {ps : List Place} {p q : Place} {u v : Tok} (s : Shared) (I : AhAt w f aK lw zs kw s.heap) (O : WaysOk ps zs) (hp : p ∈ ps) (hq : q ∈ ps)
    (ha : s.heap.get? a = some (instK aK (pstr p) u da)) (hb : s.heap.get? b = some (instK aK (pstr q) v db)) (hF : FnIs w 3 qLt [("mycmp", cell)] pm s.heap f1 c1) (hc : s.heap.get? cell = some oc) (hcd : oc.data = .cell (some (.ref f))) :
    RCall w (.ref f1) [.ref a, .ref b] 860 7600 s (PBool (decide (cmpP ps p q < 0))) := by
  obtain ⟨name, params, body, sc, dc, ct, oc0, vs, t, e1, e2, e3, e4, e5, e6⟩ := hF.ex
  have ed : clsDef (hd.heap_1 w.params) 3 = some (_, _, _, _) := rfl
  have e9 := e1.symm.trans ed
  simp only [Option.some.injEq, Prod.mk.injEq] at e9
  obtain ⟨rfl, rfl, rfl, rfl⟩ := e9
  clear ed e1
  refine rcall_gen (pre := []) (h1 := s.heap) (tk1 := s.toks) (binds := [(Str.ofString "self", .ref a), (Str.ofString "other", .ref b)]) e2 ⟨c1, oc0, vs, t, rfl, e3, e4, e5⟩ (fun A E Q _ hq => BindsTo.of_eq rfl _ _ _ _ hq) (fun _ _ e => e) (fun _ hp => (nomatch hp)) (Nat.le_refl _) (locs rfl) rfl rfl rfl (by decide) ?_
  intro loose mean mg mb g L' h₁ hst F' N' X' T'
  replace I := I.keeps hst
  have hfn : FnAt f g := by
    obtain ⟨_, _, _, _, _, _, _, _, _, _, _, _, g2, _⟩ := I.i.ex
    exact ⟨_, _, _, _, g2⟩
  replace ha := hst _ _ ha
  replace hb := hst _ _ hb
  replace hc := hst _ _ hc
  (try dsimp only); (try k_fold); (repeat' (first | (k_unfold; (try dsimp only)) | (k_end; wrow_close) | ((fail_if_success (with_reducible show wpAny _ _ _ _ _ _)); refine ⟨fnAt_keepF (by assumption) (by k_asm), ?_⟩) | ((with_reducible show wpAny _ _ (call (Value.ref _) _) _ _ _); (k_here; k_dflt (    (refine' rcall_use (ahead_c _ _ _ _ (AhAt.i (AhAt.keeps (by assumption) (Fr.keep (by k_asm)))) (AhAt.l (AhAt.keeps (by assumption) (Fr.keep (by k_asm)))) (by assumption) (by assumption) (by assumption)) (by k_asm) (by k_asm) (by k_asm) (by k_asm) (by exact rfl) (by exact Nat.le_of_ble_eq_true rfl) (by exact Nat.le_of_ble_eq_true rfl) ?_;   intro r9 h9 tk9 hp9 F9 N9 st9 sz9; (try (refine hideG fun G9 b9 => ?_; obtain ⟨t9, hp9⟩ := hp9; refine b9 ?_; clear b9 G9)); (try subst hp9); (try dsimp only); (try k_fold))))) | ((with_reducible show wpAny _ _ (callWith _ (Value.ref _) _ _ _) _ _ _); (k_here; k_dflt (refine' callWith_B (by assumption) (by k_asm) ?_ (by rfl) (by rfl); k_whole))) | ((with_reducible show wpAny _ _ (getAttr (Value.ref _) _ _) _ _ _); (k_here; k_dflt (refine' getobj_K (by exact AhAt.k (by assumption)) (by assumption) (by k_asm) (by k_asm) ?_; k_whole); intro h9 tk9 F9 N9)) | ((with_reducible show wpAny _ _ (eval (PySem.Expr.Name _ _) _) _ _ _); (k_here; (with_reducible show wpAny _ _ (eval (Expr.Name _ _) (envX _ _ _ _ _ _)) _ _ _); k_dflt (refine' nameX_B (by k_asm) (by rfl) (by assumption) (by assumption) ?_ (by rfl) (by rfl); k_whole))) | ((with_reducible show wpAny _ _ (eval (PySem.Expr.Name _ _) _) _ _ _); (k_here; (with_reducible show wpAny _ _ (eval (Expr.Name _ _) (compEnvC _ _ _ (compEnvC _ _ _ _))) _ _ _); k_dflt (first   | (refine' lcf_cell (by k_asm) (by rfl) (by k_mem) (by k_asm) ?_ (by rfl) (by with_unfolding_all rfl); k_whole)   | (refine' lcf_free (by k_asm) (by rfl) (by k_mem) (by k_asm) ?_ (by rfl) (by with_unfolding_all rfl); k_whole)))) | walk1 | (dsimp only; (first | ((fail_if_success (with_reducible show wpAny _ _ _ _ _ _)); refine ⟨fnAt_keepF (by assumption) (by k_asm), ?_⟩) | ((with_reducible show wpAny _ _ (call (Value.ref _) _) _ _ _); (k_here; k_dflt (    (refine' rcall_use (ahead_c _ _ _ _ (AhAt.i (AhAt.keeps (by assumption) (Fr.keep (by k_asm)))) (AhAt.l (AhAt.keeps (by assumption) (Fr.keep (by k_asm)))) (by assumption) (by assumption) (by assumption)) (by k_asm) (by k_asm) (by k_asm) (by k_asm) (by exact rfl) (by exact Nat.le_of_ble_eq_true rfl) (by exact Nat.le_of_ble_eq_true rfl) ?_;   intro r9 h9 tk9 hp9 F9 N9 st9 sz9; (try (refine hideG fun G9 b9 => ?_; obtain ⟨t9, hp9⟩ := hp9; refine b9 ?_; clear b9 G9)); (try subst hp9); (try dsimp only); (try k_fold))))) | ((with_reducible show wpAny _ _ (callWith _ (Value.ref _) _ _ _) _ _ _); (k_here; k_dflt (refine' callWith_B (by assumption) (by k_asm) ?_ (by rfl) (by rfl); k_whole))) | ((with_reducible show wpAny _ _ (getAttr (Value.ref _) _ _) _ _ _); (k_here; k_dflt (refine' getobj_K (by exact AhAt.k (by assumption)) (by assumption) (by k_asm) (by k_asm) ?_; k_whole); intro h9 tk9 F9 N9)) | ((with_reducible show wpAny _ _ (eval (PySem.Expr.Name _ _) _) _ _ _); (k_here; (with_reducible show wpAny _ _ (eval (Expr.Name _ _) (envX _ _ _ _ _ _)) _ _ _); k_dflt (refine' nameX_B (by k_asm) (by rfl) (by assumption) (by assumption) ?_ (by rfl) (by rfl); k_whole))) | ((with_reducible show wpAny _ _ (eval (PySem.Expr.Name _ _) _) _ _ _); (k_here; (with_reducible show wpAny _ _ (eval (Expr.Name _ _) (compEnvC _ _ _ (compEnvC _ _ _ _))) _ _ _); k_dflt (first   | (refine' lcf_cell (by k_asm) (by rfl) (by k_mem) (by k_asm) ?_ (by rfl) (by with_unfolding_all rfl); k_whole)   | (refine' lcf_free (by k_asm) (by rfl) (by k_mem) (by k_asm) ?_ (by rfl) (by with_unfolding_all rfl); k_whole)))) | walk1)) | (leave1; (try dsimp only)) | fail "no step"))
  exact pend_bool (by assumption) rfl
theorem k_look {prog : Program} {w : World} {A : Around} {E : Value → Shared → Prop} {s : Shared} {Q : Option Value → Shared → Prop} {aK aN b : Addr} {tk v2 : Tok} {nm : Str} {v : Value} {l : List DictEntry} (q2 : s.heap.get? aK = some (clsK aK aN b tk v2)) (q3 : s.heap.get? aN = some { cls := .type "dict", data := .dict l.toArray 3 })
    (hv : nsLook nm ({ cls := .type "dict", data := .dict l.toArray 3 } : Obj) = pure (some v)) (hQ : Q (some v) s) : wpAny (model prog w) A (typeLookup (.ref aK) nm) Q E s := by
  obtain ⟨h, g, d, t, os⟩ := s
  unfold typeLookup
  repeat (first
    | (with_reducible refine wpAny_loadPart' q2 ?_) | (with_reducible refine wpAny_load' q2 ?_)
    | (with_reducible refine l_look q3 hv ?_)
    | wp_step)
  exact hQ
theorem k_bindFn {M : Model} {A : Around} {E : Value → Shared → Prop} {s : Shared} {Q : Value × List Value → Shared → Prop} {f : Addr} {self : Value} {name qual : Str} {params : Arguments} {body : List Stmt} {scope : Scope} {clos : List (Str × Addr)} {doc pm ctv : Value} {c : Addr} (e : s.heap.get? f = some (fnMade name qual params body scope clos doc pm c ctv)) (hQ : Q (.ref f, [self]) s) :
    wpAny M A (bindSpecial (.ref f) self) Q E s := by
  have L : Looks M s.heap (bindSpecial (.ref f) self) (.ref f, [self]) := by
    unfold bindSpecial
    exact (show Looks M s.heap (typeOf (.ref f)) (.type "function") from (Looks.ld e).andThen .now).andThen (Looks.of_pure (by kernel_rfl))
  exact L.here hQ
set_option maxHeartbeats 8000000 in
/-- the question of the sort -/
theorem keylt_K (w : World) {A : Around} {E : Value → Shared → Prop} {Q : Bool → Shared → Prop} {f aK a b da db lw : Addr} {zs : List (Str × Tok)} {kw : Nat} {ps : List Place} {p q : Place} {u v : Tok} {s : Shared} (I : AhAt w f aK lw zs kw s.heap) (O : WaysOk ps zs) (hp : p ∈ ps) (hq : q ∈ ps)
    (ha : s.heap.get? a = some (instK aK (pstr p) u da)) (hb : s.heap.get? b = some (instK aK (pstr q) v db)) (G : Gd w s.heap) (hh : A.handled = none) (hd1 : A.depth ≤ 860) (hu : A.units ≤ 7600)
    (hret : ∀ h' tk', Stays s.heap h' → s.heap.objs.size ≤ h'.objs.size → Q (decide (cmpP ps p q < 0)) { s with heap := h', toks := tk' }) :
    wpAny (model prog w) A (keyLt' oneType' (.ref a) (.ref b)) Q E s := by
  obtain ⟨cell, oc, pm, aN, aD, bb, tk, v2, kk, hs, v1, ln, lt, sl, sa, fn, c, t1, t2, td, q0, q1, q2, q3, q4, q5, q6⟩ := I.k.ex
  have C := klt_c w s I O hp hq ha hb q6 q0 q1
  obtain ⟨name, params, body, sc, dc, ct, oc0, vs, t, e1, e2, e3, e4, e5, e6⟩ := q6.ex
  have hv : nsLook "__lt__" ({ cls := .type "dict", data := .dict (clsEntries3 kk hs v1 (.int ln lt) sl sa fn (hashOf w "obj") t1 aD (hashOf w "__doc__") t2) 3 } : Obj) = pure (some (.ref (fn 1))) := by kernel_rfl
  have hcall : wpAny (model prog w) A (call (.ref (fn 1)) [.ref a, .ref b]) (fun r s' => ∃ c, r = .bool c ∧ Q c s') E s := by
    refine C A _ E hh hd1 hu G fun r h' tk' st sz hr => ?_
    exact ⟨_, hr, hret h' tk' st sz⟩
  rw [keyLt'_oneType, oneLt'_eq]
  simp only [if_true]
  have hu2 : A.units < cLine := Nat.lt_of_le_of_lt hu (by have := cLine_is; omega)
  refine wpAny_bind (wpAny_cRoomFor hu2 ?_)
  simp only [callSpecialIfBound?, bindSpecialIfBound?]
  refine wpAny_bind (wpAny_holding (wpAny_bind ?_))
  refine wpAny_bind (wpAny_bind (Looks.here (show Looks _ s.heap (typeOf (.ref a)) (.ref aK) from (Looks.ld ha).andThen .now) ?_))
  refine k_look q2 q3 hv ?_
  dsimp only
  have fin : ∀ (R : Option Value → Shared → Prop), (∀ c s', Q c s' → R (some (.bool c)) s') → wpAny (model prog w) A (call (.ref (fn 1)) ([.ref a] ++ [.ref b]) >>= fun v => pure (some v)) R E s := fun R hR =>
    wpAny_bind (wpAny_mono hcall (fun v s' h' => wpAny_pure (by obtain ⟨c, rfl, h⟩ := h'; exact hR c s' h)) fun _ _ h' => h')
  refine wpAny_bind (wpAny_askSetting (wpAny_ite ?_))
  split
  · refine wpAny_bind (k_bindFn e2 (wpAny_pure ?_))
    refine fin _ fun c s' h => ?_
    exact wpAny_truthy_bool h
  · refine wpAny_tryCatch (wpAny_bind (k_bindFn e2 (wpAny_pure ?_)))
    refine fin _ fun c s' h => ?_
    exact wpAny_truthy_bool h
end
section
open PySem PySem.W PyProof.Rows PySem.Calls
set_option maxRecDepth 100000
theorem range_getD {α : Type} (d : α) (l : List α) : ((List.range l.length).map fun i => l.getD i d) = l := by
  apply List.ext_getElem
  · simp
  · intro i h1 h2
    simp [h2]
theorem perm_getD {α : Type} (d : α) (l : List α) {p : Array Nat} (h : p.Perm (List.range l.length).toArray) : (p.toList.map fun i => l.getD i d).Perm l := by
  have h1 : p.toList.Perm (List.range l.length) := by
    have := Array.perm_iff_toList_perm.mp h
    simpa using this
  have h2 := h1.map fun i => l.getD i d
  rwa [range_getD] at h2
noncomputable abbrev d0 : Str × Tok := (Str.ofString "", 0)
theorem val_getD (zs : List (Str × Tok)) {i : Nat} (h : i < zs.length) : (strValues zs).getD i Value.none = .str (zs.getD i d0).1 (zs.getD i d0).2 := by
  simp [strValues, h]
theorem out_values (zs : List (Str × Tok)) {p : Array Nat} (h : ∀ i ∈ p.toList, i < zs.length) : (p.toList.map fun i => (strValues zs).getD i Value.none) = strValues (p.toList.map fun i => zs.getD i d0) := by
  unfold strValues
  rw [List.map_map]
  exact List.map_congr_left fun i hi => val_getD zs (h i hi)
theorem perm_lt {n : Nat} {p : Array Nat} (h : p.Perm (List.range n).toArray) : ∀ i ∈ p.toList, i < n := fun i hi => by
  have := h.mem_iff.mp (Array.mem_toList_iff.mp hi)
  simpa using this
section
variable {w : World} {A : Around} {E : Value → Shared → Prop} {s : Shared} {h₀ : Heap} {L : Addr} {m : Str → Option Value} {news : List (Addr × Obj)} {Q : Value → Shared → Prop}
/-- sorted of a list of texts: a permutation -/
theorem sortS_K {l : Addr} {zs : List (Str × Tok)} {kw : Nat} (F : Fr h₀ L s.heap m) (N : News h₀ L s.heap news) (hl : h₀.get? l = some (lstO (strValues zs) kw)) (h2 : 2 ≤ zs.length) (h64 : zs.length < 64)
    (h : ∀ D zs' h' k, zs'.Perm zs → Fr h₀ L h' m → News h₀ L h' ((D, lstO (strValues zs') k) :: news) → (∀ q ∈ news, q.1 < D) → Q (.ref D) { s with heap := h' }) :
    wpAny (model prog w) A (call (.builtin "sorted") [.ref l]) Q E s := by
  have hlen : (strValues zs).length = zs.length := by simp [strValues]
  refine kas_sorted (vs := strValues zs) (T := .type "str") F N ⟨_, F.keep _ _ hl, rfl, _, rfl⟩ (by omega) (by omega) (fun h _ _ v hv => ?_) (by rfl) ?_
  · obtain ⟨z, _, rfl⟩ := List.mem_map.mp hv
    exact Looks.of_pure rfl
  intro D e1 h' F' N' hD
  rw [hlen]
  have S := sort_in (lt := fun i j => decide ((zs.getD i d0).1.cps.toList < (zs.getD j d0).1.cps.toList)) (n := zs.length) (by omega)
  refine kasWp_ev (lt := fun i j => decide ((zs.getD i d0).1.cps.toList < (zs.getD j d0).1.cps.toList)) (n := zs.length) (Inv := fun s' => s' = { s with heap := h' }) (fun i j C s' hi hj _ hs hc => ?_) _ _ S.1 rfl fun s' hs => ?_
  · show wpAny _ _ (keyLt' oneType' _ _) _ _ _
    rw [val_getD zs hi, val_getD zs hj]
    exact kas_lt_str (hc s' hs)
  · subst hs
    rw [out_values zs (perm_lt S.2)]
    refine KasFin.intro F' N' (.head fun q hq => Nat.ne_of_lt (hD q hq)) fun h2 c F2 N2 => ?_
    exact h D _ h2 c (perm_getD d0 zs S.2) F2 N2 hD
/-- the keys: instances of K that hold the texts -/
noncomputable def KeysAre (aK : Addr) (inst : List (Addr × Obj)) : List Value → List (Str × Tok) → Prop
  | [], [] => True
  | v :: vs, y :: ys => (∃ a da, v = .ref a ∧ (a, instK aK y.1 y.2 da) ∈ inst) ∧ KeysAre aK inst vs ys
  | _, _ => False
theorem KeysAre.mono {aK : Addr} {i1 i2 : List (Addr × Obj)} (h : ∀ q ∈ i1, q ∈ i2) : ∀ {vs ys}, KeysAre aK i1 vs ys → KeysAre aK i2 vs ys
  | [], [], _ => trivial
  | _ :: _, _ :: _, ⟨⟨a, da, e, hm⟩, r⟩ => ⟨⟨a, da, e, h _ hm⟩, KeysAre.mono h r⟩
  | [], _ :: _, h => h.elim
  | _ :: _, [], h => h.elim
theorem KeysAre.snoc {aK : Addr} {inst : List (Addr × Obj)} {a da : Addr} {y : Str × Tok} (hm : (a, instK aK y.1 y.2 da) ∈ inst) : ∀ {vs ys}, KeysAre aK inst vs ys → KeysAre aK inst (vs ++ [.ref a]) (ys ++ [y])
  | [], [], _ => ⟨⟨a, da, rfl, hm⟩, trivial⟩
  | _ :: _, _ :: _, ⟨x, r⟩ => ⟨x, KeysAre.snoc hm r⟩
  | [], _ :: _, h => h.elim
  | _ :: _, [], h => h.elim
theorem KeysAre.len {aK : Addr} {inst : List (Addr × Obj)} : ∀ {vs ys}, KeysAre aK inst vs ys → vs.length = ys.length
  | [], [], _ => rfl
  | _ :: _, _ :: _, ⟨_, r⟩ => by rw [List.length_cons, List.length_cons, KeysAre.len r]
  | [], _ :: _, h => h.elim
  | _ :: _, [], h => h.elim
theorem KeysAre.get {aK : Addr} {inst : List (Addr × Obj)} : ∀ {vs ys}, KeysAre aK inst vs ys → ∀ i, i < ys.length → ∃ a da, vs.getD i Value.none = .ref a ∧ (a, instK aK (ys.getD i d0).1 (ys.getD i d0).2 da) ∈ inst
  | [], [], _, i, hi => absurd hi (Nat.not_lt_zero _)
  | _ :: _, _ :: _, ⟨⟨a, da, e, hm⟩, r⟩, 0, _ => ⟨a, da, by rw [e]; rfl, hm⟩
  | _ :: _, _ :: _, ⟨_, r⟩, i + 1, hi => KeysAre.get r i (Nat.lt_of_succ_lt_succ hi)
  | [], _ :: _, h, _, _ => h.elim
  | _ :: _, [], h, _, _ => h.elim
theorem KeysAre.all {aK : Addr} {inst : List (Addr × Obj)} : ∀ {vs ys}, KeysAre aK inst vs ys → ∀ v ∈ vs, ∃ a y da, v = .ref a ∧ (a, instK aK (Prod.fst y) (Prod.snd y) da) ∈ inst
  | [], [], _, _, hv => (nomatch hv)
  | _ :: _, y :: _, ⟨⟨a, da, e, hm⟩, r⟩, v, hv => by
    rcases List.mem_cons.mp hv with rfl | hv
    · exact ⟨a, y, da, e, hm⟩
    · exact KeysAre.all r v hv
  | [], _ :: _, h, _, _ => h.elim
  | _ :: _, [], h, _, _ => h.elim
end
end
section
open PySem PySem.W PyProof.Rows PySem.Calls
set_option maxRecDepth 100000
/-- what the keyed sort leans on, wherever the ledger stands -/
structure KeyGd (w : World) (g : Heap) (L : Addr) (m : Str → Option Value) (news : List (Addr × Obj)) (f aK lw : Addr) (zs : List (Str × Tok)) (kw : Nat) : Prop where
  at_ : ∀ h, Fr g L h m → News g L h news → AhAt w f aK lw zs kw h
  gd : Gd w g
section
variable {w : World} {A : Around} {E : Value → Shared → Prop} {s : Shared} {g : Heap} {L : Addr} {m : Str → Option Value} {news : List (Addr × Obj)}
theorem news_in {h : Heap} {l l' : List (Addr × Obj)} (N : News g L h l) (hs : ∀ q ∈ l', q ∈ l) : News g L h l' := fun q hq => N q (hs q hq)
/-- the keys are made -/
theorem keys_K {f aK lw kS D : Addr} {zs : List (Str × Tok)} {kw e1 : Nat} {Fin : List Value → Nat → Shared → Prop} (KG : KeyGd w g L m news f aK lw zs kw) (hh : A.handled = none) (hd1 : A.depth ≤ 900) (hu : A.units ≤ 8000) (hDk : D ≠ kS) :
    ∀ (r : List (Str × Tok)) (done : List (Str × Tok)) (ks : List Value) (e : Nat) (inst : List (Addr × Obj)) (s : Shared), KeysAre aK inst ks done → Fr g L s.heap m → News g L s.heap ((kS, seqObj "list" ks.toArray e) :: (D, seqObj "list" #[] e1) :: (inst ++ news)) → (∀ q ∈ inst ++ news, q.1 ≠ kS ∧ q.1 ≠ D) →
      (∀ ks e inst h' tk', KeysAre aK inst ks (done ++ r) → Fr g L h' m → News g L h' ((kS, seqObj "list" ks.toArray e) :: (D, seqObj "list" #[] e1) :: (inst ++ news)) → (∀ q ∈ inst ++ news, q.1 ≠ kS ∧ q.1 ≠ D) → Fin ks e { s with heap := h', toks := tk' }) →
      KatKeys prog w A g L m kS (.ref aK) Fin (strValues r) ks e s
  | [], done, ks, e, inst, s, hk, F, N, off, fin => fin ks e inst s.heap s.toks (by rw [List.append_nil]; exact hk) F N off
  | y :: r, done, ks, e, inst, s, hk, F, N, off, fin => by
    have N0 : News g L s.heap news := news_in N fun q hq => .tail _ (.tail _ (List.mem_append_right _ hq))
    refine KatKeys.cons (k_new_c w (KG.at_ _ F N0).k (KG.gd.1.keeps F.keep) hh hd1 hu fun a da h' tk' st ha hn => ?_)
    have F' : Fr g L h' m := F.kept st
    have N' := News.grown N st
    have ha0 : g.get? a = none := by
      cases q : g.get? a with
      | none => rfl
      | some o => rw [F.keep _ _ q] at hn; cases hn
    have haL : a ≠ L := by
      intro q
      obtain ⟨oL, _, _, eL, _⟩ := F.ns
      rw [q, eL] at hn; cases hn
    have hak : a ≠ kS := fun q => by
      have := (N _ (.head _)).1
      rw [← q, hn] at this; cases this
    have haD : a ≠ D := fun q => by
      have := (N _ (.tail _ (.head _))).1
      rw [← q, hn] at this; cases this
    have N2 : News g L h' ((kS, seqObj "list" ks.toArray e) :: (D, seqObj "list" #[] e1) :: (((a, instK aK y.1 y.2 da) :: inst) ++ news)) := by
      intro q hq
      rcases List.mem_cons.mp hq with rfl | hq
      · exact N' _ (.head _)
      rcases List.mem_cons.mp hq with rfl | hq
      · exact N' _ (.tail _ (.head _))
      rcases List.mem_cons.mp hq with rfl | hq
      · exact ⟨ha, haL, ha0⟩
      · exact N' _ (.tail _ (.tail _ hq))
    have off2 : ∀ q ∈ ((a, instK aK y.1 y.2 da) :: inst) ++ news, q.1 ≠ kS ∧ q.1 ≠ D := by
      intro q hq
      rcases List.mem_cons.mp hq with rfl | hq
      · exact ⟨hak, haD⟩
      · exact off q hq
    refine KatBack.intro (s := { s with heap := h', toks := tk' }) F' N2 (.head fun q hq => ?_) fun h3 c F3 N3 => ?_
    · rcases List.mem_cons.mp hq with rfl | hq
      · exact hDk
      · exact (off2 q hq).1
    · refine keys_K KG hh hd1 hu hDk r (done ++ [y]) (ks ++ [.ref a]) c ((a, instK aK y.1 y.2 da) :: inst) { s with heap := h3, toks := tk' } ((hk.mono fun q hq => .tail _ hq).snoc (.head _)) F3 N3 off2 fun ks' e' inst' h4 tk4 hk4 F4 N4 off4 => ?_
      exact fin ks' e' inst' h4 tk4 (by rw [List.append_assoc] at hk4; exact hk4) F4 N4 off4
/-- the places behind the texts -/
structure TextsOf (ys : List (Str × Tok)) (ls : List Place) : Prop where
  eq : ys.map (·.1) = ls.map pstr
theorem TextsOf.len {ys : List (Str × Tok)} {ls : List Place} (T : TextsOf ys ls) : ys.length = ls.length := by
  have := congrArg List.length T.eq
  simpa using this
theorem TextsOf.get {ys : List (Str × Tok)} {ls : List Place} (T : TextsOf ys ls) {i : Nat} (h : i < ys.length) : (ys.getD i d0).1 = pstr (ls.getD i []) := by
  have hl := T.len
  have h2 : i < ls.length := hl ▸ h
  have e1 : (ys.map (·.1))[i]? = (ls.map pstr)[i]? := by rw [T.eq]
  rw [List.getElem?_map, List.getElem?_map, List.getElem?_eq_getElem h, List.getElem?_eq_getElem h2] at e1
  have e2 := Option.some.inj e1
  simp only [List.getD_eq_getElem?_getD, List.getElem?_eq_getElem h, List.getElem?_eq_getElem h2, Option.getD_some]
  exact e2
theorem getD_mem {ls : List Place} {i : Nat} (h : i < ls.length) : ls.getD i [] ∈ ls := by
  simp only [List.getD_eq_getElem?_getD, List.getElem?_eq_getElem h, Option.getD_some]
  exact List.getElem_mem h
theorem getD_inj {ls : List Place} (hn : ls.Nodup) {i j : Nat} (hi : i < ls.length) (hj : j < ls.length) (e : ls.getD i [] = ls.getD j []) : i = j := by
  simp only [List.getD_eq_getElem?_getD, List.getElem?_eq_getElem hi, List.getElem?_eq_getElem hj, Option.getD_some] at e
  exact (List.getElem_inj hn).mp e
/-- the keyed sort: by the rank that the comparison tells -/
theorem sortK_K {l f aK lw : Addr} {zs ys : List (Str × Tok)} {kw ky : Nat} {ps ls : List Place} {r : Place → Nat} {Q : Value → Shared → Prop} (F : Fr g L s.heap m) (N : News g L s.heap news) (hl : s.heap.get? l = some (lstO (strValues ys) ky)) (KG : KeyGd w g L m news f aK lw zs kw) (O : WaysOk ps zs)
    (T : TextsOf ys ls) (hls : ∀ x ∈ ls, x ∈ ps) (hn : ls.Nodup) (rank : ∀ x ∈ ls, ∀ y ∈ ls, x ≠ y → decide (cmpP ps x y < 0) = decide (r x < r y)) (rinj : ∀ x ∈ ls, ∀ y ∈ ls, r x = r y → x = y) (h2 : 2 ≤ ys.length) (h64 : ys.length < 64)
    (hh : A.in1.in1.handled = none) (hd1 : A.in1.in1.depth ≤ 860) (hu : A.in1.in1.units ≤ 7600)
    (h : ∀ D zs' ls' h' k tk', TextsOf zs' ls' → ls'.Perm ls → ls'.Pairwise (fun x y => r x ≤ r y) → Fr g L h' m → News g L h' ((D, lstO (strValues zs') k) :: news) → (∀ q ∈ news, q.1 < D) → Q (.ref D) { s with heap := h', toks := tk' }) :
    wpAny (model prog w) A (call (.builtin "sorted") [.ref l] [(Str.ofString "key", .ref aK)]) Q E s := by
  have hlen : (strValues ys).length = ys.length := by simp [strValues]
  have hT := T.len
  refine kat_sortedK (vs := strValues ys) (b := false) (f := .ref aK) F N ⟨_, hl, rfl, _, rfl⟩ (by omega) (by omega) (ksk_s1 _ _) (fun _ => ksk_l1 _ _) (fun _ => ksk_t1 _ _) ?_
  intro D kS e1 h1 F1 N1 hDk hnD
  have off : ∀ q ∈ [] ++ news, q.1 ≠ kS ∧ q.1 ≠ D := fun q hq => ⟨Nat.ne_of_lt (Nat.lt_trans (hnD q hq) hDk), Nat.ne_of_lt (hnD q hq)⟩
  refine keys_K (inst := []) (done := []) KG hh (by omega) (by omega) (Nat.ne_of_lt hDk) ys [] 0 { s with heap := h1 } trivial F1 N1 off ?_
  intro ks e inst h2' tk2 hk F2 N2 off2
  rw [List.nil_append] at hk
  have hkl := hk.len
  have at2 : ∀ {h' : Heap} {q : Addr × Obj}, News g L h' ((kS, seqObj "list" ks.toArray e) :: (D, seqObj "list" #[] e1) :: (inst ++ news)) → q ∈ inst → h'.get? q.1 = some q.2 := fun N hq => (N _ (.tail _ (.tail _ (List.mem_append_left _ hq)))).1
  refine kas_kind (T := .ref aK) (by omega) (fun v hv => ?_) rfl (by simp) ?_
  · obtain ⟨a, y, da, rfl, hm⟩ := hk.all v hv
    exact (Looks.ld (at2 N2 hm)).andThen .now
  rw [hlen]
  have hlt : ∀ i j, i < ys.length → j < ys.length → i ≠ j → decide (cmpP ps (ls.getD i []) (ls.getD j []) < 0) = ltR (fun i => r (ls.getD i [])) i j := fun i j hi hj hij =>
    rank _ (getD_mem (hT ▸ hi)) _ (getD_mem (hT ▸ hj)) fun e => hij (getD_inj hn (hT ▸ hi) (hT ▸ hj) e)
  have S := sort_in (lt := fun i j => decide (cmpP ps (ls.getD i []) (ls.getD j []) < 0)) (n := ys.length) (by omega)
  have S2 := (sort_ok (r := fun i => r (ls.getD i [])) (n := ys.length) (by omega) fun i j hi hj e => getD_inj hn (hT ▸ hi) (hT ▸ hj) (rinj _ (getD_mem (hT ▸ hi)) _ (getD_mem (hT ▸ hj)) e)).1
  rw [← ev_congr hlt _ S.1] at S2
  refine kasWp_ev (lt := fun i j => decide (cmpP ps (ls.getD i []) (ls.getD j []) < 0)) (n := ys.length) (Inv := fun s' => ∃ h' tk', s' = { s with heap := h', toks := tk' } ∧ Fr g L h' m ∧ News g L h' ((kS, seqObj "list" ks.toArray e) :: (D, seqObj "list" #[] e1) :: (inst ++ news)))
    (fun i j C s' hi hj hij hs hc => ?_) _ _ S.1 ⟨_, _, rfl, F2, N2⟩ fun s' hs => ?_
  · obtain ⟨h', tk', rfl, F', N'⟩ := hs
    obtain ⟨a, da, ea, ma⟩ := hk.get i hi
    obtain ⟨b, db, eb, mb⟩ := hk.get j hj
    show wpAny _ _ (keyLt' oneType' _ _) _ _ _
    show wpAny _ _ (keyLt' oneType' (ks.getD i Value.none) (ks.getD j Value.none)) _ _ _
    rw [ea, eb]
    rw [T.get hi] at ma
    rw [T.get hj] at mb
    refine keylt_K w (KG.at_ _ F' (news_in N' fun q hq => .tail _ (.tail _ (List.mem_append_right _ hq)))) O (hls _ (getD_mem (hT ▸ hi))) (hls _ (getD_mem (hT ▸ hj))) (at2 N' ma) (at2 N' mb) (KG.gd.keeps fun b o e => F'.keep b o e) hh hd1 hu fun h3 tk3 st _ => ?_
    exact hc _ ⟨h3, tk3, rfl, F'.kept st, News.grown N' st⟩
  · obtain ⟨h', tk', rfl, F', N'⟩ := hs
    show KatFin g L m kS D ks e e1 (List.map _ _) _ _
    have ho := out_values ys (perm_lt S.2)
    refine KatFin.intro (s := { s with heap := h', toks := tk' }) F' N' (.head fun q hq => ?_) fun h3 c F3 N3 => ?_
    · rcases List.mem_cons.mp hq with rfl | hq
      · exact Nat.ne_of_lt hDk
      · exact (off2 q hq).1
    refine KasFin.intro (s := { s with heap := h3, toks := tk' }) F3 N3 (.tail (Nat.ne_of_gt hDk) (.head fun q hq => (off2 q hq).2)) fun h4 c4 F4 N4 => ?_
    have hp := S.2
    generalize ev _ (kas_sort ys.length) = p at ho N4 S2 hp
    have N5 : News g L h4 ((D, lstO (strValues (p.toList.map fun i => ys.getD i d0)) c4) :: news) := by
      intro q hq
      rcases List.mem_cons.mp hq with rfl | hq
      · have := N4 (D, W.listOf (List.toArray (p.toList.map fun i => (strValues ys).getD i Value.none)) c4) (.tail _ (.head _))
        rw [ho] at this
        exact this
      · exact N4 q (.tail _ (.tail _ (List.mem_append_right _ hq)))
    refine h D _ (p.toList.map fun i => ls.getD i []) h4 c4 tk' ⟨?_⟩ (perm_getD [] ls (hT ▸ hp)) ?_ F4 N5 hnD
    · rw [List.map_map, List.map_map]
      exact List.map_congr_left fun i hi => T.get (perm_lt hp i hi)
    · rw [List.pairwise_map, List.pairwise_iff_getElem]
      intro i j hi hj hij
      have hs := hp.size_eq
      have hsz : p.size = ys.length := by rw [hs]; simp
      have := S2 i j (Nat.le_of_lt hij) (by rw [← hsz]; simpa using hj)
      have gi : p.getD i 0 = p.toList[i] := by
        have : i < p.size := by simpa using hi
        simp [Array.getD, this]
      have gj : p.getD j 0 = p.toList[j] := by
        have : j < p.size := by simpa using hj
        simp [Array.getD, this]
      rw [gi, gj] at this
      exact this
end
end
section
open PySem PySem.W PyProof.Rows PySem.Calls
set_option maxRecDepth 100000






/-- the place behind a text -/
noncomputable def invP (z : Str) : Place := (allQ.find? fun p => pstr p == z).getD []
theorem inv_pstr : ∀ p ∈ allQ, invP (pstr p) = p := by decide +kernel
/-- texts that are a permutation of places' texts have places behind them -/
theorem texts_perm {zs ys : List (Str × Tok)} {ps : List Place} (e : zs.map (·.1) = ps.map pstr) (hQ : ∀ x ∈ ps, x ∈ allQ) (h : ys.Perm zs) : ∃ ls, TextsOf ys ls ∧ ls.Perm ps := by
  have h1 : (ys.map (·.1)).Perm (ps.map pstr) := e ▸ h.map _
  have h2 := h1.map invP
  have h3 : (ps.map pstr).map invP = ps := by
    rw [List.map_map]
    conv => rhs; rw [← List.map_id ps]
    exact List.map_congr_left fun x hx => inv_pstr x (hQ x hx)
  rw [h3] at h2
  refine ⟨_, ⟨?_⟩, h2⟩
  rw [List.map_map]
  conv => lhs; rw [← List.map_id (ys.map (·.1))]
  refine List.map_congr_left fun z hz => ?_
  obtain ⟨p, hp, rfl⟩ := List.mem_map.mp (h1.mem_iff.mp hz)
  show pstr p = pstr (invP (pstr p))
  rw [inv_pstr p (hQ p hp)]
/-- K's objects, told one by one -/
theorem KPost.own {w : World} {g h : Heap} {f : Addr} {v : Value} (P : KPost w g f h v) : ∃ (aK : Addr) (own : List (Addr × Obj)), v = .ref aK ∧ (∀ q ∈ own, h.get? q.1 = some q.2 ∧ g.get? q.1 = none) ∧ ∀ h', (∀ q ∈ own, h'.get? q.1 = some q.2) → KObjs w f h' aK := by
  refine hideG fun G9 b9 => ?_
  obtain ⟨aK, cell, oc, pm, aN, aD, b, tk, v2, k, hs, v1, ln, lt, sl, sa, fn, c, t1, t2, td, ev, q1, q2, q3, q4, q5, q6, q7, q8⟩ := P.ex
  obtain ⟨n0, p0, y0, sc0, dc0, ct0, oc0, vs0, u0, a1, a2, a3, a4, a5⟩ := q6.ex
  obtain ⟨n1, p1, y1, sc1, dc1, ct1, oc1, vs1, u1, b1, b2, b3, b4, b5⟩ := q7.ex
  refine b9 ?_
  clear b9 G9
  refine ⟨aK, [(cell, _), (aK, _), (aN, _), (aD, _), (fn 0, _), (fn 1, _), (c 0, _), (c 1, _)], ev, fmc ⟨q1, q8 _ (.head _)⟩ (fmc ⟨q3, q8 _ (.tail _ (.head _))⟩ (fmc ⟨q4, q8 _ (.tail _ (.tail _ (.head _)))⟩ (fmc ⟨q5, q8 _ (.tail _ (.tail _ (.tail _ (.head _))))⟩ (fmc ⟨a2, q8 _ (.tail _ (.tail _ (.tail _ (.tail _ (.head _)))))⟩ (fmc ⟨b2, q8 _ (.tail _ (.tail _ (.tail _ (.tail _ (.tail _ (.head _))))))⟩
    (fmc ⟨a3, q8 _ (.tail _ (.tail _ (.tail _ (.tail _ (.tail _ (.tail _ (.head _)))))))⟩ (fmc ⟨b3, q8 _ (.tail _ (.tail _ (.tail _ (.tail _ (.tail _ (.tail _ (.tail _ (.head _))))))))⟩ (List.forall_mem_nil _)))))))), fun h' hq => ?_⟩
  exact ⟨cell, oc, pm, aN, aD, b, tk, v2, k, hs, v1, ln, lt, sl, sa, fn, c, t1, t2, td, hq _ (.head _), q2, hq _ (.tail _ (.head _)), hq _ (.tail _ (.tail _ (.head _))), hq _ (.tail _ (.tail _ (.tail _ (.head _)))),
    ⟨n0, p0, y0, sc0, dc0, ct0, oc0, vs0, u0, a1, hq _ (.tail _ (.tail _ (.tail _ (.tail _ (.head _))))), hq _ (.tail _ (.tail _ (.tail _ (.tail _ (.tail _ (.tail _ (.head _))))))), a4, a5⟩,
    ⟨n1, p1, y1, sc1, dc1, ct1, oc1, vs1, u1, b1, hq _ (.tail _ (.tail _ (.tail _ (.tail _ (.tail _ (.head _)))))), hq _ (.tail _ (.tail _ (.tail _ (.tail _ (.tail _ (.tail _ (.tail _ (.head _)))))))), b4, b5⟩⟩
noncomputable def off59 (news : List (Addr × Obj)) : List (Addr × Obj) := news.filter fun q => decide (q.1 ≠ 59)
theorem off59_mem {news : List (Addr × Obj)} {q : Addr × Obj} (h : q ∈ news) (hn : q.1 ≠ 59) : q ∈ off59 news := by simp [off59, h, hn]
section
variable {w : World} {A : Around} {E : Value → Shared → Prop} {s : Shared} {g : Heap} {L : Addr} {m : Str → Option Value} {news : List (Addr × Obj)}
theorem ahIs_news {lw f cd cw : Addr} {qn : Str} {name : Str} {params : Arguments} {body : List Stmt} {sc : Scope} {dc pm ct : Value} {oc ow : Obj} {vs : Array Value} {t : Tok} (hdef : aheadDef (hd.heap_1 w.params) = some (name, params, body, sc))
    (mf : (f, fnMade name qn params body sc [(Str.ofString "ways", cw)] dc pm cd ct) ∈ news) (mc : (cd, oc) ∈ news) (mw : (cw, ow) ∈ news) (hf : f ≠ 59) (hc : cd ≠ 59) (hw : cw ≠ 59) (eoc : oc.data = .fields vs) (evs : vs[1]? = some (.str qn t)) (ew : ow.data = .cell (some (.ref lw))) :
    ∀ h, News g L h (off59 news) → AhIs w lw h f := fun h N =>
  ⟨qn, name, params, body, sc, dc, pm, cd, ct, cw, ow, hdef, (N _ (off59_mem mf hf)).1, ⟨cd, oc, vs, t, rfl, (N _ (off59_mem mc hc)).1, eoc, evs⟩, (N _ (off59_mem mw hw)).1, ew⟩
theorem ctk_K {f lw : Addr} {zs : List (Str × Tok)} {kw : Nat} {Q : Value → Shared → Prop} (F : Fr g L s.heap m) (N : News g L s.heap news) (h59 : ((59 : Addr), tabObj #[]) ∈ news) (C : CodeHd g 63 59) (G : Gd w g) (hL : (59 : Nat) < L) (hI : ∀ h, News g L h (off59 news) → AhIs w lw h f) (hl : g.get? lw = some (lstO (strValues zs) kw))
    (hh : A.handled = none) (hd1 : A.depth ≤ 900) (hu : A.units ≤ 8000)
    (h : ∀ aK own ps h' tk', Fr g L h' m → News g L h' (own ++ ((59, tabObj ps) :: off59 news)) → KeyGd w g L m (own ++ ((59, tabObj ps) :: off59 news)) f aK lw zs kw → Q (.ref aK) { s with heap := h', toks := tk' }) :
    wpAny (model prog w) A (call (.ref 64) [.ref f]) Q E s := by
  have hg59 : g.get? (59 : Addr) = none := (N _ h59).2.2
  have GR : Ground w (hide [59] s.heap) s.heap [(59, tabObj #[])] := ground_hide (nodes := [((59 : Addr), tabObj #[])]) G (fun b o e => F.keep b o e) fun p hp => by
    rw [List.mem_singleton.mp hp]; exact ⟨(N _ h59).1, hg59⟩
  have sub : ∀ b o, g.get? b = some o → (hide [59] s.heap).get? b = some o := fun b o e => by
    rw [hide_out]
    · exact F.keep b o e
    · intro hb
      rw [List.mem_singleton.mp hb, hg59] at e; cases e
  refine ctk_c w f s (hide [59] s.heap) GR (hide_size _ _) (C.keeps sub) A Q E hh hd1 hu fun r h' tk' st sz P => ?_
  obtain ⟨ps59, q59⟩ := P.tab
  obtain ⟨aK, own, rfl, ho, hk⟩ := P.own
  obtain ⟨oL, es, ep, eL, rr⟩ := F.ns
  have eh : (hide [59] s.heap).get? L = some oL := by rw [hide_out (by simpa using Nat.ne_of_gt hL)]; exact eL
  have F' : Fr g L h' m := ⟨⟨oL, es, ep, st _ _ eh, rr⟩, fun b o e => st _ _ (sub b o e), F.above⟩
  have N' : News g L h' (own ++ ((59, tabObj ps59) :: off59 news)) := by
    intro q hq
    rcases List.mem_append.mp hq with hq | hq
    · obtain ⟨h1, h2⟩ := ho q hq
      refine ⟨h1, fun e => ?_, ?_⟩
      · rw [e, eh] at h2; cases h2
      · cases e : g.get? q.1 with
        | none => rfl
        | some o => rw [sub _ _ e] at h2; cases h2
    rcases List.mem_cons.mp hq with rfl | hq
    · exact ⟨q59, Nat.ne_of_lt hL, hg59⟩
    · have hq2 := List.mem_filter.mp hq
      have hne : q.1 ≠ (59 : Addr) := of_decide_eq_true hq2.2
      obtain ⟨h1, h2, h3⟩ := N q hq2.1
      exact ⟨st _ _ (by rw [hide_out (by simpa using hne)]; exact h1), h2, h3⟩
  refine h aK own ps59 h' tk' F' N' ⟨fun h2 F2 N2 => ⟨hk h2 fun q hq => (N2 q (List.mem_append_left _ hq)).1, hI h2 fun q hq => N2 q (List.mem_append_right _ (.tail _ hq)), F2.keep _ _ hl⟩, G⟩
theorem revS_K {l : Addr} {zs : List (Str × Tok)} {k : Nat} {vk : Value} {value slice : PySem.Expr} {ops : List Value} {Q : Value → Shared → Prop} (F : Fr g L s.heap m) (N : News g L s.heap news) (hl : (l, lstO (strValues zs) k) ∈ news) (pk : IsPart vk (some (-1))) (hz : zs.length ≤ 1000)
    (h : ∀ D h', Fr g L h' m → News g L h' ((D, lstO (strValues zs.reverse) 0) :: news) → (∀ p ∈ news, p.1 < D) → Q (.ref D) { s with heap := h' })
    (hs : subscripted slice false (.ref l) (.ref s.heap.objs.size) = operate ops (getItem (.ref l) (.ref s.heap.objs.size))) (ht : ∀ r, letTemporaryGo value (.ref l) r = pure ()) :
    wpAny (model prog w) A (subscriptTail value slice (.ref l) (.ref s.heap.objs.size)) Q E { s with heap := s.heap.push { cls := .type "slice", data := .fields #[.none, .none, vk] } } := by
  refine krv_lit (zs := strValues zs.reverse) F N (its := (strValues zs).toArray) ⟨_, (N _ hl).1, rfl, _, rfl⟩ pk (by simp [strValues]) h hs ht ?_
  rw [sizeLine_eq]; simp [strValues]; omega
end



/-- what _law_sorted gives back -/
noncomputable def PSorted (g : Heap) (W : List (Place × Bool)) (h : Heap) (v : Value) : Prop := ∃ D zs k, v = .ref D ∧ g.get? D = none ∧ h.get? D = some (lstO (strValues zs) k) ∧ zs.map (·.1) = (walkT W).map pstr ∧ GrownAt 59 h ∧ GrownAt 205 h
theorem ways_ok {W : List (Place × Bool)} {zs : List (Str × Tok)} (hz : zs.map (·.1) = (W.map (·.1)).map pstr) (inQ : ∀ q ∈ W, q.1 ∈ allQ) (K : WOk W) (hl : zs.length ≤ 1000) : WaysOk (W.map (·.1)) zs :=
  ⟨hz, fun x hx => by obtain ⟨q, hq, rfl⟩ := List.mem_map.mp hx; exact inQ q hq, hl, fun _ hp _ hq => ways_up K hp hq⟩
theorem sorted_walk {W : List (Place × Bool)} (K : WOk W) (inQ : ∀ q ∈ W, q.1 ∈ allQ) {ls : List Place} (hp : ls.Perm (W.map (·.1))) (hs : ls.Pairwise fun x y => (walkT W).idxOf x ≤ (walkT W).idxOf y) : ls = walkT W := by
  have hp2 := hp.trans (walkT_perm K inQ).symm
  refine List.Perm.eq_of_pairwise (le := fun x y => (walkT W).idxOf x ≤ (walkT W).idxOf y) (fun a b ha hb h1 h2 => ?_) hs ((idx_nodup (walkT_nodup K)).imp Nat.le_of_lt) hp2
  have e := Nat.le_antisymm h1 h2
  have ia := List.idxOf_lt_length_iff.mpr (hp2.mem_iff.mp ha)
  have ib := List.idxOf_lt_length_iff.mpr hb
  rw [← List.getElem_idxOf ia, ← List.getElem_idxOf ib]
  simp only [e]
set_option maxHeartbeats 2000000 in
theorem sorted_c (w : World) (lw : Addr) (zs : List (Str × Tok)) (kw : Nat) (W : List (Place × Bool)) (s : Shared) (g : Heap) (G : Ground w g s.heap [(59, tabObj #[]), (205, tabObj #[])]) (hgs : g.objs.size = s.heap.objs.size) (C1 : CodeHd g 63 59) (C2 : CodeHd g 209 205)
    (hl : g.get? lw = some (lstO (strValues zs) kw)) (hz : zs.map (·.1) = (W.map (·.1)).map pstr) (inQ : ∀ q ∈ W, q.1 ∈ allQ) (K : WOk W) (h2 : 2 ≤ zs.length) (h64 : zs.length < 64) (hsz : 205 < s.heap.objs.size) :
    TCall w (.ref 210) [.ref lw] 800 7000 s g (PSorted g W) := by
  refine tcall_cells (binds := [(Str.ofString "ways", .ref lw)]) G hgs (by k_is) (by k_is) (BindsTo.of_eq rfl) (by exact rfl) (by decide +kernel) rfl rfl rfl ?_
  intro loose mean mg mb L' h₁ tk cells F0 N0 hsL Y0 X0 T0
  k_cells Y0
  simp only [List.cons_append, List.nil_append] at N0
  have hs1 : (205 : Nat) < L' := Nat.lt_of_lt_of_le hsz hsL
  have hs2 : (59 : Nat) < L' := Nat.lt_trans (by decide) hs1
  have O := ways_ok hz inQ K (by omega)
  (try dsimp only); (try k_fold); (repeat' (first | (k_unfold; (try dsimp only)) | (k_end; wrow_close) | ((with_reducible show wpAny _ _ (call (Value.ref _) _) _ _ _); (k_here; (with_reducible show wpAny _ _ (call (Value.ref 64) _) _ _ _); k_dflt (refine' ctk_K (by k_asm) (by k_asm) (by k_mem) (by assumption) (by exact ⟨by assumption, _, _, _, _, by assumption⟩) (by assumption) (by (refine ahIs_news (by exact rfl) (by k_mem) (by k_mem) (by k_mem) ?_ ?_ ?_ (by assumption) (by assumption) (by with_unfolding_all assumption) <;> k_ne)) (by assumption) (by exact rfl) (by exact Nat.le_of_ble_eq_true rfl) (by exact Nat.le_of_ble_eq_true rfl) ?_); intro aK' own' ps59' h' tk' F' N' KG'; (try dsimp only))) | ((with_reducible show wpAny _ _ (subscriptTail _ _ (Value.ref _) (Value.ref _)) _ _ _); (k_here; k_dflt (refine' revS_K (by k_asm) (by k_asm) (by k_mem) (by exact IsPart.int _ _) (by omega) ?_ (by with_unfolding_all rfl) (by kmk_pure)); intro D' h' F' N' l1; (try k_lt l1); (try dsimp only))) | ((with_reducible show wpAny _ _ (call (Value.builtin "sorted") _) _ _ _); (k_here; (with_reducible show wpAny _ _ (call (Value.builtin _) [Value.ref _]) _ _ _); k_dflt (refine' sortS_K (by k_asm) (by k_asm) (by assumption) (by assumption) (by assumption) ?_; k_whole); intro D' zs' h' k' hp' F' N' l1; (have hlen' := hp'.length_eq); (try k_lt l1); (try dsimp only))) | ((with_reducible show wpAny _ _ (subscriptTail _ _ (Value.ref _) (Value.ref _)) _ _ _); (k_here; (k_dflt (refine take_K (by k_asm) (by k_asm) (by k_mem) (by assumption) (by assumption) ?_)); intro D' h' F' N' l1; (try dsimp only))) | ((with_reducible show wpAny _ _ (eval (PySem.Expr.Name _ _) _) _ _ _); (k_here; (with_reducible show wpAny _ _ (eval (Expr.Name _ _) (compEnvC _ _ _ (compEnvC _ _ _ _))) _ _ _); k_dflt (first   | (refine' lcf_cell (by k_asm) (by rfl) (by k_mem) (by k_asm) ?_ (by rfl) (by with_unfolding_all rfl); k_whole)   | (refine' lcf_free (by k_asm) (by rfl) (by k_mem) (by k_asm) ?_ (by rfl) (by with_unfolding_all rfl); k_whole)))) | walk1 | (dsimp only; (first | ((with_reducible show wpAny _ _ (call (Value.ref _) _) _ _ _); (k_here; (with_reducible show wpAny _ _ (call (Value.ref 64) _) _ _ _); k_dflt (refine' ctk_K (by k_asm) (by k_asm) (by k_mem) (by assumption) (by exact ⟨by assumption, _, _, _, _, by assumption⟩) (by assumption) (by (refine ahIs_news (by exact rfl) (by k_mem) (by k_mem) (by k_mem) ?_ ?_ ?_ (by assumption) (by assumption) (by with_unfolding_all assumption) <;> k_ne)) (by assumption) (by exact rfl) (by exact Nat.le_of_ble_eq_true rfl) (by exact Nat.le_of_ble_eq_true rfl) ?_); intro aK' own' ps59' h' tk' F' N' KG'; (try dsimp only))) | ((with_reducible show wpAny _ _ (subscriptTail _ _ (Value.ref _) (Value.ref _)) _ _ _); (k_here; k_dflt (refine' revS_K (by k_asm) (by k_asm) (by k_mem) (by exact IsPart.int _ _) (by omega) ?_ (by with_unfolding_all rfl) (by kmk_pure)); intro D' h' F' N' l1; (try k_lt l1); (try dsimp only))) | ((with_reducible show wpAny _ _ (call (Value.builtin "sorted") _) _ _ _); (k_here; (with_reducible show wpAny _ _ (call (Value.builtin _) [Value.ref _]) _ _ _); k_dflt (refine' sortS_K (by k_asm) (by k_asm) (by assumption) (by assumption) (by assumption) ?_; k_whole); intro D' zs' h' k' hp' F' N' l1; (have hlen' := hp'.length_eq); (try k_lt l1); (try dsimp only))) | ((with_reducible show wpAny _ _ (subscriptTail _ _ (Value.ref _) (Value.ref _)) _ _ _); (k_here; (k_dflt (refine take_K (by k_asm) (by k_asm) (by k_mem) (by assumption) (by assumption) ?_)); intro D' h' F' N' l1; (try dsimp only))) | ((with_reducible show wpAny _ _ (eval (PySem.Expr.Name _ _) _) _ _ _); (k_here; (with_reducible show wpAny _ _ (eval (Expr.Name _ _) (compEnvC _ _ _ (compEnvC _ _ _ _))) _ _ _); k_dflt (first   | (refine' lcf_cell (by k_asm) (by rfl) (by k_mem) (by k_asm) ?_ (by rfl) (by with_unfolding_all rfl); k_whole)   | (refine' lcf_free (by k_asm) (by rfl) (by k_mem) (by k_asm) ?_ (by rfl) (by with_unfolding_all rfl); k_whole)))) | walk1)) | (leave1; (try dsimp only)) | fail "no step"))
  show wpAny _ _ (call (Value.builtin "sorted") [Value.ref _] [(Str.ofString "key", Value.ref _)]) _ _ _
  rename KeyGd _ _ _ _ _ _ _ _ _ _ => KG9
  rename Fr _ _ _ _ => F9
  rename News _ _ _ _ => N9
  rename List.Perm _ zs => hp9
  obtain ⟨ls, T, hP⟩ := texts_perm hz O.inQ ((List.reverse_perm _).trans hp9)
  have hin : ∀ x ∈ ls, x ∈ W.map (·.1) := fun x hx => hP.mem_iff.mp hx
  have hlen := T.len
  have hlen2 := hp9.length_eq
  rw [List.length_reverse] at hlen
  refine sortK_K (r := fun x => (walkT W).idxOf x) F9 N9 (N9 _ (List.mem_append_right _ (.tail _ (off59_mem (by k_mem) (by k_ne))))).1 KG9 O T hin (hP.nodup_iff.mpr K.nodup) (fun x hx y hy hne => cmp_rank K inQ (hin x hx) (hin y hy) hne) (fun x hx y hy e => ?_) (by rw [List.length_reverse]; omega) (by rw [List.length_reverse]; omega) rfl (Nat.le_of_ble_eq_true rfl) (Nat.le_of_ble_eq_true rfl) ?_
  · have hx' := (walkT_mem K inQ x).mpr (hin x hx)
    have hy' := (walkT_mem K inQ y).mpr (hin y hy)
    rw [← List.getElem_idxOf (List.idxOf_lt_length_iff.mpr hx'), ← List.getElem_idxOf (List.idxOf_lt_length_iff.mpr hy')]
    simp only [e]
  intro D zs2 ls2 h2 k2 tk2 T2 P2 S2 F2 N2 hD
  have e2 := sorted_walk K inQ (P2.trans hP) S2
  (repeat' (first | (k_unfold; (try dsimp only)) | (k_end; wrow_close) | ((with_reducible show wpAny _ _ (call (Value.ref _) _) _ _ _); (k_here; (with_reducible show wpAny _ _ (call (Value.ref 64) _) _ _ _); k_dflt (refine' ctk_K (by k_asm) (by k_asm) (by k_mem) (by assumption) (by exact ⟨by assumption, _, _, _, _, by assumption⟩) (by assumption) (by (refine ahIs_news (by exact rfl) (by k_mem) (by k_mem) (by k_mem) ?_ ?_ ?_ (by assumption) (by assumption) (by with_unfolding_all assumption) <;> k_ne)) (by assumption) (by exact rfl) (by exact Nat.le_of_ble_eq_true rfl) (by exact Nat.le_of_ble_eq_true rfl) ?_); intro aK' own' ps59' h' tk' F' N' KG'; (try dsimp only))) | ((with_reducible show wpAny _ _ (subscriptTail _ _ (Value.ref _) (Value.ref _)) _ _ _); (k_here; k_dflt (refine' revS_K (by k_asm) (by k_asm) (by k_mem) (by exact IsPart.int _ _) (by omega) ?_ (by with_unfolding_all rfl) (by kmk_pure)); intro D' h' F' N' l1; (try k_lt l1); (try dsimp only))) | ((with_reducible show wpAny _ _ (call (Value.builtin "sorted") _) _ _ _); (k_here; (with_reducible show wpAny _ _ (call (Value.builtin _) [Value.ref _]) _ _ _); k_dflt (refine' sortS_K (by k_asm) (by k_asm) (by assumption) (by assumption) (by assumption) ?_; k_whole); intro D' zs' h' k' hp' F' N' l1; (have hlen' := hp'.length_eq); (try k_lt l1); (try dsimp only))) | ((with_reducible show wpAny _ _ (subscriptTail _ _ (Value.ref _) (Value.ref _)) _ _ _); (k_here; (k_dflt (refine take_K (by k_asm) (by k_asm) (by k_mem) (by assumption) (by assumption) ?_)); intro D' h' F' N' l1; (try dsimp only))) | ((with_reducible show wpAny _ _ (eval (PySem.Expr.Name _ _) _) _ _ _); (k_here; (with_reducible show wpAny _ _ (eval (Expr.Name _ _) (compEnvC _ _ _ (compEnvC _ _ _ _))) _ _ _); k_dflt (first   | (refine' lcf_cell (by k_asm) (by rfl) (by k_mem) (by k_asm) ?_ (by rfl) (by with_unfolding_all rfl); k_whole)   | (refine' lcf_free (by k_asm) (by rfl) (by k_mem) (by k_asm) ?_ (by rfl) (by with_unfolding_all rfl); k_whole)))) | walk1 | (dsimp only; (first | ((with_reducible show wpAny _ _ (call (Value.ref _) _) _ _ _); (k_here; (with_reducible show wpAny _ _ (call (Value.ref 64) _) _ _ _); k_dflt (refine' ctk_K (by k_asm) (by k_asm) (by k_mem) (by assumption) (by exact ⟨by assumption, _, _, _, _, by assumption⟩) (by assumption) (by (refine ahIs_news (by exact rfl) (by k_mem) (by k_mem) (by k_mem) ?_ ?_ ?_ (by assumption) (by assumption) (by with_unfolding_all assumption) <;> k_ne)) (by assumption) (by exact rfl) (by exact Nat.le_of_ble_eq_true rfl) (by exact Nat.le_of_ble_eq_true rfl) ?_); intro aK' own' ps59' h' tk' F' N' KG'; (try dsimp only))) | ((with_reducible show wpAny _ _ (subscriptTail _ _ (Value.ref _) (Value.ref _)) _ _ _); (k_here; k_dflt (refine' revS_K (by k_asm) (by k_asm) (by k_mem) (by exact IsPart.int _ _) (by omega) ?_ (by with_unfolding_all rfl) (by kmk_pure)); intro D' h' F' N' l1; (try k_lt l1); (try dsimp only))) | ((with_reducible show wpAny _ _ (call (Value.builtin "sorted") _) _ _ _); (k_here; (with_reducible show wpAny _ _ (call (Value.builtin _) [Value.ref _]) _ _ _); k_dflt (refine' sortS_K (by k_asm) (by k_asm) (by assumption) (by assumption) (by assumption) ?_; k_whole); intro D' zs' h' k' hp' F' N' l1; (have hlen' := hp'.length_eq); (try k_lt l1); (try dsimp only))) | ((with_reducible show wpAny _ _ (subscriptTail _ _ (Value.ref _) (Value.ref _)) _ _ _); (k_here; (k_dflt (refine take_K (by k_asm) (by k_asm) (by k_mem) (by assumption) (by assumption) ?_)); intro D' h' F' N' l1; (try dsimp only))) | ((with_reducible show wpAny _ _ (eval (PySem.Expr.Name _ _) _) _ _ _); (k_here; (with_reducible show wpAny _ _ (eval (Expr.Name _ _) (compEnvC _ _ _ (compEnvC _ _ _ _))) _ _ _); k_dflt (first   | (refine' lcf_cell (by k_asm) (by rfl) (by k_mem) (by k_asm) ?_ (by rfl) (by with_unfolding_all rfl); k_whole)   | (refine' lcf_free (by k_asm) (by rfl) (by k_mem) (by k_asm) ?_ (by rfl) (by with_unfolding_all rfl); k_whole)))) | walk1)) | (leave1; (try dsimp only)) | fail "no step"))
  exact ⟨_, _, h2, tk2, rfl, F2, D, zs2, k2, rfl, (N2 _ (.head _)).2.2, (N2 _ (.head _)).1, by rw [T2.eq, e2], GrownAt.of N2 (.tail _ (List.mem_append_right _ (.head _))), GrownAt.of N2 (.tail _ (List.mem_append_right _ (.tail _ (off59_mem (by k_mem) (by k_ne)))))⟩
end
section
open PySem PySem.W PyProof.Rows PySem.Calls
set_option maxRecDepth 100000






noncomputable def lawTail (K : Frag) : Option (List Stmt) := match K.lookup 222 with
  | some ⟨_, _, .func fd, _⟩ => (match fd.body with
    | .stmts [_, _, _, _, r] => some [r]
    | _ => none)
  | _ => none
noncomputable def lawScopeD (K : Frag) : Option Scope := match K.lookup 222 with
  | some ⟨_, _, .func fd, _⟩ => some fd.scope
  | _ => none
section
variable {w : World} {A : Around} {E : Value → Shared → Prop} {s : Shared} {h₀ : Heap} {L : Addr} {m : Str → Option Value} {news : List (Addr × Obj)} {Q : Value → Shared → Prop}
/-- _law_sorted in the law's walk -/
theorem sorted_K {lw : Addr} {zs : List (Str × Tok)} {kw : Nat} {W : List (Place × Bool)} {rest : List (Addr × Obj)} (F : Fr h₀ L s.heap m) (N : News h₀ L s.heap news) (h59 : ((59 : Addr), tabObj #[]) ∈ news) (h205 : ((205 : Addr), tabObj #[]) ∈ news) (C1 : CodeHd h₀ 63 59) (C2 : CodeHd h₀ 209 205) (G : Gd w h₀)
    (hm : (lw, lstO (strValues zs) kw) ∈ news) (n1 : lw ≠ (59 : Addr)) (n2 : lw ≠ (205 : Addr)) (hz : zs.map (·.1) = (W.map (·.1)).map pstr) (inQ : ∀ q ∈ W, q.1 ∈ allQ) (K : WOk W) (h2 : 2 ≤ zs.length) (h64 : zs.length < 64) (hrest : ∀ q ∈ rest, q ∈ news ∧ q.1 ≠ (59 : Addr) ∧ q.1 ≠ (205 : Addr))
    (hh : A.handled = none) (hd1 : A.depth ≤ 800) (hu : A.units ≤ 7000)
    (h : ∀ D zs' k ps1 ps2 h' tk', Fr h₀ L h' m → News h₀ L h' ((D, lstO (strValues zs') k) :: (59, tabObj ps1) :: (205, tabObj ps2) :: rest) → zs'.map (·.1) = (walkT W).map pstr → Q (.ref D) { s with heap := h', toks := tk' }) :
    wpAny (model prog w) A (call (.ref 210) [.ref lw]) Q E s := by
  have n59 := N _ h59
  have n205 := N _ h205
  have GR : Ground w (hide [59, 205] s.heap) s.heap [(59, tabObj #[]), (205, tabObj #[])] := ground_hide (nodes := [((59 : Addr), tabObj #[]), ((205 : Addr), tabObj #[])]) G (fun b o e => F.keep b o e) fun p hp => by
    rcases List.mem_cons.mp hp with rfl | hp
    · exact ⟨n59.1, n59.2.2⟩
    · rw [List.mem_singleton.mp hp]; exact ⟨n205.1, n205.2.2⟩
  have out : ∀ {b : Addr}, b ≠ 59 → b ≠ 205 → (hide [59, 205] s.heap).get? b = s.heap.get? b := fun h1 h2 => hide_out (by simp [h1, h2])
  have sub : ∀ b o, h₀.get? b = some o → (hide [59, 205] s.heap).get? b = some o := fun b o e => by
    rw [out]
    · exact F.keep b o e
    · intro hb
      have := n59.2.2
      rw [← hb, e] at this; cases this
    · intro hb
      have := n205.2.2
      rw [← hb, e] at this; cases this
  refine sorted_c w lw zs kw W s (hide [59, 205] s.heap) GR (hide_size _ _) (C1.keeps sub) (C2.keeps sub) (by rw [out n1 n2]; exact (N _ hm).1) hz inQ K h2 h64 (Heap.lt_size n205.1) A Q E hh hd1 hu fun r h' tk' st sz P => ?_
  obtain ⟨D, zs', k, rfl, hD, hD2, e, ⟨ps1, t1⟩, ⟨ps2, t2⟩⟩ := P
  obtain ⟨oL, es, ep, eL, rr⟩ := F.ns
  have eh : (hide [59, 205] s.heap).get? L = some oL := by rw [out (Ne.symm n59.2.1) (Ne.symm n205.2.1)]; exact eL
  have F' : Fr h₀ L h' m := ⟨⟨oL, es, ep, st _ _ eh, rr⟩, fun b o e => st _ _ (sub b o e), F.above⟩
  have rest_at : ∀ q ∈ rest, (hide [59, 205] s.heap).get? q.1 = some q.2 := fun q hq => by
    obtain ⟨h1, h2, h3⟩ := hrest q hq
    rw [out h2 h3]; exact (N q h1).1
  refine h D zs' k ps1 ps2 h' tk' F' (fun q hq => ?_) e
  · rcases List.mem_cons.mp hq with rfl | hq
    · refine ⟨hD2, fun e => ?_, ?_⟩
      · dsimp only at e; rw [e, eh] at hD; cases hD
      · cases e : h₀.get? D with
        | none => rfl
        | some o => rw [sub _ _ e] at hD; cases hD
    rcases List.mem_cons.mp hq with rfl | hq
    · exact ⟨t1, n59.2⟩
    rcases List.mem_cons.mp hq with rfl | hq
    · exact ⟨t2, n205.2⟩
    · exact ⟨st _ _ (rest_at q hq), (N q (hrest q hq).1).2⟩
end
section
variable {prog : Program} {w : World} {A : Around} {E : Value → Shared → Prop} {s : Shared} {h₀ : Heap} {L : Addr} {m : Str → Option Value} {env : Env}
/-- an element of the comprehension: a new pair -/
noncomputable def TellEnd (h₀ : Heap) (L : Addr) (m : Str → Option Value) (all : List (Addr × Obj)) (s₁ : Shared) (z : Str) (b : Bool) (v : Value) (s' : Shared) : Prop :=
  ∃ T t h' tk', v = .ref T ∧ s' = { s₁ with heap := h', toks := tk' } ∧ Fr h₀ L h' m ∧ News h₀ L h' ((T, tupO [.str z t, .bool b]) :: all) ∧ ∀ q ∈ all, q.1 < T
open LCg in
theorem restTell {elt : PySem.Expr} {x : Str} {scope : Scope} {cl : List (Str × Addr)} {S : List (Addr × Obj) → Prop} {l : List (Str × Tok)} {news : List (Addr × Obj)} {Fin : List Value → List (Addr × Obj) → Prop} (keep : Str → Bool)
    (hS : ∀ tl, S (news ++ tl))
    (turn : ∀ z tz I oI C oC D oD m₂ h tk tl (E' : Value → Shared → Prop), (z, tz) ∈ l → NsObj oC m₂ → m₂ x = some (.str z tz) → Fr h₀ L h m → News h₀ L h ((I, oI) :: (C, oC) :: (D, oD) :: (news ++ tl)) →
      wpAny (model prog w) A (eval elt (compEnvC scope cl C env)) (TellEnd h₀ L m ((I, oI) :: (C, oC) :: (D, oD) :: (news ++ tl)) { s with heap := h, toks := tk } z (keep z)) E' { s with heap := h, toks := tk })
    (fin : ∀ ys tl, Told tl ys (l.map fun z => (z.1, keep z.1)) → Fin ys (news ++ tl)) :
    CompRest prog w A h₀ L m env elt x scope cl s S (fun i v => (strValues l).toArray[i]? = some v) Fin (strValues l).toArray.size 0 [] news := by
  have hsz : (strValues l).toArray.size = l.length := by simp [strValues]
  rw [hsz]
  suffices H : ∀ k i ys tl, i + k = l.length → Told tl ys ((l.take i).map fun z => (z.1, keep z.1)) → CompRest prog w A h₀ L m env elt x scope cl s S (fun i v => (strValues l).toArray[i]? = some v) Fin k i ys (news ++ tl) by
    have := H l.length 0 [] [] (Nat.zero_add _) trivial
    rwa [List.append_nil] at this
  intro k
  induction k with
  | zero =>
    intro i ys tl hi hT
    refine CompRest.zero (fin ys tl ?_)
    rw [List.take_of_length_le (by omega)] at hT
    exact hT
  | succ k ih =>
    intro i ys tl hi hT
    refine CompRest.succ fun v I oI C oC D m₂ h tk E' hv hC hm F N off ne => ?_
    have hlt : i < l.length := by omega
    have hv2 : v = .str l[i].1 l[i].2 := by
      have : (strValues l)[i]? = some v := by simpa using hv
      simp [strValues, hlt] at this
      exact this.symm
    subst hv2
    refine wpAny_mono (turn l[i].1 l[i].2 I oI C oC D _ m₂ h tk tl E' (List.getElem_mem hlt) hC hm F N) (fun r s' h' => ?_) fun _ _ e => e
    obtain ⟨T, t, h2, tk2, rfl, rfl, F2, N2, hT2⟩ := h'
    refine CompEnd.intro F2 N2 (news ++ ((T, tupO [.str l[i].1 t, .bool (keep l[i].1)]) :: tl)) (fun p hp => ?_) ?_ (hS _) (ih (i + 1) _ _ (by omega) ?_)
    · rcases List.mem_cons.mp hp with rfl | hp
      · exact .tail _ (.head _)
      rcases List.mem_cons.mp hp with rfl | hp
      · exact .tail _ (.tail _ (.head _))
      rcases List.mem_cons.mp hp with rfl | hp
      · exact .tail _ (.tail _ (.tail _ (.head _)))
      rcases List.mem_append.mp hp with hp | hp
      · exact .tail _ (.tail _ (.tail _ (.tail _ (List.mem_append_left _ hp))))
      rcases List.mem_cons.mp hp with rfl | hp
      · exact .head _
      · exact .tail _ (.tail _ (.tail _ (.tail _ (List.mem_append_right _ hp))))
    · refine Off3.of fun p hp => ?_
      rcases List.mem_append.mp hp with hp | hp
      · exact off.mem p (List.mem_append_left _ hp)
      rcases List.mem_cons.mp hp with rfl | hp
      · exact ⟨Ne.symm (Nat.ne_of_lt (hT2 _ (.head _))), Ne.symm (Nat.ne_of_lt (hT2 _ (.tail _ (.head _)))), Ne.symm (Nat.ne_of_lt (hT2 _ (.tail _ (.tail _ (.head _)))))⟩
      · exact off.mem p (List.mem_append_right _ hp)
    · rw [List.take_succ_eq_append_getElem hlt, List.map_append]
      refine Told.append ?_ (hT.mono fun q hq => .tail _ hq)
      exact ⟨⟨T, t, rfl, .head _⟩, trivial⟩
/-- pairs of the same texts and answers are equal -/
theorem told_eq {tl1 tl2 : List (Addr × Obj)} (hu : A.units < cLine) (h1 : ∀ q ∈ tl1, s.heap.get? q.1 = some q.2) (h2 : ∀ q ∈ tl2, s.heap.get? q.1 = some q.2) : ∀ {vs1 vs2 : List Value} {xs : List (Str × Bool)}, Told tl1 vs1 xs → Told tl2 vs2 xs →
    ∀ j (h1 : j < vs1.length) (h2 : j < vs2.length), SeqAt.EqAt A s vs1[j] vs2[j] true
  | [], _, _, _, _, j, hj, _ => absurd hj (Nat.not_lt_zero _)
  | _ :: _, [], _, _, _, j, _, hj => absurd hj (Nat.not_lt_zero _)
  | v :: vs, u :: us, x :: xs, ⟨⟨a, t, e1, m1⟩, r1⟩, ⟨⟨b, t2, e2, m2⟩, r2⟩, 0, _, _ => by
    subst e1 e2
    show SeqAt.EqAt A s (.ref a) (.ref b) true
    by_cases hab : a = b
    · subst hab; exact SeqAt.EqAt.same _
    · refine SeqAt.EqAt.of_refs hab ?_
      have := SeqAt.RcAt.tuples (A := A) (s := s) (l := a) (b := b) (items := #[.str x.1 t, .bool x.2]) (items2 := #[.str x.1 t2, .bool x.2]) (e := fun _ => true) ⟨_, h1 _ m1, rfl, _, rfl⟩ ⟨_, h2 _ m2, rfl, _, rfl⟩ hu (fun j h1 h2 => ?_)
      · exact this
      · match j, h1, h2 with
        | 0, _, _ =>
          have := (eqGives_str x.1 x.1 t t2).at A.in1 s
          rw [beq_self_eq_true] at this
          exact this
        | 1, _, _ => exact SeqAt.EqAt.same _
        | n + 2, h, _ => exact absurd h (by simp)
  | v :: vs, u :: us, x :: xs, ⟨_, r1⟩, ⟨_, r2⟩, j + 1, hj1, hj2 => by
    exact told_eq hu h1 h2 r1 r2 j (Nat.lt_of_succ_lt_succ hj1) (Nat.lt_of_succ_lt_succ hj2)
theorem eqT_K {a b : Addr} {k1 k2 : Nat} {vs1 vs2 : List Value} {xs : List (Str × Bool)} {tl1 tl2 news : List (Addr × Obj)} {Q : Value → Shared → Prop} (N : News h₀ L s.heap news) (ha : (a, lstO vs1 k1) ∈ news) (hb : (b, lstO vs2 k2) ∈ news) (h1 : ∀ q ∈ tl1, q ∈ news) (h2 : ∀ q ∈ tl2, q ∈ news)
    (T1 : Told tl1 vs1 xs) (T2 : Told tl2 vs2 xs) (hu : A.in1.units < cLine) (h : Q (.bool true) s) : wpAny (model prog w) A (compareOp .Eq (.ref a) (.ref b)) Q E s := by
  refine SeqAt.eq_listAt (items := vs1.toArray) (items2 := vs2.toArray) (e := fun _ => true) ⟨_, (N _ ha).1, rfl, _, rfl⟩ ⟨_, (N _ hb).1, rfl, _, rfl⟩ (by simp [T1.len, T2.len]) (Nat.lt_of_succ_lt hu) (fun j g1 g2 => ?_) ?_
  · have := told_eq (A := A.in1) (s := s) hu (fun q hq => (N q (h1 q hq)).1) (fun q hq => (N q (h2 q hq)).1) T1 T2 j (by simpa using g1) (by simpa using g2)
    simpa using this
  · have e : ((List.range vs1.toArray.size).all fun _ => true) = true := by simp
    rw [e]; exact h
theorem in_K {a : Addr} {zs : List (Str × Tok)} {k : Nat} {x : Str} {t : Tok} {news : List (Addr × Obj)} {Q : Value → Shared → Prop} (N : News h₀ L s.heap news) (hm : (a, lstO (strValues zs) k) ∈ news) (h : Q (.bool ((zs.map (·.1)).any (· == x))) s) : wpAny (model prog w) A (compareOp .In (.str x t) (.ref a)) Q E s :=
  in_list_strs (vs := strValues zs) ⟨_, (N _ hm).1, rfl, _, rfl⟩ (strsAre_of_values zs) h
end
theorem sub_len (W : List (Place × Bool)) : ∀ k p a, (subT W k p a).length = (walkP W k p).length
  | 0, _, _ => rfl
  | k + 1, p, a => by
    unfold subT walkP
    rw [List.length_flatMap, List.length_flatMap]
    congr 1
    apply List.map_congr_left
    intro n hn
    by_cases hc : (n :: p, false) ∈ W
    · rw [if_pos hc, if_pos hc, List.length_cons, List.length_cons, sub_len W k]
    · rw [if_neg hc, if_neg hc]; rfl
theorem nodup_lenD {α : Type} [DecidableEq α] : ∀ (l l' : List α), l.Nodup → (∀ x ∈ l, x ∈ l') → l.length ≤ l'.length
  | [], _, _, _ => Nat.zero_le _
  | x :: xs, l', hn, hs => by
    rw [List.nodup_cons] at hn
    have hx := hs x (.head _)
    have h1 := nodup_lenD xs (l'.erase x) hn.2 fun y hy => (List.mem_erase_of_ne (fun e => hn.1 (by rw [← e]; exact hy))).mpr (hs y (.tail _ hy))
    have h2 := List.length_erase_of_mem hx
    have h3 : 0 < l'.length := List.length_pos_of_mem hx
    rw [List.length_cons]; omega
theorem walk_len {W : List (Place × Bool)} (K : WOk W) (k : Nat) (p : Place) : (walkP W k p).length ≤ W.length := by
  have hn : ((walkP W k p).map (·.1)).Nodup := (List.pairwise_map.mpr (walk_before K k p)).imp fun h e => h.1 (by rw [e]; exact com_self _)
  have := nodup_lenD _ (W.map (·.1)) hn fun x hx => by
    obtain ⟨q, hq, rfl⟩ := List.mem_map.mp hx
    exact List.mem_map_of_mem (f := (·.1)) (walk_sub K k p q hq).1
  simpa using this
theorem q_small : ∀ q ∈ allQ, q.length ≤ 3 ∧ ∀ n ∈ q, n.length ≤ 50 := by decide +kernel
theorem law_walk_c (w : World) {W : List (Place × Bool)} {ad : Place → Addr} {h : Heap} (K : WOk W) (inQ : ∀ q ∈ W, q.1 ∈ allQ) (h39 : W.length ≤ 39) (t : Tok) (s : Shared) (T : TreeH w W ad s.heap) :
    RCall w (.ref 217) [.ref (ad []), .str (Str.ofString "/") t] 900 8400 s (PTold s.heap ((walkP W 4 []).map fun q => (pstr q.1, q.2))) := by
  have h1 := walk_c w W ad (fun k p a => by rw [sub_len]; exact Nat.le_trans (walk_len K k p) (Nat.le_trans h39 (by decide))) (fun n p b hm => (q_small _ (inQ _ hm)).2 n (.head _)) (fun p b hm => (q_small _ (inQ _ hm)).1)
  have h2 := h1 [] (Str.ofString "/") t s (.inl rfl) rfl (by decide) T
  have e : subT W 4 [] (Str.ofString "/") = (walkP W 4 []).map fun q => (pstr q.1, q.2) := subT_walk inQ 4 [] (.head _)
  rw [e] at h2
  exact h2
theorem files_any {W : List (Place × Bool)} {zsW zsF : List (Str × Tok)} (S : LawSt W zsW zsF) (K : WOk W) {q : Place × Bool} (hq : q ∈ W) : (zsF.map (·.1)).any (· == pstr q.1) = q.2 := by
  rw [S.files]
  cases hb : q.2 with
  | true =>
    rw [List.any_eq_true]
    exact ⟨pstr q.1, List.mem_map.mpr ⟨q, List.mem_filter.mpr ⟨hq, hb⟩, rfl⟩, beq_self_eq_true _⟩
  | false =>
    rw [List.any_eq_false]
    intro z hz e
    obtain ⟨r, hr, rfl⟩ := List.mem_map.mp hz
    obtain ⟨h1, h2⟩ := List.mem_filter.mp hr
    have e2 : r.1 = q.1 := t_inj _ (.tail _ (S.inQ r h1)) _ (.tail _ (S.inQ q hq)) (beq_iff_eq.mp e)
    have h3 : (q.1, r.2) ∈ W := by rw [← e2]; exact h1
    have := K.one h3 hq
    rw [h2, hb] at this
    cases this
theorem tell_lists {W : List (Place × Bool)} {zsW zsF zs : List (Str × Tok)} (S : LawSt W zsW zsF) (K : WOk W) (e : zs.map (·.1) = (walkT W).map pstr) : (zs.map fun z => (z.1, (zsF.map (·.1)).any (· == z.1))) = (walkP W 4 []).map fun q => (pstr q.1, q.2) := by
  have h1 : (zs.map fun z => (z.1, (zsF.map (·.1)).any (· == z.1))) = (zs.map (·.1)).map fun x => (x, (zsF.map (·.1)).any (· == x)) := by rw [List.map_map]; rfl
  rw [h1, e, List.map_map, List.map_map]
  refine List.map_congr_left fun q hq => ?_
  show (pstr q.1, (zsF.map (·.1)).any (· == pstr q.1)) = _
  rw [files_any S K (walk_sub K _ _ q hq).1]
theorem tell_intro {h₀ : Heap} {L : Addr} {m : Str → Option Value} {all : List (Addr × Obj)} {s₁ : Shared} {z : Str} {b b' : Bool} {T : Addr} {t : Tok} {h' : Heap} {tk' : Nat} (F : Fr h₀ L h' m) (N : News h₀ L h' ((T, tupO [.str z t, .bool b']) :: all)) (l : ∀ q ∈ all, q.1 < T) (e : b' = b) :
    TellEnd h₀ L m all s₁ z b (.ref T) { s₁ with heap := h', toks := tk' } := ⟨T, t, h', tk', rfl, rfl, F, e ▸ N, l⟩

/-- a stop -/
structure HoldP (p : Prop) : Prop where
  h : p


set_option maxHeartbeats 8000000 in
/-- the law's last statement -/
theorem done_K (w : World) {h₀ : Heap} {L fa : Addr} {cd : Value} {s : Shared} {m : Str → Option Value} {x d3 d2 : Addr} {tk : Tok} {loose : List Str} {mean : ExcName → Option Value} {mg mb : Str → Option Value} {E : Value → Shared → Prop} {Q : Flow → Shared → Prop} {tail : List Stmt} {scope : Scope}
    {oW oF oD : Obj} {lw lf : Addr} {kw kf : Nat} {zsW zsF : List (Str × Tok)} {W : List (Place × Bool)} {ad : Place → Addr} {nl : List (Addr × Obj)} {a b c d : Option Value}
    (ht : lawTail (hd.heap_1 w.params) = some tail) (hs : lawScopeD (hd.heap_1 w.params) = some scope)
    (X : (hd.heap_1 w.params).In h₀) (Tp : Top topProg loose mean mg mb h₀) (C1 : CodeHd h₀ 63 59) (C2 : CodeHd h₀ 209 205)
    (hW : oW.data = .cell (some (.ref lw))) (hF : oF.data = .cell (some (.ref lf))) (hst : LawSt W zsW zsF) (hT : Tree w W ad nl) (hroot : ad [] = d2) (hoff : ∀ q ∈ [((59 : Addr), tabObj #[]), (205, tabObj #[])], ∀ r ∈ nl, q.1 ≠ r.1)
    (hO : OwnOff (nl ++ [((59 : Addr), tabObj #[]), (205, tabObj #[])]) [L + 1, L + 1 + 1, L + 1 + 1 + 1, lw, lf, x, d3]) (hap : Apart [L + 1, L + 1 + 1, L + 1 + 1 + 1, lw, lf, x, d3]) (h2 : 2 ≤ W.length) (h39 : W.length ≤ 39)
    (F : Fr h₀ L s.heap (lawM (fun y => if y = Str.ofString "tree" then some (.ref x) else m y) a b c d))
    (N : News h₀ L s.heap (frontO w tk d2 (L + 1) (L + 1 + 1) (L + 1 + 1 + 1) lw lf x d3 oW oF oD zsW zsF kw kf ++ (nl ++ [((59 : Addr), tabObj #[]), (205, tabObj #[])])))
    (hQ : ∀ h' tk' m' ps1 ps2, Fr h₀ L h' m' → News h₀ L h' [(59, tabObj ps1), (205, tabObj ps2)] → Q (.ret (.bool true)) { s with heap := h', toks := tk' }) :
    wpAny (model prog w) (callerA.deeper (envOfC (Str.ofString "law") scope L fa cd)) (execs tail (envOfC (Str.ofString "law") scope L fa cd)) Q E s := by
  have eb : lawTail (hd.heap_1 w.params) = some _ := rfl
  have es : lawScopeD (hd.heap_1 w.params) = some _ := rfl
  obtain rfl := Option.some.inj (ht.symm.trans eb)
  obtain rfl := Option.some.inj (hs.symm.trans es)
  clear eb es ht hs
  subst hroot
  unfold lawM at F
  (try dsimp only at F)
  simp only [frontO, List.cons_append, List.nil_append] at N
  have hK := hT.ok
  have hTH := TreeH.of hT N fun q hq => List.Mem.tail _ (List.Mem.tail _ (List.Mem.tail _ (List.Mem.tail _ (List.Mem.tail _ (List.Mem.tail _ (List.Mem.tail _ (List.mem_append_left _ hq)))))))
  (repeat' (first | (k_unfold; (try dsimp only)) | (k_end; wrow_close) | ((with_reducible show wpAny _ _ (eval (PySem.Expr.ListComp _ _ _ _) _) _ _ _); (k_here; k_dflt (refine LCg.ListComp_U (F₀ := by k_asm) (by with_unfolding_all rfl) (by decide) (by rfl) (by decide) (by rfl) ?_))) | ((with_reducible show wpAny _ _ (call (Value.ref _) _) _ _ _); (k_here; (with_reducible show wpAny _ _ (call (Value.ref 210) _) _ _ _); refine HoldP.h ?_)) | ((with_reducible show wpAny _ _ (compareOp CmpOp.In _ _) _ _ _); (k_here; k_dflt (refine in_K (by k_asm) (by k_mem) ?_))) | ((with_reducible show wpAny _ _ (eval (PySem.Expr.Name _ _) _) _ _ _); (k_here; (with_reducible show wpAny _ _ (eval (Expr.Name _ _) (compEnvC _ _ _ (compEnvC _ _ _ _))) _ _ _); k_dflt (first   | (refine' lcf_cell (by k_asm) (by rfl) (by k_mem) (by k_asm) ?_ (by rfl) (by with_unfolding_all rfl); k_whole)   | (refine' lcf_free (by k_asm) (by rfl) (by k_mem) (by k_asm) ?_ (by rfl) (by with_unfolding_all rfl); k_whole)))) | ((with_reducible show wpAny _ _ (eval (PySem.Expr.ListComp _ _ _ _) _) _ _ _); (k_here; (with_reducible show wpAny _ _ (eval (Expr.ListComp (Expr.Name _ _) _ _ _) _) _ _ _); k_dflt (refine LCt.ListComp_T (F₀ := by k_asm) (by with_unfolding_all rfl) (by decide) (by rfl) (by decide) (by rfl) ?_))) | walk1 | (dsimp only; (first | ((with_reducible show wpAny _ _ (eval (PySem.Expr.ListComp _ _ _ _) _) _ _ _); (k_here; k_dflt (refine LCg.ListComp_U (F₀ := by k_asm) (by with_unfolding_all rfl) (by decide) (by rfl) (by decide) (by rfl) ?_))) | ((with_reducible show wpAny _ _ (call (Value.ref _) _) _ _ _); (k_here; (with_reducible show wpAny _ _ (call (Value.ref 210) _) _ _ _); refine HoldP.h ?_)) | ((with_reducible show wpAny _ _ (compareOp CmpOp.In _ _) _ _ _); (k_here; k_dflt (refine in_K (by k_asm) (by k_mem) ?_))) | ((with_reducible show wpAny _ _ (eval (PySem.Expr.Name _ _) _) _ _ _); (k_here; (with_reducible show wpAny _ _ (eval (Expr.Name _ _) (compEnvC _ _ _ (compEnvC _ _ _ _))) _ _ _); k_dflt (first   | (refine' lcf_cell (by k_asm) (by rfl) (by k_mem) (by k_asm) ?_ (by rfl) (by with_unfolding_all rfl); k_whole)   | (refine' lcf_free (by k_asm) (by rfl) (by k_mem) (by k_asm) ?_ (by rfl) (by with_unfolding_all rfl); k_whole)))) | ((with_reducible show wpAny _ _ (eval (PySem.Expr.ListComp _ _ _ _) _) _ _ _); (k_here; (with_reducible show wpAny _ _ (eval (Expr.ListComp (Expr.Name _ _) _ _ _) _) _ _ _); k_dflt (refine LCt.ListComp_T (F₀ := by k_asm) (by with_unfolding_all rfl) (by decide) (by rfl) (by decide) (by rfl) ?_))) | walk1)) | (leave1; (try dsimp only)) | fail "no step"))
  refine rcall_use (law_walk_c (h := h₀) w hK hst.inQ h39 _ _ hTH) F X N Tp rfl (by first | exact Nat.le_of_ble_eq_true rfl | k_room) (by first | exact Nat.le_of_ble_eq_true rfl | (simp only [units_deeper, units_caller]; decide)) ?_
  intro r9 h9 tk9 hp9 F9 N9 st9 sz9
  refine hideG fun G9 b9 => ?_
  obtain ⟨D9, vs9, k9, tl9, er9, hn9, htl9, hT9⟩ := hp9
  refine b9 ?_
  clear b9 G9
  subst er9
  have fr9 : ∀ q ∈ (D9, lstO vs9 k9) :: tl9, q.1 ≠ (59 : Addr) ∧ q.1 ≠ (205 : Addr) := fun q hq => by
    have g := (hn9 q hq).2
    have m59 := (N (59, tabObj #[]) (by simp)).1
    have m205 := (N (205, tabObj #[]) (by simp)).1
    refine ⟨fun e => ?_, fun e => ?_⟩
    · dsimp only at g; rw [e, m59] at g; cases g
    · dsimp only at g; rw [e, m205] at g; cases g
  have o59 := fun b hb => hO (59, tabObj #[]) (by simp) b hb
  have o205 := fun b hb => hO (205, tabObj #[]) (by simp) b hb
  simp only [List.mem_cons, List.not_mem_nil, or_false, forall_eq_or_imp, forall_eq] at o59 o205
  have N10 := news_made hn9 F N9
  clear N9 N F hTH
  have N11 : News h₀ L h9 ((D9, lstO vs9 k9) :: (L + 1, oW) :: (L + 1 + 1, oF) :: (lw, lstO (strValues zsW) kw) :: (lf, lstO (strValues zsF) kf) :: (59, tabObj #[]) :: (205, tabObj #[]) :: tl9) := news_in N10 fun q hq => by
    simp only [List.mem_cons, List.mem_append, List.not_mem_nil, or_false] at hq ⊢
    rcases hq with hq | hq | hq | hq | hq | hq | hq | hq <;> simp [hq]
  clear N10
  dsimp only
  (repeat' (first | (k_unfold; (try dsimp only)) | (k_end; wrow_close) | ((with_reducible show wpAny _ _ (eval (PySem.Expr.ListComp _ _ _ _) _) _ _ _); (k_here; k_dflt (refine LCg.ListComp_U (F₀ := by k_asm) (by with_unfolding_all rfl) (by decide) (by rfl) (by decide) (by rfl) ?_))) | ((with_reducible show wpAny _ _ (call (Value.ref _) _) _ _ _); (k_here; (with_reducible show wpAny _ _ (call (Value.ref 210) _) _ _ _); refine HoldP.h ?_)) | ((with_reducible show wpAny _ _ (compareOp CmpOp.In _ _) _ _ _); (k_here; k_dflt (refine in_K (by k_asm) (by k_mem) ?_))) | ((with_reducible show wpAny _ _ (eval (PySem.Expr.Name _ _) _) _ _ _); (k_here; (with_reducible show wpAny _ _ (eval (Expr.Name _ _) (compEnvC _ _ _ (compEnvC _ _ _ _))) _ _ _); k_dflt (first   | (refine' lcf_cell (by k_asm) (by rfl) (by k_mem) (by k_asm) ?_ (by rfl) (by with_unfolding_all rfl); k_whole)   | (refine' lcf_free (by k_asm) (by rfl) (by k_mem) (by k_asm) ?_ (by rfl) (by with_unfolding_all rfl); k_whole)))) | ((with_reducible show wpAny _ _ (eval (PySem.Expr.ListComp _ _ _ _) _) _ _ _); (k_here; (with_reducible show wpAny _ _ (eval (Expr.ListComp (Expr.Name _ _) _ _ _) _) _ _ _); k_dflt (refine LCt.ListComp_T (F₀ := by k_asm) (by with_unfolding_all rfl) (by decide) (by rfl) (by decide) (by rfl) ?_))) | walk1 | (dsimp only; (first | ((with_reducible show wpAny _ _ (eval (PySem.Expr.ListComp _ _ _ _) _) _ _ _); (k_here; k_dflt (refine LCg.ListComp_U (F₀ := by k_asm) (by with_unfolding_all rfl) (by decide) (by rfl) (by decide) (by rfl) ?_))) | ((with_reducible show wpAny _ _ (call (Value.ref _) _) _ _ _); (k_here; (with_reducible show wpAny _ _ (call (Value.ref 210) _) _ _ _); refine HoldP.h ?_)) | ((with_reducible show wpAny _ _ (compareOp CmpOp.In _ _) _ _ _); (k_here; k_dflt (refine in_K (by k_asm) (by k_mem) ?_))) | ((with_reducible show wpAny _ _ (eval (PySem.Expr.Name _ _) _) _ _ _); (k_here; (with_reducible show wpAny _ _ (eval (Expr.Name _ _) (compEnvC _ _ _ (compEnvC _ _ _ _))) _ _ _); k_dflt (first   | (refine' lcf_cell (by k_asm) (by rfl) (by k_mem) (by k_asm) ?_ (by rfl) (by with_unfolding_all rfl); k_whole)   | (refine' lcf_free (by k_asm) (by rfl) (by k_mem) (by k_asm) ?_ (by rfl) (by with_unfolding_all rfl); k_whole)))) | ((with_reducible show wpAny _ _ (eval (PySem.Expr.ListComp _ _ _ _) _) _ _ _); (k_here; (with_reducible show wpAny _ _ (eval (Expr.ListComp (Expr.Name _ _) _ _ _) _) _ _ _); k_dflt (refine LCt.ListComp_T (F₀ := by k_asm) (by with_unfolding_all rfl) (by decide) (by rfl) (by decide) (by rfl) ?_))) | walk1)) | (leave1; (try dsimp only)) | fail "no step"))
  have hzl : zsW.length = W.length := by
    have := congrArg List.length hst.ways
    simpa using this
  refine ⟨sorted_K (zs := zsW) (rest := (D9, lstO vs9 k9) :: (L + 1 + 1, oF) :: (lf, lstO (strValues zsF) kf) :: tl9) F9 N11 (by simp) (by simp) C1 C2 ⟨X, _, _, _, _, Tp⟩ (kw := kw) (by simp) (Ne.symm o59.2.2.2.1) (Ne.symm o205.2.2.2.1) (by rw [hst.ways, List.map_map]; rfl) hst.inQ hK (by omega) (by omega) ?_ rfl
    (by first | exact Nat.le_of_ble_eq_true rfl | k_room) (by first | exact Nat.le_of_ble_eq_true rfl | (simp only [units_deeper, units_caller]; decide)) ?_⟩
  · intro q hq
    rcases List.mem_cons.mp hq with rfl | hq
    · exact ⟨by simp, fr9 _ (.head _)⟩
    rcases List.mem_cons.mp hq with rfl | hq
    · exact ⟨by simp, Ne.symm o59.2.1, Ne.symm o205.2.1⟩
    rcases List.mem_cons.mp hq with rfl | hq
    · exact ⟨by simp, Ne.symm o59.2.2.2.2.1, Ne.symm o205.2.2.2.2.1⟩
    · exact ⟨by simp [hq], fr9 _ (.tail _ hq)⟩
  clear F9 N11
  intro D8 zs8 k8 ps81 ps82 h8 tk8 F8 N8 e8
  dsimp only
  have h8 : zs8.length = (walkT W).length := by
    have := congrArg List.length e8
    simpa using this
  have h9' : (walkT W).length ≤ 39 := by rw [List.length_map]; exact Nat.le_trans (walk_len hK 4 []) h39
  (repeat' (first | (k_unfold; (try dsimp only)) | (k_end; wrow_close) | ((with_reducible show wpAny _ _ (eval (PySem.Expr.ListComp _ _ _ _) _) _ _ _); (k_here; k_dflt (refine LCg.ListComp_U (F₀ := by k_asm) (by with_unfolding_all rfl) (by decide) (by rfl) (by decide) (by rfl) ?_))) | ((with_reducible show wpAny _ _ (call (Value.ref _) _) _ _ _); (k_here; (with_reducible show wpAny _ _ (call (Value.ref 210) _) _ _ _); refine HoldP.h ?_)) | ((with_reducible show wpAny _ _ (compareOp CmpOp.In _ _) _ _ _); (k_here; k_dflt (refine in_K (by k_asm) (by k_mem) ?_))) | ((with_reducible show wpAny _ _ (eval (PySem.Expr.Name _ _) _) _ _ _); (k_here; (with_reducible show wpAny _ _ (eval (Expr.Name _ _) (compEnvC _ _ _ (compEnvC _ _ _ _))) _ _ _); k_dflt (first   | (refine' lcf_cell (by k_asm) (by rfl) (by k_mem) (by k_asm) ?_ (by rfl) (by with_unfolding_all rfl); k_whole)   | (refine' lcf_free (by k_asm) (by rfl) (by k_mem) (by k_asm) ?_ (by rfl) (by with_unfolding_all rfl); k_whole)))) | ((with_reducible show wpAny _ _ (eval (PySem.Expr.ListComp _ _ _ _) _) _ _ _); (k_here; (with_reducible show wpAny _ _ (eval (Expr.ListComp (Expr.Name _ _) _ _ _) _) _ _ _); k_dflt (refine LCt.ListComp_T (F₀ := by k_asm) (by with_unfolding_all rfl) (by decide) (by rfl) (by decide) (by rfl) ?_))) | walk1 | (dsimp only; (first | ((with_reducible show wpAny _ _ (eval (PySem.Expr.ListComp _ _ _ _) _) _ _ _); (k_here; k_dflt (refine LCg.ListComp_U (F₀ := by k_asm) (by with_unfolding_all rfl) (by decide) (by rfl) (by decide) (by rfl) ?_))) | ((with_reducible show wpAny _ _ (call (Value.ref _) _) _ _ _); (k_here; (with_reducible show wpAny _ _ (call (Value.ref 210) _) _ _ _); refine HoldP.h ?_)) | ((with_reducible show wpAny _ _ (compareOp CmpOp.In _ _) _ _ _); (k_here; k_dflt (refine in_K (by k_asm) (by k_mem) ?_))) | ((with_reducible show wpAny _ _ (eval (PySem.Expr.Name _ _) _) _ _ _); (k_here; (with_reducible show wpAny _ _ (eval (Expr.Name _ _) (compEnvC _ _ _ (compEnvC _ _ _ _))) _ _ _); k_dflt (first   | (refine' lcf_cell (by k_asm) (by rfl) (by k_mem) (by k_asm) ?_ (by rfl) (by with_unfolding_all rfl); k_whole)   | (refine' lcf_free (by k_asm) (by rfl) (by k_mem) (by k_asm) ?_ (by rfl) (by with_unfolding_all rfl); k_whole)))) | ((with_reducible show wpAny _ _ (eval (PySem.Expr.ListComp _ _ _ _) _) _ _ _); (k_here; (with_reducible show wpAny _ _ (eval (Expr.ListComp (Expr.Name _ _) _ _ _) _) _ _ _); k_dflt (refine LCt.ListComp_T (F₀ := by k_asm) (by with_unfolding_all rfl) (by decide) (by rfl) (by decide) (by rfl) ?_))) | walk1)) | (leave1; (try dsimp only)) | fail "no step"))
  refine LCg.CompSrc.ledger (its := (strValues zs8).toArray) (k := k8) rfl F8 N8 (.head _) (strs_size (by omega)) fun g' => ?_
  refine restTell (l := zs8) (fun z => (zsF.map (·.1)).any (· == z)) ?_ ?_ ?_
  · intro tl
    exact .inr ⟨_, .head _, rfl, _, rfl⟩
  · intro z tz I oI C oC D oD m2 h7 tk7 tl7 E' hz hC hx F7 N7
    simp only [List.cons_append] at N7
    (repeat' (first | (k_unfold; (try dsimp only)) | (k_end; wrow_close) | ((with_reducible show wpAny _ _ (eval (PySem.Expr.ListComp _ _ _ _) _) _ _ _); (k_here; k_dflt (refine LCg.ListComp_U (F₀ := by k_asm) (by with_unfolding_all rfl) (by decide) (by rfl) (by decide) (by rfl) ?_))) | ((with_reducible show wpAny _ _ (call (Value.ref _) _) _ _ _); (k_here; (with_reducible show wpAny _ _ (call (Value.ref 210) _) _ _ _); refine HoldP.h ?_)) | ((with_reducible show wpAny _ _ (compareOp CmpOp.In _ _) _ _ _); (k_here; k_dflt (refine in_K (by k_asm) (by k_mem) ?_))) | ((with_reducible show wpAny _ _ (eval (PySem.Expr.Name _ _) _) _ _ _); (k_here; (with_reducible show wpAny _ _ (eval (Expr.Name _ _) (compEnvC _ _ _ (compEnvC _ _ _ _))) _ _ _); k_dflt (first   | (refine' lcf_cell (by k_asm) (by rfl) (by k_mem) (by k_asm) ?_ (by rfl) (by with_unfolding_all rfl); k_whole)   | (refine' lcf_free (by k_asm) (by rfl) (by k_mem) (by k_asm) ?_ (by rfl) (by with_unfolding_all rfl); k_whole)))) | ((with_reducible show wpAny _ _ (eval (PySem.Expr.ListComp _ _ _ _) _) _ _ _); (k_here; (with_reducible show wpAny _ _ (eval (Expr.ListComp (Expr.Name _ _) _ _ _) _) _ _ _); k_dflt (refine LCt.ListComp_T (F₀ := by k_asm) (by with_unfolding_all rfl) (by decide) (by rfl) (by decide) (by rfl) ?_))) | walk1 | (dsimp only; (first | ((with_reducible show wpAny _ _ (eval (PySem.Expr.ListComp _ _ _ _) _) _ _ _); (k_here; k_dflt (refine LCg.ListComp_U (F₀ := by k_asm) (by with_unfolding_all rfl) (by decide) (by rfl) (by decide) (by rfl) ?_))) | ((with_reducible show wpAny _ _ (call (Value.ref _) _) _ _ _); (k_here; (with_reducible show wpAny _ _ (call (Value.ref 210) _) _ _ _); refine HoldP.h ?_)) | ((with_reducible show wpAny _ _ (compareOp CmpOp.In _ _) _ _ _); (k_here; k_dflt (refine in_K (by k_asm) (by k_mem) ?_))) | ((with_reducible show wpAny _ _ (eval (PySem.Expr.Name _ _) _) _ _ _); (k_here; (with_reducible show wpAny _ _ (eval (Expr.Name _ _) (compEnvC _ _ _ (compEnvC _ _ _ _))) _ _ _); k_dflt (first   | (refine' lcf_cell (by k_asm) (by rfl) (by k_mem) (by k_asm) ?_ (by rfl) (by with_unfolding_all rfl); k_whole)   | (refine' lcf_free (by k_asm) (by rfl) (by k_mem) (by k_asm) ?_ (by rfl) (by with_unfolding_all rfl); k_whole)))) | ((with_reducible show wpAny _ _ (eval (PySem.Expr.ListComp _ _ _ _) _) _ _ _); (k_here; (with_reducible show wpAny _ _ (eval (Expr.ListComp (Expr.Name _ _) _ _ _) _) _ _ _); k_dflt (refine LCt.ListComp_T (F₀ := by k_asm) (by with_unfolding_all rfl) (by decide) (by rfl) (by decide) (by rfl) ?_))) | walk1)) | (leave1; (try dsimp only)) | fail "no step"))
    rename I < _ ∧ _ => g1
    rename Fr _ _ _ _ => FF
    rename News _ _ _ _ => NN
    refine tell_intro FF NN (fun q hq => ?_) rfl
    obtain ⟨g1, g2, g3, g4, ga, gb, g5, g6, g7, g8⟩ := g1
    replace hq : q ∈ (I, oI) :: (C, oC) :: (D, oD) :: (D8, lstO (strValues zs8) k8) :: (59, tabObj ps81) :: (205, tabObj ps82) :: (D9, lstO vs9 k9) :: (L + 1 + 1, oF) :: (lf, lstO (strValues zsF) kf) :: (tl9 ++ tl7) := hq
    simp only [List.mem_cons] at hq
    rcases hq with rfl | rfl | rfl | rfl | rfl | rfl | rfl | rfl | rfl | hq
    · exact g1
    · exact g2
    · exact g3
    · exact g4
    · exact ga
    · exact gb
    · exact g5
    · exact g6
    · exact g7
    · exact allLt_mem g8 q hq
  · intro ys tl hTt D7 h7 tk7 F7 N7 o7
    show wpAny _ _ (compareOp .Eq (.ref D9) (.ref D7)) _ _ _
    rw [tell_lists hst hK e8] at hTt
    refine eqT_K (tl1 := tl9) (tl2 := tl) N7 (.tail _ (.tail _ (.tail _ (.tail _ (.head _))))) (.head _) (fun q hq => ?_) (fun q hq => ?_) hT9 hTt (by units_room) ?_
    · simp [hq]
    · simp [hq]
    exact hQ h7 tk7 _ ps81 ps82 F7 (news_in N7 fun q hq => by
      rcases List.mem_cons.mp hq with rfl | hq
      · exact .tail _ (.tail _ (.head _))
      · rw [List.mem_singleton.mp hq]; exact .tail _ (.tail _ (.tail _ (.head _))))
end
section
open PySem PySem.W PyProof.Rows PySem.Calls
set_option maxRecDepth 100000








/-- two addresses that differ (kept out of arithmetic's sight) -/
structure NeH (a b : Addr) : Prop where
  h : a ≠ b
theorem Apart.ne {a b c d e f g : Addr} (h : Apart [a, b, c, d, e, f, g]) : (NeH a b ∧ NeH a c ∧ NeH a d ∧ NeH a e ∧ NeH a f ∧ NeH a g) ∧ (NeH b c ∧ NeH b d ∧ NeH b e ∧ NeH b f ∧ NeH b g) ∧ (NeH c d ∧ NeH c e ∧ NeH c f ∧ NeH c g) ∧ (NeH d e ∧ NeH d f ∧ NeH d g) ∧ (NeH e f ∧ NeH e g) ∧ NeH f g := by
  simp only [Apart, List.pairwise_cons, List.mem_cons, List.not_mem_nil, or_false, forall_eq_or_imp, forall_eq, List.Pairwise.nil, and_true, false_implies, implies_true] at h
  refine hideG fun G9 b9 => ?_
  obtain ⟨⟨a1, a2, a3, a4, a5, a6⟩, ⟨b1, b2, b3, b4, b5⟩, ⟨c1, c2, c3, c4⟩, ⟨d1, d2, d3⟩, ⟨e1, e2⟩, f1⟩ := h
  refine b9 ?_
  clear b9 G9
  exact ⟨⟨⟨a1⟩, ⟨a2⟩, ⟨a3⟩, ⟨a4⟩, ⟨a5⟩, ⟨a6⟩⟩, ⟨⟨b1⟩, ⟨b2⟩, ⟨b3⟩, ⟨b4⟩, ⟨b5⟩⟩, ⟨⟨c1⟩, ⟨c2⟩, ⟨c3⟩, ⟨c4⟩⟩, ⟨⟨d1⟩, ⟨d2⟩, ⟨d3⟩⟩, ⟨⟨e1⟩, ⟨e2⟩⟩, ⟨f1⟩⟩
theorem neH1 {a b : Addr} (h : NeH a b) : a ≠ b := h.h
theorem neH2 {a b : Addr} (h : NeH b a) : a ≠ b := h.h.symm
local macro_rules | `(tactic| k_ne) => `(tactic| ((try dsimp only); first | exact neH1 (by with_reducible assumption) | exact neH2 (by with_reducible assumption) | (refine neN ?_; omega)))

/-- the law's loop body and scope, as they stand in the heap's part -/
noncomputable def lawBody (K : Frag) : Option (List Stmt) := match K.lookup 222 with
  | some ⟨_, _, .func fd, _⟩ => (match fd.body with
    | .stmts [_, _, _, .For _ _ b _ _, _] => some b
    | _ => none)
  | _ => none
noncomputable def lawScope (K : Frag) : Option Scope := match K.lookup 222 with
  | some ⟨_, _, .func fd, _⟩ => some fd.scope
  | _ => none
section
variable {w : World} {A : Around} {E : Value → Shared → Prop} {s : Shared} {h₀ : Heap} {L : Addr} {m : Str → Option Value} {news : List (Addr × Obj)} {Q : Value → Shared → Prop}
theorem ne_nil {a c : Addr} {l : List (Str × Tok)} (N : News h₀ L s.heap news) (h1 : (a, LCg.lst (strValues l)) ∈ news) (h2 : (c, W.listOf #[] 0) ∈ news) (hu : A.units < cLine) (hQ : Q (.bool (!l.isEmpty)) s) : wpAny (model prog w) A (compareOp .NotEq (.ref a) (.ref c)) Q E s := by
  have ha : s.heap.IsList a (strValues l).toArray := ⟨_, (N _ h1).1, rfl, _, rfl⟩
  have hc : s.heap.IsList c #[] := ⟨_, (N _ h2).1, rfl, _, rfl⟩
  show wpAny _ A (richCompare .NotEq _ _) Q E s
  cases l with
  | nil =>
    have := SeqAt.RcNeAt.lists (e := fun _ => true) ha hc rfl hu (fun j h1 => absurd h1 (by simp [strValues]))
    exact this prog w E Q (by simpa [strValues] using hQ)
  | cons x r => exact SeqAt.RcNeAt.lists_lengths ha hc (by simp [strValues]) hu prog w E Q hQ
theorem opened_use {base : Heap} {nms : List (Str × NameKind)} {mr : List (Str × Const)} {n : Str} {fa : Addr} {cd : Value} {x d3 d2 : Addr} {tk : Tok} {loose : List Str} {mean : ExcName → Option Value} {mg mb : Str → Option Value} {fo : Place} {tf : Tok}
    {W : List (Place × Bool)} {ad : Place → Addr} {nl back R : List (Addr × Obj)} {oW oF oD : Obj} {lw lf c1 c2 c3 : Addr} {zsW zsF : List (Str × Tok)} {kw kf : Nat}
    (_hoD : oD.data = .cell (some (.str (pstr fo) tf))) (hR : R = nl ++ back) (O : OwnOff R [c1, c2, c3, lw, lf, x, d3]) (N : News h₀ L s.heap news) (m3 : (c3, oD) ∈ news) (m1 : (c1, oW) ∈ news) (m2 : (c2, oF) ∈ news) (m4 : (lw, lstO (strValues zsW) kw) ∈ news) (m5 : (lf, lstO (strValues zsF) kf) ∈ news) (m6 : (x, instObj 53 d3) ∈ news) (m7 : (d3, dictD w tk d2) ∈ news)
    (mR : ∀ q ∈ R, q ∈ news) (off : ∀ q ∈ back, ∀ r ∈ nl, q.1 ≠ r.1) (T : Tree w W ad nl) (hd2 : ad [] = d2)
    (hp : fo ∈ allP) (hWl : W.length ≤ 39) (B : Below callerA base [] h₀) (XB : (hd.heap_1 w.params).In base) (TB : Top topProg loose mean mg mb base) (F : Fr h₀ L s.heap m) (X : (hd.heap_1 w.params).In h₀) (Tp : Top topProg loose mean mg mb h₀)
    (kOk : ∀ W' ad' nl' R' h' tk', R' = nl' ++ back → W' = goW fo.reverse [] W → ¬ barred fo.reverse [] W → Tree w W' ad' nl' → ad' [] = d2 → isDir W' fo → OwnOff R' [c1, c2, c3, lw, lf, x, d3] → (∀ q ∈ back, ∀ r ∈ nl', q.1 ≠ r.1) →
      Fr h₀ L h' m → News h₀ L h' (frontO w tk d2 c1 c2 c3 lw lf x d3 oW oF oD zsW zsF kw kf ++ R') → Q (.ref (ad' fo)) { s with heap := h', toks := tk' })
    (kErr : ∀ ad' nl' R' h' tk' u, R' = nl' ++ back → barred fo.reverse [] W → Tree w W ad' nl' → ad' [] = d2 → OwnOff R' [c1, c2, c3, lw, lf, x, d3] → (∀ q ∈ back, ∀ r ∈ nl', q.1 ≠ r.1) →
      Fr h₀ L h' m → News h₀ L h' (frontO w tk d2 c1 c2 c3 lw lf x d3 oW oF oD zsW zsF kw kf ++ R') → Q (.str (Str.ofString "'There is no nest behind this key'") u) { s with heap := h', toks := tk' }) :
    wpAny (model prog w) (callerA.deeper (envOfC n { kind := ScopeKind.function, names := nms, isGenerator := false, isCoroutine := false, more := mr } L fa cd)) (call (.ref 189) [.ref x, .str (pstr fo) tf]) Q E s := by
  refine opened_K2 (front := frontO w tk d2 c1 c2 c3 lw lf x d3 oW oF oD zsW zsF kw kf) (R := R) (nl := nl) (back := back) (d3 := d3) (d2 := d2) (tk := tk) (fun q hq => ?_) hR (by simp [frontO]) (by simp [frontO]) O off T hd2 hp rfl (by omega) B XB TB F X Tp kOk kErr
  rcases List.mem_append.mp hq with hq | hq
  · simp only [frontO, List.mem_cons, List.not_mem_nil, or_false] at hq
    rcases hq with rfl | rfl | rfl | rfl | rfl | rfl | rfl
    · exact N _ m1
    · exact N _ m2
    · exact N _ m3
    · exact N _ m4
    · exact N _ m5
    · exact N _ m6
    · exact N _ m7
  · exact N q (mR q hq)
end
theorem fdiv2 (k : Nat) : Int.fdiv (k : Int) 2 = ((k / 2 : Nat) : Int) := by
  rw [Int.fdiv_eq_ediv_of_nonneg _ (by decide)]; omega
theorem fmod2 (k : Nat) : Int.fmod (k : Int) 2 = ((k % 2 : Nat) : Int) := by
  rw [Int.fmod_eq_emod_of_nonneg _ (by decide)]; omega
theorem place_c2 (w : World) (v : Int) (k : Nat) (t : Tok) (s : Shared) (n : Str) (p : Place) (hv : v = ((k / 2 : Nat) : Int)) (hP : plc (k / 2) = n :: p) (hn : k / 2 ≤ 38) : RCall w (.ref 184) [.int v t] 950 8800 s (PStr (pstr (n :: p))) := by
  subst hv; rw [← hP, pstr_plc]; exact place_c w (k / 2) t s hn
theorem dir_c2 (w : World) (n : Str) (p : Place) (t : Tok) (s : Shared) (hp : n :: p ∈ allQ) : RCall w (.ref 172) [.str (pstr (n :: p)) t] 960 8900 s (PStr (pstr p)) := by
  rw [show pstr p = pstr (n :: p).tail from rfl, ← t_dir _ hp]
  exact dirname_c w _ t s (Nat.le_trans (t_len _ (.tail _ hp)) (by decide))
theorem base_c2 (w : World) (p : Place) (n : Str) (t : Tok) (s : Shared) (hp : n :: p ∈ allQ) : RCall w (.ref 165) [.str (pstr (n :: p)) t] 960 8900 s (PStr n) := by
  have h := t_base _ hp
  have e : baseS (pstr (n :: p)) = n := Option.some.inj h
  have := basename_c w (pstr (n :: p)) t s (Nat.le_trans (t_len _ (.tail _ hp)) (by decide))
  rw [e] at this
  exact this
theorem chain_c2 (w : World) (p : Place) (t : Tok) (s : Shared) (hp : p ∈ allP) : RCall w (.ref 196) [.str (pstr p) t] 950 8800 s (PList s.heap ((chainP p).map pstr)) := chain_c w _ _ t s (t_chain p hp)
theorem com_c2 (w : World) (p q : Place) (t t2 : Tok) (l : Addr) (s : Shared) (hl : s.heap.IsList l #[.str (pstr p) t, .str (pstr q) t2]) (hp : p ∈ allP) (hq : q ∈ allP) : RCall w (.ref 177) [.ref l] 900 8000 s (PStr (pstr (comP p q))) := by
  rw [← t_com p hp q hq]
  exact common_c w _ _ t t2 l s (Nat.le_trans (t_len p hp) (by decide)) (Nat.le_trans (t_len q hq) (by decide)) (t_starts p hp) (t_split p hp) (t_split q hq) (t_starts q hq) hl


theorem cons_of : ∀ p ∈ allQ, ∃ n q, p = n :: q := by
  intro p hp
  have h : ∀ p ∈ allQ, p.isEmpty = false := by decide +kernel
  cases p with
  | nil => exact absurd (h _ hp) (by decide)
  | cons n q => exact ⟨n, q, rfl⟩
theorem tail_in : ∀ p ∈ allQ, p.tail ∈ allP := by decide +kernel
theorem LawSt.lenF {W : List (Place × Bool)} {zsW zsF : List (Str × Tok)} (S : LawSt W zsW zsF) : zsF.length ≤ W.length := by
  have := congrArg List.length S.files
  rw [List.length_map, List.length_map] at this
  rw [this]; exact List.length_filter_le _ _
theorem LawSt.lenZ {W : List (Place × Bool)} {zsW zsF : List (Str × Tok)} (S : LawSt W zsW zsF) : zsW.length = W.length := by
  have := congrArg List.length S.ways
  rwa [List.length_map, List.length_map] at this
theorem nodup_len {α : Type} [DecidableEq α] : ∀ (l l' : List α), l.Nodup → (∀ x ∈ l, x ∈ l') → l.length ≤ l'.length
  | [], _, _, _ => Nat.zero_le _
  | x :: xs, l', hn, hs => by
    rw [List.nodup_cons] at hn
    have hx := hs x (.head _)
    have h1 := nodup_len xs (l'.erase x) hn.2 fun y hy => (List.mem_erase_of_ne (fun e => hn.1 (by rw [← e]; exact hy))).mpr (hs y (.tail _ hy))
    have h2 := List.length_erase_of_mem hx
    have h3 : 0 < l'.length := List.length_pos_of_mem hx
    rw [List.length_cons]; omega
theorem LawSt.lenW {W : List (Place × Bool)} {zsW zsF : List (Str × Tok)} (S : LawSt W zsW zsF) (K : WOk W) : W.length ≤ 39 := by
  have h := nodup_len _ allQ K.nodup fun p hp => by
    obtain ⟨q, hq, rfl⟩ := List.mem_map.mp hp
    exact S.inQ q hq
  rw [List.length_map] at h
  exact Nat.le_trans h (by decide +kernel)
theorem LawSt.file {W : List (Place × Bool)} {zsW zsF : List (Str × Tok)} (S : LawSt W zsW zsF) {z : Str} {t : Tok} (h : (z, t) ∈ zsF) : ∃ q, q ∈ allP ∧ z = pstr q := by
  have h1 : z ∈ zsF.map (·.1) := List.mem_map_of_mem (f := (·.1)) h
  rw [S.files] at h1
  obtain ⟨q, hq, rfl⟩ := List.mem_map.mp h1
  exact ⟨q.1, .tail _ (S.inQ q (List.mem_filter.mp hq).1), rfl⟩
noncomputable def keepB (fo : Place) (z : Str) : Bool := commonS z (pstr fo) == z
theorem keepB_eq {q fo : Place} (hq : q ∈ allP) (hf : fo ∈ allP) : (pstr (comP q fo) == pstr q) = keepB fo (pstr q) := by unfold keepB; rw [t_com q hq fo hf]
section
variable {prog : Program} {w : World} {A : Around} {E : Value → Shared → Prop} {s : Shared} {h₀ : Heap} {L : Addr} {m : Str → Option Value} {env : Env}
open LCt in
theorem restB {x : Str} {px : Pos} {ct : PySem.Expr} {scope : Scope} {cl : List (Str × Addr)} {S : List (Addr × Obj) → Prop} {l : List (Str × Tok)} {news : List (Addr × Obj)} {Fin : List Value → List (Addr × Obj) → Prop} {oD : Obj} {fo : Place} {tf : Tok} (_hf : oD.data = .cell (some (.str (pstr fo) tf)))
    (hS : S news) (hkind : scope.kind = .function) (hx : scope.names.lookup x = some .local) (hd : (x == ("__debug__" : Str)) = false)
    (turn : ∀ z tz I oI C oC D oD m₂ h tk (E' : Value → Shared → Prop), (z, tz) ∈ l → LCg.NsObj oC m₂ → m₂ x = some (.str z tz) → Fr h₀ L h m → News h₀ L h ((I, oI) :: (C, oC) :: (D, oD) :: news) → LCg.Off3 I C D news → ((@Ne Nat I C) ∧ (@Ne Nat I D) ∧ (@Ne Nat C D)) →
      wpAny (model prog w) A (isTrue ct (compEnvC scope cl C env) (eval ct (compEnvC scope cl C env))) (FlatT h₀ L m ((I, oI) :: (C, oC) :: (D, oD) :: news) { s with heap := h, toks := tk } (keepB fo z)) E' { s with heap := h, toks := tk })
    (fin : Fin (strValues (l.filter fun p => keepB fo p.1)) news) :
    CompRestT prog w A h₀ L m env ct (.Name x px) x scope cl s S (fun i v => (strValues l).toArray[i]? = some v) Fin (strValues l).toArray.size 0 [] news := restT_strs (keepB fo) hS hkind hx hd turn fin
end

section
variable {prog : Program} {w : World} {A : Around} {E : Value → Shared → Prop} {s : Shared} {h₀ : Heap} {L : Addr} {m : Str → Option Value} {env : Env}
open LCt in
theorem restW {x : Str} {px : Pos} {na : Str} {pa pc : Pos} {ops : List CmpOp} {rs : List PySem.Expr} {scope : Scope} {cl : List (Str × Addr)} {S : List (Addr × Obj) → Prop} {l : List (Str × Tok)} {news : List (Addr × Obj)} {Fin : List Value → List (Addr × Obj) → Prop} {W : List (Place × Bool)} {zsW zsF : List (Str × Tok)} (_hst : LawSt W zsW zsF)
    (hS : S news) (hkind : scope.kind = .function) (hx : scope.names.lookup x = some .local) (hd : (x == ("__debug__" : Str)) = false)
    (turn : ∀ z tz I oI C oC D oD m₂ h tk (E' : Value → Shared → Prop), (z, tz) ∈ l → LCg.NsObj oC m₂ → m₂ x = some (.str z tz) → Fr h₀ L h m → News h₀ L h ((I, oI) :: (C, oC) :: (D, oD) :: news) → LCg.Off3 I C D news → ((@Ne Nat I C) ∧ (@Ne Nat I D) ∧ (@Ne Nat C D)) →
      wpAny (model prog w) A (isTrue (.Compare (.Name na pa) ops rs pc) (compEnvC scope cl C env) (eval (.Compare (.Name na pa) ops rs pc) (compEnvC scope cl C env))) (FlatT h₀ L m ((I, oI) :: (C, oC) :: (D, oD) :: news) { s with heap := h, toks := tk } (keepW zsW z)) E' { s with heap := h, toks := tk })
    (fin : Fin (strValues (l.filter fun p => keepW zsW p.1)) news) :
    CompRestT prog w A h₀ L m env (.Compare (.Name na pa) ops rs pc) (.Name x px) x scope cl s S (fun i v => (strValues l).toArray[i]? = some v) Fin (strValues l).toArray.size 0 [] news := restT_strs (keepW zsW) hS hkind hx hd turn fin
theorem small_size {l : List (Str × Tok)} (h : SmallL l) : (strValues l).toArray.size ≤ sizeLine := strs_size h.1
end

theorem news_tl {h₀ h : Heap} {L : Addr} {a : Addr × Obj} {l : List (Addr × Obj)} (N : News h₀ L h (a :: l)) : News h₀ L h l := fun p hp => N p (.tail _ hp)


theorem t_len3 : ∀ p ∈ allP, p.length ≤ 3 := by decide +kernel
theorem t_com_up : ∀ fo ∈ allP, ∀ q ∈ allQ, (comP q fo = q) ↔ q ∈ upsOf fo := by decide +kernel
theorem barred_up {W : List (Place × Bool)} (K : WOk W) : ∀ fo : Place, fo.length ≤ 3 → (barred fo.reverse [] W ↔ ∃ q ∈ upsOf fo, (q, true) ∈ W) := by
  have hr := K.root true
  intro fo hf
  match fo, hf with
  | [], _ => simp [barred, upsOf, hr]
  | [a], _ => simp [barred, upsOf, hr]
  | [b, a], _ =>
    simp only [List.reverse_cons, List.reverse_nil, List.nil_append, List.cons_append, barred, upsOf, List.mem_cons, List.not_mem_nil, or_false, exists_eq_or_imp, exists_eq_left, hr]
    exact Or.comm
  | [c, b, a], _ =>
    simp only [List.reverse_cons, List.reverse_nil, List.nil_append, List.cons_append, barred, upsOf, List.mem_cons, List.not_mem_nil, or_false, exists_eq_or_imp, exists_eq_left, hr]
    constructor
    · rintro (h | h | h)
      · exact .inr (.inr h)
      · exact .inr (.inl h)
      · exact .inl h
    · rintro (h | h | h)
      · exact .inr (.inr h)
      · exact .inr (.inl h)
      · exact .inl h
theorem keep_up {fo q : Place} (hfo : fo ∈ allP) (hq : q ∈ allQ) : keepB fo (pstr q) = true ↔ q ∈ upsOf fo := by
  rw [← keepB_eq (.tail _ hq) hfo, ← t_com_up fo hfo q hq, beq_iff_eq]
  have hc : ∀ p ∈ allP, ∀ q ∈ allP, comP p q ∈ allP := by decide +kernel
  exact ⟨fun h => t_inj _ (hc q (.tail _ hq) fo hfo) _ (.tail _ hq) h, fun h => by rw [h]⟩
theorem barred_keep {W : List (Place × Bool)} {zsW zsF : List (Str × Tok)} (S : LawSt W zsW zsF) (K : WOk W) {fo : Place} (hfo : fo ∈ allP) : barred fo.reverse [] W ↔ (!(zsF.filter fun p => keepB fo p.1).isEmpty) = true := by
  rw [barred_up K fo (t_len3 fo hfo)]
  have e : (!(zsF.filter fun p => keepB fo p.1).isEmpty) = true ↔ ∃ p ∈ zsF, keepB fo p.1 = true := by
    rw [Bool.not_eq_true', List.isEmpty_eq_false_iff]
    constructor
    · intro h
      obtain ⟨p, hp⟩ := List.exists_mem_of_ne_nil _ h
      exact ⟨p, (List.mem_filter.mp hp).1, (List.mem_filter.mp hp).2⟩
    · rintro ⟨p, hp, hk⟩ h
      have : p ∈ zsF.filter fun p => keepB fo p.1 := List.mem_filter.mpr ⟨hp, hk⟩
      rw [h] at this; cases this
  rw [e]
  constructor
  · rintro ⟨q, hq, hW⟩
    have h1 : pstr q ∈ zsF.map (·.1) := by
      rw [S.files]; exact List.mem_map.mpr ⟨(q, true), List.mem_filter.mpr ⟨hW, rfl⟩, rfl⟩
    obtain ⟨p, hp, he⟩ := List.mem_map.mp h1
    exact ⟨p, hp, by rw [he]; exact (keep_up hfo (S.inQ _ hW)).mpr hq⟩
  · rintro ⟨p, hp, hk⟩
    have h1 : p.1 ∈ zsF.map (·.1) := List.mem_map_of_mem hp
    rw [S.files] at h1
    obtain ⟨⟨q, b⟩, hq, he⟩ := List.mem_map.mp h1
    obtain ⟨hq1, hq2⟩ := List.mem_filter.mp hq
    dsimp only at hq2 he
    subst hq2
    rw [← he] at hk
    exact ⟨q, (keep_up hfo (S.inQ _ hq1)).mp hk, hq1⟩
theorem came_bD {W : List (Place × Bool)} {zsW zsF : List (Str × Tok)} (S : LawSt W zsW zsF) (K : WOk W) {n : Str} {P : Place} {k : Nat} (hk : plc (k / 2) = n :: P) (hn : n :: P ∈ allQ) (hP : P ∈ allP) (hb : barred (n :: P).reverse [] W) : Came W k W :=
  came_up S hk hn hP (.inl rfl) ((barred_up K _ (t_len3 _ (.tail _ hn))).mp hb)
theorem came_bF {W : List (Place × Bool)} {zsW zsF : List (Str × Tok)} (S : LawSt W zsW zsF) (K : WOk W) {n : Str} {P : Place} {k : Nat} (hk : plc (k / 2) = n :: P) (hn : n :: P ∈ allQ) (hP : P ∈ allP) (hb : barred P.reverse [] W) : Came W k W :=
  came_up S hk hn hP (.inr rfl) ((barred_up K _ (t_len3 _ hP)).mp hb)
theorem bk1 {W : List (Place × Bool)} {zsW zsF : List (Str × Tok)} (S : LawSt W zsW zsF) (K : WOk W) {fo : Place} (hfo : fo ∈ allP) (hb : ¬ barred fo.reverse [] W) (h : (zsF.filter fun p => keepB fo p.1).isEmpty = false) : False := hb ((barred_keep S K hfo).mpr (by rw [h]; rfl))
theorem bk2 {W : List (Place × Bool)} {zsW zsF : List (Str × Tok)} (S : LawSt W zsW zsF) (K : WOk W) {fo : Place} (hfo : fo ∈ allP) (hb : barred fo.reverse [] W) (h : (zsF.filter fun p => keepB fo p.1).isEmpty = true) : False := by
  have := (barred_keep S K hfo).mp hb
  rw [h] at this; cases this




section
variable {w : World} {A : Around} {E : Value → Shared → Prop} {s : Shared} {h₀ : Heap} {L : Addr} {m : Str → Option Value} {news : List (Addr × Obj)} {Q : Value → Shared → Prop}
theorem notin_K {a : Addr} {zs : List (Str × Tok)} {k : Nat} {x : Str} {t : Tok} (N : News h₀ L s.heap news) (hm : (a, lstO (strValues zs) k) ∈ news) (b : Bool) (hb : keepW zs x = b) (h : Q (.bool b) s) : wpAny (model prog w) A (compareOp .NotIn (.str x t) (.ref a)) Q E s := by
  subst hb
  exact notin_list_strs (vs := strValues zs) ⟨_, (N _ hm).1, rfl, _, rfl⟩ (strsAre_of_values zs) h
theorem appF_K {a : Addr} {zs : List (Str × Tok)} {k : Nat} {x : Str} {t : Tok} {news' : List (Addr × Obj)} (F : Fr h₀ L s.heap m) (N : News h₀ L s.heap news) (U : Upd a (lstO (strValues zs) k) (lstO (strValues (zs ++ [(x, t)])) (k + 1)) news news') (hz : zs.length ≤ 1000)
    (h : ∀ h', Fr h₀ L h' m → News h₀ L h' news' → Q .none { s with heap := h' }) : wpAny (model prog w) A (call (.builtin "list.append") [.ref a, .str x t]) Q E s := by
  have e : lstO (strValues (zs ++ [(x, t)])) (k + 1) = W.listOf ((strValues zs).toArray.push (.str x t)) (k + 1) := by simp [strValues, lstO]
  rw [e] at U
  exact append_K (its := (strValues zs).toArray) (n := k) F N U h (by rw [sizeLine_eq]; simp [strValues]; omega)
theorem addS_K {a c : Addr} {zs ys : List (Str × Tok)} {k : Nat} (F : Fr h₀ L s.heap m) (N : News h₀ L s.heap news) (ha : (a, lstO (strValues zs) k) ∈ news) (hc : (c, LCg.lst (strValues ys)) ∈ news) (h1 : zs.length ≤ 1000) (h2 : ys.length ≤ 10000)
    (h : ∀ D h', Fr h₀ L h' m → News h₀ L h' ((D, lstO (strValues (zs ++ ys)) 0) :: news) → (∀ p ∈ news, p.1 < D) → Q (.ref D) { s with heap := h' }) : wpAny (model prog w) A (binaryOp .Add (.ref a) (.ref c)) Q E s := by
  refine addL_K (xs := (strValues zs).toArray) (ys := (strValues ys).toArray) F N ha hc (by rw [sizeLine_eq]; simp [strValues]; omega) (fun D h' F' N' l => h D h' F' ?_ l)
  have e : (strValues zs).toArray ++ (strValues ys).toArray = (strValues (zs ++ ys)).toArray := by simp [strValues]
  rw [e] at N'
  exact N'
theorem setdef_use {x d3 d2 : Addr} {tk : Tok} {p : Place} {n : Str} {t u : Tok} {W : List (Place × Bool)} {ad : Place → Addr} {nl back R : List (Addr × Obj)} {oW oF oD : Obj} {lw lf c1 c2 c3 : Addr} {zsW zsF : List (Str × Tok)} {kw kf : Nat}
    (hR : R = nl ++ back) (O : OwnOff R [c1, c2, c3, lw, lf, x, d3]) (N : News h₀ L s.heap news) (m3 : (c3, oD) ∈ news) (m1 : (c1, oW) ∈ news) (m2 : (c2, oF) ∈ news) (m4 : (lw, lstO (strValues zsW) kw) ∈ news) (m5 : (lf, lstO (strValues zsF) kf) ∈ news) (m6 : (x, instObj 53 d3) ∈ news) (m7 : (d3, dictD w tk d2) ∈ news)
    (mR : ∀ q ∈ R, q ∈ news) (off : ∀ q ∈ back, ∀ r ∈ nl, q.1 ≠ r.1) (T : Tree w W ad nl) (hp : isDir W p) (hWl : W.length ≤ 900) (F : Fr h₀ L s.heap m)
    (old : ∀ b, (n :: p, b) ∈ W → ∀ v, Q v { s with toks := s.toks + 1 })
    (new : (∀ b, (n :: p, b) ∉ W) → ∀ nl' R' h', R' = nl' ++ back → Tree w (W ++ [(n :: p, true)]) ad nl' → OwnOff R' [c1, c2, c3, lw, lf, x, d3] → (∀ q ∈ back, ∀ r ∈ nl', q.1 ≠ r.1) → Fr h₀ L h' m →
      News h₀ L h' (frontO w tk d2 c1 c2 c3 lw lf x d3 oW oF oD zsW zsF kw kf ++ R') → ∀ v, Q v { s with heap := h', toks := s.toks + 1 }) :
    wpAny (model prog w) A (call (.builtin "dict.setdefault") [.ref (ad p), .str n t, .str (Str.ofString "") u]) Q E s := by
  refine setdef_K (gs := []) (front := frontO w tk d2 c1 c2 c3 lw lf x d3 oW oF oD zsW zsF kw kf) (back := back) F (fun q hq => ?_) hR O (fun _ _ _ h => (nomatch h)) off T hp hWl old (fun hn nl' R' h' a b c _ d e f => new hn nl' R' h' a b c d e f)
  rcases List.mem_append.mp hq with hq | hq
  · cases hq
  rcases List.mem_append.mp hq with hq | hq
  · simp only [frontO, List.mem_cons, List.not_mem_nil, or_false] at hq
    rcases hq with rfl | rfl | rfl | rfl | rfl | rfl | rfl
    · exact N _ m1
    · exact N _ m2
    · exact N _ m3
    · exact N _ m4
    · exact N _ m5
    · exact N _ m6
    · exact N _ m7
  · exact N q (mR q hq)
end





set_option maxHeartbeats 8000000 in
theorem turn_K (w : World) {base h₀ : Heap} {L fa : Addr} {cd : Value} {s : Shared} {m : Str → Option Value} {x d3 d2 : Addr} {tk : Tok} {loose : List Str} {mean : ExcName → Option Value} {mg mb : Str → Option Value} {E : Value → Shared → Prop} {body : List Stmt} {scope : Scope}
    {k : Nat} {t : Tok} {oW oF oD : Obj} {lw lf : Addr} {kw kf : Nat} {zsW zsF : List (Str × Tok)} {W : List (Place × Bool)} {ad : Place → Addr} {nl R back : List (Addr × Obj)} {b c d : Option Value}
    (hb : lawBody (hd.heap_1 w.params) = some body) (hs : lawScope (hd.heap_1 w.params) = some scope)
    (B : Below callerA base [] h₀) (XB : (hd.heap_1 w.params).In base) (TB : Top topProg loose mean mg mb base) (X : (hd.heap_1 w.params).In h₀) (Tp : Top topProg loose mean mg mb h₀)
    (hk : k < 78) (hR : R = nl ++ back) (hW : oW.data = .cell (some (.ref lw))) (hF : oF.data = .cell (some (.ref lf))) (hDd : ∃ v, oD.data = .cell v) (hst : LawSt W zsW zsF) (hT : Tree w W ad nl) (hroot : ad [] = d2) (hoff : ∀ q ∈ back, ∀ r ∈ nl, q.1 ≠ r.1)
    (hO : OwnOff R [L + 1, L + 1 + 1, L + 1 + 1 + 1, lw, lf, x, d3]) (hap : Apart [L + 1, L + 1 + 1, L + 1 + 1 + 1, lw, lf, x, d3])
    (F : Fr h₀ L s.heap (fun y => if y = Str.ofString "x" then some (.int (k : Nat) t) else if y = Str.ofString "place" then b else if y = Str.ofString "barred" then c else if y = Str.ofString "nest" then d else if y = Str.ofString "tree" then some (.ref x) else m y))
    (N : News h₀ L s.heap (frontO w tk d2 (L + 1) (L + 1 + 1) (L + 1 + 1 + 1) lw lf x d3 oW oF oD zsW zsF kw kf ++ R)) :
    wpAny (model prog w) (callerA.deeper (envOfC (Str.ofString "law") scope L fa cd)) (execs body (envOfC (Str.ofString "law") scope L fa cd))
      (LawEnd (Came W k) h₀ L w (fun y => if y = Str.ofString "tree" then some (.ref x) else m y) tk d2 (L + 1) (L + 1 + 1) (L + 1 + 1 + 1) x d3 back s) E s := by
  have eb : lawBody (hd.heap_1 w.params) = some _ := rfl
  have es : lawScope (hd.heap_1 w.params) = some _ := rfl
  obtain rfl := Option.some.inj (hb.symm.trans eb)
  obtain rfl := Option.some.inj (hs.symm.trans es)
  clear eb es hb hs
  refine hideG fun G9 b9 => ?_
  obtain ⟨⟨n1, n2, n3, n4, n5, n6⟩, ⟨n7, n8, n9, n10, n11⟩, ⟨n12, n13, n14, n15⟩, ⟨n16, n17, n18⟩, ⟨n19, n20⟩, n21⟩ := hap.ne
  simp only [frontO, List.cons_append, List.nil_append] at N
  obtain ⟨vD, hDd⟩ := hDd
  have hkp : k / 2 ≤ 38 := by omega
  have hQ0 : plc (k / 2) ∈ allQ := plc_in _ hkp
  obtain ⟨n0, p0, hPl⟩ := cons_of _ hQ0
  refine b9 ?_
  clear b9 G9
  have hQ1 : n0 :: p0 ∈ allQ := hPl ▸ hQ0
  have hQ2 : n0 :: p0 ∈ allP := .tail _ hQ1
  have hQ3 : p0 ∈ allP := tail_in _ hQ1
  clear hQ0
  have hmod := fmod2 k
  have hzF := hst.lenF
  have hWl := hst.lenW hT.ok
  have hzW := hst.lenZ
  (repeat' (first | (k_unfold; (try dsimp only)) | (k_end; wrow_close) | ((with_reducible show wpAny _ _ (call (Value.ref _) _) _ _ _); (k_here; k_dflt (refine' rcall_use (chain_c2 _ _ _ _ (by assumption)) (by k_asm) (by k_asm) (by k_asm) (by k_asm) (by exact rfl) (by first | exact Nat.le_of_ble_eq_true rfl | k_room) (by first | exact Nat.le_of_ble_eq_true rfl | (simp only [units_deeper, units_caller]; decide)) ?_; intro r9 h9 tk9 hp9 F9 N9 st9 sz9; refine hideG fun G9 b9 => ?_; obtain ⟨D9, zs9, k9, hr9, hn9, hg9, hz9, hs9⟩ := hp9; refine b9 ?_; clear b9 G9; subst hr9; have ne9 := fresh_ne hn9 (by assumption); simp only [List.forall_mem_cons] at ne9; have N10 := news_made (new := [(D9, lstO (strValues zs9) k9)]) (by simpa only [List.forall_mem_singleton] using And.intro hg9 hn9) (by assumption) N9; clear N9; simp only [List.cons_append, List.nil_append] at N10); (try dsimp only); (try k_fold))) | ((with_reducible show wpAny _ _ (binaryOp Operator.Add (Value.ref _) (Value.ref _)) _ _ _); (k_here; (with_reducible show wpAny _ _ (binaryOp _ (Value.ref _) (Value.ref _)) _ _ _); k_dflt ((refine' addS_K (by k_asm) (by k_asm) (by k_mem) (by k_mem) (by omega) (by exact filt_len (by assumption)) (fun D4 h4 F4 N4 hD4 => ?_))); (have hD5 := hD4); (k_lt hD4); (try dsimp only); (try k_fold))) | ((with_reducible show wpAny _ _ (call (Value.builtin "list.append") _) _ _ _); (k_here; k_dflt (refine appF_K (by k_asm) (by k_asm) (by k_upd) (by omega) (fun h3 F3 N3 => ?_)); (try dsimp only); (try k_fold))) | ((with_reducible show wpAny _ _ (compareOp CmpOp.NotIn (Value.str _ _) (Value.ref _)) _ _ _); (k_here; k_dflt (refine notin_K (by k_asm) (by k_mem) _ (by first | assumption | rfl) ?_))) | ((with_reducible show wpAny _ _ (call (Value.builtin "dict.setdefault") _) _ _ _); (k_here; (k_dflt (refine setdef_use (by assumption) (by assumption) (by k_asm) (by k_mem) (by k_mem) (by k_mem) (by k_mem) (by k_mem) (by k_mem) (by k_mem) (fun q hq => by repeat' first | exact hq | refine List.Mem.tail _ ?_) (by assumption) (by assumption) (by assumption) (goW_small (by assumption) (by assumption) (by assumption)) (by k_asm) (fun b2 hold2 v2 => ?_) (fun hnew2 nl2 R2 h2 hR2 hT2 hO2 hoff2 F2 N2 v2 => ?_))) <;> ((try simp only [frontO, List.cons_append, List.nil_append] at N2); first | have hkw2 := kw_old (by assumption) (by assumption) (by assumption) (by assumption) hold2 | have hkw2 := kw_new (by assumption) (by assumption) (by assumption) (by assumption) hnew2) <;> ((try dsimp only); (try k_fold)))) | ((with_reducible show wpAny _ _ (getMethod (Value.ref _) _ _) _ _ _); (k_here; k_dflt (refine setdef_m (by k_asm) (by assumption) (fun q hq => by repeat' first | exact hq | refine List.Mem.tail _ ?_) (by assumption) (by assumption) ?_))) | ((with_reducible show wpAny _ _ (call (Value.builtin "isinstance") _) _ _ _); (k_here; k_dflt (refine nest_isi (by k_asm) (by assumption) (fun q hq => by repeat' first | exact hq | refine List.Mem.tail _ ?_) (by assumption) (by assumption) ?_))) | ((with_reducible show wpAny _ _ (call (Value.ref _) _) _ _ _); (k_here; k_dflt (refine opened_use (by assumption) (by assumption) (by assumption) (by k_asm) (by k_mem) (by k_mem) (by k_mem) (by k_mem) (by k_mem) (by k_mem) (by k_mem) (fun q hq => by repeat' first | exact hq | refine List.Mem.tail _ ?_) (by assumption) (by assumption) (by assumption) (by assumption) (by assumption) (by k_asm) (by k_asm) (by k_asm) (by k_asm) (by k_asm) (by k_asm) (fun W1 ad1 nl1 R1 h1 tk1 hR1 hW1 hb1 hT1 hr1 hdir1 hO1 hoff1 F1 N1 => ?_) (fun ad1 nl1 R1 h1 tk1 u1 hR1 hb1 hT1 hr1 hO1 hoff1 F1 N1 => ?_)) <;> (simp only [frontO, List.cons_append, List.nil_append] at N1; (try dsimp only); (try k_fold)))) | ((with_reducible show wpAny _ _ (compareOp CmpOp.NotEq (Value.ref _) (Value.ref _)) _ _ _); (k_here; (with_reducible show wpAny _ _ (compareOp _ (Value.ref _) (Value.ref _)) _ _ _); k_dflt (refine ne_nil (by k_asm) (by k_mem) (by k_mem) (by units_room) ?_))) | ((with_reducible show wpAny _ _ (call (Value.ref _) _) _ _ _); (k_here; k_dflt (refine' rcall_use (com_c2 _ _ _ _ _ _ _ (by exact News.isList (by k_asm) (by k_mem)) (by assumption) (by assumption)) (by k_asm) (by k_asm) (by k_asm) (by k_asm) (by exact rfl) (by first | exact Nat.le_of_ble_eq_true rfl | k_room) (by first | exact Nat.le_of_ble_eq_true rfl | (simp only [units_deeper, units_caller]; decide)) ?_; intro r9 h9 tk9 hp9 F9 N9 st9 sz9; refine hideG fun G9 b9 => ?_; obtain ⟨t9, hq9⟩ := hp9; refine b9 ?_; clear b9 G9; subst hq9); (try dsimp only); (try k_fold))) | ((fail_if_success (with_reducible show wpAny _ _ _ _ _ _)); refine FlatT.intro (by k_asm) (by first | k_asm | exact news_tl (by k_asm)) (by first | exact keepB_eq (by assumption) (by assumption) | rfl)) | ((fail_if_success (with_reducible show wpAny _ _ _ _ _ _)); (k_here; k_dflt (refine LCt.CompSrcT.ledger (by rfl) (by k_asm) (by k_asm) (by k_mem) (small_size (by assumption)) ?_); intro g'; k_dflt (refine restW (by assumption) (by lcg_src) (by rfl) (by rfl) (by decide) (fun z' tz' I' oI' C' oC' D' oD' m' h' tk' E' hv' hC' hx' F' N' off' ne' => ?_) ?_) <;> ((try simp only [LCg.Off3, and_true] at off'); (try dsimp only)))) | ((fail_if_success (with_reducible show wpAny _ _ _ _ _ _)); (k_here; k_dflt (refine LCt.CompSrcT.ledger (by rfl) (by k_asm) (by k_asm) (by k_mem) (strs_size (by omega)) ?_); intro g'; k_dflt (refine restB (by assumption) (by lcg_src) (by rfl) (by rfl) (by decide) (fun z' tz' I' oI' C' oC' D' oD' m' h' tk' E' hv' hC' hx' F' N' off' ne' => ?_) ?_) <;> ((try simp only [LCg.Off3, and_true] at off'); (try dsimp only); (try (refine hideG fun G9 b9 => ?_; obtain ⟨q', hq', he'⟩ := LawSt.file (by assumption) hv'; refine b9 ?_; clear b9 G9; subst he'))))) | ((with_reducible show wpAny _ _ (call (Value.ref _) _) _ _ _); (k_here; k_dflt (first   | (refine' rcall_use (place_c2 _ _ _ _ _ _ _ (fdiv2 _) (by assumption) (by assumption)) (by k_asm) (by k_asm) (by k_asm) (by k_asm) (by exact rfl) (by first | exact Nat.le_of_ble_eq_true rfl | k_room) (by first | exact Nat.le_of_ble_eq_true rfl | (simp only [units_deeper, units_caller]; decide)) ?_; intro r9 h9 tk9 hp9 F9 N9 st9 sz9; refine hideG fun G9 b9 => ?_; obtain ⟨t9, hq9⟩ := hp9; refine b9 ?_; clear b9 G9; subst hq9)   | (refine' rcall_use (dir_c2 _ _ _ _ _ (by assumption)) (by k_asm) (by k_asm) (by k_asm) (by k_asm) (by exact rfl) (by first | exact Nat.le_of_ble_eq_true rfl | k_room) (by first | exact Nat.le_of_ble_eq_true rfl | (simp only [units_deeper, units_caller]; decide)) ?_; intro r9 h9 tk9 hp9 F9 N9 st9 sz9; refine hideG fun G9 b9 => ?_; obtain ⟨t9, hq9⟩ := hp9; refine b9 ?_; clear b9 G9; subst hq9)   | (refine' rcall_use (base_c2 _ _ _ _ _ (by assumption)) (by k_asm) (by k_asm) (by k_asm) (by k_asm) (by exact rfl) (by first | exact Nat.le_of_ble_eq_true rfl | k_room) (by first | exact Nat.le_of_ble_eq_true rfl | (simp only [units_deeper, units_caller]; decide)) ?_; intro r9 h9 tk9 hp9 F9 N9 st9 sz9; refine hideG fun G9 b9 => ?_; obtain ⟨t9, hq9⟩ := hp9; refine b9 ?_; clear b9 G9; subst hq9)); (try dsimp only); (try k_fold))) | ((with_reducible show wpAny _ _ (binaryOp Operator.Add _ _) _ _ _); (k_here; (with_reducible show wpAny _ _ (binaryOp _ (Value.ref _) (Value.ref _)) _ _ _); (k_dflt (refine addL_K (by k_asm) (by k_asm) (by k_mem) (by k_mem) (cat_size (by assumption)) ?_)); intro D' h' F' N' l1; (try k_lt l1); (try dsimp only))) | ((with_reducible show wpAny _ _ (eval (PySem.Expr.Name _ _) _) _ _ _); (k_here; (with_reducible show wpAny _ _ (eval (Expr.Name _ _) (compEnvC _ _ _ (compEnvC _ _ _ _))) _ _ _); k_dflt (first   | (refine' lcf_cell (by k_asm) (by rfl) (by k_mem) (by k_asm) ?_ (by rfl) (by with_unfolding_all rfl); k_whole)   | (refine' lcf_free (by k_asm) (by rfl) (by k_mem) (by k_asm) ?_ (by rfl) (by with_unfolding_all rfl); k_whole)))) | ((fail_if_success (with_reducible show wpAny _ _ _ _ _ _)); refine FlatT.intro (by k_asm) (by k_asm) ?_) | ((with_reducible show wpAny _ _ (eval (PySem.Expr.ListComp _ _ _ _) _) _ _ _); (k_here; (with_reducible show wpAny _ _ (eval (Expr.ListComp (Expr.Name _ _) _ _ _) _) _ _ _); k_dflt (refine LCt.ListComp_T (F₀ := by k_asm) (by with_unfolding_all rfl) (by decide) (by rfl) (by decide) (by rfl) ?_))) | walk1 | (dsimp only; (first | ((with_reducible show wpAny _ _ (call (Value.ref _) _) _ _ _); (k_here; k_dflt (refine' rcall_use (chain_c2 _ _ _ _ (by assumption)) (by k_asm) (by k_asm) (by k_asm) (by k_asm) (by exact rfl) (by first | exact Nat.le_of_ble_eq_true rfl | k_room) (by first | exact Nat.le_of_ble_eq_true rfl | (simp only [units_deeper, units_caller]; decide)) ?_; intro r9 h9 tk9 hp9 F9 N9 st9 sz9; refine hideG fun G9 b9 => ?_; obtain ⟨D9, zs9, k9, hr9, hn9, hg9, hz9, hs9⟩ := hp9; refine b9 ?_; clear b9 G9; subst hr9; have ne9 := fresh_ne hn9 (by assumption); simp only [List.forall_mem_cons] at ne9; have N10 := news_made (new := [(D9, lstO (strValues zs9) k9)]) (by simpa only [List.forall_mem_singleton] using And.intro hg9 hn9) (by assumption) N9; clear N9; simp only [List.cons_append, List.nil_append] at N10); (try dsimp only); (try k_fold))) | ((with_reducible show wpAny _ _ (binaryOp Operator.Add (Value.ref _) (Value.ref _)) _ _ _); (k_here; (with_reducible show wpAny _ _ (binaryOp _ (Value.ref _) (Value.ref _)) _ _ _); k_dflt ((refine' addS_K (by k_asm) (by k_asm) (by k_mem) (by k_mem) (by omega) (by exact filt_len (by assumption)) (fun D4 h4 F4 N4 hD4 => ?_))); (have hD5 := hD4); (k_lt hD4); (try dsimp only); (try k_fold))) | ((with_reducible show wpAny _ _ (call (Value.builtin "list.append") _) _ _ _); (k_here; k_dflt (refine appF_K (by k_asm) (by k_asm) (by k_upd) (by omega) (fun h3 F3 N3 => ?_)); (try dsimp only); (try k_fold))) | ((with_reducible show wpAny _ _ (compareOp CmpOp.NotIn (Value.str _ _) (Value.ref _)) _ _ _); (k_here; k_dflt (refine notin_K (by k_asm) (by k_mem) _ (by first | assumption | rfl) ?_))) | ((with_reducible show wpAny _ _ (call (Value.builtin "dict.setdefault") _) _ _ _); (k_here; (k_dflt (refine setdef_use (by assumption) (by assumption) (by k_asm) (by k_mem) (by k_mem) (by k_mem) (by k_mem) (by k_mem) (by k_mem) (by k_mem) (fun q hq => by repeat' first | exact hq | refine List.Mem.tail _ ?_) (by assumption) (by assumption) (by assumption) (goW_small (by assumption) (by assumption) (by assumption)) (by k_asm) (fun b2 hold2 v2 => ?_) (fun hnew2 nl2 R2 h2 hR2 hT2 hO2 hoff2 F2 N2 v2 => ?_))) <;> ((try simp only [frontO, List.cons_append, List.nil_append] at N2); first | have hkw2 := kw_old (by assumption) (by assumption) (by assumption) (by assumption) hold2 | have hkw2 := kw_new (by assumption) (by assumption) (by assumption) (by assumption) hnew2) <;> ((try dsimp only); (try k_fold)))) | ((with_reducible show wpAny _ _ (getMethod (Value.ref _) _ _) _ _ _); (k_here; k_dflt (refine setdef_m (by k_asm) (by assumption) (fun q hq => by repeat' first | exact hq | refine List.Mem.tail _ ?_) (by assumption) (by assumption) ?_))) | ((with_reducible show wpAny _ _ (call (Value.builtin "isinstance") _) _ _ _); (k_here; k_dflt (refine nest_isi (by k_asm) (by assumption) (fun q hq => by repeat' first | exact hq | refine List.Mem.tail _ ?_) (by assumption) (by assumption) ?_))) | ((with_reducible show wpAny _ _ (call (Value.ref _) _) _ _ _); (k_here; k_dflt (refine opened_use (by assumption) (by assumption) (by assumption) (by k_asm) (by k_mem) (by k_mem) (by k_mem) (by k_mem) (by k_mem) (by k_mem) (by k_mem) (fun q hq => by repeat' first | exact hq | refine List.Mem.tail _ ?_) (by assumption) (by assumption) (by assumption) (by assumption) (by assumption) (by k_asm) (by k_asm) (by k_asm) (by k_asm) (by k_asm) (by k_asm) (fun W1 ad1 nl1 R1 h1 tk1 hR1 hW1 hb1 hT1 hr1 hdir1 hO1 hoff1 F1 N1 => ?_) (fun ad1 nl1 R1 h1 tk1 u1 hR1 hb1 hT1 hr1 hO1 hoff1 F1 N1 => ?_)) <;> (simp only [frontO, List.cons_append, List.nil_append] at N1; (try dsimp only); (try k_fold)))) | ((with_reducible show wpAny _ _ (compareOp CmpOp.NotEq (Value.ref _) (Value.ref _)) _ _ _); (k_here; (with_reducible show wpAny _ _ (compareOp _ (Value.ref _) (Value.ref _)) _ _ _); k_dflt (refine ne_nil (by k_asm) (by k_mem) (by k_mem) (by units_room) ?_))) | ((with_reducible show wpAny _ _ (call (Value.ref _) _) _ _ _); (k_here; k_dflt (refine' rcall_use (com_c2 _ _ _ _ _ _ _ (by exact News.isList (by k_asm) (by k_mem)) (by assumption) (by assumption)) (by k_asm) (by k_asm) (by k_asm) (by k_asm) (by exact rfl) (by first | exact Nat.le_of_ble_eq_true rfl | k_room) (by first | exact Nat.le_of_ble_eq_true rfl | (simp only [units_deeper, units_caller]; decide)) ?_; intro r9 h9 tk9 hp9 F9 N9 st9 sz9; refine hideG fun G9 b9 => ?_; obtain ⟨t9, hq9⟩ := hp9; refine b9 ?_; clear b9 G9; subst hq9); (try dsimp only); (try k_fold))) | ((fail_if_success (with_reducible show wpAny _ _ _ _ _ _)); refine FlatT.intro (by k_asm) (by first | k_asm | exact news_tl (by k_asm)) (by first | exact keepB_eq (by assumption) (by assumption) | rfl)) | ((fail_if_success (with_reducible show wpAny _ _ _ _ _ _)); (k_here; k_dflt (refine LCt.CompSrcT.ledger (by rfl) (by k_asm) (by k_asm) (by k_mem) (small_size (by assumption)) ?_); intro g'; k_dflt (refine restW (by assumption) (by lcg_src) (by rfl) (by rfl) (by decide) (fun z' tz' I' oI' C' oC' D' oD' m' h' tk' E' hv' hC' hx' F' N' off' ne' => ?_) ?_) <;> ((try simp only [LCg.Off3, and_true] at off'); (try dsimp only)))) | ((fail_if_success (with_reducible show wpAny _ _ _ _ _ _)); (k_here; k_dflt (refine LCt.CompSrcT.ledger (by rfl) (by k_asm) (by k_asm) (by k_mem) (strs_size (by omega)) ?_); intro g'; k_dflt (refine restB (by assumption) (by lcg_src) (by rfl) (by rfl) (by decide) (fun z' tz' I' oI' C' oC' D' oD' m' h' tk' E' hv' hC' hx' F' N' off' ne' => ?_) ?_) <;> ((try simp only [LCg.Off3, and_true] at off'); (try dsimp only); (try (refine hideG fun G9 b9 => ?_; obtain ⟨q', hq', he'⟩ := LawSt.file (by assumption) hv'; refine b9 ?_; clear b9 G9; subst he'))))) | ((with_reducible show wpAny _ _ (call (Value.ref _) _) _ _ _); (k_here; k_dflt (first   | (refine' rcall_use (place_c2 _ _ _ _ _ _ _ (fdiv2 _) (by assumption) (by assumption)) (by k_asm) (by k_asm) (by k_asm) (by k_asm) (by exact rfl) (by first | exact Nat.le_of_ble_eq_true rfl | k_room) (by first | exact Nat.le_of_ble_eq_true rfl | (simp only [units_deeper, units_caller]; decide)) ?_; intro r9 h9 tk9 hp9 F9 N9 st9 sz9; refine hideG fun G9 b9 => ?_; obtain ⟨t9, hq9⟩ := hp9; refine b9 ?_; clear b9 G9; subst hq9)   | (refine' rcall_use (dir_c2 _ _ _ _ _ (by assumption)) (by k_asm) (by k_asm) (by k_asm) (by k_asm) (by exact rfl) (by first | exact Nat.le_of_ble_eq_true rfl | k_room) (by first | exact Nat.le_of_ble_eq_true rfl | (simp only [units_deeper, units_caller]; decide)) ?_; intro r9 h9 tk9 hp9 F9 N9 st9 sz9; refine hideG fun G9 b9 => ?_; obtain ⟨t9, hq9⟩ := hp9; refine b9 ?_; clear b9 G9; subst hq9)   | (refine' rcall_use (base_c2 _ _ _ _ _ (by assumption)) (by k_asm) (by k_asm) (by k_asm) (by k_asm) (by exact rfl) (by first | exact Nat.le_of_ble_eq_true rfl | k_room) (by first | exact Nat.le_of_ble_eq_true rfl | (simp only [units_deeper, units_caller]; decide)) ?_; intro r9 h9 tk9 hp9 F9 N9 st9 sz9; refine hideG fun G9 b9 => ?_; obtain ⟨t9, hq9⟩ := hp9; refine b9 ?_; clear b9 G9; subst hq9)); (try dsimp only); (try k_fold))) | ((with_reducible show wpAny _ _ (binaryOp Operator.Add _ _) _ _ _); (k_here; (with_reducible show wpAny _ _ (binaryOp _ (Value.ref _) (Value.ref _)) _ _ _); (k_dflt (refine addL_K (by k_asm) (by k_asm) (by k_mem) (by k_mem) (cat_size (by assumption)) ?_)); intro D' h' F' N' l1; (try k_lt l1); (try dsimp only))) | ((with_reducible show wpAny _ _ (eval (PySem.Expr.Name _ _) _) _ _ _); (k_here; (with_reducible show wpAny _ _ (eval (Expr.Name _ _) (compEnvC _ _ _ (compEnvC _ _ _ _))) _ _ _); k_dflt (first   | (refine' lcf_cell (by k_asm) (by rfl) (by k_mem) (by k_asm) ?_ (by rfl) (by with_unfolding_all rfl); k_whole)   | (refine' lcf_free (by k_asm) (by rfl) (by k_mem) (by k_asm) ?_ (by rfl) (by with_unfolding_all rfl); k_whole)))) | ((fail_if_success (with_reducible show wpAny _ _ _ _ _ _)); refine FlatT.intro (by k_asm) (by k_asm) ?_) | ((with_reducible show wpAny _ _ (eval (PySem.Expr.ListComp _ _ _ _) _) _ _ _); (k_here; (with_reducible show wpAny _ _ (eval (Expr.ListComp (Expr.Name _ _) _ _ _) _) _ _ _); k_dflt (refine LCt.ListComp_T (F₀ := by k_asm) (by with_unfolding_all rfl) (by decide) (by rfl) (by decide) (by rfl) ?_))) | walk1)) | (leave1; (try dsimp only)) | fail "no step"))
  all_goals first
    | (exfalso; omega)
    | (exfalso; exact bk1 hst hT.ok hQ3 (by assumption) (by assumption))
    | (exfalso; exact bk1 hst hT.ok hQ2 (by assumption) (by assumption))
    | (exfalso; exact bk2 hst hT.ok hQ3 (by assumption) (by assumption))
    | (exfalso; exact bk2 hst hT.ok hQ2 (by assumption) (by assumption))
    | exact law_endM (by assumption) (by assumption) (by assumption) (by assumption) (by assumption) (by assumption) (by assumption) hap (by k_mem) (by assumption) (by k_mem) hW (by k_mem) hF (by k_mem) (by k_mem) (by k_mem) (by k_mem) (fun q hq => by repeat' first | exact hq | refine List.Mem.tail _ ?_) hst (by first | exact came_bD hst hT.ok hPl hQ1 hQ3 (by assumption) | exact came_bF hst hT.ok hPl hQ1 hQ3 (by assumption))
    | exact law_endW (by assumption) (by assumption) (by assumption) (by assumption) (by assumption) (by assumption) (by assumption) hap (by assumption) (by k_mem) (by assumption) (by k_mem) (by assumption) (by k_mem) hF (by k_mem) (by k_mem) (by k_mem) (by k_mem) (fun q hq => by repeat' first | exact hq | refine List.Mem.tail _ ?_) (st_dir hst hQ2 (by assumption) (by assumption)) (came_dir hPl hQ2 (by assumption))
    | exact law_endW (by assumption) (by assumption) (by assumption) (by assumption) (by assumption) (by assumption) (by assumption) hap (by assumption) (by k_mem) (by assumption) (by k_mem) (by assumption) (by k_mem) hF (by k_mem) (by k_mem) (by k_mem) (by k_mem) (fun q hq => by repeat' first | exact hq | refine List.Mem.tail _ ?_) (st_old hst hQ1 hQ3 (by assumption) (by assumption) (by assumption)).2 (came_old hPl hQ3 (by assumption) (by assumption))
    | exact law_endW (by assumption) (by assumption) (by assumption) (by assumption) (by assumption) (by assumption) (by assumption) hap (by assumption) (by k_mem) (by assumption) (by k_mem) (by assumption) (by k_mem) hF (by k_mem) (by k_mem) (by k_mem) (by k_mem) (fun q hq => by repeat' first | exact hq | refine List.Mem.tail _ ?_) (st_new hst hQ1 hQ3 (by assumption) (by assumption) (by assumption)).2 (came_new hPl hQ3 (by assumption))
end
section
open PySem PySem.W PyProof.Rows PySem.Calls
set_option maxRecDepth 100000








theorem hns_of (l : List Int) : ∀ n ∈ (l.take 6).map (fun k => k.fmod 78) ++ [12, 9, 54, 30], 0 ≤ n ∧ n < 78 := by
  intro n hn
  rcases List.mem_append.mp hn with hn | hn
  · obtain ⟨k, _, rfl⟩ := List.mem_map.mp hn
    exact ⟨Int.fmod_nonneg_of_pos _ (by decide), Int.fmod_lt_of_pos _ (by decide)⟩
  · simp only [List.mem_cons, List.not_mem_nil, or_false] at hn
    rcases hn with rfl | rfl | rfl | rfl <;> decide
noncomputable def Asc : List Nat → Prop
  | a :: b :: r => match r with
    | [] => a < b
    | c :: r' => a < b ∧ Asc (b :: c :: r')
  | _ => True
theorem asc_low : ∀ {l : List Nat} {a : Nat}, Asc (a :: l) → (∀ b ∈ l, a < b) ∧ Asc l
  | [], _, _ => ⟨fun _ h => (nomatch h), trivial⟩
  | [b], _, h => ⟨fun _ hb => by rw [List.mem_singleton.mp hb]; exact h, trivial⟩
  | b :: c :: r, a, h => ⟨fun x hx => by
      rcases List.mem_cons.mp hx with rfl | hx
      · exact h.1
      · exact Nat.lt_trans h.1 ((asc_low (l := c :: r) h.2).1 x hx), h.2⟩
theorem asc_pw : ∀ {l : List Nat}, Asc l → l.Pairwise (· < ·)
  | [], _ => List.Pairwise.nil
  | _ :: _, h => List.Pairwise.cons (asc_low h).1 (asc_pw (asc_low h).2)
theorem ch_ne {l : List Nat} (h : l.Pairwise (· < ·)) {a b : Nat} (i j : Nat) (hi : l[i]? = some a) (hj : l[j]? = some b) (hij : i ≠ j) : a ≠ b := by
  obtain ⟨hi1, rfl⟩ := List.getElem?_eq_some_iff.mp hi
  obtain ⟨hj1, rfl⟩ := List.getElem?_eq_some_iff.mp hj
  rcases Nat.lt_or_gt_of_ne hij with h1 | h1
  · exact Nat.ne_of_lt (List.pairwise_iff_getElem.mp h i j hi1 hj1 h1)
  · exact Nat.ne_of_gt (List.pairwise_iff_getElem.mp h j i hj1 hi1 h1)
section
variable {w : World} {A : Around} {E : Value → Shared → Prop} {s : Shared} {h₀ : Heap} {m : Str → Option Value} {env : Env}
theorem law_loop_at {body : List Stmt} {Q : Flow → Shared → Prop} {D cW cF cD lw0 lf0 x d3 d2 : Addr} {oW0 oF0 oD0 o0 : Obj} {vs : List Value} {ns : List Int} {kD kw0 kf0 : Nat} {tk : Tok} {p1 p2 p3 : Addr × Obj} {t59 t205 : Obj}
    (F : Fr h₀ env.locals s.heap m) (N : News h₀ env.locals s.heap [(D, W.listOf vs.toArray kD), p1, p2, p3, (lf0, lstO [] kf0), (lw0, lstO [] kw0), (d2, o0), (x, instObj 53 d3), (d3, dictD w tk d2), (cD, oD0), (cF, oF0), (cW, oW0), (59, t59), (205, t205)])
    (hh : A.handled = none) (hi : IntsAre vs ns) (hns : ∀ n ∈ ns, 0 ≤ n ∧ n < 78)
    (hW0 : oW0.data = .cell (some (.ref lw0))) (hF0 : oF0.data = .cell (some (.ref lf0))) (hD0 : ∃ v, oD0.data = .cell v) (hroot : o0.IsDictOf (strKind prog w) []) (hlow : (d2 == sysModules) = false)
    (h1 : (59 : Nat) < 205 ∧ 205 < cW ∧ cW < cF ∧ cF < cD ∧ cD < d3 ∧ d3 < x ∧ x < d2 ∧ d2 < lw0 ∧ lw0 < lf0 ∧ lf0 < D)
    (turn : ∀ (k : Nat) t oW oF oD lw lf kw kf zsW zsF W ad nl R back b c d h tk', k < 78 → R = nl ++ back → oW.data = .cell (some (.ref lw)) → oF.data = .cell (some (.ref lf)) → (∃ v, oD.data = .cell v) → LawSt W zsW zsF → Tree w W ad nl → ad [] = d2 → (∀ q ∈ back, ∀ r ∈ nl, q.1 ≠ r.1) →
      OwnOff R [cW, cF, cD, lw, lf, x, d3] → Apart [cW, cF, cD, lw, lf, x, d3] → Fr h₀ env.locals h (fun y => if y = Str.ofString "x" then some (.int (k : Nat) t) else if y = Str.ofString "place" then b else if y = Str.ofString "barred" then c else if y = Str.ofString "nest" then d else m y) →
      News h₀ env.locals h (frontO w tk d2 cW cF cD lw lf x d3 oW oF oD zsW zsF kw kf ++ R) →
      wpAny (model prog w) A (execs body env) (LawEnd (Came W k) h₀ env.locals w m tk d2 cW cF cD x d3 back { s with heap := h, toks := tk' }) E { s with heap := h, toks := tk' })
    (done : ∀ oW oF oD lw lf kw kf zsW zsF W ad nl a b c d h tk', oW.data = .cell (some (.ref lw)) → oF.data = .cell (some (.ref lf)) → (∃ v, oD.data = .cell v) → LawSt W zsW zsF → Tree w W ad nl → ad [] = d2 → (∀ q ∈ [((59 : Addr), t59), (205, t205)], ∀ r ∈ nl, q.1 ≠ r.1) → OwnOff (nl ++ [((59 : Addr), t59), (205, t205)]) [cW, cF, cD, lw, lf, x, d3] →
      Apart [cW, cF, cD, lw, lf, x, d3] → (∀ n : Nat, (n : Int) ∈ ns → ∃ q ∈ W, q.1.getLast? = (plc (n / 2)).getLast?) → Fr h₀ env.locals h (lawM m a b c d) → News h₀ env.locals h (frontO w tk d2 cW cF cD lw lf x d3 oW oF oD zsW zsF kw kf ++ (nl ++ [((59 : Addr), t59), (205, t205)])) → Q .next { s with heap := h, toks := tk' }) :
    wpAny (model prog w) A (pyIter (.ref D)) (fun it s₂ => LoopAtV prog w A h₀ env (Str.ofString "x") body Q E it s₂) E s := by
  have P : [59, 205, cW, cF, cD, d3, x, d2, lw0, lf0, D].Pairwise (α := Nat) (· < ·) := asc_pw (l := [59, 205, cW, cF, cD, d3, x, d2, lw0, lf0, D]) h1
  refine law_loop (oW0 := oW0) (oF0 := oF0) (oD0 := oD0) (o0 := o0) (tabs := [(59, t59), (205, t205)]) (kw0 := kw0) (kf0 := kf0) (lw0 := lw0) (lf0 := lf0) hh hi hns F N (.head _) ?_ ?_ ?_ ?_ ?_ hroot hlow hW0 hF0 hD0 turn done
  · simp only [frontO, List.cons_append, List.nil_append, List.forall_mem_cons]
    refine ⟨?_, ?_, ?_, ?_, ?_, ?_, ?_, ?_, ?_, ?_, fun _ h => (nomatch h)⟩ <;> simp [strValues]
  · unfold Apart
    simp only [List.pairwise_cons, List.mem_cons, List.not_mem_nil, or_false, forall_eq_or_imp, forall_eq, ne_eq, List.Pairwise.nil, and_true, false_implies, implies_true]
    exact ⟨⟨ch_ne P 2 3 rfl rfl (by decide), ch_ne P 2 4 rfl rfl (by decide), ch_ne P 2 8 rfl rfl (by decide), ch_ne P 2 9 rfl rfl (by decide), ch_ne P 2 6 rfl rfl (by decide), ch_ne P 2 5 rfl rfl (by decide)⟩,
      ⟨ch_ne P 3 4 rfl rfl (by decide), ch_ne P 3 8 rfl rfl (by decide), ch_ne P 3 9 rfl rfl (by decide), ch_ne P 3 6 rfl rfl (by decide), ch_ne P 3 5 rfl rfl (by decide)⟩,
      ⟨ch_ne P 4 8 rfl rfl (by decide), ch_ne P 4 9 rfl rfl (by decide), ch_ne P 4 6 rfl rfl (by decide), ch_ne P 4 5 rfl rfl (by decide)⟩,
      ⟨ch_ne P 8 9 rfl rfl (by decide), ch_ne P 8 6 rfl rfl (by decide), ch_ne P 8 5 rfl rfl (by decide)⟩, ⟨ch_ne P 9 6 rfl rfl (by decide), ch_ne P 9 5 rfl rfl (by decide)⟩, ch_ne P 6 5 rfl rfl (by decide)⟩
  · have H : ∀ k, k = 7 ∨ k = 0 ∨ k = 1 → ∀ a : Nat, [59, 205, cW, cF, cD, d3, x, d2, lw0, lf0, D][k]? = some a → ∀ b ∈ ([cW, cF, cD, lw0, lf0, x, d3] : List Nat), a ≠ b := by
      intro k hk a ha b hb
      have hk2 : k ≠ 2 ∧ k ≠ 3 ∧ k ≠ 4 ∧ k ≠ 8 ∧ k ≠ 9 ∧ k ≠ 6 ∧ k ≠ 5 := by rcases hk with rfl | rfl | rfl <;> decide
      obtain ⟨k2, k3, k4, k8, k9, k6, k5⟩ := hk2
      simp only [List.mem_cons, List.not_mem_nil, or_false] at hb
      rcases hb with rfl | rfl | rfl | rfl | rfl | rfl | rfl
      · exact ch_ne P k 2 ha rfl k2
      · exact ch_ne P k 3 ha rfl k3
      · exact ch_ne P k 4 ha rfl k4
      · exact ch_ne P k 8 ha rfl k8
      · exact ch_ne P k 9 ha rfl k9
      · exact ch_ne P k 6 ha rfl k6
      · exact ch_ne P k 5 ha rfl k5
    intro q hq b hb
    simp only [List.cons_append, List.nil_append, List.mem_cons, List.not_mem_nil, or_false] at hq
    rcases hq with rfl | rfl | rfl
    · exact H 7 (.inl rfl) _ rfl b hb
    · exact H 0 (.inr (.inl rfl)) _ rfl b hb
    · exact H 1 (.inr (.inr rfl)) _ rfl b hb
  · intro q hq r hr
    simp only [List.mem_cons, List.not_mem_nil, or_false] at hq hr
    subst hr
    rcases hq with rfl | rfl
    · exact ch_ne P 0 7 rfl rfl (by decide)
    · exact ch_ne P 1 7 rfl rfl (by decide)
  · have H : ∀ k, k ≠ 10 → ∀ a : Nat, [59, 205, cW, cF, cD, d3, x, d2, lw0, lf0, D][k]? = some a → a ≠ D := fun k hk a ha => ch_ne P k 10 ha rfl hk
    simp only [frontO, List.cons_append, List.nil_append, List.forall_mem_cons]
    exact ⟨H 2 (by decide) _ rfl, H 3 (by decide) _ rfl, H 4 (by decide) _ rfl, H 8 (by decide) _ rfl, H 9 (by decide) _ rfl, H 6 (by decide) _ rfl, H 5 (by decide) _ rfl, H 7 (by decide) _ rfl, H 0 (by decide) _ rfl, H 1 (by decide) _ rfl, fun _ h => (nomatch h)⟩
end
theorem two_ofL {α : Type} {l : List α} {a b : α} (ha : a ∈ l) (hb : b ∈ l) (h : a ≠ b) : 2 ≤ l.length := by
  match l, ha, hb with
  | [], ha, _ => cases ha
  | [c], ha, hb => exact absurd ((List.mem_singleton.mp ha).trans (List.mem_singleton.mp hb).symm) h
  | _ :: _ :: _, _, _ => simp
theorem two_places {W : List (Place × Bool)} {ns : List Int} (hc : ∀ n : Nat, (n : Int) ∈ ns → ∃ q ∈ W, q.1.getLast? = (plc (n / 2)).getLast?) (h9 : (9 : Int) ∈ ns) (h54 : (54 : Int) ∈ ns) : 2 ≤ W.length := by
  obtain ⟨q, hq, e1⟩ := hc 9 h9
  obtain ⟨r, hr, e2⟩ := hc 54 h54
  refine two_ofL hq hr fun e => ?_
  rw [e, e2] at e1
  exact absurd e1 (by decide +kernel)

set_option maxHeartbeats 8000000 in
theorem lawwalk : PySem.Challenge.rw_in0136_01.Holds := by
  refine Mine.hd ?_
  k_go0
  (repeat' (first | (k_unfold; (try dsimp only)) | (k_end; wrow_close) | ((with_reducible show wpAny _ _ (exec (Stmt.For _ _ _ _ _) _) _ _ _); (k_here; (rename Fr _ _ _ _ => lF'); (with_unfolding_all refine' For_invVF lF' (by exact rfl) (by exact rfl) ?_; k_whole))) | ((with_reducible show wpAny _ _ (binaryOp Operator.Add _ _) _ _ _); (k_here; (with_reducible show wpAny _ _ (binaryOp _ (Value.ref _) (Value.ref _)) _ _ _); (k_dflt (refine addL_K (by k_asm) (by k_asm) (by k_mem) (by k_mem) (cat_size (by assumption)) ?_)); intro D' h' F' N' l1; (try k_lt l1); (try dsimp only))) | ((with_reducible show wpAny _ _ (subscriptTail _ _ (Value.ref _) (Value.ref _)) _ _ _); (k_here; (k_dflt (refine take_K (by k_asm) (by k_asm) (by k_mem) (by assumption) (by assumption) ?_)); intro D' h' F' N' l1; (try dsimp only))) | ((with_reducible show wpAny _ _ (eval (PySem.Expr.Name _ _) _) _ _ _); (k_here; (with_reducible show wpAny _ _ (eval (Expr.Name _ _) (compEnvC _ _ _ (compEnvC _ _ _ _))) _ _ _); k_dflt (first   | (refine' lcf_cell (by k_asm) (by rfl) (by k_mem) (by k_asm) ?_ (by rfl) (by with_unfolding_all rfl); k_whole)   | (refine' lcf_free (by k_asm) (by rfl) (by k_mem) (by k_asm) ?_ (by rfl) (by with_unfolding_all rfl); k_whole)))) | ((with_reducible show wpAny _ _ (eval (PySem.Expr.ListComp _ _ _ _) _) _ _ _); (k_here; (with_reducible show wpAny _ _ (eval (Expr.ListComp (Expr.Name _ _) _ _ _) _) _ _ _); k_dflt (refine LCt.ListComp_T (F₀ := by k_asm) (by with_unfolding_all rfl) (by decide) (by rfl) (by decide) (by rfl) ?_))) | walk1 | (dsimp only; (first | ((with_reducible show wpAny _ _ (exec (Stmt.For _ _ _ _ _) _) _ _ _); (k_here; (rename Fr _ _ _ _ => lF'); (with_unfolding_all refine' For_invVF lF' (by exact rfl) (by exact rfl) ?_; k_whole))) | ((with_reducible show wpAny _ _ (binaryOp Operator.Add _ _) _ _ _); (k_here; (with_reducible show wpAny _ _ (binaryOp _ (Value.ref _) (Value.ref _)) _ _ _); (k_dflt (refine addL_K (by k_asm) (by k_asm) (by k_mem) (by k_mem) (cat_size (by assumption)) ?_)); intro D' h' F' N' l1; (try k_lt l1); (try dsimp only))) | ((with_reducible show wpAny _ _ (subscriptTail _ _ (Value.ref _) (Value.ref _)) _ _ _); (k_here; (k_dflt (refine take_K (by k_asm) (by k_asm) (by k_mem) (by assumption) (by assumption) ?_)); intro D' h' F' N' l1; (try dsimp only))) | ((with_reducible show wpAny _ _ (eval (PySem.Expr.Name _ _) _) _ _ _); (k_here; (with_reducible show wpAny _ _ (eval (Expr.Name _ _) (compEnvC _ _ _ (compEnvC _ _ _ _))) _ _ _); k_dflt (first   | (refine' lcf_cell (by k_asm) (by rfl) (by k_mem) (by k_asm) ?_ (by rfl) (by with_unfolding_all rfl); k_whole)   | (refine' lcf_free (by k_asm) (by rfl) (by k_mem) (by k_asm) ?_ (by rfl) (by with_unfolding_all rfl); k_whole)))) | ((with_reducible show wpAny _ _ (eval (PySem.Expr.ListComp _ _ _ _) _) _ _ _); (k_here; (with_reducible show wpAny _ _ (eval (Expr.ListComp (Expr.Name _ _) _ _ _) _) _ _ _); k_dflt (refine LCt.ListComp_T (F₀ := by k_asm) (by with_unfolding_all rfl) (by decide) (by rfl) (by decide) (by rfl) ?_))) | walk1)) | (leave1; (try dsimp only)) | fail "no step"))
  refine' law_loop_at ?F ?N ?hh ?hi ?hns ?wa ?wb ?wc ?wd ?we ?wf ?turn ?done
  case F => k_asm
  case N => k_asm
  case hh => exact rfl
  case hi => assumption
  case hns => exact hns_of _
  case wa => assumption
  case wb => assumption
  case wc => exact ⟨_, by assumption⟩
  case wd => assumption
  case we => assumption
  case wf => exact ⟨by decide, ltN (by first | exact And.left (by assumption) | omega), ltN (by first | exact Nat.lt_succ_self _ | omega), ltN (by first | exact Nat.lt_succ_self _ | omega), ltN (by first | exact And.left (by assumption) | omega), ltN (by first | exact And.left (by assumption) | omega), ltN (by first | exact And.left (by assumption) | omega), ltN (by first | exact And.left (by assumption) | omega), ltN (by first | exact And.left (by assumption) | omega), ltN (by first | exact And.left (by assumption) | omega)⟩
  case turn =>
    intro k' t' oW' oF' oD' lw' lf' kw' kf' zsW' zsF' W' ad' nl' R' back' b' c' d' h' tk' hk' hR' hW' hF' hD' hst' hT' hroot' hoff' hO' hap' F' N'
    exact turn_K _ rfl rfl (below_caller _) (by k_asm) (by k_asm) (by k_asm) (by k_asm) hk' hR' hW' hF' hD' hst' hT' hroot' hoff' hO' hap' F' N'
  case done =>
    intro oW' oF' oD' lw' lf' kw' kf' zsW' zsF' W' ad' nl' a' b' c' d' h' tk' hW' hF' hD' hst' hT' hroot' hoff' hO' hap' hcame' F' N'
    have h2' := two_places hcame' (by simp) (by simp)
    have h39' := hst'.lenW hT'.ok
    dsimp only
    refine done_K _ rfl rfl (by k_asm) (by k_asm) (by first | assumption | k_asm) (by first | assumption | k_asm) hW' hF' hst' hT' hroot' hoff' hO' hap' h2' h39' F' N' ?_
    intro h9 tk9 m9 ps1 ps2 F9 N9
    dsimp only
    (repeat' (first | (k_unfold; (try dsimp only)) | (k_end; wrow_close) | ((with_reducible show wpAny _ _ (exec (Stmt.For _ _ _ _ _) _) _ _ _); (k_here; (rename Fr _ _ _ _ => lF'); (with_unfolding_all refine' For_invVF lF' (by exact rfl) (by exact rfl) ?_; k_whole))) | ((with_reducible show wpAny _ _ (binaryOp Operator.Add _ _) _ _ _); (k_here; (with_reducible show wpAny _ _ (binaryOp _ (Value.ref _) (Value.ref _)) _ _ _); (k_dflt (refine addL_K (by k_asm) (by k_asm) (by k_mem) (by k_mem) (cat_size (by assumption)) ?_)); intro D' h' F' N' l1; (try k_lt l1); (try dsimp only))) | ((with_reducible show wpAny _ _ (subscriptTail _ _ (Value.ref _) (Value.ref _)) _ _ _); (k_here; (k_dflt (refine take_K (by k_asm) (by k_asm) (by k_mem) (by assumption) (by assumption) ?_)); intro D' h' F' N' l1; (try dsimp only))) | ((with_reducible show wpAny _ _ (eval (PySem.Expr.Name _ _) _) _ _ _); (k_here; (with_reducible show wpAny _ _ (eval (Expr.Name _ _) (compEnvC _ _ _ (compEnvC _ _ _ _))) _ _ _); k_dflt (first   | (refine' lcf_cell (by k_asm) (by rfl) (by k_mem) (by k_asm) ?_ (by rfl) (by with_unfolding_all rfl); k_whole)   | (refine' lcf_free (by k_asm) (by rfl) (by k_mem) (by k_asm) ?_ (by rfl) (by with_unfolding_all rfl); k_whole)))) | ((with_reducible show wpAny _ _ (eval (PySem.Expr.ListComp _ _ _ _) _) _ _ _); (k_here; (with_reducible show wpAny _ _ (eval (Expr.ListComp (Expr.Name _ _) _ _ _) _) _ _ _); k_dflt (refine LCt.ListComp_T (F₀ := by k_asm) (by with_unfolding_all rfl) (by decide) (by rfl) (by decide) (by rfl) ?_))) | walk1 | (dsimp only; (first | ((with_reducible show wpAny _ _ (exec (Stmt.For _ _ _ _ _) _) _ _ _); (k_here; (rename Fr _ _ _ _ => lF'); (with_unfolding_all refine' For_invVF lF' (by exact rfl) (by exact rfl) ?_; k_whole))) | ((with_reducible show wpAny _ _ (binaryOp Operator.Add _ _) _ _ _); (k_here; (with_reducible show wpAny _ _ (binaryOp _ (Value.ref _) (Value.ref _)) _ _ _); (k_dflt (refine addL_K (by k_asm) (by k_asm) (by k_mem) (by k_mem) (cat_size (by assumption)) ?_)); intro D' h' F' N' l1; (try k_lt l1); (try dsimp only))) | ((with_reducible show wpAny _ _ (subscriptTail _ _ (Value.ref _) (Value.ref _)) _ _ _); (k_here; (k_dflt (refine take_K (by k_asm) (by k_asm) (by k_mem) (by assumption) (by assumption) ?_)); intro D' h' F' N' l1; (try dsimp only))) | ((with_reducible show wpAny _ _ (eval (PySem.Expr.Name _ _) _) _ _ _); (k_here; (with_reducible show wpAny _ _ (eval (Expr.Name _ _) (compEnvC _ _ _ (compEnvC _ _ _ _))) _ _ _); k_dflt (first   | (refine' lcf_cell (by k_asm) (by rfl) (by k_mem) (by k_asm) ?_ (by rfl) (by with_unfolding_all rfl); k_whole)   | (refine' lcf_free (by k_asm) (by rfl) (by k_mem) (by k_asm) ?_ (by rfl) (by with_unfolding_all rfl); k_whole)))) | ((with_reducible show wpAny _ _ (eval (PySem.Expr.ListComp _ _ _ _) _) _ _ _); (k_here; (with_reducible show wpAny _ _ (eval (Expr.ListComp (Expr.Name _ _) _ _ _) _) _ _ _); k_dflt (refine LCt.ListComp_T (F₀ := by k_asm) (by with_unfolding_all rfl) (by decide) (by rfl) (by decide) (by rfl) ?_))) | walk1)) | (leave1; (try dsimp only)) | fail "no step"))
end
end Mine
set_option maxRecDepth 100000 in
set_option maxHeartbeats 8000000 in
theorem PySem.Challenge.cw_in0136_01_holds : PySem.Challenge.rw_in0136_01.Holds :=
  Mine.lawwalk
