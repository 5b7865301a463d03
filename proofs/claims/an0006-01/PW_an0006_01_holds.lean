import PyProof.Rows.All
import Wide.All
import OpenK.AllK
import Wide.FinOn
import PySem.Challenge.RW_an0006_01
set_option Elab.async false
set_option maxRecDepth 100000
set_option rowWalk.seconds 0
open PySem PySem.W PyProof.Rows
namespace Mine
section
open PySem PySem.W PyProof.Rows PySem.Calls
local macro_rules | `(tactic| walk_at "my fill") => `(tactic| (have hfill_ : hd.heap_39 = hd.heap_39 ∧ PySem.Challenge.rw_an0006_01 = PySem.Challenge.rw_an0006_01 := (by k_fill; exact ⟨rfl, rfl⟩)))
set_option maxHeartbeats 8000000 in
open_top hd for PySem.Challenge.rw_an0006_01

theorem room {a k j R : Nat} (h : a + k < R) (hj : j ≤ k) : a + j < R := Nat.lt_of_le_of_lt (Nat.add_le_add_left hj a) h
theorem roomU {a k j R : Nat} (h : a + 100 * k < R) (hj : j ≤ k) : a + 100 * j < R := Nat.lt_of_le_of_lt (Nat.add_le_add_left (Nat.mul_le_mul_left 100 hj) a) h
/-- a call of the text's def: what it hands back, and the ledger behind it -/
def CallOk (w : World) (k : Nat) (f : Addr) (args : List Value) (news : List (Addr × Obj)) (Ret : Value → List (Addr × Obj) → Prop) : Prop :=
  ∀ (mg mb : Str → Option Value) (dp un : Nat) (gd : Option (List Code)) (cn : Str) (cs : Scope) (a : Addr) (ccd : Value) (cl : List (Str × Addr)) (outer : List Env) (A₀ : Around) (base h₀ : Heap) (L : Addr) (m : Str → Option Value) (s : Shared) (Q E : Value → Shared → Prop),
    Below A₀ base outer h₀ → Fr h₀ L s.heap m → (hd.heap_39 w.params).In h₀ → News h₀ L s.heap news →
    TopRead hd.view_39 (looseW hd.view_39 [Str.ofString "Encoding", Str.ofString "convertbits"]) mg mb h₀ → cs.kind = .function → dp + k < recursionLimit → un + 100 * k < cLine →
    (∀ v news' h' tk', Ret v news' → Fr h₀ L h' m → News h₀ L h' news' → Q v { s with heap := h', toks := tk' }) →
    wpAny (model PySem.Challenge.rw_an0006_01.row.prog w) (ktrTop dp un gd cn cs L a ccd cl outer) (call (.ref f) args) Q E s

/-- the room that is left on the stack, out of omega's sight -/
structure Room (dp un k : Nat) : Prop where
  d : dp + k < recursionLimit
  u : un + 100 * k < cLine
theorem Room.d' {dp un k j : Nat} (R : Room dp un k) (hj : j ≤ k) : dp + j < recursionLimit := room R.d hj
theorem Room.u' {dp un k j : Nat} (R : Room dp un k) (hj : j ≤ k) : un + 100 * j < cLine := roomU R.u hj
theorem Room.u64 {dp un k : Nat} (R : Room dp un k) (hk : 1 ≤ k) : un + 64 < cLine := by have := R.u; omega
theorem Room.u0 {dp un k : Nat} (R : Room dp un k) : un < cLine := by have := R.u; omega
/-- what a def hands back, its wording out of the way -/
theorem hideRet {w : World} {k : Nat} {f : Addr} {args : List Value} {news : List (Addr × Obj)} {Ret : Value → List (Addr × Obj) → Prop} (h : ∀ Ret' : Value → List (Addr × Obj) → Prop, (∀ v nw, Ret v nw → Ret' v nw) → CallOk w k f args news Ret') : CallOk w k f args news Ret := h Ret fun _ _ x => x

theorem CallOk.use {w : World} {k : Nat} {f : Addr} {args : List Value} {news : List (Addr × Obj)} {Ret : Value → List (Addr × Obj) → Prop} (C : CallOk w k f args news Ret)
    {mg mb : Str → Option Value} {dp un : Nat} {gd : Option (List Code)} {cn : Str} {cs : Scope} {a : Addr} {ccd : Value} {cl : List (Str × Addr)} {outer : List Env} {A₀ : Around} {base h₀ : Heap} {L : Addr} {m : Str → Option Value} {s : Shared} {Q E : Value → Shared → Prop}
    (B : Below A₀ base outer h₀) (F : Fr h₀ L s.heap m) (X : (hd.heap_39 w.params).In h₀) (T : TopRead hd.view_39 (looseW hd.view_39 [Str.ofString "Encoding", Str.ofString "convertbits"]) mg mb h₀) (N : News h₀ L s.heap news)
    (hk : cs.kind = .function) (hd : dp + k < recursionLimit) (hu : un + 100 * k < cLine)
    (h : ∀ v news' h' tk', Ret v news' → Fr h₀ L h' m → News h₀ L h' news' → Q v { s with heap := h', toks := tk' }) :
    wpAny (model PySem.Challenge.rw_an0006_01.row.prog w) (ktrTop dp un gd cn cs L a ccd cl outer) (call (.ref f) args) Q E s :=
  C _ _ _ _ _ _ _ _ _ _ _ _ _ _ _ _ _ _ _ B F X N T hk hd hu h

/-- the end of a def's body -/
def Bk (g : Heap) (L : Addr) (s₀ : Shared) (Ret : Value → List (Addr × Obj) → Prop) (fl : Flow) (s' : Shared) : Prop :=
  ∃ h' tk' m' news', s' = { s₀ with heap := h', toks := tk' } ∧ Fr g L h' m' ∧ News g L h' news' ∧ Ret (match fl with | .ret v => v | _ => .none) news'

theorem Bk.ret {g : Heap} {L : Addr} {s₀ : Shared} {Ret : Value → List (Addr × Obj) → Prop} {v : Value} {h' : Heap} {tk' : Nat} {m' : Str → Option Value} {news' : List (Addr × Obj)}
    (F : Fr g L h' m') (N : News g L h' news') (r : Ret v news') : Bk g L s₀ Ret (.ret v) { s₀ with heap := h', toks := tk' } := ⟨h', tk', m', news', rfl, F, N, r⟩

section
variable {M : Model} {A : Around} {E : Value → Shared → Prop} {s : Shared} {h₀ : Heap} {m : Str → Option Value} {env : Env}
theorem ldE {x : Str} {pos : Pos} {v : Value} {Q : Value → Shared → Prop} (F : Fr h₀ env.locals s.heap m) (hv : m x = some v) (h : Q v s)
    (hk : env.scope.kind = .function) (hl : env.kindOf x = some .local) (hd : (x == ("__debug__" : Str)) = false) :
    wpAny M A (eval (.Name x pos) env) Q E s := wpAny_Name (wpAny_loadName_local hk hl F.ns hv h) hd
theorem ldG_E {K : Frag} {p : Program} {loose : List Str} {mg mb : Str → Option Value} {L : Addr} {x : Str} {pos : Pos} {v : Value} {Q : Value → Shared → Prop}
    (F : Fr h₀ L s.heap m) (X : K.In h₀) (T : TopRead p loose mg mb h₀) (e : nsIn K mainGlobals x = some (some v)) (h : Q v s) (hg : env.globals = mainGlobals)
    (hk : env.scope.kind = .function) (hx : env.kindOf x = some .globalImplicit) (hd : (x == ("__debug__" : Str)) = false) :
    wpAny M A (eval (.Name x pos) env) Q E s :=
  Name_function_global hk hx (loadGlobal_global (env := env) (show s.heap.Ns env.globals mg from hg ▸ (T.keeps F.keep).g) (mg_of X T.g e) h) hd
theorem ldB_E {K : Frag} {p : Program} {loose : List Str} {mg mb : Str → Option Value} {L : Addr} {x : Str} {pos : Pos} {v : Value} {Q : Value → Shared → Prop}
    (F : Fr h₀ L s.heap m) (X : K.In h₀) (T : TopRead p loose mg mb h₀) (e : nsIn K mainGlobals x = some none) (hv : bootBuiltins x = some v) (hn : x ≠ "__name__") (h : Q v s) (hg : env.globals = mainGlobals) (hb : env.builtins = builtinsNs)
    (hk : env.scope.kind = .function) (hx : env.kindOf x = some .globalImplicit) (hd : (x == ("__debug__" : Str)) = false) :
    wpAny M A (eval (.Name x pos) env) Q E s :=
  Name_function_global hk hx (loadGlobal_builtin (env := env) (show s.heap.Ns env.globals mg from hg ▸ (T.keeps F.keep).g) (mg_none_of X T.g e) (show s.heap.Ns env.builtins mb from hb ▸ (T.keeps F.keep).b) ((T.builtins x hn).trans hv) h) hd
theorem ldG_comp {K : Frag} {p : Program} {loose : List Str} {mg mb : Str → Option Value} {L C : Addr} {scope : Scope} {cl : List (Str × Addr)} {x : Str} {pos : Pos} {v : Value} {Q : Value → Shared → Prop}
    (F : Fr h₀ L s.heap m) (X : K.In h₀) (T : TopRead p loose mg mb h₀) (e : nsIn K mainGlobals x = some (some v)) (h : Q v s) (hg : env.globals = mainGlobals)
    (hk : (compEnvC scope cl C env).scope.kind = .function) (hx : (compEnvC scope cl C env).kindOf x = some .globalImplicit) (hd : (x == ("__debug__" : Str)) = false) :
    wpAny M A (eval (.Name x pos) (compEnvC scope cl C env)) Q E s := ldG_E F X T e h hg hk hx hd
theorem ldB_comp {K : Frag} {p : Program} {loose : List Str} {mg mb : Str → Option Value} {L C : Addr} {scope : Scope} {cl : List (Str × Addr)} {x : Str} {pos : Pos} {v : Value} {Q : Value → Shared → Prop}
    (F : Fr h₀ L s.heap m) (X : K.In h₀) (T : TopRead p loose mg mb h₀) (e : nsIn K mainGlobals x = some none) (hv : bootBuiltins x = some v) (hn : x ≠ "__name__") (h : Q v s) (hg : env.globals = mainGlobals) (hb : env.builtins = builtinsNs)
    (hk : (compEnvC scope cl C env).scope.kind = .function) (hx : (compEnvC scope cl C env).kindOf x = some .globalImplicit) (hd : (x == ("__debug__" : Str)) = false) :
    wpAny M A (eval (.Name x pos) (compEnvC scope cl C env)) Q E s := ldB_E F X T e hv hn h hg hb hk hx hd
theorem ldnE {x : Str} {v : Value} {Q : Value → Shared → Prop} (F : Fr h₀ env.locals s.heap m) (hv : m x = some v) (h : Q v s)
    (hk : env.scope.kind = .function) (hl : env.kindOf x = some .local) :
    wpAny M A (loadName env x) Q E s := wpAny_loadName_local hk hl F.ns hv h
end

theorem News.sub {g h : Heap} {L : Addr} {news news' : List (Addr × Obj)} (N : News g L h news) (hs : ∀ p ∈ news', p ∈ news) : News g L h news' := fun p hp => N p (hs p hp)

theorem Fr.congr {g h : Heap} {L : Addr} {m m' : Str → Option Value} (F : Fr g L h m) (e : ∀ y, m y = m' y) : Fr g L h m' := by
  have : m = m' := funext e
  exact this ▸ F

def bmap : List (Str × Value) → Str → Option Value
  | [], _ => none
  | (k, v) :: r, y => if y = k then some v else bmap r y
theorem lookup_bmap (y : Str) : ∀ l : List (Str × Value), l.lookup y = bmap l y
  | [] => rfl
  | (k, v) :: r => by
    have ih := lookup_bmap y r
    rw [List.lookup_cons, bmap, ih]
    by_cases h : y = k
    · subst h; simp
    · rw [if_neg h, beq_false_of_ne h]

theorem callOk_intro {w : World} {k : Nat} {f : Addr} {args : List Value} {news : List (Addr × Obj)} {Ret : Value → List (Addr × Obj) → Prop}
    {name qual : Str} {params : Arguments} {body : List Stmt} {scope : Scope} {dV kV doc pm cdv ct oc : Value} {an od : Option Addr} {osl : Array (Option Value)} (binds : List (Str × Value)) (m₀ : Str → Option Value)
    (ho : (hd.heap_39 w.params).lookup f = some ⟨oc, od, .func (fnOf name qual params body scope dV kV doc pm an cdv ct), osl⟩) (hcd : codeIn (hd.heap_39 w.params) cdv qual = true)
    (hbind : ∀ s : Shared, (hd.heap_39 w.params).In s.heap → BindsTo s (fnOf name qual params body scope dV kV doc pm an cdv ct) ⟨args, []⟩ binds) (hloc : ∀ y ∈ binds, scope.names.lookup y.1 = some .local)
    (hm : ∀ y, bmap binds.reverse y = m₀ y)
    (h : ∀ (mean : ExcName → Option Value) (mg mb : Str → Option Value) (dp un : Nat) (gd : Option (List Code)) (outer : List Env) (A₀ : Around) (base g : Heap) (L' : Addr) (h₁ : Heap) (tk : Nat) (s₀ : Shared),
      Below A₀ base outer g → Fr g L' h₁ m₀ → (hd.heap_39 w.params).In g → News g L' h₁ news →
      TopRead hd.view_39 (looseW hd.view_39 [Str.ofString "Encoding", Str.ofString "convertbits"]) mg mb g → dp + k < recursionLimit → un + 100 * k < cLine →
      wpAny (model PySem.Challenge.rw_an0006_01.row.prog w) (ktrTop dp un gd qual scope L' f cdv [] outer) (execs body (envOf qual scope L' f cdv)) (Bk g L' s₀ Ret) (fun _ _ => False) { s₀ with heap := h₁, toks := tk })
    (hco : scope.isCoroutine = false) (hgen : scope.isGenerator = false) (hk : scope.kind = .function) (hcell : ∀ x ∈ scope.names, x.2 ≠ .cell) : CallOk w (k + 1) f args news Ret := by
  intro mg mb dp un gd cn cs a ccd cl outer A₀ base h₀ L m s Q E B F X N T hkk hd hu hret
  refine wpAny_call ?_
  refine callX_plain (env := envX cn cs L a ccd cl) (cl := []) B F N T.nolimit rfl rfl hkk ((X.keeps F.keep) _ _ ho) rfl (codeRec_of (X.keeps F.keep) hcd) (by show dp < recursionLimit; omega) (hbind s (X.keeps F.keep)) hloc ?_ hcell hco hgen hk
  intro g L' h₁ FG F' N' B' st _
  have X' := X.keeps st
  have T' := T.keeps st
  have F₁ : Fr g L' h₁ m₀ := Fr.congr F' fun y => (lookup_bmap y _).trans (hm y)
  refine wpAny_mono (h (fun _ => none) mg mb (dp + 1) (un + 3) gd (envX cn cs L a ccd cl :: outer) _ base g L' h₁ _ s B' F₁ X' N' T' (by omega) (by omega)) ?_ (fun _ _ x => x.elim)
  rintro fl s' ⟨h', tk', m', news', rfl, F₂, N₂, r⟩
  exact leaveK_ F₂ N₂ fun F₃ N₃ => hret _ news' h' tk' r F₃ N₃

theorem callOk_introC {w : World} {k : Nat} {f : Addr} {args : List Value} {news : List (Addr × Obj)} {Ret : Value → List (Addr × Obj) → Prop}
    {name qual : Str} {params : Arguments} {body : List Stmt} {scope : Scope} {dV kV doc pm cdv ct oc : Value} {an od : Option Addr} {osl : Array (Option Value)} (binds : List (Str × Value)) (m₀ : Str → Option Value)
    (ho : (hd.heap_39 w.params).lookup f = some ⟨oc, od, .func (fnOf name qual params body scope dV kV doc pm an cdv ct), osl⟩) (hcd : codeIn (hd.heap_39 w.params) cdv qual = true)
    (hbind : ∀ s : Shared, (hd.heap_39 w.params).In s.heap → BindsTo s (fnOf name qual params body scope dV kV doc pm an cdv ct) ⟨args, []⟩ binds)
    (hkind : (binds.all fun y => scope.names.lookup y.1 == some .local || scope.names.lookup y.1 == some .cell) = true) (hnd : ((cellsFrom 0 scope.names []).map (·.1)).Nodup)
    (hm : ∀ L' y, bindL (envOfC qual scope L' f cdv).kindOf binds (fun _ => none) y = m₀ y)
    (h : ∀ (mean : ExcName → Option Value) (mg mb : Str → Option Value) (dp un : Nat) (gd : Option (List Code)) (outer : List Env) (A₀ : Around) (base g : Heap) (L' : Addr) (h₁ : Heap) (tk : Nat) (s₀ : Shared) (cells : List (Addr × Obj)),
      Below A₀ base outer g → Fr g L' h₁ m₀ → (hd.heap_39 w.params).In g → News g L' h₁ (cells ++ news) →
      CellsAre (bindC (envOfC qual scope L' f cdv).kindOf binds fun _ => none) (cellsFrom (L' + 1) scope.names []) cells →
      TopRead hd.view_39 (looseW hd.view_39 [Str.ofString "Encoding", Str.ofString "convertbits"]) mg mb g → dp + k < recursionLimit → un + 100 * k < cLine → (∀ p ∈ news, p.1 < L') →
      wpAny (model PySem.Challenge.rw_an0006_01.row.prog w) (ktrTop dp un gd qual scope L' f cdv (cellsFrom (L' + 1) scope.names []) outer) (execs body (envOfC qual scope L' f cdv)) (Bk g L' s₀ Ret) (fun _ _ => False) { s₀ with heap := h₁, toks := tk })
    (hco : scope.isCoroutine = false) (hgen : scope.isGenerator = false) (hk : scope.kind = .function) : CallOk w (k + 1) f args news Ret := by
  intro mg mb dp un gd cn cs a ccd cl outer A₀ base h₀ L m s Q E B F X N T hkk hd hu hret
  refine wpAny_call ?_
  refine callX_cells (env := envX cn cs L a ccd cl) B F N T.nolimit rfl rfl hkk ((X.keeps F.keep) _ _ ho) rfl (codeRec_of (X.keeps F.keep) hcd) (by show dp < recursionLimit; omega) (hbind s (X.keeps F.keep)) (kindsX hkind) hnd ?_ hco hgen hk
  intro g L' h₁ tk cells FG F' N' Y B' st hlt
  have X' := X.keeps st
  have T' := T.keeps st
  have F₁ : Fr g L' h₁ m₀ := Fr.congr F' (hm L')
  refine wpAny_mono (h (fun _ => none) mg mb (dp + 1) (un + 3) gd (envX cn cs L a ccd cl :: outer) _ base g L' h₁ tk s cells B' F₁ X' N' Y T' (by omega) (by omega) hlt) ?_ (fun _ _ x => x.elim)
  rintro fl s' ⟨h', tk', m', news', rfl, F₂, N₂, r⟩
  exact leaveK_ F₂ N₂ fun F₃ N₃ => hret _ news' h' tk' r F₃ N₃

theorem fillOnce : hd.heap_39 = hd.heap_39 ∧ PySem.Challenge.rw_an0006_01 = PySem.Challenge.rw_an0006_01 := by
  k_fill
  exact ⟨rfl, rfl⟩
end
section
local macro_rules | `(tactic| units_room) => `(tactic| ((try simp only [units_in1, units_deeper, Around.mark_units, Around.in1]); (try dsimp only); (first | exact Room.u64 (by assumption) (by decide) | exact Room.u0 (by assumption) | omega)))
local macro_rules | `(tactic| walk_at "my enter") => `(tactic| (
  (case ho => k_dflt k_is); (case hcd => k_dflt k_is); (case hbind => first | exact fun _ _ => BindsTo.of_eq rfl | exact fun _ hX => binds_K hX rfl (by k_dflt k_is) rfl rfl rfl); (case c5 => decide); (case hloc => exact locs rfl); (case hm => exact fun _ => rfl); (case c2 => rfl); (case c3 => rfl); (case c4 => rfl)))
local macro_rules | `(tactic| walk_at "eval Name") => `(tactic| (k_here; (with_reducible show wpAny _ _ (eval (Expr.Name _ _) (compEnvC _ _ _ _)) _ _ _); k_dflt (first
  | refine ldG_comp (by k_asm) (by k_asm) (by k_asm) (by k_is) ?_ (by rfl) (by rfl) (by rfl) (by decide)
  | refine ldB_comp (by k_asm) (by k_asm) (by k_asm) (by k_is) (by boot_by_name) (by decide) ?_ (by rfl) (by rfl) (by rfl) (by rfl) (by decide))))
local macro_rules | `(tactic| walk_at "eval Name") => `(tactic| (k_here; name_kind "local"; k_dflt (refine' ldE ?F ?v ?_ ?hk ?hl ?hd; (case hl => rfl); (case F => k_asm); (case v => (repeat' (first | with_reducible assumption | refine' Eq.trans (if_neg (by decide)) ?_))); (case hk => rfl); (case hd => decide); k_whole)))
local macro_rules | `(tactic| walk_at "loadName") => `(tactic| (k_here; name_kind "local"; k_dflt (refine' ldnE ?F ?v ?_ ?hk ?hl; (case hl => rfl); (case F => k_asm); (case v => (repeat' (first | with_reducible assumption | refine' Eq.trans (if_neg (by decide)) ?_))); (case hk => rfl); k_whole)))
local macro_rules | `(tactic| walk_at "binaryOp LShift int int") => `(tactic| ((with_reducible show wpAny _ _ (binaryOp _ (Value.int _ _) (Value.int _ _)) _ _ _); (refine' lshift_int_small ?a ?b ?c ?_); (case a => omega); (case b => omega); (case c => first | assumption | decide | omega)))
local macro_rules | `(tactic| k_all) => `(tactic| assumption)
local macro_rules | `(tactic| walk_at "my enterC") => `(tactic| (
  (case ho => k_dflt k_is); (case hcd => k_dflt k_is); (case hbind => first | exact fun _ _ => BindsTo.of_eq rfl | exact fun _ hX => binds_K hX rfl (by k_dflt k_is) rfl rfl rfl); (case hloc => rfl); (case hnd => decide +kernel); (case hm => exact fun _ _ => rfl); (case c2 => rfl); (case c3 => rfl); (case c4 => rfl)))
local macro_rules | `(tactic| cell_call) => `(tactic| with_reducible (first
  | show wpAny _ _ (exec (Stmt.For _ _ _ _ _) _) _ _ _
  | show wpAny _ _ (exec (Stmt.While _ _ _ _) _) _ _ _
  | show wpAny _ _ (call (Value.ref _) _) _ _ _
  | show wpAny _ _ (call (Value.builtin "list.append") _) _ _ _
  | show Bk _ _ _ _ _ _
  | show TurnP _ _ _ _ _ _ _ _ _
  | show WhileStep2 _ _ _ _ _ _ _ _
  | show wpAny _ _ (exec (Stmt.Assign _ (Expr.ListComp _ _ _ _) _) _) _ _ _
  | show wpAny _ _ (eval (Expr.ListComp _ _ _ _) _) _ _ _
  | show wpAny _ _ (eval (Expr.GeneratorExp _ _ _ _) _) _ _ _
  | show wpAny _ _ (pyIter _) _ _ _
  | show Mid _ _ _ _ _ _
  | show Kp _ _ _ _ _ _
  | show wpAny _ _ (subscriptTail _ (Expr.Slice _ _ _ _) (Value.ref _) (Value.ref _)) _ _ _
  | show SrcL _ _ _ _ _ _ _ _ _ _ _ _
  | show KpL _ _ _ _ _ _ _ _ _ _ _ _))
local macro_rules | `(tactic| walk_at "my steps") => `(tactic| ((repeat' (
  (fail_if_success cell_call);
  first | (walk1; (try dsimp only)) | (dsimp only; walk1; (try dsimp only)) | dsimp only)); (all_goals (try k_data))))
local macro_rules | `(tactic| walk_at "my steps if") => `(tactic| ((repeat' (
  (fail_if_success (with_reducible show wpAny _ _ (exec (Stmt.If _ _ _ _) _) _ _ _));
  (fail_if_success cell_call);
  first | (walk1; (try dsimp only)) | (dsimp only; walk1; (try dsimp only)) | dsimp only)); (all_goals (try k_data))))
/-- what a made list of ints holds -/
theorem draw_ok {w : World} {l : Addr} {vs : List Value} {c : Nat} {ns : List Int} {news : List (Addr × Obj)} (hI : IntsAre vs ns) (hlen : ns.length < 100) (hne : ∀ p ∈ news, p.1 ≠ l) :
    CallOk w 2 84 [.ref l] ((l, listOf vs.toArray c) :: news)
      (fun v news' => ∃ t vs' c', v = .int (ns.headD 0) t ∧ IntsAre vs' ns.tail ∧ news' = (l, listOf vs'.toArray c') :: news) := by
  refine hideRet fun Ret hRet => ?_
  refine' callOk_intro (k := 1) [(Str.ofString "rest", .ref l)] (fun y => if y = Str.ofString "rest" then some (.ref l) else none) ?ho ?hcd ?hbind ?hloc ?hm ?h ?c2 ?c3 ?c4 ?c5
  walk_at "my enter"
  intro mean mg mb dp un gd outer A₀ base g L' h₁ tk s₀ B F X N T hd hu
  cases hI with
  | nil =>
    k_steps
    rename Fr _ _ _ _ => F'
    rename News _ _ _ _ => N'
    exact Bk.ret F' (News.sub N' fun p hp => .tail _ hp) (hRet _ _ ⟨_, _, _, rfl, .nil, rfl⟩)
  | cons n t hI =>
    k_steps
    · rename decide _ = true => hc
      simp at hc
    · rename Fr _ _ _ _ => F'
      rename News _ _ _ _ => N'
      refine kl_popAt (p := []) (k := 0) F' N' rfl (by simp [seqIndex?]) rfl (Upd.tail (by k_ne) (Upd.head hne)) ?_ ?_
      · have := hI.length
        simp only [List.length_cons, sizeLine] at *
        omega
      · intro h' F₂ N₂
        exact Bk.ret F₂ (News.sub N₂ fun p hp => .tail _ hp) (hRet _ _ ⟨_, _, _, rfl, hI, rfl⟩)
theorem named {P : Addr → Prop} {R : Addr} (h : P R) : ∃ R', R' = R ∧ P R' := ⟨R, rfl, h⟩
theorem some_int {m : Option Value} {a b : Int} {t : Tok} (h : m = some (.int a t)) (e : a = b) : ∃ t, m = some (.int b t) := ⟨t, e ▸ h⟩
theorem ne_sym {a b : Nat} (h : a ≠ b) : b ≠ a := h.symm
/-- the end of a loop's turn: the iterator's object as it stood, the rest by the invariant -/
def TurnP (h₀ : Heap) (L : Addr) (J : (Str → Option Value) → List (Addr × Obj) → Prop) (I : Addr) (oI : Obj) (s₁ : Shared) (Q : Flow → Shared → Prop) (f : Flow) (s₂ : Shared) : Prop := UnrPost h₀ L s₁ I oI J Q f s₂

theorem TurnP.ret {h₀ : Heap} {L : Addr} {J : (Str → Option Value) → List (Addr × Obj) → Prop} {I : Addr} {oI : Obj} {s₁ s₂ : Shared} {Q : Flow → Shared → Prop} {v : Value} (h : Q (.ret v) s₂) : TurnP h₀ L J I oI s₁ Q (.ret v) s₂ := h
theorem TurnP.next {h₀ : Heap} {L : Addr} {J : (Str → Option Value) → List (Addr × Obj) → Prop} {I : Addr} {oI : Obj} {s₁ : Shared} {Q : Flow → Shared → Prop} {h' : Heap} {tk : Nat} {m' : Str → Option Value} {all nx : List (Addr × Obj)}
    (F : Fr h₀ L h' m') (N : News h₀ L h' all) (hs : ∀ p ∈ (I, oI) :: nx, p ∈ all) (hne : ∀ p ∈ nx, p.1 ≠ I) (hJ : J m' nx) : TurnP h₀ L J I oI s₁ Q .next { s₁ with heap := h', toks := tk } :=
  UnrEnd.intro F N nx hs hne hJ

section
variable {prog : Program} {w : World} {A : Around} {E : Value → Shared → Prop} {s : Shared} {env : Env} {h₀ : Heap} {x : Str} {body : List Stmt} {Q : Flow → Shared → Prop}

/-- what is left of a loop over a list, out of an invariant -/
theorem left_list {l I : Addr} {vs : List Value} {nn : Nat} (J : Nat → (Str → Option Value) → List (Addr × Obj) → Prop) (hJl : ∀ i m nx, J i m nx → (l, listOf vs.toArray nn) ∈ nx)
    (turn : ∀ i v m₁ news₁ h tk I oI, vs[i]? = some v → J i m₁ news₁ → (∀ p ∈ news₁, p.1 ≠ I) → Fr h₀ env.locals h (fun y => if y = x then some v else m₁ y) → News h₀ env.locals h ((I, oI) :: news₁) →
      wpAny (model prog w) A (execs body env) (TurnP h₀ env.locals (J (i + 1)) I oI { s with heap := h, toks := tk } Q) E { s with heap := h, toks := tk })
    (done : ∀ m₁ news₁ h tk, J vs.length m₁ news₁ → Fr h₀ env.locals h m₁ → News h₀ env.locals h news₁ → Q .next { s with heap := h, toks := tk }) :
    ∀ (r : List Value) (i : Nat) (m : Str → Option Value) (nx : List (Addr × Obj)), vs.drop i = r → i ≤ vs.length → J i m nx → (∀ p ∈ nx, p.1 ≠ I) → ListRest prog w A E h₀ env x body Q s I (l, listOf vs.toArray nn) r m nx
  | [], i, m, nx, e, hi, hJ, _ => by
    obtain rfl : i = vs.length := Nat.le_antisymm hi (List.drop_eq_nil_iff.mp e)
    exact .zero fun h tk => done m nx h tk hJ
  | v :: r, i, m, nx, e, _, hJ, hI => by
    have hv : vs[i]? = some v := by rw [← List.head?_drop, e]; rfl
    have hr : vs.drop (i + 1) = r := by rw [← List.tail_drop, e]; rfl
    have hi : i + 1 ≤ vs.length := (List.getElem?_eq_some_iff.mp hv).1
    refine .succ fun it h tk _ F N => wpAny_mono (turn i v m nx h tk I it hv hJ hI F N) (fun f s₂ p => ?_) fun _ _ e => e
    have again : TurnP h₀ env.locals (J (i + 1)) I it { s with heap := h, toks := tk } Q .next s₂ → UnrEnd h₀ env.locals { s with heap := h, toks := tk } I it (fun m' n' => (l, listOf vs.toArray nn) ∈ n' ∧ ListRest prog w A E h₀ env x body Q s I (l, listOf vs.toArray nn) r m' n') s₂ :=
      fun ⟨h', tk', m', nx', e, F', N', ne, q⟩ => ⟨h', tk', m', nx', e, F', N', ne, hJl _ _ _ q, left_list J hJl turn done r (i + 1) m' nx' hr hi q ne⟩
    match f, p with
    | .ret _, p | .brk, p => exact p
    | .next, p | .cont, p => exact again p

/-- a loop over a list of the ledger, its items any values -/
theorem iter_list {l : Addr} {vs : List Value} {nn : Nat} {m₀ : Str → Option Value} {news : List (Addr × Obj)} (J : Nat → (Str → Option Value) → List (Addr × Obj) → Prop)
    (hh : A.handled = none) (hJl : ∀ i m nx, J i m nx → (l, listOf vs.toArray nn) ∈ nx) (F : Fr h₀ env.locals s.heap m₀) (N : News h₀ env.locals s.heap news) (hj : J 0 m₀ news)
    (turn : ∀ i v m₁ news₁ h tk I oI, vs[i]? = some v → J i m₁ news₁ → (∀ p ∈ news₁, p.1 ≠ I) → Fr h₀ env.locals h (fun y => if y = x then some v else m₁ y) → News h₀ env.locals h ((I, oI) :: news₁) →
      wpAny (model prog w) A (execs body env) (TurnP h₀ env.locals (J (i + 1)) I oI { s with heap := h, toks := tk } Q) E { s with heap := h, toks := tk })
    (done : ∀ m₁ news₁ h tk, J vs.length m₁ news₁ → Fr h₀ env.locals h m₁ → News h₀ env.locals h news₁ → Q .next { s with heap := h, toks := tk }) :
    wpAny (model prog w) A (pyIter (.ref l)) (fun it s₂ => LoopAtV prog w A h₀ env x body Q E it s₂) E s :=
  iter_listUnr hh F N (hJl 0 _ _ hj) rfl rfl fun _ hI => left_list J hJl turn done vs 0 m₀ news rfl (Nat.zero_le _) hj fun p hp => Nat.ne_of_lt (hI p hp)

/-- what is left of a loop over a range, out of an invariant -/
theorem left_range {I : Addr} {a₀ c₀ : Int} {n : Nat} (J : Nat → (Str → Option Value) → List (Addr × Obj) → Prop)
    (turn : ∀ i t m₁ news₁ h tk I oI, i < n → J i m₁ news₁ → (∀ p ∈ news₁, p.1 ≠ I) → Fr h₀ env.locals h (fun y => if y = x then some (.int (a₀ + i * c₀) t) else m₁ y) → News h₀ env.locals h ((I, oI) :: news₁) →
      wpAny (model prog w) A (execs body env) (TurnP h₀ env.locals (J (i + 1)) I oI { s with heap := h, toks := tk } Q) E { s with heap := h, toks := tk })
    (done : ∀ m₁ news₁ h tk, J n m₁ news₁ → Fr h₀ env.locals h m₁ → News h₀ env.locals h news₁ → Q .next { s with heap := h, toks := tk }) :
    ∀ (k i : Nat) (m : Str → Option Value) (nx : List (Addr × Obj)), i + k = n → J i m nx → (∀ p ∈ nx, p.1 ≠ I) → KrsRest prog w A E h₀ env x body Q s I a₀ c₀ n k i m nx
  | 0, i, m, nx, e, hJ, _ => .zero fun h tk => done m nx h tk (e ▸ hJ)
  | k + 1, i, m, nx, e, hJ, hI => by
    have hi : i < n := e ▸ Nat.lt_add_of_pos_right (Nat.succ_pos k)
    refine .succ rfl fun t h tk F N => wpAny_mono (turn i t m nx h tk I _ hi hJ hI F N) (fun f s₂ p => ?_) fun _ _ e => e
    have again : ∀ oI, TurnP h₀ env.locals (J (i + 1)) I oI { s with heap := h, toks := tk } Q .next s₂ → UnrEnd h₀ env.locals { s with heap := h, toks := tk } I oI (KrsRest prog w A E h₀ env x body Q s I a₀ c₀ n k (i + 1)) s₂ :=
      fun _ ⟨h', tk', m', nx', e', F', N', ne, q⟩ => ⟨h', tk', m', nx', e', F', N', ne, left_range J turn done k (i + 1) m' nx' ((Nat.add_right_comm i 1 k).trans e) q ne⟩
    match f, p with
    | .ret _, p | .brk, p => exact p
    | .next, p | .cont, p => exact again _ p

/-- a loop over a range -/
theorem iter_range {r : Addr} {a₀ b₀ c₀ : Int} {t₀ u₀ v₀ : Tok} {n : Nat} {m₀ : Str → Option Value} {news : List (Addr × Obj)} (J : Nat → (Str → Option Value) → List (Addr × Obj) → Prop)
    (hh : A.handled = none) (hr : IsRange s.heap r a₀ b₀ c₀ t₀ u₀ v₀) (hsmall : Builtin.Range.small a₀ b₀ c₀ = true) (hn : Builtin.Range.rangeSize a₀ b₀ c₀ = (n : Int))
    (F : Fr h₀ env.locals s.heap m₀) (N : News h₀ env.locals s.heap news) (hj : J 0 m₀ news)
    (turn : ∀ i t m₁ news₁ h tk I oI, i < n → J i m₁ news₁ → (∀ p ∈ news₁, p.1 ≠ I) → Fr h₀ env.locals h (fun y => if y = x then some (.int (a₀ + i * c₀) t) else m₁ y) → News h₀ env.locals h ((I, oI) :: news₁) →
      wpAny (model prog w) A (execs body env) (TurnP h₀ env.locals (J (i + 1)) I oI { s with heap := h, toks := tk } Q) E { s with heap := h, toks := tk })
    (done : ∀ m₁ news₁ h tk, J n m₁ news₁ → Fr h₀ env.locals h m₁ → News h₀ env.locals h news₁ → Q .next { s with heap := h, toks := tk }) :
    wpAny (model prog w) A (pyIter (.ref r)) (fun it s₂ => LoopAtV prog w A h₀ env x body Q E it s₂) E s :=
  krs_iter hh hr hsmall hn F N fun _ hI => left_range J turn done n 0 m₀ news (Nat.zero_add n) hj fun p hp => Nat.ne_of_lt (hI p hp)
end

theorem append_L {prog : Program} {w : World} {A : Around} {E : Value → Shared → Prop} {s : Shared} {h₀ : Heap} {L D : Addr} {m : Str → Option Value} {news news' : List (Addr × Obj)} {us : List Value} {n : Nat} {x : Value} {Q : Value → Shared → Prop}
    (F : Fr h₀ L s.heap m) (N : News h₀ L s.heap news) (U : Upd D (listOf us.toArray n) (listOf (us ++ [x]).toArray (n + 1)) news news') (hsz : us.length ≤ 100000)
    (h : ∀ h', Fr h₀ L h' m → News h₀ L h' news' → Q .none { s with heap := h' }) : wpAny (model prog w) A (call (.builtin "list.append") [.ref D, x]) Q E s := by
  refine append_K F N (by rw [List.push_toArray]; exact U) h ?_
  rw [List.size_toArray, sizeLine_eq]
  omega
theorem forNews {news : List (Addr × Obj)} {R : Addr} (h : ∀ p ∈ news, p.1 < R) : ∀ p ∈ news, p.1 ≠ R := fun p hp => Nat.ne_of_lt (h p hp)

theorem while_next {h₀ : Heap} {L : Addr} {s : Shared} {J : Nat → (Str → Option Value) → List (Addr × Obj) → Prop} {Q : Flow → Shared → Prop} {n n' : Nat} {h' : Heap} {tk : Nat} {m' : Str → Option Value} {nx : List (Addr × Obj)}
    (F : Fr h₀ L h' m') (N : News h₀ L h' nx) (hn : n' < n) (hJ : J n' m' nx) : WhileStep2 h₀ L s J Q n .next { s with heap := h', toks := tk } := ⟨h', tk, m', nx, n', rfl, F, N, hn, hJ⟩

/-- a cut in a body: what holds between two statements -/
def Mid (g : Heap) (L : Addr) (s₀ : Shared) (P : Flow → (Str → Option Value) → List (Addr × Obj) → Prop) (fl : Flow) (s' : Shared) : Prop :=
  ∃ h tk m' nw, s' = { s₀ with heap := h, toks := tk } ∧ Fr g L h m' ∧ News g L h nw ∧ P fl m' nw
theorem Mid.at {g : Heap} {L : Addr} {s₀ : Shared} {P : Flow → (Str → Option Value) → List (Addr × Obj) → Prop} {fl : Flow} {h : Heap} {tk : Nat} {m' : Str → Option Value} {nw all : List (Addr × Obj)}
    (F : Fr g L h m') (N : News g L h all) (hs : ∀ p ∈ nw, p ∈ all) (hP : P fl m' nw) : Mid g L s₀ P fl { s₀ with heap := h, toks := tk } := ⟨h, tk, m', nw, rfl, F, News.sub N hs, hP⟩
/-- the number that a row of digits of f bits spells -/
def cbV (f : Nat) (xs : List Int) : Int := xs.foldl (fun V v => V * 2 ^ f + v) 0
/-- the first k groups of t bits of a number of N bits -/
def cbG (V : Int) (N t k : Nat) : List Int := (List.range k).map fun j => V / 2 ^ (N - t * (j + 1)) % 2 ^ t

theorem cbV_snoc (f : Nat) (xs : List Int) (v : Int) : cbV f (xs ++ [v]) = cbV f xs * 2 ^ f + v := by
  unfold cbV; rw [List.foldl_append]; rfl

theorem p2pos (k : Nat) : (0 : Int) < 2 ^ k := kbt_pos k

theorem p2add (a b : Nat) : (2 : Int) ^ (a + b) = 2 ^ a * 2 ^ b := Int.pow_add ..

theorem shift_div (V v : Int) (f e : Nat) (h0 : 0 ≤ v) (h1 : v < 2 ^ f) : (V * 2 ^ f + v) / 2 ^ (f + e) = V / 2 ^ e := by
  rw [p2add, ← Int.ediv_ediv_of_nonneg (Int.le_of_lt (p2pos f)), Int.add_comm, Int.add_mul_ediv_right _ _ (Int.ne_of_gt (p2pos f)), Int.ediv_eq_zero_of_lt h0 h1, Int.zero_add]

theorem cbG_shift {V v : Int} {N f t k : Nat} (h0 : 0 ≤ v) (h1 : v < 2 ^ f) (hk : t * k ≤ N) : cbG (V * 2 ^ f + v) (N + f) t k = cbG V N t k := by
  unfold cbG
  refine List.map_congr_left fun j hj => ?_
  have hj' : j < k := List.mem_range.mp hj
  have h2 : t * (j + 1) ≤ t * k := Nat.mul_le_mul_left _ hj'
  have h3 : N + f - t * (j + 1) = f + (N - t * (j + 1)) := by omega
  rw [h3, shift_div _ _ _ _ h0 h1]

theorem cbG_succ (V : Int) (N t k : Nat) : cbG V N t (k + 1) = cbG V N t k ++ [V / 2 ^ (N - t * (k + 1)) % 2 ^ t] := by
  unfold cbG
  rw [List.range_succ, List.map_append]; rfl

theorem mod_mul_div (V : Int) {B C : Int} (hB : 0 < B) (hC : 0 < C) : V % (B * C) / B = V / B % C := by
  have h1 := Int.emod_nonneg V (Int.ne_of_gt hB)
  have h2 := Int.emod_lt_of_pos V hB
  have h3 := Int.mul_ediv_add_emod V B
  have h4 := Int.emod_nonneg (V / B) (Int.ne_of_gt hC)
  have h5 := Int.emod_lt_of_pos (V / B) hC
  have h6 := Int.mul_ediv_add_emod (V / B) C
  have h7 : V % (B * C) = V / B % C * B + V % B := by
    refine (kbt_unique (q := V / B / C) (Int.mul_pos hB hC) ?_ ?_ ?_).2
    · have e : B * C * (V / B / C) = B * (C * (V / B / C)) := Int.mul_assoc ..
      rw [e, show C * (V / B / C) = V / B - V / B % C by omega, Int.mul_sub, Int.mul_comm (V / B % C) B]
      omega
    · have := Int.mul_nonneg h4 (Int.le_of_lt hB); omega
    · have : (V / B % C + 1) * B ≤ C * B := Int.mul_le_mul_of_nonneg_right h5 (Int.le_of_lt hB)
      rw [Int.add_mul, Int.one_mul, Int.mul_comm C B] at this
      omega
  rw [h7, Int.add_comm, Int.add_mul_ediv_right _ _ (Int.ne_of_gt hB), Int.ediv_eq_zero_of_lt h1 h2, Int.zero_add]

theorem mod_div_mod (V : Int) {M b t : Nat} (h : b + t ≤ M) : V % 2 ^ M / 2 ^ b % 2 ^ t = V / 2 ^ b % 2 ^ t := by
  obtain ⟨r, rfl⟩ : ∃ r, M = b + (t + r) := ⟨M - b - t, by omega⟩
  rw [p2add b (t + r), mod_mul_div _ (p2pos b) (p2pos (t + r)), p2add t r, Int.emod_emod_of_dvd _ ⟨2 ^ r, rfl⟩]

theorem cbV_nonneg {f : Nat} : ∀ xs : List Int, (∀ v ∈ xs, 0 ≤ v) → 0 ≤ cbV f xs := by
  intro xs h
  suffices H : ∀ (V : Int), 0 ≤ V → 0 ≤ xs.foldl (fun V v => V * 2 ^ f + v) V by exact H 0 (Int.le_refl _)
  induction xs with
  | nil => intro V hV; exact hV
  | cons x r ih =>
    intro V hV
    rw [List.foldl_cons]
    refine ih (fun v hv => h v (.tail _ hv)) _ ?_
    have := Int.mul_nonneg hV (Int.le_of_lt (p2pos f))
    have := h x (.head _)
    omega

/-- what comes of a row of digits -/
def convOut (f t : Nat) (pad : Bool) (ns : List Int) : Option (List Int) :=
  if ∀ v ∈ ns, 0 ≤ v ∧ v < 2 ^ f then
    let V := cbV f ns
    let N := f * ns.length
    let base := cbG V N t (N / t)
    let r := N % t
    if pad = true then (if r = 0 then some base else some (base ++ [V % 2 ^ r * 2 ^ (t - r)]))
    else if f ≤ r ∨ V % 2 ^ r ≠ 0 then none else some base
  else none

theorem nat_and_zero (a : Nat) {v f : Nat} (h : v < 2 ^ f) : (a * 2 ^ f) &&& v = 0 := by
  refine Nat.eq_of_testBit_eq fun i => ?_
  rw [Nat.testBit_and, Nat.zero_testBit, Nat.testBit_mul_two_pow]
  by_cases hi : f ≤ i
  · have : v < 2 ^ i := Nat.lt_of_lt_of_le h (Nat.pow_le_pow_right (by decide) hi)
    rw [Nat.testBit_lt_two_pow this, Bool.and_false]
  · simp [hi]

theorem bitOr_add {a v : Int} {f : Nat} (ha : 0 ≤ a) (h0 : 0 ≤ v) (h1 : v < 2 ^ f) : Builtin.bitOr (a * 2 ^ f) v = a * 2 ^ f + v := by
  rw [bitOr_and]
  have hz : Builtin.bitAnd (a * 2 ^ f) v = 0 := by
    have hp := p2pos f
    have hm : 0 ≤ a * 2 ^ f := Int.mul_nonneg ha (Int.le_of_lt hp)
    have e : (a * 2 ^ f).toNat = a.toNat * 2 ^ f := by
      have := kbt_cast f
      have h3 : ((a.toNat * 2 ^ f : Nat) : Int) = a * 2 ^ f := by rw [Int.natCast_mul, kbt_cast, Int.toNat_of_nonneg ha]
      omega
    have hv : v.toNat < 2 ^ f := by
      have := kbt_cast f
      omega
    rw [bitAnd_pp hm h0, e, nat_and_zero _ hv]; rfl
  rw [hz]; omega

theorem p2mono {a b : Nat} (h : a ≤ b) : (2 : Int) ^ a ≤ 2 ^ b := by
  have := Nat.pow_le_pow_right (n := 2) (by decide) h
  have e1 := kbt_cast a
  have e2 := kbt_cast b
  omega

theorem acc_step {V v : Int} {f M : Nat} (h0 : 0 ≤ V % 2 ^ M) (hv : 0 ≤ v) (hv' : v < 2 ^ f) :
    Builtin.bitAnd (Builtin.bitOr (V % 2 ^ M * 2 ^ f) v) (1 * 2 ^ M - 1) = (V * 2 ^ f + v) % 2 ^ M := by
  rw [bitOr_add h0 hv hv', Int.one_mul, kbt_mask]
  rw [Int.add_emod, Int.mul_emod, Int.emod_emod, ← Int.mul_emod, ← Int.add_emod]

theorem convOut_bad {f t : Nat} {pad : Bool} {ns : List Int} {v : Int} (hm : v ∈ ns) (hv : ¬ (0 ≤ v ∧ v < 2 ^ f)) : convOut f t pad ns = none := by
  unfold convOut
  rw [if_neg fun h => hv (h v hm)]

theorem fdiv_ne {n : Int} {f : Nat} (h : 0 ≤ n) : n.fdiv (2 ^ f) ≠ 0 ↔ ¬ n < 2 ^ f := by
  rw [Int.fdiv_eq_ediv_of_nonneg _ (Int.le_of_lt (p2pos f))]
  constructor
  · intro h1 h2
    exact h1 (Int.ediv_eq_zero_of_lt h h2)
  · intro h1 h2
    have h3 := Int.emod_lt_of_pos n (p2pos f)
    have h4 := Int.mul_ediv_add_emod n (2 ^ f)
    rw [h2, Int.mul_zero] at h4
    omega

theorem grp_step {V : Int} {f t M b : Nat} (h : b + t ≤ M) : Builtin.bitAnd ((V % 2 ^ M).fdiv (2 ^ b)) (1 * 2 ^ t - 1) = V / 2 ^ b % 2 ^ t := by
  rw [Int.fdiv_eq_ediv_of_nonneg _ (Int.le_of_lt (p2pos b)), Int.one_mul, kbt_mask, mod_div_mod V h]

theorem pad_val {V : Int} {M r t : Nat} (hr : r < t) (hM : r ≤ M) : Builtin.bitAnd (V % 2 ^ M * 2 ^ ((t : Int) - (r : Nat)).toNat) (1 * 2 ^ t - 1) = V % 2 ^ r * 2 ^ (t - r) := by
  have e : ((t : Int) - (r : Nat)).toNat = t - r := Int.toNat_sub t r
  obtain ⟨d, rfl⟩ : ∃ d, t = d + r := ⟨t - r, (Nat.sub_add_cancel (Nat.le_of_lt hr)).symm⟩
  obtain ⟨k, rfl⟩ : ∃ k, M = r + k := ⟨M - r, (Nat.add_sub_cancel' hM).symm⟩
  have e2 : d + r - r = d := Nat.add_sub_cancel d r
  rw [e, Int.one_mul, kbt_mask, e2, Int.mul_comm, p2add d r, Int.mul_emod_mul_of_pos _ _ (p2pos d), p2add r k, Int.emod_emod_of_dvd _ ⟨2 ^ k, rfl⟩, Int.mul_comm]

theorem pad_zero {V : Int} {r d : Nat} : V % 2 ^ r * 2 ^ d = 0 ↔ V % 2 ^ r = 0 := by
  constructor
  · intro h
    rcases Int.mul_eq_zero.mp h with h | h
    · exact h
    · exact absurd h (Int.ne_of_gt (p2pos d))
  · intro h; rw [h, Int.zero_mul]

theorem convOut_good {f t : Nat} {pad : Bool} {ns : List Int} (h : ∀ v ∈ ns, 0 ≤ v ∧ v < 2 ^ f) : convOut f t pad ns =
    if pad = true then (if f * ns.length % t = 0 then some (cbG (cbV f ns) (f * ns.length) t (f * ns.length / t)) else some (cbG (cbV f ns) (f * ns.length) t (f * ns.length / t) ++ [cbV f ns % 2 ^ (f * ns.length % t) * 2 ^ (t - f * ns.length % t)]))
    else if f ≤ f * ns.length % t ∨ cbV f ns % 2 ^ (f * ns.length % t) ≠ 0 then none else some (cbG (cbV f ns) (f * ns.length) t (f * ns.length / t)) := by
  unfold convOut
  rw [if_pos h]

/-- the places of a value's bits, the highest first -/
def bitPlaces (f : Nat) : List Int := (List.range f).map fun (i : Nat) => (f : Int) - 1 + (i : Int) * (-1)
/-- the bits of a row of values, as the law reckons them -/
def bitsOf (f : Nat) (ns : List Int) : List Int := ns.flatMap fun a => (bitPlaces f).map fun z => (a.fdiv (2 ^ z.toNat)).fmod 2

theorem bitPlaces_length (f : Nat) : (bitPlaces f).length = f := by simp [bitPlaces]
theorem bitsOf_length (f : Nat) : ∀ ns : List Int, (bitsOf f ns).length = f * ns.length
  | [] => by simp [bitsOf]
  | a :: r => by
    have ih := bitsOf_length f r
    unfold bitsOf at *
    rw [List.flatMap_cons, List.length_append, ih, List.length_map, bitPlaces_length, List.length_cons, Nat.mul_succ]
    omega
theorem g_sub {A B C t : Nat} (e : C = B + t) (h : (t : Int) ≤ ((A - B : Nat) : Int)) : ((A - B : Nat) : Int) - (t : Int) = ((A - C : Nat) : Int) := by
  subst e
  omega
theorem g_le {A B C t : Nat} (e : C = B + t) (h1 : B ≤ A) (h : (t : Int) ≤ ((A - B : Nat) : Int)) : C ≤ A := by
  subst e
  omega
theorem g_lt {A B C t : Nat} (e : C = B + t) (ht : 0 < t) (h : (t : Int) ≤ ((A - B : Nat) : Int)) : A - C < A - B := by
  subst e
  omega
theorem g_bd {A B C t f : Nat} (e : C = B + t) (h : A - B < t + f) : A - C < t + f :=
  Nat.lt_of_le_of_lt (Nat.sub_le_sub_left (e ▸ Nat.le_add_right B t) A) h
theorem g_in {A B C t f : Nat} (e : C = B + t) (h2 : A - B < t + f) (h : (t : Int) ≤ ((A - B : Nat) : Int)) : A - C + t ≤ f + t - 1 := by
  subst e
  omega
theorem i_in {D R M N f : Nat} (hdm : D + R = M) (hfi : N = M + f) : D ≤ N := by
  subst hdm hfi
  omega
theorem i_bd {D R M N t f : Nat} (hdm : D + R = M) (hml : R < t) (hfi : N = M + f) : N - D < t + f := by
  subst hdm hfi
  omega
theorem i_eq {D R M N f : Nat} (hdm : D + R = M) (hfi : N = M + f) : (R : Int) + (f : Int) = ((N - D : Nat) : Int) := by
  subst hdm hfi
  omega
theorem i_k {A B D R : Nat} (h : D + R = A) (e : A - B = R) (h1 : B ≤ A) : B = D := by omega
theorem r_in {R t f : Nat} (h : R < t) (hf : 0 < f) : R ≤ f + t - 1 := by omega
theorem ft_int {f t : Nat} (h : 0 < f) : (f : Int) + (t : Int) - 1 = ((f + t - 1 : Nat) : Int) := by omega
theorem ft_23 {f t : Nat} (hf : f ≤ 12) (ht : t ≤ 12) : f + t - 1 ≤ 23 := Nat.le_trans (Nat.sub_le_sub_right (Nat.add_le_add hf ht) 1) (by decide)
theorem abs_64 {a : Int} (h0 : 0 ≤ a) (h1 : a < 2 ^ 23) : a.natAbs < 2 ^ 64 := by omega
set_option maxHeartbeats 4000000 in
theorem conv_ok {w : World} {l : Addr} {vs : List Value} {c f t : Nat} {tf tt : Tok} {ns : List Int} {news : List (Addr × Obj)} (hI : IntsAre vs ns) (hlen : ns.length < 1000) (hl : (l, listOf vs.toArray c) ∈ news)
   (hf : 0 < f) (hf' : f ≤ 12) (ht : 0 < t) (ht' : t ≤ 12) (pad : Bool) {args : List Value} (hargs : args = [.ref l, .int f tf, .int t tt, .bool pad] ∨ (args = [.ref l, .int f tf, .int t tt] ∧ pad = true)) :
    CallOk w 2 70 args news
      (fun v news' => (convOut f t pad ns = none ∧ v = .none ∧ news' = news) ∨ (∃ D us c' r, convOut f t pad ns = some r ∧ v = .ref D ∧ IntsAre us r ∧ (∀ p ∈ news, p.1 < D) ∧ news' = (D, listOf us.toArray c') :: news)) := by
  refine hideRet fun Ret hRet => ?_
  refine' callOk_intro (k := 1) [(Str.ofString "data", .ref l), (Str.ofString "frombits", .int f tf), (Str.ofString "tobits", .int t tt), (Str.ofString "pad", .bool pad)]
    (fun y => if y = Str.ofString "pad" then some (.bool pad) else if y = Str.ofString "tobits" then some (.int t tt) else if y = Str.ofString "frombits" then some (.int f tf) else if y = Str.ofString "data" then some (.ref l) else none)
    ?ho ?hcd ?hbind ?hloc ?hm ?h ?c2 ?c3 ?c4 ?c5
  (case ho => k_dflt k_is); (case hcd => k_dflt k_is)
  case hbind =>
    rcases hargs with rfl | ⟨rfl, rfl⟩
    · exact fun _ hX => binds_K hX rfl (by k_dflt k_is) rfl rfl rfl
    · exact fun _ hX => binds_K hX rfl (by k_dflt k_is) rfl rfl rfl
  (case c5 => decide); (case hloc => exact locs rfl); (case hm => exact fun _ => rfl); (case c2 => rfl); (case c3 => rfl); (case c4 => rfl)
  intro mean mg mb dp un gd outer A₀ base g L' h₁ tk s₀ B F X N T hdp hu
  have RM : Room dp un 1 := ⟨hdp, hu⟩
  clear hdp hu
  walk_at "my steps"
  rename Fr _ _ _ _ => F1
  rename News _ _ _ _ => N1
  rename ∀ p ∈ news, _ => l1
  obtain ⟨R, hR, l1⟩ := named (P := fun R => ∀ p ∈ news, p.1 < R) l1
  subst hR
  refine For_invVF F1 rfl rfl ?_
  refine ld F1 rfl ?_
  obtain ⟨J, hJ⟩ : ∃ J : Nat → (Str → Option Value) → List (Addr × Obj) → Prop, ∀ i m nx, J i m nx ↔ ((∀ v ∈ ns.take i, 0 ≤ v ∧ v < 2 ^ f) ∧ (∃ ta, m (Str.ofString "acc") = some (.int (cbV f (ns.take i) % 2 ^ (f + t - 1)) ta)) ∧ (∃ tb, m (Str.ofString "bits") = some (.int ((f * i % t : Nat) : Int) tb)) ∧ m (Str.ofString "ret") = some (.ref R) ∧
    (∃ tm, m (Str.ofString "maxv") = some (.int (1 * 2 ^ t - 1) tm)) ∧ (∃ tm, m (Str.ofString "max_acc") = some (.int (1 * 2 ^ (f + t - 1) - 1) tm)) ∧ m (Str.ofString "tobits") = some (.int t tt) ∧ m (Str.ofString "frombits") = some (.int f tf) ∧ m (Str.ofString "pad") = some (.bool pad) ∧
    (∃ us c', IntsAre us (cbG (cbV f (ns.take i)) (f * i) t (f * i / t)) ∧ nx = (R, listOf us.toArray c') :: news)) := ⟨_, fun _ _ _ => Iff.rfl⟩
  refine iter_list (x := Str.ofString "value") (vs := vs) (nn := c) J rfl ?hJl F1 N1 ?hj ?turn ?done
  case hJl =>
    intro i m nx hj
    obtain ⟨_, _, _, _, _, _, _, _, _, us, c', _, rfl⟩ := (hJ _ _ _).mp hj
    exact .tail _ hl
  case hj =>
    refine (hJ _ _ _).mpr ⟨by simp, some_int rfl (by simp [cbV]), some_int rfl (by simp), rfl, some_int rfl (by simp), some_int rfl (by rw [ft_int hf]; rfl), rfl, rfl, rfl, [], 0, ?_, rfl⟩
    simp only [Nat.mul_zero, Nat.zero_div]
    exact .nil
  case turn =>
    intro i v m₁ news₁ h tk I oI hv hjj hoff F N
    obtain ⟨hval, ⟨ta, ha⟩, ⟨tb, hb⟩, hr, ⟨t1, hm1⟩, ⟨t2, hm2⟩, htt, hft, hpp, us, c', hus, rfl⟩ := (hJ _ _ _).mp hjj
    obtain ⟨n, tn, rfl, hn⟩ := IntsAre.at hI i v hv
    have hB0 := Int.emod_nonneg (cbV f (ns.take i)) (Int.ne_of_gt (p2pos (f + t - 1)))
    have hB1 : cbV f (ns.take i) % 2 ^ (f + t - 1) < 2 ^ 23 := Int.lt_of_lt_of_le (Int.emod_lt_of_pos _ (p2pos (f + t - 1))) (p2mono (ft_23 hf' ht'))
    have hB : (cbV f (ns.take i) % 2 ^ (f + t - 1)).natAbs < 2 ^ 64 := abs_64 hB0 hB1
    have hmem : n ∈ ns := List.mem_of_getElem? hn
    have hRI : @Ne Nat R I := hoff _ (.head _)
    have hnI : ∀ p ∈ news, p.1 ≠ I := fun p hp => hoff p (.tail _ hp)
    have hnR : ∀ p ∈ news, p.1 ≠ R := fun p hp => Nat.ne_of_lt (l1 p hp)
    walk_at "my steps"
    · rename Fr _ _ _ _ => F2
      rename News _ _ _ _ => N2
      rename n < 0 => hn0
      refine TurnP.ret ?_
      dsimp only
      exact Bk.ret F2 (News.sub N2 fun p hp => .tail _ (.tail _ hp)) (hRet _ _ (.inl ⟨convOut_bad hmem (fun q => absurd q.1 (Int.not_le.mpr hn0)), rfl, rfl⟩))
    · rename Fr _ _ _ _ => F2
      rename News _ _ _ _ => N2
      rename ¬ n < 0 => hn0
      rename Int.fdiv _ _ ≠ 0 => hn1
      refine TurnP.ret ?_
      dsimp only
      exact Bk.ret F2 (News.sub N2 fun p hp => .tail _ (.tail _ hp)) (hRet _ _ (.inl ⟨convOut_bad hmem (fun h => (fdiv_ne (Int.not_lt.mp hn0)).mp hn1 h.2), rfl, rfl⟩))
    rename Fr _ _ _ _ => F2
    rename News _ _ _ _ => N2
    rename ¬ n < 0 => hn0
    rename Int.fdiv _ _ = 0 => hn1
    have hn2 : n < 2 ^ f := Decidable.byContradiction fun h => (fdiv_ne (n := n) (f := f) (Int.not_lt.mp hn0)).mpr h hn1
    have htake : ns.take (i + 1) = ns.take i ++ [n] := by rw [List.take_add_one, hn]; rfl
    have hV : cbV f (ns.take (i + 1)) = cbV f (ns.take i) * 2 ^ f + n := by rw [htake, cbV_snoc]
    have hval' : ∀ v ∈ ns.take (i + 1), 0 ≤ v ∧ v < 2 ^ f := by
      intro v hv
      rw [htake] at hv
      rcases List.mem_append.mp hv with h | h
      · exact hval v h
      · rw [List.mem_singleton.mp h]; exact ⟨Int.not_lt.mp hn0, hn2⟩
    have hdm := Nat.div_add_mod (f * i) t
    have hml := Nat.mod_lt (f * i) ht
    have hfi : f * (i + 1) = f * i + f := Nat.mul_succ f i
    obtain ⟨W, hW⟩ : ∃ W : Nat → (Str → Option Value) → List (Addr × Obj) → Prop, ∀ n m nx, W n m nx ↔ (∃ k us c', t * k ≤ f * (i + 1) ∧ n = f * (i + 1) - t * k ∧ f * (i + 1) - t * k < t + f ∧ (∃ ta, m (Str.ofString "acc") = some (.int (cbV f (ns.take (i + 1)) % 2 ^ (f + t - 1)) ta)) ∧
      (∃ tb, m (Str.ofString "bits") = some (.int ((f * (i + 1) - t * k : Nat) : Int) tb)) ∧ m (Str.ofString "ret") = some (.ref R) ∧
      (∃ tm, m (Str.ofString "maxv") = some (.int (1 * 2 ^ t - 1) tm)) ∧ (∃ tm, m (Str.ofString "max_acc") = some (.int (1 * 2 ^ (f + t - 1) - 1) tm)) ∧ m (Str.ofString "tobits") = some (.int t tt) ∧ m (Str.ofString "frombits") = some (.int f tf) ∧ m (Str.ofString "pad") = some (.bool pad) ∧
      IntsAre us (cbG (cbV f (ns.take (i + 1))) (f * (i + 1)) t k) ∧ nx = (I, oI) :: (R, listOf us.toArray c') :: news) := ⟨_, fun _ _ _ => Iff.rfl⟩
    refine While_inv2 W F2 N2
      ((hW _ _ _).mpr ⟨f * i / t, us, c', i_in hdm hfi, rfl, i_bd hdm hml hfi, some_int rfl (by rw [Int.toNat_natCast, acc_step hB0 (Int.not_lt.mp hn0) hn2, hV]), some_int rfl (i_eq hdm hfi), hr, ⟨t1, hm1⟩, ⟨t2, hm2⟩, htt, hft, hpp,
        by rw [hV, hfi, cbG_shift (Int.not_lt.mp hn0) hn2 (Nat.mul_div_le _ _)]; exact hus, rfl⟩) ?wturn
    case wturn =>
      intro n2 m₂ nx₂ h₂ tk₂ F3 N3 hww
      obtain ⟨k, us₂, c₂, hk1, rfl, hk2, ⟨ta₂, ha₂⟩, ⟨tb₂, hb₂⟩, hr₂, ⟨t3, hm3⟩, ⟨t4, hm4⟩, htt₂, hft₂, hpp₂, hus₂, rfl⟩ := (hW _ _ _).mp hww
      clear F2 N2 hdm hml hfi hB0 hB1 hB hn0 hV
      walk_at "my steps"
      · rename Fr _ _ _ _ => F4
        rename News _ _ _ _ => N4
        rename (t : Int) ≤ _ => hge
        have hlen₂ := hus₂.length
        simp only [cbG, List.length_map, List.length_range] at hlen₂
        have hkk : k ≤ t * k := Nat.le_mul_of_pos_left k ht
        have hi1 : i < ns.length := (List.getElem?_eq_some_iff.mp hn).1
        have hfl : f * (i + 1) ≤ 12 * 1000 := Nat.mul_le_mul hf' (Nat.le_trans hi1 (Nat.le_of_lt hlen))
        have htk : t * (k + 1) = t * k + t := Nat.mul_succ t k
        refine append_L F4 N4 (Upd.tail (fun e => hRI e.symm) (Upd.head hnR)) (Nat.le_trans (Nat.le_of_eq hlen₂) (Nat.le_trans hkk (Nat.le_trans hk1 (Nat.le_trans hfl (by decide))))) ?_
        intro h5 F5 N5
        replace htk : id (t * (k + 1) = t * k + t) := htk
        clear hkk hfl hlen₂
        walk_at "my steps"
        have hb3 : ((f * (i + 1) - t * k : Nat) : Int) - (t : Int) = ((f * (i + 1) - t * (k + 1) : Nat) : Int) := g_sub htk hge
        refine while_next (n' := f * (i + 1) - t * (k + 1)) F5 N5 (g_lt htk ht hge) ((hW _ _ _).mpr ⟨k + 1, _, _, g_le htk hk1 hge, rfl, g_bd htk hk2, ⟨_, ha₂⟩, some_int rfl hb3, hr₂, ⟨_, hm3⟩, ⟨_, hm4⟩, htt₂, hft₂, hpp₂, ?_, rfl⟩)
        rw [cbG_succ]
        refine IntsAre.append hus₂ ?_
        rw [hb3, Int.toNat_natCast, grp_step (g_in htk hk2 hge)]
        exact .cons _ _ .nil
        exact 0
      · rename Fr _ _ _ _ => F4
        rename News _ _ _ _ => N4
        rename ¬ (t : Int) ≤ _ => hlt
        have e1 : f * (i + 1) - t * k = f * (i + 1) % t := by
          have h2 : (f * (i + 1) - t * k + t * k) % t = (f * (i + 1) - t * k) % t := Nat.add_mul_mod_self_left _ _ _
          rw [Nat.mod_eq_of_lt (a := f * (i + 1) - t * k) (Nat.lt_of_not_le fun q => hlt (Int.ofNat_le.mpr q)), Nat.sub_add_cancel hk1] at h2
          exact h2.symm
        have e2 : k = f * (i + 1) / t := by
          exact Nat.eq_of_mul_eq_mul_left ht (i_k (Nat.div_add_mod (f * (i + 1)) t) e1 hk1)
        subst e2
        exact TurnP.next F4 N4 (fun p hp => hp) (by
          intro p hp
          rcases List.mem_cons.mp hp with rfl | hp
          · exact hRI
          · exact hnI p hp) ((hJ _ _ _).mpr ⟨hval', ⟨_, ha₂⟩, some_int hb₂ (by rw [e1]), hr₂, ⟨_, hm3⟩, ⟨_, hm4⟩, htt₂, hft₂, hpp₂, _, _, hus₂, rfl⟩)
  case done =>
    intro m₁ nx h tk hjj F N
    obtain ⟨hval, ⟨ta, ha⟩, ⟨tb, hb⟩, hr, ⟨t1, hm1⟩, ⟨t2, hm2⟩, htt, hft, hpp, us, c', hus, rfl⟩ := (hJ _ _ _).mp hjj
    rw [hI.length, List.take_length] at *
    have hml := Nat.mod_lt (f * ns.length) ht
    have hB0 := Int.emod_nonneg (cbV f ns) (Int.ne_of_gt (p2pos (f + t - 1)))
    have hB1 : cbV f ns % 2 ^ (f + t - 1) < 2 ^ 23 := Int.lt_of_lt_of_le (Int.emod_lt_of_pos _ (p2pos (f + t - 1))) (p2mono (ft_23 hf' ht'))
    have hB : (cbV f ns % 2 ^ (f + t - 1)).natAbs < 2 ^ 64 := abs_64 hB0 hB1
    have hnR : ∀ p ∈ news, p.1 ≠ R := forNews l1
    walk_at "my steps"
    · rename Fr _ _ _ _ => F
      rename (_ : Int) ≠ 0 => hne
      have hlen₂ := hus.length
      simp only [cbG, List.length_map, List.length_range] at hlen₂
      have hfl : f * ns.length ≤ 12 * 1000 := Nat.mul_le_mul hf' (Nat.le_of_lt hlen)
      have hdl : f * ns.length / t ≤ f * ns.length := Nat.div_le_self _ _
      refine append_L F N (Upd.head hnR) (Nat.le_trans (Nat.le_of_eq hlen₂) (Nat.le_trans hdl (Nat.le_trans hfl (by decide)))) ?_
      intro h5 F5 N5
      clear hfl hdl hlen₂
      walk_at "my steps"
      rename Fr _ _ _ _ => F5
      refine Bk.ret F5 N5 (hRet _ _ (.inr ⟨R, _, _, _, ?_, rfl, IntsAre.append hus (.cons _ _ .nil), l1, rfl⟩))
      rename pad = true => hpad
      rw [convOut_good hval, if_pos hpad, if_neg (fun e => hne (Int.natCast_eq_zero.mpr e)), pad_val hml (r_in hml hf)]
    · rename Fr _ _ _ _ => F
      rename pad = true => hpad
      rename (_ : Int) = 0 => hz
      refine Bk.ret F N (hRet _ _ (.inr ⟨R, _, _, _, ?_, rfl, hus, l1, rfl⟩))
      rw [convOut_good hval, if_pos hpad, if_pos (Int.natCast_eq_zero.mp hz)]
    · rename Fr _ _ _ _ => F
      rename pad = false => hpad
      rename (f : Int) ≤ _ => hz
      refine Bk.ret F (News.sub N fun p hp => .tail _ hp) (hRet _ _ (.inl ⟨?_, rfl, rfl⟩))
      rw [convOut_good hval, if_neg (by simp [hpad]), if_pos (.inl (Int.ofNat_le.mp hz))]
    · rename Fr _ _ _ _ => F
      rename pad = false => hpad
      rename Builtin.bitAnd _ _ ≠ 0 => hz
      refine Bk.ret F (News.sub N fun p hp => .tail _ hp) (hRet _ _ (.inl ⟨?_, rfl, rfl⟩))
      rw [pad_val hml (r_in hml hf)] at hz
      rw [convOut_good hval, if_neg (by simp [hpad]), if_pos (.inr fun e => hz (pad_zero.mpr e))]
    · rename Fr _ _ _ _ => F
      rename pad = false => hpad
      rename Builtin.bitAnd _ _ = 0 => hz
      rename ¬ (f : Int) ≤ _ => hz2
      refine Bk.ret F N (hRet _ _ (.inr ⟨R, _, _, _, ?_, rfl, hus, l1, rfl⟩))
      rw [pad_val hml (r_in hml hf)] at hz
      rw [convOut_good hval, if_neg (by simp [hpad]), if_neg]
      rintro (h | h)
      · exact absurd (Int.ofNat_le.mpr h) hz2
      · exact h (pad_zero.mp hz)
inductive All2 {α β : Type} (R : α → β → Prop) : List α → List β → Prop
  | nil : All2 R [] []
  | cons {a b as bs} : R a b → All2 R as bs → All2 R (a :: as) (b :: bs)

theorem All2.snoc {α β : Type} {R : α → β → Prop} {a : α} {b : β} : ∀ {as : List α} {bs : List β}, All2 R as bs → R a b → All2 R (as ++ [a]) (bs ++ [b])
  | _, _, .nil, h => .cons h .nil
  | _, _, .cons h r, h' => .cons h (r.snoc h')
theorem All2.length {α β : Type} {R : α → β → Prop} : ∀ {as : List α} {bs : List β}, All2 R as bs → as.length = bs.length
  | _, _, .nil => rfl
  | _, _, .cons _ r => by simp [r.length]
theorem All2.get {α β : Type} {R : α → β → Prop} : ∀ {as : List α} {bs : List β}, All2 R as bs → ∀ (i : Nat) (b : β), bs[i]? = some b → ∃ a, as[i]? = some a ∧ R a b
  | _, _, .cons h _, 0, b, e => by simp at e; subst e; exact ⟨_, rfl, h⟩
  | _, _, .cons _ r, i + 1, b, e => by simpa using r.get i b (by simpa using e)

/-- an int's value -/
def IntV (n : Int) (v : Value) : Prop := ∃ t, v = .int n t
/-- a text's value -/
def StrV (x : Str) (v : Value) : Prop := ∃ t, v = .str x t
theorem intsOf : ∀ {ns : List Int} {vs : List Value}, All2 IntV ns vs → IntsAre vs ns
  | _, _, .nil => .nil
  | _, _, .cons ⟨t, e⟩ r => by subst e; exact .cons _ t (intsOf r)
theorem ofInts : ∀ {vs : List Value} {ns : List Int}, IntsAre vs ns → All2 IntV ns vs
  | _, _, .nil => .nil
  | _, _, .cons n t r => .cons ⟨t, rfl⟩ (ofInts r)

/-- what can be walked: an iterator of its own -/
def IterOk (prog : Program) (w : World) (A : Around) (h₀ : Heap) (L : Addr) (s₁ : Shared) (xv : Value) (n : Nat) (P : Nat → Value → Prop) (S : List (Addr × Obj) → Prop) : Prop :=
  ∀ (Q : Value → Shared → Prop) (E : Value → Shared → Prop),
    (∀ (o : Obj) (fp : List Addr) (St : Nat → Heap → Prop), Walks prog w A s₁.heap.objs.size fp [s₁.heap.objs.size] n P St →
      (∀ i h, St i h → ∃ o, h.get? s₁.heap.objs.size = some o) →
      (∀ i h h' o nw, St i h → h.get? s₁.heap.objs.size = some o → h'.get? s₁.heap.objs.size = some o → (∀ b o, h₀.get? b = some o → h'.get? b = some o) → News h₀ L h' nw → S nw → St i h') →
      St 0 (s₁.heap.push o) → (∀ b ∈ fp, b < (s₁.heap.push o).objs.size) → Q (.ref s₁.heap.objs.size) { s₁ with heap := s₁.heap.push o }) →
    wpAny (model prog w) A (pyIter xv) Q E s₁

section
variable {prog : Program} {w : World} {A : Around} {E : Value → Shared → Prop} {s s₁ : Shared} {h₀ : Heap} {L : Addr} {m : Str → Option Value} {env : Env} {news : List (Addr × Obj)}

theorem iterOk_list {ax : Addr} {its : Array Value} (hh : A.handled = none) (F : Fr h₀ L s₁.heap m) (N : News h₀ L s₁.heap news) (S : LCg.SrcAt h₀ ax its news) :
    IterOk prog w A h₀ L s₁ (.ref ax) its.size (fun i v => its[i]? = some v) (LCg.SrcAt h₀ ax its) := by
  intro Q E h
  have hl := S.list F.keep N
  have lt : ax < s₁.heap.objs.size := let ⟨_, e, _⟩ := hl; Heap.lt_size e
  exact wpAny_pyIter_list hl (h _ _ _ (Walks.list hh _ ax (Nat.ne_of_lt lt) its) (fun _ _ st => let ⟨o, e, _⟩ := st.1; ⟨o, e⟩) LCg.list_st ⟨⟨_, Heap.get?_push_size _ rfl, rfl, rfl⟩, hl.push _⟩ fun b hb => by
    have q : b = s₁.heap.objs.size ∨ b = ax := by simpa using hb
    exact Nat.lt_of_le_of_lt (q.elim Nat.le_of_eq fun q => Nat.le_of_lt (q ▸ lt)) (Nat.lt_of_lt_of_eq (Nat.lt_succ_self _) (Heap.size_push ..).symm))

theorem iterOk_range {r : Addr} {a b c : Int} {t u v : Tok} {n : Nat} (hh : A.handled = none) (hr : IsRange s₁.heap r a b c t u v) (hsm : Builtin.Range.small a b c = true) (hn : Builtin.Range.rangeSize a b c = ((n : Nat) : Int)) :
    IterOk prog w A h₀ L s₁ (.ref r) n (fun i v => i < n ∧ ∃ t, v = .int (a + i * c) t) (fun _ => True) := by
  intro Q E h
  refine wpAny_pyIter_range hr hsm ?_
  refine h _ _ _ (Walks.range hh s₁.heap.objs.size a c n).bound (fun i h st => ⟨_, st⟩) (fun i h h' o nw st e e' _ _ _ => ?_) (by show IsRangeIter _ _ _ _ _; rw [hn]; simpa using Heap.get?_push_size _ rfl) (fun b hb => ?_)
  · have st' : h.get? s₁.heap.objs.size = some _ := st
    show h'.get? s₁.heap.objs.size = some _
    rw [e', ← e]; exact st'
  · rw [List.mem_singleton.mp hb, Heap.size_push]
    exact Nat.lt_succ_self _

theorem iterOk_str {x : Str} {t : Tok} (hh : A.handled = none) : IterOk prog w A h₀ L s₁ (.str x t) x.cps.size (SignAt x) (fun _ => True) := by
  intro Q E h
  have fin : ∀ (o : Obj) (T : String), (∀ I, Walks prog w A I [I] [I] x.cps.size (SignAt x) (fun i h => h.IsStrIter I T x t i)) → (s₁.heap.push o).IsStrIter s₁.heap.objs.size T x t 0 → Q (.ref s₁.heap.objs.size) { s₁ with heap := s₁.heap.push o } := by
    intro o T W hst
    refine h o _ _ (W _) (fun i h st => by obtain ⟨o, e, _⟩ := st; exact ⟨o, e⟩) (fun i h h' o nw st e e' _ _ _ => ?_) hst (fun b hb => ?_)
    · obtain ⟨o', q, r⟩ := st
      rw [e] at q; cases q
      exact ⟨o, e', r⟩
    · rw [List.mem_singleton.mp hb, Heap.size_push]
      exact Nat.lt_succ_self _
  cases ha : x.cps.all (· < 128)
  · exact wpAny_pyIter_wide ha (fin _ _ (fun I => Walks.strWide hh I x t) ⟨_, Heap.get?_push_size _ rfl, rfl, rfl⟩)
  · exact wpAny_pyIter_ascii ha (fin _ _ (fun I => Walks.strAscii hh I x t) ⟨_, Heap.get?_push_size _ rfl, rfl, rfl⟩)

/-- what an element's reckoning leaves as it stood -/
def Kp (h₀ : Heap) (L : Addr) (m : Str → Option Value) (s₁ : Shared) (led : List (Addr × Obj)) (s₂ : Shared) : Prop :=
  ∃ h' tk, s₂ = { s₁ with heap := h', toks := tk } ∧ Fr h₀ L h' m ∧ News h₀ L h' led
theorem Kp.here {h : Heap} {tk : Nat} {led : List (Addr × Obj)} (F : Fr h₀ L h m) (N : News h₀ L h led) : Kp h₀ L m s led { s with heap := h, toks := tk } := ⟨h, tk, rfl, F, N⟩
theorem Kp.sub {h : Heap} {tk : Nat} {led led' : List (Addr × Obj)} (F : Fr h₀ L h m) (N : News h₀ L h led') (hs : ∀ p ∈ led, p ∈ led') : Kp h₀ L m s led { s with heap := h, toks := tk } := ⟨h, tk, rfl, F, News.sub N hs⟩

/-- an element's facts -/
structure Elt (h₀ : Heap) (L : Addr) (m : Str → Option Value) (h : Heap) (I : Addr) (oI : Obj) (C : Addr) (oC : Obj) (D : Addr) (ys : List Value) (news : List (Addr × Obj)) (m₂ : Str → Option Value) : Prop where
  ns : LCg.NsObj oC m₂
  fr : Fr h₀ L h m
  led : News h₀ L h ((I, oI) :: (C, oC) :: (D, LCg.lst ys) :: news)
  off : LCg.Off3 I C D news
  ne : (@Ne Nat I C) ∧ (@Ne Nat I D) ∧ (@Ne Nat C D)

theorem rest_pure {α β : Type} {Rs : α → Value → Prop} {Rt : β → Value → Prop} {xs : List α} {g : α → β} {elt : Expr} {x : Str} {scope : Scope} {cl : List (Str × Addr)} {S : List (Addr × Obj) → Prop} {P : Nat → Value → Prop} {Fin : List Value → List (Addr × Obj) → Prop} {n : Nat}
    (hn : xs.length = n) (hP : ∀ i v, P i v → i < n → ∃ a, xs[i]? = some a ∧ Rs a v) (hS : S news)
    (turn : ∀ a v I oI C oC D ys m₂ h tk, a ∈ xs → Rs a v → m₂ x = some v → Elt h₀ L m h I oI C oC D ys news m₂ →
      wpAny (model prog w) A (eval elt (compEnvC scope cl C env)) (fun y s' => Rt (g a) y ∧ Kp h₀ L m { s with heap := h, toks := tk } ((I, oI) :: (C, oC) :: (D, LCg.lst ys) :: news) s') (fun _ _ => False) { s with heap := h, toks := tk })
    (fin : ∀ ys, All2 Rt (xs.map g) ys → Fin ys news) : LCg.CompRest prog w A h₀ L m env elt x scope cl s S P Fin n 0 [] news := by
  have key : ∀ (k i : Nat) (ys : List Value), i + k = n → All2 Rt ((xs.take i).map g) ys → LCg.CompRest prog w A h₀ L m env elt x scope cl s S P Fin k i ys news := by
    intro k
    induction k with
    | zero =>
      intro i ys hi hy
      have e : i = xs.length := by omega
      subst e
      rw [List.take_length] at hy
      exact LCg.CompRest.zero (fin ys hy)
    | succ k ih =>
      intro i ys hi hy
      refine LCg.CompRest.succ ?_
      intro v I oI C oC D m₂ h tk E' hv hC hx F N off ne
      obtain ⟨a, ha, hR⟩ := hP i v hv (by omega)
      refine wpAny_mono (turn a v I oI C oC D ys m₂ h tk (List.mem_of_getElem? ha) hR hx ⟨hC, F, N, off, ne⟩) (fun y s₂ hq => ?_) fun _ _ e => e.elim
      obtain ⟨hy', h', tk', rfl, F', N'⟩ := hq
      refine LCg.CompEnd.intro F' N' news (fun p hp => hp) off hS ?_
      refine ih (i + 1) _ (by omega) ?_
      rw [List.take_add_one, ha]
      simpa using hy.snoc hy'
  exact key n 0 [] (by omega) (by simpa using All2.nil)

theorem restT_pure {α β : Type} {Rs : α → Value → Prop} {Rt : β → Value → Prop} {xs : List α} {p : α → Bool} {g : α → β} {ct elt : Expr} {x : Str} {scope : Scope} {cl : List (Str × Addr)} {S : List (Addr × Obj) → Prop} {P : Nat → Value → Prop} {Fin : List Value → List (Addr × Obj) → Prop} {n : Nat}
    (hn : xs.length = n) (hP : ∀ i v, P i v → i < n → ∃ a, xs[i]? = some a ∧ Rs a v) (hS : S news)
    (test : ∀ a v I oI C oC D ys m₂ h tk, a ∈ xs → Rs a v → m₂ x = some v → Elt h₀ L m h I oI C oC D ys news m₂ →
      wpAny (model prog w) A (isTrue ct (compEnvC scope cl C env) (eval ct (compEnvC scope cl C env))) (fun ok s' => ok = p a ∧ Kp h₀ L m { s with heap := h, toks := tk } ((I, oI) :: (C, oC) :: (D, LCg.lst ys) :: news) s') (fun _ _ => False) { s with heap := h, toks := tk })
    (turn : ∀ a v I oI C oC D ys m₂ h tk, a ∈ xs → p a = true → Rs a v → m₂ x = some v → Elt h₀ L m h I oI C oC D ys news m₂ →
      wpAny (model prog w) A (eval elt (compEnvC scope cl C env)) (fun y s' => Rt (g a) y ∧ Kp h₀ L m { s with heap := h, toks := tk } ((I, oI) :: (C, oC) :: (D, LCg.lst ys) :: news) s') (fun _ _ => False) { s with heap := h, toks := tk })
    (fin : ∀ ys, All2 Rt ((xs.filter p).map g) ys → Fin ys news) : LCt.CompRestT prog w A h₀ L m env ct elt x scope cl s S P Fin n 0 [] news := by
  have key : ∀ (k i : Nat) (ys : List Value), i + k = n → All2 Rt (((xs.take i).filter p).map g) ys → LCt.CompRestT prog w A h₀ L m env ct elt x scope cl s S P Fin k i ys news := by
    intro k
    induction k with
    | zero =>
      intro i ys hi hy
      have e : i = xs.length := by omega
      subst e
      rw [List.take_length] at hy
      exact LCt.CompRestT.zero (fin ys hy)
    | succ k ih =>
      intro i ys hi hy
      refine LCt.CompRestT.succ ?_
      intro v I oI C oC D m₂ h tk E' hv hC hx F N off ne
      obtain ⟨a, ha, hR⟩ := hP i v hv (by omega)
      refine wpAny_mono (test a v I oI C oC D ys m₂ h tk (List.mem_of_getElem? ha) hR hx ⟨hC, F, N, off, ne⟩) (fun ok s₂ hq => ?_) fun _ _ e => e.elim
      obtain ⟨rfl, h', tk', rfl, F', N'⟩ := hq
      have ht : (xs.take (i + 1)).filter p = (xs.take i).filter p ++ (if p a = true then [a] else []) := by
        rw [List.take_add_one, ha, List.filter_append]
        cases hpa : p a <;> simp [hpa]
      cases hpa : p a with
      | true =>
        simp only [if_true]
        refine wpAny_mono (turn a v I oI C oC D ys m₂ h' tk' (List.mem_of_getElem? ha) hpa hR hx ⟨hC, F', N', off, ne⟩) (fun y s₂ hq => ?_) fun _ _ e => e.elim
        obtain ⟨hy', h', tk', rfl, F', N'⟩ := hq
        refine LCg.CompEnd.intro F' N' news (fun p hp => hp) off hS ?_
        refine ih (i + 1) _ (by omega) ?_
        rw [ht, hpa]
        simpa using hy.snoc hy'
      | false =>
        simp only [Bool.false_eq_true, if_false]
        refine LCg.CompEnd.intro F' N' news (fun p hp => hp) off hS ?_
        refine ih (i + 1) _ (by omega) ?_
        rw [ht, hpa]
        simpa using hy
  exact key n 0 [] (by omega) (by simpa using All2.nil)

/-- a source: its items' meaning, the ledger as it stands then -/
def SrcOk {α : Type} (prog : Program) (w : World) (A : Around) (h₀ : Heap) (L : Addr) (m : Str → Option Value) (Rs : α → Value → Prop) (xs : List α) (news : List (Addr × Obj)) (s : Shared) (xv : Value) (s₁ : Shared) : Prop :=
  ∃ h tk n P S, s₁ = { s with heap := h, toks := tk } ∧ Fr h₀ L h m ∧ News h₀ L h news ∧ IterOk prog w A h₀ L s₁ xv n P S ∧ xs.length = n ∧ (∀ i v, P i v → i < n → ∃ a, xs[i]? = some a ∧ Rs a v) ∧ S news ∧ n ≤ sizeLine

theorem off1_mem {D : Addr} : ∀ {l : List (Addr × Obj)}, LCg.Off1 D l → ∀ p ∈ l, p.1 ≠ D
  | [], _, _, hp => nomatch hp
  | q :: r, h, p, hp => by
    rcases List.mem_cons.mp hp with rfl | hp
    · exact h.1
    · exact off1_mem h.2 p hp

/-- a comprehension's block, from its iterator on -/
def Block (prog : Program) (w : World) (A : Around) (E : Value → Shared → Prop) (env : Env) (e : Expr) (scope : Scope) (cl : List (Str × Addr)) (RR : Value → Addr → Result → Shared → Prop) (it : Value) (s : Shared) : Prop :=
  wpAny (model prog w) A (newList []) (fun D s' => wpAny (model prog w) A (newFunctionEnv scope env.globals cl [] env.qual none .none (some env))
    (fun c s'' => codeAny (model prog w) A (.compStart e 0 it D { c with scope := relabel scope env }) (RR D c.locals) s'') E s') E s

/-- the block of a list comprehension, and of one that a name is given -/
theorem Block.value {elt : Expr} {g : Comprehension} {gs : List Comprehension} {scope : Scope} {cl : List (Str × Addr)} {pos : Pos} {Q : Value → Shared → Prop} (hg : g.is_async = 0) (hclos : closureFor scope env = pure cl) (hkind : scope.kind = .function)
    (hnames : ∀ y ∈ scope.names, y.2 = .local → scope.names.lookup y.1 = some .local) (hs : ∀ x, foldedSetIterable g.iter env x = pure x)
    (h : wpAny (model prog w) A (eval g.iter env) (fun xv s₁ => wpAny (model prog w) A (pyIter xv) (Block prog w A E env (.ListComp elt (g :: gs) scope pos) scope cl (compPost (model prog w) A E none Q)) E s₁) E s) :
    wpAny (model prog w) A (eval (.ListComp elt (g :: gs) scope pos) env) Q E s := by
  obtain ⟨t, i, fs, n⟩ := g
  subst hg
  exact wpAny_comprehension_free (use := none) rfl hs hclos hkind hnames h
theorem Block.named {elt : Expr} {g : Comprehension} {gs : List Comprehension} {scope : Scope} {cl : List (Str × Addr)} {pos spos : Pos} {y : Str} {py : Pos} {Q : Flow → Shared → Prop} (hg : g.is_async = 0)
    (hsw : swapsWith (.ListComp elt (g :: gs) scope pos) (some (.Name y py)) spos.line env = pure true) (hclos : closureFor scope env = pure cl) (hkind : scope.kind = .function)
    (hnames : ∀ y ∈ scope.names, y.2 = .local → scope.names.lookup y.1 = some .local) (hs : ∀ x, foldedSetIterable g.iter env x = pure x)
    (h : wpAny (model prog w) A (eval g.iter env) (fun xv s₁ => wpAny (model prog w) A (pyIter xv)
      (Block prog w A E env (.ListComp elt (g :: gs) scope pos) scope cl (compPost (model prog w) A E (some (assign (.Name y py) env)) (fun _ s' => Q .next s'))) E s₁) E s) :
    wpAny (model prog w) A (exec (.Assign [.Name y py] (.ListComp elt (g :: gs) scope pos) spos) env) Q E s := by
  obtain ⟨t, i, fs, n⟩ := g
  subst hg
  rw [exec_Assign_Name_used _ _ _ _ hsw]
  have run := wpAny_comprehension_free (pos := firstIterPos (⟨t, i, fs, 0⟩ :: gs) pos) (use := some (assign (.Name y py) env)) (Q := fun _ s' => Q .next s') rfl hs hclos hkind hnames h
  exact wpAny_bind (wpAny_standAt (wpAny_bind (wpAny_bind (wpAny_mono run (fun _ _ q => wpAny_pure (wpAny_pure q)) fun _ _ q => q))))

/-- a block just opened over the heap `hp`: its list `D` and its frame `C`, both new -/
structure Opened (h₀ : Heap) (L : Addr) (hp h : Heap) (D C : Addr) : Prop where
  lst : h.get? D = some (LCg.lst [])
  ns : ∃ m', h.Ns C m'
  old : ∀ b o, hp.get? b = some o → h.get? b = some o
  low : ∀ b : Nat, b < hp.objs.size → b < D
  DC : @LT.lt Nat _ D C
  LD : @LT.lt Nat _ L D
  D₀ : h₀.get? D = none
  C₀ : h₀.get? C = none
theorem Block.opened {e : Expr} {scope : Scope} {cl : List (Str × Addr)} {RR : Value → Addr → Result → Shared → Prop} {it : Value} (hcell : ∀ y ∈ scope.names, y.2 ≠ .cell) (hkind : scope.kind = .function) (F : Fr h₀ L s.heap m)
    (go : ∀ D C h tk, Opened h₀ L s.heap h D C → codeAny (model prog w) A (.compStart e 0 it (.ref D) (compEnvC scope cl C env)) (RR (.ref D) C) { s with heap := h, toks := tk }) : Block prog w A E env e scope cl RR it s := by
  refine wpAny_newObj_type (wpAny_newFunctionEnv hcell (fun _ hx => nomatch hx) (fun h₁ hn hs => go _ _ h₁ _ ?_) hkind)
  have up : ∀ b o, b < s.heap.objs.size + 1 → (s.heap.push _).get? b = some o → h₁.get? b = some o := fun b o hb e =>
    hs.extBut b o (fun q => Nat.lt_irrefl _ (Nat.lt_of_lt_of_le hb (Nat.le_of_eq ((Heap.size_push ..).symm.trans q.symm)))) (Heap.get?_push_of_some _ e)
  exact ⟨up _ _ (Nat.lt_succ_self _) (Heap.get?_push_size _ rfl), ⟨_, hn⟩, fun b o e => up b o (Nat.lt_succ_of_lt (Heap.lt_size e)) (Heap.get?_push_of_some _ e), fun _ hb => hb,
    (by show s.heap.objs.size < (s.heap.push _).objs.size; rw [Heap.size_push]; exact Nat.lt_succ_self _), F.ns.lt, F.fresh, (F.push _).fresh⟩

/-- what is left as it stood when the block's frame goes -/
theorem news_frame {D C : Addr} {h h' : Heap} {o : Obj} {nw : List (Addr × Obj)} (N : News h₀ L h ((D, o) :: nw)) (hs : Heap.SameBut C h h') (hCD : C ≠ D) (off : ∀ p ∈ nw, p.1 ≠ C) : News h₀ L h' ((D, o) :: nw)
  | _, .head _ => ⟨hs.extBut _ _ hCD.symm (N _ (.head _)).1, (N _ (.head _)).2⟩
  | p, .tail _ hp => ⟨hs.extBut _ _ (off p hp) (N p (.tail _ hp)).1, (N p (.tail _ hp)).2⟩

/-- the block's end, an expression's -/
theorem end_eval {xs : List Value → Prop} {Q : Value → Shared → Prop}
    (fin : ∀ D ys h tk, xs ys → Fr h₀ L h m → News h₀ L h ((D, listOf ys.toArray ys.length) :: news) → (∀ p ∈ news, p.1 ≠ D) → Q (.ref D) { s with heap := h, toks := tk })
    (D C : Addr) (h : Heap) (tk : Nat) (m' : Str → Option Value) (ys : List Value) (news' : List (Addr × Obj)) (F : Fr h₀ L h m) (N : News h₀ L h ((D, LCg.lst ys) :: news')) (o1 : LCg.Off1 D news') (hn : h.Ns C m') (hC₀ : h₀.get? C = none) (_ : h₀.get? D = none)
    (hCL : C ≠ L) (_ : D ≠ L) (hCD : C ≠ D) (offC : ∀ p ∈ news', p.1 ≠ C) (q : news' = news ∧ xs ys) : compPost (model prog w) A E none Q (.ref D) C (.ok .next) { s with heap := h, toks := tk } := by
  obtain ⟨rfl, hy⟩ := q
  exact ⟨m', hn, fun h' hs => fin D ys h' tk hy (F.change hs hCL hC₀) (news_frame N hs hCD offC) (off1_mem o1)⟩

/-- the block's end, a name's -/
theorem end_assign {y : Str} {py : Pos} {Fin : List Value → List (Addr × Obj) → Prop} {Q : Flow → Shared → Prop} (hLe : env.locals = L) (hy : env.kindOf y = some .local) (hp : (env.scope.kind == .class || (env.scope.kind == .module && env.locals != env.globals)) = false)
    (fin : ∀ D ys nw h tk, Fin ys nw → Fr h₀ L h (fun z => if z = y then some (.ref D) else m z) → News h₀ L h ((D, listOf ys.toArray ys.length) :: nw) → (∀ p ∈ nw, p.1 ≠ D) → Q .next { s with heap := h, toks := tk })
    (D C : Addr) (h : Heap) (tk : Nat) (m' : Str → Option Value) (ys : List Value) (nw : List (Addr × Obj)) (F : Fr h₀ L h m) (N : News h₀ L h ((D, LCg.lst ys) :: nw)) (o1 : LCg.Off1 D nw) (hn : h.Ns C m') (hC₀ : h₀.get? C = none) (_ : h₀.get? D = none)
    (hCL : C ≠ L) (_ : D ≠ L) (hCD : C ≠ D) (offC : ∀ p ∈ nw, p.1 ≠ C) (q : Fin ys nw) : compPost (model prog w) A E (some (assign (.Name y py) env)) (fun _ s' => Q .next s') (.ref D) C (.ok .next) { s with heap := h, toks := tk } := by
  subst hLe
  exact wpAny_assign_Name (wpAny_storeName_local hy F.ns (fun _ hn₂ hs => ⟨m', hn.sameBut hs hCL, fun h' hs' => fin D ys nw h' _ q ((F.set hn₂ hs).change hs' hCL hC₀) (news_frame (N.set hs) hs' hCD offC) (off1_mem o1)⟩) hp)

/-- a block over a source, and one with a test -/
theorem run_src {α β : Type} {Rs : α → Value → Prop} {Rt : β → Value → Prop} {xs : List α} {g : α → β} {elt iter : Expr} {x : Str} {px : Pos} {scope : Scope} {cl : List (Str × Addr)} {pos : Pos} {RR : Value → Addr → Result → Shared → Prop}
    (hcell : ∀ y ∈ scope.names, y.2 ≠ .cell) (hkind : scope.kind = .function) (hx : scope.names.lookup x = some .local)
    (turn : ∀ a v I oI C oC D ys m₂ h tk, a ∈ xs → Rs a v → m₂ x = some v → Elt h₀ L m h I oI C oC D ys news m₂ →
      wpAny (model prog w) A (eval elt (compEnvC scope cl C env)) (fun y s' => Rt (g a) y ∧ Kp h₀ L m { s with heap := h, toks := tk } ((I, oI) :: (C, oC) :: (D, LCg.lst ys) :: news) s') (fun _ _ => False) { s with heap := h, toks := tk })
    (hRR : ∀ D C h tk m' ys nw, Fr h₀ L h m → News h₀ L h ((D, LCg.lst ys) :: nw) → LCg.Off1 D nw → h.Ns C m' → h₀.get? C = none → h₀.get? D = none → C ≠ L → D ≠ L → C ≠ D → (∀ p ∈ nw, p.1 ≠ C) → (nw = news ∧ All2 Rt (xs.map g) ys) → RR (.ref D) C (.ok .next) { s with heap := h, toks := tk })
    (xv : Value) (s₁ : Shared) (src : SrcOk prog w A h₀ L m Rs xs news s xv s₁) : wpAny (model prog w) A (pyIter xv) (Block prog w A E env (.ListComp elt [⟨.Name x px, iter, [], 0⟩] scope pos) scope cl RR) E s₁ := by
  obtain ⟨h, tk, n, P, S, rfl, F, N, It, hn, hP, hS, hsz⟩ := src
  exact It _ _ fun o fp St W hIo hSt hst hfp => LCg.block_U W hsz hIo hSt hcell hkind hx hst hfp (F.push o) (fun p hp => ⟨Heap.get?_push_of_some _ (N p hp).1, (N p hp).2⟩) (Nat.ne_of_lt F.ns.lt) (next_is_new F) (fun p hp => Nat.ne_of_lt (Heap.lt_size (N p hp).1)) hS
    (rest_pure hn hP hS turn fun _ hy => ⟨rfl, hy⟩) hRR
theorem run_srcT {α β : Type} {Rs : α → Value → Prop} {Rt : β → Value → Prop} {xs : List α} {p : α → Bool} {g : α → β} {ct elt iter : Expr} {x : Str} {px : Pos} {scope : Scope} {cl : List (Str × Addr)} {pos : Pos} {RR : Value → Addr → Result → Shared → Prop}
    (hcell : ∀ y ∈ scope.names, y.2 ≠ .cell) (hkind : scope.kind = .function) (hx : scope.names.lookup x = some .local)
    (test : ∀ a v I oI C oC D ys m₂ h tk, a ∈ xs → Rs a v → m₂ x = some v → Elt h₀ L m h I oI C oC D ys news m₂ →
      wpAny (model prog w) A (isTrue ct (compEnvC scope cl C env) (eval ct (compEnvC scope cl C env))) (fun ok s' => ok = p a ∧ Kp h₀ L m { s with heap := h, toks := tk } ((I, oI) :: (C, oC) :: (D, LCg.lst ys) :: news) s') (fun _ _ => False) { s with heap := h, toks := tk })
    (turn : ∀ a v I oI C oC D ys m₂ h tk, a ∈ xs → p a = true → Rs a v → m₂ x = some v → Elt h₀ L m h I oI C oC D ys news m₂ →
      wpAny (model prog w) A (eval elt (compEnvC scope cl C env)) (fun y s' => Rt (g a) y ∧ Kp h₀ L m { s with heap := h, toks := tk } ((I, oI) :: (C, oC) :: (D, LCg.lst ys) :: news) s') (fun _ _ => False) { s with heap := h, toks := tk })
    (hRR : ∀ D C h tk m' ys nw, Fr h₀ L h m → News h₀ L h ((D, LCg.lst ys) :: nw) → LCg.Off1 D nw → h.Ns C m' → h₀.get? C = none → h₀.get? D = none → C ≠ L → D ≠ L → C ≠ D → (∀ p ∈ nw, p.1 ≠ C) → (nw = news ∧ All2 Rt ((xs.filter p).map g) ys) → RR (.ref D) C (.ok .next) { s with heap := h, toks := tk })
    (xv : Value) (s₁ : Shared) (src : SrcOk prog w A h₀ L m Rs xs news s xv s₁) : wpAny (model prog w) A (pyIter xv) (Block prog w A E env (.ListComp elt [⟨.Name x px, iter, [ct], 0⟩] scope pos) scope cl RR) E s₁ := by
  obtain ⟨h, tk, n, P, S, rfl, F, N, It, hn, hP, hS, hsz⟩ := src
  exact It _ _ fun o fp St W hIo hSt hst hfp => LCt.block_T W hsz hIo hSt hcell hkind hx hst hfp (F.push o) (fun p hp => ⟨Heap.get?_push_of_some _ (N p hp).1, (N p hp).2⟩) (Nat.ne_of_lt F.ns.lt) (next_is_new F) (fun p hp => Nat.ne_of_lt (Heap.lt_size (N p hp).1)) hS
    (restT_pure hn hP hS test turn fun _ hy => ⟨rfl, hy⟩) hRR

theorem lc_eval {α β : Type} (Rs : α → Value → Prop) (Rt : β → Value → Prop) (xs : List α) (g : α → β) {elt iter : Expr} {x : Str} {px : Pos} {scope : Scope} {cl : List (Str × Addr)} {pos : Pos} {Q : Value → Shared → Prop}
    (hclos : closureFor scope env = pure cl) (hcell : ∀ y ∈ scope.names, y.2 ≠ .cell) (hkind : scope.kind = .function)
    (hnames : ∀ y ∈ scope.names, y.2 = .local → scope.names.lookup y.1 = some .local) (hx : scope.names.lookup x = some .local)
    (hs : ∀ x, foldedSetIterable iter env x = pure x)
    (hsrc : wpAny (model prog w) A (eval iter env) (SrcOk prog w A h₀ L m Rs xs news s) E s)
    (turn : ∀ a v I oI C oC D ys m₂ h tk, a ∈ xs → Rs a v → m₂ x = some v → Elt h₀ L m h I oI C oC D ys news m₂ →
      wpAny (model prog w) A (eval elt (compEnvC scope cl C env)) (fun y s' => Rt (g a) y ∧ Kp h₀ L m { s with heap := h, toks := tk } ((I, oI) :: (C, oC) :: (D, LCg.lst ys) :: news) s') (fun _ _ => False) { s with heap := h, toks := tk })
    (fin : ∀ D ys h tk, All2 Rt (xs.map g) ys → Fr h₀ L h m → News h₀ L h ((D, listOf ys.toArray ys.length) :: news) → (∀ p ∈ news, p.1 ≠ D) → Q (.ref D) { s with heap := h, toks := tk }) :
    wpAny (model prog w) A (eval (.ListComp elt [⟨.Name x px, iter, [], 0⟩] scope pos) env) Q E s :=
  Block.value rfl hclos hkind hnames hs (wpAny_mono hsrc (run_src hcell hkind hx turn (end_eval fin)) fun _ _ e => e)

theorem lc_evalT {α β : Type} (Rs : α → Value → Prop) (Rt : β → Value → Prop) (xs : List α) (p : α → Bool) (g : α → β) {ct elt iter : Expr} {x : Str} {px : Pos} {scope : Scope} {cl : List (Str × Addr)} {pos : Pos} {Q : Value → Shared → Prop}
    (hclos : closureFor scope env = pure cl) (hcell : ∀ y ∈ scope.names, y.2 ≠ .cell) (hkind : scope.kind = .function)
    (hnames : ∀ y ∈ scope.names, y.2 = .local → scope.names.lookup y.1 = some .local) (hx : scope.names.lookup x = some .local)
    (hs : ∀ x, foldedSetIterable iter env x = pure x)
    (hsrc : wpAny (model prog w) A (eval iter env) (SrcOk prog w A h₀ L m Rs xs news s) E s)
    (test : ∀ a v I oI C oC D ys m₂ h tk, a ∈ xs → Rs a v → m₂ x = some v → Elt h₀ L m h I oI C oC D ys news m₂ →
      wpAny (model prog w) A (isTrue ct (compEnvC scope cl C env) (eval ct (compEnvC scope cl C env))) (fun ok s' => ok = p a ∧ Kp h₀ L m { s with heap := h, toks := tk } ((I, oI) :: (C, oC) :: (D, LCg.lst ys) :: news) s') (fun _ _ => False) { s with heap := h, toks := tk })
    (turn : ∀ a v I oI C oC D ys m₂ h tk, a ∈ xs → p a = true → Rs a v → m₂ x = some v → Elt h₀ L m h I oI C oC D ys news m₂ →
      wpAny (model prog w) A (eval elt (compEnvC scope cl C env)) (fun y s' => Rt (g a) y ∧ Kp h₀ L m { s with heap := h, toks := tk } ((I, oI) :: (C, oC) :: (D, LCg.lst ys) :: news) s') (fun _ _ => False) { s with heap := h, toks := tk })
    (fin : ∀ D ys h tk, All2 Rt ((xs.filter p).map g) ys → Fr h₀ L h m → News h₀ L h ((D, listOf ys.toArray ys.length) :: news) → (∀ p ∈ news, p.1 ≠ D) → Q (.ref D) { s with heap := h, toks := tk }) :
    wpAny (model prog w) A (eval (.ListComp elt [⟨.Name x px, iter, [ct], 0⟩] scope pos) env) Q E s :=
  Block.value rfl hclos hkind hnames hs (wpAny_mono hsrc (run_srcT hcell hkind hx test turn (end_eval fin)) fun _ _ e => e)

theorem lc_assign {α β : Type} (Rs : α → Value → Prop) (Rt : β → Value → Prop) (xs : List α) (g : α → β) {elt iter : Expr} {x y : Str} {px py : Pos} {scope : Scope} {cl : List (Str × Addr)} {pos spos : Pos} {Q : Flow → Shared → Prop}
    (hLe : env.locals = L) (hsw : swapsWith (.ListComp elt [⟨.Name x px, iter, [], 0⟩] scope pos) (some (.Name y py)) spos.line env = pure true)
    (hclos : closureFor scope env = pure cl) (hcell : ∀ y ∈ scope.names, y.2 ≠ .cell) (hkind : scope.kind = .function)
    (hnames : ∀ y ∈ scope.names, y.2 = .local → scope.names.lookup y.1 = some .local) (hx : scope.names.lookup x = some .local)
    (hs : ∀ x, foldedSetIterable iter env x = pure x)
    (hy : env.kindOf y = some .local) (hp : (env.scope.kind == .class || (env.scope.kind == .module && env.locals != env.globals)) = false)
    (hsrc : wpAny (model prog w) A (eval iter env) (SrcOk prog w A h₀ L m Rs xs news s) E s)
    (turn : ∀ a v I oI C oC D ys m₂ h tk, a ∈ xs → Rs a v → m₂ x = some v → Elt h₀ L m h I oI C oC D ys news m₂ →
      wpAny (model prog w) A (eval elt (compEnvC scope cl C env)) (fun y s' => Rt (g a) y ∧ Kp h₀ L m { s with heap := h, toks := tk } ((I, oI) :: (C, oC) :: (D, LCg.lst ys) :: news) s') (fun _ _ => False) { s with heap := h, toks := tk })
    (fin : ∀ D ys h tk, All2 Rt (xs.map g) ys → Fr h₀ L h (fun z => if z = y then some (.ref D) else m z) → News h₀ L h ((D, listOf ys.toArray ys.length) :: news) → (∀ p ∈ news, p.1 ≠ D) → Q .next { s with heap := h, toks := tk }) :
    wpAny (model prog w) A (exec (.Assign [.Name y py] (.ListComp elt [⟨.Name x px, iter, [], 0⟩] scope pos) spos) env) Q E s :=
  Block.named rfl hsw hclos hkind hnames hs (wpAny_mono hsrc (run_src hcell hkind hx turn (end_assign hLe hy hp fun D ys _ h tk q => q.1 ▸ fin D ys h tk q.2)) fun _ _ e => e)

theorem lc_assignT {α β : Type} (Rs : α → Value → Prop) (Rt : β → Value → Prop) (xs : List α) (p : α → Bool) (g : α → β) {ct elt iter : Expr} {x y : Str} {px py : Pos} {scope : Scope} {cl : List (Str × Addr)} {pos spos : Pos} {Q : Flow → Shared → Prop}
    (hLe : env.locals = L) (hsw : swapsWith (.ListComp elt [⟨.Name x px, iter, [ct], 0⟩] scope pos) (some (.Name y py)) spos.line env = pure true)
    (hclos : closureFor scope env = pure cl) (hcell : ∀ y ∈ scope.names, y.2 ≠ .cell) (hkind : scope.kind = .function)
    (hnames : ∀ y ∈ scope.names, y.2 = .local → scope.names.lookup y.1 = some .local) (hx : scope.names.lookup x = some .local)
    (hs : ∀ x, foldedSetIterable iter env x = pure x)
    (hy : env.kindOf y = some .local) (hp : (env.scope.kind == .class || (env.scope.kind == .module && env.locals != env.globals)) = false)
    (hsrc : wpAny (model prog w) A (eval iter env) (SrcOk prog w A h₀ L m Rs xs news s) E s)
    (test : ∀ a v I oI C oC D ys m₂ h tk, a ∈ xs → Rs a v → m₂ x = some v → Elt h₀ L m h I oI C oC D ys news m₂ →
      wpAny (model prog w) A (isTrue ct (compEnvC scope cl C env) (eval ct (compEnvC scope cl C env))) (fun ok s' => ok = p a ∧ Kp h₀ L m { s with heap := h, toks := tk } ((I, oI) :: (C, oC) :: (D, LCg.lst ys) :: news) s') (fun _ _ => False) { s with heap := h, toks := tk })
    (turn : ∀ a v I oI C oC D ys m₂ h tk, a ∈ xs → p a = true → Rs a v → m₂ x = some v → Elt h₀ L m h I oI C oC D ys news m₂ →
      wpAny (model prog w) A (eval elt (compEnvC scope cl C env)) (fun y s' => Rt (g a) y ∧ Kp h₀ L m { s with heap := h, toks := tk } ((I, oI) :: (C, oC) :: (D, LCg.lst ys) :: news) s') (fun _ _ => False) { s with heap := h, toks := tk })
    (fin : ∀ D ys h tk, All2 Rt ((xs.filter p).map g) ys → Fr h₀ L h (fun z => if z = y then some (.ref D) else m z) → News h₀ L h ((D, listOf ys.toArray ys.length) :: news) → (∀ p ∈ news, p.1 ≠ D) → Q .next { s with heap := h, toks := tk }) :
    wpAny (model prog w) A (exec (.Assign [.Name y py] (.ListComp elt [⟨.Name x px, iter, [ct], 0⟩] scope pos) spos) env) Q E s :=
  Block.named rfl hsw hclos hkind hnames hs (wpAny_mono hsrc (run_srcT hcell hkind hx test turn (end_assign hLe hy hp fun D ys _ h tk q => q.1 ▸ fin D ys h tk q.2)) fun _ _ e => e)

/-- a list of the ledger as a source -/
theorem src_list {α : Type} {Rs : α → Value → Prop} {xs : List α} {vs : List Value} {ax : Addr} {c : Nat} {h : Heap} {tk : Nat} (hh : A.handled = none) (F : Fr h₀ L h m) (N : News h₀ L h news) (hm : (ax, listOf vs.toArray c) ∈ news) (hv : All2 Rs xs vs) (hsz : vs.length ≤ 100000) :
    SrcOk prog w A h₀ L m Rs xs news s (.ref ax) { s with heap := h, toks := tk } := by
  have S : LCg.SrcAt h₀ ax vs.toArray news := .inr ⟨_, hm, rfl, _, rfl⟩
  refine ⟨h, tk, _, _, _, rfl, F, N, iterOk_list hh F N S, by rw [List.size_toArray]; exact hv.length, fun i v hi _ => hv.get i v (by simpa using hi), S, ?_⟩
  rw [List.size_toArray, sizeLine_eq]; omega
theorem src_str {x : Str} {t : Tok} {h : Heap} {tk : Nat} (hh : A.handled = none) (F : Fr h₀ L h m) (N : News h₀ L h news) (hsz : x.cps.size ≤ 100000) :
    SrcOk prog w A h₀ L m (fun (c : Nat) v => StrV ⟨#[c]⟩ v) x.cps.toList news s (.str x t) { s with heap := h, toks := tk } := by
  refine ⟨h, tk, _, _, _, rfl, F, N, iterOk_str hh, by simp, fun i v hi _ => ?_, trivial, ?_⟩
  · obtain ⟨c, u, hc, rfl⟩ := hi
    exact ⟨c, by simpa using hc, u, rfl⟩
  · rw [sizeLine_eq]; omega
theorem src_range {r : Addr} {a b c : Int} {t u v : Tok} {n : Nat} {h : Heap} {tk : Nat} (hh : A.handled = none) (F : Fr h₀ L h m) (N : News h₀ L h news) (hr : IsRange h r a b c t u v) (hsm : Builtin.Range.small a b c = true) (hn : Builtin.Range.rangeSize a b c = ((n : Nat) : Int)) (hsz : n ≤ 100000) :
    SrcOk prog w A h₀ L m IntV ((List.range n).map fun (i : Nat) => a + (i : Int) * c) news s (.ref r) { s with heap := h, toks := tk } := by
  refine ⟨h, tk, n, _, _, rfl, F, N, iterOk_range hh hr hsm hn, by simp, fun i v hi hlt => ?_, trivial, ?_⟩
  · obtain ⟨_, t, rfl⟩ := hi
    exact ⟨_, by simp [hlt], t, rfl⟩
  · rw [sizeLine_eq]; omega
end
section
variable {prog : Program} {w : World} {A : Around} {E : Value → Shared → Prop} {R : Result → Shared → Prop} {s : Shared}

theorem compTurn_out (elt t1 i1 t2 i2 : Expr) (scope : Scope) (pos : Pos) (it acc : Value) (env : Env) :
    compTurn (.ListComp elt [⟨t1, i1, [], 0⟩, ⟨t2, i2, [], 0⟩] scope pos) 0 it acc env = (standAt i1.pos >>= fun _ => pyNext it >>= fun r => match r with
      | none => pure (.done .next)
      | some v => letOwnedTupleGo t1 it v >>= fun _ => assign t1 env v >>= fun _ =>
        eval i2 env >>= fun x => standAt i2.pos >>= fun _ => foldedSetIterable i2 env x >>= fun x => holding [x] (pyIter x) >>= fun it2 =>
          runOwn (.compStart (.ListComp elt [⟨t1, i1, [], 0⟩, ⟨t2, i2, [], 0⟩] scope pos) 1 it2 acc env) env >>= fun _ =>
          again (.compLoop (.ListComp elt [⟨t1, i1, [], 0⟩, ⟨t2, i2, [], 0⟩] scope pos) 0 it acc env)) := by rfl

theorem compTurn_in (elt t1 i1 t2 i2 : Expr) (scope : Scope) (pos : Pos) (it acc : Value) (env : Env) :
    compTurn (.ListComp elt [⟨t1, i1, [], 0⟩, ⟨t2, i2, [], 0⟩] scope pos) 1 it acc env = (standAt i2.pos >>= fun _ => pyNext it >>= fun r => match r with
      | none => pure (.done .next)
      | some v => letOwnedTupleGo t2 it v >>= fun _ => assign t2 env v >>= fun _ =>
        (eval elt env >>= fun x => call (.builtin "list.append") [acc, x] >>= fun _ => pure ()) >>= fun _ =>
          again (.compLoop (.ListComp elt [⟨t1, i1, [], 0⟩, ⟨t2, i2, [], 0⟩] scope pos) 1 it acc env)) := by rfl

theorem loop_in {elt t1 i1 t2 i2 : Expr} {scope : Scope} {pos : Pos} {it acc : Value} {env : Env} (I : Nat → Shared → Prop)
    (turn : ∀ n s, I n s → wpAny (model prog w) A (pyNext it) (fun r s₁ => match r with
      | none => R (.ok .next) s₁
      | some v => wpAny (model prog w) A (assign t2 env v) (fun _ s₂ => wpAny (model prog w) A (eval elt env) (fun x s₃ =>
          wpAny (model prog w) A (call (.builtin "list.append") [acc, x]) (fun _ s₄ => ∃ m, m < n ∧ I m s₄) (fun _ _ => False) s₃) (fun _ _ => False) s₂) (fun _ _ => False) s₁) (fun _ _ => False) s)
    (n : Nat) (h : I n s) (ht : ∀ v, letOwnedTupleGo t2 it v = pure ()) :
    codeAny (model prog w) A (.compLoop (.ListComp elt [⟨t1, i1, [], 0⟩, ⟨t2, i2, [], 0⟩] scope pos) 1 it acc env) R s := by
  refine codeAny_loop rfl I (fun n s hI => ?_) n h
  show wpAny _ A ((compTurn (.ListComp elt [⟨t1, i1, [], 0⟩, ⟨t2, i2, [], 0⟩] scope pos) 1 it acc env).onRaise (fun x => do noteFrame x env; theTreesLotGoes x)) _ _ s
  refine wpAny_noted ?_
  rw [compTurn_in]
  refine wpAny_bind (wpAny_standAt (wpAny_bind (wpAny_mono (turn n s hI) (fun r s₁ h₁ => ?_) fun _ _ h' => h'.elim)))
  cases r with
  | none => exact wpAny_pure h₁
  | some v =>
    refine wpAny_bind (wpAny_of_eq (ht v) ?_)
    exact wpAny_bind (wpAny_mono h₁ (fun _ s₂ h₂ => wpAny_bind (wpAny_bind (wpAny_mono h₂ (fun x s₃ h₃ => wpAny_bind (wpAny_mono h₃
      (fun _ s₄ h₄ => wpAny_pure (wpAny_pure ⟨rfl, h₄⟩)) fun _ _ h' => h'.elim)) fun _ _ h' => h'.elim))) fun _ _ h' => h'.elim)

theorem start_in {elt t1 i1 t2 i2 : Expr} {scope : Scope} {pos : Pos} {it acc : Value} {env : Env}
    (h0 : codeAny (model prog w) A (.compLoop (.ListComp elt [⟨t1, i1, [], 0⟩, ⟨t2, i2, [], 0⟩] scope pos) 1 it acc env) R s)
    (h : wpAny (model prog w) A (pyIter it) (fun it' s' => codeAny (model prog w) A (.compLoop (.ListComp elt [⟨t1, i1, [], 0⟩, ⟨t2, i2, [], 0⟩] scope pos) 1 it' acc env) R s') (fun _ _ => False) s) :
    codeAny (model prog w) A (.compStart (.ListComp elt [⟨t1, i1, [], 0⟩, ⟨t2, i2, [], 0⟩] scope pos) 1 it acc env) R s := by
  refine codeAny_of_tree ?_
  show wpAny _ _ ((compStart (.ListComp elt [⟨t1, i1, [], 0⟩, ⟨t2, i2, [], 0⟩] scope pos) 1 it acc env).onRaise (fun x => do noteFrame x env; standAt theWindowsPlace)) _ _ s
  refine wpAny_notedAt ?_
  unfold compStart
  show wpAny _ _ (ask >>= _) _ _ s
  refine wpAny_bind (wpAny_askSetting (wpAny_ite ?_))
  split
  · exact wpAny_bind (wpAny_pure (wpAny_pure ⟨rfl, h0⟩))
  · have h' := wpAny_mono (Q' := fun it' s' => codeAny (model prog w) A (.compLoop (.ListComp elt [⟨t1, i1, [], 0⟩, ⟨t2, i2, [], 0⟩] scope pos) 1 it' acc env) R s') (E' := notedBy (model prog w) A env fun x s' => R (.error x) s') h (fun _ _ x => x) (fun _ _ x => x.elim)
    exact wpAny_bind (wpAny_rule (wpAny_bind (wpAny_standAt (wpAny_bind (wpAny_mono h' (fun _ _ q => wpAny_pure ⟨rfl, q⟩) fun _ _ x => x)))))

theorem loop_out {elt t1 i1 t2 i2 : Expr} {scope : Scope} {pos : Pos} {it acc : Value} {env : Env} (hs2 : ∀ x, foldedSetIterable i2 env x = pure x) (I : Nat → Shared → Prop)
    (turn : ∀ n s, I n s → wpAny (model prog w) A (pyNext it) (fun r s₁ => match r with
      | none => R (.ok .next) s₁
      | some v => wpAny (model prog w) A (assign t1 env v) (fun _ s₂ => wpAny (model prog w) A (eval i2 env) (fun x s₃ => wpAny (model prog w) A (pyIter x) (fun it2 s₄ =>
          codeAny (model prog w) A (.compStart (.ListComp elt [⟨t1, i1, [], 0⟩, ⟨t2, i2, [], 0⟩] scope pos) 1 it2 acc env) (fun r s₅ => match r with | .ok _ => ∃ m, m < n ∧ I m s₅ | .error _ => False) s₄) (fun _ _ => False) s₃) (fun _ _ => False) s₂) (fun _ _ => False) s₁) (fun _ _ => False) s)
    (n : Nat) (h : I n s) (ht : ∀ v, letOwnedTupleGo t1 it v = pure ()) :
    codeAny (model prog w) A (.compLoop (.ListComp elt [⟨t1, i1, [], 0⟩, ⟨t2, i2, [], 0⟩] scope pos) 0 it acc env) R s := by
  refine codeAny_loop rfl I (fun n s hI => ?_) n h
  show wpAny _ A ((compTurn (.ListComp elt [⟨t1, i1, [], 0⟩, ⟨t2, i2, [], 0⟩] scope pos) 0 it acc env).onRaise (fun x => do noteFrame x env; theTreesLotGoes x)) _ _ s
  refine wpAny_noted ?_
  rw [compTurn_out]
  refine wpAny_bind (wpAny_standAt (wpAny_bind (wpAny_mono (turn n s hI) (fun r s₁ h₁ => ?_) fun _ _ h' => h'.elim)))
  cases r with
  | none => exact wpAny_pure h₁
  | some v =>
    refine wpAny_bind (wpAny_of_eq (ht v) ?_)
    refine wpAny_bind (wpAny_mono h₁ (fun _ s₂ h₂ => wpAny_bind (wpAny_mono h₂ (fun x s₃ h₃ => wpAny_bind (wpAny_standAt (wpAny_bind (wpAny_of_eq (hs2 x) (wpAny_bind (wpAny_holding (wpAny_mono h₃
      (fun it2 s₄ h₄ => wpAny_bind (wpAny_runOwn (h := none) (codeAny_mono h₄ fun r s₅ h₅ => ?_))) fun _ _ h' => h'.elim))))))) fun _ _ h' => h'.elim)) fun _ _ h' => h'.elim)
    cases r with
    | ok f => exact wpAny_pure ⟨rfl, h₅⟩
    | error e => exact h₅.elim
end

section
variable {prog : Program} {w : World} {A : Around} {E : Value → Shared → Prop} {s : Shared} {h₀ : Heap} {L : Addr} {m : Str → Option Value} {env : Env} {news : List (Addr × Obj)}

theorem All2.append {α β : Type} {R : α → β → Prop} : ∀ {as as' : List α} {bs bs' : List β}, All2 R as bs → All2 R as' bs' → All2 R (as ++ as') (bs ++ bs')
  | _, _, _, _, .nil, h => h
  | _, _, _, _, .cons h r, h' => .cons h (r.append h')

open LCg in
theorem block_2 {α β : Type} {Rs : α → Value → Prop} {Rt : β → Value → Prop} {xs : List α} {zs : α → List Int} {g : α → Int → β} {elt i1 i2 : Expr} {x1 x2 : Str} {px1 px2 : Pos} {scope : Scope} {cl : List (Str × Addr)} {pos : Pos} {s₂ : Shared} {I : Addr} {fp : List Addr} {n : Nat} {P : Nat → Value → Prop} {St : Nat → Heap → Prop} {S : List (Addr × Obj) → Prop}
    {RR : Value → Addr → Result → Shared → Prop}
    (W : Walks prog w A I fp [I] n P St) (hh : A.handled = none) (hsz : (xs.flatMap fun a => (zs a).map (g a)).length ≤ 100000) (hIo : ∀ i h, St i h → ∃ o, h.get? I = some o)
    (hSt : ∀ i h h' o nw, St i h → h.get? I = some o → h'.get? I = some o → (∀ b o, h₀.get? b = some o → h'.get? b = some o) → News h₀ L h' nw → S nw → St i h')
    (hcell : ∀ y ∈ scope.names, y.2 ≠ .cell) (hkind : scope.kind = .function) (hx1 : scope.names.lookup x1 = some .local) (hx2 : scope.names.lookup x2 = some .local) (h12 : x1 ≠ x2) (hst : St 0 s₂.heap) (hfp : ∀ b ∈ fp, b < s₂.heap.objs.size)
    (F : Fr h₀ L s₂.heap m) (N : News h₀ L s₂.heap news) (hIL : L ≠ I) (hI₀ : h₀.get? I = none) (off : ∀ p ∈ news, p.1 ≠ I) (hS : S news)
    (hn : xs.length = n) (hP : ∀ i v, P i v → i < n → ∃ a, xs[i]? = some a ∧ Rs a v)
    (hs2 : ∀ C x, foldedSetIterable i2 (compEnvC scope cl C env) x = pure x)
    (hin : ∀ a v I oI C oC D ys m₂ h tk, a ∈ xs → Rs a v → m₂ x1 = some v → Elt h₀ L m h I oI C oC D ys news m₂ →
      wpAny (model prog w) A (eval i2 (compEnvC scope cl C env)) (fun xv s' => ∃ (r : Addr) (b0 b1 st : Int) (t u v' : Tok) (h' : Heap) (tk' : Nat), xv = .ref r ∧ s' = { s₂ with heap := h', toks := tk' } ∧ Fr h₀ L h' m ∧ News h₀ L h' ((I, oI) :: (C, oC) :: (D, LCg.lst ys) :: news) ∧
        IsRange h' r b0 b1 st t u v' ∧ Builtin.Range.small b0 b1 st = true ∧ Builtin.Range.rangeSize b0 b1 st = (((zs a).length : Nat) : Int) ∧ ∀ (i : Nat), i < (zs a).length → (zs a)[i]? = some (b0 + i * st)) (fun _ _ => False) { s₂ with heap := h, toks := tk })
    (helt : ∀ a v z t I oI C oC D ys nw m₂ h tk, a ∈ xs → Rs a v → z ∈ zs a → m₂ x1 = some v → m₂ x2 = some (.int z t) → (∀ p ∈ news, p ∈ nw) → Elt h₀ L m h I oI C oC D ys nw m₂ →
      wpAny (model prog w) A (eval elt (compEnvC scope cl C env)) (fun y s' => Rt (g a z) y ∧ Kp h₀ L m { s₂ with heap := h, toks := tk } ((I, oI) :: (C, oC) :: (D, LCg.lst ys) :: nw) s') (fun _ _ => False) { s₂ with heap := h, toks := tk })
    (hRR : ∀ D C h tk m' ys news', Fr h₀ L h m → News h₀ L h ((D, lst ys) :: news') → Off1 D news' → h.Ns C m' → h₀.get? C = none → h₀.get? D = none → C ≠ L → D ≠ L → C ≠ D → (∀ p ∈ news', p.1 ≠ C) → (news' = news ∧ All2 Rt (xs.flatMap fun a => (zs a).map (g a)) ys) → RR (.ref D) C (.ok .next) { s₂ with heap := h, toks := tk }) :
    Block prog w A E env (.ListComp elt [⟨.Name x1 px1, i1, [], 0⟩, ⟨.Name x2 px2, i2, [], 0⟩] scope pos) scope cl RR (.ref I) s₂ := by
  refine Block.opened hcell hkind F fun D C h₁ tk₁ O => ?_
  have hfp' : ∀ b ∈ fp, b < D := fun b hb => O.low b (hfp b hb)
  have led : ∀ p ∈ news, p.1 < D := fun p hp => O.low _ (Heap.lt_size (N p hp).1)
  have hDC : @Ne Nat D C := Nat.ne_of_lt O.DC
  have hDf : D ∉ fp := fun hm => Nat.lt_irrefl _ (hfp' _ hm)
  have hCf : C ∉ fp := fun hm => Nat.lt_irrefl _ (Nat.lt_trans O.DC (hfp' _ hm))
  have hIlt : @LT.lt Nat _ I D := hfp' I (W.sub I (.head _))
  have hst₁ := W.frame _ _ _ hst fun b _ => O.old b
  have hD₀ := O.D₀
  have hC₀ := O.C₀
  have hDL : @Ne Nat D L := Nat.ne_of_gt O.LD
  have hCL : @Ne Nat C L := Nat.ne_of_gt (Nat.lt_trans O.LD O.DC)
  have hIC : @Ne Nat I C := Nat.ne_of_lt (Nat.lt_trans hIlt O.DC)
  have hID : @Ne Nat I D := Nat.ne_of_lt hIlt
  have offC : ∀ p ∈ news, p.1 ≠ C := fun p hp => Nat.ne_of_lt (Nat.lt_trans (led p hp) O.DC)
  have offD : ∀ p ∈ news, p.1 ≠ D := fun p hp => Nat.ne_of_lt (led p hp)
  have off₀ : Off3 I C D news := Off3.of fun p hp => ⟨off p hp, offC p hp, offD p hp⟩
  have loop : codeAny (model prog w) A (.compLoop (.ListComp elt [⟨.Name x1 px1, i1, [], 0⟩, ⟨.Name x2 px2, i2, [], 0⟩] scope pos) 0 (.ref I) (.ref D) (compEnvC scope cl C env)) (RR (.ref D) C) { s₂ with heap := h₁, toks := tk₁ } := by
    obtain ⟨m₁, hns₁⟩ := O.ns
    obtain ⟨Iv, hIv⟩ : ∃ Iv : Nat → Shared → Prop, ∀ k s', Iv k s' ↔ (∃ h' tk i ys m', s' = { s₂ with heap := h', toks := tk } ∧ i ≤ n ∧ k = n + 1 - i ∧ St i h' ∧ Fr h₀ L h' m ∧ h'.Ns C m' ∧ News h₀ L h' ((D, lst ys) :: news) ∧ All2 Rt ((xs.take i).flatMap fun a => (zs a).map (g a)) ys) := ⟨_, fun _ _ => Iff.rfl⟩
    refine loop_out (hs2 C)
      Iv ?_ (n + 1)
      ((hIv _ _).mpr ⟨h₁, _, 0, [], _, rfl, Nat.zero_le _, rfl, hst₁, F.keeps O.old, hns₁, fun p hp => ?_, by simpa using All2.nil⟩) (by intro _; rfl)
    · intro k s' hkk
      obtain ⟨h', tk, i, ys, m', rfl, hi, rfl, hst', F', hn', N', hys⟩ := (hIv _ _).mp hkk
      clear hkk
      by_cases hlt : i < n
      · refine W.item i _ _ _ hlt hst' fun v h₂ tk₂ hPv hst₂ hk₂ => ?_
        refine wpAny_assign_Name (wpAny_storeName_local (lookup_relabel_local hx1) (hn'.at' fun o e => hk₂ _ o (by simpa using Ne.symm hIC) e) (fun h₃ hn₃ hs₃ => ?_) (by simp [compEnvC, relabel, hkind]))
        have hst₃ : St (i + 1) h₃ := W.frame _ _ _ hst₂ fun b hb o e => hs₃.extBut b o (fun q => hCf (by have q' : b = C := q; rw [← q']; exact hb)) e
        obtain ⟨oI, heI⟩ := hIo _ _ hst₃
        obtain ⟨oC, heC, hoC⟩ := ns_obj hn₃
        have F₃ : Fr h₀ L h₃ m := (fr_but F' hk₂ hIL hI₀).change hs₃ hCL hC₀
        have N₂ : News h₀ L h₂ ((D, lst ys) :: news) := news_but N' hk₂ fun p hp => by
          rcases List.mem_cons.mp hp with rfl | hp
          · exact Ne.symm hID
          · exact off p hp
        have N₃ : News h₀ L h₃ ((I, oI) :: (C, oC) :: (D, lst ys) :: news) := fun p hp => by
          rcases List.mem_cons.mp hp with rfl | hp
          · exact ⟨heI, Ne.symm hIL, hI₀⟩
          · rcases List.mem_cons.mp hp with rfl | hp
            · exact ⟨heC, hCL, hC₀⟩
            · have z := N₂ p hp
              refine ⟨hs₃.extBut _ _ ?_ z.1, z.2⟩
              rcases List.mem_cons.mp hp with rfl | hp
              · exact hDC
              · exact offC p hp
        obtain ⟨a, ha, hRa⟩ := hP i v hPv hlt
        have hax := List.mem_of_getElem? ha
        have hpre : (xs.take (i + 1)).flatMap (fun a => (zs a).map (g a)) = (xs.take i).flatMap (fun a => (zs a).map (g a)) ++ (zs a).map (g a) := by
          rw [List.take_add_one, ha, List.flatMap_append]; simp
        have htot : ((xs.take (i + 1)).flatMap fun a => (zs a).map (g a)).length ≤ 100000 := by
          refine Nat.le_trans ?_ hsz
          have e : xs = xs.take (i + 1) ++ xs.drop (i + 1) := (List.take_append_drop ..).symm
          conv => rhs; rw [e, List.flatMap_append, List.length_append]
          exact Nat.le_add_right _ _
        refine wpAny_mono (hin a v I oI C oC D ys _ h₃ _ hax hRa (by simp) ⟨hoC, F₃, N₃, off₀, hIC, hID, Ne.symm hDC⟩) (fun xv s₄ h₄ => ?_) fun _ _ e => e
        obtain ⟨r, b0, b1, stp, t, u, v', h₄, tk₄, rfl, rfl, F₄, N₄, hr, hsm, hrs, hz⟩ := h₄
        refine wpAny_pyIter_range hr hsm ?_
        generalize hJ : h₄.objs.size = J
        have W2 : Walks prog w A J [J] [J] (zs a).length (fun i v => i < (zs a).length ∧ ∃ t, v = .int (b0 + i * stp) t) (fun i h => IsRangeIter h J (b0 + (i : Nat) * stp) (((zs a).length : Int) - (i : Nat)) stp) := (Walks.range hh J b0 stp (zs a).length).bound
        have zI := (N₄ (I, oI) List.mem_cons_self).1
        have zC := (N₄ (C, oC) (List.mem_cons_of_mem _ List.mem_cons_self)).1
        have zD := (N₄ (D, lst ys) (List.mem_cons_of_mem _ (List.mem_cons_of_mem _ List.mem_cons_self))).1
        have hIJ : @Ne Nat I J := by rw [← hJ]; exact Nat.ne_of_lt (Heap.lt_size zI)
        have hCJ : @Ne Nat C J := by rw [← hJ]; exact Nat.ne_of_lt (Heap.lt_size zC)
        have hDJ : @Ne Nat D J := by rw [← hJ]; exact Nat.ne_of_lt (Heap.lt_size zD)
        have hLJ : @Ne Nat L J := by rw [← hJ]; exact Nat.ne_of_lt F₄.ns.lt
        have N₄' : News h₀ L h₄ news := fun p hp => N₄ p (List.mem_cons_of_mem _ (List.mem_cons_of_mem _ (List.mem_cons_of_mem _ hp)))
        have offJ : ∀ p ∈ news, p.1 ≠ J := fun p hp => by rw [← hJ]; exact Nat.ne_of_lt (Heap.lt_size (N₄' p hp).1)
        have hJ₀ : h₀.get? J = none := by
          cases e : h₀.get? J with
          | none => rfl
          | some o' => exact absurd (Heap.lt_size (F₄.keep J o' e)) (by rw [hJ]; exact Nat.lt_irrefl _)
        have hJf : J ∉ fp := fun hm => by
          have h1 := hfp' _ hm
          have h2 : D < J := by rw [← hJ]; exact Heap.lt_size zD
          exact absurd (Nat.lt_trans h1 h2) (Nat.lt_irrefl _)
        have hst₄ : St (i + 1) h₄ := hSt _ _ _ _ _ hst₃ heI zI F₄.keep N₄' hS
        generalize hH5 : h₄.push { cls := .type "range_iterator", dict := none, data := .fields #[rawInt b0, rawInt (Builtin.Range.rangeSize b0 b1 stp), rawInt stp] } = h₅
        have up₅ : ∀ b o, h₄.get? b = some o → h₅.get? b = some o := fun b o e => hH5 ▸ Heap.get?_push_of_some _ e
        have hstJ : IsRangeIter h₅ J (b0 + ((0 : Nat) : Int) * stp) (((zs a).length : Int) - ((0 : Nat) : Int)) stp := by
          show h₅.get? J = some _
          rw [← hH5, ← hJ, hrs]
          simpa using Heap.get?_push_size _ rfl
        have hst₅ : St (i + 1) h₅ := W.frame _ _ _ hst₄ fun b _ o e => up₅ b o e
        have hn₄ : h₄.Ns C (fun y => if y = x1 then some v else m' y) := hoC.ns zC
        have hn₅ : h₅.Ns C (fun y => if y = x1 then some v else m' y) := hn₄.at' fun o e => up₅ _ o e
        have F₅ : Fr h₀ L h₅ m := F₄.keeps up₅
        have N₅ : News h₀ L h₅ ((D, lst ys) :: news) := fun p hp => ⟨up₅ _ _ (N₄ p (List.mem_cons_of_mem _ (List.mem_cons_of_mem _ hp))).1, (N₄ p (List.mem_cons_of_mem _ (List.mem_cons_of_mem _ hp))).2⟩
        have inner : ∀ s₅ : Shared, s₅ = { s₂ with heap := h₅, toks := tk₄ } → codeAny (model prog w) A (.compLoop (.ListComp elt [⟨.Name x1 px1, i1, [], 0⟩, ⟨.Name x2 px2, i2, [], 0⟩] scope pos) 1 (.ref J) (.ref D) (compEnvC scope cl C env))
            (fun r s₅ => match r with
              | .ok _ => ∃ k', k' < n + 1 - i ∧ Iv k' s₅
              | .error _ => False) s₅ := by
          rintro s₅ rfl
          obtain ⟨Jv, hJv⟩ : ∃ Jv : Nat → Shared → Prop, ∀ k s', Jv k s' ↔ (∃ h' tk j ys' m'', s' = { s₂ with heap := h', toks := tk } ∧ j ≤ (zs a).length ∧ k = (zs a).length + 1 - j ∧ IsRangeIter h' J (b0 + ((j : Nat) : Int) * stp) (((zs a).length : Int) - ((j : Nat) : Int)) stp ∧ St (i + 1) h' ∧ Fr h₀ L h' m ∧ h'.Ns C m'' ∧ m'' x1 = some v ∧
              News h₀ L h' ((D, lst ys') :: news) ∧ All2 Rt ((xs.take i).flatMap (fun a => (zs a).map (g a)) ++ ((zs a).take j).map (g a)) ys') := ⟨_, fun _ _ => Iff.rfl⟩
          refine loop_in
            Jv ?_ ((zs a).length + 1)
            ((hJv _ _).mpr ⟨h₅, tk₄, 0, ys, _, rfl, Nat.zero_le _, rfl, hstJ, hst₅, F₅, hn₅, by simp, N₅, by simpa using hys⟩) (by intro _; rfl)
          intro k s' hkk
          obtain ⟨h', tk, j, ys', m'', rfl, hj, rfl, hstj, hsti, F6, hn6, hm6, N6, hys6⟩ := (hJv _ _).mp hkk
          clear hkk
          by_cases hltj : j < (zs a).length
          · refine W2.item j _ _ _ hltj hstj fun v2 h₇ tk₇ hPv2 hst7 hk7 => ?_
            obtain ⟨_, t2, rfl⟩ := hPv2
            have hsti7 : St (i + 1) h₇ := W.frame _ _ _ hsti fun b hb o e => hk7 b o (fun q => hJf (by rw [← List.mem_singleton.mp q]; exact hb)) e
            refine wpAny_assign_Name (wpAny_storeName_local (lookup_relabel_local hx2) (hn6.at' fun o e => hk7 _ o (by simpa using hCJ) e) (fun h₈ hn₈ hs₈ => ?_) (by simp [compEnvC, relabel, hkind]))
            have hsti8 : St (i + 1) h₈ := W.frame _ _ _ hsti7 fun b hb o e => hs₈.extBut b o (fun q => hCf (by have q' : b = C := q; rw [← q']; exact hb)) e
            obtain ⟨oI8, heI8⟩ := hIo _ _ hsti8
            obtain ⟨oC8, heC8, hoC8⟩ := ns_obj hn₈
            have F7 : Fr h₀ L h₇ m := fr_but F6 hk7 hLJ hJ₀
            have F8 : Fr h₀ L h₈ m := F7.change hs₈ hCL hC₀
            have N7 : News h₀ L h₇ ((D, lst ys') :: news) := news_but N6 hk7 fun p hp => by
              rcases List.mem_cons.mp hp with rfl | hp
              · exact hDJ
              · exact offJ p hp
            have heJ8 : h₈.get? J = some _ := hs₈.extBut _ _ (Ne.symm hCJ) hst7
            have hz2 := hz j hltj
            have N8 : News h₀ L h₈ ((J, _) :: (C, oC8) :: (D, lst ys') :: (I, oI8) :: news) := fun p hp => by
              rcases List.mem_cons.mp hp with rfl | hp
              · exact ⟨heJ8, Ne.symm hLJ, hJ₀⟩
              · rcases List.mem_cons.mp hp with rfl | hp
                · exact ⟨heC8, hCL, hC₀⟩
                · rcases List.mem_cons.mp hp with rfl | hp
                  · exact ⟨hs₈.extBut _ _ hDC (N7 _ (.head _)).1, hDL, hD₀⟩
                  · rcases List.mem_cons.mp hp with rfl | hp
                    · exact ⟨heI8, Ne.symm hIL, hI₀⟩
                    · have z := N7 p (.tail _ hp)
                      exact ⟨hs₈.extBut _ _ (offC p hp) z.1, z.2⟩
            have off8 : Off3 J C D ((I, oI8) :: news) := Off3.of fun p hp => by
              rcases List.mem_cons.mp hp with rfl | hp
              · exact ⟨hIJ, hIC, hID⟩
              · exact ⟨offJ p hp, offC p hp, offD p hp⟩
            refine wpAny_mono (helt a v (b0 + j * stp) t2 J _ C oC8 D ys' ((I, oI8) :: news) _ h₈ _ hax hRa (List.mem_of_getElem? hz2) (by simp [h12, hm6]) (by simp) (fun p hp => .tail _ hp) ⟨hoC8, F8, N8, off8, Ne.symm hCJ, Ne.symm hDJ, Ne.symm hDC⟩) (fun y s₉ h₉ => ?_) fun _ _ e => e
            obtain ⟨hy, h₉, tk₉, rfl, F9, N9⟩ := h₉
            have zJ := (N9 (J, _) (.head _)).1
            have zC := (N9 (C, oC8) (.tail _ (.head _))).1
            have zD := (N9 (D, lst ys') (.tail _ (.tail _ (.head _)))).1
            have zI := (N9 (I, oI8) (.tail _ (.tail _ (.tail _ (.head _))))).1
            have N9' : News h₀ L h₉ news := fun p hp => N9 p (.tail _ (.tail _ (.tail _ (.tail _ hp))))
            have hsti9 : St (i + 1) h₉ := hSt _ _ _ _ _ hsti8 heI8 zI F9.keep N9' hS
            have hlen : ys'.length ≤ 100000 := by
              have h1 := hys6.length
              rw [← h1]
              refine Nat.le_trans ?_ htot
              rw [hpre, List.length_append, List.length_append, List.length_map, List.length_map, List.length_take]
              omega
            refine append_at (hsz := by show ys'.toArray.size ≤ sizeLine; rw [List.size_toArray, sizeLine_eq]; omega) zD fun h₁₀ hs₁₀ hD₁₀ => ?_
            refine ⟨(zs a).length + 1 - (j + 1), by omega, (hJv _ _).mpr ⟨h₁₀, tk₉, j + 1, ys' ++ [y], _, rfl, hltj, rfl, ?_, W.frame _ _ _ hsti9 fun b hb o e => hs₁₀.extBut b o (fun q => hDf (q ▸ hb)) e, F9.change hs₁₀ hDL hD₀, (hoC8.ns zC).sameBut hs₁₀ (Ne.symm hDC), by simp [h12, hm6], fun p hp => ?_, ?_⟩⟩
            · show h₁₀.get? J = some _
              exact hs₁₀.extBut _ _ (Ne.symm hDJ) zJ
            · rcases List.mem_cons.mp hp with rfl | hp
              · exact ⟨hD₁₀.trans (congrArg some (lst_snoc ys' y)), hDL, hD₀⟩
              · exact ⟨hs₁₀.extBut _ _ (offD p hp) (N9' p hp).1, (N9' p hp).2⟩
            · rw [List.take_add_one, hz2, List.map_append, ← List.append_assoc]
              exact hys6.snoc hy
          · obtain rfl : j = (zs a).length := Nat.le_antisymm hj (Nat.not_lt.mp hltj)
            rw [List.take_length, ← hpre] at hys6
            refine W2.done _ _ _ hstj fun h₇ tk₇ hk7 => ?_
            refine ⟨n + 1 - (i + 1), by omega, (hIv _ _).mpr ⟨h₇, tk₇, i + 1, ys', _, rfl, hlt, rfl, W.frame _ _ _ hsti fun b hb o e => hk7 b o (fun q => hJf (by rw [← List.mem_singleton.mp q]; exact hb)) e, fr_but F6 hk7 hLJ hJ₀, hn6.at' fun o e => hk7 _ o (by simpa using hCJ) e, news_but N6 hk7 fun p hp => ?_, hys6⟩⟩
            rcases List.mem_cons.mp hp with rfl | hp
            · exact hDJ
            · exact offJ p hp
        exact start_in (inner _ rfl) (W2.self 0 _ _ _ hstJ (inner _ rfl))
      · obtain rfl : i = n := Nat.le_antisymm hi (Nat.not_lt.mp hlt)
        rw [← hn, List.take_length] at hys
        refine W.done _ _ _ hst' fun h₂ tk₂ hk₂ => ?_
        exact hRR _ _ h₂ tk₂ _ ys news (fr_but F' hk₂ hIL hI₀) (news_but N' hk₂ fun p hp => by
          rcases List.mem_cons.mp hp with rfl | hp
          · exact Ne.symm hID
          · exact off p hp) off₀.one (hn'.at' fun o e => hk₂ _ o (by simpa using Ne.symm hIC) e) hC₀ hD₀ hCL hDL (Ne.symm hDC) offC ⟨rfl, hys⟩
    · rcases List.mem_cons.mp hp with rfl | hp
      · exact ⟨O.lst, hDL, hD₀⟩
      · exact ⟨O.old _ _ (N p hp).1, (N p hp).2⟩
  exact codeAny_compStart_list loop (W.self 0 _ _ _ hst₁ loop)

theorem lc_assign2 {α β : Type} (Rs : α → Value → Prop) (Rt : β → Value → Prop) (xs : List α) (zs : α → List Int) (g : α → Int → β) {elt i1 i2 : Expr} {x1 x2 y : Str} {px1 px2 py : Pos} {scope : Scope} {cl : List (Str × Addr)} {pos spos : Pos} {Q : Flow → Shared → Prop}
    (hLe : env.locals = L) (hh : A.handled = none) (hsw : swapsWith (.ListComp elt [⟨.Name x1 px1, i1, [], 0⟩, ⟨.Name x2 px2, i2, [], 0⟩] scope pos) (some (.Name y py)) spos.line env = pure true)
    (hclos : closureFor scope env = pure cl) (hcell : ∀ y ∈ scope.names, y.2 ≠ .cell) (hkind : scope.kind = .function)
    (hnames : ∀ y ∈ scope.names, y.2 = .local → scope.names.lookup y.1 = some .local) (hx1 : scope.names.lookup x1 = some .local) (hx2 : scope.names.lookup x2 = some .local) (h12 : x1 ≠ x2)
    (hs : ∀ x, foldedSetIterable i1 env x = pure x) (hs2 : ∀ C x, foldedSetIterable i2 (compEnvC scope cl C env) x = pure x)
    (hy : env.kindOf y = some .local) (hp : (env.scope.kind == .class || (env.scope.kind == .module && env.locals != env.globals)) = false)
    (hsz : (xs.flatMap fun a => (zs a).map (g a)).length ≤ 100000)
    (hsrc : wpAny (model prog w) A (eval i1 env) (SrcOk prog w A h₀ L m Rs xs news s) E s)
    (hin : ∀ a v I oI C oC D ys m₂ h tk, a ∈ xs → Rs a v → m₂ x1 = some v → Elt h₀ L m h I oI C oC D ys news m₂ →
      wpAny (model prog w) A (eval i2 (compEnvC scope cl C env)) (fun xv s' => ∃ (r : Addr) (b0 b1 st : Int) (t u v' : Tok) (h' : Heap) (tk' : Nat), xv = .ref r ∧ s' = { s with heap := h', toks := tk' } ∧ Fr h₀ L h' m ∧ News h₀ L h' ((I, oI) :: (C, oC) :: (D, LCg.lst ys) :: news) ∧
        IsRange h' r b0 b1 st t u v' ∧ Builtin.Range.small b0 b1 st = true ∧ Builtin.Range.rangeSize b0 b1 st = (((zs a).length : Nat) : Int) ∧ ∀ (i : Nat), i < (zs a).length → (zs a)[i]? = some (b0 + i * st)) (fun _ _ => False) { s with heap := h, toks := tk })
    (helt : ∀ a v z t I oI C oC D ys nw m₂ h tk, a ∈ xs → Rs a v → z ∈ zs a → m₂ x1 = some v → m₂ x2 = some (.int z t) → (∀ p ∈ news, p ∈ nw) → Elt h₀ L m h I oI C oC D ys nw m₂ →
      wpAny (model prog w) A (eval elt (compEnvC scope cl C env)) (fun y s' => Rt (g a z) y ∧ Kp h₀ L m { s with heap := h, toks := tk } ((I, oI) :: (C, oC) :: (D, LCg.lst ys) :: nw) s') (fun _ _ => False) { s with heap := h, toks := tk })
    (fin : ∀ D ys h tk, All2 Rt (xs.flatMap fun a => (zs a).map (g a)) ys → Fr h₀ L h (fun z => if z = y then some (.ref D) else m z) → News h₀ L h ((D, listOf ys.toArray ys.length) :: news) → (∀ p ∈ news, p.1 ≠ D) → Q .next { s with heap := h, toks := tk }) :
    wpAny (model prog w) A (exec (.Assign [.Name y py] (.ListComp elt [⟨.Name x1 px1, i1, [], 0⟩, ⟨.Name x2 px2, i2, [], 0⟩] scope pos) spos) env) Q E s := by
  refine Block.named rfl hsw hclos hkind hnames hs (wpAny_mono hsrc (fun xv s₁ h₁ => ?_) fun _ _ e => e)
  obtain ⟨h, tk, n, P, S, rfl, F, N, It, hn, hP, hS, _⟩ := h₁
  exact It _ _ fun o fp St W hIo hSt hst hfp => block_2 (Rs := Rs) (Rt := Rt) (zs := zs) (g := g) W hh hsz hIo hSt hcell hkind hx1 hx2 h12 hst hfp (F.push o) (fun p hp => ⟨Heap.get?_push_of_some _ (N p hp).1, (N p hp).2⟩) (Nat.ne_of_lt F.ns.lt) (next_is_new F) (fun p hp => Nat.ne_of_lt (Heap.lt_size (N p hp).1)) hS hn hP hs2 hin helt
    (end_assign hLe hy hp fun D ys _ h tk q => q.1 ▸ fin D ys h tk q.2)
end
section
variable {prog : Program} {w : World} {A : Around} {E : Value → Shared → Prop} {s s₁ : Shared} {h₀ : Heap} {L : Addr} {m : Str → Option Value} {env : Env} {news : List (Addr × Obj)}

/-- what an element leaves, the ledger changed -/
def KpL (h₀ : Heap) (L : Addr) (m : Str → Option Value) (s : Shared) (I : Addr) (oI : Obj) (C : Addr) (oC : Obj) (D : Addr) (ys : List Value) (T : List Value → List (Addr × Obj) → Prop) (y : Value) (s' : Shared) : Prop :=
  ∃ h tk nw, s' = { s with heap := h, toks := tk } ∧ Fr h₀ L h m ∧ News h₀ L h ((I, oI) :: (C, oC) :: (D, LCg.lst ys) :: nw) ∧ LCg.Off3 I C D nw ∧ T (ys ++ [y]) nw
theorem KpL.at {I C D : Addr} {oI oC : Obj} {ys : List Value} {T : List Value → List (Addr × Obj) → Prop} {y : Value} {h : Heap} {tk : Nat} {nw all : List (Addr × Obj)} (F : Fr h₀ L h m) (N : News h₀ L h all) (hs : ∀ p ∈ (I, oI) :: (C, oC) :: (D, LCg.lst ys) :: nw, p ∈ all) (off : LCg.Off3 I C D nw) (hT : T (ys ++ [y]) nw) :
    KpL h₀ L m s I oI C oC D ys T y { s with heap := h, toks := tk } := ⟨h, tk, nw, rfl, F, News.sub N hs, off, hT⟩

theorem rest_led {α : Type} {Rs : α → Value → Prop} {xs : List α} {T : Nat → List Value → List (Addr × Obj) → Prop} {elt : Expr} {x : Str} {scope : Scope} {cl : List (Str × Addr)} {S : List (Addr × Obj) → Prop} {P : Nat → Value → Prop} {n : Nat}
    (hn : xs.length = n) (hP : ∀ i v, P i v → i < n → ∃ a, xs[i]? = some a ∧ Rs a v) (hS : ∀ i ys nw, T i ys nw → S nw) (h0 : T 0 [] news)
    (turn : ∀ i a v I oI C oC D ys nw m₂ h tk, xs[i]? = some a → Rs a v → T i ys nw → m₂ x = some v → Elt h₀ L m h I oI C oC D ys nw m₂ →
      wpAny (model prog w) A (eval elt (compEnvC scope cl C env)) (KpL h₀ L m { s with heap := h, toks := tk } I oI C oC D ys (T (i + 1))) (fun _ _ => False) { s with heap := h, toks := tk }) :
    LCg.CompRest prog w A h₀ L m env elt x scope cl s S P (T n) n 0 [] news := by
  have key : ∀ (k i : Nat) (ys : List Value) nw, i + k = n → T i ys nw → LCg.CompRest prog w A h₀ L m env elt x scope cl s S P (T n) k i ys nw := by
    intro k
    induction k with
    | zero =>
      intro i ys nw hi hy
      have e : i = n := by omega
      subst e
      exact hy
    | succ k ih =>
      intro i ys nw hi hy
      intro v I oI C oC D m₂ h tk E' hv hC hx F N off ne
      obtain ⟨a, ha, hR⟩ := hP i v hv (by omega)
      refine wpAny_mono (turn i a v I oI C oC D ys nw m₂ h tk ha hR hy hx ⟨hC, F, N, off, ne⟩) (fun y s₂ hq => ?_) fun _ _ e => e.elim
      obtain ⟨h', tk', nw', rfl, F', N', off', hT'⟩ := hq
      exact LCg.CompEnd.intro F' N' nw' (fun p hp => hp) off' (hS _ _ _ hT') (ih (i + 1) _ nw' (by omega) hT')
  exact key n 0 [] news (by omega) h0

/-- a source whose evaluation changes the ledger -/
def SrcL {α ι : Type} (prog : Program) (w : World) (A : Around) (h₀ : Heap) (L : Addr) (m : Str → Option Value) (Rs : α → Value → Prop) (xs : List α) (T : ι → Nat → List Value → List (Addr × Obj) → Prop) (s : Shared) (xv : Value) (s₁ : Shared) : Prop :=
  ∃ p nw h tk n P S, s₁ = { s with heap := h, toks := tk } ∧ Fr h₀ L h m ∧ News h₀ L h nw ∧ IterOk prog w A h₀ L s₁ xv n P S ∧ xs.length = n ∧ (∀ i v, P i v → i < n → ∃ a, xs[i]? = some a ∧ Rs a v) ∧ T p 0 [] nw ∧ (∀ i ys nw, T p i ys nw → S nw) ∧ n ≤ sizeLine

theorem srcL_list {α ι : Type} (p : ι) {Rs : α → Value → Prop} {xs : List α} {T : ι → Nat → List Value → List (Addr × Obj) → Prop} {vs : List Value} {ax : Addr} {c : Nat} {h : Heap} {tk : Nat} (hh : A.handled = none) (F : Fr h₀ L h m) (N : News h₀ L h news) (hT : T p 0 [] news) (hm : ∀ i ys nw, T p i ys nw → (ax, listOf vs.toArray c) ∈ nw) (hv : All2 Rs xs vs) (hsz : vs.length ≤ 100000) :
    SrcL prog w A h₀ L m Rs xs T s (.ref ax) { s with heap := h, toks := tk } := by
  have S : ∀ i ys nw, T p i ys nw → LCg.SrcAt h₀ ax vs.toArray nw := fun i ys nw t => .inr ⟨_, hm i ys nw t, rfl, _, rfl⟩
  refine ⟨p, news, h, tk, _, _, _, rfl, F, N, iterOk_list hh F N (S _ _ _ hT), by rw [List.size_toArray]; exact hv.length, fun i v hi _ => hv.get i v (by simpa using hi), hT, S, ?_⟩
  rw [List.size_toArray, sizeLine_eq]; omega
theorem srcL_range {ι : Type} (p : ι) {T : ι → Nat → List Value → List (Addr × Obj) → Prop} {r : Addr} {a b c : Int} {t u v : Tok} {n : Nat} {h : Heap} {tk : Nat} (hh : A.handled = none) (F : Fr h₀ L h m) (N : News h₀ L h news) (hT : T p 0 [] news) (hr : IsRange h r a b c t u v) (hsm : Builtin.Range.small a b c = true) (hn : Builtin.Range.rangeSize a b c = ((n : Nat) : Int)) (hsz : n ≤ 100000) :
    SrcL prog w A h₀ L m IntV ((List.range n).map fun (i : Nat) => a + (i : Int) * c) T s (.ref r) { s with heap := h, toks := tk } := by
  refine ⟨p, news, h, tk, n, _, _, rfl, F, N, iterOk_range hh hr hsm hn, by simp, fun i v hi hlt => ?_, hT, fun _ _ _ _ => trivial, ?_⟩
  · obtain ⟨_, t, rfl⟩ := hi
    exact ⟨_, by simp [hlt], t, rfl⟩
  · rw [sizeLine_eq]; omega

theorem lc_assignL {α ι : Type} (Rs : α → Value → Prop) (xs : List α) (T : ι → Nat → List Value → List (Addr × Obj) → Prop) {elt iter : Expr} {x y : Str} {px py : Pos} {scope : Scope} {cl : List (Str × Addr)} {pos spos : Pos} {Q : Flow → Shared → Prop}
    (hLe : env.locals = L) (hsw : swapsWith (.ListComp elt [⟨.Name x px, iter, [], 0⟩] scope pos) (some (.Name y py)) spos.line env = pure true)
    (hclos : closureFor scope env = pure cl) (hcell : ∀ y ∈ scope.names, y.2 ≠ .cell) (hkind : scope.kind = .function)
    (hnames : ∀ y ∈ scope.names, y.2 = .local → scope.names.lookup y.1 = some .local) (hx : scope.names.lookup x = some .local)
    (hs : ∀ x, foldedSetIterable iter env x = pure x)
    (hy : env.kindOf y = some .local) (hp : (env.scope.kind == .class || (env.scope.kind == .module && env.locals != env.globals)) = false)
    (hsrc : wpAny (model prog w) A (eval iter env) (SrcL prog w A h₀ L m Rs xs T s) E s)
    (turn : ∀ p i a v I oI C oC D ys nw m₂ h tk, xs[i]? = some a → Rs a v → T p i ys nw → m₂ x = some v → Elt h₀ L m h I oI C oC D ys nw m₂ →
      wpAny (model prog w) A (eval elt (compEnvC scope cl C env)) (KpL h₀ L m { s with heap := h, toks := tk } I oI C oC D ys (T p (i + 1))) (fun _ _ => False) { s with heap := h, toks := tk })
    (fin : ∀ p D ys nw h tk, T p xs.length ys nw → Fr h₀ L h (fun z => if z = y then some (.ref D) else m z) → News h₀ L h ((D, listOf ys.toArray ys.length) :: nw) → (∀ p ∈ nw, p.1 ≠ D) → Q .next { s with heap := h, toks := tk }) :
    wpAny (model prog w) A (exec (.Assign [.Name y py] (.ListComp elt [⟨.Name x px, iter, [], 0⟩] scope pos) spos) env) Q E s := by
  refine Block.named rfl hsw hclos hkind hnames hs (wpAny_mono hsrc (fun xv s₁ h₁ => ?_) fun _ _ e => e)
  obtain ⟨p, nw, h, tk, n, P, S, rfl, F, N, It, rfl, hP, hT0, hS, hsz⟩ := h₁
  exact It _ _ fun o fp St W hIo hSt hst hfp => LCg.block_U W hsz hIo hSt hcell hkind hx hst hfp (F.push o) (fun p hp => ⟨Heap.get?_push_of_some _ (N p hp).1, (N p hp).2⟩) (Nat.ne_of_lt F.ns.lt) (next_is_new F) (fun p hp => Nat.ne_of_lt (Heap.lt_size (N p hp).1)) (hS _ _ _ hT0)
    (rest_led rfl hP hS hT0 (turn p)) (end_assign hLe hy hp (fin p))
end
theorem foldl_rep (v : Value) : ∀ (n : Nat) (acc : Array Value), List.foldl (fun x1 x2 => x1 ++ x2) acc (List.replicate n #[v]) = acc ++ (List.replicate n v).toArray
  | 0, acc => by simp
  | n + 1, acc => by
    rw [List.replicate_succ, List.foldl_cons, foldl_rep v n, List.replicate_succ]
    apply Array.toList_inj.mp
    simp

section
variable {prog : Program} {w : World} {A : Around} {E : Value → Shared → Prop} {s : Shared} {h₀ : Heap} {L D : Addr} {m : Str → Option Value} {news : List (Addr × Obj)}

/-- a list of one item, many times -/
theorem mul1_L {v : Value} {c : Nat} {x : Int} {u : Tok} {Q : Value → Shared → Prop} (F : Fr h₀ L s.heap m) (N : News h₀ L s.heap news) (hm : (D, listOf #[v] c) ∈ news) (h0 : 0 ≤ x) (hx : x < 100000)
    (h : ∀ B h', Fr h₀ L h' m → News h₀ L h' ((B, listOf (List.replicate x.toNat v).toArray 0) :: news) → (∀ p ∈ news, p.1 < B) → Q (.ref B) { s with heap := h' }) :
    wpAny (model prog w) A (binaryOp .Mult (.ref D) (.int x u)) Q E s := by
  refine mul_list F N (N _ hm).1 (by omega) (by omega) (by simp; omega) fun h' F' N' => ?_
  refine h _ h' F' ?_ fun p hp => Heap.lt_size (N p hp).1
  have e : List.foldl (fun x1 x2 => x1 ++ x2) #[] (List.replicate (if (#[v] : Array Value).isEmpty = true then 0 else x.toNat) #[v]) = (List.replicate x.toNat v).toArray := by
    rw [if_neg (by simp), foldl_rep]; simp
  rw [e] at N'
  exact N'

theorem add_L {B : Addr} {vs us : List Value} {c d : Nat} {Q : Value → Shared → Prop} (F : Fr h₀ L s.heap m) (N : News h₀ L s.heap news) (hm : (D, listOf vs.toArray c) ∈ news) (hm' : (B, listOf us.toArray d) ∈ news) (hsz : vs.length + us.length ≤ 100000)
    (h : ∀ R h', Fr h₀ L h' m → News h₀ L h' ((R, listOf (vs ++ us).toArray 0) :: news) → (∀ p ∈ news, p.1 < R) → Q (.ref R) { s with heap := h' }) :
    wpAny (model prog w) A (binaryOp .Add (.ref D) (.ref B)) Q E s := by
  refine add_arrays F N (News.isList N hm) (News.isList N hm') (fun h' F' N' => ?_) ?_
  · exact h _ h' F' N' fun p hp => Heap.lt_size (N p hp).1
  · rw [List.size_toArray, List.size_toArray, sizeLine_eq]; omega

theorem len_L {vs : List Value} {c : Nat} {Q : Value → Shared → Prop} (N : News h₀ L s.heap news) (hm : (D, listOf vs.toArray c) ∈ news) (hsz : vs.length ≤ 100000)
    (h : Q (.int (vs.length : Nat) (s.toks + 1)) { s with toks := s.toks + 1 + 1 }) : wpAny (model prog w) A (call (.builtin "len") [.ref D]) Q E s := by
  have e : (vs.toArray.size : Int) = (vs.length : Nat) := by simp
  refine len_list (News.isList N hm) (by rw [e]; omega) ?_
  rw [e]; exact h
end

theorem fmod_nat (n t : Nat) : ((n : Nat) : Int).fmod ((t : Nat) : Int) = ((n % t : Nat) : Int) := by
  rw [Int.fmod_eq_emod_of_nonneg _ (by omega)]; rfl
theorem neg_parts {n t D r : Nat} (h : D + r = n) (hr : r < t) : -(n : Int) = ((t - r : Nat) : Int) + (-(D : Int) - (t : Int)) := by omega
theorem fmod_neg_nat {n t : Nat} (ht : 0 < t) : (-((n : Nat) : Int)).fmod ((t : Nat) : Int) = (((t - n % t) % t : Nat) : Int) := by
  rw [Int.fmod_eq_emod_of_nonneg _ (Int.natCast_nonneg t)]
  by_cases h0 : n % t = 0
  · rw [h0, Nat.sub_zero, Nat.mod_self]
    have : (-(n : Int)) = (t : Int) * (-((n / t : Nat) : Int)) := by
      rw [Int.mul_neg, ← Int.natCast_mul, Nat.mul_div_cancel' (Nat.dvd_of_mod_eq_zero h0)]
    rw [this, Int.mul_emod_right]; rfl
  · have hs := Nat.sub_lt ht (Nat.pos_of_ne_zero h0)
    rw [Nat.mod_eq_of_lt hs]
    have h3 : (-(n : Int)) = ((t - n % t : Nat) : Int) + (t : Int) * (-((n / t : Nat) : Int) - 1) := by
      rw [Int.mul_sub, Int.mul_neg, Int.mul_one, ← Int.natCast_mul]
      exact neg_parts (Nat.div_add_mod n t) (Nat.mod_lt n ht)
    rw [h3, Int.add_mul_emod_self_left, Int.emod_eq_of_lt (Int.natCast_nonneg _) (Int.ofNat_lt.mpr hs)]
/-- the number that a row of bits spells -/
def bval (bl : List Int) : Int := bl.foldl (fun g b => 2 * g + b) 0
def Bits (bl : List Int) : Prop := ∀ b ∈ bl, b = 0 ∨ b = 1
/-- a row of bits in groups of t -/
def chunks (t : Nat) (bl : List Int) : List Int := (List.range (bl.length / t)).map fun j => bval ((bl.drop (t * j)).take t)

theorem bval_from (bl : List Int) : ∀ g : Int, bl.foldl (fun g b => 2 * g + b) g = g * 2 ^ bl.length + bval bl := by
  unfold bval
  induction bl with
  | nil => intro g; simp
  | cons b r ih =>
    intro g
    rw [List.foldl_cons, List.foldl_cons, ih (2 * g + b), ih (2 * 0 + b), List.length_cons, Int.pow_succ]
    generalize (2 : Int) ^ r.length = P
    grind
theorem bval_append (x y : List Int) : bval (x ++ y) = bval x * 2 ^ y.length + bval y := by
  rw [bval, List.foldl_append, bval_from]
  rfl
theorem bval_range : ∀ {bl : List Int}, Bits bl → 0 ≤ bval bl ∧ bval bl < 2 ^ bl.length := by
  intro bl
  induction bl with
  | nil => intro _; simp [bval]
  | cons b r ih =>
    intro h
    have h1 := ih fun c hc => h c (.tail _ hc)
    have h2 := h b (.head _)
    have e : bval (b :: r) = b * 2 ^ r.length + bval r := by
      have := bval_append [b] r
      simpa [bval] using this
    have hp := p2pos r.length
    rw [e, List.length_cons, Int.pow_succ]
    rcases h2 with rfl | rfl <;> omega
theorem bits_append {x y : List Int} (hx : Bits x) (hy : Bits y) : Bits (x ++ y) := fun b hb => (List.mem_append.mp hb).elim (hx b) (hy b)
theorem bits_sub {x y : List Int} (h : Bits y) (hs : ∀ b ∈ x, b ∈ y) : Bits x := fun b hb => h b (hs b hb)
theorem bits_zeros (n : Nat) : Bits (List.replicate n 0) := fun b hb => .inl (List.eq_of_mem_replicate hb)
theorem bval_zeros (n : Nat) : bval (List.replicate n 0) = 0 := by
  induction n with
  | zero => rfl
  | succ n ih =>
    have h := bval_append [0] (List.replicate n 0)
    rw [ih, List.singleton_append] at h
    rw [List.replicate_succ, h]
    simp [bval]

/-- the number of a part of a row -/
theorem bval_mid {A M C : List Int} (hM : Bits M) (hC : Bits C) : bval (A ++ M ++ C) / 2 ^ C.length % 2 ^ M.length = bval M := by
  have h1 := bval_range hM
  have h2 := bval_range hC
  have hp := p2pos C.length
  rw [bval_append, Int.add_comm, Int.add_mul_ediv_right _ _ (Int.ne_of_gt hp), Int.ediv_eq_zero_of_lt h2.1 h2.2, Int.zero_add, bval_append, Int.add_comm, Int.add_mul_emod_self_right, Int.emod_eq_of_lt h1.1 h1.2]

theorem chunk_val {bl : List Int} (hb : Bits bl) {t j : Nat} (hj : t * (j + 1) ≤ bl.length) : bval ((bl.drop (t * j)).take t) = bval bl / 2 ^ (bl.length - t * (j + 1)) % 2 ^ t := by
  have hm : t * (j + 1) = t * j + t := Nat.mul_succ t j
  have e : bl = bl.take (t * j) ++ (bl.drop (t * j)).take t ++ (bl.drop (t * j)).drop t := by
    rw [List.append_assoc, List.take_append_drop, List.take_append_drop]
  have hM : Bits ((bl.drop (t * j)).take t) := bits_sub hb fun b h => List.mem_of_mem_drop (List.mem_of_mem_take h)
  have hC : Bits ((bl.drop (t * j)).drop t) := bits_sub hb fun b h => List.mem_of_mem_drop (List.mem_of_mem_drop h)
  have lM : ((bl.drop (t * j)).take t).length = t := by rw [List.length_take, List.length_drop]; exact Nat.min_eq_left (Nat.le_sub_of_add_le (by rw [Nat.add_comm, ← hm]; exact hj))
  have lC : ((bl.drop (t * j)).drop t).length = bl.length - t * (j + 1) := by rw [List.length_drop, List.length_drop, Nat.sub_sub, ← hm]
  have h := bval_mid (A := bl.take (t * j)) hM hC
  rw [← e, lM, lC] at h
  exact h.symm

theorem chunks_cbG {bl : List Int} (hb : Bits bl) {t : Nat} (_ht : 0 < t) : chunks t bl = cbG (bval bl) bl.length t (bl.length / t) := by
  unfold chunks cbG
  refine List.map_congr_left fun j hj => ?_
  have hj' := List.mem_range.mp hj
  have h1 : t * (j + 1) ≤ t * (bl.length / t) := Nat.mul_le_mul_left _ hj'
  have h2 := Nat.mul_div_le bl.length t
  exact chunk_val hb (Nat.le_trans h1 h2)

theorem bitPlaces_succ (f : Nat) : bitPlaces (f + 1) = (f : Int) :: bitPlaces f := by
  unfold bitPlaces
  rw [List.range_succ_eq_map, List.map_cons, List.map_map]
  congr 1
  · simp
  · refine List.map_congr_left fun i _ => ?_
    simp only [Function.comp]
    omega

theorem bits_one (f : Nat) (a : Int) : Bits ((bitPlaces f).map fun z => (a.fdiv (2 ^ z.toNat)).fmod 2) := by
  intro b hb
  obtain ⟨z, _, rfl⟩ := List.mem_map.mp hb
  rw [Int.fmod_eq_emod_of_nonneg _ (by decide)]
  omega
theorem bval_one (f : Nat) : ∀ a : Int, bval ((bitPlaces f).map fun z => (a.fdiv (2 ^ z.toNat)).fmod 2) = a % 2 ^ f := by
  induction f with
  | zero => intro a; simp [bitPlaces, bval]
  | succ f ih =>
    intro a
    rw [bitPlaces_succ, List.map_cons]
    have h := bval_append [(a.fdiv (2 ^ (f : Int).toNat)).fmod 2] ((bitPlaces f).map fun z => (a.fdiv (2 ^ z.toNat)).fmod 2)
    rw [List.singleton_append, List.length_map, bitPlaces_length, ih a] at h
    rw [h]
    have e : bval [(a.fdiv (2 ^ (f : Int).toNat)).fmod 2] = a / 2 ^ f % 2 := by
      simp only [bval, List.foldl_cons, List.foldl_nil, Int.toNat_natCast]
      rw [Int.fmod_eq_emod_of_nonneg _ (by decide), Int.fdiv_eq_ediv_of_nonneg _ (Int.le_of_lt (p2pos f))]
      omega
    rw [e, Int.pow_succ]
    have h1 := mod_mul_div a (p2pos f) (show (0 : Int) < 2 by decide)
    have h2 := Int.mul_ediv_add_emod (a % (2 ^ f * 2)) (2 ^ f)
    have h3 : a % (2 ^ f * 2) % 2 ^ f = a % 2 ^ f := Int.emod_emod_of_dvd _ ⟨2, rfl⟩
    rw [h1, h3] at h2
    rw [Int.mul_comm (a / 2 ^ f % 2)]
    exact h2

theorem bitsOf_cons (f : Nat) (a : Int) (r : List Int) : bitsOf f (a :: r) = ((bitPlaces f).map fun z => (a.fdiv (2 ^ z.toNat)).fmod 2) ++ bitsOf f r := rfl
theorem bits_of (f : Nat) : ∀ ns : List Int, Bits (bitsOf f ns)
  | [] => fun _ h => nomatch h
  | a :: r => by rw [bitsOf_cons]; exact bits_append (bits_one f a) (bits_of f r)
theorem cbV_from (f : Nat) (ns : List Int) : ∀ V : Int, ns.foldl (fun V v => V * 2 ^ f + v) V = V * 2 ^ (f * ns.length) + cbV f ns := by
  unfold cbV
  induction ns with
  | nil => intro V; simp
  | cons b r ih =>
    intro V
    rw [List.foldl_cons, List.foldl_cons, ih (V * 2 ^ f + b), ih (0 * 2 ^ f + b), List.length_cons, Nat.mul_succ, p2add]
    generalize (2 : Int) ^ (f * r.length) = P
    generalize (2 : Int) ^ f = R
    grind
theorem bval_of {f : Nat} : ∀ {ns : List Int}, (∀ v ∈ ns, 0 ≤ v ∧ v < 2 ^ f) → bval (bitsOf f ns) = cbV f ns
  | [], _ => rfl
  | a :: r, h => by
    have h1 := bval_of fun v hv => h v (.tail _ hv)
    have h2 := h a (.head _)
    rw [bitsOf_cons, bval_append, bitsOf_length, h1, bval_one, Int.emod_eq_of_lt h2.1 h2.2]
    have h3 := cbV_from f r (0 * 2 ^ f + a)
    rw [Int.zero_mul, Int.zero_add] at h3
    rw [← h3]
    unfold cbV
    rw [List.foldl_cons, Int.zero_mul, Int.zero_add]

/-- what the law reckons, no padding -/
theorem due_nopad {f t : Nat} {ns : List Int} (ht : 0 < t) (h : ∀ v ∈ ns, 0 ≤ v ∧ v < 2 ^ f) :
    convOut f t false ns = if f ≤ (bitsOf f ns).length % t ∨ (1 : Int) ∈ (bitsOf f ns).drop ((bitsOf f ns).length - (bitsOf f ns).length % t) then none else some (chunks t (bitsOf f ns)) := by
  have hb := bits_of f ns
  rw [convOut_good h, if_neg (by decide), chunks_cbG hb ht, bval_of h, bitsOf_length]
  have hC : Bits ((bitsOf f ns).drop (f * ns.length - f * ns.length % t)) := bits_sub hb fun b h => List.mem_of_mem_drop h
  have lC : ((bitsOf f ns).drop (f * ns.length - f * ns.length % t)).length = f * ns.length % t := by
    have := Nat.mod_le (f * ns.length) t
    rw [List.length_drop, bitsOf_length]; omega
  have hv : cbV f ns % 2 ^ (f * ns.length % t) = bval ((bitsOf f ns).drop (f * ns.length - f * ns.length % t)) := by
    have e : bitsOf f ns = (bitsOf f ns).take (f * ns.length - f * ns.length % t) ++ (bitsOf f ns).drop (f * ns.length - f * ns.length % t) := (List.take_append_drop ..).symm
    have h1 := bval_append ((bitsOf f ns).take (f * ns.length - f * ns.length % t)) ((bitsOf f ns).drop (f * ns.length - f * ns.length % t))
    rw [← e, lC, bval_of h] at h1
    have h2 := bval_range hC
    rw [lC] at h2
    rw [h1, Int.add_comm, Int.add_mul_emod_self_right, Int.emod_eq_of_lt h2.1 h2.2]
  have hz : bval ((bitsOf f ns).drop (f * ns.length - f * ns.length % t)) ≠ 0 ↔ (1 : Int) ∈ (bitsOf f ns).drop (f * ns.length - f * ns.length % t) := by
    generalize (bitsOf f ns).drop (f * ns.length - f * ns.length % t) = C at hC
    clear lC hv hb
    induction C with
    | nil => simp [bval]
    | cons b r ih =>
      have hr : Bits r := fun c hc => hC c (.tail _ hc)
      have ih' := ih hr
      have h2 := bval_range hr
      have hp := p2pos r.length
      have e : bval (b :: r) = b * 2 ^ r.length + bval r := by
        have := bval_append [b] r
        simpa [bval] using this
      rw [e, List.mem_cons, ← ih']
      rcases hC b (.head _) with rfl | rfl
      · simp
      · simp; omega
  rw [hv]
  by_cases h1 : f ≤ f * ns.length % t
  · rw [if_pos (.inl h1), if_pos (.inl h1)]
  · by_cases h2 : (1 : Int) ∈ (bitsOf f ns).drop (f * ns.length - f * ns.length % t)
    · rw [if_pos (.inr (hz.mpr h2)), if_pos (.inr h2)]
    · rw [if_neg (fun q => q.elim h1 fun q => h2 (hz.mp q)), if_neg (fun q => q.elim h1 h2)]

theorem pad_n {N D r t : Nat} (hd : D + r = N) (hr : r < t) : N + (t - r) = D + t := by omega
theorem pad_e {N D r t T : Nat} (hd : D + r = N) (hr : r < t) (h1 : T ≤ D) : D + t - T = (t - r) + (N - T) := by omega
/-- what the law reckons, with padding -/
theorem due_pad {f t : Nat} {ns : List Int} (ht : 0 < t) (h : ∀ v ∈ ns, 0 ≤ v ∧ v < 2 ^ f) :
    convOut f t true ns = some (chunks t (bitsOf f ns ++ List.replicate ((t - (bitsOf f ns).length % t) % t) 0)) := by
  have hb := bits_of f ns
  have hb' := bits_append hb (bits_zeros ((t - (bitsOf f ns).length % t) % t))
  rw [convOut_good h, if_pos rfl, chunks_cbG hb' ht, bval_append, bval_zeros, bval_of h, List.length_append, List.length_replicate, bitsOf_length, Int.add_zero]
  have hr := Nat.mod_lt (f * ns.length) ht
  have hd := Nat.div_add_mod (f * ns.length) t
  by_cases h0 : f * ns.length % t = 0
  · rw [if_pos h0, h0, Nat.sub_zero, Nat.mod_self, Nat.add_zero, Int.pow_zero, Int.mul_one]
  · rw [if_neg h0, Nat.mod_eq_of_lt (show t - f * ns.length % t < t from Nat.sub_lt ht (Nat.pos_of_ne_zero h0))]
    generalize hd1 : f * ns.length / t = k at *
    generalize hd2 : f * ns.length % t = r at *
    have hN : f * ns.length + (t - r) = t * (k + 1) := by rw [Nat.mul_succ]; exact pad_n hd hr
    rw [hN, Nat.mul_div_cancel_left _ ht, cbG_succ]
    congr 2
    · unfold cbG
      refine List.map_congr_left fun j hj => ?_
      have hj' := List.mem_range.mp hj
      have h1 : t * (j + 1) ≤ t * k := Nat.mul_le_mul_left _ hj'
      have h2 : t * (k + 1) = t * k + t := Nat.mul_succ t k
      have e : t * (k + 1) - t * (j + 1) = (t - r) + (f * ns.length - t * (j + 1)) := by rw [h2]; exact pad_e hd hr h1
      have h3 := shift_div (cbV f ns) 0 (t - r) (f * ns.length - t * (j + 1)) (Int.le_refl _) (p2pos _)
      rw [Int.add_zero] at h3
      rw [e, h3]
    · rw [Nat.sub_self, Int.pow_zero, Int.ediv_one]
      have e : (2 : Int) ^ t = 2 ^ (t - r) * 2 ^ r := by rw [← p2add, Nat.sub_add_cancel (Nat.le_of_lt hr)]
      rw [e, Int.mul_comm (cbV f ns), Int.mul_emod_mul_of_pos _ _ (p2pos _), Int.mul_comm]

theorem rangeSize_step {n t : Nat} (ht : 0 < t) : Builtin.Range.rangeSize 0 ((n : Int) - t + 1) t = ((n / t : Nat) : Int) := by
  unfold Builtin.Range.rangeSize
  rw [if_pos (by omega)]
  by_cases h : t ≤ n
  · rw [if_pos (by omega)]
    have e : (n : Int) - t + 1 - 0 - 1 = ((n - t : Nat) : Int) := by omega
    rw [e, ← Int.natCast_ediv, Nat.div_eq_sub_div ht h]; rfl
  · rw [if_neg (by omega), Nat.div_eq_of_lt (by omega)]; rfl
theorem small_step {n t : Nat} (hn : n ≤ 100000) (ht : t ≤ 100) (h0 : 0 < t) : Builtin.Range.small 0 ((n : Int) - t + 1) t = true := by
  have h1 := Nat.div_le_self n t
  unfold Builtin.Range.small
  rw [rangeSize_step h0]
  generalize n / t = q at h1 ⊢
  simp only [Builtin.Range.rangeFitsLong, Bool.and_eq_true, Bool.or_eq_true, decide_eq_true_eq, beq_iff_eq, show (t : Int) > 0 by omega, if_true]
  omega
theorem chunks_length (t : Nat) (bl : List Int) : (chunks t bl).length = bl.length / t := by simp [chunks]
theorem chunks_take_succ {t i : Nat} {bl : List Int} (hi : i < bl.length / t) : (chunks t bl).take (i + 1) = (chunks t bl).take i ++ [bval ((bl.drop (t * i)).take t)] := by
  rw [List.take_add_one]
  congr 1
  simp [chunks, hi]
theorem bval_take_succ {bl : List Int} {j : Nat} {b : Int} (h : bl[j]? = some b) : bval (bl.take (j + 1)) = 2 * bval (bl.take j) + b := by
  rw [List.take_add_one, h]
  simp [bval]
theorem small_f {f : Nat} (h0 : 0 < f) (h : f ≤ 12) : Builtin.Range.small ((f : Int) - 1) (-1) (-1) = true := small_down (by omega) (by omega) (by decide) (by decide)
theorem down_n {f : Nat} (h0 : 0 < f) : (((f : Int) - 1 - -1).toNat : Int) = (f : Int) := by omega
theorem place_lt {f i : Nat} (h : i < f) (hf : f ≤ 12) : 0 ≤ (f : Int) - 1 + (i : Int) * -1 ∧ (f : Int) - 1 + (i : Int) * -1 < 12 := by omega
theorem cast_le {f R : Nat} {z : Int} (h : z = (R : Int)) (hc : (f : Int) ≤ z) : f ≤ R := Int.ofNat_le.mp (h ▸ hc)
theorem le_cast {f R : Nat} {z : Int} (h : z = (R : Int)) (hc : f ≤ R) : (f : Int) ≤ z := h ▸ Int.ofNat_le.mpr hc
theorem left_ok {N R : Nat} {z : Int} (h : z = (R : Int)) (hr : R ≤ N) : 0 ≤ (N : Int) - z := by
  subst h
  omega
theorem left_eq {N R : Nat} {z : Int} (h : z = (R : Int)) (hr : R ≤ N) : ((N : Int) - z).toNat = N - R := by
  subst h
  omega
theorem run0 {a : Int} {b : Nat} (h : a = (b : Int)) : 0 ≤ 0 + a := by
  subst h
  omega
theorem run1 {a : Int} {b t : Nat} (h : a = (b : Int)) : 0 ≤ 0 + a + (t : Int) := by
  subst h
  omega
theorem run2 {a : Int} {b : Nat} (h : a = (b : Int)) : (0 + a).toNat = b := by
  subst h
  omega
theorem run3 {a : Int} {b c t L : Nat} (h : a = (b : Int)) (e : c = b + t) (hl : c ≤ L) : min (0 + a + (t : Int)).toNat L - b = t := by
  subst h e
  rw [show (0 + (b : Int) + (t : Int)).toNat = b + t by omega, Nat.min_eq_left hl, Nat.add_sub_cancel_left]
set_option maxHeartbeats 4000000 in
theorem due_ok {w : World} {l : Addr} {vs : List Value} {c f t : Nat} {tf tt : Tok} {ns : List Int} {news : List (Addr × Obj)} (hI : IntsAre vs ns) (hlen : ns.length < 1000) (hl : (l, listOf vs.toArray c) ∈ news)
   (hf : 0 < f) (hf' : f ≤ 12) (ht : 0 < t) (ht' : t ≤ 12) (pad : Bool) :
    CallOk w 2 89 [.ref l, .int f tf, .int t tt, .bool pad] news
      (fun v news' => (convOut f t pad ns = none ∧ v = .none ∧ news' = news) ∨ (∃ D us c' r, convOut f t pad ns = some r ∧ v = .ref D ∧ IntsAre us r ∧ (∀ p ∈ news, p.1 < D) ∧ news' = (D, listOf us.toArray c') :: news)) := by
  refine hideRet fun Ret hRet => ?_
  refine' callOk_introC (k := 1) [(Str.ofString "values", .ref l), (Str.ofString "width", .int f tf), (Str.ofString "other", .int t tt), (Str.ofString "pad", .bool pad)]
    (fun y => if y = Str.ofString "pad" then some (.bool pad) else if y = Str.ofString "other" then some (.int t tt) else if y = Str.ofString "values" then some (.ref l) else none)
    ?ho ?hcd ?hbind ?hloc ?hnd ?hm ?h ?c2 ?c3 ?c4
  walk_at "my enterC"
  intro mean mg mb dp un gd outer A₀ base g L' h₁ tk s₀ cells B F X N Y T hdp hu hltL
  have RM : Room dp un 1 := ⟨hdp, hu⟩
  clear hdp hu
  obtain ⟨oW, rfl, hW⟩ := CellsAre.one Y
  replace hW : oW.data = .cell (some (.int f tf)) := hW
  walk_at "my steps"
  replace N : News g L' h₁ ((L' + 1, oW) :: news) := N
  clear Y
  refine' lc_evalT (h₀ := g) (L := L') IntV IntV ns (fun n => decide (n < 0 ∨ 2 ^ f ≤ n)) id (by with_unfolding_all rfl) (by decide) (by rfl) (by decide) (by rfl) (by intro _; rfl) ?src ?test ?turn ?fin
  case src =>
    walk_at "my steps"
    refine src_list ?_ F N (.tail _ hl) (ofInts hI) ?_
    · rfl
    · rw [hI.length]; exact Nat.le_trans (Nat.le_of_lt hlen) (by decide)
  case test =>
    --[A
    rintro a v I oI C oC D ys m₂ h tk ha ⟨t, rfl⟩ hx ⟨hns, F, N, off, ne⟩
    walk_at "my steps"
    all_goals first | exact Kp.here (by assumption) (by assumption) | skip
    · rename a < 0 => h1
      simp [h1]
    · rename (2 : Int) ^ _ ≤ a => h1
      rw [Int.toNat_natCast] at h1
      simp [h1]
    · rename ¬ (2 : Int) ^ _ ≤ a => h1
      rename ¬ a < 0 => h2
      rw [Int.toNat_natCast] at h1
      simp [h1, h2]
    --]A
  case turn =>
    --[B
    rintro a v I oI C oC D ys m₂ h tk ha _ ⟨t, rfl⟩ hx ⟨hns, F, N, off, ne⟩
    walk_at "my steps"
    · exact ⟨_, rfl⟩
    · exact Kp.here (by assumption) (by assumption)
    --]B
  case fin =>
    intro D ys h tk hys F N hne
    have hyi := intsOf hys
    rw [List.map_id] at hyi
    clear hys
    walk_at "my steps"
    rotate_left
    · rename Fr _ _ _ _ => F1
      rename News _ _ _ _ => N1
      rename decide _ = false => hd
      have hd' : ns.filter (fun n => decide (n < 0 ∨ 2 ^ f ≤ n)) ≠ [] := by simpa using hd
      obtain ⟨b, hb⟩ := List.exists_mem_of_ne_nil _ hd'
      obtain ⟨hb1, hb2⟩ := List.mem_filter.mp hb
      refine Bk.ret F1 (News.sub N1 fun p hp => .tail _ (.tail _ (.tail _ hp))) (hRet _ _ (.inl ⟨convOut_bad hb1 ?_, rfl, rfl⟩))
      exact fun q => (of_decide_eq_true hb2).elim (fun h => absurd q.1 (Int.not_le.mpr h)) (fun h => absurd q.2 (Int.not_lt.mpr h))
    rename decide _ = true => hd
    have hval : ∀ v ∈ ns, 0 ≤ v ∧ v < 2 ^ f := by
      intro v hv
      have hd' : ns.filter (fun n => decide (n < 0 ∨ 2 ^ f ≤ n)) = [] := of_decide_eq_true hd
      have := List.filter_eq_nil_iff.mp hd' v hv
      simp only [decide_eq_true_eq, not_or, Int.not_lt, Int.not_le] at this
      exact this
    clear hd
    rename Fr _ _ _ _ => F1
    rename News _ _ _ _ => N1
    replace N1 : News g L' _ ((L' + 1, oW) :: news) := News.sub N1 fun p hp => .tail _ (.tail _ hp)
    refine' lc_assign2 (h₀ := g) (L := L') IntV IntV ns (fun _ => bitPlaces f) (fun a z => (a.fdiv (2 ^ z.toNat)).fmod 2) rfl rfl (by with_unfolding_all rfl) (by with_unfolding_all rfl) (by decide) (by rfl) (by decide) (by rfl) (by rfl) (by decide) (by intro _; rfl) (by intro _ _; rfl) (by rfl) (by rfl) ?sz ?src ?hin ?helt ?fin
    case src =>
      walk_at "my steps"
      refine src_list ?_ F1 N1 (.tail _ hl) (ofInts hI) ?_
      · rfl
      · rw [hI.length]; exact Nat.le_trans (Nat.le_of_lt hlen) (by decide)
    case sz =>
      have := bitsOf_length f ns
      unfold bitsOf at this
      rw [this]
      exact Nat.le_trans (Nat.mul_le_mul hf' (Nat.le_of_lt hlen)) (by decide)
    case hin =>
      --[C
      rintro a v I oI C oC D ys m₂ h tk ha ⟨t, rfl⟩ hx ⟨hns, F, N, off, ne⟩
      clear F1 N1
      walk_at "my steps"
      · assumption
      · assumption
      · exact small_f hf hf'
      · rw [rangeSize_downNat, bitPlaces_length]; exact down_n hf
      · rename _ < (bitPlaces f).length => hi
        rw [bitPlaces_length] at hi
        simp [bitPlaces, hi]
      --]C
    case helt =>
      --[D
      rintro a v z t2 I oI C oC D ys nw m₂ h tk ha ⟨t, rfl⟩ hz hx1 hx2 hnw ⟨hns, F, N, off, ne⟩
      clear F1 N1
      have hz2 : 0 ≤ z ∧ z < 12 := by
        obtain ⟨i, hi, rfl⟩ := List.mem_map.mp hz
        exact place_lt (List.mem_range.mp hi) hf'
      walk_at "my steps"
      · exact ⟨_, rfl⟩
      · exact Kp.here (by assumption) (by assumption)
      --]D
    case fin =>
      intro D ys h tk hys F N hne
      clear F1 N1
      have hyi := intsOf hys
      replace hyi : IntsAre ys (bitsOf f ns) := hyi
      clear hys
      have hbl : (bitsOf f ns).length ≤ 12000 := by
        rw [bitsOf_length]
        exact Nat.mul_le_mul hf' (Nat.le_of_lt hlen)
      have hr : id _ := fmod_nat (bitsOf f ns).length t
      have hq : id _ := fmod_neg_nat (n := (bitsOf f ns).length) ht
      have ht1 : (0 : Int) < (t : Int) := Int.ofNat_lt.mpr ht
      have hqb := Int.fmod_nonneg_of_pos (-((bitsOf f ns).length : Int)) ht1
      have hqc := Int.fmod_lt_of_pos (-((bitsOf f ns).length : Int)) ht1
      have hrb := Int.fmod_nonneg_of_pos ((bitsOf f ns).length : Int) ht1
      have hrc := Int.fmod_lt_of_pos ((bitsOf f ns).length : Int) ht1
      have hylen : ys.length ≤ 12000 := by rw [hyi.length]; exact hbl
      clear ht1
      walk_at "my steps if"
      rename Fr _ _ _ _ => F1
      rename News _ _ _ _ => N1
      obtain ⟨P1, hP1⟩ : ∃ P : Flow → (Str → Option Value) → List (Addr × Obj) → Prop, ∀ fl m' nw, P fl m' nw ↔ ((fl = .ret .none ∧ convOut f t pad ns = none ∧ nw = news) ∨
        (fl = .next ∧ ∃ B ws c' bl, nw = (B, listOf ws.toArray c') :: news ∧ IntsAre ws bl ∧ bl.length ≤ 13000 ∧ Bits bl ∧ m' (Str.ofString "bits") = some (.ref B) ∧ m' (Str.ofString "other") = some (.int t tt) ∧ convOut f t pad ns = some (chunks t bl))) := ⟨_, fun _ _ _ => Iff.rfl⟩
      refine wpAny_mono (Q := Mid g L' s₀ P1) ?iff ?rest (fun _ _ x => x)
      case iff =>
        --[E
        walk_at "my steps"
        · rename Fr _ _ _ _ => F2
          rename News _ _ _ _ => N2
          rename IntsAre _ (bitsOf f ns ++ _) => hI2
          rename pad = true => hpad
          rw [show (-((bitsOf f ns).length : Int)).fmod (t : Int) = _ from hq, Int.toNat_natCast, List.flatten_replicate_singleton] at hI2
          refine' Mid.at F2 N2 ?hs ((hP1 _ _ _).mpr (Or.inr ⟨rfl, _, _, 0, _, rfl, hI2, ?ha, bits_append (bits_of f ns) (bits_zeros _), rfl, rfl, ?hb⟩))
          case ha => rw [List.length_append, List.length_replicate]; exact Nat.le_trans (Nat.add_le_add hbl (Nat.le_trans (Nat.le_of_lt (Nat.mod_lt _ ht)) ht')) (by decide)
          case hb => rw [hpad]; exact due_pad ht hval
          case hs =>
            intro p hp
            rcases List.mem_cons.mp hp with rfl | hp
            · exact .head _
            · exact .tail _ (.tail _ (.tail _ (.tail _ (.tail _ hp))))
        · rename Fr _ _ _ _ => F2
          rename News _ _ _ _ => N2
          rename pad = false => hpad
          rename (f : Int) ≤ _ => hc
          refine Mid.at F2 N2 (nw := news) (fun p hp => .tail _ (.tail _ hp)) ((hP1 _ _ _).mpr (Or.inl ⟨rfl, ?_, rfl⟩))
          rw [hpad, due_nopad ht hval, if_pos (.inl (cast_le hr hc))]
        · rename Fr _ _ _ _ => F2
          rename News _ _ _ _ => N2
          rename ¬ (f : Int) ≤ _ => hc
          refine' kmk_slice_ints (s := Shared.mk _ _ _ _ _) ?sF ?sN ?sl ?sp ?sq ?si ?sm ?sc ?_ ?ss ?st ?sz
          case sF => exact F2
          case sN => exact N2
          case sl => exact News.isList N2 (.head _)
          case sp => exact IsPart.int _ _
          case sq => exact IsPart.none
          case si => exact hyi
          case sm => exact kmk_from hyi (left_ok hr (Nat.mod_le _ _))
          case sc => rfl
          case ss => with_unfolding_all rfl
          case st => intro _; with_unfolding_all rfl
          case sz => rw [List.size_toArray, sizeLine_eq]; exact Nat.le_trans hylen (by decide)
          intro D2 ws2 h2 F3 N3 hlt3 hI3 _ _
          have hdrop : ((bitsOf f ns).length - ((bitsOf f ns).length : Int).fmod t).toNat = (bitsOf f ns).length - (bitsOf f ns).length % t := left_eq hr (Nat.mod_le _ _)
          rw [hdrop] at hI3
          try rw [hdrop]
          walk_at "my steps"
          · rename List.any _ _ = true => han
            rename Fr _ _ _ _ => F4
            rename News _ _ _ _ => N4
            refine Mid.at F4 N4 (nw := news) (fun p hp => .tail _ (.tail _ (.tail _ hp))) ((hP1 _ _ _).mpr (Or.inl ⟨rfl, ?_, rfl⟩))
            rename pad = false => hpad
            obtain ⟨x, hx1, hx2⟩ := List.any_eq_true.mp han
            have hx3 : x = 1 := eq_of_beq hx2
            rw [hx3] at hx1
            rw [hpad, due_nopad ht hval, if_pos (.inr hx1)]
          · rename List.any _ _ = false => han
            rename Fr _ _ _ _ => F4
            rename News _ _ _ _ => N4
            refine Mid.at F4 N4 (nw := (D, listOf ys.toArray ys.length) :: news) (fun p hp => ?_) ((hP1 _ _ _).mpr (Or.inr ⟨rfl, D, ys, _, _, rfl, hyi, Nat.le_trans hbl (by decide), bits_of f ns, rfl, rfl, ?_⟩))
            · rcases List.mem_cons.mp hp with rfl | hp
              · exact .tail _ (.head _)
              · exact .tail _ (.tail _ (.tail _ hp))
            rename pad = false => hpad
            rw [hpad, due_nopad ht hval, if_neg]
            rintro (h | h)
            · exact hc (le_cast hr h)
            · have := List.any_eq_false.mp han 1 h
              simp at this
        --]E
      case rest =>
        --[F
        rintro fl s' ⟨h2, tk2, m2, nw2, rfl, F2, N2, hPP⟩
        obtain ⟨rfl, hc, rfl⟩ | ⟨rfl, B, ws, c2, bl, rfl, hws, hbl2, hbb, hm1, hm2, hc⟩ := (hP1 _ _ _).mp hPP
        · exact Bk.ret F2 N2 (hRet _ _ (.inl ⟨hc, rfl, rfl⟩))
        dsimp only
        clear F1 N1 hr hq hqb hqc hrb hrc hylen hbl
        walk_at "my steps"
        rename Fr _ _ _ _ => F3
        rename News _ _ _ _ => N3
        rename _ < _ ∧ AllLt _ news => hlt
        obtain ⟨R, hR, hlt⟩ := named (P := fun R => B < R ∧ AllLt R news) hlt
        subst hR
        have hltR := ktn_ltOf hlt.2
        have hnR : ∀ p ∈ news, p.1 ≠ R := forNews hltR
        have hBR : @Ne Nat B R := Nat.ne_of_lt hlt.1
        refine For_invVF F3 rfl rfl ?_
        walk_at "my steps"
        rename IsRange _ _ _ _ _ _ _ _ => hrg
        rename Fr _ _ _ _ => F4
        rename News _ _ _ _ => N4
        obtain ⟨J, hJ⟩ : ∃ J : Nat → (Str → Option Value) → List (Addr × Obj) → Prop, ∀ i m nx, J i m nx ↔ (∃ us c', IntsAre us ((chunks t bl).take i) ∧ nx = (R, listOf us.toArray c') :: (B, listOf ws.toArray c2) :: news ∧ m (Str.ofString "groups") = some (.ref R) ∧ m (Str.ofString "bits") = some (.ref B) ∧ m (Str.ofString "other") = some (.int t tt)) := ⟨_, fun _ _ _ => Iff.rfl⟩
        refine iter_range (x := Str.ofString "start") (n := bl.length / t) J rfl hrg (small_step (Nat.le_trans hbl2 (by decide)) (Nat.le_trans ht' (by decide)) ht) (rangeSize_step ht) F4 N4 ?hj ?turn ?done
        case hj => exact (hJ _ _ _).mpr ⟨[], 0, .nil, rfl, rfl, hm1, hm2⟩
        case turn =>
          intro i ti m₁ news₁ h tk I oI hi hjj hoff F5 N5
          obtain ⟨us, c', hus, rfl, hg1, hg2, hg3⟩ := (hJ _ _ _).mp hjj
          have hBI : @Ne Nat B I := hoff _ (.tail _ (.head _))
          have hRI : @Ne Nat R I := hoff _ (.head _)
          have hnI : ∀ p ∈ news, p.1 ≠ I := fun p hp => hoff p (.tail _ (.tail _ hp))
          clear F4 N4
          walk_at "my steps"
          rename Fr _ _ _ _ => F6
          rename News _ _ _ _ => N6
          have hti : t * (i + 1) ≤ bl.length := Nat.le_trans (Nat.mul_le_mul_left _ hi) (Nat.mul_div_le bl.length t)
          have hmi : t * (i + 1) = t * i + t := Nat.mul_succ t i
          have hmi2 : (i : Int) * t = ((t * i : Nat) : Int) := by rw [Int.natCast_mul, Int.mul_comm]
          refine For_invVF F6 rfl rfl ?_
          walk_at "my steps"
          refine' kmk_slice_ints (s := Shared.mk _ _ _ _ _) ?sF ?sN ?sl ?sp ?sq ?si ?sm ?sc ?_ ?ss ?st ?sz
          case sF => k_asm
          case sN => k_asm
          case sl => exact News.isList (by k_asm) (.tail _ (.tail _ (.head _)))
          case sp => exact IsPart.int _ _
          case sq => exact IsPart.int _ _
          case si => exact hws
          case sm => exact kmk_run hws (run0 hmi2) (run1 hmi2)
          case sc => rfl
          case ss => with_unfolding_all rfl
          case st => intro _; with_unfolding_all rfl
          case sz => rw [List.size_toArray, sizeLine_eq, hws.length]; exact Nat.le_trans hbl2 (by decide)
          intro D2 ws2 h2 F7 N7 hlt7 hI7 _ _
          have e1 : ((0 : Int) + i * t).toNat = t * i := run2 hmi2
          have e2 : min ((0 : Int) + i * t + t).toNat bl.length - (t * i) = t := run3 hmi2 hmi hti
          rw [e1, e2] at hI7
          clear e1 e2 hmi2 hmi hti
          have hD2 : ∀ p ∈ (I, oI) :: (R, listOf us.toArray c') :: (B, listOf ws.toArray c2) :: news, p.1 ≠ D2 := forNews hlt7
          clear hlt7
          obtain ⟨K, hK⟩ : ∃ K : Nat → (Str → Option Value) → List (Addr × Obj) → Prop, ∀ j m nx, K j m nx ↔ ((∃ tk, m (Str.ofString "group") = some (.int (bval (((bl.drop (t * i)).take t).take j)) tk)) ∧ m (Str.ofString "groups") = some (.ref R) ∧ m (Str.ofString "bits") = some (.ref B) ∧ m (Str.ofString "other") = some (.int t tt) ∧ nx = (D2, listOf ws2.toArray 0) :: (I, oI) :: (R, listOf us.toArray c') :: (B, listOf ws.toArray c2) :: news) := ⟨_, fun _ _ _ => Iff.rfl⟩
          refine iter_list (x := Str.ofString "bit") (l := D2) (vs := ws2) (nn := 0) K rfl ?hJl2 F7 N7 ?hj2 ?turn2 ?done2
          case hJl2 =>
            intro j m nx hkk
            obtain ⟨_, _, _, _, rfl⟩ := (hK _ _ _).mp hkk
            exact .head _
          case hj2 => exact (hK _ _ _).mpr ⟨some_int rfl (by simp [bval]), hg1, hg2, hg3, rfl⟩
          case turn2 =>
            intro j v m₂ news₂ h tk I2 oI2 hv hkk hoff2 F8 N8
            obtain ⟨⟨tg, hm0⟩, hm1, hm2, hm3, rfl⟩ := (hK _ _ _).mp hkk
            obtain ⟨b, tb, rfl, hb⟩ := IntsAre.at hI7 j v hv
            have hBs : Bits (((bl.drop (t * i)).take t).take j) := bits_sub hbb fun b h => List.mem_of_mem_drop (List.mem_of_mem_take (List.mem_of_mem_take h))
            have hrg := bval_range hBs
            have hln : (((bl.drop (t * i)).take t).take j).length ≤ 12 := by rw [List.length_take, List.length_take]; exact Nat.le_trans (Nat.min_le_right _ _) (Nat.le_trans (Nat.min_le_left _ _) ht')
            have hup : bval (((bl.drop (t * i)).take t).take j) < 2 ^ 12 := Int.lt_of_lt_of_le hrg.2 (p2mono hln)
            have hbb2 := hbb b (List.mem_of_mem_drop (List.mem_of_mem_take (List.mem_of_getElem? hb)))
            clear F7 N7 F6 N6 F5 N5
            walk_at "my steps"
            rename Fr _ _ _ _ => F9
            rename News _ _ _ _ => N9
            exact TurnP.next F9 N9 (fun p hp => hp) hoff2 ((hK _ _ _).mpr ⟨some_int rfl (bval_take_succ hb).symm, hm1, hm2, hm3, rfl⟩)
          case done2 =>
            intro m₂ nx₂ h tk hkk F8 N8
            obtain ⟨⟨tg, hm0⟩, hm1, hm2, hm3, rfl⟩ := (hK _ _ _).mp hkk
            clear F7 N7 F6 N6 F5 N5
            walk_at "my steps"
            have hul := hus.length
            rw [List.length_take, chunks_length] at hul
            have hRn : ∀ p ∈ (B, listOf ws.toArray c2) :: news, p.1 ≠ R := by
              intro p hp
              rcases List.mem_cons.mp hp with rfl | hp
              · exact hBR
              · exact hnR p hp
            refine append_L F8 N8 (Upd.tail (hD2 _ (.tail _ (.head _))).symm (Upd.tail hRI.symm (Upd.head hRn))) (Nat.le_trans (Nat.le_of_eq hul) (Nat.le_trans (Nat.min_le_right _ _) (Nat.le_trans (Nat.div_le_self bl.length t) (Nat.le_trans hbl2 (by decide))))) ?_
            intro h5 F9 N9
            walk_at "my steps"
            have hlw : ws2.length = ((bl.drop (t * i)).take t).length := hI7.length
            refine TurnP.next F9 N9 (fun p hp => .tail _ hp) (fun p hp => ?_) ((hJ _ _ _).mpr ⟨_, c' + 1, ?_, rfl, hm1, hm2, hm3⟩)
            · rcases List.mem_cons.mp hp with rfl | hp
              · exact hRI
              rcases List.mem_cons.mp hp with rfl | hp
              · exact hBI
              · exact hnI p hp
            · rw [chunks_take_succ hi]
              refine IntsAre.append hus ?_
              rw [hlw, List.take_length]
              exact .cons _ _ .nil
        case done =>
          intro m₁ nx h tk hjj F5 N5
          obtain ⟨us, c', hus, rfl, hg1, hg2, hg3⟩ := (hJ _ _ _).mp hjj
          rw [← chunks_length, List.take_length] at hus
          clear F4 N4
          walk_at "my steps"
          exact Bk.ret F5 (News.sub N5 fun p hp => (List.mem_cons.mp hp).elim (fun e => e ▸ .head _) fun h => .tail _ (.tail _ h)) (hRet _ _ (.inr ⟨R, us, c', _, hc, rfl, hus, hltR, rfl⟩))
        --]F
section
local macro_rules | `(tactic| walk_at "my steps ie") => `(tactic| ((repeat' (
  (fail_if_success (with_reducible show wpAny _ _ (exec (Stmt.Assign _ (Expr.IfExp _ _ _ _) _) _) _ _ _));
  (fail_if_success cell_call);
  first | (walk1; (try dsimp only)) | (dsimp only; walk1; (try dsimp only)) | dsimp only)); (all_goals (try k_data))))
theorem convOut_len {f t : Nat} {pad : Bool} {ns r : List Int} (h : convOut f t pad ns = some r) : t * r.length ≤ f * ns.length + t := by
  by_cases hv : ∀ v ∈ ns, 0 ≤ v ∧ v < 2 ^ f
  · rw [convOut_good hv] at h
    have hd := Nat.div_add_mod (f * ns.length) t
    have hc : ∀ V N k, (cbG V N t k).length = k := fun V N k => by simp [cbG]
    split at h
    · split at h
      · have h := Option.some.inj h
        rw [← h, hc]; omega
      · have h := Option.some.inj h
        rw [← h, List.length_append, hc, List.length_singleton, Nat.mul_succ]; omega
    · split at h
      · cases h
      · have h := Option.some.inj h
        rw [← h, hc]; omega
  · obtain ⟨v, hv⟩ := Classical.not_forall.mp hv
    obtain ⟨hm, hv⟩ := Classical.not_imp.mp hv
    rw [convOut_bad hm hv] at h
    cases h

theorem one_to {a : Int} (h0 : 0 ≤ a) (h : a < 12) : ∃ f : Nat, 1 + a = (f : Int) ∧ 0 < f ∧ f ≤ 12 := ⟨(1 + a).toNat, by omega, by omega, by omega⟩
theorem one_to4 {a : Int} (h0 : 0 ≤ a) (h : a < 4) : ∃ f : Nat, 1 + a = (f : Int) ∧ 0 < f ∧ f ≤ 4 := ⟨(1 + a).toNat, by omega, by omega, by omega⟩
theorem small4 {n : Nat} (h : 0 < n ∧ n ≤ 4) : Builtin.Range.small 0 (n : Int) 1 = true := by
  rcases (by omega : n = 1 ∨ n = 2 ∨ n = 3 ∨ n = 4) with rfl | rfl | rfl | rfl <;> rfl
theorem len_small {f n i : Nat} (h0 : 0 < f) (hb : f * n ≤ 120 + 12 * i) (hi : i < 4) : n < 1000 :=
  Nat.lt_of_le_of_lt (Nat.le_trans (Nat.le_mul_of_pos_left n h0) hb) (by omega)
theorem turn_sum {a b t i : Nat} (hc : a ≤ b + t) (hb : b ≤ 120 + 12 * i) (ht : t ≤ 12) : a ≤ 120 + 12 * (i + 1) := by omega

set_option maxHeartbeats 4000000 in
theorem chain_ok {w : World} {l : Addr} {vs : List Value} {c : Nat} {ns : List Int} {news : List (Addr × Obj)} (hI : IntsAre vs ns) (hlen : ns.length < 40) (hne : ∀ p ∈ news, p.1 ≠ l) :
    CallOk w 4 94 [.ref l] ((l, listOf vs.toArray c) :: news) (fun v _ => v = .bool true) := by
  refine' callOk_introC (k := 3) [(Str.ofString "rest", .ref l)] (fun y => none)
    ?ho ?hcd ?hbind ?hloc ?hnd ?hm ?h ?c2 ?c3 ?c4
  walk_at "my enterC"
  intro mean mg mb dp un gd outer A₀ base g L' h₁ tk s₀ cells B F X N Y T hdp hu hltL
  have RM : Room dp un 3 := ⟨hdp, hu⟩
  clear hdp hu
  obtain ⟨oW, oW2, rfl, hW, hW2⟩ := CellsAre.two Y
  replace hW : oW.data = .cell none := hW
  replace hW2 : oW2.data = .cell (some (.ref l)) := hW2
  clear Y
  replace N : News g L' h₁ [(l, listOf vs.toArray c), (L' + 1 + 1, oW), (L' + 1, oW2)] := News.sub N (by kcf_all)
  have hlL : @LT.lt Nat _ l L' := hltL _ (.head _)
  clear hltL hne
  have hn1 : ∀ p ∈ [(L' + 1 + 1, oW), (L' + 1, oW2)], p.1 ≠ l := by
    refine List.forall_mem_cons.mpr ⟨?_, List.forall_mem_cons.mpr ⟨?_, List.forall_mem_nil _⟩⟩
    · exact Nat.ne_of_gt (Nat.lt_succ_of_lt (Nat.lt_succ_of_lt hlL))
    · exact Nat.ne_of_gt (Nat.lt_succ_of_lt hlL)
  have hlW : @Ne Nat l (L' + 1 + 1) := Nat.ne_of_lt (Nat.lt_succ_of_lt (Nat.lt_succ_of_lt hlL))
  have hlR : @Ne Nat l (L' + 1) := Nat.ne_of_lt (Nat.lt_succ_of_lt hlL)
  have hRW : @Ne Nat (L' + 1) (L' + 1 + 1) := Nat.ne_of_lt (Nat.lt_succ_self _)
  have hkW : ∀ p ∈ [(L' + 1, oW2)], p.1 ≠ L' + 1 + 1 := List.forall_mem_cons.mpr ⟨hRW, List.forall_mem_nil _⟩
  walk_at "my steps"
  refine CallOk.use (draw_ok (c := c) hI (Nat.lt_trans hlen (by decide)) hn1) B (by k_asm) X T N rfl (RM.d' (by decide)) (RM.u' (by decide)) ?_
  rintro v nw h2 tk2 ⟨t1, vs1, c1, rfl, hI1, rfl⟩ F1 N1
  clear F N
  have hw1 := Int.fmod_nonneg_of_pos (ns.headD 0) (show (0 : Int) < 12 by decide)
  have hw2 := Int.fmod_lt_of_pos (ns.headD 0) (show (0 : Int) < 12 by decide)
  obtain ⟨f, hf, hf0, hf12⟩ := one_to hw1 hw2
  walk_at "my steps"
  rename Fr _ _ _ _ => F2
  rename News _ _ _ _ => N2
  rename Obj => oF
  rename oF.data = _ => hF
  rw [hf] at hF
  obtain ⟨tf, hF⟩ : ∃ t, oF.data = .cell (some (.int f t)) := ⟨_, hF⟩
  have hl1 : ns.tail.length ≤ 40 := by rw [List.length_tail]; exact Nat.le_trans (Nat.sub_le _ _) (Nat.le_of_lt hlen)
  generalize hns1 : ns.tail = ns1 at hI1 hl1
  clear hns1 hf hw1 hw2 hI hlen hW vs c ns
  have hn1' : ∀ p ∈ [(L' + 1 + 1, oF), (L' + 1, oW2)], p.1 ≠ l := List.forall_mem_cons.mpr ⟨hlW.symm, List.forall_mem_cons.mpr ⟨hlR.symm, List.forall_mem_nil _⟩⟩
  obtain ⟨n, hn, hn4⟩ := one_to4 (Int.fmod_nonneg_of_pos (ns1.headD 0) (show (0 : Int) < 4 by decide)) (Int.fmod_lt_of_pos (ns1.headD 0) (show (0 : Int) < 4 by decide))
  replace hn4 : id (0 < n ∧ n ≤ 4) := hn4
  have hl2 : ns1.tail.length ≤ 40 := by rw [List.length_tail]; exact Nat.le_trans (Nat.sub_le _ _) hl1
  refine' lc_assignL (h₀ := g) (L := L') (m := fun _ => none) IntV ((List.range n).map fun (i : Nat) => 0 + (i : Int) * 1) (fun (_ : Unit) i ys nw => ∃ vs' c' ns' zs, IntsAre vs' ns' ∧ ns'.length ≤ 40 ∧ IntsAre ys zs ∧ zs.length = i ∧ nw = [(l, listOf vs'.toArray c'), (L' + 1 + 1, oF), (L' + 1, oW2)]) (by rfl) (by with_unfolding_all rfl) (by with_unfolding_all rfl) (by decide) (by rfl) (by decide) (by rfl) (by intro _; rfl) (by rfl) (by rfl) ?src ?turn ?fin
  case src =>
    walk_at "my steps"
    refine CallOk.use (draw_ok (c := c1) hI1 (Nat.lt_of_le_of_lt hl1 (by decide)) hn1') B F2 X T N2 rfl (RM.d' (by decide)) (RM.u' (by decide)) ?_
    rintro v nw h3 tk3 ⟨t1, vs2, c2, rfl, hI2, rfl⟩ F3 N3
    clear F2 N2
    walk_at "my steps"
    rename Fr _ _ _ _ => F4
    rename News _ _ _ _ => N4
    rename IsRange _ _ _ _ _ _ _ _ => hrg
    rw [hn] at hrg
    refine srcL_range () rfl F4 N4 ⟨_, c2, _, [], hI2, hl2, .nil, rfl, rfl⟩ hrg (small4 hn4) ?_ (Nat.le_trans hn4.2 (by decide))
    · rw [rangeSize_nat]; simp
  case turn =>
    --[A
    rintro _ i a v I oI C oC D ys nw m₂ h tk ha ⟨t, rfl⟩ ⟨vs', c', ns', zs, hI2, hl3, hys, hzs, rfl⟩ hx ⟨hns, F, N, off, ne⟩
    clear F2 N2
    walk_at "my steps"
    have hIl : ∀ p ∈ [(I, oI), (C, oC), (D, LCg.lst ys), (L' + 1 + 1, oF), (L' + 1, oW2)], p.1 ≠ l := by
      refine List.forall_mem_cons.mpr ⟨?_, List.forall_mem_cons.mpr ⟨?_, List.forall_mem_cons.mpr ⟨?_, hn1'⟩⟩⟩
      · exact off.1.1.symm
      · exact off.1.2.1.symm
      · exact off.1.2.2.symm
    refine CallOk.use (draw_ok (c := c') hI2 (Nat.lt_of_le_of_lt hl3 (by decide)) hIl) B F X T (News.sub N (by kcf_all)) rfl (RM.d' (by decide)) (RM.u' (by decide)) ?_
    rintro v nw h3 tk3 ⟨t1, vs2, c2, rfl, hI3, rfl⟩ F3 N3
    refine KpL.at (nw := [(l, listOf vs2.toArray c2), (L' + 1 + 1, oF), (L' + 1, oW2)]) F3 N3 (by kcf_all) ⟨off.1, off.2⟩ ⟨_, c2, _, zs ++ [_], hI3, by rw [List.length_tail]; exact Nat.le_trans (Nat.sub_le _ _) hl3, IntsAre.append hys (.cons _ _ .nil), by simp [hzs], rfl⟩
    --]A
  case fin =>
    rintro _ S ss nw h tk ⟨vs', c', ns', zs, hI2, hl3, hys, hzs, rfl⟩ F3 N3 hD
    clear F2 N2 hn1
    have hlS : @Ne Nat l S := hD _ (.head _)
    have hWS : @Ne Nat (L' + 1 + 1) S := hD _ (.tail _ (.head _))
    have hRS : @Ne Nat (L' + 1) S := hD _ (.tail _ (.tail _ (.head _)))
    rw [List.length_map, List.length_range] at hzs
    have hz0 : 0 < zs.length := hzs ▸ hn4.1
    replace hzs : id (zs.length = n) := hzs
    clear hD
    walk_at "my steps"
    rename Fr _ _ _ _ => F3
    rename News _ _ _ _ => N3
    refine' lc_assignL (h₀ := g) (L := L') (m := fun z => if z = Str.ofString "steps" then some (.ref S) else none) IntV (ns'.take 10) (fun (p : Addr × List Value) i ys nw => ∃ us, IntsAre ys us ∧ us.length = i ∧ nw = [(p.1, listOf p.2.toArray 0), (S, listOf ss.toArray ss.length), (l, listOf vs'.toArray c'), (L' + 1 + 1, oF), (L' + 1, oW2)]) (by rfl) (by with_unfolding_all rfl) (by with_unfolding_all rfl) (by decide) (by rfl) (by decide) (by rfl) (by intro _; rfl) (by rfl) (by rfl) ?src ?turn ?fin
    case src =>
      walk_at "my steps"
      refine' kmk_slice_ints (s := Shared.mk _ _ _ _ _) ?sF ?sN ?sl ?sp ?sq ?si ?sm ?sc ?_ ?ss ?st ?sz
      case sF => exact F3
      case sN => exact N3
      case sl => exact News.isList N3 (.tail _ (.head _))
      case sp => exact IsPart.none
      case sq => exact IsPart.int _ _
      case si => exact hI2
      case sm => exact kmk_upto hI2 (by decide)
      case sc => rfl
      case ss => with_unfolding_all rfl
      case st => intro _; with_unfolding_all rfl
      case sz => rw [List.size_toArray, sizeLine_eq, hI2.length]; exact Nat.le_trans hl3 (by decide)
      intro D2 ws2 h2 F4 N4 hlt4 hI4 _ _
      refine srcL_list (D2, ws2) (c := 0) rfl F4 N4 ⟨[], .nil, rfl, rfl⟩ ?_ (ofInts hI4) ?_
      · rintro i ys nw ⟨us, hys, hzs, rfl⟩
        exact .head _
      · rw [hI4.length, List.length_take]
        exact Nat.le_trans (Nat.min_le_left _ _) (by decide)
    case turn =>
      rintro ⟨D2, ws⟩ i a v I oI C oC D ys nw m₂ h tk ha ⟨t, rfl⟩ ⟨us, hys, hzs, rfl⟩ hx ⟨hns, F, N, off, ne⟩
      clear F3 N3
      walk_at "my steps"
      rename Fr _ _ _ _ => F4
      rename News _ _ _ _ => N4
      refine KpL.at (nw := [(D2, listOf ws.toArray 0), (S, listOf ss.toArray ss.length), (l, listOf vs'.toArray c'), (L' + 1 + 1, oF), (L' + 1, oW2)]) F4 N4 (by kcf_all) off ⟨us ++ [_], IntsAre.append hys (.cons _ _ .nil), by simp [hzs], rfl⟩
    case fin =>
      rintro ⟨D2, ws⟩ V ys nw h tk ⟨us, hyv, hzs2, rfl⟩ F4 N4 hD
      clear F3 N3
      rw [List.length_take] at hzs2
      have hSV : @Ne Nat S V := hD _ (.tail _ (.head _))
      have hWV : @Ne Nat (L' + 1 + 1) V := hD _ (.tail _ (.tail _ (.tail _ (.head _))))
      have hRV : @Ne Nat (L' + 1) V := hD _ (.tail _ (.tail _ (.tail _ (.tail _ (.head _)))))
      replace N4 : News g L' _ [(V, listOf ys.toArray ys.length), (S, listOf ss.toArray ss.length), (L' + 1 + 1, oF), (L' + 1, oW2)] := News.sub N4 (by kcf_all)
      clear hD hI2 hW2 hlS hlW hlR hl3
      walk_at "my steps if"
      obtain ⟨P1, hP1⟩ : ∃ P : Flow → (Str → Option Value) → List (Addr × Obj) → Prop, ∀ fl m' nw, P fl m' nw ↔ (fl = .next ∧ ∃ V us ys c, IntsAre us ys ∧ 0 < ys.length ∧ ys.length ≤ 10 ∧ (∀ p ∈ [(S, listOf ss.toArray ss.length), (L' + 1 + 1, oF)], p.1 ≠ V) ∧ m' (Str.ofString "steps") = some (.ref S) ∧ m' (Str.ofString "values") = some (.ref V) ∧ nw = [(V, listOf us.toArray c), (S, listOf ss.toArray ss.length), (L' + 1 + 1, oF)]) := ⟨_, fun _ _ _ => Iff.rfl⟩
      refine wpAny_mono (Q := Mid g L' s₀ P1) ?iff ?rest (fun _ _ x => x)
      case iff =>
        walk_at "my steps"
        · rename Fr _ _ _ _ => F5
          rename News _ _ _ _ => N5
          rename _ ∧ _ ∧ _ ∧ _ ∧ _ => hlt
          refine Mid.at F5 N5 (nw := [(_, listOf [Value.int 1 _].toArray 0), (S, listOf ss.toArray ss.length), (L' + 1 + 1, oF)]) (by kcf_all) ((hP1 _ _ _).mpr ⟨rfl, _, _, [1], _, .cons _ _ .nil, by decide, by decide, ?_, rfl, rfl, rfl⟩)
          exact List.forall_mem_cons.mpr ⟨Nat.ne_of_lt hlt.2.2.1, List.forall_mem_cons.mpr ⟨Nat.ne_of_lt hlt.2.2.2.1, List.forall_mem_nil _⟩⟩
        · rename Fr _ _ _ _ => F5
          rename News _ _ _ _ => N5
          rename decide _ = false => hd
          refine Mid.at F5 N5 (nw := [(V, listOf ys.toArray ys.length), (S, listOf ss.toArray ss.length), (L' + 1 + 1, oF)]) (by kcf_all) ((hP1 _ _ _).mpr ⟨rfl, V, ys, us, _, hyv, ?_, Nat.le_trans (Nat.le_of_eq hzs2) (Nat.min_le_left _ _), ?_, rfl, rfl, rfl⟩)
          · exact List.length_pos_iff.mpr (by simpa using hd)
          · exact List.forall_mem_cons.mpr ⟨hSV, List.forall_mem_cons.mpr ⟨hWV, List.forall_mem_nil _⟩⟩
      case rest =>
        rintro fl s' ⟨h2, tk2, m2, nw2, rfl, F2, N2, hPP⟩
        obtain ⟨rfl, V2, us2, ys2, cv, hyv2, hy0, hy10, hV2, hm1, hm2, rfl⟩ := (hP1 _ _ _).mp hPP
        dsimp only
        clear F4 N4 hyv hzs2 hSV hWV hRV
        have hSV := hV2 _ (.head _)
        have hWV := hV2 _ (.tail _ (.head _))
        dsimp only at hSV hWV
        clear hV2
        walk_at "my steps if"
        rename Fr _ _ _ _ => F4
        rename News _ _ _ _ => N4
        replace N4 : News g L' _ [(V2, listOf us2.toArray cv), (S, listOf ss.toArray ss.length), (L' + 1 + 1, oF)] := News.sub N4 (by kcf_all)
        generalize hpl : ((zs.getD (Int.toNat 0) 0).fdiv 96).fmod ys2.length = pl at F4
        generalize htu : ((zs.getD (Int.toNat 0) 0).fdiv 96).fdiv ys2.length = tu at F4
        have hpl0 : 0 ≤ pl := hpl ▸ Int.fmod_nonneg_of_pos _ (Int.ofNat_lt.mpr hy0)
        have hpl1 : pl < ys2.length := hpl ▸ Int.fmod_lt_of_pos _ (Int.ofNat_lt.mpr hy0)
        obtain ⟨P2, hP2⟩ : ∃ P : Flow → (Str → Option Value) → List (Addr × Obj) → Prop, ∀ fl m' nw, P fl m' nw ↔ (fl = .next ∧ ∃ us ys c, IntsAre us ys ∧ ys.length ≤ 10 ∧ m' (Str.ofString "steps") = some (.ref S) ∧ m' (Str.ofString "values") = some (.ref V2) ∧ nw = [(V2, listOf us.toArray c), (S, listOf ss.toArray ss.length), (L' + 1 + 1, oF)]) := ⟨_, fun _ _ _ => Iff.rfl⟩
        refine wpAny_mono (Q := Mid g L' s₀ P2) ?iff ?rest (fun _ _ x => x)
        case iff =>
          --[B
          walk_at "my steps"
          all_goals (
            rename Fr _ _ _ _ => F5
            rename News _ _ _ _ => N5)
          · rename IntsAre (List.set _ _ _) _ => hi'
            exact Mid.at F5 N5 (fun p hp => hp) ((hP2 _ _ _).mpr ⟨rfl, _, _, cv, hi', by rw [List.length_set]; exact hy10, hm1, hm2, rfl⟩)
          · rename IntsAre (List.set _ _ _) _ => hi'
            exact Mid.at F5 N5 (fun p hp => hp) ((hP2 _ _ _).mpr ⟨rfl, _, _, cv, hi', by rw [List.length_set]; exact hy10, hm1, hm2, rfl⟩)
          · exact Mid.at F5 N5 (fun p hp => hp) ((hP2 _ _ _).mpr ⟨rfl, _, _, cv, hyv2, hy10, hm1, hm2, rfl⟩)
          --]B
        case rest =>
          rintro fl s' ⟨h2, tk2, m2, nw2, rfl, F2, N2, hPP⟩
          obtain ⟨rfl, us3, ys3, cv3, hyv3, hy3, hm3, hm4, rfl⟩ := (hP2 _ _ _).mp hPP
          dsimp only
          clear F4 N4 hpl0 hpl1 hpl htu hy0 hy10 hyv2
          walk_at "my steps"
          refine For_invVF F2 rfl rfl ?_
          refine ldE F2 hm3 ?_ rfl rfl (by decide)
          obtain ⟨J, hJ⟩ : ∃ J : Nat → (Str → Option Value) → List (Addr × Obj) → Prop, ∀ i m nx, J i m nx ↔ (∃ f V us ys c oF tf, 0 < f ∧ f ≤ 12 ∧ oF.data = .cell (some (.int ((f : Nat) : Int) tf)) ∧ IntsAre us ys ∧ f * ys.length ≤ 120 + 12 * i ∧ (@Ne Nat S V) ∧ (@Ne Nat (L' + 1 + 1) V) ∧ m (Str.ofString "steps") = some (.ref S) ∧ m (Str.ofString "values") = some (.ref V) ∧
            nx = [(V, listOf us.toArray c), (S, listOf ss.toArray ss.length), (L' + 1 + 1, oF)]) := ⟨_, fun _ _ _ => Iff.rfl⟩
          refine iter_list (x := Str.ofString "step") (l := S) (vs := ss) (nn := ss.length) J rfl ?hJl F2 N2 ?hj ?turn ?done
          case hJl =>
            intro i m nx hjj
            obtain ⟨f, V, us, ys, c, oF, tf, _, _, _, _, _, _, _, _, _, rfl⟩ := (hJ _ _ _).mp hjj
            exact .tail _ (.head _)
          case hj => exact (hJ _ _ _).mpr ⟨f, V2, us3, ys3, cv3, oF, tf, hf0, hf12, hF, hyv3, Nat.le_trans (Nat.mul_le_mul hf12 hy3) (by decide), hSV, hWV, hm3, hm4, rfl⟩
          case done =>
            intro m₁ nx h tk hjj F5 N5
            obtain ⟨f, V, us, ys, c, oF, tf, _, _, _, _, _, _, _, _, _, rfl⟩ := (hJ _ _ _).mp hjj
            clear F2 N2
            walk_at "my steps"
            exact Bk.ret F5 (News.sub N5 (List.forall_mem_nil _)) rfl
          case turn =>
            intro i v m₁ news₁ h tk I oI hv hjj hoff F5 N5
            obtain ⟨f₁, V, us, ys, c, oF₁, tf₁, hf0₁, hf12₁, hF₁, hyv, hb, hSV₁, hWV₁, hms, hmv, rfl⟩ := (hJ _ _ _).mp hjj
            clear F2 N2 hf0 hf12 hyv3 hy3 hm3 hm4 hSV hWV hm1 hm2
            obtain ⟨st, tst, rfl, hst⟩ := IntsAre.at hys i v hv
            have hw1 := Int.fmod_nonneg_of_pos st (show (0 : Int) < 12 by decide)
            have hw2 := Int.fmod_lt_of_pos st (show (0 : Int) < 12 by decide)
            obtain ⟨t, ht, ht0, ht12⟩ := one_to hw1 hw2
            have hVI : @Ne Nat V I := hoff _ (.head _)
            have hSI : @Ne Nat S I := hoff _ (.tail _ (.head _))
            have hWI : @Ne Nat (L' + 1 + 1) I := hoff _ (.tail _ (.tail _ (.head _)))
            have hylen : ys.length < 1000 := len_small hf0₁ hb (Nat.lt_of_lt_of_le (List.getElem?_eq_some_iff.mp hst).1 (Nat.le_trans (Nat.le_of_eq hzs) hn4.2))
            replace hb : id (f₁ * ys.length ≤ 120 + 12 * i) := hb
            clear hn4 hzs hz0
            replace hSV₁ : id (@Ne Nat S V) := hSV₁
            replace hSI : id (@Ne Nat S I) := hSI
            replace hVI : id (@Ne Nat V I) := hVI
            clear hoff
            walk_at "my steps ie"
            rename Fr _ _ _ _ => F6
            rename News _ _ _ _ => N6
            rw [ht] at F6
            generalize ((st.fdiv 12).fmod 2 == 0) = pad at F6
            clear ht hw1 hw2 hst hv F5 N5 hF
            obtain ⟨P3, hP3⟩ : ∃ P : Flow → (Str → Option Value) → List (Addr × Obj) → Prop, ∀ fl m' nw, P fl m' nw ↔ (fl = .next ∧ m' (Str.ofString "steps") = some (.ref S) ∧ m' (Str.ofString "values") = some (.ref V) ∧ (∃ tt, m' (Str.ofString "other") = some (.int ((t : Nat) : Int) tt)) ∧ m' (Str.ofString "pad") = some (.bool pad) ∧
              ((convOut f₁ t pad ys = none ∧ m' (Str.ofString "told") = some .none ∧ nw = [(I, oI), (V, listOf us.toArray c), (S, listOf ss.toArray ss.length), (L' + 1 + 1, oF₁)]) ∨
               (∃ D rs c' r, convOut f₁ t pad ys = some r ∧ m' (Str.ofString "told") = some (.ref D) ∧ IntsAre rs r ∧ (@Ne Nat S D) ∧ (@Ne Nat (L' + 1 + 1) D) ∧ (@Ne Nat D I) ∧ nw = [(D, listOf rs.toArray c'), (I, oI), (V, listOf us.toArray c), (S, listOf ss.toArray ss.length), (L' + 1 + 1, oF₁)]))) := ⟨_, fun _ _ _ => Iff.rfl⟩
            refine wpAny_mono (Q := Mid g L' s₀ P3) ?told ?rest (fun _ _ x => x)
            case told =>
              walk_at "my steps"
              · rename pad = true => hpad
                refine CallOk.use (conv_ok (c := c) (f := f₁) (t := t) hyv hylen (.tail _ (.head _)) hf0₁ hf12₁ ht0 ht12 true (.inr ⟨rfl, rfl⟩)) B (by k_asm) X T (by k_asm) rfl (RM.d' (by decide)) (RM.u' (by decide)) ?_
                rintro v nw h3 tk3 (⟨hc, rfl, rfl⟩ | ⟨D, rs, c', r, hc, rfl, hr, hltD, rfl⟩) F7 N7
                · walk_at "my steps"
                  rename Fr _ _ _ _ => F8
                  rename News _ _ _ _ => N8
                  exact Mid.at F8 N8 (fun p hp => hp) ((hP3 _ _ _).mpr ⟨rfl, hms, hmv, ⟨_, rfl⟩, rfl, .inl ⟨hpad ▸ hc, rfl, rfl⟩⟩)
                · walk_at "my steps"
                  rename Fr _ _ _ _ => F8
                  rename News _ _ _ _ => N8
                  exact Mid.at F8 N8 (fun p hp => hp) ((hP3 _ _ _).mpr ⟨rfl, hms, hmv, ⟨_, rfl⟩, rfl, .inr ⟨D, rs, c', r, hpad ▸ hc, rfl, hr, Nat.ne_of_lt (hltD _ (.tail _ (.tail _ (.head _)))), Nat.ne_of_lt (hltD _ (.tail _ (.tail _ (.tail _ (.head _))))), Nat.ne_of_gt (hltD _ (.head _)), rfl⟩⟩)
              · rename pad = false => hpad
                refine CallOk.use (conv_ok (c := c) (f := f₁) (t := t) hyv hylen (.tail _ (.head _)) hf0₁ hf12₁ ht0 ht12 false (.inl rfl)) B (by k_asm) X T (by k_asm) rfl (RM.d' (by decide)) (RM.u' (by decide)) ?_
                rintro v nw h3 tk3 (⟨hc, rfl, rfl⟩ | ⟨D, rs, c', r, hc, rfl, hr, hltD, rfl⟩) F7 N7
                · walk_at "my steps"
                  rename Fr _ _ _ _ => F8
                  rename News _ _ _ _ => N8
                  exact Mid.at F8 N8 (fun p hp => hp) ((hP3 _ _ _).mpr ⟨rfl, hms, hmv, ⟨_, rfl⟩, rfl, .inl ⟨hpad ▸ hc, rfl, rfl⟩⟩)
                · walk_at "my steps"
                  rename Fr _ _ _ _ => F8
                  rename News _ _ _ _ => N8
                  exact Mid.at F8 N8 (fun p hp => hp) ((hP3 _ _ _).mpr ⟨rfl, hms, hmv, ⟨_, rfl⟩, rfl, .inr ⟨D, rs, c', r, hpad ▸ hc, rfl, hr, Nat.ne_of_lt (hltD _ (.tail _ (.tail _ (.head _)))), Nat.ne_of_lt (hltD _ (.tail _ (.tail _ (.tail _ (.head _))))), Nat.ne_of_gt (hltD _ (.head _)), rfl⟩⟩)
            case rest =>
              rintro fl s' ⟨h2, tk2, m2, nw2, rfl, F2, N2, hPP⟩
              obtain ⟨rfl, hm1, hm2, ⟨tt, hm3⟩, hm4, ⟨hc, hm5, rfl⟩ | ⟨D, rs, c', r, hc, hm5, hr, hSD, hWD, hDI, rfl⟩⟩ := (hP3 _ _ _).mp hPP
              · dsimp only
                clear F6 N6
                walk_at "my steps"
                refine CallOk.use (due_ok (c := c) (f := f₁) (t := t) hyv hylen (.tail _ (.head _)) hf0₁ hf12₁ ht0 ht12 pad) B (by k_asm) X T (by k_asm) rfl (RM.d' (by decide)) (RM.u' (by decide)) ?_
                rintro v nw h3 tk3 (⟨hc2, rfl, rfl⟩ | ⟨D, rs, c', r, hc2, rfl, hr, hltD, rfl⟩) F7 N7
                · clear F2 N2
                  walk_at "my steps"
                  rename Fr _ _ _ _ => F8
                  rename News _ _ _ _ => N8
                  refine TurnP.ret ?_
                  dsimp only
                  exact Bk.ret F8 (News.sub N8 (List.forall_mem_nil _)) rfl
                · rw [hc] at hc2
                  cases hc2
              · dsimp only
                clear F6 N6
                walk_at "my steps"
                refine CallOk.use (due_ok (c := c) (f := f₁) (t := t) hyv hylen (.tail _ (.tail _ (.head _))) hf0₁ hf12₁ ht0 ht12 pad) B (by k_asm) X T (by k_asm) rfl (RM.d' (by decide)) (RM.u' (by decide)) ?_
                rintro v nw h3 tk3 (⟨hc2, rfl, rfl⟩ | ⟨D2, rs2, c2, r2, hc2, rfl, hr2, hltD, rfl⟩) F7 N7
                · rw [hc] at hc2
                  cases hc2
                · rw [hc] at hc2
                  cases hc2
                  clear F2 N2
                  replace hSD : id (@Ne Nat S D) := hSD
                  replace hDI : id (@Ne Nat D I) := hDI
                  have hWD2 : @Ne Nat (L' + 1 + 1) D2 := Nat.ne_of_lt (hltD _ (.tail _ (.tail _ (.tail _ (.tail _ (.head _))))))
                  walk_at "my steps"
                  rename Fr _ _ _ _ => F8
                  rename News _ _ _ _ => N8
                  rename Obj => oF2
                  rename oF2.data = _ => hF2
                  exact TurnP.next F8 N8 (nx := [(D, listOf rs.toArray c'), (S, listOf ss.toArray ss.length), (L' + 1 + 1, oF2)]) (by kcf_all) (List.forall_mem_cons.mpr ⟨hDI, List.forall_mem_cons.mpr ⟨hSI, List.forall_mem_cons.mpr ⟨hWI, List.forall_mem_nil _⟩⟩⟩) ((hJ _ _ _).mpr ⟨t, D, rs, r, c', oF2, tt, ht0, ht12, hF2, hr, turn_sum (convOut_len hc) hb ht12, hSD, hWD, hm1, rfl, rfl⟩)
end
/-- the five numbers of the checksum's generator -/
def gens5 : List Nat := [996825010, 642813549, 513874426, 1027748829, 705979059]
/-- one bit's share -/
def gBit (top i : Nat) : Nat := if top.testBit i then gens5.getD i 0 else 0
/-- the shares of the first i bits -/
def gSum (top : Nat) : Nat → Nat
  | 0 => 0
  | i + 1 => gSum top i ^^^ gBit top i
def pmL (c : Nat) : Nat := ((c &&& 33554431) <<< 5) ^^^ gSum (c >>> 25) 5
def pmStep (c v : Nat) : Nat := pmL c ^^^ v
def pmFrom (c : Nat) (vs : List Nat) : Nat := vs.foldl pmStep c
def pm (vs : List Nat) : Nat := pmFrom 1 vs

theorem xor4 (a b c d : Nat) : (a ^^^ b) ^^^ (c ^^^ d) = (a ^^^ c) ^^^ (b ^^^ d) := by
  rw [Nat.xor_assoc, Nat.xor_assoc]
  congr 1
  rw [← Nat.xor_assoc, Nat.xor_comm b c, Nat.xor_assoc]

theorem gBit_xor (a b i : Nat) : gBit (a ^^^ b) i = gBit a i ^^^ gBit b i := by
  unfold gBit
  rw [Nat.testBit_xor]
  cases a.testBit i <;> cases b.testBit i <;> simp
theorem gSum_xor (a b : Nat) : ∀ n, gSum (a ^^^ b) n = gSum a n ^^^ gSum b n
  | 0 => by simp [gSum]
  | n + 1 => by rw [gSum, gSum, gSum, gSum_xor a b n, gBit_xor, xor4]
theorem pmL_xor (a b : Nat) : pmL (a ^^^ b) = pmL a ^^^ pmL b := by
  unfold pmL
  rw [Nat.and_xor_distrib_right, Nat.shiftLeft_xor_distrib, Nat.shiftRight_xor_distrib, gSum_xor, xor4]
theorem pmL_small {x : Nat} (h : x < 2 ^ 25) : pmL x = x <<< 5 := by
  unfold pmL
  have h1 : x >>> 25 = 0 := by rw [Nat.shiftRight_eq_div_pow]; exact Nat.div_eq_of_lt h
  have h2 : x &&& 33554431 = x := by
    have := Nat.and_two_pow_sub_one_eq_mod x 25
    rw [Nat.mod_eq_of_lt h] at this
    exact this
  rw [h1, h2]
  have : gSum 0 5 = 0 := by decide
  rw [this, Nat.xor_zero]
theorem pmStep_xor (a b u v : Nat) : pmStep (a ^^^ b) (u ^^^ v) = pmStep a u ^^^ pmStep b v := by
  unfold pmStep
  rw [pmL_xor, xor4]

/-- six groups more: what they add is their number -/
theorem pm_six (c a1 a2 a3 a4 a5 a6 : Nat) (h1 : a1 < 32) (h2 : a2 < 32) (h3 : a3 < 32) (h4 : a4 < 32) (h5 : a5 < 32) (h6 : a6 < 32) :
    pmFrom c [a1, a2, a3, a4, a5, a6] = pmFrom c [0, 0, 0, 0, 0, 0] ^^^ (((((a1 * 32 + a2) * 32 + a3) * 32 + a4) * 32 + a5) * 32 + a6) := by
  have sh : ∀ x v : Nat, x < 2 ^ 25 → v < 32 → pmStep x v = x * 32 + v := by
    intro x v hx hv
    unfold pmStep
    rw [pmL_small hx, Nat.shiftLeft_eq, Nat.mul_comm]
    have e := Nat.two_pow_add_eq_or_of_lt (i := 5) (b := v) hv x
    have e2 : (2 ^ 5 * x) ^^^ v = 2 ^ 5 * x + v := by
      rw [e]
      apply Nat.eq_of_testBit_eq
      intro i
      rw [Nat.testBit_xor, Nat.testBit_or, Nat.testBit_two_pow_mul]
      by_cases hi : 5 ≤ i
      · have hvb : v.testBit i = false := Nat.testBit_lt_two_pow (Nat.lt_of_lt_of_le hv (Nat.pow_le_pow_right (n := 2) (by decide) hi))
        rw [hvb]; simp
      · simp [hi]
    exact e2
  have z : ∀ x y v : Nat, pmStep (x ^^^ y) v = pmStep x 0 ^^^ pmStep y v := by
    intro x y v
    have := pmStep_xor x y 0 v
    rw [Nat.zero_xor] at this
    exact this
  simp only [pmFrom, List.foldl_cons, List.foldl_nil]
  have e1 : pmStep c a1 = pmStep c 0 ^^^ a1 := by unfold pmStep; rw [Nat.xor_zero]
  rw [e1, z, sh a1 a2 (by omega) h2, z, sh _ a3 (by omega) h3, z, sh _ a4 (by omega) h4, z, sh _ a5 (by omega) h5, z, sh _ a6 (by omega) h6]

theorem pmFrom_append (c : Nat) (x y : List Nat) : pmFrom c (x ++ y) = pmFrom (pmFrom c x) y := by unfold pmFrom; rw [List.foldl_append]

theorem gBit_lt (t i : Nat) : gBit t i < 2 ^ 30 := by
  unfold gBit
  split
  · by_cases h : i < 5
    · rcases (by omega : i = 0 ∨ i = 1 ∨ i = 2 ∨ i = 3 ∨ i = 4) with rfl | rfl | rfl | rfl | rfl <;> decide
    · have : gens5.getD i 0 = 0 := by
        rw [List.getD_eq_getElem?_getD, List.getElem?_eq_none (by simp [gens5]; omega)]; rfl
      rw [this]; decide
  · decide
theorem gSum_lt (t : Nat) : ∀ i, gSum t i < 2 ^ 30
  | 0 => Nat.two_pow_pos 30
  | i + 1 => Nat.xor_lt_two_pow (gSum_lt t i) (gBit_lt t i)
theorem pmL_lt (c : Nat) : pmL c < 2 ^ 30 := by
  unfold pmL
  refine Nat.xor_lt_two_pow ?_ (gSum_lt _ _)
  have : c &&& 33554431 < 2 ^ 25 := Nat.and_lt_two_pow c (by decide)
  rw [Nat.shiftLeft_eq]
  omega
theorem pmStep_lt {c v : Nat} (h : v < 2 ^ 30) : pmStep c v < 2 ^ 30 := Nat.xor_lt_two_pow (pmL_lt c) h
theorem pmFrom_lt : ∀ (vs : List Nat) (c : Nat), c < 2 ^ 30 → (∀ v ∈ vs, v < 2 ^ 30) → pmFrom c vs < 2 ^ 30
  | [], c, h, _ => h
  | v :: r, c, _, hv => pmFrom_lt r (pmStep c v) (pmStep_lt (hv v (.head _))) fun x hx => hv x (.tail _ hx)
theorem pm_lt {vs : List Nat} (h : ∀ v ∈ vs, v < 2 ^ 30) : pm vs < 2 ^ 30 := pmFrom_lt vs 1 (by decide) h

/-- the six groups of a number of thirty bits -/
def six (P : Nat) : List Nat := [P / 2 ^ 25 % 32, P / 2 ^ 20 % 32, P / 2 ^ 15 % 32, P / 2 ^ 10 % 32, P / 2 ^ 5 % 32, P % 32]
theorem six_lt (P : Nat) : ∀ v ∈ six P, v < 32 := by
  intro v hv
  simp only [six, List.mem_cons, List.not_mem_nil, or_false] at hv
  omega
theorem six_sum {X : Nat} (hx : X < 2 ^ 30) : ((((X / 2 ^ 25 % 32 * 32 + X / 2 ^ 20 % 32) * 32 + X / 2 ^ 15 % 32) * 32 + X / 2 ^ 10 % 32) * 32 + X / 2 ^ 5 % 32) * 32 + X % 32 = X := by
  have s : ∀ k : Nat, X / 2 ^ (k + 5) * 32 + X / 2 ^ k % 32 = X / 2 ^ k := by
    intro k
    rw [Nat.pow_add, ← Nat.div_div_eq_div_mul]
    exact Nat.div_add_mod' (X / 2 ^ k) 32
  have s20 : X / 2 ^ 25 * 32 + X / 2 ^ 20 % 32 = X / 2 ^ 20 := s 20
  have s15 : X / 2 ^ 20 * 32 + X / 2 ^ 15 % 32 = X / 2 ^ 15 := s 15
  have s10 : X / 2 ^ 15 * 32 + X / 2 ^ 10 % 32 = X / 2 ^ 10 := s 10
  have s5 : X / 2 ^ 10 * 32 + X / 2 ^ 5 % 32 = X / 2 ^ 5 := s 5
  have s0 : X / 2 ^ 5 * 32 + X % 32 = X := Nat.div_add_mod' X 32
  rw [Nat.mod_eq_of_lt (Nat.div_lt_of_lt_mul (show X < 2 ^ 25 * 32 from hx)), s20, s15, s10, s5, s0]
theorem pm_verify {vs : List Nat} {k : Nat} (hk : k < 2 ^ 30) (h : ∀ v ∈ vs, v < 2 ^ 30) : pm (vs ++ six (pm (vs ++ [0, 0, 0, 0, 0, 0]) ^^^ k)) = k := by
  have hP : pm (vs ++ [0, 0, 0, 0, 0, 0]) < 2 ^ 30 := pm_lt fun v hv => by
    rcases List.mem_append.mp hv with h' | h'
    · exact h v h'
    · simp at h'; rw [h']; decide
  have hx : pm (vs ++ [0, 0, 0, 0, 0, 0]) ^^^ k < 2 ^ 30 := Nat.xor_lt_two_pow hP hk
  generalize hP' : pm (vs ++ [0, 0, 0, 0, 0, 0]) = P at hP hx
  generalize hX : P ^^^ k = X at hx
  unfold pm at hP' ⊢
  rw [pmFrom_append] at hP' ⊢
  unfold six
  rw [pm_six _ _ _ _ _ _ _ (Nat.mod_lt _ (by decide)) (Nat.mod_lt _ (by decide)) (Nat.mod_lt _ (by decide)) (Nat.mod_lt _ (by decide)) (Nat.mod_lt _ (by decide)) (Nat.mod_lt _ (by decide)), hP']
  rw [six_sum hx, ← hX, ← Nat.xor_assoc, Nat.xor_self, Nat.zero_xor]
/-- the two marks' groups differ by the constants' groups -/
theorem six_apart (P : Nat) : List.zipWith (· ^^^ ·) (six (P ^^^ 1)) (six (P ^^^ 734539939)) = [21, 28, 16, 12, 5, 2] := by
  have x : ∀ a b k : Nat, (a / 2 ^ k % 32) ^^^ (b / 2 ^ k % 32) = (a ^^^ b) / 2 ^ k % 32 := by
    intro a b k
    have : (32 : Nat) = 2 ^ 5 := rfl
    rw [this, ← Nat.xor_mod_two_pow, Nat.xor_div_two_pow]
  have y : ∀ a b : Nat, (a % 32) ^^^ (b % 32) = (a ^^^ b) % 32 := by
    intro a b
    have : (32 : Nat) = 2 ^ 5 := rfl
    rw [this, Nat.xor_mod_two_pow]
  have c : (P ^^^ 1) ^^^ (P ^^^ 734539939) = 734539938 := by
    rw [Nat.xor_comm P 1, Nat.xor_assoc, ← Nat.xor_assoc P P, Nat.xor_self, Nat.zero_xor]
    decide
  simp only [six, List.zipWith_cons_cons, List.zipWith_nil_right, x, y, c]
theorem par_xor (a b : Nat) : (a ^^^ b) % 2 = (a % 2 + b % 2) % 2 := by
  have h := Nat.testBit_xor a b 0
  rw [Nat.testBit_zero, Nat.testBit_zero, Nat.testBit_zero] at h
  rcases Nat.mod_two_eq_zero_or_one a with h1 | h1 <;> rcases Nat.mod_two_eq_zero_or_one b with h2 | h2 <;> rcases Nat.mod_two_eq_zero_or_one (a ^^^ b) with h3 | h3 <;> rw [h1, h2, h3] at h <;> rw [h1, h2, h3] <;> first | rfl | (exfalso; revert h; decide)
theorem par_and (a b : Nat) : (a &&& b) % 2 = (a % 2) * (b % 2) := by
  have h := Nat.testBit_and a b 0
  rw [Nat.testBit_zero, Nat.testBit_zero, Nat.testBit_zero] at h
  rcases Nat.mod_two_eq_zero_or_one a with h1 | h1 <;> rcases Nat.mod_two_eq_zero_or_one b with h2 | h2 <;> rcases Nat.mod_two_eq_zero_or_one (a &&& b) with h3 | h3 <;> rw [h1, h2, h3] at h <;> rw [h1, h2, h3] <;> first | rfl | (exfalso; revert h; decide)
theorem xor_add_and : ∀ a b : Nat, (a ^^^ b) + 2 * (a &&& b) = a + b := by
  intro a
  induction a using Nat.strongRecOn with
  | ind a ih =>
    intro b
    by_cases ha : a = 0
    · subst ha; simp
    · have h := ih (a / 2) (by omega) (b / 2)
      have h1 : (a ^^^ b) / 2 = a / 2 ^^^ b / 2 := Nat.xor_div_two
      have h2 : (a &&& b) / 2 = a / 2 &&& b / 2 := Nat.and_div_two
      have h3 := par_xor a b
      have h4 := par_and a b
      rw [← h1, ← h2] at h
      rcases Nat.mod_two_eq_zero_or_one a with e1 | e1 <;> rcases Nat.mod_two_eq_zero_or_one b with e2 | e2 <;> rw [e1, e2] at h3 h4 <;> omega
theorem iAnd (a b : Nat) : Builtin.bitAnd (a : Int) (b : Int) = ((a &&& b : Nat) : Int) := by
  rw [bitAnd_pp (Int.natCast_nonneg a) (Int.natCast_nonneg b), Int.toNat_natCast, Int.toNat_natCast]
theorem iXor (a b : Nat) : Builtin.bitXor (a : Int) (b : Int) = ((a ^^^ b : Nat) : Int) := by
  rw [bitXor_and, iAnd]
  have := xor_add_and a b
  omega
theorem iShr (a k : Nat) : (a : Int).fdiv (2 ^ k) = ((a >>> k : Nat) : Int) := by
  rw [Int.fdiv_eq_ediv_of_nonneg _ (Int.le_of_lt (kbt_pos k)), ← kbt_cast, ← Int.natCast_ediv, Nat.shiftRight_eq_div_pow]
theorem iShl (a k : Nat) : (a : Int) * (2 ^ k) = ((a <<< k : Nat) : Int) := by
  rw [← kbt_cast, ← Int.natCast_mul, Nat.shiftLeft_eq]
/-- naturals as ints -/
def toI (vs : List Nat) : List Int := vs.map fun (v : Nat) => (v : Int)
theorem toI_get {us : List Nat} {i : Nat} {n : Int} (h : (toI us)[i]? = some n) : ∃ u, n = ((u : Nat) : Int) ∧ us[i]? = some u := by
  unfold toI at h
  rw [List.getElem?_map] at h
  cases hu : us[i]? with
  | none => rw [hu] at h; cases h
  | some u => rw [hu] at h; exact ⟨u, (Option.some.inj h).symm, rfl⟩
theorem toI_length (us : List Nat) : (toI us).length = us.length := List.length_map ..
theorem toI_append (a b : List Nat) : toI (a ++ b) = toI a ++ toI b := List.map_append ..
theorem bit_at (t k : Nat) : Builtin.bitAnd ((t : Int).fdiv (2 ^ ((k : Nat) : Int).toNat)) 1 = if t.testBit k = true then 1 else 0 := by
  have e : Builtin.bitAnd ((t : Int).fdiv (2 ^ ((k : Nat) : Int).toNat)) 1 = ((t >>> k &&& 1 : Nat) : Int) := by
    rw [Int.toNat_natCast, iShr]
    exact iAnd _ 1
  rw [e, Nat.and_one_is_mod, Nat.shiftRight_eq_div_pow, Nat.testBit_eq_decide_div_mod_eq]
  rcases Nat.mod_two_eq_zero_or_one (t / 2 ^ k) with h | h <;> rw [h] <;> simp
theorem xor_swap (a b c : Nat) : (a ^^^ b) ^^^ c = (a ^^^ c) ^^^ b := by rw [Nat.xor_assoc, Nat.xor_comm b c, Nat.xor_assoc]
theorem gens_at {k : Nat} (hk : k < 5) : (toI gens5).getD k 0 = ((gens5.getD k 0 : Nat) : Int) := by
  have h : ∀ j : Fin 5, (toI gens5).getD j.1 0 = ((gens5.getD j.1 0 : Nat) : Int) := by decide
  exact h ⟨k, hk⟩
set_option maxHeartbeats 4000000 in
theorem polymod_ok {w : World} {l : Addr} {vs : List Value} {c : Nat} {us : List Nat} {news : List (Addr × Obj)} (hI : IntsAre vs (toI us)) (hlen : us.length < 1000) (hb : ∀ v ∈ us, v < 2 ^ 30) (hl : (l, listOf vs.toArray c) ∈ news) :
    CallOk w 2 35 [.ref l] news (fun v news' => ∃ t, v = .int ((pm us : Nat) : Int) t ∧ news' = news) := by
  refine hideRet fun Ret hRet => ?_
  refine' callOk_intro (k := 1) [(Str.ofString "values", .ref l)] (fun y => if y = Str.ofString "values" then some (.ref l) else none)
    ?ho ?hcd ?hbind ?hloc ?hm ?h ?c2 ?c3 ?c4 ?c5
  walk_at "my enter"
  intro mean mg mb dp un gd outer A₀ base g L' h₁ tk s₀ B F X N T hdp hu
  walk_at "my steps"
  rename Fr _ _ _ _ => F1
  rename News _ _ _ _ => N1
  rename ∀ p ∈ news, _ => l1
  obtain ⟨R, hR, l1⟩ := named (P := fun R => ∀ p ∈ news, p.1 < R) l1
  subst hR
  obtain ⟨gv, hgv, hG⟩ : ∃ gv : List Value, News g L' _ ((R, listOf gv.toArray 0) :: news) ∧ IntsAre gv (toI gens5) := ⟨_, N1, .cons _ _ (.cons _ _ (.cons _ _ (.cons _ _ (.cons _ _ .nil))))⟩
  clear N1
  have hnR := forNews l1
  have hgl := hG.length
  refine For_invVF F1 rfl rfl ?_
  refine ldE F1 rfl ?_ rfl rfl (by decide)
  obtain ⟨J, hJ⟩ : ∃ J : Nat → (Str → Option Value) → List (Addr × Obj) → Prop, ∀ i m nx, J i m nx ↔ ((∃ t, m (Str.ofString "chk") = some (.int ((pmFrom 1 (us.take i) : Nat) : Int) t)) ∧ m (Str.ofString "generator") = some (.ref R) ∧ nx = (R, listOf gv.toArray 0) :: news) := ⟨_, fun _ _ _ => Iff.rfl⟩
  refine iter_list (x := Str.ofString "value") (vs := vs) (nn := c) J rfl ?hJl F1 hgv ?hj ?turn ?done
  case hJl =>
    intro i m nx hjj
    obtain ⟨_, _, rfl⟩ := (hJ _ _ _).mp hjj
    exact .tail _ hl
  case hj => exact (hJ _ _ _).mpr ⟨⟨_, rfl⟩, rfl, rfl⟩
  case done =>
    intro m₁ nx h tk hjj F2 N2
    obtain ⟨⟨t, hc⟩, hr, rfl⟩ := (hJ _ _ _).mp hjj
    clear F1 hgv
    have hvl : vs.length = us.length := by rw [hI.length, toI_length]
    rw [hvl, List.take_length] at hc
    walk_at "my steps"
    exact Bk.ret F2 (News.sub N2 fun p hp => .tail _ hp) (hRet _ _ ⟨_, rfl, rfl⟩)
  case turn =>
    intro i v m₁ news₁ h tk I oI hv hjj hoff F2 N2
    obtain ⟨⟨t, hc⟩, hr, rfl⟩ := (hJ _ _ _).mp hjj
    obtain ⟨n, tn, rfl, hn⟩ := IntsAre.at hI i v hv
    obtain ⟨u, rfl, hu'⟩ := toI_get hn
    have hub := hb u (List.mem_of_getElem? hu')
    have htake : pmFrom 1 (us.take (i + 1)) = pmStep (pmFrom 1 (us.take i)) u := by
      rw [List.take_add_one, hu', pmFrom_append]; rfl
    have hcb : pmFrom 1 (us.take i) < 2 ^ 30 := pmFrom_lt _ 1 (by decide) fun x hx => hb x (List.mem_of_mem_take hx)
    generalize pmFrom 1 (us.take i) = ck at hc hcb htake
    have hRI : @Ne Nat R I := hoff _ (.head _)
    clear F1 hgv hn hv
    have eA : Builtin.bitAnd (ck : Int) 33554431 = ((ck &&& 33554431 : Nat) : Int) := iAnd ck 33554431
    have hlt25 : ck &&& 33554431 < 2 ^ 25 := Nat.and_lt_two_pow ck (by decide)
    have hsh : (Builtin.bitAnd (ck : Int) 33554431).natAbs < 2 ^ 64 := by rw [eA, Int.natAbs_natCast]; exact Nat.lt_trans hlt25 (by decide)
    have eX : Builtin.bitXor (Builtin.bitAnd (ck : Int) 33554431 * 2 ^ Int.toNat 5) (u : Int) = ((((ck &&& 33554431) <<< 5) ^^^ u : Nat) : Int) := by
      rw [eA, show Int.toNat 5 = 5 from rfl, iShl, iXor]
    have eT : (ck : Int).fdiv (2 ^ Int.toNat 25) = ((ck >>> 25 : Nat) : Int) := iShr ck 25
    walk_at "my steps"
    rename Fr _ _ _ _ => F3
    rename News _ _ _ _ => N3
    rw [eX, eT] at F3
    clear F2 N2
    refine For_invVF F3 rfl rfl ?_
    walk_at "my steps"
    rename IsRange _ _ _ _ _ _ _ _ => hrg
    rename Fr _ _ _ _ => F4
    rename News _ _ _ _ => N4
    obtain ⟨K, hK⟩ : ∃ J : Nat → (Str → Option Value) → List (Addr × Obj) → Prop, ∀ k m nx, J k m nx ↔ ((∃ t, m (Str.ofString "chk") = some (.int (((((ck &&& 33554431) <<< 5) ^^^ u) ^^^ gSum (ck >>> 25) k : Nat) : Int) t)) ∧ (∃ t, m (Str.ofString "top") = some (.int ((ck >>> 25 : Nat) : Int) t)) ∧ m (Str.ofString "generator") = some (.ref R) ∧ nx = (I, oI) :: (R, listOf gv.toArray 0) :: news) := ⟨_, fun _ _ _ => Iff.rfl⟩
    refine iter_range (x := Str.ofString "i") (n := 5) K rfl hrg rfl rfl F4 N4 ?hj2 ?turn2 ?done2
    case hj2 => exact (hK _ _ _).mpr ⟨some_int rfl (by simp [gSum]), ⟨_, rfl⟩, hr, rfl⟩
    case done2 =>
      intro m₂ nx h tk hkk F5 N5
      obtain ⟨⟨t2, hc2⟩, ht2, hr2, rfl⟩ := (hK _ _ _).mp hkk
      clear F4 N4
      walk_at "my steps"
      refine TurnP.next F5 N5 (fun p hp => hp) hoff ((hJ _ _ _).mpr ⟨some_int hc2 ?_, hr2, rfl⟩)
      rw [htake]
      unfold pmStep pmL
      rw [xor_swap]
    case turn2 =>
      intro k tk2 m₂ news₂ h tk I2 oI2 hk hkk hoff2 F5 N5
      obtain ⟨⟨t2, hc2⟩, ⟨t3, ht2⟩, hr2, rfl⟩ := (hK _ _ _).mp hkk
      clear F4 N4
      have hII : @Ne Nat I I2 := hoff2 _ (.head _)
      have hRI2 : @Ne Nat R I2 := hoff2 _ (.tail _ (.head _))
      have hk0 : (0 : Int) + k * 1 = ((k : Nat) : Int) := by rw [Int.mul_one, Int.zero_add]
      rw [hk0] at F5
      have hk1 : (0 : Int) ≤ ((k : Nat) : Int) := Int.natCast_nonneg k
      have hk2 : ((k : Nat) : Int) < (toI gens5).length := show ((k : Nat) : Int) < ((5 : Nat) : Int) from Int.ofNat_lt.mpr hk
      have hgk : (toI gens5).getD ((k : Nat) : Int).toNat 0 = ((gens5.getD k 0 : Nat) : Int) := by
        rw [Int.toNat_natCast]
        exact gens_at hk
      walk_at "my steps"
      · rename Builtin.bitAnd _ _ ≠ 0 => hbt
        rename Fr _ _ _ _ => F6
        rename News _ _ _ _ => N6
        rw [bit_at] at hbt
        refine TurnP.next F6 N6 (fun p hp => hp) hoff2 ((hK _ _ _).mpr ⟨some_int rfl ?_, ⟨_, ht2⟩, hr2, rfl⟩)
        have hb1 : (ck >>> 25).testBit k = true := Decidable.byContradiction fun h => hbt (if_neg h)
        rw [hgk, iXor, gSum, gBit, if_pos hb1, Nat.xor_assoc]
      · rename Builtin.bitAnd _ _ = 0 => hbt
        rename Fr _ _ _ _ => F6
        rename News _ _ _ _ => N6
        rw [bit_at] at hbt
        refine TurnP.next F6 N6 (fun p hp => hp) hoff2 ((hK _ _ _).mpr ⟨some_int rfl ?_, ⟨_, ht2⟩, hr2, rfl⟩)
        have hb1 : ¬ (ck >>> 25).testBit k = true := fun h => by rw [if_pos h] at hbt; cases hbt
        rw [bitXor_zero, gSum, gBit, if_neg hb1, Nat.xor_zero]
section
local macro_rules | `(tactic| cell_call) => `(tactic| with_reducible (first
  | show wpAny _ _ (binaryOp Operator.Add (Value.ref _) (Value.ref _)) _ _ _))
/-- what the human part adds to the checksum's row -/
def expand (cs : List Nat) : List Nat := cs.map (fun c => c >>> 5) ++ [0] ++ cs.map (fun c => c &&& 31)

set_option maxHeartbeats 4000000 in
theorem expand_ok {w : World} {x : Str} {tx : Tok} {news : List (Addr × Obj)} (hlen : x.cps.size ≤ 100) (hb : ∀ c ∈ x.cps.toList, c < 128) :
    CallOk w 2 40 [.str x tx] news (fun v news' => ∃ D us c, v = .ref D ∧ IntsAre us (toI (expand x.cps.toList)) ∧ (∀ p ∈ news, p.1 < D) ∧ news' = (D, listOf us.toArray c) :: news) := by
  refine hideRet fun Ret hRet => ?_
  refine' callOk_intro (k := 1) [(Str.ofString "hrp", .str x tx)] (fun y => if y = Str.ofString "hrp" then some (.str x tx) else none)
    ?ho ?hcd ?hbind ?hloc ?hm ?h ?c2 ?c3 ?c4 ?c5
  walk_at "my enter"
  intro mean mg mb dp un gd outer A₀ base g L' h₁ tk s₀ B F X N T hdp hu
  walk_at "my steps"
  refine' lc_eval (h₀ := g) (L := L') (news := news) (m := fun y => if y = Str.ofString "hrp" then some (.str x tx) else none) (fun (c : Nat) v => StrV ⟨#[c]⟩ v) IntV x.cps.toList (fun c => ((c >>> 5 : Nat) : Int)) (by with_unfolding_all rfl) (by decide) (by rfl) (by decide) (by rfl) (by intro _; rfl) ?src ?turn ?fin
  case src =>
    walk_at "my steps"
    exact src_str rfl F N (by omega)
  case turn =>
    rintro a v I oI C oC D ys m₂ h tk ha ⟨t, rfl⟩ hx ⟨hns, F, N, off, ne⟩
    have hab := hb a ha
    walk_at "my steps"
    · exact ⟨_, congrArg (fun z => Value.int z _) (iShr a 5)⟩
    · exact Kp.here (by assumption) (by assumption)
  case fin =>
    intro D ys h tk hys F2 N2 hne
    have hyi := intsOf hys
    have hyl : ys.length ≤ 100 := by rw [hyi.length, List.length_map, Array.length_toList]; exact hlen
    clear F N
    walk_at "my steps"
    rename Fr _ _ _ _ => F3
    rename News _ _ _ _ => N3
    refine add_L (vs := ys) (c := ys.length) (us := [Value.int 0 tk]) (d := 0) F3 N3 (.tail _ (.head _)) (.head _) (by simp; omega) ?_
    intro R h4 F4 N4 hltR
    clear F3 N3
    have hRn : ∀ p ∈ news, p.1 < R := fun p hp => hltR p (.tail _ (.tail _ hp))
    replace N4 : News g L' h4 ((R, listOf (ys ++ [Value.int 0 tk]).toArray 0) :: news) := News.sub N4 fun p hp => (List.mem_cons.mp hp).elim (fun e => e ▸ .head _) fun h => .tail _ (.tail _ (.tail _ h))
    walk_at "my steps"
    refine' lc_eval (h₀ := g) (L := L') (news := (R, listOf (ys ++ [Value.int 0 tk]).toArray 0) :: news) (m := fun y => if y = Str.ofString "hrp" then some (.str x tx) else none) (fun (c : Nat) v => StrV ⟨#[c]⟩ v) IntV x.cps.toList (fun c => ((c &&& 31 : Nat) : Int)) (by with_unfolding_all rfl) (by decide) (by rfl) (by decide) (by rfl) (by intro _; rfl) ?src ?turn ?fin
    case src =>
      walk_at "my steps"
      exact src_str rfl F4 N4 (by omega)
    case turn =>
      rintro a v I oI C oC D ys m₂ h tk ha ⟨t, rfl⟩ hx ⟨hns, F, N, off, ne⟩
      have hab := hb a ha
      clear F4 N4
      walk_at "my steps"
      · exact ⟨_, congrArg (fun z => Value.int z _) (iAnd a 31)⟩
      · exact Kp.here (by assumption) (by assumption)
    case fin =>
      intro D2 ys2 h tkb hys2 F5 N5 hne2
      have hyi2 := intsOf hys2
      have hyl2 : ys2.length ≤ 100 := by rw [hyi2.length, List.length_map, Array.length_toList]; exact hlen
      clear F4 N4
      refine add_L (vs := ys ++ [Value.int 0 tk]) (c := 0) (us := ys2) (d := ys2.length) F5 N5 (.tail _ (.head _)) (.head _) (by simp; omega) ?_
      intro R2 h6 F6 N6 hltR2
      clear F5 N5
      walk_at "my steps"
      refine Bk.ret F6 (News.sub N6 fun p hp => (List.mem_cons.mp hp).elim (fun e => e ▸ .head _) fun h => .tail _ (.tail _ (.tail _ h))) (hRet _ _ ⟨R2, _, 0, rfl, ?_, fun p hp => hltR2 p (.tail _ (.tail _ hp)), rfl⟩)
      unfold expand
      rw [toI_append, toI_append]
      unfold toI
      rw [List.map_map, List.map_map]
      exact IntsAre.append (IntsAre.append hyi (.cons _ _ .nil)) hyi2
def markConst (e : Nat) : Nat := if e = 2 then 734539939 else 1
/-- the six groups of a text -/
def sixOf (e : Nat) (cs ds : List Nat) : List Nat := six (pm (expand cs ++ ds ++ [0, 0, 0, 0, 0, 0]) ^^^ markConst e)

theorem expand_lt {cs : List Nat} (h : ∀ c ∈ cs, c < 128) : ∀ v ∈ expand cs, v < 2 ^ 30 := by
  intro v hv
  unfold expand at hv
  rcases List.mem_append.mp hv with hv | hv
  · rcases List.mem_append.mp hv with hv | hv
    · obtain ⟨c, hc, rfl⟩ := List.mem_map.mp hv
      have := h c hc
      rw [Nat.shiftRight_eq_div_pow]
      omega
    · rw [List.mem_singleton.mp hv]; decide
  · obtain ⟨c, hc, rfl⟩ := List.mem_map.mp hv
    have : c &&& 31 < 2 ^ 5 := Nat.and_lt_two_pow c (by decide)
    omega
theorem expand_length (cs : List Nat) : (expand cs).length = 2 * cs.length + 1 := by simp [expand]; omega

theorem six_at (X k : Nat) : Builtin.bitAnd ((X : Int).fdiv (2 ^ k)) 31 = ((X / 2 ^ k % 32 : Nat) : Int) := by
  rw [iShr]
  have h : Builtin.bitAnd ((X >>> k : Nat) : Int) 31 = ((X >>> k &&& 31 : Nat) : Int) := iAnd _ 31
  have e : X >>> k &&& 31 = X >>> k % 32 := Nat.and_two_pow_sub_one_eq_mod (X >>> k) 5
  rw [h, e, Nat.shiftRight_eq_div_pow]
theorem six_map (X : Nat) : ((List.range 6).map fun (i : Nat) => (0 : Int) + (i : Int) * 1).map (fun a => Builtin.bitAnd ((X : Int).fdiv (2 ^ (5 * (5 - a)).toNat)) 31) = toI (six X) := by
  have e : ((List.range 6).map fun (i : Nat) => (0 : Int) + (i : Int) * 1) = [0, 1, 2, 3, 4, 5] := by decide
  rw [e]
  have h0 := six_at X 0
  have h1 := six_at X 5
  have h2 := six_at X 10
  have h3 := six_at X 15
  have h4 := six_at X 20
  have h5 := six_at X 25
  rw [Nat.pow_zero, Nat.div_one] at h0
  have s0 : (5 * (5 - (0 : Int))).toNat = 25 := rfl
  have s1 : (5 * (5 - (1 : Int))).toNat = 20 := rfl
  have s2 : (5 * (5 - (2 : Int))).toNat = 15 := rfl
  have s3 : (5 * (5 - (3 : Int))).toNat = 10 := rfl
  have s4 : (5 * (5 - (4 : Int))).toNat = 5 := rfl
  have s5 : (5 * (5 - (5 : Int))).toNat = 0 := rfl
  simp only [List.map_cons, List.map_nil, toI, six]
  rw [s0, s1, s2, s3, s4, s5, h0, h1, h2, h3, h4, h5]

theorem len_pv {x d : Nat} (hx : x ≤ 100) (hd : d ≤ 200) : 2 * x + 1 + d < 1000 := by omega
theorem len_pm {x d : Nat} (hx : x ≤ 100) (hd : d ≤ 200) : 2 * x + 1 + d + 6 < 1000 := by omega
theorem six_in {i : Nat} (h : i < 6) : 0 ≤ 0 + (i : Int) * 1 ∧ 0 + (i : Int) * 1 < 6 := by omega
theorem six_up {a : Int} (h : 0 ≤ a ∧ a < 6) : 0 ≤ 5 * (5 - a) := by omega
set_option maxHeartbeats 4000000 in
theorem verify_ok {w : World} {x : Str} {tx : Tok} {l : Addr} {vs : List Value} {c : Nat} {ds : List Nat} {news : List (Addr × Obj)} (hlen : x.cps.size ≤ 100) (hb : ∀ c ∈ x.cps.toList, c < 128) (hI : IntsAre vs (toI ds)) (hdl : ds.length ≤ 200) (hd32 : ∀ d ∈ ds, d < 32) (hl : (l, listOf vs.toArray c) ∈ news) :
    CallOk w 3 47 [.str x tx, .ref l] news (fun v news' => ∃ P, P = pm (expand x.cps.toList ++ ds) ∧ news' = news ∧ ((P = 1 ∧ ∃ t, v = .int 1 t) ∨ (P = 734539939 ∧ ∃ t, v = .int 2 t) ∨ (P ≠ 1 ∧ P ≠ 734539939 ∧ v = .none))) := by
  refine hideRet fun Ret hRet => ?_
  refine' callOk_intro (k := 2) [(Str.ofString "hrp", .str x tx), (Str.ofString "data", .ref l)] (fun y => if y = Str.ofString "data" then some (.ref l) else if y = Str.ofString "hrp" then some (.str x tx) else none)
    ?ho ?hcd ?hbind ?hloc ?hm ?h ?c2 ?c3 ?c4 ?c5
  walk_at "my enter"
  intro mean mg mb dp un gd outer A₀ base g L' h₁ tk s₀ B F X N T hdp hu
  have RM : Room dp un 2 := ⟨hdp, hu⟩
  clear hdp hu
  walk_at "my steps"
  refine CallOk.use (expand_ok hlen hb) B F X T N rfl (RM.d' (by decide)) (RM.u' (by decide)) ?_
  rintro v nw h2 tk2 ⟨D, us, c1, rfl, hus, hltD, rfl⟩ F1 N1
  clear F N
  have hul : us.length ≤ 201 := by rw [hus.length, toI_length, expand_length, Array.length_toList]; exact Nat.succ_le_succ (Nat.mul_le_mul_left 2 hlen)
  have hvl : vs.length ≤ 200 := by rw [hI.length, toI_length]; exact hdl
  walk_at "my steps"
  refine add_L (vs := us) (c := c1) (us := vs) (d := c) F1 N1 (.head _) (.tail _ hl) (Nat.le_trans (Nat.add_le_add hul hvl) (by decide)) ?_
  intro R h4 F4 N4 hltR
  clear F1 N1
  walk_at "my steps"
  have hbb : ∀ v ∈ expand x.cps.toList ++ ds, v < 2 ^ 30 := by
    intro v hv
    rcases List.mem_append.mp hv with h | h
    · exact expand_lt hb v h
    · exact Nat.lt_trans (hd32 v h) (by decide)
  refine CallOk.use (polymod_ok (l := R) (vs := us ++ vs) (c := 0) (us := expand x.cps.toList ++ ds) (by rw [toI_append]; exact IntsAre.append hus hI) (by rw [List.length_append, expand_length, Array.length_toList]; exact len_pv hlen hdl) hbb (.head _)) B F4 X T N4 rfl (RM.d' (by decide)) (RM.u' (by decide)) ?_
  rintro v nw h5 tk5 ⟨t5, rfl, rfl⟩ F5 N5
  clear F4 N4
  generalize hP : pm (expand x.cps.toList ++ ds) = P
  walk_at "my steps"
  all_goals (
    rename Fr _ _ _ _ => F6
    rename News _ _ _ _ => N6
    refine Bk.ret F6 (News.sub N6 fun p hp => .tail _ (.tail _ hp)) (hRet _ _ ⟨P, hP.symm, rfl, ?_⟩))
  · rename (P : Int) = 1 => h1
    exact .inl ⟨Int.ofNat_inj.mp (show (P : Int) = ((1 : Nat) : Int) from h1), _, rfl⟩
  · rename (P : Int) = 734539939 => h1
    exact .inr (.inl ⟨Int.ofNat_inj.mp (show (P : Int) = ((734539939 : Nat) : Int) from h1), _, rfl⟩)
  · rename (P : Int) ≠ 1 => h1
    rename (P : Int) ≠ 734539939 => h2
    exact .inr (.inr ⟨fun q => h1 (by rw [q]; rfl), fun q => h2 (by rw [q]; rfl), rfl⟩)

set_option maxHeartbeats 4000000 in
theorem create_ok {w : World} {e : Nat} {te : Tok} {x : Str} {tx : Tok} {l : Addr} {vs : List Value} {c : Nat} {ds : List Nat} {news : List (Addr × Obj)} (he : e = 1 ∨ e = 2) (hlen : x.cps.size ≤ 100) (hb : ∀ c ∈ x.cps.toList, c < 128) (hI : IntsAre vs (toI ds)) (hdl : ds.length ≤ 200) (hd32 : ∀ d ∈ ds, d < 32) (hl : (l, listOf vs.toArray c) ∈ news) :
    CallOk w 3 52 [.int (e : Nat) te, .str x tx, .ref l] news (fun v news' => ∃ D us c', v = .ref D ∧ IntsAre us (toI (sixOf e x.cps.toList ds)) ∧ (∀ p ∈ news, p.1 ≠ D) ∧ news' = (D, listOf us.toArray c') :: news) := by
  refine hideRet fun Ret hRet => ?_
  refine' callOk_introC (k := 2) [(Str.ofString "encoding", .int (e : Nat) te), (Str.ofString "hrp", .str x tx), (Str.ofString "data", .ref l)] (fun y => if y = Str.ofString "data" then some (.ref l) else if y = Str.ofString "hrp" then some (.str x tx) else if y = Str.ofString "encoding" then some (.int (e : Nat) te) else none)
    ?ho ?hcd ?hbind ?hloc ?hnd ?hm ?h ?c2 ?c3 ?c4
  walk_at "my enterC"
  intro mean mg mb dp un gd outer A₀ base g L' h₁ tk s₀ cells B F X N Y T hdp hu hltL
  have RM : Room dp un 2 := ⟨hdp, hu⟩
  clear hdp hu
  obtain ⟨oW, rfl, hW⟩ := CellsAre.one Y
  replace hW : oW.data = .cell none := hW
  replace N : News g L' h₁ ((L' + 1, oW) :: news) := N
  clear Y
  walk_at "my steps"
  refine CallOk.use (expand_ok hlen hb) B F X T N rfl (RM.d' (by decide)) (RM.u' (by decide)) ?_
  rintro v nw h2 tk2 ⟨D, us, c1, rfl, hus, hltD, rfl⟩ F1 N1
  clear F N
  have hul : us.length ≤ 201 := by rw [hus.length, toI_length, expand_length, Array.length_toList]; exact Nat.succ_le_succ (Nat.mul_le_mul_left 2 hlen)
  have hvl : vs.length ≤ 200 := by rw [hI.length, toI_length]; exact hdl
  walk_at "my steps"
  refine add_L (vs := us) (c := c1) (us := vs) (d := c) F1 N1 (.head _) (.tail _ (.tail _ hl)) (Nat.le_trans (Nat.add_le_add hul hvl) (by decide)) ?_
  intro R h4 F4 N4 hltR
  clear F1 N1
  have hbb : ∀ v ∈ expand x.cps.toList ++ ds ++ [0, 0, 0, 0, 0, 0], v < 2 ^ 30 := by
    intro v hv
    rcases List.mem_append.mp hv with hv | hv
    · rcases List.mem_append.mp hv with h | h
      · exact expand_lt hb v h
      · exact Nat.lt_trans (hd32 v h) (by decide)
    · simp at hv; rw [hv]; decide
  have hnW : ∀ p ∈ news, p.1 ≠ L' + 1 := fun p hp => Nat.ne_of_lt (Nat.lt_succ_of_lt (hltL p hp))
  walk_at "my steps"
  · rename (e : Int) = 2 => he2
    rename Fr _ _ _ _ => F5
    rename News _ _ _ _ => N5
    rename _ ∧ _ ∧ _ ∧ AllLt _ _ => l5
    obtain ⟨Z, hZ, l5⟩ := named (P := fun Z => R < Z ∧ D < Z ∧ L' + 1 < Z ∧ AllLt Z news) l5
    subst hZ
    obtain ⟨zv, hzv, hZI⟩ : ∃ zv : List Value, News g L' _ ((Z, listOf zv.toArray 0) :: (R, listOf (us ++ vs).toArray 0) :: (D, listOf us.toArray c1) :: (L' + 1, oW) :: news) ∧ IntsAre zv (toI [0, 0, 0, 0, 0, 0]) := ⟨_, N5, .cons _ _ (.cons _ _ (.cons _ _ (.cons _ _ (.cons _ _ (.cons _ _ .nil)))))⟩
    clear N5
    have hzl : zv.length = 6 := hZI.length
    refine add_L (vs := us ++ vs) (c := 0) (us := zv) (d := 0) F5 hzv (.tail _ (.head _)) (.head _) (by rw [List.length_append]; exact Nat.le_trans (Nat.add_le_add (Nat.add_le_add hul hvl) (Nat.le_of_eq hzl)) (by decide)) ?_
    intro R2 h6 F6 N6 hltR2
    clear F5 hzv
    walk_at "my steps"
    refine CallOk.use (polymod_ok (l := R2) (vs := us ++ vs ++ zv) (c := 0) (us := expand x.cps.toList ++ ds ++ [0, 0, 0, 0, 0, 0]) (by rw [toI_append, toI_append]; exact IntsAre.append (IntsAre.append hus hI) hZI) (by rw [List.length_append, List.length_append, expand_length, Array.length_toList]; exact len_pm hlen hdl) hbb (.head _)) B F6 X T N6 rfl (RM.d' (by decide)) (RM.u' (by decide)) ?_
    rintro v nw h7 tk7 ⟨t7, rfl, rfl⟩ F7 N7
    clear F6 N6
    have hPb := pm_lt hbb
    replace N7 : News g L' h7 ((L' + 1, oW) :: news) := News.sub N7 fun p hp => .tail _ (.tail _ (.tail _ (.tail _ hp)))
    generalize hP : pm (expand x.cps.toList ++ ds ++ [0, 0, 0, 0, 0, 0]) = P at F7 hPb
    have eX : Builtin.bitXor (P : Int) 734539939 = ((P ^^^ 734539939 : Nat) : Int) := iXor P 734539939
    have hXb : P ^^^ 734539939 < 2 ^ 30 := Nat.xor_lt_two_pow hPb (by decide)
    have hxn : (Builtin.bitXor (P : Int) 734539939).natAbs < 2 ^ 64 := by rw [eX, Int.natAbs_natCast]; exact Nat.lt_trans hXb (by decide)
    walk_at "my steps"
    rename Fr _ _ _ _ => F8
    rename News _ _ _ _ => N8
    rename Obj => oF
    rename oF.data = _ => hF
    rw [eX] at hF
    obtain ⟨m8, F8⟩ : ∃ m8, Fr g L' _ m8 := ⟨_, F8⟩
    refine' lc_eval (h₀ := g) (L := L') (m := m8) (news := (L' + 1, oF) :: news) IntV IntV ((List.range 6).map fun (i : Nat) => 0 + (i : Int) * 1) (fun a => Builtin.bitAnd (((P ^^^ 734539939 : Nat) : Int).fdiv (2 ^ (5 * (5 - a)).toNat)) 31) (by with_unfolding_all rfl) (by decide) (by rfl) (by decide) (by rfl) (by intro _; rfl) ?src ?turn ?fin
    case src =>
      walk_at "my steps"
      rename Fr _ _ _ _ => F9
      rename News _ _ _ _ => N9
      rename IsRange _ _ _ _ _ _ _ _ => hrg
      exact src_range (n := 6) rfl F9 N9 hrg rfl rfl (by decide)
    case turn =>
      rintro a v I oI C oC D ys m₂ h tk ha ⟨t, rfl⟩ hx ⟨hns, F, N, off, ne⟩
      have ha2 : 0 ≤ a ∧ a < 6 := by
        obtain ⟨i, hi, rfl⟩ := List.mem_map.mp ha
        exact six_in (List.mem_range.mp hi)
      have ha3 : 0 ≤ 5 * (5 - a) := six_up ha2
      clear F8 N8
      walk_at "my steps"
      · exact ⟨_, rfl⟩
      · exact Kp.here (by assumption) (by assumption)
    case fin =>
      intro D ys h tk hys F9 N9 hne
      have hyi := intsOf hys
      rw [six_map] at hyi
      clear F8 N8
      walk_at "my steps"
      refine Bk.ret F9 (News.sub N9 fun p hp => (List.mem_cons.mp hp).elim (fun e => e ▸ .head _) fun h => .tail _ (.tail _ h)) (hRet _ _ ⟨D, ys, _, rfl, ?_, fun p hp => hne p (.tail _ hp), rfl⟩)
      unfold sixOf markConst
      rw [hP, if_pos (Int.ofNat_inj.mp (show (e : Int) = ((2 : Nat) : Int) from he2))]
      exact hyi
  · rename (e : Int) ≠ 2 => he2
    rename Fr _ _ _ _ => F5
    rename News _ _ _ _ => N5
    rename _ ∧ _ ∧ _ ∧ AllLt _ _ => l5
    obtain ⟨Z, hZ, l5⟩ := named (P := fun Z => R < Z ∧ D < Z ∧ L' + 1 < Z ∧ AllLt Z news) l5
    subst hZ
    obtain ⟨zv, hzv, hZI⟩ : ∃ zv : List Value, News g L' _ ((Z, listOf zv.toArray 0) :: (R, listOf (us ++ vs).toArray 0) :: (D, listOf us.toArray c1) :: (L' + 1, oW) :: news) ∧ IntsAre zv (toI [0, 0, 0, 0, 0, 0]) := ⟨_, N5, .cons _ _ (.cons _ _ (.cons _ _ (.cons _ _ (.cons _ _ (.cons _ _ .nil)))))⟩
    clear N5
    have hzl : zv.length = 6 := hZI.length
    refine add_L (vs := us ++ vs) (c := 0) (us := zv) (d := 0) F5 hzv (.tail _ (.head _)) (.head _) (by rw [List.length_append]; exact Nat.le_trans (Nat.add_le_add (Nat.add_le_add hul hvl) (Nat.le_of_eq hzl)) (by decide)) ?_
    intro R2 h6 F6 N6 hltR2
    clear F5 hzv
    walk_at "my steps"
    refine CallOk.use (polymod_ok (l := R2) (vs := us ++ vs ++ zv) (c := 0) (us := expand x.cps.toList ++ ds ++ [0, 0, 0, 0, 0, 0]) (by rw [toI_append, toI_append]; exact IntsAre.append (IntsAre.append hus hI) hZI) (by rw [List.length_append, List.length_append, expand_length, Array.length_toList]; exact len_pm hlen hdl) hbb (.head _)) B F6 X T N6 rfl (RM.d' (by decide)) (RM.u' (by decide)) ?_
    rintro v nw h7 tk7 ⟨t7, rfl, rfl⟩ F7 N7
    clear F6 N6
    have hPb := pm_lt hbb
    replace N7 : News g L' h7 ((L' + 1, oW) :: news) := News.sub N7 fun p hp => .tail _ (.tail _ (.tail _ (.tail _ hp)))
    generalize hP : pm (expand x.cps.toList ++ ds ++ [0, 0, 0, 0, 0, 0]) = P at F7 hPb
    have eX : Builtin.bitXor (P : Int) 1 = ((P ^^^ 1 : Nat) : Int) := iXor P 1
    have hXb : P ^^^ 1 < 2 ^ 30 := Nat.xor_lt_two_pow hPb (by decide)
    have hxn : (Builtin.bitXor (P : Int) 1).natAbs < 2 ^ 64 := by rw [eX, Int.natAbs_natCast]; exact Nat.lt_trans hXb (by decide)
    walk_at "my steps"
    rename Fr _ _ _ _ => F8
    rename News _ _ _ _ => N8
    rename Obj => oF
    rename oF.data = _ => hF
    rw [eX] at hF
    obtain ⟨m8, F8⟩ : ∃ m8, Fr g L' _ m8 := ⟨_, F8⟩
    refine' lc_eval (h₀ := g) (L := L') (m := m8) (news := (L' + 1, oF) :: news) IntV IntV ((List.range 6).map fun (i : Nat) => 0 + (i : Int) * 1) (fun a => Builtin.bitAnd (((P ^^^ 1 : Nat) : Int).fdiv (2 ^ (5 * (5 - a)).toNat)) 31) (by with_unfolding_all rfl) (by decide) (by rfl) (by decide) (by rfl) (by intro _; rfl) ?src ?turn ?fin
    case src =>
      walk_at "my steps"
      rename Fr _ _ _ _ => F9
      rename News _ _ _ _ => N9
      rename IsRange _ _ _ _ _ _ _ _ => hrg
      exact src_range (n := 6) rfl F9 N9 hrg rfl rfl (by decide)
    case turn =>
      rintro a v I oI C oC D ys m₂ h tk ha ⟨t, rfl⟩ hx ⟨hns, F, N, off, ne⟩
      have ha2 : 0 ≤ a ∧ a < 6 := by
        obtain ⟨i, hi, rfl⟩ := List.mem_map.mp ha
        exact six_in (List.mem_range.mp hi)
      have ha3 : 0 ≤ 5 * (5 - a) := six_up ha2
      clear F8 N8
      walk_at "my steps"
      · exact ⟨_, rfl⟩
      · exact Kp.here (by assumption) (by assumption)
    case fin =>
      intro D ys h tk hys F9 N9 hne
      have hyi := intsOf hys
      rw [six_map] at hyi
      clear F8 N8
      walk_at "my steps"
      refine Bk.ret F9 (News.sub N9 fun p hp => (List.mem_cons.mp hp).elim (fun e => e ▸ .head _) fun h => .tail _ (.tail _ h)) (hRet _ _ ⟨D, ys, _, rfl, ?_, fun p hp => hne p (.tail _ hp), rfl⟩)
      unfold sixOf markConst
      rw [hP, if_neg (fun q => he2 (by rw [q]; rfl))]
      exact hyi
/-- one sign -/
def sg (c : Nat) : Str := ⟨#[c]⟩
theorem strsOf : ∀ {cs : List Nat} {ys : List Value}, All2 (fun c v => StrV (sg c) v) cs ys → StrsAre ys (cs.map sg)
  | _, _, .nil => .nil
  | _, _, .cons ⟨t, e⟩ r => by subst e; exact .cons _ t (strsOf r)
theorem app_cps (a b : Str) : (a ++ b).cps.toList = a.cps.toList ++ b.cps.toList := by
  show (a.cps ++ b.cps).toList = _
  simp
theorem join_signs (cs : List Nat) : (PySem.Txt.join (Str.ofString "") (cs.map sg)).cps.toList = cs := by
  show (Builtin.Str.glued (Str.ofString "") (cs.map sg)).cps.toList = cs
  rw [StrLaws.glued_eq_join]
  induction cs with
  | nil => rfl
  | cons a r ih =>
    cases r with
    | nil => rfl
    | cons b r =>
      have e : Str.join (Str.ofString "") ((a :: b :: r).map sg) = sg a ++ Str.ofString "" ++ Str.join (Str.ofString "") ((b :: r).map sg) := rfl
      rw [e, app_cps, app_cps, ih]
      rfl
theorem signs_weight (cs : List Nat) : ((cs.map sg).map (·.length)).sum + (cs.map sg).length = 2 * cs.length := by
  induction cs with
  | nil => rfl
  | cons a r ih =>
    simp only [List.map_cons, List.sum_cons, List.length_cons] at ih ⊢
    have : (sg a).length = 1 := rfl
    omega
/-- the codes of the 32 signs -/
def CH : List Nat := [113, 112, 122, 114, 121, 57, 120, 56, 103, 102, 50, 116, 118, 100, 119, 48, 115, 51, 106, 110, 53, 52, 107, 104, 99, 101, 54, 109, 117, 97, 55, 108]
def chAt (d : Nat) : Nat := CH.getD d 0
theorem item_at : ∀ a, a < 32 → Txt.item (Str.ofString "qpzry9x8gf2tvdw0s3jn54khce6mua7l") ((a : Nat) : Int) = sg (chAt a) := by decide +kernel
theorem CH_len : (Str.ofString "qpzry9x8gf2tvdw0s3jn54khce6mua7l").length = 32 := by decide +kernel
theorem CH_is : (Str.ofString "qpzry9x8gf2tvdw0s3jn54khce6mua7l").cps = CH.toArray := by decide +kernel

theorem ofNats : ∀ {vs : List Value} {ds : List Nat}, IntsAre vs (toI ds) → All2 (fun (d : Nat) v => IntV (d : Int) v) ds vs
  | vs, [], h => by cases h; exact .nil
  | vs, d :: r, h => by
    cases h with
    | cons _ t h' => exact .cons ⟨t, rfl⟩ (ofNats h')

set_option maxHeartbeats 4000000 in
theorem encode_ok {w : World} {e : Nat} {te : Tok} {x : Str} {tx : Tok} {l : Addr} {vs : List Value} {c : Nat} {ds : List Nat} {news : List (Addr × Obj)} (he : e = 1 ∨ e = 2) (hlen : x.cps.size ≤ 100) (hb : ∀ c ∈ x.cps.toList, c < 128) (hI : IntsAre vs (toI ds)) (hdl : ds.length ≤ 190) (hd32 : ∀ d ∈ ds, d < 32) (hl : (l, listOf vs.toArray c) ∈ news) :
    CallOk w 4 57 [.int (e : Nat) te, .str x tx, .ref l] news (fun v news' => ∃ y t, v = .str y t ∧ y.cps.toList = x.cps.toList ++ 49 :: (ds ++ sixOf e x.cps.toList ds).map chAt ∧ news' = news) := by
  refine hideRet fun Ret hRet => ?_
  refine' callOk_intro (k := 3) [(Str.ofString "encoding", .int (e : Nat) te), (Str.ofString "hrp", .str x tx), (Str.ofString "data", .ref l)] (fun y => if y = Str.ofString "data" then some (.ref l) else if y = Str.ofString "hrp" then some (.str x tx) else if y = Str.ofString "encoding" then some (.int (e : Nat) te) else none)
    ?ho ?hcd ?hbind ?hloc ?hm ?h ?c2 ?c3 ?c4 ?c5
  walk_at "my enter"
  intro mean mg mb dp un gd outer A₀ base g L' h₁ tk s₀ B F X N T hdp hu
  have RM : Room dp un 3 := ⟨hdp, hu⟩
  clear hdp hu
  walk_at "my steps"
  refine CallOk.use (create_ok he hlen hb hI (by omega) hd32 hl) B F X T N rfl (RM.d' (by decide)) (RM.u' (by decide)) ?_
  rintro v nw h2 tk2 ⟨D, us, c1, rfl, hus, hneD, rfl⟩ F1 N1
  clear F N
  have hul : us.length = 6 := by rw [hus.length, toI_length]; rfl
  have hvl : vs.length ≤ 190 := by rw [hI.length, toI_length]; omega
  walk_at "my steps"
  refine add_L (vs := vs) (c := c) (us := us) (d := c1) F1 N1 (.tail _ hl) (.head _) (by omega) ?_
  intro R h4 F4 N4 hltR
  clear F1 N1
  have hvi := IntsAre.append hI hus
  rw [← toI_append] at hvi
  have hd2 : ∀ d ∈ ds ++ sixOf e x.cps.toList ds, d < 32 := by
    intro d hd
    rcases List.mem_append.mp hd with h | h
    · exact hd32 d h
    · exact six_lt _ d h
  have hds : (ds ++ sixOf e x.cps.toList ds).length ≤ 196 := by
    rw [List.length_append]
    have : (sixOf e x.cps.toList ds).length = 6 := rfl
    omega
  generalize hD2 : ds ++ sixOf e x.cps.toList ds = d2 at hvi hd2 hds
  walk_at "my steps"
  rename Fr _ _ _ _ => F5
  rename News _ _ _ _ => N5
  obtain ⟨m5, hm5⟩ : ∃ m5, m5 = fun y => if y = Str.ofString "combined" then some (Value.ref R) else if y = Str.ofString "data" then some (.ref l) else if y = Str.ofString "hrp" then some (.str x tx) else if y = Str.ofString "encoding" then some (.int (e : Nat) te) else none := ⟨_, rfl⟩
  rw [← hm5] at F5
  have hmc : m5 (Str.ofString "combined") = some (.ref R) := by rw [hm5]; rfl
  refine PyProof.Rows.add_str (fun t1 tk1 => ?_) (by rw [sizeLine_eq]; show x.cps.size + 1 ≤ _; omega)
  walk_at "my steps"
  refine' lc_eval (h₀ := g) (L := L') (m := m5) (news := (R, listOf (vs ++ us).toArray 0) :: (D, listOf us.toArray c1) :: news) (fun (d : Nat) v => IntV (d : Int) v) (fun (c : Nat) v => StrV (sg c) v) d2 (fun d => chAt d) (by with_unfolding_all rfl) (by decide) (by rfl) (by decide) (by rfl) (by intro _; rfl) ?src ?turn ?fin
  case src =>
    walk_at "my steps"
    refine src_list rfl F5 N5 (.head _) (vs := vs ++ us) (c := 0) ?_ (by rw [List.length_append]; omega)
    exact ofNats hvi
  case turn =>
    rintro a v I oI C oC D ys m₂ h tk ha ⟨t, rfl⟩ hx ⟨hns, F, N, off, ne⟩
    have ha32 := hd2 a ha
    clear F5 N5
    have hk1 : (0 : Int) ≤ (a : Int) := by omega
    have hk2 : (a : Int) < 32 := by omega
    have hcl := CH_len
    walk_at "my steps"
    · exact ⟨_, by rw [item_at a ha32]⟩
    · exact Kp.here (by assumption) (by assumption)
  case fin =>
    intro D ys h tk hys F9 N9 hne
    have hst := strsOf hys
    walk_at "my steps"
    refine join_listW (ys := (d2.map fun d => chAt d).map sg) (News.isList N9 (.head _)) (by simpa using hst) (by decide +kernel) (by rw [signs_weight, List.length_map]; omega) ?_
    intro t6 tk6
    clear F5 N5
    have hjl : (Txt.join (Str.ofString "") ((d2.map fun d => chAt d).map sg)).length = d2.length := by
      show (Txt.join (Str.ofString "") ((d2.map fun d => chAt d).map sg)).cps.size = _
      rw [← Array.length_toList, join_signs, List.length_map]
    have hjc := join_signs (d2.map fun d => chAt d)
    generalize Txt.join (Str.ofString "") ((d2.map fun d => chAt d).map sg) = jt at hjl hjc
    walk_at "my steps"
    refine PyProof.Rows.add_str (fun t7 tk7 => ?_) ?_
    · walk_at "my steps"
      refine Bk.ret F9 (News.sub N9 fun p hp => .tail _ (.tail _ (.tail _ hp))) (hRet _ _ ⟨_, _, rfl, ?_, rfl⟩)
      rw [app_cps, app_cps, hjc, List.append_assoc, hD2]
      rfl
    · rw [sizeLine_eq, hjl]
      have : (x ++ Str.ofString "1").length = x.cps.size + 1 := by
        show (x ++ Str.ofString "1").cps.size = _
        rw [← Array.length_toList, app_cps, List.length_append, Array.length_toList]
        rfl
      omega
/-- what a code table holds are code objects -/
def RefsOk (l : List Value) : Prop := ∀ pos v, codeAmong pos l = some v → ∃ c', v = .ref c'
theorem refs_nil : RefsOk [] := fun _ _ h => by simp [codeAmong] at h
theorem codeAmong_end {pos : Pos} {a b : Int} {x v : Value} (l : List Value) (ht : TriplesOk l) (h : codeAmong pos (l ++ [rawInt a, rawInt b, x]) = some v) : codeAmong pos l = some v ∨ v = x := by
  fun_induction TriplesOk l with
  | case1 =>
    simp only [List.nil_append, codeAmong, rawInt] at h
    split at h
    · exact .inr (Option.some.inj h).symm
    · cases h
  | case2 a' t b' u y rest ih =>
    simp only [List.cons_append, codeAmong] at h ⊢
    split at h
    · rename_i hc
      rw [if_pos hc]; exact .inl h
    · rename_i hc
      rw [if_neg hc]; exact ih ht h
  | case3 l h1 h2 => exact ht.elim
theorem refs_snoc {l : List Value} {a b : Int} {c' : Addr} (ht : TriplesOk l) (h : RefsOk l) : RefsOk (l ++ [rawInt a, rawInt b, .ref c']) := fun pos v hv =>
  (codeAmong_end l ht hv).elim (h pos v) fun e => ⟨c', e⟩

/-- a code table's object -/
def pobj (ps : Array Value) : Obj := { cls := .none, data := .fields ps }
/-- a code record in the base, its table elsewhere -/
def CodeFor (h₀ : Heap) (c P : Addr) : Prop :=
  ∃ o vs file tf flags tg inF text tt, h₀.get? c = some o ∧ o.data = .fields vs ∧ vs.getD 11 .none = .ref P ∧ vs.getD 18 .none = .str file tf ∧ vs.getD 7 .none = .int flags tg ∧ vs.getD 9 .none = .bool inF ∧ vs.getD 10 .none = .int text tt ∧ c ≠ P ∧ o.cls = .type "code" ∧ vs[11]? = some (.ref P)
theorem CodeFor.keeps {h₀ h : Heap} {c P : Addr} (C : CodeFor h₀ c P) (hk : ∀ b o, h₀.get? b = some o → h.get? b = some o) : CodeFor h c P := by
  obtain ⟨o, vs, file, tf, flags, tg, inF, text, tt, ho, r⟩ := C
  exact ⟨o, vs, file, tf, flags, tg, inF, text, tt, hk _ _ ho, r⟩
theorem CodeFor.isCode {h : Heap} {c P : Addr} {ps : Array Value} (C : CodeFor h c P) (hP : h.get? P = some (pobj ps)) (ht : TriplesOk ps.toList) : h.IsCode c P ps ∧ h.TableAt c P ps := by
  obtain ⟨o, vs, file, tf, flags, tg, inF, text, tt, ho, hd, h11, h18, h7, h9, h10, hne, hcls, hv⟩ := C
  exact ⟨⟨o, vs, file, tf, flags, tg, inF, text, tt, _, ho, hd, h11, h18, h7, h9, h10, hP, rfl, ht, hne⟩, ⟨⟨o, vs, ho, hcls, hd, hv⟩, hP⟩⟩
/-- a table's state -/
def PsOk (ps : Array Value) : Prop := TriplesOk ps.toList ∧ RefsOk ps.toList

section
variable {M : Model} {A : Around} {E : Value → Shared → Prop} {s : Shared} {h₀ : Heap} {L : Addr} {m : Str → Option Value} {env : Env} {news : List (Addr × Obj)}
theorem genCode_L {c P : Addr} {ps : Array Value} {pos : Pos} {q : Str} {scope : Scope} {Q : Value → Shared → Prop} (C : CodeFor h₀ c P) (F : Fr h₀ L s.heap m) (N : News h₀ L s.heap ((P, pobj ps) :: news)) (hne : ∀ p ∈ news, p.1 ≠ P) (hp : PsOk ps) (hc : env.code = .ref c)
    (h : ∀ c' h' tk ps', Fr h₀ L h' m → News h₀ L h' ((P, pobj ps') :: news) → PsOk ps' → Heap.ExtBut P s.heap h' → s.heap.objs.size ≤ h'.objs.size → Q (.ref c') { s with heap := h', toks := tk }) :
    wpAny M A (genexprCode env pos q scope) Q E s := by
  have hP := N _ (.head _)
  obtain ⟨hok, htab⟩ := (C.keeps F.keep).isCode hP.1 hp.1
  cases hf : codeAmong pos ps.toList with
  | none =>
    refine wpAny_genexprCodeX hc hok htab hf fun c' h' tk hx hge hlt hok' _ htab' _ => ?_
    have hl : (ps ++ #[rawInt pos.line, rawInt pos.col, Value.ref c']).toList = ps.toList ++ [rawInt pos.line, rawInt pos.col, .ref c'] := by simp
    have F' : Fr h₀ L h' m := ⟨F.ns.extBut hx (Ne.symm hP.2.1), fun b o e => hx b o (fun eb => by rw [eb, hP.2.2] at e; cases e) (F.keep b o e), F.above⟩
    have N' : News h₀ L h' ((P, pobj (ps ++ #[rawInt pos.line, rawInt pos.col, Value.ref c'])) :: news) := by
      intro p hp'
      rcases List.mem_cons.mp hp' with rfl | hp'
      · exact ⟨htab'.2, hP.2⟩
      · have := N p (.tail _ hp')
        exact ⟨hx _ _ (hne p hp') this.1, this.2⟩
    refine h c' h' tk _ F' N' ⟨?_, ?_⟩ hx (Nat.le_trans hge (Nat.le_of_lt hlt))
    · rw [hl]
      exact TriplesOk_snoc _ _ _ _ hp.1
    · rw [hl]
      exact refs_snoc hp.1 hp.2
  | some v =>
    obtain ⟨c', rfl⟩ := hp.2 pos v hf
    obtain ⟨o, vs, file, tf, flags, tg, inF, text, tt, op, ho, hd, h11, h2, h7, h9, h10, hop, hpd, htr, hne'⟩ := id hok
    unfold genexprCode codeAt
    rw [hc, if_neg (show ¬ ((Value.ref c == Value.none) = true) from Bool.false_ne_true)]
    refine wpAny_bind (wpAny_fieldsOf ho hd ?_)
    rw [h11]
    refine wpAny_bind (wpAny_fieldsOf hop hpd ?_)
    rw [hf]
    exact wpAny_pure (h c' s.heap s.toks ps F N hp (fun b o _ e => e) (Nat.le_refl _))
end
section
variable {prog : Program} {w : World} {A : Around} {E : Value → Shared → Prop} {s : Shared} {h₀ : Heap} {L : Addr} {m : Str → Option Value} {env : Env}

/-- a text that a generator expression walks -/
def SrcG (h₀ : Heap) (L : Addr) (m : Str → Option Value) (P : Addr) (led : List (Addr × Obj)) (y : Str) (s : Shared) (xv : Value) (s₁ : Shared) : Prop :=
  ∃ ty h tk ps, xv = .str y ty ∧ s₁ = { s with heap := h, toks := tk } ∧ Fr h₀ L h m ∧ News h₀ L h ((P, pobj ps) :: led) ∧ PsOk ps

/-- a generator over the truths of a text's signs -/
def GenT (prog : Program) (w : World) (A : Around) (K a : Addr) (y : Str) (tr : Nat → Bool) (s : Shared) : Prop :=
  Gen prog w A K a (passing (fun _ => true) y.cps.size 0).length (fun j v => ∃ i, (passing (fun _ => true) y.cps.size 0)[j]? = some i ∧ ∃ cp, y.cps.toList[i]? = some cp ∧ v = .bool (tr cp)) s

theorem genexp_str {elt iter : Expr} {x : Str} {px : Pos} {scope : Scope} {cl : List (Str × Addr)} {pos : Pos} {c P : Addr} {led : List (Addr × Obj)} {y : Str} (tr : Nat → Bool) {mg : Str → Option Value} {bm : Addr} {ob : Obj} {Q : Value → Shared → Prop}
    (hh : A.handled = none) (C : CodeFor h₀ c P) (M : BMod h₀ env.globals mg bm ob) (hlim : h₀.NoLimit) (hne : ∀ p ∈ led, p.1 ≠ P) (hcode : env.code = .ref c) (hG : AllBare s.gens) (hy : y.cps.all (· < 128) = true)
    (hco : scope.isCoroutine = false) (hclos : closureFor scope env = pure cl) (hcell : ∀ y ∈ scope.names, y.2 ≠ .cell) (h0 : scope.names.lookup (".0" : Str) = some NameKind.local)
    (hx : scope.names.lookup x = some .local) (hkind : scope.kind = .function) (hroom : A.depth < recursionLimit) (hs : ∀ x, genFold iter env x = pure x)
    (hsrc : wpAny (model prog w) A (eval iter env) (SrcG h₀ L m P led y s) E s)
    (helt : ∀ c' C' (A' : Around) E' (cp : Nat) t (u : Shared) m₂, A'.handled = none → A'.depth ≤ A.depth + 1 → A'.units ≤ A.units + 8 → cp ∈ y.cps.toList → Fr h₀ C' u.heap m₂ → m₂ x = some (.str (sg cp) t) →
      wpAny (model prog w) A' (eval elt (genEnv scope cl C' (.ref c') builtinsNs env)) (fun v s₃ => v = .bool (tr cp) ∧ Keeps u s₃) E' u)
    (hQ : ∀ a K (s₅ : Shared) ps, Fr h₀ L s₅.heap m → News h₀ L s₅.heap ((P, pobj ps) :: led) → PsOk ps → AllBare s₅.gens → s₅.os = s.os → L ≤ K → (∀ p ∈ (P, pobj ps) :: led, p.1 ≤ K) → GenT prog w A K a y tr s₅ → Q (.ref a) s₅) :
    wpAny (model prog w) A (eval (.GeneratorExp elt [⟨.Name x px, iter, [], 0⟩] scope pos) env) Q E s := by
  refine wpAny_GeneratorExp_walksQD hh hco hclos hcell h0 hx hkind hroom (wpAny_mono hsrc (fun xv s₁ h₁ => ?_) (fun _ _ e => e)) hs
  obtain ⟨ty, h, tk, ps, rfl, rfl, F, N, hp⟩ := h₁
  refine wpAny_pyIter_ascii hy ?_
  have F₂ := F.push (o := { cls := .type "str_ascii_iterator", data := .fields #[.str y ty, .int 0 0] })
  have N₂ : News h₀ L (h.push { cls := .type "str_ascii_iterator", data := .fields #[.str y ty, .int 0 0] }) ((P, pobj ps) :: led) := fun p hp => ⟨Heap.get?_push_of_some _ (N p hp).1, (N p hp).2⟩
  have hLlt : L < h.objs.size := F.ns.lt
  refine ⟨hlim.keeps F₂.keep, genCode_L C F₂ N₂ hne hp hcode fun c' h' tk' ps' F₃ N₃ hp' hx₃ hsz => ?_⟩
  have M₃ : BMod h' env.globals mg bm ob := M.keeps F₃.keep
  have hPlt : P < h.objs.size := Heap.lt_size (N _ (.head _)).1
  have hszp : h.objs.size + 1 ≤ h'.objs.size := by
    have := hsz
    rw [Heap.size_push] at this
    exact this
  refine wpAny_builtinsFor M₃.ns M₃.name M₃.ne M₃.obj M₃.cls M₃.dict M₃.data ?_
  refine ⟨h.objs.size, [h.objs.size], [h.objs.size], y.cps.size, SignAt y, _, fun _ => true, fun i v => ∃ cp, y.cps.toList[i]? = some cp ∧ v = .bool (tr cp), rfl, fun A' hA' => Walks.strAscii hA' _ y ty, ?st, ?fp, hlim.keeps F₃.keep, ?cw, fun href hhref => ?quiet, fun a h₅ tk₅ gs hgb hag hsz₅ hk₅ W hat => ?fin⟩
  case st => exact ⟨_, hx₃ _ _ (Nat.ne_of_gt hPlt) (Heap.get?_push_size _ rfl), rfl, rfl⟩
  case fp =>
    intro b hb
    rw [List.mem_singleton.mp hb]
    exact hszp
  case cw =>
    intro hm
    obtain ⟨_, hn, _⟩ := hlim.keeps F.keep
    have := hn.lt
    rw [List.mem_singleton.mp hm] at this
    exact Nat.lt_irrefl _ this
  case quiet =>
    refine ⟨fun A' E' i v u m₂ hA hD hU hP hn hm hkp => ?_, fun A' E' i v u m₂ hA hD hU hP _ hn hm hkp => ?_⟩
    · exact wpAny_pure ⟨rfl, u.heap, u.toks, rfl, fun _ _ e => e⟩
    · obtain ⟨cp, t, hc, rfl⟩ := hP
      have hc' : y.cps.toList[i]? = some cp := by simpa using hc
      refine wpAny_mono (helt c' _ A' E' cp t u m₂ hA hD hU (List.mem_of_getElem? hc') ⟨hn, fun b o e => ?_, Nat.le_trans F.above (Nat.le_of_lt (Nat.lt_of_lt_of_le hLlt (Nat.le_of_succ_le hszp)))⟩ hm) (fun v s₃ q => ⟨⟨cp, hc', q.1⟩, q.2⟩) (fun _ _ e => e)
      have e3 := F₃.keep b o e
      refine hkp b (List.mem_range.mpr (Heap.lt_size e3)) (fun hm => ?_) o (hhref b o e3)
      have := Heap.lt_size (F.keep b o e)
      rw [List.mem_singleton.mp hm] at this
      exact Nat.lt_irrefl _ this
  case fin =>
    have N₅ : News h₀ L h₅ ((P, pobj ps') :: led) := fun p hp => ⟨hk₅ _ _ (N₃ p hp).1, (N₃ p hp).2⟩
    refine hQ a (h.objs.size - 1) _ ps' (F₃.keeps hk₅) N₅ hp' (hG.push hgb) rfl (Nat.le_sub_one_of_lt hLlt) (fun p hp => ?_) ⟨_, _, _, _, W, hat, (fun i s' st => st.1.typeIs), List.mem_cons_self, ?_, ?_⟩
    · rcases List.mem_cons.mp hp with rfl | hp
      · exact Nat.le_sub_one_of_lt hPlt
      · exact Nat.le_sub_one_of_lt (Heap.lt_size (N p (.tail _ hp)).1)
    · intro b hb
      show b < h₅.objs.size
      rw [hsz₅]
      rcases List.mem_cons.mp hb with rfl | hb
      · exact Nat.lt_succ_self _
      · rcases List.mem_cons.mp hb with rfl | hb
        · exact Nat.lt_succ_of_lt hag
        · exact Nat.lt_succ_of_lt (Nat.lt_trans (List.mem_range.mp hb) hag)
    · intro b hb
      rcases List.mem_cons.mp hb with rfl | hb
      · exact Nat.lt_of_lt_of_le (Nat.lt_of_le_of_lt (Nat.sub_le _ _) (Nat.lt_succ_self _)) hszp
      · rw [List.mem_singleton.mp hb]
        exact Nat.sub_lt (Nat.lt_of_le_of_lt (Nat.zero_le _) hLlt) (by decide)
end
section
variable {prog : Program} {w : World} {A : Around} {E : Value → Shared → Prop} {s : Shared} {h₀ : Heap} {L : Addr} {m : Str → Option Value} {led : List (Addr × Obj)} {Q : Value → Shared → Prop}
def pickB (tr : Nat → Bool) (d : Bool) : Option Nat → Bool
  | some c => tr c
  | none => d
theorem pick_any (l : List Nat) (tr : Nat → Bool) : ((List.range l.length).any fun j => pickB tr false l[j]?) = l.any tr := by
  refine Eq.trans (congrArg (fun f => (List.range l.length).any f) (funext fun j => ?_)) (any_rangeD l tr)
  cases l[j]? <;> rfl
theorem pick_all (l : List Nat) (tr : Nat → Bool) : ((List.range l.length).all fun j => pickB tr true l[j]?) = l.all tr := by
  refine Eq.trans (congrArg (fun f => (List.range l.length).all f) (funext fun j => ?_)) (all_rangeD l tr)
  cases l[j]? <;> rfl
theorem pass_all (n : Nat) : passing (fun _ => true) n 0 = List.range n := by unfold passing; simp
theorem news_upto {K : Addr} {s' : Shared} (N : News h₀ L s.heap led) (hled : ∀ p ∈ led, p.1 ≤ K) (hk : ∀ b o, b ≤ K → s.heap.get? b = some o → s'.heap.get? b = some o) : News h₀ L s'.heap led :=
  fun p hp => ⟨hk _ _ (hled p hp) (N p hp).1, (N p hp).2⟩
theorem any_T {K a : Addr} {y : Str} {tr : Nat → Bool} (F : Fr h₀ L s.heap m) (N : News h₀ L s.heap led) (hG : AllBare s.gens) (X : GenT prog w A K a y tr s) (hLK : L ≤ K) (hled : ∀ p ∈ led, p.1 ≤ K)
    (hQ : ∀ s', Fr h₀ L s'.heap m → News h₀ L s'.heap led → AllBare s'.gens → s'.os = s.os → Q (.bool (y.cps.toList.any tr)) s') : wpAny (model prog w) A (call (.builtin "any") [.ref a]) Q E s := by
  refine any_rowsK F hG X hLK (fun j => pickB tr false y.cps.toList[j]?) (fun j v s Q E hv hq => ?_) fun s' F' G' hos hk => ?_
  · obtain ⟨i, hi, cp, hc, rfl⟩ := hv
    rw [pass_all] at hi
    have e : i = j := by
      obtain ⟨h, e⟩ := List.getElem?_eq_some_iff.mp hi
      simpa using e.symm
    subst e
    dsimp only at hq
    rw [hc] at hq
    exact wpAny_truthy_bool hq
  · rw [pass_all, List.length_range, ← Array.length_toList]
    rw [pick_any]
    exact hQ s' F' (news_upto N hled hk) G' hos
theorem all_T {K a : Addr} {y : Str} {tr : Nat → Bool} (F : Fr h₀ L s.heap m) (N : News h₀ L s.heap led) (hG : AllBare s.gens) (X : GenT prog w A K a y tr s) (hLK : L ≤ K) (hled : ∀ p ∈ led, p.1 ≤ K)
    (hQ : ∀ s', Fr h₀ L s'.heap m → News h₀ L s'.heap led → AllBare s'.gens → s'.os = s.os → Q (.bool (y.cps.toList.all tr)) s') : wpAny (model prog w) A (call (.builtin "all") [.ref a]) Q E s := by
  refine all_rowsK F hG X hLK (fun j => pickB tr true y.cps.toList[j]?) (fun j v s Q E hv hq => ?_) fun s' F' G' hos hk => ?_
  · obtain ⟨i, hi, cp, hc, rfl⟩ := hv
    rw [pass_all] at hi
    have e : i = j := by
      obtain ⟨h, e⟩ := List.getElem?_eq_some_iff.mp hi
      simpa using e.symm
    subst e
    dsimp only at hq
    rw [hc] at hq
    exact wpAny_truthy_bool hq
  · rw [pass_all, List.length_range, ← Array.length_toList]
    rw [pick_all]
    exact hQ s' F' (news_upto N hled hk) G' hos
end
/-- decode's code record; its table lies at 59 -/
theorem code61 {w : World} {h : Heap} (X : (hd.heap_39 w.params).In h) : CodeFor h 61 59 := by
  have h1 := X 61 _ (by k_dflt k_is)
  exact ⟨_, _, _, _, _, _, _, _, _, h1, rfl, rfl, rfl, rfl, rfl, rfl, by decide, rfl, rfl⟩

/-- a call that may make generators: the end state is any, the ledger told -/
def CallOkG (w : World) (k : Nat) (f : Addr) (args : List Value) (news : List (Addr × Obj)) (Ret : Value → List (Addr × Obj) → Prop) : Prop :=
  ∀ (mg mb : Str → Option Value) (bm : Addr) (ob : Obj) (dp un : Nat) (gd : Option (List Code)) (cn : Str) (cs : Scope) (a : Addr) (ccd : Value) (cl : List (Str × Addr)) (outer : List Env) (A₀ : Around) (base h₀ : Heap) (L : Addr) (m : Str → Option Value) (s : Shared) (Q E : Value → Shared → Prop),
    Below A₀ base outer h₀ → Fr h₀ L s.heap m → (hd.heap_39 w.params).In h₀ → News h₀ L s.heap news →
    TopRead hd.view_39 (looseW hd.view_39 [Str.ofString "Encoding", Str.ofString "convertbits"]) mg mb h₀ → BMod h₀ mainGlobals mg bm ob → AllBare s.gens → cs.kind = .function → dp + k < recursionLimit → un + 100 * k < cLine →
    (∀ v news' s', Ret v news' → Fr h₀ L s'.heap m → News h₀ L s'.heap news' → AllBare s'.gens → s'.os = s.os → Q v s') →
    wpAny (model PySem.Challenge.rw_an0006_01.row.prog w) (ktrTop dp un gd cn cs L a ccd cl outer) (call (.ref f) args) Q E s

/-- the end of a body of such a def -/
def BkG (g : Heap) (L : Addr) (s₀ : Shared) (Ret : Value → List (Addr × Obj) → Prop) (fl : Flow) (s' : Shared) : Prop :=
  ∃ m' news', Fr g L s'.heap m' ∧ News g L s'.heap news' ∧ AllBare s'.gens ∧ s'.os = s₀.os ∧ Ret (match fl with | .ret v => v | _ => .none) news'
theorem BkG.ret {g : Heap} {L : Addr} {s₀ s' : Shared} {Ret : Value → List (Addr × Obj) → Prop} {v : Value} {m' : Str → Option Value} {news' : List (Addr × Obj)}
    (F : Fr g L s'.heap m') (N : News g L s'.heap news') (hG : AllBare s'.gens) (ho : s'.os = s₀.os) (r : Ret v news') : BkG g L s₀ Ret (.ret v) s' := ⟨m', news', F, N, hG, ho, r⟩

theorem callOkG_intro {w : World} {k : Nat} {f : Addr} {args : List Value} {news : List (Addr × Obj)} {Ret : Value → List (Addr × Obj) → Prop}
    {name qual : Str} {params : Arguments} {body : List Stmt} {scope : Scope} {dV kV doc pm cdv ct oc : Value} {an od : Option Addr} {osl : Array (Option Value)} (binds : List (Str × Value)) (m₀ : Str → Option Value)
    (ho : (hd.heap_39 w.params).lookup f = some ⟨oc, od, .func (fnOf name qual params body scope dV kV doc pm an cdv ct), osl⟩) (hcd : codeIn (hd.heap_39 w.params) cdv qual = true)
    (hbind : ∀ s : Shared, (hd.heap_39 w.params).In s.heap → BindsTo s (fnOf name qual params body scope dV kV doc pm an cdv ct) ⟨args, []⟩ binds) (hloc : ∀ y ∈ binds, scope.names.lookup y.1 = some .local)
    (hm : ∀ y, bmap binds.reverse y = m₀ y)
    (h : ∀ (mg mb : Str → Option Value) (bm : Addr) (ob : Obj) (dp un : Nat) (gd : Option (List Code)) (outer : List Env) (A₀ : Around) (base g : Heap) (L' : Addr) (h₁ : Heap) (tk : Nat) (s₀ : Shared),
      Below A₀ base outer g → Fr g L' h₁ m₀ → (hd.heap_39 w.params).In g → News g L' h₁ news →
      TopRead hd.view_39 (looseW hd.view_39 [Str.ofString "Encoding", Str.ofString "convertbits"]) mg mb g → BMod g mainGlobals mg bm ob → AllBare s₀.gens → dp + k < recursionLimit → un + 100 * k < cLine →
      wpAny (model PySem.Challenge.rw_an0006_01.row.prog w) (ktrTop dp un gd qual scope L' f cdv [] outer) (execs body (envOf qual scope L' f cdv)) (BkG g L' s₀ Ret) (fun _ _ => False) { s₀ with heap := h₁, toks := tk })
    (hco : scope.isCoroutine = false) (hgen : scope.isGenerator = false) (hk : scope.kind = .function) (hcell : ∀ x ∈ scope.names, x.2 ≠ .cell) : CallOkG w (k + 1) f args news Ret := by
  intro mg mb bm ob dp un gd cn cs a ccd cl outer A₀ base h₀ L m s Q E B F X N T M hG hkk hd hu hret
  refine wpAny_call ?_
  refine callX_plain (env := envX cn cs L a ccd cl) (cl := []) B F N T.nolimit rfl rfl hkk ((X.keeps F.keep) _ _ ho) rfl (codeRec_of (X.keeps F.keep) hcd) (by show dp < recursionLimit; omega) (hbind s (X.keeps F.keep)) hloc ?_ hcell hco hgen hk
  intro g L' h₁ FG F' N' B' st _
  have X' := X.keeps st
  have T' := T.keeps st
  have M' : BMod g mainGlobals mg bm ob := M.keeps st
  have F₁ : Fr g L' h₁ m₀ := Fr.congr F' fun y => (lookup_bmap y _).trans (hm y)
  refine wpAny_mono (h mg mb bm ob (dp + 1) (un + 3) gd (envX cn cs L a ccd cl :: outer) _ base g L' h₁ _ s B' F₁ X' N' T' M' hG (by omega) (by omega)) ?_ (fun _ _ x => x.elim)
  rintro fl s' ⟨m', news', F₂, N₂, G₂, O₂, r⟩
  exact leaveK_ F₂ N₂ fun F₃ N₃ => hret _ news' s' r F₃ N₃ G₂ O₂
/-- the sign test at decode's head -/
def badSign (c : Nat) : Bool := decide (c < 33) || decide (126 < c)
/-- one of the 32 signs -/
def inCH (c : Nat) : Bool := CH.contains c
/-- its place -/
def ix (c : Nat) : Nat := CH.idxOf c
/-- where the last 1 lies -/
def rf (cs : List Nat) : Int := Txt.rfind ⟨cs.toArray⟩ (Str.ofString "1")
/-- what decode says of the groups behind the human part -/
def dec2 (h : List Nat) (ds : List Nat) : Option (Nat × List Nat × List Nat) :=
  if pm (expand h ++ ds) = 1 then some (1, h, ds.take (ds.length - 6))
  else if pm (expand h ++ ds) = 734539939 then some (2, h, ds.take (ds.length - 6)) else none
/-- what decode says of a text in small letters -/
def dec1 (b : List Nat) : Option (Nat × List Nat × List Nat) :=
  if rf b < 1 ∨ (b.length : Int) < rf b + 7 ∨ 90 < b.length then none
  else if (b.drop ((rf b).toNat + 1)).all inCH then dec2 (b.take (rf b).toNat) ((b.drop ((rf b).toNat + 1)).map ix) else none
/-- what decode says -/
def dec (cs : List Nat) : Option (Nat × List Nat × List Nat) :=
  if cs.any badSign then none else if cs.map lo1 ≠ cs ∧ cs.map up1 ≠ cs then none else dec1 (cs.map lo1)

theorem in_at : ∀ c, c < 128 → (!(Builtin.Str.occurrences (Str.ofString "qpzry9x8gf2tvdw0s3jn54khce6mua7l") (sg c) 0 (Str.ofString "qpzry9x8gf2tvdw0s3jn54khce6mua7l").length 1).isEmpty) = inCH c := by decide +kernel
theorem find_at : ∀ c, c < 128 → inCH c = true → Txt.find (Str.ofString "qpzry9x8gf2tvdw0s3jn54khce6mua7l") (sg c) = ((ix c : Nat) : Int) := by decide +kernel
theorem ix_lt : ∀ c, c < 128 → inCH c = true → ix c < 32 := by decide +kernel
theorem lo1_lt {c : Nat} (h : c < 128) : lo1 c < 128 := by unfold lo1; split <;> omega
theorem slice_to (x : Str) (p : Nat) (h : p ≤ x.cps.toList.length) : (Txt.slice x none (some (p : Int))).cps.toList = x.cps.toList.take p := by
  have := beq_iff_eq.mp (slice_closes_to (x := x) (j := (p : Int)) ⟨by omega, by omega⟩)
  rw [this]
  simp
theorem slice_from (x : Str) (p : Nat) (h : p ≤ x.cps.toList.length) : (Txt.slice x (some (p : Int)) none).cps.toList = x.cps.toList.drop p := by
  have := beq_iff_eq.mp (slice_closes_from (x := x) (i := (p : Int)) ⟨by omega, by omega⟩)
  rw [this]
  show List.take ((x.cps.toList.length : Int) - p).toNat (List.drop (p : Int).toNat x.cps.toList) = _
  rw [Int.toNat_natCast]
  exact List.take_of_length_le (by rw [List.length_drop]; omega)
theorem len_cps (x : Str) : x.length = x.cps.toList.length := by simp [Str.length]
theorem slice_to_neg (x : Str) (k : Nat) (h0 : 0 < k) (h : k ≤ x.cps.toList.length) : (Txt.slice x none (some (-(k : Int)))).cps.toList = x.cps.toList.take (x.cps.toList.length - k) := by
  have hl := len_cps x
  have := beq_iff_eq.mp (slice_closes_to_neg (x := x) (j := (-(k : Int))) (k := ((x.cps.toList.length - k : Nat) : Int)) (by omega) (by omega) (by omega))
  rw [this]
  simp
theorem slice_from_neg (x : Str) (k : Nat) (h0 : 0 < k) (h : k ≤ x.cps.toList.length) : (Txt.slice x (some (-(k : Int))) none).cps.toList = x.cps.toList.drop (x.cps.toList.length - k) := by
  have hl := len_cps x
  have := beq_iff_eq.mp (slice_closes_from_neg (x := x) (i := (-(k : Int))) (a := ((x.cps.toList.length - k : Nat) : Int)) (b := ((x.cps.toList.length : Nat) : Int)) (by omega) (by omega) (by omega) (by omega))
  rw [this]
  show List.take (((x.cps.toList.length : Nat) : Int) - ((x.cps.toList.length - k : Nat) : Int)).toNat (List.drop ((x.cps.toList.length - k : Nat) : Int).toNat x.cps.toList) = _
  rw [Int.toNat_natCast]
  exact List.take_of_length_le (by rw [List.length_drop]; omega)
theorem str_of {x : Str} {l : List Nat} (h : x.cps.toList = l) : x = ⟨l.toArray⟩ := by
  subst h
  cases x
  simp
def tupO (a : Array Value) : Obj := { cls := .type "tuple", data := .seq a }
/-- what decode hands back -/
def DecRet (r : Option (Nat × List Nat × List Nat)) (led : List (Addr × Obj)) (v : Value) (news' : List (Addr × Obj)) : Prop :=
  ∃ ps D, PsOk ps ∧ v = .ref D ∧ D ≠ 59 ∧ (∀ p ∈ led, p.1 ≠ D) ∧
    ((r = none ∧ news' = (59, pobj ps) :: (D, tupO #[.none, .none, .none]) :: led) ∨
      ∃ e h d t y ty Z us c, r = some (e, h, d) ∧ y.cps.toList = h ∧ IntsAre us (toI d) ∧ Z ≠ 59 ∧ Z ≠ D ∧ (∀ p ∈ led, p.1 ≠ Z) ∧ news' = (59, pobj ps) :: (D, tupO #[.int (e : Nat) t, .str y ty, .ref Z]) :: (Z, listOf us.toArray c) :: led)
theorem allLt_ne {D : Addr} {led : List (Addr × Obj)} (h : AllLt D led) : ∀ p ∈ led, p.1 ≠ D := by
  induction led with
  | nil => exact fun _ hp => nomatch hp
  | cons q r ih =>
    obtain ⟨h1, h2⟩ := h
    intro p hp
    rcases List.mem_cons.mp hp with rfl | hp
    · exact Nat.ne_of_lt h1
    · exact ih h2 p hp
theorem ret_no {g : Heap} {L : Addr} {s₀ s' : Shared} {ps : Array Value} {led : List (Addr × Obj)} {m' : Str → Option Value} {D : Addr} {r : Option (Nat × List Nat × List Nat)}
    (hr : r = none) (hps : PsOk ps) (F : Fr g L s'.heap m') (N : News g L s'.heap ((D, tupO #[.none, .none, .none]) :: (59, pobj ps) :: led)) (hG : AllBare s'.gens) (ho : s'.os = s₀.os) (l : 59 < D ∧ AllLt D led) : BkG g L s₀ (DecRet r led) (.ret (.ref D)) s' :=
  BkG.ret F (News.sub N (by kcf_all)) hG ho ⟨ps, D, hps, rfl, Nat.ne_of_gt l.1, allLt_ne l.2, .inl ⟨hr, rfl⟩⟩

theorem ret_yes {g : Heap} {L : Addr} {s₀ s' : Shared} {ps : Array Value} {led : List (Addr × Obj)} {m' : Str → Option Value} {D Z : Addr} {r : Option (Nat × List Nat × List Nat)} {e : Nat} {h d : List Nat} {t ty : Tok} {y : Str} {us : List Value} {c : Nat}
    (hr : r = some (e, h, d)) (hps : PsOk ps) (hy : y.cps.toList = h) (hI : IntsAre us (toI d)) (F : Fr g L s'.heap m') (N : News g L s'.heap ((D, tupO #[.int (e : Nat) t, .str y ty, .ref Z]) :: (Z, listOf us.toArray c) :: (59, pobj ps) :: led)) (hG : AllBare s'.gens) (ho : s'.os = s₀.os)
    (l : 59 < D ∧ AllLt D led) (hZ : 59 < Z) (hZD : Z < D) (hZl : ∀ p ∈ led, p.1 < Z) : BkG g L s₀ (DecRet r led) (.ret (.ref D)) s' :=
  BkG.ret F (News.sub N (by kcf_all)) hG ho ⟨ps, D, hps, rfl, Nat.ne_of_gt l.1, allLt_ne l.2, .inr ⟨e, h, d, t, y, ty, Z, us, c, hr, hy, hI, Nat.ne_of_gt hZ, Nat.ne_of_lt hZD, fun p hp => Nat.ne_of_lt (hZl p hp), rfl⟩⟩
theorem natsOf : ∀ {ds : List Nat} {vs : List Value}, All2 (fun (d : Nat) v => IntV (d : Int) v) ds vs → IntsAre vs (toI ds)
  | _, _, .nil => .nil
  | _, _, .cons ⟨t, e⟩ r => by subst e; exact .cons _ t (natsOf r)
theorem src_strL {prog : Program} {w : World} {A : Around} {s : Shared} {h₀ : Heap} {L : Addr} {m : Str → Option Value} {news : List (Addr × Obj)} {x : Str} {t : Tok} {h : Heap} {tk : Nat} {cs : List Nat} (e : x.cps.toList = cs) (hh : A.handled = none) (F : Fr h₀ L h m) (N : News h₀ L h news) (hsz : x.cps.size ≤ 100000) :
    SrcOk prog w A h₀ L m (fun (c : Nat) v => StrV ⟨#[c]⟩ v) cs news s (.str x t) { s with heap := h, toks := tk } := e ▸ src_str hh F N hsz
theorem bne_str (a b : Str) : (a != b) = decide (a.cps.toList ≠ b.cps.toList) := by
  by_cases h : a = b
  · subst h; simp
  · have h2 : a.cps.toList ≠ b.cps.toList := fun e => h (by
      cases a; cases b
      exact congrArg Str.mk (Array.toList_inj.mp e))
    rw [decide_eq_true h2]
    simpa using h
set_option maxHeartbeats 400000 in
theorem decode_ok {w : World} {x : Str} {tx : Tok} {ps : Array Value} {led : List (Addr × Obj)} (hps : PsOk ps) (hled : ∀ p ∈ led, p.1 ≠ 59) (hlen : x.cps.size ≤ 130) (hb : ∀ c ∈ x.cps.toList, c < 128) :
    CallOkG w 4 62 [.str x tx] ((59, pobj ps) :: led) (DecRet (dec x.cps.toList) led) := by
  refine' callOkG_intro (k := 3) [(Str.ofString "bech", .str x tx)] (fun y => if y = Str.ofString "bech" then some (.str x tx) else none)
    ?ho ?hcd ?hbind ?hloc ?hm ?h ?c2 ?c3 ?c4 ?c5
  walk_at "my enter"
  intro mg mb bm ob dp un gd outer A₀ base g L' h₁ tk s₀ B F X N T M hG hdp hu
  have RM : Room dp un 3 := ⟨hdp, hu⟩
  clear hdp hu
  walk_at "my steps"
  have hy : x.cps.all (· < 128) = true := by
    rw [← Array.all_toList, List.all_eq_true]
    intro c hc
    exact decide_eq_true (hb c hc)
  refine' genexp_str (h₀ := g) (L := L') (m := fun y => if y = Str.ofString "bech" then some (.str x tx) else none) (c := 61) (P := 59) (led := led) (y := x) badSign (by rfl) (code61 X) M T.nolimit hled (by rfl) hG hy rfl (by with_unfolding_all rfl) (by decide) (by rfl) (by rfl) (by rfl) (RM.d' (j := 0) (by decide)) (by intro _; with_unfolding_all rfl) ?src ?elt ?fin
  case src =>
    walk_at "my steps"
    exact ⟨tx, _, _, ps, rfl, rfl, F, N, hps⟩
  case elt =>
    intro c' C' A' E' cp t u m₂ hA hD hU hcp FG hm
    clear F N
    refine BoolOp_or ?_
    refine wpAny_Compare1 ?_
    refine Call_ ?_
    refine ldB_E FG X T (by k_is) (by boot_by_name) (by decide) ?_ (by rfl) (by rfl) (by rfl) (by rfl) (by decide)
    walk1
    walk1
    refine ldE FG hm ?_ (by rfl) (by rfl) (by decide)
    walk1
    refine ord_of_one (x := sg cp) rfl ?_
    walk1
    walk1
    refine wpAny_truthy_bool ?_
    dsimp only
    have e0 : ((sg cp).cps.getD 0 0) = cp := rfl
    by_cases hc : cp < 33
    · rw [if_pos (decide_eq_true (by rw [e0]; omega))]
      refine ⟨?_, _, _, rfl, fun _ _ e => e⟩
      rw [e0, decide_eq_true (show ((cp : Nat) : Int) < 33 by omega)]
      simp [badSign, hc]
    · rw [if_neg (fun h => by have := of_decide_eq_true h; rw [e0] at this; omega)]
      refine BoolOp_one ?_
      refine wpAny_Compare1 ?_
      refine Call_ ?_
      refine ldB_E FG X T (by k_is) (by boot_by_name) (by decide) ?_ (by rfl) (by rfl) (by rfl) (by rfl) (by decide)
      walk1
      walk1
      refine ldE FG hm ?_ (by rfl) (by rfl) (by decide)
      walk1
      refine ord_of_one (x := sg cp) rfl ?_
      walk1
      walk1
      refine ⟨?_, _, _, rfl, fun _ _ e => e⟩
      rw [e0]
      by_cases hc2 : 126 < cp
      · rw [decide_eq_true (show (126 : Int) < (cp : Nat) by omega)]
        simp [badSign, hc2]
      · rw [decide_eq_false (show ¬ (126 : Int) < (cp : Nat) by omega)]
        simp [badSign, hc, hc2]
  case fin =>
    intro a K s₅ ps2 F2 N2 hps2 hG2 hos hLK hKle hgen
    clear F N
    walk_at "my steps"
    refine any_T F2 N2 hG2 hgen hLK hKle ?_
    intro s6 F6 N6 hG6 hos6
    clear F2 N2
    generalize hbad : x.cps.toList.any badSign = bad
    cases bad
    --bad
    case true =>
      walk_at "my steps"
      rename Fr _ _ _ _ => F7
      rename News _ _ _ _ => N7
      rename _ ∧ _ => l7
      exact ret_no (by unfold dec; rw [if_pos hbad]) hps2 F7 N7 hG6 (hos6.trans hos) l7
    walk1
    walk1
    walk1
    have hlo : ∀ b : Bool, ((⟨x.cps.map lo1⟩ : Str) != x) = b → decide (x.cps.toList.map lo1 ≠ x.cps.toList) = b := fun b h => by
      subst h
      rw [bne_str, Array.toList_map]
    have hup : ∀ b : Bool, ((⟨x.cps.map up1⟩ : Str) != x) = b → decide (x.cps.toList.map up1 ≠ x.cps.toList) = b := fun b h => by
      subst h
      rw [bne_str, Array.toList_map]
    refine wpAny_mono (Q := fun (c : Bool) s' => c = (decide (x.cps.toList.map lo1 ≠ x.cps.toList) && decide (x.cps.toList.map up1 ≠ x.cps.toList)) ∧ ∃ k, s' = { s6 with toks := k }) ?test ?cont (fun _ _ e => e)
    case test =>
      walk_at "my steps"
      refine KXw.lower (y := ⟨x.cps.map lo1⟩) (lower_ascii hb) (fit_lower (by show x.cps.size ≤ _; omega)) fun t7 k7 => ?_
      walk_at "my steps"
      · rename _ = true => hl1
        refine KXw.upper (y := ⟨x.cps.map up1⟩) (upper_ascii hb) (fit_upper (by show x.cps.size ≤ _; omega)) fun t8 k8 => ?_
        walk_at "my steps"
        · rename _ = true => hu1
          rw [hlo _ hl1, hup _ hu1]; rfl
        · rename _ = false => hu1
          rw [hlo _ hl1, hup _ hu1]; rfl
      · rename _ = false => hl1
        rw [hlo _ hl1]; rfl
    case cont =>
      rintro c s' ⟨hc, k7, rfl⟩
      cases c
      case true =>
        walk_at "my steps"
        rename Fr _ _ _ _ => F7
        rename News _ _ _ _ => N7
        rename _ ∧ _ => l7
        exact ret_no (by
          unfold dec
          have hc := hc.symm
          rw [Bool.and_eq_true, decide_eq_true_iff, decide_eq_true_iff] at hc
          rw [hbad, if_neg (by decide), if_pos hc]) hps2 F7 N7 hG6 (hos6.trans hos) l7
      have hdec : dec x.cps.toList = dec1 (x.cps.toList.map lo1) := by
        unfold dec
        rw [hbad, if_neg (by decide), if_neg]
        rintro ⟨h1, h2⟩
        rw [decide_eq_true h1, decide_eq_true h2] at hc
        exact absurd hc (by decide)
      rw [hdec]
      clear hdec hlo hup hc hbad hy hgen hKle hLK
      walk_at "my steps"
      refine KXw.lower (y := ⟨x.cps.map lo1⟩) (lower_ascii hb) (fit_lower (by show x.cps.size ≤ _; omega)) fun t8 k8 => ?_
      have hyl : (⟨x.cps.map lo1⟩ : Str).cps.toList = x.cps.toList.map lo1 := by simp
      have hylen : (⟨x.cps.map lo1⟩ : Str).length = x.cps.size := by show (x.cps.map lo1).size = _; simp
      have hyb : ∀ c ∈ x.cps.toList.map lo1, c < 128 := by
        intro c hc
        obtain ⟨c', hc', rfl⟩ := List.mem_map.mp hc
        exact lo1_lt (hb c' hc')
      rw [← hyl] at hyb ⊢
      generalize (⟨x.cps.map lo1⟩ : Str) = y at hyb hylen
      have hr : -1 ≤ Txt.rfind y (Str.ofString "1") ∧ Txt.rfind y (Str.ofString "1") ≤ 130 := by
        rcases rfind_whole y (Str.ofString "1") with ⟨h, _⟩ | ⟨i, h, h2, _⟩
        · rw [h]; omega
        · rw [h]
          have h3 := h2.1
          omega
      have hrr : rf y.cps.toList = Txt.rfind y (Str.ofString "1") := by cases y; rfl
      walk_at "my steps if"
      generalize Txt.rfind y (Str.ofString "1") = r at *
      walk_at "my steps"
      iterate 3 (
        · rename Fr _ _ _ _ => F7
          rename News _ _ _ _ => N7
          rename _ ∧ AllLt _ _ => l7
          exact ret_no (by
            unfold dec1
            rw [if_pos]
            rw [hrr]
            have hyl2 : (y.cps.toList.length : Int) = y.length := by simp [Str.length]
            omega) hps2 F7 N7 hG6 (hos6.trans hos) l7)
      rename Fr _ _ _ _ => F7
      rename News _ _ _ _ => N7
      rename ¬ r < 1 => h1
      rename ¬ 90 < _ => h3
      rename ¬ _ < r + 7 => h2
      obtain ⟨p, rfl⟩ : ∃ p : Nat, r = (p : Int) := Int.eq_ofNat_of_zero_le (Int.le_trans (by decide) (Int.not_lt.mp h1))
      have h90 : y.length ≤ 90 := Int.ofNat_le.mp (show ((y.length : Nat) : Int) ≤ ((90 : Nat) : Int) from Int.not_lt.mp h3)
      have hp7 : id (p + 7 ≤ y.length) := Int.ofNat_le.mp (show ((p + 7 : Nat) : Int) ≤ ((y.length : Nat) : Int) from Int.not_lt.mp h2)
      have hd1 : dec1 y.cps.toList = if (y.cps.toList.drop (p + 1)).all inCH then dec2 (y.cps.toList.take p) ((y.cps.toList.drop (p + 1)).map ix) else none := by
        unfold dec1
        rw [hrr, ← len_cps, if_neg (fun q => q.elim h1 fun q => q.elim h2 fun q => absurd q (Nat.not_lt.mpr h90))]
        rfl
      rw [hd1]
      clear hd1 hrr hyl h1 h2 h3 hr hylen
      generalize hm : (fun y_1 => if y_1 = Str.ofString "pos" then some (Value.int (p : Int) _) else if y_1 = Str.ofString "bech" then some (Value.str y t8) else if y_1 = Str.ofString "bech" then some (Value.str x tx) else none : Str → Option Value) = m7 at F7
      have hmb : m7 (Str.ofString "bech") = some (.str y t8) := by rw [← hm]; rfl
      have hmp : ∃ t, m7 (Str.ofString "pos") = some (.int (p : Nat) t) := by rw [← hm]; exact ⟨_, rfl⟩
      clear hm
      obtain ⟨tp, hmp⟩ := hmp
      have hz : (⟨(y.cps.toList.drop (p + 1)).toArray⟩ : Str).cps.all (· < 128) = true := by
        rw [← Array.all_toList, List.all_eq_true]
        intro c hc
        exact decide_eq_true (hyb c (List.mem_of_mem_drop (by simpa using hc)))
      refine' genexp_str (h₀ := g) (L := L') (m := m7) (c := 61) (P := 59) (led := led) (y := ⟨(y.cps.toList.drop (p + 1)).toArray⟩) inCH (by rfl) (code61 X) M T.nolimit hled (by rfl) hG6 hz rfl (by with_unfolding_all rfl) (by decide) (by rfl) (by rfl) (by rfl) (RM.d' (j := 0) (by decide)) (by intro _; with_unfolding_all rfl) ?src2 ?elt2 ?fin2
      case src2 =>
        walk_at "my steps"
        rename Fr _ _ _ _ => F8
        rename News _ _ _ _ => N8
        have e : Txt.slice y (some ((p : Int) + 1)) none = _ := str_of (slice_from y (p + 1) (by rw [← len_cps]; exact Nat.le_trans (Nat.add_le_add_left (by decide) p) hp7))
        exact ⟨_, _, _, ps2, congrArg (fun z => Value.str z _) e, rfl, F8, N8, hps2⟩
      case elt2 =>
        intro c' C' A' E' cp t u m₂ hA hD hU hcp FG hm
        clear F7 N7
        refine wpAny_Compare1 ?_
        refine ldE FG hm ?_ (by rfl) (by rfl) (by decide)
        refine ldG_E FG X T (by k_is) ?_ (by rfl) (by rfl) (by rfl) (by decide)
        refine P.in_str ?_
        rw [in_at cp (hyb cp (List.mem_of_mem_drop (by simpa using hcp)))]
        exact ⟨rfl, _, _, rfl, fun _ _ e => e⟩
      case fin2 =>
        intro a K s8 ps3 F8 N8 hps3 hG8 hos8 hLK hKle hgen
        clear F7 N7
        walk_at "my steps"
        refine all_T F8 N8 hG8 hgen hLK hKle ?_
        intro s9 F9 N9 hG9 hos9
        clear F8 N8
        generalize hall : (⟨(y.cps.toList.drop (p + 1)).toArray⟩ : Str).cps.toList.all inCH = al
        cases al
        case false =>
          walk_at "my steps"
          rename Fr _ _ _ _ => F7
          rename News _ _ _ _ => N7
          rename _ ∧ AllLt _ _ => l7
          exact ret_no (by rw [if_neg (by decide)]) hps3 F7 N7 hG9 (hos9.trans (hos8.trans (hos6.trans hos))) l7
        have hds : (y.cps.toList.drop (p + 1)).all inCH = true := by simpa using hall
        rw [if_pos rfl]
        clear hall hgen hKle hLK hz
        walk_at "my steps"
        rename (Txt.slice y none (some (p : Int))).length ≤ _ => hsl
        have hsc := slice_to y p (by rw [← len_cps]; exact Nat.le_trans (Nat.le_add_right p 7) hp7)
        clear hsl
        generalize Txt.slice y none (some (p : Int)) = hp at *
        rename Fr _ _ _ _ => F9
        rename News _ _ _ _ => N9
        have hin : ∀ c ∈ y.cps.toList.drop (p + 1), c < 128 ∧ inCH c = true := fun c hc => ⟨hyb c (List.mem_of_mem_drop hc), List.all_eq_true.mp hds c hc⟩
        have hzz : (⟨(y.cps.toList.drop (p + 1)).toArray⟩ : Str).cps.toList = y.cps.toList.drop (p + 1) := by simp
        generalize hm9 : (fun y_1 => if y_1 = Str.ofString "hrp" then some (Value.str hp _) else m7 y_1 : Str → Option Value) = m9 at F9
        have hmh : ∃ t, m9 (Str.ofString "hrp") = some (.str hp t) := by rw [← hm9]; exact ⟨_, rfl⟩
        have hmp : m9 (Str.ofString "pos") = some (.int (p : Nat) tp) := by rw [← hm9]; exact hmp
        have hmb : m9 (Str.ofString "bech") = some (.str y t8) := by rw [← hm9]; exact hmb
        clear hm9
        obtain ⟨th, hmh⟩ := hmh
        refine' lc_assign (h₀ := g) (L := L') (m := m9) (news := (59, pobj ps3) :: led) (fun (c : Nat) v => StrV ⟨#[c]⟩ v) (fun (d : Nat) v => IntV (d : Int) v) (y.cps.toList.drop (p + 1)) ix (by rfl) (by with_unfolding_all rfl) (by with_unfolding_all rfl) (by decide) (by rfl) (by decide) (by rfl) (by intro _; rfl) (by rfl) (by rfl) ?src ?turn ?fin
        case src =>
          walk_at "my steps"
          rename Fr _ _ _ _ => F11
          rename News _ _ _ _ => N11
          exact src_strL (slice_from y (p + 1) (by rw [← len_cps]; exact Nat.le_trans (Nat.add_le_add_left (by decide) p) hp7)) rfl F11 N11 (by rw [← Array.length_toList, ← len_cps]; exact Nat.le_trans (by assumption) (Nat.le_trans h90 (by decide)))
        case turn =>
          rintro a v I oI C oC D ys m₂ h tk ha ⟨t, rfl⟩ hx ⟨hns, F, N, off, ne⟩
          clear F9 N9
          walk_at "my steps"
          · exact ⟨_, congrArg (fun z => Value.int z _) (find_at a (hin a ha).1 (hin a ha).2)⟩
          · exact Kp.here (by assumption) (by assumption)
        case fin =>
          intro D ys h tk hys F10 N10 hne
          have hyi := natsOf hys
          generalize hD2 : (y.cps.toList.drop (p + 1)).map ix = d2 at hyi ⊢
          have hd2 : ∀ d ∈ d2, d < 32 := by
            rw [← hD2]
            intro d hd
            obtain ⟨c, hc, rfl⟩ := List.mem_map.mp hd
            exact ix_lt c (hin c hc).1 (hin c hc).2
          have hdl : d2.length ≤ 90 ∧ 6 ≤ d2.length := by
            rw [← hD2, List.length_map, List.length_drop, ← len_cps]
            exact ⟨Nat.le_trans (Nat.sub_le _ _) h90, Nat.le_sub_of_add_le (show 6 + (p + 1) ≤ y.length by rw [Nat.add_comm 6 (p + 1)]; exact hp7)⟩
          have hhl : hp.cps.size ≤ 90 := by
            rw [← Array.length_toList, hsc, List.length_take, ← len_cps]
            exact Nat.le_trans (Nat.min_le_right _ _) h90
          have hhb : ∀ c ∈ hp.cps.toList, c < 128 := by
            rw [hsc]
            exact fun c hc => hyb c (List.mem_of_mem_take hc)
          clear F9 N9 hys hD2 hin hds hzz hyb hp7 h90
          walk_at "my steps"
          refine CallOk.use (verify_ok (vs := ys) (c := ys.length) (ds := d2) (Nat.le_trans hhl (by decide)) hhb hyi (Nat.le_trans hdl.1 (by decide)) hd2 (.head _)) B F10 X T N10 rfl (RM.d' (by decide)) (RM.u' (by decide)) ?_
          rintro v nw h11 tk11 ⟨P, rfl, rfl, hv⟩ F11 N11
          clear F10 N10
          rw [← hsc]
          rcases hv with ⟨e1, t1, rfl⟩ | ⟨e1, t1, rfl⟩ | ⟨e1, e2, rfl⟩
          · walk_at "my steps"
            rename Fr _ _ _ _ => F12
            rename News _ _ _ _ => N12
            refine' kmk_slice_ints (s := Shared.mk _ _ _ _ _) ?sF ?sN ?sl ?sp ?sq ?si ?sm ?sc ?_ ?ss ?st ?sz
            case sF => exact F12
            case sN => exact N12
            case sl => exact News.isList N12 (.head _)
            case sp => exact IsPart.none
            case sq => exact IsPart.int (-6) _
            case si => exact hyi
            case sm => exact kmk_upto_neg hyi (by decide)
            case sc => rfl
            case ss => with_unfolding_all rfl
            case st => intro _; with_unfolding_all rfl
            case sz => rw [List.size_toArray, sizeLine_eq, hyi.length, toI_length]; exact Nat.le_trans hdl.1 (by decide)
            intro D2 ws2 hh2 F13 N13 hlt3 hI3 hcap hne13
            clear F12 N12
            walk_at "my steps"
            rename Fr _ _ _ _ => F14
            rename News _ _ _ _ => N14
            rename _ ∧ _ ∧ _ ∧ AllLt _ _ => l14
            have hI4 : IntsAre ws2 (toI (d2.take (d2.length - 6))) := by
              have q := hI3
              rw [toI_length] at q
              have e9 : (toI d2).take (d2.length - 6) = toI (d2.take (d2.length - 6)) := by simp [toI, List.map_take]
              rw [← e9]
              exact q
            exact ret_yes (by unfold dec2; rw [if_pos e1]) hps3 rfl hI4 F14 (News.sub N14 (by kcf_all)) hG9 (hos9.trans (hos8.trans (hos6.trans hos))) l14.2.2 (hlt3 _ (.tail _ (.head _))) l14.1 (fun q hq => hlt3 q (.tail _ (.tail _ hq)))
          · walk_at "my steps"
            rename Fr _ _ _ _ => F12
            rename News _ _ _ _ => N12
            refine' kmk_slice_ints (s := Shared.mk _ _ _ _ _) ?sF ?sN ?sl ?sp ?sq ?si ?sm ?sc ?_ ?ss ?st ?sz
            case sF => exact F12
            case sN => exact N12
            case sl => exact News.isList N12 (.head _)
            case sp => exact IsPart.none
            case sq => exact IsPart.int (-6) _
            case si => exact hyi
            case sm => exact kmk_upto_neg hyi (by decide)
            case sc => rfl
            case ss => with_unfolding_all rfl
            case st => intro _; with_unfolding_all rfl
            case sz => rw [List.size_toArray, sizeLine_eq, hyi.length, toI_length]; exact Nat.le_trans hdl.1 (by decide)
            intro D2 ws2 hh2 F13 N13 hlt3 hI3 hcap hne13
            clear F12 N12
            walk_at "my steps"
            rename Fr _ _ _ _ => F14
            rename News _ _ _ _ => N14
            rename _ ∧ _ ∧ _ ∧ AllLt _ _ => l14
            have hI4 : IntsAre ws2 (toI (d2.take (d2.length - 6))) := by
              have q := hI3
              rw [toI_length] at q
              have e9 : (toI d2).take (d2.length - 6) = toI (d2.take (d2.length - 6)) := by simp [toI, List.map_take]
              rw [← e9]
              exact q
            exact ret_yes (by unfold dec2; rw [if_neg (by rw [e1]; decide), if_pos e1]) hps3 rfl hI4 F14 (News.sub N14 (by kcf_all)) hG9 (hos9.trans (hos8.trans (hos6.trans hos))) l14.2.2 (hlt3 _ (.tail _ (.head _))) l14.1 (fun q hq => hlt3 q (.tail _ (.tail _ hq)))
          · walk_at "my steps"
            rename Fr _ _ _ _ => F12
            rename News _ _ _ _ => N12
            rename _ ∧ _ ∧ AllLt _ _ => l12
            exact ret_no (by unfold dec2; rw [if_neg e1, if_neg e2]) hps3 F12 (News.sub N12 (by kcf_all)) hG9 (hos9.trans (hos8.trans (hos6.trans hos))) l12.2
section
open PySem PySem.W PyProof.Rows PyProof.V PySem.Spec
section
variable {prog : Program} {w : World} {A : Around} {E : Value → Shared → Prop} {s : Shared} {h₀ : Heap} {L a b : Addr} {news : List (Addr × Obj)} {Q : Value → Shared → Prop}
theorem reads_nones (N : News h₀ L s.heap news) (ma : (a, tupO #[.none, .none, .none]) ∈ news) : Reads s.heap (.ref a) (.tuple [.none, .none, .none]) ([] ++ ([] ++ ([] ++ []))) :=
  reads_tuple_at (News.get N ma) rfl rfl (ReadsAll.cons Reads.none (ReadsAll.cons Reads.none (ReadsAll.cons Reads.none ReadsAll.nil)))
theorem nones_ne (N : News h₀ L s.heap news) (ma : (a, tupO #[.none, .none, .none]) ∈ news) (mb : (b, tupO #[.none, .none, .none]) ∈ news) (hu : A.units + 64 < cLine) (h : Q (.bool false) s) :
    wpAny (model prog w) A (compareOp .NotEq (.ref a) (.ref b)) Q E s := ne_dataH (reads_nones N ma) (reads_nones N mb) rfl rfl hu h
theorem nones_eq (N : News h₀ L s.heap news) (ma : (a, tupO #[.none, .none, .none]) ∈ news) (mb : (b, tupO #[.none, .none, .none]) ∈ news) (hu : A.units + 64 < cLine) (h : Q (.bool true) s) :
    wpAny (model prog w) A (compareOp .Eq (.ref a) (.ref b)) Q E s := eq_dataH (reads_nones N ma) (reads_nones N mb) rfl rfl hu h

theorem eqv_ints : ∀ ns : List Int, PyData.eqvAll (ns.map PyData.int) (ns.map PyData.int) = true
  | [] => rfl
  | n :: r => by simp [PyData.eqvAll, PyData.eqv, eqv_ints r]
theorem shaped_good {e : Int} {y : Str} {ns : List Int} (hs : PyData.strOk y = true) : SeqAt.shaped (.tuple [.int e, .str y, .list (ns.map PyData.int)]) = true := by
  simp [SeqAt.shaped, PyData.canLay0, PyData.canLayAll0, PyData.depth, PyData.depthAll, ke_canLayAll0, ke_depthAll, hs]
theorem good_ne {e : Int} {t t2 ty ty2 : Tok} {y y2 : Str} {Z W : Addr} {us us2 : List Value} {c c2 : Nat} {ns : List Int} (N : News h₀ L s.heap news) (ma : (a, tupO #[.int e t, .str y ty, .ref Z]) ∈ news) (mZ : (Z, listOf us.toArray c) ∈ news) (hI : IntsAre us ns)
    (mb : (b, tupO #[.int e t2, .str y2 ty2, .ref W]) ∈ news) (mW : (W, listOf us2.toArray c2) ∈ news) (hI2 : IntsAre us2 ns) (hy : y.cps.toList = y2.cps.toList) (hs : ∀ c ∈ y.cps.toList, c < 128) (hu : A.units + 64 < cLine) (h : Q (.bool false) s) :
    wpAny (model prog w) A (compareOp .NotEq (.ref a) (.ref b)) Q E s := by
  have ey : y = y2 := by
    cases y; cases y2
    exact congrArg Str.mk (Array.toList_inj.mp hy)
  subst ey
  have hso : PyData.strOk y = true := by
    unfold PyData.strOk
    rw [← Array.all_toList, List.all_eq_true]
    intro c hc
    have := hs c hc
    exact decide_eq_true (by omega)
  refine ne_dataH (reads_tuple_at (xs := [.int e, .str y, .list (ns.map PyData.int)]) (News.get N ma) rfl rfl (ReadsAll.cons (Reads.int e t) (ReadsAll.cons (Reads.str y ty) (ReadsAll.cons (reads_newData (News.isList N mZ) (ke_carried hI)) ReadsAll.nil))))
    (reads_tuple_at (xs := [.int e, .str y, .list (ns.map PyData.int)]) (News.get N mb) rfl rfl (ReadsAll.cons (Reads.int e t2) (ReadsAll.cons (Reads.str y ty2) (ReadsAll.cons (reads_newData (News.isList N mW) (ke_carried hI2)) ReadsAll.nil))))
    (shaped_good hso) (shaped_good hso) hu ?_
  simp only [PyData.eqv, PyData.eqvAll, eqv_ints, beq_self_eq_true, Bool.and_self, Bool.not_true]
  exact h
end
end
/-- the codes of an encoded text -/
def tx (e : Nat) (h ds : List Nat) : List Nat := h ++ 49 :: (ds ++ sixOf e h ds).map chAt
/-- the human parts at hand -/
def HOk (h : List Nat) : Prop := 1 ≤ h.length ∧ ∀ c ∈ h, 33 ≤ c ∧ c ≤ 126 ∧ lo1 c = c

theorem ch_good : ∀ d, d < 32 → 33 ≤ chAt d ∧ chAt d ≤ 126 ∧ lo1 (chAt d) = chAt d ∧ chAt d ≠ 49 ∧ inCH (chAt d) = true ∧ ix (chAt d) = d := by decide +kernel

theorem at_one (l : List Nat) (i : Nat) : StrLaws.At ⟨l.toArray⟩ (Str.ofString "1") (⟨l.toArray⟩ : Str).length i ↔ l[i]? = some 49 := by
  have := StrLaws.subAt_one ⟨l.toArray⟩ 49 i
  exact this
theorem rf_eq (h r : List Nat) (hr : ∀ c ∈ r, c ≠ 49) : rf (h ++ 49 :: r) = (h.length : Nat) := by
  unfold rf
  rcases rfind_whole ⟨(h ++ 49 :: r).toArray⟩ (Str.ofString "1") with ⟨_, hn⟩ | ⟨i, hi, ha, hlast⟩
  · exact absurd ((at_one _ h.length).mpr (by simp)) (hn h.length)
  · rw [hi]
    have e1 := (at_one _ i).mp ha
    have e2 : ¬ i < h.length := fun hlt => hlast h.length hlt ((at_one _ h.length).mpr (by simp))
    have e3 : i = h.length := by
      rcases Nat.lt_or_eq_of_le (Nat.le_of_not_lt e2) with hlt | he
      · rw [List.getElem?_append_right (by omega)] at e1
        obtain ⟨k, hk⟩ : ∃ k, i - h.length = k + 1 := ⟨i - h.length - 1, by omega⟩
        rw [hk, List.getElem?_cons_succ] at e1
        exact absurd rfl (hr 49 (List.mem_of_getElem? e1))
      · exact he.symm
    rw [e3]

theorem any_bad {l : List Nat} (h : ∀ c ∈ l, 33 ≤ c ∧ c ≤ 126) : l.any badSign = false := by
  rw [List.any_eq_false]
  intro c hc
  have := h c hc
  simp [badSign]
  omega
theorem lo_same {l : List Nat} (h : ∀ c ∈ l, lo1 c = c) : l.map lo1 = l := by
  have : l.map lo1 = l.map id := List.map_congr_left fun c hc => h c hc
  rw [this, List.map_id]

theorem tx_signs {e : Nat} {h ds : List Nat} (hh : HOk h) (hd : ∀ d ∈ ds, d < 32) : ∀ c ∈ tx e h ds, 33 ≤ c ∧ c ≤ 126 ∧ lo1 c = c := by
  intro c hc
  unfold tx at hc
  rcases List.mem_append.mp hc with hc | hc
  · exact hh.2 c hc
  · rcases List.mem_cons.mp hc with rfl | hc
    · decide
    · obtain ⟨d, hd', rfl⟩ := List.mem_map.mp hc
      have hlt : d < 32 := by
        rcases List.mem_append.mp hd' with h1 | h1
        · exact hd d h1
        · exact six_lt _ d h1
      have := ch_good d hlt
      exact ⟨this.1, this.2.1, this.2.2.1⟩
theorem tx_len {e : Nat} {h ds : List Nat} : (tx e h ds).length = h.length + 7 + ds.length := by
  have : (sixOf e h ds).length = 6 := rfl
  simp [tx, this]
  omega
theorem tx_front {e : Nat} {h ds : List Nat} : (tx e h ds).take ((tx e h ds).length - 6) = h ++ 49 :: ds.map chAt := by
  have e6 : ((sixOf e h ds).map chAt).length = 6 := by simp; rfl
  have e1 : tx e h ds = (h ++ 49 :: ds.map chAt) ++ (sixOf e h ds).map chAt := by simp [tx]
  rw [e1, List.length_append, e6, Nat.add_sub_cancel, List.take_left']
  rfl
theorem tx_back {e : Nat} {h ds : List Nat} : (tx e h ds).drop ((tx e h ds).length - 6) = (sixOf e h ds).map chAt := by
  have e6 : ((sixOf e h ds).map chAt).length = 6 := by simp; rfl
  have e1 : tx e h ds = (h ++ 49 :: ds.map chAt) ++ (sixOf e h ds).map chAt := by simp [tx]
  rw [e1, List.length_append, e6, Nat.add_sub_cancel, List.drop_left']
  rfl

theorem dec2_tx {e : Nat} {h ds : List Nat} (he : e = 1 ∨ e = 2) (hh : HOk h) (hd : ∀ d ∈ ds, d < 32) : dec2 h (ds ++ sixOf e h ds) = some (e, h, ds) := by
  have hb : ∀ v ∈ expand h ++ ds, v < 2 ^ 30 := by
    intro v hv
    rcases List.mem_append.mp hv with hv | hv
    · exact expand_lt (fun c hc => by have := hh.2 c hc; omega) v hv
    · have := hd v hv; omega
  have hp : pm (expand h ++ (ds ++ sixOf e h ds)) = markConst e := by
    rw [← List.append_assoc]
    exact pm_verify (by unfold markConst; split <;> decide) hb
  have e6 : (ds ++ sixOf e h ds).take ((ds ++ sixOf e h ds).length - 6) = ds := by
    have : (sixOf e h ds).length = 6 := rfl
    rw [List.length_append, this, Nat.add_sub_cancel, List.take_left']
    rfl
  unfold dec2
  rw [hp, e6]
  rcases he with rfl | rfl
  · rw [if_pos (by decide)]
  · rw [if_neg (by decide), if_pos (by decide)]

theorem dec1_at (h gs : List Nat) (r : List Nat) (h1 : 1 ≤ h.length) (hr : ∀ c ∈ r, c ≠ 49) :
    dec1 (h ++ 49 :: r) = if r.length < 6 ∨ 90 < h.length + 1 + r.length then none else if r.all inCH then dec2 h (r.map ix) else none := by
  unfold dec1
  rw [rf_eq h r hr]
  have hl : (h ++ 49 :: r).length = h.length + 1 + r.length := by simp; omega
  rw [hl, Int.toNat_natCast]
  have ed : (h ++ 49 :: r).drop (h.length + 1) = r := by
    rw [← List.drop_drop, List.drop_left' rfl]
    rfl
  have et : (h ++ 49 :: r).take h.length = h := List.take_left' rfl
  rw [ed, et]
  by_cases hc : r.length < 6 ∨ 90 < h.length + 1 + r.length
  · rw [if_pos hc, if_pos (by omega)]
  · rw [if_neg hc, if_neg (by omega)]

/-- the text is read back, up to 90 signs -/
theorem dec1_tx {e : Nat} {h ds : List Nat} (he : e = 1 ∨ e = 2) (hh : HOk h) (hd : ∀ d ∈ ds, d < 32) : dec1 (tx e h ds) = if h.length + 1 + ds.length < 85 then some (e, h, ds) else none := by
  have h32 : ∀ d ∈ ds ++ sixOf e h ds, d < 32 := by
    intro d hd'
    rcases List.mem_append.mp hd' with h1 | h1
    · exact hd d h1
    · exact six_lt _ d h1
  have e6 : (sixOf e h ds).length = 6 := rfl
  have hl : ((ds ++ sixOf e h ds).map chAt).length = ds.length + 6 := by rw [List.length_map, List.length_append, e6]
  unfold tx
  rw [dec1_at h [] _ hh.1 (by
    intro c hc
    obtain ⟨d, hd', rfl⟩ := List.mem_map.mp hc
    exact (ch_good d (h32 d hd')).2.2.2.1), hl]
  by_cases hc : h.length + 1 + ds.length < 85
  · rw [if_neg (by omega), if_pos hc, if_pos]
    · have : ((ds ++ sixOf e h ds).map chAt).map ix = ds ++ sixOf e h ds := by
        rw [List.map_map]
        have : (ds ++ sixOf e h ds).map (ix ∘ chAt) = (ds ++ sixOf e h ds).map id := List.map_congr_left fun d hd' => (ch_good d (h32 d hd')).2.2.2.2.2
        rw [this, List.map_id]
      rw [this, dec2_tx he hh hd]
    · rw [List.all_eq_true]
      intro c hc
      obtain ⟨d, hd', rfl⟩ := List.mem_map.mp hc
      exact (ch_good d (h32 d hd')).2.2.2.2.1
  · rw [if_pos (by omega), if_neg hc]
theorem dec_tx {e : Nat} {h ds : List Nat} (he : e = 1 ∨ e = 2) (hh : HOk h) (hd : ∀ d ∈ ds, d < 32) : dec (tx e h ds) = if h.length + 1 + ds.length < 85 then some (e, h, ds) else none := by
  have hs := tx_signs (e := e) hh hd
  have el := lo_same fun c hc => (hs c hc).2.2
  unfold dec
  rw [any_bad fun c hc => ⟨(hs c hc).1, (hs c hc).2.1⟩, if_neg (by decide), if_neg (fun hc => hc.1 el), el]
  exact dec1_tx he hh hd

theorem up_good : ∀ c, c < 127 → 33 ≤ c → lo1 c = c → 33 ≤ up1 c ∧ up1 c ≤ 126 ∧ lo1 (up1 c) = c ∧ up1 (up1 c) = up1 c := by decide +kernel
/-- so is it from capital letters -/
theorem dec_up {e : Nat} {h ds : List Nat} (he : e = 1 ∨ e = 2) (hh : HOk h) (hd : ∀ d ∈ ds, d < 32) : dec ((tx e h ds).map up1) = if h.length + 1 + ds.length < 85 then some (e, h, ds) else none := by
  have hs := tx_signs (e := e) hh hd
  have hu : ∀ c ∈ tx e h ds, 33 ≤ up1 c ∧ up1 c ≤ 126 ∧ lo1 (up1 c) = c ∧ up1 (up1 c) = up1 c := fun c hc => up_good c (by have := hs c hc; omega) (hs c hc).1 (hs c hc).2.2
  have el : ((tx e h ds).map up1).map lo1 = tx e h ds := by
    rw [List.map_map]
    have : (tx e h ds).map (lo1 ∘ up1) = (tx e h ds).map id := List.map_congr_left fun c hc => (hu c hc).2.2.1
    rw [this, List.map_id]
  have eu : ((tx e h ds).map up1).map up1 = (tx e h ds).map up1 := by
    rw [List.map_map]
    exact List.map_congr_left fun c hc => (hu c hc).2.2.2
  unfold dec
  rw [any_bad (l := (tx e h ds).map up1) (fun c hc => by
    obtain ⟨c', hc', rfl⟩ := List.mem_map.mp hc
    exact ⟨(hu c' hc').1, (hu c' hc').2.1⟩), if_neg (by decide), if_neg (fun hc => hc.2 eu), el]
  exact dec1_tx he hh hd

theorem up_turn : ∀ c, c < 128 → up1 c ≠ c → lo1 (up1 c) ≠ up1 c := by decide +kernel
theorem small_turn {c : Nat} (h : 97 ≤ c ∧ c ≤ 122) : up1 c ≠ c := by unfold up1; rw [if_pos h]; omega
/-- letters of both cases -/
theorem dec_mixed {l : List Nat} {i : Nat} {c s : Nat} (hb : ∀ c ∈ l, c < 128) (hi : c ∈ l) (hne : up1 c ≠ c) (m : List Nat) (hm : up1 c ∈ m) (hs : s ∈ m) (h97 : 97 ≤ s ∧ s ≤ 122) : dec m = none := by
  have h1 : m.map lo1 ≠ m := by
    intro e
    have : ∀ z ∈ m, lo1 z = z := fun z hz => by
      have := List.map_inj_left.mp (e.trans (List.map_id m).symm) z hz
      exact this
    exact up_turn c (hb c hi) hne (this _ hm)
  have h2 : m.map up1 ≠ m := by
    intro e
    have : ∀ z ∈ m, up1 z = z := fun z hz => by
      have := List.map_inj_left.mp (e.trans (List.map_id m).symm) z hz
      exact this
    exact small_turn h97 (this s hs)
  unfold dec
  split
  · rfl
  · rw [if_pos ⟨h1, h2⟩]

/-- a sign behind the 1 that is not one of the 32 -/
theorem dec_bio {e : Nat} {h ds : List Nat} {k b : Nat} (hh : HOk h) (hd : ∀ d ∈ ds, d < 32) (hk : k < ds.length + 6) (hb : b = 98 ∨ b = 105 ∨ b = 111) :
    dec ((tx e h ds).take (h.length + 1 + k) ++ b :: (tx e h ds).drop (h.length + 1 + k + 1)) = none := by
  have h32 : ∀ d ∈ ds ++ sixOf e h ds, d < 32 := by
    intro d hd'
    rcases List.mem_append.mp hd' with h1 | h1
    · exact hd d h1
    · exact six_lt _ d h1
  generalize hg : (ds ++ sixOf e h ds).map chAt = r
  have hrc : ∀ c ∈ r, 33 ≤ c ∧ c ≤ 126 ∧ lo1 c = c ∧ c ≠ 49 := by
    rw [← hg]
    intro c hc
    obtain ⟨d, hd', rfl⟩ := List.mem_map.mp hc
    have := ch_good d (h32 d hd')
    exact ⟨this.1, this.2.1, this.2.2.1, this.2.2.2.1⟩
  have hrl : r.length = ds.length + 6 := by
    rw [← hg, List.length_map, List.length_append]
    rfl
  have et : tx e h ds = h ++ 49 :: r := by unfold tx; rw [hg]
  have e1 : (h ++ 49 :: r).take (h.length + 1 + k) = h ++ 49 :: r.take k := by
    have : h ++ 49 :: r = (h ++ [49]) ++ r := by simp
    rw [this, List.take_append]
    have hl : (h ++ [49]).length = h.length + 1 := by simp
    rw [hl, List.take_of_length_le (by omega)]
    have : h.length + 1 + k - (h.length + 1) = k := by omega
    rw [this]
    simp
  have e2 : (h ++ 49 :: r).drop (h.length + 1 + k + 1) = r.drop (k + 1) := by
    have : h ++ 49 :: r = (h ++ [49]) ++ r := by simp
    rw [this, List.drop_append]
    have hl : (h ++ [49]).length = h.length + 1 := by simp
    rw [hl, List.drop_of_length_le (by omega)]
    have : h.length + 1 + k + 1 - (h.length + 1) = k + 1 := by omega
    rw [this]
    rfl
  have hbb : 33 ≤ b ∧ b ≤ 126 ∧ lo1 b = b ∧ b ≠ 49 ∧ inCH b = false := by
    rcases hb with rfl | rfl | rfl <;> decide
  rw [et, e1, e2]
  have e3 : (h ++ 49 :: r.take k) ++ b :: r.drop (k + 1) = h ++ 49 :: (r.take k ++ b :: r.drop (k + 1)) := by simp
  rw [e3]
  have hall : ∀ c ∈ r.take k ++ b :: r.drop (k + 1), 33 ≤ c ∧ c ≤ 126 ∧ lo1 c = c ∧ c ≠ 49 := by
    intro c hc
    rcases List.mem_append.mp hc with hc | hc
    · exact hrc c (List.mem_of_mem_take hc)
    · rcases List.mem_cons.mp hc with rfl | hc
      · exact ⟨hbb.1, hbb.2.1, hbb.2.2.1, hbb.2.2.2.1⟩
      · exact hrc c (List.mem_of_mem_drop hc)
  generalize hq : r.take k ++ b :: r.drop (k + 1) = q at hall
  have hwhole : ∀ c ∈ h ++ 49 :: q, 33 ≤ c ∧ c ≤ 126 ∧ lo1 c = c := by
    intro c hc
    rcases List.mem_append.mp hc with hc | hc
    · exact hh.2 c hc
    · rcases List.mem_cons.mp hc with rfl | hc
      · decide
      · exact ⟨(hall c hc).1, (hall c hc).2.1, (hall c hc).2.2.1⟩
  have el := lo_same fun c hc => (hwhole c hc).2.2
  unfold dec
  rw [any_bad fun c hc => ⟨(hwhole c hc).1, (hwhole c hc).2.1⟩, if_neg (by decide), if_neg (fun hc => hc.1 el), el]
  rw [dec1_at h [] q hh.1 (fun c hc => (hall c hc).2.2.2)]
  split
  · rfl
  · rw [if_neg]
    intro hc
    rw [List.all_eq_true] at hc
    have := hc b (by rw [← hq]; simp)
    rw [hbb.2.2.2.2] at this
    exact absurd this (by decide)
/-- the human parts -/
def PARTS : List (List Nat) := [[98, 99], [116, 98], [108, 110, 98, 99], [97], [120, 49, 121], [115, 112, 108, 105, 116], [63], [126, 57, 43]]
theorem strsA {f : List Nat → Str} : ∀ {hs : List (List Nat)} {ys : List Value}, All2 (fun h v => StrV (f h) v) hs ys → StrsAre ys (hs.map f)
  | _, _, .nil => .nil
  | _, _, .cons ⟨t, e⟩ r => by subst e; exact .cons _ t (strsA r)
theorem parts_at {k : Nat} (hk : k < 8) : ∃ h, h ∈ PARTS ∧ (PARTS.map fun h => (⟨h.toArray⟩ : Str)).getD k Str.empty = ⟨h.toArray⟩ := by
  have hl : k < PARTS.length := hk
  exact ⟨PARTS[k], List.getElem_mem hl, by rw [List.getD_eq_getElem?_getD, List.getElem?_map, List.getElem?_eq_getElem hl]; rfl⟩
theorem sv {z : Str} {h : List Nat} {t : Tok} (e : z = ⟨h.toArray⟩) : StrV ⟨h.toArray⟩ (.str z t) := ⟨t, congrArg (fun z => Value.str z t) e⟩
theorem parts_ok {w : World} {news : List (Addr × Obj)} :
    CallOk w 1 77 [] news (fun v news' => ∃ D us c, v = .ref D ∧ StrsAre us (PARTS.map fun h => ⟨h.toArray⟩) ∧ (∀ p ∈ news, p.1 < D) ∧ news' = (D, listOf us.toArray c) :: news) := by
  refine' callOk_intro (k := 0) [] (fun _ => none)
    ?ho ?hcd ?hbind ?hloc ?hm ?h ?c2 ?c3 ?c4 ?c5
  walk_at "my enter"
  intro mean mg mb dp un gd outer A₀ base g L' h₁ tk s₀ B F X N T hdp hu
  walk_at "my steps"
  rename Fr _ _ _ _ => F2
  rename News _ _ _ _ => N2
  rename ∀ p ∈ news, _ => l2
  exact Bk.ret F2 N2 ⟨_, _, _, rfl, strsA (.cons (sv (by decide)) (.cons (sv (by decide)) (.cons (sv (by decide)) (.cons (sv (by decide)) (.cons (sv (by decide)) (.cons (sv (by decide)) (.cons (sv (by decide)) (.cons (sv (by decide)) .nil)))))))), l2, rfl⟩
theorem parts_good : ∀ h ∈ PARTS, HOk h ∧ h.length ≤ 5 := by
  have key : (PARTS.all fun h => decide (1 ≤ h.length) && decide (h.length ≤ 5) && h.all fun c => decide (33 ≤ c ∧ c ≤ 126 ∧ lo1 c = c)) = true := by decide
  intro h hh
  have := List.all_eq_true.mp key h hh
  rw [Bool.and_eq_true, Bool.and_eq_true, decide_eq_true_iff, decide_eq_true_iff, List.all_eq_true] at this
  exact ⟨⟨this.1.1, fun c hc => of_decide_eq_true (this.2 c hc)⟩, this.1.2⟩
section
open PySem PySem.W PyProof.Rows PySem.Calls
section
variable {prog : Program} {w : World} {A : Around} {E : Value → Shared → Prop} {s : Shared}

/-- the addresses of a zip object and of what it owns, all apart -/
structure ZApart (z TI TO i1 i2 : Addr) : Prop where
  a1 : TI ≠ z
  a2 : TO ≠ z
  a3 : i1 ≠ z
  a4 : i2 ≠ z
  a5 : TI ≠ TO
  a6 : TI ≠ i1
  a7 : TI ≠ i2
  a8 : TO ≠ i1
  a9 : TO ≠ i2
  a10 : i1 ≠ i2

/-- a source that a zip draws from: `n` draws, the one of number `k` a value of `V k`; a draw changes the object at `i` alone -/
structure Draws (prog : Program) (w : World) (A : Around) (i : Addr) (n : Nat) (V : Nat → Value → Prop) (St : Nat → Heap → Prop) : Prop where
  held : ∀ {k h h'}, St k h → (∀ o, h.get? i = some o → h'.get? i = some o) → St k h'
  there : ∀ {k h}, St k h → i < h.objs.size
  draw : ∀ {k} {s : Shared} {Q : Value → Shared → Prop} {E : Value → Shared → Prop}, k < n → St k s.heap → (∀ v h' tk, V k v → St (k + 1) h' → Heap.SameBut i s.heap h' → Q v { s with heap := h', toks := tk }) → wpAny (model prog w) A (Builtin.SmallTypes.nextOf (.ref i)) Q E s
  stop : ∀ {s : Shared} {Q : Value → Shared → Prop} {E : Value → Shared → Prop}, St n s.heap → (∀ h' e, Heap.ExtBut i s.heap h' → (∃ o, h'.get? e = some o ∧ o.cls = .type "StopIteration") → E (.ref e) { s with heap := h' }) → wpAny (model prog w) A (Builtin.SmallTypes.nextOf (.ref i)) Q E s

theorem draws_text (hh : A.handled = none) (i : Addr) (x : Str) (t : Tok) : Draws prog w A i x.cps.size (fun k v => ∃ c t', x.cps[k]? = some c ∧ v = .str ⟨#[c]⟩ t') (fun k h => h.IsStrIter i "str_ascii_iterator" x t k) where
  held := fun ⟨o, e, q⟩ hk => ⟨o, hk o e, q⟩
  there := fun ⟨_, e, _⟩ => Heap.lt_size e
  draw := fun hk st go => wpAny_nextOf_ascii_item st (Array.getElem?_eq_getElem hk) fun h' st' hs => go _ h' _ ⟨_, _, Array.getElem?_eq_getElem hk, rfl⟩ st' hs
  stop := fun st go => wpAny_nextOf_ascii_end hh st (by simp) go

/-- a zip over two sources: before the draw of number `k`, its mark `f` -/
def ZSt (St1 St2 : Nat → Heap → Prop) (z TI TO i1 i2 : Addr) (f : Value) (k : Nat) (h : Heap) : Prop :=
  IsZip h z TI TO f ∧ IsPair h TI (.ref i1) (.ref i2) ∧ (∃ a b, IsPair h TO a b) ∧ St1 k h ∧ St2 k h

/-- what a zip's turn may change -/
def ZKeep (z TO i1 i2 : Addr) (h h' : Heap) : Prop := ∀ b o, b ∉ [z, TO, i1, i2] → h.get? b = some o → h'.get? b = some o
theorem ZKeep.of {z TO i1 i2 a : Addr} {h h' : Heap} (e : Heap.ExtBut a h h') (ha : a ∈ [z, TO, i1, i2]) : ZKeep z TO i1 i2 h h' := fun b o hb => e b o fun q => hb (q ▸ ha)
theorem ZKeep.trans {z TO i1 i2 : Addr} {h h' h'' : Heap} (x : ZKeep z TO i1 i2 h h') (y : ZKeep z TO i1 i2 h' h'') : ZKeep z TO i1 i2 h h'' := fun b o hb e => y b o hb (x b o hb e)

section
variable {z TI TO i1 i2 : Addr} {n k : Nat} {V1 V2 : Nat → Value → Prop} {St1 St2 : Nat → Heap → Prop} {Q : Value → Shared → Prop}

/-- the heap behind a tuple that a zip hands out -/
theorem handed {h : Heap} {t : Obj} {r : Value} (ht : t.isFreed = false) (hz : IsZip h z TI TO .ellipsis) :
    let h' := ((h.push t).update z (Obj.mapFields fun x => x.setIfInBounds 0 r)).update z (Obj.mapFields fun x => x.setIfInBounds 1 (.bool false))
    IsZip h' z TI TO r ∧ h'.get? h.objs.size = some t ∧ ∀ b o, b ≠ z → h.get? b = some o → h'.get? b = some o := by
  have up : ∀ b o, b ≠ z → (h.push t).get? b = some o → (((h.push t).update z (Obj.mapFields fun x => x.setIfInBounds 0 r)).update z (Obj.mapFields fun x => x.setIfInBounds 1 (.bool false))).get? b = some o :=
    fun b o hb e => (Heap.SameBut.update ..).extBut _ _ hb ((Heap.SameBut.update ..).extBut _ _ hb e)
  exact ⟨Heap.get?_update_self _ (Heap.get?_update_self _ (Heap.get?_push_of_some _ hz) rfl) rfl, up _ _ (Nat.ne_of_gt (Heap.lt_size hz)) (Heap.get?_push_size _ ht), fun b o hb e => up b o hb (Heap.get?_push_of_some _ e)⟩

set_option maxHeartbeats 1600000 in
theorem zip_draw (D : ZApart z TI TO i1 i2) (S1 : Draws prog w A i1 n V1 St1) (S2 : Draws prog w A i2 n V2 St2) (hk : k < n) (st : ZSt St1 St2 z TI TO i1 i2 .none k s.heap)
    (hQ : ∀ h' tk v w', V1 k v → V2 k w' → ZSt St1 St2 z TI TO i1 i2 (rawInt s.heap.objs.size) (k + 1) h' → IsPair h' s.heap.objs.size v w' → ZKeep z TO i1 i2 s.heap h' → Q (.ref s.heap.objs.size) { s with heap := h', toks := tk }) :
    wpAny (model prog w) A (Builtin.«zip.__next__» ⟨[.ref z], []⟩) (fun fin s' => ∃ v, fin = .done (.ret v) ∧ Q v s') E s := by
  obtain ⟨hp, g, d, tk, os⟩ := s
  obtain ⟨hz, hTI, ⟨a, b, hTO⟩, st1, st2⟩ := st
  dsimp only at hz hTI hTO st1 st2 hQ
  have nz := D.a2
  have u1 : ∀ f, Heap.SameBut z hp (hp.update z f) := Heap.SameBut.update hp z
  have draw1 : ∀ f (Q : Value → Shared → Prop) (E : Value → Shared → Prop), (∀ v h' tk', V1 k v → St1 (k + 1) h' → Heap.SameBut i1 (hp.update z f) h' → Q v ⟨h', g, d, tk', os⟩) → wpAny (model prog w) A (Builtin.SmallTypes.nextOf (.ref i1)) Q E ⟨hp.update z f, g, d, tk, os⟩ :=
    fun f _ _ go => S1.draw hk (S1.held st1 fun o => (u1 f).extBut _ o D.a3) go
  wp_walk using wpAny_onRaise, draw1
  intro v h₂ tk₂ hv st1' hs₂
  have hTO2 : IsPair h₂ TO a b := hs₂.extBut _ _ D.a8 ((u1 _).extBut _ _ D.a2 hTO)
  have hz2 : IsZip h₂ z TI TO .ellipsis := hs₂.extBut _ _ D.a3.symm (Heap.get?_update_self _ hz rfl)
  have k2 : ZKeep z TO i1 i2 hp h₂ := (ZKeep.of (u1 _).extBut (.head _)).trans (ZKeep.of hs₂.extBut (by simp))
  have st2' : St2 k h₂ := S2.held st2 fun o e => hs₂.extBut _ o D.a10.symm ((u1 _).extBut _ o D.a4 e)
  have n2 : h₂.objs.size = hp.objs.size := hs₂.1.trans (u1 _).1
  clear draw1
  generalize hp.update z _ = h₁ at hs₂
  have u2 : ∀ f, Heap.SameBut TO h₂ (h₂.update TO f) := Heap.SameBut.update h₂ TO
  have draw2 : ∀ f (Q : Value → Shared → Prop) (E : Value → Shared → Prop), (∀ v h' tk', V2 k v → St2 (k + 1) h' → Heap.SameBut i2 (h₂.update TO f) h' → Q v ⟨h', g, d, tk', os⟩) → wpAny (model prog w) A (Builtin.SmallTypes.nextOf (.ref i2)) Q E ⟨h₂.update TO f, g, d, tk₂, os⟩ :=
    fun f _ _ go => S2.draw hk (S2.held st2' fun o => (u2 f).extBut _ o D.a9.symm) go
  wp_walk using wpAny_onRaise, draw2
  intro w' h₄ tk₄ hw st2'' hs₄
  have hTO4 : IsPair h₄ TO v b := hs₄.extBut _ _ D.a9 (Heap.get?_update_self _ hTO2 rfl)
  have hz4 : IsZip h₄ z TI TO .ellipsis := hs₄.extBut _ _ D.a4.symm ((u2 _).extBut _ _ D.a2.symm hz2)
  have k4 : ZKeep z TO i1 i2 hp h₄ := k2.trans ((ZKeep.of (u2 _).extBut (by simp)).trans (ZKeep.of hs₄.extBut (by simp)))
  have st1'' : St1 (k + 1) h₄ := S1.held st1' fun o e => hs₄.extBut _ o D.a10 ((u2 _).extBut _ o D.a8.symm e)
  have n4 : h₄.objs.size = hp.objs.size := hs₄.1.trans ((u2 _).1.trans n2)
  clear draw2
  wp_walk
  have u5 : Heap.SameBut TO h₄ (h₄.update TO (Obj.mapSeq fun x => x.setIfInBounds (0 + 1) w')) := Heap.SameBut.update ..
  have hTO5 : IsPair (h₄.update TO (Obj.mapSeq fun x => x.setIfInBounds (0 + 1) w')) TO v w' := Heap.get?_update_self _ hTO4 rfl
  generalize h₄.update TO (Obj.mapSeq fun x => x.setIfInBounds (0 + 1) w') = h₅ at u5 hTO5 ⊢
  obtain ⟨zz, zt, zk⟩ := handed (t := { cls := .type "tuple", data := .seq #[v, w'] }) (r := rawInt h₅.objs.size) rfl (u5.extBut _ _ D.a2.symm hz4)
  rw [← (u5.1.trans n4 : h₅.objs.size = hp.objs.size)] at hQ
  exact ⟨_, rfl, hQ _ tk₄ v w' hv hw ⟨zz, zk _ _ D.a1 (u5.extBut _ _ D.a5 (k4 TI _ (by simp [D.a1, D.a5, D.a6, D.a7]) hTI)), ⟨v, w', zk _ _ D.a2 hTO5⟩,
    S1.held st1'' fun o e => zk _ o D.a3 (u5.extBut _ o D.a8.symm e), S2.held st2'' fun o e => zk _ o D.a4 (u5.extBut _ o D.a9.symm e)⟩ zt
    (k4.trans ((ZKeep.of u5.extBut (by simp)).trans fun b o hb e => zk b o (fun q => hb (q ▸ .head _)) e))⟩

theorem zip_stop {Q : PySem.Fin → Shared → Prop} (D : ZApart z TI TO i1 i2) (S1 : Draws prog w A i1 n V1 St1) (st : ZSt St1 St2 z TI TO i1 i2 .none n s.heap)
    (hE : ∀ h' e, ZKeep z TO i1 i2 s.heap h' → (∃ o, h'.get? e = some o ∧ o.cls = .type "StopIteration") → E (.ref e) { s with heap := h' }) :
    wpAny (model prog w) A (Builtin.«zip.__next__» ⟨[.ref z], []⟩) Q E s := by
  obtain ⟨hp, g, d, tk, os⟩ := s
  obtain ⟨hz, hTI, ⟨a, b, hTO⟩, st1, _⟩ := st
  dsimp only at hz hTI hTO st1 hE
  have u1 : ∀ f, Heap.SameBut z hp (hp.update z f) := Heap.SameBut.update hp z
  have stop1 : ∀ f (Q : Value → Shared → Prop) (E : Value → Shared → Prop), (∀ h' e, Heap.ExtBut i1 (hp.update z f) h' → (∃ o, h'.get? e = some o ∧ o.cls = .type "StopIteration") → E (.ref e) ⟨h', g, d, tk, os⟩) → wpAny (model prog w) A (Builtin.SmallTypes.nextOf (.ref i1)) Q E ⟨hp.update z f, g, d, tk, os⟩ :=
    fun f _ _ go => S1.stop (S1.held st1 fun o => (u1 f).extBut _ o D.a3) go
  wp_walk using wpAny_onRaise, stop1
  rintro h₂ e hs₂ ⟨oe, hoe, hce⟩
  have hz2 : IsZip h₂ z TI TO .ellipsis := hs₂ _ _ D.a3.symm (Heap.get?_update_self _ hz rfl)
  have hez : e ≠ z := fun q => by
    rw [q, hz2] at hoe
    cases hoe
    exact absurd hce (by simp)
  wp_walk
  exact hE _ e ((ZKeep.of (u1 _).extBut (.head _)).trans ((ZKeep.of hs₂ (by simp)).trans (ZKeep.of (Heap.SameBut.update ..).extBut (.head _)))) ⟨oe, (Heap.SameBut.update ..).extBut _ _ hez hoe, hce⟩
end

/-- drawing from a zip, from what its method does -/
theorem zip_pyNext {z TI TO : Addr} {f : Value} {Q : Option Value → Shared → Prop} (hz : IsZip s.heap z TI TO f)
    (h : wpAny (model prog w) A.in1 (Builtin.«zip.__next__» ⟨[.ref z], []⟩) (fun fin s' => ∃ v, fin = .done (.ret v) ∧ Q (some v) s') (fun e s' => ∃ a o, e = .ref a ∧ s'.heap.get? a = some o ∧ o.cls = .type "StopIteration" ∧ Q none s') s) :
    wpAny (model prog w) A (pyNext (.ref z)) Q E s := by
  have zip : s.TypeIs (.ref z) "zip" := ⟨_, hz, rfl⟩
  unfold pyNext
  refine wpAny_bind (wpAny_attempt (wpAny_callSpecial?_slot zip F.slot_zip_next (wpAny_call_entry F.slot_zip_next zip F.entry_zip_next (wpAny_mono h ?_ ?_) (F.args_zip_next_1 _))))
  · rintro _ _ ⟨v, rfl, q⟩
    exact ⟨v, rfl, wpAny_pure q⟩
  · rintro _ _ ⟨a, o, rfl, ho, hc, q⟩
    exact wpAny_bind (wpAny_isInstance (b := true) ⟨o, ho, hc⟩ isSubtype_stop (wpAny_pure q))

theorem walks_zip {z TI TO i1 i2 : Addr} {n : Nat} {V1 V2 : Nat → Value → Prop} {St1 St2 : Nat → Heap → Prop} (D : ZApart z TI TO i1 i2) (S1 : Draws prog w A.in1 i1 n V1 St1) (S2 : Draws prog w A.in1 i2 n V2 St2) :
    WalksU prog w A z [z, TI, TO, i1, i2] [z, TO, i1, i2] n (fun i vals => ∃ v v', V1 i v ∧ V2 i v' ∧ vals = #[v, v']) (ZSt St1 St2 z TI TO i1 i2 .none)
      (fun i T h => ZSt St1 St2 z TI TO i1 i2 (rawInt T) (i + 1) h ∧ T ∉ [z, TO, i1, i2]) where
  sub := by simp
  frame := fun _ _ _ ⟨hz, hTI, ⟨a, b, hTO⟩, h1, h2⟩ hk => ⟨hk z (by simp) _ hz, hk TI (by simp) _ hTI, ⟨a, b, hk TO (by simp) _ hTO⟩, S1.held h1 (hk i1 (by simp)), S2.held h2 (hk i2 (by simp))⟩
  item := fun i s Q E hi st hQ => zip_pyNext st.1 (zip_draw (Q := fun v s' => Q (some v) s') D S1 S2 hi st fun h' tk v v' hv hv' st' hT hk => by
    refine hQ _ _ h' tk ⟨v, v', hv, hv', rfl⟩ ⟨_, hT, rfl, _, rfl⟩ ⟨st', fun hm => ?_⟩ hk
    obtain ⟨hz, _, ⟨a, b, hTO⟩, h1, h2⟩ := st
    have old : ∀ b : Nat, b < s.heap.objs.size → s.heap.objs.size = b → False := fun b hb e => Nat.lt_irrefl _ (e ▸ hb)
    rcases List.mem_cons.mp hm with e | hm
    · exact old _ (Heap.lt_size hz) e
    rcases List.mem_cons.mp hm with e | hm
    · exact old _ (Heap.lt_size hTO) e
    rcases List.mem_cons.mp hm with e | hm
    · exact old _ (S1.there h1) e
    · exact old _ (S2.there h2) (List.mem_singleton.mp hm))
  go := fun elts k pos i T s Q E ⟨⟨hz, hTI, ⟨a, b, hTO⟩, h1, h2⟩, _⟩ hQ => wpAny_letOwnedTupleGo_zip hz fun h' hz' hs =>
    hQ h' ⟨hz', hs.extBut _ _ D.a1 hTI, ⟨a, b, hs.extBut _ _ D.a2 hTO⟩, S1.held h1 fun o => hs.extBut _ o D.a3, S2.held h2 fun o => hs.extBut _ o D.a4⟩ (ZKeep.of hs.extBut (.head _))
  apart := fun _ _ _ q => q.2
  done := fun s Q E st hQ => zip_pyNext st.1 (zip_stop D S1 st fun h' e hk ⟨o, ho, hc⟩ => ⟨e, o, rfl, ho, hc, hQ h' s.toks hk⟩)
  self := fun _ _ _ _ st hQ => wpAny_pyIter_zip st.1 hQ

/-- objects put into the heap, one behind the other -/
def pushAll (h : Heap) : List Obj → Heap
  | [] => h
  | o :: os => pushAll (h.push o) os
theorem pushAll_size : ∀ (os : List Obj) (h : Heap), (pushAll h os).objs.size = h.objs.size + os.length
  | [], _ => rfl
  | o :: os, h => by rw [pushAll, pushAll_size os, Heap.size_push, List.length_cons, Nat.add_right_comm, Nat.add_assoc]
theorem pushAll_old {b : Addr} {p : Obj} : ∀ (os : List Obj) (h : Heap), h.get? b = some p → (pushAll h os).get? b = some p
  | [], _, e => e
  | o :: os, h, e => pushAll_old os (h.push o) (Heap.get?_push_of_some _ e)
theorem pushAll_new {p : Obj} (hp : p.isFreed = false) : ∀ (os : List Obj) (h : Heap) (i : Nat), os[i]? = some p → (pushAll h os).get? (h.objs.size + i) = some p
  | o :: os, h, 0, e => by cases e; exact pushAll_old os _ (Heap.get?_push_size _ hp)
  | o :: os, h, i + 1, e => by
    have := pushAll_new hp os (h.push o) i e
    rwa [Heap.size_push, Nat.add_assoc, Nat.add_comm 1] at this

/-- what a zip of two texts is made of -/
def zipObjs (h : Heap) (x : Str) (t : Tok) (y : Str) (u : Tok) : List Obj :=
  [{ cls := .type "str_ascii_iterator", data := .fields #[.str x t, .int 0 0] }, { cls := .type "str_ascii_iterator", data := .fields #[.str y u, .int 0 0] },
    { cls := .type "tuple", data := .seq #[.ref h.objs.size, .ref (h.objs.size + 1)] }, { cls := .type "tuple", data := .seq #[.none, .none] },
    { cls := .type "zip", data := .fields #[.none, .bool false, .bool false, .ref (h.objs.size + 2), .ref (h.objs.size + 3)] }]

set_option maxHeartbeats 8000000 in
theorem meets_zipS (x : Str) (t : Tok) (y : Str) (u : Tok) (hx : x.cps.all (· < 128) = true) (hy : y.cps.all (· < 128) = true) :
    Meets (Builtin.«zip.__new__» ⟨[.type "zip", .str x t, .str y u], []⟩) (fun _ R s => R (.ok (.ret (.ref (s.heap.objs.size + 4)))) { s with heap := pushAll s.heap (zipObjs s.heap x t y u) }) :=
  .of_wp fun prog w A R s h => by
    obtain ⟨hp, g, d, tk, os⟩ := s
    have hsub := sub_zip
    wp_walk using wpAny_pyIter_ascii hx, wpAny_pyIter_ascii hy
    refine ⟨_, rfl, ?_⟩
    simp only [Heap.size_push]
    exact h

/-- zip of two texts -/
theorem call_zipS {x : Str} {t : Tok} {y : Str} {u : Tok} (hx : x.cps.all (· < 128) = true) (hy : y.cps.all (· < 128) = true) {Q : Value → Shared → Prop}
    (h : ∀ h' z TI TO i1 i2, ZApart z TI TO i1 i2 → ZSt (fun k h => h.IsStrIter i1 "str_ascii_iterator" x t k) (fun k h => h.IsStrIter i2 "str_ascii_iterator" y u k) z TI TO i1 i2 .none 0 h' →
      (∀ b ∈ [z, TI, TO, i1, i2], s.heap.objs.size ≤ b ∧ b < h'.objs.size) → (∀ c o, s.heap.get? c = some o → h'.get? c = some o) → Q (.ref z) { s with heap := h' }) :
    wpAny (model prog w) A (call (.type "zip") [.str x t, .str y u]) Q E s := by
  refine callType_new F.called_zip (by decide) (F.typeCall_zip_2 _ _) (F.newCall_zip_2 _ _) (fun _ => F.args_object_init_3 _ _ _) F.entry_zip_new (meets_zipS x t y u hx hy) ?_
  have new : ∀ {p : Obj} (i : Nat), p.isFreed = false → (zipObjs s.heap x t y u)[i]? = some p → (pushAll s.heap (zipObjs s.heap x t y u)).get? (s.heap.objs.size + i) = some p := fun i hp e => pushAll_new hp _ _ i e
  refine ⟨⟨_, new 4 rfl rfl, rfl⟩, h _ _ (s.heap.objs.size + 2) (s.heap.objs.size + 3) (s.heap.objs.size + 0) (s.heap.objs.size + 1) ?_ ⟨new 4 rfl rfl, new 2 rfl rfl, ⟨_, _, new 3 rfl rfl⟩, ⟨_, new 0 rfl rfl, rfl, rfl⟩, ⟨_, new 1 rfl rfl, rfl, rfl⟩⟩ ?_ fun c o => pushAll_old _ _⟩
  · have ne : ∀ {i j : Nat}, i ≠ j → s.heap.objs.size + i ≠ s.heap.objs.size + j := fun h e => h (Nat.add_left_cancel e)
    constructor <;> exact ne (by decide)
  · have hl : (zipObjs s.heap x t y u).length = 5 := rfl
    rw [pushAll_size, hl]
    intro b hb
    have rm : ∀ {i : Nat}, i < 5 → s.heap.objs.size ≤ s.heap.objs.size + i ∧ s.heap.objs.size + i < s.heap.objs.size + 5 := fun h => ⟨Nat.le_add_right .., Nat.add_lt_add_left h _⟩
    simp only [List.mem_cons, List.not_mem_nil, or_false] at hb
    rcases hb with rfl | rfl | rfl | rfl | rfl <;> exact rm (by decide)
end
end
section
open PySem PySem.W PyProof.Rows PySem.Calls
open PyProof.Rows.LCg PyProof.Rows.LCp
section
variable {prog : Program} {w : World} {A : Around} {E : Value → Shared → Prop} {s : Shared} {h₀ : Heap} {L : Addr} {m : Str → Option Value} {env : Env} {news : List (Addr × Obj)}

theorem fr_off {h h' : Heap} {wr : List Addr} (F : Fr h₀ L h m) (hk : ∀ b o, b ∉ wr → h.get? b = some o → h'.get? b = some o) (hw : ∀ q ∈ wr, q ≠ L ∧ h₀.get? q = none) : Fr h₀ L h' m :=
  ⟨F.ns.at' fun o e => hk L o (fun hm => (hw L hm).1 rfl) e, fun b o e => hk b o (fun hm => by rw [(hw b hm).2] at e; cases e) (F.keep b o e), F.above⟩
theorem off1_of {D : Addr} : ∀ {l : List (Addr × Obj)}, (∀ p ∈ l, p.1 ≠ D) → Off1 D l
  | [], _ => trivial
  | _ :: _, h => ⟨h _ (.head _), off1_of fun p hp => h p (.tail _ hp)⟩

/-- a list comprehension over pairs drawn anew; its elements change no object -/
theorem lcz_assign {β : Type} (Rt : β → Value → Prop) (n : Nat) (g : Nat → β) (Pv : Nat → Value → Value → Prop) {elt iter : Expr} {a b y : Str} {pa pb tp py : Pos} {kk : Nat} {scope : Scope} {cl : List (Str × Addr)} {pos spos : Pos} {Q : Flow → Shared → Prop}
    (hh : A.handled = none) (hLe : env.locals = L) (hsw : swapsWith (.ListComp elt [⟨.Tuple [.Name a pa, .Name b pb] kk tp, iter, [], 0⟩] scope pos) (some (.Name y py)) spos.line env = pure true)
    (hclos : closureFor scope env = pure cl) (hcell : ∀ y ∈ scope.names, y.2 ≠ .cell) (hkind : scope.kind = .function)
    (hnames : ∀ y ∈ scope.names, y.2 = .local → scope.names.lookup y.1 = some .local) (hxa : scope.names.lookup a = some .local) (hxb : scope.names.lookup b = some .local) (hab : a ≠ b)
    (hs : ∀ x, foldedSetIterable iter env x = pure x)
    (hy : env.kindOf y = some .local) (hp : (env.scope.kind == .class || (env.scope.kind == .module && env.locals != env.globals)) = false) (hn : n ≤ 100000)
    (hsrc : wpAny (model prog w) A (eval iter env) (fun xv s₁ => ∃ h tk z fp wr Pt St Mid, xv = .ref z ∧ s₁ = { s with heap := h, toks := tk } ∧ Fr h₀ L h m ∧ News h₀ L h news ∧ WalksU prog w A z fp wr n Pt St Mid ∧ St 0 h ∧ (∀ i vals, Pt i vals → ∃ v₁ v₂, vals = #[v₁, v₂] ∧ Pv i v₁ v₂) ∧
      (∀ q ∈ fp, q < h.objs.size) ∧ (∀ q ∈ wr, q ≠ L ∧ h₀.get? q = none) ∧ ∀ p ∈ news, p.1 ∉ wr) E s)
    (turn : ∀ i v₁ v₂ C m₂ (u : Shared), i < n → Pv i v₁ v₂ → m₂ a = some v₁ → m₂ b = some v₂ → Fr h₀ L u.heap m → Fr h₀ C u.heap m₂ →
      wpAny (model prog w) A (eval elt (compEnvC scope cl C env)) (fun y s₃ => Rt (g i) y ∧ Keeps u s₃) (fun _ _ => False) u)
    (fin : ∀ D ys h tk, All2 Rt ((List.range n).map g) ys → Fr h₀ L h (fun z => if z = y then some (.ref D) else m z) → News h₀ L h ((D, listOf ys.toArray ys.length) :: news) → (∀ p ∈ news, p.1 ≠ D) → Q .next { s with heap := h, toks := tk }) :
    wpAny (model prog w) A (exec (.Assign [.Name y py] (.ListComp elt [⟨.Tuple [.Name a pa, .Name b pb] kk tp, iter, [], 0⟩] scope pos) spos) env) Q E s := by
  refine Block.named rfl hsw hclos hkind hnames hs (wpAny_mono hsrc (fun xv s₁ h₁ => ?_) fun _ _ e => e)
  obtain ⟨hp₂, tk₂, z, fp, wr, Pt, St, Mid, rfl, rfl, F, N, W, hst0, hPv, hfp, hwr, hnw⟩ := h₁
  refine W.self 0 _ _ _ hst0 (Block.opened hcell hkind F fun D C h₁ tk₁ O => ?_)
  have lowP : ∀ p ∈ news, p.1 < D := fun p hp => O.low _ (Heap.lt_size (N p hp).1)
  have fpD : D ∉ fp := fun hm => Nat.lt_irrefl _ (O.low _ (hfp _ hm))
  have fpC : C ∉ fp := fun hm => Nat.lt_irrefl _ (Nat.lt_trans O.DC (O.low _ (hfp _ hm)))
  have DC : @Ne Nat D C := Nat.ne_of_lt O.DC
  have DL : @Ne Nat D L := Nat.ne_of_gt O.LD
  have CL : @Ne Nat C L := Nat.ne_of_gt (Nat.lt_trans O.LD O.DC)
  have offD : ∀ p ∈ news, p.1 ≠ D := fun p hp => Nat.ne_of_lt (lowP p hp)
  have offC : ∀ p ∈ news, p.1 ≠ C := fun p hp => Nat.ne_of_lt (Nat.lt_trans (lowP p hp) O.DC)
  have hst₁ := W.frame _ _ _ hst0 fun b _ => O.old b
  -- the ledger with the list in it, as the list grows
  have grow : ∀ {ys : List Value} {h h' : Heap}, News h₀ L h ((D, lst ys) :: news) → (∀ b o, b ≠ C → b ∉ wr → h.get? b = some o → h'.get? b = some o) → News h₀ L h' ((D, lst ys) :: news) := fun M k p hp => by
    refine ⟨k _ _ ?_ ?_ (M p hp).1, (M p hp).2⟩ <;> rcases List.mem_cons.mp hp with rfl | hp
    · exact DC
    · exact offC p hp
    · exact fun hm => fpD (W.sub _ hm)
    · exact hnw p hp
  have loop : codeAny (model prog w) A (.compLoop (.ListComp elt [⟨.Tuple [.Name a pa, .Name b pb] kk tp, iter, [], 0⟩] scope pos) 0 (.ref z) (.ref D) (compEnvC scope cl C env))
      (compPost (model prog w) A E (some (assign (.Name y py) env)) (fun _ s' => Q .next s') (.ref D) C) { s with heap := h₁, toks := tk₁ } := by
    obtain ⟨m₁, hn₁⟩ := O.ns
    obtain ⟨Iv, hIv⟩ : ∃ Iv : Nat → Shared → Prop, ∀ k s', Iv k s' ↔ (∃ h' tk i ys m', s' = { s with heap := h', toks := tk } ∧ i ≤ n ∧ k = n + 1 - i ∧ All2 Rt ((List.range i).map g) ys ∧ St i h' ∧ Fr h₀ L h' m ∧ h'.Ns C m' ∧ News h₀ L h' ((D, lst ys) :: news)) := ⟨_, fun _ _ => Iff.rfl⟩
    have start : News h₀ L h₁ ((D, lst []) :: news) := fun p hp => by
      rcases List.mem_cons.mp hp with rfl | hp
      · exact ⟨O.lst, DL, O.D₀⟩
      · exact ⟨O.old _ _ (N p hp).1, (N p hp).2⟩
    refine codeAny_compLoop_pair Iv (fun k s' hI => ?_) (n + 1) ((hIv _ _).mpr ⟨h₁, tk₁, 0, [], m₁, rfl, Nat.zero_le _, rfl, .nil, hst₁, F.keeps O.old, hn₁, start⟩)
    obtain ⟨h', tk, i, ys, m', rfl, hi, rfl, hys, st, F', hn', N'⟩ := (hIv _ _).mp hI
    clear hI
    rcases Nat.lt_or_eq_of_le hi with hlt | rfl
    · refine W.item i _ _ _ hlt st fun T vals h₂ tk₂ hPt hT hMid k2 => ?_
      obtain ⟨v₁, v₂, rfl, hv⟩ := hPv i vals hPt
      refine W.go _ _ _ i T _ _ _ hMid fun h₃ st₃ k3 => ?_
      have k23 : ∀ b o, b ∉ wr → h'.get? b = some o → h₃.get? b = some o := fun b o hb e => k3 b o hb (k2 b o hb e)
      have hT₃ : h₃.IsTuple T #[v₁, v₂] := let ⟨o, e, q⟩ := hT; ⟨o, k3 _ o (W.apart i T _ hMid) e, q⟩
      refine kcp_assign hh hT₃ (lookup_relabel_local hxa) (lookup_relabel_local hxb) (by simp [compEnvC, relabel, hkind]) (hn'.at' fun o e => k23 _ o (fun hm => fpC (W.sub _ hm)) e) fun h₄ tk₄ hn₄ k4 => ?_
      have F₄ : Fr h₀ L h₄ m := ⟨F'.ns.at' fun o e => k4 L o (Ne.symm CL) (k23 L o (fun hm => (hwr _ hm).1 rfl) e), fun b o e => k4 b o (fun q => by rw [q] at e; exact nomatch O.C₀.symm.trans e) (k23 b o (fun hm => nomatch (hwr b hm).2.symm.trans e) (F'.keep b o e)), F'.above⟩
      have N₄ : News h₀ L h₄ ((D, lst ys) :: news) := grow N' fun b o hc hw e => k4 b o hc (k23 b o hw e)
      have st₄ : St (i + 1) h₄ := W.frame _ _ _ st₃ fun b hb o e => k4 b o (fun q => fpC ((show b = C from q) ▸ hb)) e
      refine wpAny_mono (turn i v₁ v₂ C _ { s with heap := h₄, toks := _ } hlt hv (by simp [hab]) (by simp) F₄ ⟨hn₄, F₄.keep, Nat.le_trans F.above (Nat.le_of_lt (Nat.lt_trans O.LD O.DC))⟩) (fun v s₅ h₅ => ?_) fun _ _ e => e.elim
      obtain ⟨hRt, h₅, tk₅, rfl, k5⟩ := h₅
      have hyl : ys.length = i := hys.length.symm.trans (by rw [List.length_map, List.length_range])
      refine append_at (hsz := by show ys.toArray.size ≤ sizeLine; rw [List.size_toArray, hyl, sizeLine_eq]; omega) (k5 _ _ (N₄ _ (.head _)).1) fun h₆ hs₆ hD₆ => ?_
      refine ⟨n + 1 - (i + 1), by omega, (hIv _ _).mpr ⟨h₆, tk₅, i + 1, ys ++ [v], _, rfl, hlt, rfl, by rw [List.range_succ, List.map_append]; exact hys.snoc hRt,
        W.frame _ _ _ st₄ fun b hb o e => hs₆.extBut b o (fun q => fpD (q ▸ hb)) (k5 b o e), (F₄.keeps k5).change hs₆ DL O.D₀, (hn₄.keeps k5).sameBut hs₆ (Ne.symm DC), fun p hp => ?_⟩⟩
      rcases List.mem_cons.mp hp with rfl | hp
      · exact ⟨hD₆.trans (congrArg some (lst_snoc ys v)), DL, O.D₀⟩
      · exact ⟨hs₆.extBut _ _ (offD p hp) (k5 _ _ (N₄ p (.tail _ hp)).1), (N₄ p (.tail _ hp)).2⟩
    · exact W.done _ _ _ st fun h₂ tk₂ k2 => end_assign (Fin := fun ys nw => nw = news ∧ All2 Rt ((List.range i).map g) ys) hLe hy hp (fun D ys _ h tk q => q.1 ▸ fin D ys h tk q.2) D C h₂ tk₂ m' ys news (fr_off F' k2 hwr) (grow N' fun b o _ hw e => k2 b o hw e) (off1_of offD)
        (hn'.at' fun o e => k2 _ o (fun hm => fpC (W.sub _ hm)) e) O.C₀ O.D₀ CL DL (Ne.symm DC) offC ⟨rfl, hys⟩
  exact codeAny_compStart_list loop (W.self 0 _ _ _ hst₁ loop)

/-- zip of two texts as a source -/
theorem src_zipS {x y : Str} {t u : Tok} {n : Nat} {Pv : Nat → Value → Value → Prop} {h₁ : Heap} {tk₁ : Nat} (hh : A.handled = none) (F : Fr h₀ L h₁ m) (N : News h₀ L h₁ news) (hx : x.cps.all (· < 128) = true) (hy : y.cps.all (· < 128) = true) (hl : x.cps.size = n) (hl2 : y.cps.size = n)
    (hP : ∀ (i c d : Nat) (t' u' : Tok), x.cps[i]? = some c → y.cps[i]? = some d → Pv i (.str (⟨#[c]⟩ : Str) t') (.str (⟨#[d]⟩ : Str) u')) :
    wpAny (model prog w) A (call (.type "zip") [.str x t, .str y u]) (fun xv s₁ => ∃ h tk z fp wr Pt St Mid, xv = .ref z ∧ s₁ = { s with heap := h, toks := tk } ∧ Fr h₀ L h m ∧ News h₀ L h news ∧ WalksU prog w A z fp wr n Pt St Mid ∧ St 0 h ∧ (∀ i vals, Pt i vals → ∃ v₁ v₂, vals = #[v₁, v₂] ∧ Pv i v₁ v₂) ∧
      (∀ q ∈ fp, q < h.objs.size) ∧ (∀ q ∈ wr, q ≠ L ∧ h₀.get? q = none) ∧ ∀ p ∈ news, p.1 ∉ wr) E { s with heap := h₁, toks := tk₁ } := by
  subst hl
  refine call_zipS hx hy ?_
  intro h' z TI TO i1 i2 DZ hst hsz hk
  have D2 := draws_text (prog := prog) (w := w) (A := A.in1) hh i2 y u
  rw [hl2] at D2
  have W := walks_zip (prog := prog) (w := w) (A := A) DZ (draws_text (A := A.in1) hh i1 x t) D2
  have hLt : L < h₁.objs.size := F.ns.lt
  refine ⟨h', tk₁, z, _, _, _, _, _, rfl, rfl, F.keeps hk, fun p hp => ⟨hk _ _ (N p hp).1, (N p hp).2⟩, W, hst, ?_, fun q hq => (hsz q hq).2, ?_, ?_⟩
  · rintro i vals ⟨_, _, ⟨c, t', hc, rfl⟩, ⟨d, u', hd, rfl⟩, rfl⟩
    exact ⟨_, _, rfl, hP i c d t' u' hc hd⟩
  · intro q hq
    have hq2 : h₁.objs.size ≤ q := (hsz q (by simp at hq ⊢; rcases hq with h | h | h | h <;> simp [h])).1
    exact ⟨fun e => Nat.lt_irrefl _ (Nat.lt_of_lt_of_le hLt (e ▸ hq2)), Heap.get?_none_of_le (Nat.le_trans F.above (Nat.le_trans (Nat.le_of_lt hLt) hq2))⟩
  · intro p hp hq
    have hq2 : h₁.objs.size ≤ p.1 := (hsz p.1 (by simp at hq ⊢; rcases hq with h | h | h | h <;> simp [h])).1
    exact Nat.lt_irrefl _ (Nat.lt_of_lt_of_le (Heap.lt_size (N p hp).1) hq2)
end
end
section
local macro_rules | `(tactic| cell_call) => `(tactic| with_reducible (first
  | show wpAny _ _ (compareOp _ (Value.ref _) (Value.ref _)) _ _ _))
theorem item_of {x : Str} {p c : Nat} (h : x.cps.toList[p]? = some c) : Txt.item x (p : Int) = sg c := by
  unfold Txt.item Txt.charAt
  rw [StrLaws.at_nonneg (n := c) (by omega) (by rw [Int.toNat_natCast, ← Array.getElem?_toList]; exact h)]
  rfl
theorem upper_sg {c : Nat} (h : c < 128) : Txt.upper (sg c) = sg (up1 c) := by
  rw [upper_ascii (by intro c' hc'; have : c' = c := by simpa [sg] using hc'
                      omega)]
  simp [sg]
theorem split_at {l : List Nat} {p c : Nat} (h : l[p]? = some c) : l = l.take p ++ c :: l.drop (p + 1) := by
  obtain ⟨hp, e⟩ := List.getElem?_eq_some_iff.mp h
  rw [← e, List.getElem_cons_drop hp, List.take_append_drop]
theorem bio_at {z : Int} (h0 : 0 ≤ z) (h1 : z < 3) : ∃ b, (b = 98 ∨ b = 105 ∨ b = 111) ∧ Txt.item (Str.ofString "bio") z = sg b := by
  obtain ⟨r, rfl⟩ : ∃ r : Nat, z = (r : Int) := ⟨z.toNat, by omega⟩
  have hr : r < 3 := by omega
  match r, hr with
  | 0, _ => exact ⟨98, .inl rfl, by decide +kernel⟩
  | 1, _ => exact ⟨105, .inr (.inl rfl), by decide +kernel⟩
  | 2, _ => exact ⟨111, .inr (.inr rfl), by decide +kernel⟩
theorem lt_a (a : Nat) : [a] < (Str.ofString "a").cps.toList ↔ a < 97 := by
  have e : (Str.ofString "a").cps.toList = [97] := by decide
  rw [e]
  simp [List.cons_lt_cons_iff]
theorem lt_z (a : Nat) : (Str.ofString "z").cps.toList < [a] ↔ 122 < a := by
  have e : (Str.ofString "z").cps.toList = [122] := by decide
  rw [e]
  simp [List.cons_lt_cons_iff]
section
variable {prog : Program} {w : World} {A : Around} {E : Value → Shared → Prop} {s : Shared} {a b : Addr} {Q : Value → Shared → Prop}
theorem ne_nil {vs : List Value} {items : Array Value} (ha : s.heap.IsList a vs.toArray) (hb : s.heap.IsList b items) (hi : items.size = 0) (hu : A.units < cLine) (h : Q (.bool (decide (vs ≠ []))) s) :
    wpAny (model prog w) A (compareOp .NotEq (.ref a) (.ref b)) Q E s := by
  by_cases hv : vs = []
  · rw [decide_eq_false (fun h => h hv)] at h
    subst hv
    refine PySem.SeqAt.RcNeAt.lists (e := fun _ => true) ha hb (by simp [hi]) hu (fun j h1 h2 => ?_) prog w E Q ?_
    · omega
    · simpa using h
  · rw [decide_eq_true hv] at h
    refine PySem.SeqAt.RcNeAt.lists_lengths ha hb ?_ hu prog w E Q h
    have : vs.length ≠ 0 := fun e => hv (List.eq_nil_of_length_eq_zero e)
    rw [hi, List.size_toArray]
    simp [this]
end
section
local macro_rules | `(tactic| walk_at "my sweep") => `(tactic| (repeat (first
  | (rename _ + _ ≤ _ ∧ _ ≤ _ => zz; clear zz)
  | (rename (Txt.slice _ _ _).length ≤ _ => zz; clear zz)
  | (rename (Txt.item _ _).length = _ => zz; clear zz)
  | (rename (Txt.upper _).length ≤ _ => zz; clear zz)
  | (rename (_ != _) = _ => zz; clear zz))))
/-- a cut in a body that may make generators -/
def MidG (g : Heap) (L : Addr) (s₀ : Shared) (P : Flow → (Str → Option Value) → List (Addr × Obj) → Prop) (fl : Flow) (s' : Shared) : Prop :=
  ∃ m' nw, Fr g L s'.heap m' ∧ News g L s'.heap nw ∧ AllBare s'.gens ∧ s'.os = s₀.os ∧ P fl m' nw
theorem MidG.at {g : Heap} {L : Addr} {s₀ s' : Shared} {P : Flow → (Str → Option Value) → List (Addr × Obj) → Prop} {fl : Flow} {m' : Str → Option Value} {nw all : List (Addr × Obj)}
    (F : Fr g L s'.heap m') (N : News g L s'.heap all) (hG : AllBare s'.gens) (ho : s'.os = s₀.os) (hs : ∀ p ∈ nw, p ∈ all) (hP : P fl m' nw) : MidG g L s₀ P fl s' := ⟨m', nw, F, News.sub N hs, hG, ho, hP⟩

theorem CallOkG.use {w : World} {k : Nat} {f : Addr} {args : List Value} {news : List (Addr × Obj)} {Ret : Value → List (Addr × Obj) → Prop} (C : CallOkG w k f args news Ret)
    {mg mb : Str → Option Value} {bm : Addr} {ob : Obj} {dp un : Nat} {gd : Option (List Code)} {cn : Str} {cs : Scope} {a : Addr} {ccd : Value} {cl : List (Str × Addr)} {outer : List Env} {A₀ : Around} {base h₀ : Heap} {L : Addr} {m : Str → Option Value} {s : Shared} {Q E : Value → Shared → Prop}
    (B : Below A₀ base outer h₀) (F : Fr h₀ L s.heap m) (X : (hd.heap_39 w.params).In h₀) (N : News h₀ L s.heap news) (T : TopRead hd.view_39 (looseW hd.view_39 [Str.ofString "Encoding", Str.ofString "convertbits"]) mg mb h₀) (M : BMod h₀ mainGlobals mg bm ob) (hG : AllBare s.gens)
    (hk : cs.kind = .function) (hd : dp + k < recursionLimit) (hu : un + 100 * k < cLine)
    (h : ∀ v news' s', Ret v news' → Fr h₀ L s'.heap m → News h₀ L s'.heap news' → AllBare s'.gens → s'.os = s.os → Q v s') :
    wpAny (model PySem.Challenge.rw_an0006_01.row.prog w) (ktrTop dp un gd cn cs L a ccd cl outer) (call (.ref f) args) Q E s :=
  C _ _ _ _ _ _ _ _ _ _ _ _ _ _ _ _ _ _ _ _ _ B F X N T M hG hk hd hu h
theorem DecRet.nones {led news' : List (Addr × Obj)} {v : Value} (h : DecRet none led v news') : ∃ ps D, PsOk ps ∧ v = .ref D ∧ D ≠ 59 ∧ news' = (59, pobj ps) :: (D, tupO #[.none, .none, .none]) :: led := by
  obtain ⟨ps, D, hp, hv, hD, _, (⟨_, hn⟩ | ⟨_, _, _, _, _, _, _, _, _, hr, _⟩)⟩ := h
  · exact ⟨ps, D, hp, hv, hD, hn⟩
  · exact absurd hr (by simp)
theorem DecRet.good {led news' : List (Addr × Obj)} {v : Value} {e : Nat} {h d : List Nat} (q : DecRet (some (e, h, d)) led v news') :
    ∃ ps D Z t y ty us c, PsOk ps ∧ v = .ref D ∧ D ≠ 59 ∧ y.cps.toList = h ∧ IntsAre us (toI d) ∧ news' = (59, pobj ps) :: (D, tupO #[.int (e : Nat) t, .str y ty, .ref Z]) :: (Z, listOf us.toArray c) :: led := by
  obtain ⟨ps, D, hp, hv, hD, _, (⟨hr, _⟩ | ⟨e', h', d', t, y, ty, Z, us, c, hr, hy, hI, _, _, _, hn⟩)⟩ := q
  · exact absurd hr (by simp)
  · injection hr with hr
    obtain ⟨rfl, rfl, rfl⟩ := hr
    exact ⟨ps, D, Z, t, y, ty, us, c, hp, hv, hD, hy, hI, hn⟩
theorem apart_eq {e e2 : Nat} {h ds : List Nat} (he : e = 1 ∨ e = 2) (h3 : e + e2 = 3) : (List.range 6).map (fun i => (sixOf e h ds).getD i 0 ^^^ (sixOf e2 h ds).getD i 0) = [21, 28, 16, 12, 5, 2] := by
  have hz : ∀ a b : List Nat, a.length = 6 → b.length = 6 → (List.range 6).map (fun i => a.getD i 0 ^^^ b.getD i 0) = List.zipWith (· ^^^ ·) a b := by
    intro a b ha hb
    match a, ha, b, hb with
    | [a1, a2, a3, a4, a5, a6], _, [b1, b2, b3, b4, b5, b6], _ => rfl
  rw [hz _ _ rfl rfl]
  have key := six_apart (pm (expand h ++ ds ++ [0, 0, 0, 0, 0, 0]))
  rcases he with rfl | rfl
  · obtain rfl : e2 = 2 := by omega
    exact key
  · obtain rfl : e2 = 1 := by omega
    rw [← key]
    exact List.zipWith_comm_of_comm fun a b => Nat.xor_comm a b
theorem six_text {B : List Nat} {z : Str} (hB : ∀ d ∈ B, d < 32) (hz : z.cps.toList = B.map chAt) : z.cps.all (· < 128) = true ∧ ∀ (i c : Nat), z.cps[i]? = some c → ∃ d, B[i]? = some d ∧ chAt d = c := by
  constructor
  · rw [← Array.all_toList, List.all_eq_true, hz]
    intro c hc
    obtain ⟨d, hd, rfl⟩ := List.mem_map.mp hc
    have := ch_good d (hB d hd)
    exact decide_eq_true (by omega)
  · intro i c hc
    rw [← Array.getElem?_toList, hz, List.getElem?_map] at hc
    cases hd : B[i]? with
    | none => rw [hd] at hc; cases hc
    | some d => rw [hd] at hc; exact ⟨d, rfl, by simpa using hc⟩
theorem letter_at {d : Nat} (h : d < 32) : Txt.find (Str.ofString "qpzry9x8gf2tvdw0s3jn54khce6mua7l") (sg (chAt d)) = (d : Int) := by
  have g := ch_good d h
  rw [find_at (chAt d) (by omega) g.2.2.2.2.1, g.2.2.2.2.2]
theorem hideRetG {w : World} {k : Nat} {f : Addr} {args : List Value} {news : List (Addr × Obj)} {Ret : Value → List (Addr × Obj) → Prop} (h : ∀ Ret' : Value → List (Addr × Obj) → Prop, (∀ v nw, Ret v nw → Ret' v nw) → CallOkG w k f args news Ret') : CallOkG w k f args news Ret := h Ret fun _ _ x => x
theorem led2 {a b : Addr} {oa ob : Obj} (h1 : a ≠ 59) (h2 : b ≠ 59) : ∀ p ∈ [(a, oa), (b, ob)], p.1 ≠ 59 :=
  List.forall_mem_cons.mpr ⟨h1, List.forall_mem_cons.mpr ⟨h2, List.forall_mem_nil _⟩⟩
/-- the cuts of _law_text: the frame's facts S, the ledger but for the table -/
theorem MidG.cut {M : Model} {A : Around} {E : Value → Shared → Prop} {s : Shared} {t : Sem Flow} {g : Heap} {L : Addr} {s₀ : Shared} {P : Flow → (Str → Option Value) → List (Addr × Obj) → Prop} {S : (Str → Option Value) → Prop} {r : List (Addr × Obj)} {Q : Flow → Shared → Prop}
    (hP : ∀ fl m nw, P fl m nw → fl = .next ∧ S m ∧ ∃ ps, PsOk ps ∧ nw = (59, pobj ps) :: r) (hm : wpAny M A t (MidG g L s₀ P) E s)
    (rest : ∀ s' m' ps, Fr g L s'.heap m' → News g L s'.heap ((59, pobj ps) :: r) → AllBare s'.gens → s'.os = s₀.os → S m' → PsOk ps → Q .next s') : wpAny M A t Q E s :=
  wpAny_mono hm (fun fl s' q => by
    obtain ⟨m', nw, F, N, hG, ho, hp⟩ := q
    obtain ⟨rfl, hS, ps, hps, rfl⟩ := hP _ _ _ hp
    exact rest s' m' ps F N hG ho hS hps) fun _ _ e => e
/-- what stands in _law_text's frame behind the texts -/
structure Stat (m : Str → Option Value) (x : Str) (t4 : Tok) (H : Int) (t2 : Tok) (V : Addr) (e : Nat) (te : Tok) (sh : Str) (tsh : Tok) (y : Str) (ty : Tok) (Nn : Addr) : Prop where
  front : m (Str.ofString "front") = some (.str x t4)
  head : m (Str.ofString "head") = some (.int H t2)
  groups : m (Str.ofString "groups") = some (.ref V)
  mark : m (Str.ofString "mark") = some (.int (e : Nat) te)
  shown : m (Str.ofString "shown") = some (.str sh tsh)
  text : m (Str.ofString "text") = some (.str y ty)
  none : m (Str.ofString "none") = some (.ref Nn)
theorem y_six (a d : Nat) : 6 ≤ a + 7 + d := by omega
theorem y_ninety {a d : Nat} (h : a + 1 + d ≤ 85) : a + 7 + d ≤ 91 := by omega
theorem mark_of {a : Int} (h0 : 0 ≤ a) (h1 : a < 2) : ∃ e : Nat, (e = 1 ∨ e = 2) ∧ 1 + a = (e : Int) := ⟨(1 + a).toNat, by omega, by omega⟩
theorem mark_other {e : Nat} (he : e = 1 ∨ e = 2) : ∃ e2 : Nat, (e2 = 1 ∨ e2 = 2) ∧ 3 - (e : Int) = (e2 : Int) ∧ e + e2 = 3 := by
  rcases he with rfl | rfl
  · exact ⟨2, .inr rfl, rfl, rfl⟩
  · exact ⟨1, .inl rfl, rfl, rfl⟩
theorem cut_len {a y : Nat} (h : a < y) : min a y + (y - (a + 1) + 1) = y := by
  rw [Nat.min_eq_left (Nat.le_of_lt h), ← Nat.add_assoc, Nat.add_right_comm]
  exact Nat.add_sub_of_le h
theorem k_in {x y k : Nat} (h : (k : Int) < (y : Int) - (x : Int) - 1) : x + 1 + k < y := by omega
theorem k_ds {h x y d k : Nat} (hx : x = h) (hy : y = h + 7 + d) (hk : x + 1 + k < y) : k < d + 6 := by
  subst hx hy
  omega
theorem y_over {h x y d : Nat} (hx : x = h) (hy : y = h + 7 + d) : 0 < (y : Int) - (x : Int) - 1 := by
  subst hx hy
  omega
theorem d_lt {h d : Nat} (h5 : h ≤ 5) (hd : (d : Int) < 25) : h + 1 + d < 85 := by omega
theorem k_le {x d : Nat} {b : Int} (hb : b < 2) : (83 - (x : Int) - (d : Int) + b).toNat ≤ 84 := by omega
theorem k_sum {h x d : Nat} {b : Int} (hx : x = h) (h5 : h ≤ 5) (hd : d ≤ 24) (h1 : 1 ≤ h) (hb0 : 0 ≤ b) (hb : b < 2) : h + 1 + (d + (83 - (x : Int) - (d : Int) + b).toNat) ≤ 85 := by
  subst hx
  omega
theorem d_le {h d : Nat} (h : h + 1 + d ≤ 85) : d ≤ 85 := Nat.le_trans (Nat.le_add_left _ _) h
theorem toI_one {a : Int} (h : 0 ≤ a) : toI [a.toNat] = [a] := by
  simp [toI]
  omega
theorem to_lt {a : Int} {n : Nat} (h0 : 0 ≤ a) (h : a < (n : Int)) : a.toNat < n := (Int.toNat_lt h0).mpr h
theorem bio_lt {b : Nat} (h : b = 98 ∨ b = 105 ∨ b = 111) : b < 128 := by
  rcases h with rfl | rfl | rfl <;> decide
theorem up1_le (c : Nat) : up1 c ≤ c := by unfold up1; split <;> omega
set_option maxHeartbeats 1000000 in
theorem text_ok {w : World} {l : Addr} {vs : List Value} {c : Nat} {ns : List Int} {ps : Array Value} (hps : PsOk ps) (hI : IntsAre vs ns) (hlen : ns.length < 40) (hne : (59 : Nat) ≠ l) :
    CallOkG w 6 99 [.ref l] [(l, listOf vs.toArray c), (59, pobj ps)] (fun v news' => v = .bool true ∧ ∃ ps', (59, pobj ps') ∈ news') := by
  refine hideRetG fun Ret hRet => ?_
  refine' callOkG_intro (k := 5) [(Str.ofString "rest", .ref l)] (fun y => if y = Str.ofString "rest" then some (.ref l) else none)
    ?ho ?hcd ?hbind ?hloc ?hm ?h ?c2 ?c3 ?c4 ?c5
  walk_at "my enter"
  intro mg mb bm ob dp un gd outer A₀ base g L' h₁ tk s₀ B F X N T M hG hdp hu
  have RM : Room dp un 5 := ⟨hdp, hu⟩
  clear hdp hu
  walk_at "my steps"
  refine CallOk.use (draw_ok hI (Nat.lt_trans hlen (by decide)) (List.forall_mem_cons.mpr ⟨hne, List.forall_mem_nil _⟩)) B F X T N rfl (RM.d' (by decide)) (RM.u' (by decide)) ?_
  rintro v nw h2 tk2 ⟨t2, vs2, c2, rfl, hI2, rfl⟩ F2 N2
  clear F N
  generalize ns.headD 0 = H
  have hlen2 : ns.tail.length < 40 := by rw [List.length_tail]; exact Nat.lt_of_le_of_lt (Nat.sub_le _ _) hlen
  generalize ns.tail = ns2 at hI2 hlen2
  clear hI hlen
  walk_at "my steps"
  refine CallOk.use parts_ok B (by k_asm) X T (by k_asm) rfl (RM.d' (by decide)) (RM.u' (by decide)) ?_
  rintro v nw h3 tk3 ⟨D, us, c3, rfl, hus, hlt3, rfl⟩ F3 N3
  try clear F2 N2
  walk_at "my steps"
  have hk0 : 0 ≤ H.fmod 8 := Int.fmod_nonneg_of_pos _ (by decide)
  have hk8 : H.fmod 8 < 8 := Int.fmod_lt_of_pos _ (by decide)
  refine KTb.item_list (ws := PARTS.map fun h => ⟨h.toArray⟩) (News.isList N3 (.head _)) hus hk0 hk8 (Int.lt_trans hk8 (by decide)) ?_
  intro t4 hz8
  clear hz8
  obtain ⟨h, hh, eh⟩ := parts_at (k := (H.fmod 8).toNat) (to_lt hk0 hk8)
  rw [eh]
  obtain ⟨hh, hl5⟩ := parts_good h hh
  clear hk0 hk8 eh hus
  obtain ⟨x, hx⟩ : ∃ x : Str, x = ⟨h.toArray⟩ := ⟨_, rfl⟩
  rw [← hx]
  have hxc : x.cps.toList = h := by rw [hx]
  have hxl : id (x.length = h.length) := by show x.length = h.length; rw [len_cps, hxc]
  have hx5 : x.length ≤ 5 := Nat.le_trans (Nat.le_of_eq hxl) hl5
  replace hl5 : id (h.length ≤ 5) := hl5
  clear hx
  walk_at "my steps"
  rename Fr _ _ _ _ => F4
  rename News _ _ _ _ => N4
  replace N4 : News g L' _ [(l, listOf vs2.toArray c2), (59, pobj ps)] := News.sub N4 (by kcf_all)
  clear hlt3 hne
  generalize hm4 : (fun y => if y = Str.ofString "front" then some (Value.str x t4) else if y = Str.ofString "head" then some (Value.int H t2) else if y = Str.ofString "rest" then some (.ref l) else none : Str → Option Value) = m4 at F4
  have hmf : m4 (Str.ofString "front") = some (.str x t4) := by rw [← hm4]; rfl
  have hmh : m4 (Str.ofString "head") = some (.int H t2) := by rw [← hm4]; rfl
  have hmr : m4 (Str.ofString "rest") = some (.ref l) := by rw [← hm4]; rfl
  clear hm4
  refine' lc_assignL (h₀ := g) (L := L') (m := m4) IntV (ns2.take 24) (fun (p : Addr × List Value) i ys nw => ∃ us : List Nat, IntsAre ys (toI us) ∧ us.length = i ∧ (∀ d ∈ us, d < 32) ∧ nw = [(p.1, listOf p.2.toArray 0), (l, listOf vs2.toArray c2), (59, pobj ps)]) (by rfl) (by with_unfolding_all rfl) (by with_unfolding_all rfl) (by decide) (by rfl) (by decide) (by rfl) (by intro _; rfl) (by rfl) (by rfl) ?src ?turn ?fin
  case src =>
    walk_at "my steps"
    refine' kmk_slice_ints (s := Shared.mk _ _ _ _ _) ?sF ?sN ?sl ?sp ?sq ?si ?sm ?sc ?_ ?ss ?st ?sz
    case sF => exact F4
    case sN => exact N4
    case sl => exact News.isList N4 (.head _)
    case sp => exact IsPart.none
    case sq => exact IsPart.int _ _
    case si => exact hI2
    case sm => exact kmk_upto hI2 (by decide)
    case sc => rfl
    case ss => with_unfolding_all rfl
    case st => intro _; with_unfolding_all rfl
    case sz => rw [List.size_toArray, sizeLine_eq, hI2.length]; exact Nat.le_trans (Nat.le_of_lt hlen2) (by decide)
    intro D2 ws2 h2 F5 N5 hlt4 hI4 _ _
    refine srcL_list (D2, ws2) (c := 0) rfl F5 N5 ⟨[], .nil, rfl, List.forall_mem_nil _, rfl⟩ ?_ (ofInts hI4) ?_
    · rintro i ys nw ⟨us, hys, hzs, h32, rfl⟩
      exact .head _
    · rw [hI4.length, List.length_take]
      exact Nat.le_trans (Nat.min_le_left _ _) (by decide)
  case turn =>
    rintro ⟨D2, ws⟩ i a v I oI C oC D ys nw m₂ h tk ha ⟨t, rfl⟩ ⟨us, hys, hzs, h32, rfl⟩ hx ⟨hns, F, N, off, ne⟩
    clear F4 N4
    walk_at "my steps"
    rename Fr _ _ _ _ => F5
    rename News _ _ _ _ => N5
    have hq0 : 0 ≤ a.fmod 32 := Int.fmod_nonneg_of_pos _ (by decide)
    have hq1 : a.fmod 32 < 32 := Int.fmod_lt_of_pos _ (by decide)
    refine KpL.at (nw := [(D2, listOf ws.toArray 0), (l, listOf vs2.toArray c2), (59, pobj ps)]) F5 N5 (by kcf_all) off ⟨us ++ [(a.fmod 32).toNat], ?_, by simp [hzs], ?_, rfl⟩
    · rw [toI_append]
      refine IntsAre.append hys ?_
      have e : toI [(a.fmod 32).toNat] = [a.fmod 32] := toI_one hq0
      rw [e]
      exact .cons _ _ .nil
    · intro d hd
      rcases List.mem_append.mp hd with hd | hd
      · exact h32 d hd
      · rw [List.mem_singleton.mp hd]; exact to_lt hq0 hq1
  case fin =>
    rintro ⟨D2, ws⟩ V ys nw h5 tk5 ⟨ds, hyv, hzs2, h32, rfl⟩ F5 N5 hD
    clear F4 N4
    rw [List.length_take] at hzs2
    have hV59 : @Ne Nat V 59 := fun e => hD _ (.tail _ (.tail _ (.head _))) e.symm
    replace N5 : News g L' _ [(V, listOf ys.toArray ys.length), (59, pobj ps)] := News.sub N5 (by kcf_all)
    clear hD hI2
    have hdl : ds.length ≤ 24 := Nat.le_trans (Nat.le_of_eq hzs2) (Nat.min_le_left _ _)
    clear hzs2 hlen2
    walk_at "my steps if"
    rename Fr _ _ _ _ => F6
    rename News _ _ _ _ => N6
    have hmf' : (if Str.ofString "front" = Str.ofString "groups" then some (Value.ref V) else m4 (Str.ofString "front")) = some (.str x t4) := by rw [if_neg (by decide)]; exact hmf
    have hmh' : (if Str.ofString "head" = Str.ofString "groups" then some (Value.ref V) else m4 (Str.ofString "head")) = some (.int H t2) := by rw [if_neg (by decide)]; exact hmh
    refine wpAny_mono (Q := Mid g L' s₀ fun fl m' nw => fl = .next ∧ ∃ V ys ds c, IntsAre ys (toI ds) ∧ (∀ d ∈ ds, d < 32) ∧ h.length + 1 + ds.length ≤ 85 ∧ V ≠ 59 ∧ m' (Str.ofString "front") = some (.str x t4) ∧ m' (Str.ofString "head") = some (.int H t2) ∧ m' (Str.ofString "groups") = some (.ref V) ∧ nw = [(59, pobj ps), (V, listOf ys.toArray c)]) ?iff ?rest (fun _ _ x => x)
    case iff =>
      --[A
      have hyl : ys.length = ds.length := by rw [hyv.length, toI_length]
      have hy24 : ys.length ≤ 24 := Nat.le_trans (Nat.le_of_eq hyl) hdl
      replace hyl : id (ys.length = ds.length) := hyl
      walk_at "my steps"
      · rename Fr _ _ _ _ => F7
        rename News _ _ _ _ => N7
        refine len_L N7 (.tail _ (.head _)) (Nat.le_trans hy24 (by decide)) ?_
        rw [show ys.length = ds.length from hyl]
        have hb0 : 0 ≤ (H.fdiv 32).fmod 2 := Int.fmod_nonneg_of_pos _ (by decide)
        have hb1 : (H.fdiv 32).fmod 2 < 2 := Int.fmod_lt_of_pos _ (by decide)
        walk_at "my steps"
        rename Fr _ _ _ _ => F8
        rename News _ _ _ _ => N8
        rename IntsAre _ (List.flatten _) => hi8
        rename _ ∧ _ ∧ _ => hl8
        obtain ⟨K, hK⟩ : ∃ K, K = (83 - (x.length : Int) - (ds.length : Nat) + (H.fdiv 32).fmod 2).toNat := ⟨_, rfl⟩
        rw [← hK] at hi8 N8
        generalize hzz : (List.replicate K [Value.int 0 _]).flatten = zz at hi8 N8
        have hz0 : (List.replicate K [(0 : Int)]).flatten = toI (List.replicate K 0) := by rw [List.flatten_replicate_singleton]; simp [toI]
        rw [hz0] at hi8
        have hzl : zz.length ≤ 84 := by rw [hi8.length, toI_length, List.length_replicate, hK]; exact k_le hb1
        replace hK : id (K = (83 - (x.length : Int) - (ds.length : Nat) + (H.fdiv 32).fmod 2).toNat) := hK
        refine add_L (vs := ys) (c := ys.length) (us := zz) (d := 0) F8 N8 (.tail _ (.tail _ (.head _))) (.head _) (Nat.le_trans (Nat.add_le_add hy24 hzl) (by decide)) ?_
        intro R h9 F9 N9 hltR
        clear F8 N8 F7 N7
        walk_at "my steps"
        rename Fr _ _ _ _ => F10
        rename News _ _ _ _ => N10
        refine Mid.at F10 N10 (by kcf_all) ⟨rfl, R, ys ++ zz, ds ++ List.replicate K 0, 0, by rw [toI_append]; exact IntsAre.append hyv hi8, ?_, ?_, ?_, ?_, ?_, rfl, rfl⟩
        · intro d hd
          rcases List.mem_append.mp hd with hd | hd
          · exact h32 d hd
          · rw [List.eq_of_mem_replicate hd]; decide
        · rw [List.length_append, List.length_replicate, show K = _ from hK]; exact k_sum hxl hl5 hdl hh.1 hb0 hb1
        · exact fun e => absurd (hltR _ (.tail _ (.tail _ (.tail _ (.head _))))) (by rw [e]; exact Nat.lt_irrefl _)
        · dsimp only; rw [if_neg (by decide)]; exact hmf'
        · dsimp only; rw [if_neg (by decide)]; exact hmh'
      · exact Mid.at F6 N6 (by kcf_all) ⟨rfl, V, ys, ds, _, hyv, h32, Nat.le_trans (Nat.add_le_add (Nat.succ_le_succ hl5) hdl) (by decide), hV59, hmf', hmh', rfl, rfl⟩
      --]A
    case rest =>
      rintro fl s' ⟨h6, tk6, m6, nw6, rfl, F7, N7, ⟨rfl, V6, ys6, ds6, c6, hI6, hd6, hl6, hV6, hm61, hm62, hm63, rfl⟩⟩
      clear F6 N6 hyv hmf' hmh' hmf hmh hmr h32 hdl hV59
      dsimp only
      have hI7 := ofNats hI6
      have hle6 : id (ys6.length = ds6.length) := by show ys6.length = ds6.length; rw [hI6.length, toI_length]
      replace hl6 : id (h.length + 1 + ds6.length ≤ 85) := hl6
      have hds85 : ds6.length ≤ 85 := d_le hl6
      have hys85 : ys6.length ≤ 85 := Nat.le_trans (Nat.le_of_eq hle6) hds85
      walk_at "my steps"
      rename Fr _ _ _ _ => F8
      rename News _ _ _ _ => N8
      obtain ⟨e, he, hee⟩ : ∃ e : Nat, (e = 1 ∨ e = 2) ∧ (1 + (H.fdiv 64).fmod 2) = (e : Int) := by
        have hb0 : 0 ≤ (H.fdiv 64).fmod 2 := Int.fmod_nonneg_of_pos _ (by decide)
        have hb1 : (H.fdiv 64).fmod 2 < 2 := Int.fmod_lt_of_pos _ (by decide)
        exact mark_of hb0 hb1
      rw [hee] at F8
      generalize hm8 : (fun y => if y = Str.ofString "mark" then _ else m6 y : Str → Option Value) = m8 at F8
      have hm80 : ∃ t, m8 (Str.ofString "mark") = some (.int (e : Nat) t) := by rw [← hm8]; exact ⟨_, rfl⟩
      obtain ⟨te, hm80⟩ := hm80
      replace hm61 : m8 (Str.ofString "front") = some (.str x t4) := by rw [← hm8]; exact hm61
      replace hm62 : m8 (Str.ofString "head") = some (.int H t2) := by rw [← hm8]; exact hm62
      replace hm63 : m8 (Str.ofString "groups") = some (.ref V6) := by rw [← hm8]; exact hm63
      clear hm8
      refine' lc_eval (h₀ := g) (L := L') (m := m8) (news := [(59, pobj ps), (V6, listOf ys6.toArray c6)]) (fun (d : Nat) v => IntV (d : Int) v) (fun (c : Nat) v => StrV (sg c) v) ds6 (fun d => chAt d) (by with_unfolding_all rfl) (by decide) (by rfl) (by decide) (by rfl) (by intro _; rfl) ?src ?turn ?fin
      case src =>
        walk_at "my steps"
        exact src_list rfl F8 N8 (.tail _ (.head _)) (vs := ys6) (c := c6) hI7 (Nat.le_trans hys85 (by decide))
      case turn =>
        rintro a v I oI C oC D ys m₂ h tk ha ⟨t, rfl⟩ hx ⟨hns, F, N, off, ne⟩
        have ha32 := hd6 a ha
        clear F8 N8
        have hk1 : (0 : Int) ≤ (a : Int) := Int.natCast_nonneg a
        have hk2 : (a : Int) < 32 := Int.ofNat_lt.mpr ha32
        have hcl := CH_len
        walk_at "my steps"
        · exact ⟨_, by rw [item_at a ha32]⟩
        · exact Kp.here (by assumption) (by assumption)
      case fin =>
        intro D ysS hh9 tk9 hys F9 N9 hne9
        have hst := strsOf hys
        walk_at "my steps"
        refine join_listW (ys := (ds6.map fun d => chAt d).map sg) (News.isList N9 (.head _)) (by simpa using hst) (by decide +kernel) (by rw [signs_weight, List.length_map]; exact Nat.le_trans (Nat.mul_le_mul_left 2 hds85) (by decide)) ?_
        intro t10 tk10
        clear F8 N8
        have hjl : (Txt.join (Str.ofString "") ((ds6.map fun d => chAt d).map sg)).length = ds6.length := by
          rw [len_cps, join_signs, List.length_map]
        have hjc := join_signs (ds6.map fun d => chAt d)
        generalize Txt.join (Str.ofString "") ((ds6.map fun d => chAt d).map sg) = jt at hjl hjc
        have hx1 : (x ++ Str.ofString "1").length ≤ 6 := by
          rw [len_cps, app_cps, List.length_append, hxc]
          exact Nat.succ_le_succ hl5
        have hj85 : jt.length ≤ 85 := Nat.le_trans (Nat.le_of_eq hjl) hds85
        clear hjl
        have hshc : ((x ++ Str.ofString "1") ++ jt).cps.toList = h ++ 49 :: ds6.map chAt := by
          rw [app_cps, app_cps, hjc, hxc, List.append_assoc]
          rfl
        have hshl : id (((x ++ Str.ofString "1") ++ jt).length = h.length + 1 + ds6.length) := by
          show ((x ++ Str.ofString "1") ++ jt).length = h.length + 1 + ds6.length
          rw [len_cps, hshc, List.length_append, List.length_cons, List.length_map, Nat.add_assoc, Nat.add_comm 1]
        have hsh85 : ((x ++ Str.ofString "1") ++ jt).length ≤ 85 := Nat.le_trans (Nat.le_of_eq hshl) hl6
        walk_at "my steps"
        generalize ((x ++ Str.ofString "1") ++ jt) = sh at *
        rename Fr _ _ _ _ => F11
        rename News _ _ _ _ => N11
        have hxs : id (x.cps.size ≤ 100) := by show x.cps.size ≤ 100; rw [← Array.length_toList, hxc]; exact Nat.le_trans hl5 (by decide)
        have hxb : ∀ c ∈ x.cps.toList, c < 128 := by
          rw [hxc]
          intro c hc
          exact Nat.lt_of_le_of_lt (hh.2 c hc).2.1 (by decide)
        replace N11 : News g L' _ [(59, pobj ps), (V6, listOf ys6.toArray c6)] := News.sub N11 (by kcf_all)
        refine CallOk.use (encode_ok (vs := ys6) (c := c6) (ds := ds6) he hxs hxb hI6 (Nat.le_trans hds85 (by decide)) hd6 (.tail _ (.head _))) B F11 X T N11 rfl (RM.d' (by decide)) (RM.u' (by decide)) ?_
        rintro v nw h12 tk12 ⟨y, ty, rfl, hyc, rfl⟩ F12 N12
        rw [hxc] at hyc
        replace hyc : y.cps.toList = tx e h ds6 := hyc
        clear F11 N11 hst hys hj85 hjc hx1
        walk_at "my sweep"
        clear hee hne9
        walk_at "my steps if"
        rename Fr _ _ _ _ => F13
        rename News _ _ _ _ => N13
        rename _ ∧ _ => hl13
        obtain ⟨Nn, hNn, hl13⟩ := named (P := fun Z => 59 < Z ∧ V6 < Z) hl13
        subst hNn
        have hN59 : id (Nn ≠ 59) := Nat.ne_of_gt hl13.1
        replace hV6 : id (V6 ≠ 59) := hV6
        clear hl13
        generalize hm13 : (fun y_1 => if y_1 = Str.ofString "none" then some (Value.ref Nn) else if y_1 = Str.ofString "text" then some (Value.str y ty) else if y_1 = Str.ofString "shown" then some (Value.str sh _) else m8 y_1 : Str → Option Value) = m13 at F13
        have hsh13 : ∃ t, m13 (Str.ofString "shown") = some (.str sh t) := by rw [← hm13]; exact ⟨_, rfl⟩
        obtain ⟨tsh, hsh13⟩ := hsh13
        have hS : Stat m13 x t4 H t2 V6 e te sh tsh y ty Nn := by
          refine ⟨?_, ?_, ?_, ?_, hsh13, ?_, ?_⟩
          · rw [← hm13]; exact hm61
          · rw [← hm13]; exact hm62
          · rw [← hm13]; exact hm63
          · rw [← hm13]; exact hm80
          · rw [← hm13]; rfl
          · rw [← hm13]; rfl
        clear hsh13
        obtain ⟨P, hP⟩ : ∃ P : Flow → (Str → Option Value) → List (Addr × Obj) → Prop, ∀ fl m' nw, P fl m' nw ↔ (fl = .next ∧ Stat m' x t4 H t2 V6 e te sh tsh y ty Nn ∧ ∃ ps, PsOk ps ∧ nw = [(59, pobj ps), (Nn, tupO #[.none, .none, .none]), (V6, listOf ys6.toArray c6)]) := ⟨_, fun _ _ _ => Iff.rfl⟩
        clear hm13 hm61 hm62 hm63 hm80
        replace N13 : News g L' _ [(59, pobj ps), (Nn, tupO #[.none, .none, .none]), (V6, listOf ys6.toArray c6)] := News.sub N13 (by kcf_all)
        have hyl : id (y.length = h.length + 7 + ds6.length) := by show y.length = h.length + 7 + ds6.length; rw [len_cps, hyc, tx_len]
        have h6y : 6 ≤ y.length := Nat.le_trans (y_six _ _) (Nat.le_of_eq (Eq.symm hyl))
        have hy91 : y.length ≤ 91 := Nat.le_trans (Nat.le_of_eq hyl) (y_ninety hl6)
        have hyb : ∀ c ∈ y.cps.toList, c < 128 := by
          rw [hyc]
          intro c hc
          exact Nat.lt_of_le_of_lt (tx_signs hh hd6 c hc).2.1 (by decide)
        have hcut : Txt.slice y none (some (-6)) = sh := by
          have e1 := slice_to_neg y 6 (by decide) (by rw [← len_cps]; exact h6y)
          rw [hyc, tx_front, ← hshc] at e1
          exact (str_of e1).trans (str_of rfl).symm
        refine MidG.cut (g := g) (L := L') (s₀ := s₀) (S := fun m => Stat m x t4 H t2 V6 e te sh tsh y ty Nn) (fun _ _ _ h => (hP _ _ _).mp h) ?if1 ?rest1
        case if1 =>
          --[B
          have hS0 := hS
          have q1 := hS.front
          have q2 := hS.head
          have q3 := hS.groups
          have q4 := hS.mark
          have q5 := hS.shown
          have q6 := hS.text
          have q7 := hS.none
          walk_at "my steps"
          · rename (_ != sh) = true => hq
            rw [hcut] at hq
            exact absurd hq (by simp)
          rename Fr _ _ _ _ => F15
          rename News _ _ _ _ => N15
          refine CallOkG.use (decode_ok hps (led2 hN59 hV6) (by rw [← Array.length_toList, ← len_cps]; exact Nat.le_trans hy91 (by decide)) hyb) B F15 X N15 T M hG rfl (RM.d' (by decide)) (RM.u' (by decide)) ?_
          rintro v nw16 s16 hv F16 N16 hG16 hos16
          rw [hyc, dec_tx he hh hd6] at hv
          clear F15 N15
          by_cases hlt : h.length + 1 + ds6.length < 85
          · rw [if_pos hlt] at hv
            obtain ⟨ps16, D16, Z16, t16, y16, ty16, us16, c16, hps16, rfl, hD16, hy16, hI16, rfl⟩ := hv.good
            have hl85 : (sh.length : Int) < 85 := Int.ofNat_lt.mpr (Nat.lt_of_le_of_lt (Nat.le_of_eq hshl) hlt)
            clear hv
            walk_at "my steps"
            rename Fr _ _ _ _ => F17
            rename News _ _ _ _ => N17
            refine good_ne N17 (.tail _ (.tail _ (.head _))) (.tail _ (.tail _ (.tail _ (.head _)))) hI16 (.head _) (.tail _ (.tail _ (.tail _ (.tail _ (.tail _ (.head _)))))) hI6 (hy16.trans hxc.symm) (by rw [hy16, ← hxc]; exact hxb) (by units_room) ?_
            walk_at "my steps"
            exact MidG.at F17 N17 hG16 hos16 (by kcf_all) ((hP _ _ _).mpr ⟨rfl, hS0, ps16, hps16, rfl⟩)
          · rw [if_neg hlt] at hv
            obtain ⟨ps16, D16, hps16, rfl, hD16, rfl⟩ := hv.nones
            have hl85 : ¬ (sh.length : Int) < 85 := fun q => hlt (Nat.lt_of_le_of_lt (Nat.le_of_eq (Eq.symm hshl)) (Int.ofNat_lt.mp q))
            clear hv
            walk_at "my steps"
            refine nones_ne N16 (.tail _ (.head _)) (.tail _ (.tail _ (.head _))) (by units_room) ?_
            walk_at "my steps"
            exact MidG.at F16 N16 hG16 hos16 (by kcf_all) ((hP _ _ _).mpr ⟨rfl, hS0, ps16, hps16, rfl⟩)
          --]B
        case rest1 =>
          intro s14 m14 ps14 F14 N14 hG14 hos14 hS14 hps14
          replace hS14 : Stat m14 x t4 H t2 V6 e te sh tsh y ty Nn := hS14
          clear F13 N13 hS hps
          walk_at "my sweep"
          dsimp only
          walk_at "my steps if"
          refine MidG.cut (g := g) (L := L') (s₀ := s₀) (S := fun m => Stat m x t4 H t2 V6 e te sh tsh y ty Nn) (fun _ _ _ h => (hP _ _ _).mp h) ?if2 ?rest2
          case if2 =>
            --[C
            have hS0 := hS14
            have q1 := hS14.front
            have q2 := hS14.head
            have q3 := hS14.groups
            have q4 := hS14.mark
            have q5 := hS14.shown
            have q6 := hS14.text
            have q7 := hS14.none
            walk_at "my steps"
            refine len_L N14 (.tail _ (.tail _ (.head _))) (Nat.le_trans hys85 (by decide)) ?_
            rw [show ys6.length = ds6.length from hle6]
            obtain ⟨e2, he2, hee2, h3⟩ := mark_other he
            have hap : (List.range 6).map (fun i => (sixOf e h ds6).getD i 0 ^^^ (sixOf e2 h ds6).getD i 0) = [21, 28, 16, 12, 5, 2] := apart_eq he h3
            clear h3
            walk_at "my steps"
            rotate_left
            · exact MidG.at F14 N14 hG14 hos14 (by kcf_all) ((hP _ _ _).mpr ⟨rfl, hS0, ps14, hps14, rfl⟩)
            rw [hee2]
            refine CallOk.use (encode_ok (vs := ys6) (c := c6) (ds := ds6) he2 hxs hxb hI6 (Nat.le_trans hds85 (by decide)) hd6 (.tail _ (.tail _ (.head _)))) B F14 X T N14 rfl (RM.d' (by decide)) (RM.u' (by decide)) ?_
            rintro v nw h17 tk17 ⟨y2, ty2, rfl, hy2c, rfl⟩ F17 N17
            rw [hxc] at hy2c
            replace hy2c : y2.cps.toList = tx e2 h ds6 := hy2c
            clear F14 N14
            have h6y2 : id (6 ≤ y2.cps.toList.length) := by show 6 ≤ y2.cps.toList.length; rw [hy2c, tx_len]; exact y_six _ _
            have hy291 : y2.length ≤ 91 := by rw [len_cps, hy2c, tx_len]; exact y_ninety hl6
            have hy2b : ∀ c ∈ y2.cps.toList, c < 128 := by
              rw [hy2c]
              intro c hc
              exact Nat.lt_of_le_of_lt (tx_signs hh hd6 c hc).2.1 (by decide)
            have hcut2 : Txt.slice y2 none (some (-6)) = sh := by
              have e1 := slice_to_neg y2 6 (by decide) h6y2
              rw [hy2c, tx_front, ← hshc] at e1
              exact (str_of e1).trans (str_of rfl).symm
            have hb1 : (Txt.slice y (some (-6)) none).cps.toList = (sixOf e h ds6).map chAt := by
              have e1 := slice_from_neg y 6 (by decide) (by rw [← len_cps]; exact h6y)
              rw [hyc, tx_back] at e1
              exact e1
            have hb2 : (Txt.slice y2 (some (-6)) none).cps.toList = (sixOf e2 h ds6).map chAt := by
              have e1 := slice_from_neg y2 6 (by decide) h6y2
              rw [hy2c, tx_back] at e1
              exact e1
            have hB1 : ∀ d ∈ sixOf e h ds6, d < 32 := fun d hd => six_lt _ d hd
            have hB2 : ∀ d ∈ sixOf e2 h ds6, d < 32 := fun d hd => six_lt _ d hd
            walk_at "my steps"
            rename Fr _ _ _ _ => F18
            rename News _ _ _ _ => N18
            generalize hm18 : (fun y => if y = Str.ofString "twin" then some (Value.str y2 ty2) else m14 y : Str → Option Value) = m18 at F18
            have hm18t : m18 (Str.ofString "twin") = some (.str y2 ty2) := by rw [← hm18]; rfl
            have hS18 : Stat m18 x t4 H t2 V6 e te sh tsh y ty Nn := by
              rw [← hm18]
              exact ⟨hS0.front, hS0.head, hS0.groups, hS0.mark, hS0.shown, hS0.text, hS0.none⟩
            have hS19 := hS18
            have q1 := hS18.front
            have q2 := hS18.head
            have q3 := hS18.groups
            have q4 := hS18.mark
            have q5 := hS18.shown
            have q6 := hS18.text
            have q7 := hS18.none
            refine' lcz_assign (h₀ := g) (L := L') (m := m18) (news := [(59, pobj ps14), (Nn, tupO #[.none, .none, .none]), (V6, listOf ys6.toArray c6)]) (fun (d : Nat) v => IntV (d : Int) v) 6 (fun i => (sixOf e h ds6).getD i 0 ^^^ (sixOf e2 h ds6).getD i 0)
              (fun i v₁ v₂ => ∃ d1 d2 t u, (sixOf e h ds6)[i]? = some d1 ∧ (sixOf e2 h ds6)[i]? = some d2 ∧ v₁ = .str (sg (chAt d1)) t ∧ v₂ = .str (sg (chAt d2)) u) rfl (by rfl) (by with_unfolding_all rfl) (by with_unfolding_all rfl) (by decide) (by rfl) (by decide) (by rfl) (by rfl) (by decide) (by intro _; rfl) (by rfl) (by rfl) (by decide) ?src ?turn ?fin
            case src =>
              walk_at "my steps"
              rename Fr _ _ _ _ => F21
              rename News _ _ _ _ => N21
              generalize Txt.slice y (some (-6)) none = za at *
              generalize Txt.slice y2 (some (-6)) none = zb at *
              have hA := six_text hB1 hb1
              have hB := six_text hB2 hb2
              have h6 : za.cps.size = 6 := by rw [← Array.length_toList, hb1, List.length_map]; rfl
              have h62 : zb.cps.size = 6 := by rw [← Array.length_toList, hb2, List.length_map]; rfl
              refine src_zipS rfl F21 N21 hA.1 hB.1 h6 h62 ?_
              intro i c d t' u' hc hd
              obtain ⟨d1, hd1, rfl⟩ := hA.2 i c hc
              obtain ⟨d2, hd2, rfl⟩ := hB.2 i d hd
              exact ⟨d1, d2, t', u', hd1, hd2, rfl, rfl⟩
            case turn =>
              rintro i v₁ v₂ C m₂ u hi ⟨d1, d2, t1, t2, hd1, hd2, rfl, rfl⟩ hx1 hx2 FL FC
              clear F18 N18
              have e1 := letter_at (hB1 d1 (List.mem_of_getElem? hd1))
              have e2 := letter_at (hB2 d2 (List.mem_of_getElem? hd2))
              walk_at "my steps"
              · refine ⟨u.toks + 1 + 1, ?_⟩
                rw [e1, e2, List.getD_eq_getElem?_getD, List.getD_eq_getElem?_getD, hd1, hd2]
                exact congrArg (fun z => Value.int z _) (iXor d1 d2)
              · exact ⟨_, _, rfl, fun _ _ e => e⟩
            case fin =>
              intro D ys hh9 tk9 hys F19 N19 hne19
              clear F18 N18
              rw [hap] at hys
              have hyi := natsOf hys
              walk_at "my steps"
              · rename (_ != sh) = true => hq
                rw [hcut2] at hq
                exact absurd hq (by simp)
              rename Fr _ _ _ _ => F22
              rename News _ _ _ _ => N22
              refine ke_ne_ints (News.isList N22 (.tail _ (.head _))) (News.isList N22 (.head _)) hyi (.cons _ _ (.cons _ _ (.cons _ _ (.cons _ _ (.cons _ _ (.cons _ _ .nil)))))) (by units_room) ?_
              rw [show decide (toI [21, 28, 16, 12, 5, 2] = [21, 28, 16, 12, 5, 2]) = true from by decide, Bool.not_true]
              replace N22 : News g L' _ [(59, pobj ps14), (Nn, tupO #[.none, .none, .none]), (V6, listOf ys6.toArray c6)] := News.sub N22 (by kcf_all)
              have hup : Txt.upper y2 = ⟨y2.cps.map up1⟩ := upper_ascii hy2b
              have huc : (Txt.upper y2).cps.toList = (tx e2 h ds6).map up1 := by rw [hup, Array.toList_map, hy2c]
              have hub : ∀ c ∈ (Txt.upper y2).cps.toList, c < 128 := by
                rw [huc]
                intro c hc
                obtain ⟨c', hc', rfl⟩ := List.mem_map.mp hc
                have h1 := tx_signs hh hd6 c' hc'
                exact Nat.lt_of_le_of_lt (up_good c' (Nat.lt_of_le_of_lt h1.2.1 (by decide)) h1.1 h1.2.2).2.1 (by decide)
              have hul : (Txt.upper y2).cps.size ≤ 130 := by rw [← Array.length_toList, huc, List.length_map, tx_len]; exact Nat.le_trans (y_ninety hl6) (by decide)
              walk_at "my steps"
              generalize Txt.upper y2 = yu at *
              refine CallOkG.use (decode_ok hps14 (led2 hN59 hV6) hul hub) B F22 X N22 T M hG14 rfl (RM.d' (by decide)) (RM.u' (by decide)) ?_
              rintro v nw23 s23 hv F23 N23 hG23 hos23
              rw [huc, dec_up he2 hh hd6, if_pos (d_lt hl5 (by assumption))] at hv
              clear F22 N22
              obtain ⟨ps23, D23, Z23, t23, y23, ty23, us23, c23, hps23, rfl, hD23, hy23, hI23, rfl⟩ := hv.good
              clear hv
              walk_at "my steps"
              rename Fr _ _ _ _ => F24
              rename News _ _ _ _ => N24
              rw [hee2] at N24
              refine good_ne N24 (.tail _ (.tail _ (.head _))) (.tail _ (.tail _ (.tail _ (.head _)))) hI23 (.head _) (.tail _ (.tail _ (.tail _ (.tail _ (.tail _ (.head _)))))) hI6 (hy23.trans hxc.symm) (by rw [hy23, ← hxc]; exact hxb) (by units_room) ?_
              walk_at "my steps"
              exact MidG.at F24 N24 hG23 (hos23.trans hos14) (by kcf_all) ((hP _ _ _).mpr ⟨rfl, ⟨hS19.front, hS19.head, hS19.groups, hS19.mark, hS19.shown, hS19.text, hS19.none⟩, ps23, hps23, rfl⟩)
            --]C
          case rest2 =>
            intro s20 m20 ps20 F20 N20 hG20 hos20 hS20 hps20
            replace hS20 : Stat m20 x t4 H t2 V6 e te sh tsh y ty Nn := hS20
            clear F14 N14 hG14 hos14 hS14 hps14
            walk_at "my sweep"
            dsimp only
            have hS21 := hS20
            have q1 := hS20.front
            have q2 := hS20.head
            have q3 := hS20.groups
            have q4 := hS20.mark
            have q5 := hS20.shown
            have q6 := hS20.text
            have q7 := hS20.none
            have hy0 : (0 : Int) < (y.length : Int) := Int.ofNat_lt.mpr (Nat.lt_of_lt_of_le (by decide) h6y)
            have hp1 : (H.fdiv 128).fmod (y.length : Int) < (y.length : Int) := Int.fmod_lt_of_pos _ hy0
            obtain ⟨p, hp⟩ : ∃ p : Nat, (H.fdiv 128).fmod (y.length : Int) = (p : Int) := Int.eq_ofNat_of_zero_le (Int.fmod_nonneg_of_pos _ hy0)
            rw [hp] at hp1
            have hpl : id (p < y.length) := Int.ofNat_lt.mp hp1
            obtain ⟨c, hc⟩ : ∃ c, y.cps.toList[p]? = some c := ⟨_, List.getElem?_eq_getElem (by rw [← len_cps]; exact hpl)⟩
            have hcb := hyb c (List.mem_of_getElem? hc)
            have hit : Txt.item y (p : Int) = sg c := item_of hc
            have hus : Txt.upper (sg c) = sg (up1 c) := upper_sg hcb
            have hs1 := slice_to y p (by rw [← len_cps]; exact Nat.le_of_lt hpl)
            have hs2 : (Txt.slice y (some ((p : Int) + 1)) none).cps.toList = y.cps.toList.drop (p + 1) := slice_from y (p + 1) (by rw [← len_cps]; exact hpl)
            walk_at "my steps"
            rename Fr _ _ _ _ => F21
            rename News _ _ _ _ => N21
            rw [hp, hit, hus] at F21
            have hmc : (Txt.slice y none (some (p : Int)) ++ sg (up1 c) ++ Txt.slice y (some ((p : Int) + 1)) none).cps.toList = y.cps.toList.take p ++ up1 c :: y.cps.toList.drop (p + 1) := by
              rw [app_cps, app_cps, hs1, hs2, List.append_assoc]
              rfl
            generalize Txt.slice y none (some (p : Int)) ++ sg (up1 c) ++ Txt.slice y (some ((p : Int) + 1)) none = mx at hmc F21
            generalize hm21 : (fun y_1 => if y_1 = Str.ofString "mixed" then some (Value.str mx _) else if y_1 = Str.ofString "place" then some (Value.int _ _) else m20 y_1 : Str → Option Value) = m21 at F21
            have hmx : ∃ t, m21 (Str.ofString "mixed") = some (.str mx t) := by rw [← hm21]; exact ⟨_, rfl⟩
            replace hS21 : Stat m21 x t4 H t2 V6 e te sh tsh y ty Nn := by
              rw [← hm21]
              exact ⟨hS21.front, hS21.head, hS21.groups, hS21.mark, hS21.shown, hS21.text, hS21.none⟩
            walk_at "my sweep"
            clear hm21 hp hit hus hs1 hs2 hp1 hy0
            obtain ⟨tmx, hmx⟩ := hmx
            have hmxb : ∀ c ∈ mx.cps.toList, c < 128 := by
              rw [hmc]
              intro c' hc'
              rcases List.mem_append.mp hc' with h1 | h1
              · exact hyb c' (List.mem_of_mem_take h1)
              · rcases List.mem_cons.mp h1 with rfl | h1
                · exact Nat.lt_of_le_of_lt (up1_le c) hcb
                · exact hyb c' (List.mem_of_mem_drop h1)
            have hmxl : mx.length ≤ 91 := by
              rw [len_cps, hmc, List.length_append, List.length_cons, List.length_take, List.length_drop]
              rw [← len_cps, cut_len hpl]
              exact hy91
            have q1 := hS21.front
            have q2 := hS21.head
            have q3 := hS21.groups
            have q4 := hS21.mark
            have q5 := hS21.shown
            have q6 := hS21.text
            have q7 := hS21.none
            refine' lc_assignT (h₀ := g) (L := L') (m := m21) (news := [(59, pobj ps20), (Nn, tupO #[.none, .none, .none]), (V6, listOf ys6.toArray c6)]) (fun (c : Nat) v => StrV ⟨#[c]⟩ v) (fun (c : Nat) v => StrV ⟨#[c]⟩ v) mx.cps.toList (fun c => decide (97 ≤ c) && decide (c ≤ 122)) (fun c => c) (by rfl) (by with_unfolding_all rfl) (by with_unfolding_all rfl) (by decide) (by rfl) (by decide) (by rfl) (by intro _; rfl) (by rfl) (by rfl) ?src ?test ?turn ?fin
            case src =>
              walk_at "my steps"
              exact src_str rfl F21 N21 (by rw [← Array.length_toList, ← len_cps]; exact Nat.le_trans hmxl (by decide))
            case test =>
              rintro a v I oI C oC D ys m₂ h tk ha ⟨t, rfl⟩ hx ⟨hns, F, N, off, ne⟩
              clear F21 N21
              walk_at "my steps"
              · rename [a] < _ => ha1
                have := (lt_a a).mp ha1
                rw [decide_eq_false (Nat.not_le_of_lt this), Bool.false_and]
              · exact Kp.here (by assumption) (by assumption)
              · rename ¬ [a] < _ => ha1
                have : ¬ a < 97 := fun q => ha1 ((lt_a a).mpr q)
                rw [decide_eq_true (Nat.le_of_not_lt this), Bool.true_and]
                by_cases h2 : 122 < a
                · rw [decide_eq_true ((lt_z a).mpr h2), decide_eq_false (Nat.not_le_of_lt h2)]; rfl
                · rw [decide_eq_false (fun q => h2 ((lt_z a).mp q)), decide_eq_true (Nat.le_of_not_lt h2)]; rfl
              · exact Kp.here (by assumption) (by assumption)
            case turn =>
              rintro a v I oI C oC D ys m₂ h tk ha hpa ⟨t, rfl⟩ hx ⟨hns, F, N, off, ne⟩
              clear F21 N21
              walk_at "my steps"
              · exact ⟨_, rfl⟩
              · exact Kp.here (by assumption) (by assumption)
            case fin =>
              intro D ysm hh22 tk22 hys F22 N22 hne22
              clear F21 N21
              walk_at "my steps if"
              rename Fr _ _ _ _ => F23
              rename News _ _ _ _ => N23
              generalize hm23 : (fun z => if z = Str.ofString "small" then some (Value.ref D) else m21 z : Str → Option Value) = m23 at F23
              have hsm : m23 (Str.ofString "small") = some (.ref D) := by rw [← hm23]; rfl
              replace hmx : m23 (Str.ofString "mixed") = some (.str mx tmx) := by rw [← hm23]; exact hmx
              replace hS21 : Stat m23 x t4 H t2 V6 e te sh tsh y ty Nn := by
                rw [← hm23]
                exact ⟨hS21.front, hS21.head, hS21.groups, hS21.mark, hS21.shown, hS21.text, hS21.none⟩
              clear hm23 q1 q2 q3 q4 q5 q6 q7
              have q1 := hS21.front
              have q2 := hS21.head
              have q3 := hS21.groups
              have q4 := hS21.mark
              have q5 := hS21.shown
              have q6 := hS21.text
              have q7 := hS21.none
              have hd59 : @Ne Nat D 59 := fun e => hne22 _ (.head _) e.symm
              refine MidG.cut (g := g) (L := L') (s₀ := s₀) (S := fun m => Stat m x t4 H t2 V6 e te sh tsh y ty Nn) (fun _ _ _ h => (hP _ _ _).mp h) ?if3 ?rest3
              case if3 =>
                --[D
                walk_at "my steps"
                · rename Fr _ _ _ _ => F24
                  rename News _ _ _ _ => N24
                  rename (mx != y) = true => hmy
                  refine ne_nil (News.isList N24 (.tail _ (.head _))) (News.isList N24 (.head _)) rfl (by units_room) ?_
                  by_cases hy0 : ysm = []
                  · rw [decide_eq_false (fun q => q hy0)]
                    walk_at "my steps"
                    exact MidG.at F24 N24 hG20 hos20 (by kcf_all) ((hP _ _ _).mpr ⟨rfl, hS21, ps20, hps20, rfl⟩)
                  · rw [decide_eq_true hy0]
                    walk_at "my steps"
                    have hup : up1 c ≠ c := fun e => by
                      have e2 : mx.cps.toList = y.cps.toList := by rw [hmc, e]; exact (split_at hc).symm
                      rw [(str_of e2).trans (str_of rfl).symm] at hmy
                      exact absurd hmy (by simp)
                    obtain ⟨s', hs', h97⟩ : ∃ s', s' ∈ mx.cps.toList ∧ 97 ≤ s' ∧ s' ≤ 122 := by
                      cases hfl : (mx.cps.toList.filter fun c => decide (97 ≤ c) && decide (c ≤ 122)) with
                      | nil =>
                        rw [hfl] at hys
                        cases hys
                        exact absurd rfl hy0
                      | cons s' r =>
                        have hm := List.mem_filter.mp (hfl ▸ List.mem_cons_self : s' ∈ mx.cps.toList.filter fun c => decide (97 ≤ c) && decide (c ≤ 122))
                        have h2 := hm.2
                        rw [Bool.and_eq_true, decide_eq_true_iff, decide_eq_true_iff] at h2
                        exact ⟨s', hm.1, h2⟩
                    have hdn : dec mx.cps.toList = none := dec_mixed (i := 0) hyb (List.mem_of_getElem? hc) hup mx.cps.toList (by rw [hmc]; simp) hs' h97
                    replace N24 : News g L' _ [(59, pobj ps20), (Nn, tupO #[.none, .none, .none]), (V6, listOf ys6.toArray c6)] := News.sub N24 (by kcf_all)
                    refine CallOkG.use (decode_ok hps20 (led2 hN59 hV6) (by rw [← Array.length_toList, ← len_cps]; exact Nat.le_trans hmxl (by decide)) hmxb) B F24 X N24 T M hG20 rfl (RM.d' (by decide)) (RM.u' (by decide)) ?_
                    rintro v nw25 s25 hv F25 N25 hG25 hos25
                    rw [hdn] at hv
                    clear F24 N24
                    obtain ⟨ps25, D25, hps25, rfl, hD25, rfl⟩ := hv.nones
                    clear hv
                    walk_at "my steps"
                    refine nones_ne N25 (.tail _ (.head _)) (.tail _ (.tail _ (.head _))) (by units_room) ?_
                    walk_at "my steps"
                    exact MidG.at F25 N25 hG25 (hos25.trans hos20) (by kcf_all) ((hP _ _ _).mpr ⟨rfl, hS21, ps25, hps25, rfl⟩)
                · exact MidG.at F23 N23 hG20 hos20 (by kcf_all) ((hP _ _ _).mpr ⟨rfl, hS21, ps20, hps20, rfl⟩)
                --]D
              case rest3 =>
                intro s30 m30 ps30 F30 N30 hG30 hos30 hS30 hps30
                replace hS30 : Stat m30 x t4 H t2 V6 e te sh tsh y ty Nn := hS30
                clear F23 N23 hys hd59 hsm hmx hmc hmxb hmxl hS21
                dsimp only
                walk_at "my sweep"
                clear hcb q1 q2 q3 q4 q5 q6 q7
                have q1 := hS30.front
                have q2 := hS30.head
                have q3 := hS30.groups
                have q4 := hS30.mark
                have q5 := hS30.shown
                have q6 := hS30.text
                have q7 := hS30.none
                have hyx : 0 < (y.length : Int) - (x.length : Int) - 1 := y_over hxl hyl
                have hk1 : (H.fdiv 128).fmod ((y.length : Int) - (x.length : Int) - 1) < (y.length : Int) - (x.length : Int) - 1 := Int.fmod_lt_of_pos _ hyx
                have hb0 : 0 ≤ H.fmod 3 := Int.fmod_nonneg_of_pos _ (by decide)
                have hb1 : H.fmod 3 < 3 := Int.fmod_lt_of_pos _ (by decide)
                obtain ⟨k, hk⟩ : ∃ k : Nat, (H.fdiv 128).fmod ((y.length : Int) - (x.length : Int) - 1) = (k : Int) := Int.eq_ofNat_of_zero_le (Int.fmod_nonneg_of_pos _ hyx)
                rw [hk] at hk1
                have hkl : id (x.length + 1 + k < y.length) := k_in hk1
                replace hk1 : id ((k : Int) < (y.length : Int) - (x.length : Int) - 1) := hk1
                obtain ⟨b, hb, hbit⟩ := bio_at hb0 hb1
                have hz1 : (Txt.slice y none (some ((x.length : Int) + 1 + (k : Int)))).cps.toList = y.cps.toList.take (x.length + 1 + k) := slice_to y (x.length + 1 + k) (by rw [← len_cps]; exact Nat.le_of_lt hkl)
                have hz2 : (Txt.slice y (some ((x.length : Int) + 1 + (k : Int) + 1)) none).cps.toList = y.cps.toList.drop (x.length + 1 + k + 1) := slice_from y (x.length + 1 + k + 1) (by rw [← len_cps]; exact hkl)
                have hzc : (Txt.slice y none (some ((x.length : Int) + 1 + (k : Int))) ++ sg b ++ Txt.slice y (some ((x.length : Int) + 1 + (k : Int) + 1)) none).cps.toList = y.cps.toList.take (x.length + 1 + k) ++ b :: y.cps.toList.drop (x.length + 1 + k + 1) := by
                  rw [app_cps, app_cps, hz1, hz2, List.append_assoc]
                  rfl
                walk_at "my steps"
                rename Fr _ _ _ _ => F31
                rename News _ _ _ _ => N31
                rw [hk, hbit]
                walk_at "my sweep"
                clear hk hbit hb0 hb1
                generalize Txt.slice y none (some ((x.length : Int) + 1 + (k : Int))) ++ sg b ++ Txt.slice y (some ((x.length : Int) + 1 + (k : Int) + 1)) none = zt at hzc ⊢
                have hzb : ∀ c ∈ zt.cps.toList, c < 128 := by
                  rw [hzc]
                  intro c' hc'
                  rcases List.mem_append.mp hc' with h1 | h1
                  · exact hyb c' (List.mem_of_mem_take h1)
                  · rcases List.mem_cons.mp h1 with rfl | h1
                    · exact bio_lt hb
                    · exact hyb c' (List.mem_of_mem_drop h1)
                have hzl : zt.cps.size ≤ 130 := by
                  rw [← Array.length_toList, hzc, List.length_append, List.length_cons, List.length_take, List.length_drop, ← len_cps, cut_len hkl]
                  exact Nat.le_trans hy91 (by decide)
                have hdn : dec zt.cps.toList = none := by
                  rw [hzc, hyc, show x.length = h.length from hxl]
                  exact dec_bio hh hd6 (k_ds hxl hyl hkl) hb
                refine CallOkG.use (decode_ok hps30 (led2 hN59 hV6) hzl hzb) B F31 X N31 T M hG30 rfl (RM.d' (by decide)) (RM.u' (by decide)) ?_
                rintro v nw32 s32 hv F32 N32 hG32 hos32
                rw [hdn] at hv
                obtain ⟨ps32, D32, hps32, rfl, hD32, rfl⟩ := hv.nones
                clear hv F31 N31
                walk_at "my steps"
                refine nones_eq N32 (.tail _ (.head _)) (.tail _ (.tail _ (.head _))) (by units_room) ?_
                walk_at "my steps"
                exact BkG.ret F32 N32 hG32 (hos32.trans hos30) (hRet _ _ ⟨rfl, ps32, .head _⟩)
end
/-- the end of a law whose callees' code tables grow: the tables laid aside, the result True -/
theorem my_post {M : Model} {A : Around} {cd : Code} {s s₁ : Shared} {cw : ClaimW} {cl : Str → Option Addr} {mean : ExcName → Option Value} {args : List WData} {tabs : List (Addr × Addr)} (hT : TabsAt tabs s₁.heap) (hr : ∀ a x, cw.raises a x = false) (hp : cw.post args (.bool true) args = true)
    (h : codeAny M A cd (fun r s' => r = .ok (.ret (.bool true)) ∧ (∀ b o, (ghostOf s₁.heap tabs).get? b = some o → s'.heap.get? b = some o) ∧ s'.os = s₁.os ∧ AllBare s'.gens ∧ GrownAll tabs s'.heap) s) : codeAny M A cd (GoodWG cw cl mean args s₁) s :=
  codeAny_mono h fun r s' ⟨hr1, hk, hos, hg, hgr⟩ => by
    refine ⟨.inl ⟨.bool true, .bool true, [], hr1, fun c => hr _ _, .bool true, hp, fun _ => ⟨List.nodup_nil, fun a ha => nomatch ha⟩⟩, ⟨fun b o e => ?_, fun b o e => ?_⟩, hos, hg⟩
    · by_cases hb : b ∈ tabs.map (·.2)
      · obtain ⟨q, hq, rfl⟩ := List.mem_map.mp hb
        have e2 := (hT q hq).2
        rw [e] at e2
        obtain rfl := Option.some.inj e2
        obtain ⟨ps, hP⟩ := hgr.get q hq
        exact .inr (.inl ⟨((hT q hq).1.tab (hT q hq).2).isCodeTable, rfl, #[], ps, rfl, by rw [Array.empty_append]; exact hP⟩)
      · exact .inl (hk b o (ghost_ne e hb))
    · by_cases hb : b ∈ tabs.map (·.2)
      · obtain ⟨q, hq, rfl⟩ := List.mem_map.mp hb
        obtain ⟨ps, hP⟩ := hgr.get q hq
        exact ⟨_, hP⟩
      · exact ⟨o, hk b o (ghost_ne e hb)⟩
theorem ghost_read {h₁ : Heap} {tabs : List (Addr × Addr)} {p : Program} {loose : List Str} {mean : ExcName → Option Value} {mg mb : Str → Option Value} (hT : TabsAt tabs h₁) (T : Top p loose mean mg mb h₁) : TopRead p loose mg mb (ghostOf h₁ tabs) :=
  ⟨ghost_ns hT T.g, ghost_ns hT T.b, (ghost_top hT T).nolimit, T.builtins, T.free⟩
theorem law_holds : PySem.Challenge.rw_an0006_01.Holds := by
  refine Mine.hd ?_
  k_fill
  intro w s₀ s₁ mg mb G Y fa o pm cd doc dV kV ho hd hcd hD hmg hg args vals as hpre hlay hrd hwl hlo
  have KX := kIn_of Y
  have X := (Ground.X G).1
  have V := (Ground.X G).2
  refine Ground.open G ?_
  intro T B D TE TW
  try (refine guard_noD D (by decide +kernel) ?_; clear D)
  have hT9 : TabsAt [(61, 59)] s₁.heap := List.forall_mem_cons.mpr ⟨tab_of (x := Str.ofString "bech32_decode") (c := 61) (P := 59) T KX rfl (by kernel_rfl), fun _ h => nomatch h⟩
  clear hmg
  wrow_args hpre hlay hrd hwl hlo
  first | refine callC_kw (enter_call ?_) | refine enter_call ?_
  w_top on
  refine my_post hT9 (fun _ _ => rfl) (by first | rfl | decide | kernel_rfl) ?_
  w_call any ho hd hcd hD T F
  clear hd hD ho hcd
  obtain ⟨bm, ob, M0⟩ := bmod_of_top (ghost_top hT9 T)
  have X' := ghost_K hT9 KX (by kernel_rfl)
  have T' := ghost_read hT9 T
  have K' : Below callerA (ghostOf s₁.heap [(61, 59)]) [] (ghostOf s₁.heap [(61, 59)]) := below_caller _
  rename News _ _ _ _ => N0
  have N' : News (ghostOf s₁.heap [(61, 59)]) s₁.heap.objs.size _ [(59, pobj #[])] := ghost_news hT9 F N0
  have F' := ghost_fr hT9 F
  rename Heap.IsList _ _ _ => hLs
  have hLg := ghost_list hT9 hLs
  rename IntsAre _ _ => hI
  rename ¬ (_ : Int) < _ => hlen
  rename ReadsAllW _ _ _ _ _ _ => hr
  rename Reads _ _ _ _ => r0
  rename Well _ _ _ _ => w1
  rename ReadsAll _ _ _ _ => ra
  have hbase : (hd.heap_39 w.params).In s₁.heap ∧ TopRead hd.view_39 (looseW hd.view_39 [Str.ofString "Encoding", Str.ofString "convertbits"]) mg mb s₁.heap := ⟨KX, topRead_of T⟩
  clear N0 F KX T TE TW B X V Y G hLs
  generalize hgh : ghostOf s₁.heap [(61, 59)] = h₀ at *
  dsimp only at F' N' ⊢
  clear r0 w1 ra hr
  have F2 := Fr.congr (m' := fun y => if y = Str.ofString "script" then some (Value.ref _) else none) F' (fun y => (lookup_bmap y _).trans rfl)
  clear F'
  show wpAny _ (ktrTop _ _ _ _ _ _ _ _ [] []) _ _ _ _
  walk_at "my steps"
  refine' kmk_slice_ints (s := Shared.mk _ _ _ _ _) ?sF ?sN ?sl ?sp ?sq ?si ?sm ?sc ?_ ?ss ?st ?sz
  case sF => exact F2
  case sN => exact N'
  case sl => exact hLg.at fun o e => F2.keep _ o e
  case sp => exact IsPart.none
  case sq => exact IsPart.int _ _
  case si => exact hI
  case sm => exact kmk_upto hI (by decide)
  case sc => rfl
  case ss => with_unfolding_all rfl
  case st => intro _; with_unfolding_all rfl
  case sz => rw [List.size_toArray, sizeLine_eq]; have := hI.length; omega
  intro D2 ws2 h2 F3 N3 hlt4 hI4 hlc _
  obtain ⟨ns2, hn2, hI4⟩ : ∃ ns2 : List Int, ns2.length ≤ 30 ∧ IntsAre ws2 ns2 := ⟨_, by rw [List.length_take]; exact Nat.min_le_left _ _, hI4⟩
  clear F2 N' hlc
  walk_at "my steps"
  rename Fr _ _ _ _ => F4
  rename News _ _ _ _ => N4
  rename _ < _ ∧ 59 < _ => hl4
  obtain ⟨l, hl, hl4⟩ := named (P := fun Z => D2 < Z ∧ 59 < Z) hl4
  subst hl
  replace N4 : News h₀ _ _ [(l, listOf ws2.toArray _), (59, pobj #[])] := News.sub N4 (by kcf_all)
  have hl59 : @Ne Nat 59 l := Nat.ne_of_lt hl4.2
  refine CallOk.use (draw_ok hI4 (by omega) (List.forall_mem_cons.mpr ⟨hl59, List.forall_mem_nil _⟩)) K' F4 X' T' N4 rfl (by decide) (by decide) ?_
  rintro v nw h5 tk5 ⟨t5, vs5, c5, rfl, hI5, rfl⟩ F5 N5
  have hlen5 : ns2.tail.length < 40 := by rw [List.length_tail]; omega
  clear F4 N4
  walk_at "my steps"
  · refine CallOkG.use (text_ok (c := c5) (ps := #[]) ⟨trivial, refs_nil⟩ hI5 hlen5 hl59) K' F5 X' N5 T' M0 (.of_eq hg) rfl (by decide) (by decide) ?_
    rintro v nw s6 ⟨rfl, ps6, hp6⟩ F6 N6 hG6 hos6
    exact ⟨rfl, F6.keep, hos6, hG6, ⟨⟨ps6, (N6 _ hp6).1⟩, trivial⟩⟩
  · have keep : ∀ b o, s₁.heap.get? b = some o → h5.get? b = some o := fun b o e => by
      by_cases hb : b = 59
      · subst hb
        have e2 := (hT9 _ (.head _)).2
        rw [e] at e2
        obtain rfl := Option.some.inj e2
        exact (N5 (59, pobj #[]) (.tail _ (.head _))).1
      · refine F5.keep b o ?_
        rw [← hgh]
        exact ghost_ne e (by simpa using hb)
    have F6 := (⟨F5.ns, keep, by rw [← hgh] at F5; exact Nat.le_trans (Nat.le_of_eq (hideAll_size _ _).symm) F5.above⟩ : Fr s₁.heap _ h5 _)
    have N6 : News s₁.heap s₁.heap.objs.size h5 [(l, listOf vs5.toArray c5)] := fun p hp => by
      rw [List.mem_singleton.mp hp]
      have z := N5 (l, listOf vs5.toArray c5) (.head _)
      refine ⟨z.1, z.2.1, ?_⟩
      cases e : s₁.heap.get? l with
      | none => rfl
      | some o =>
        have z2 := z.2.2
        rw [← hgh, ghost_ne e (by simpa using Ne.symm hl59)] at z2
        cases z2
    refine CallOk.use (chain_ok (news := []) (c := c5) hI5 hlen5 (List.forall_mem_nil _)) (below_caller s₁.heap) F6 hbase.1 hbase.2 N6 rfl (by decide) (by decide) ?_
    rintro v nw h7 tk7 rfl F7 N7
    refine ⟨rfl, fun b o e => F7.keep b o ?_, rfl, .of_eq hg, ⟨⟨#[], F7.keep _ _ (hT9 _ (.head _)).2⟩, trivial⟩⟩
    rw [← hgh] at e
    exact of_hideAll _ e
end
end
end
end Mine
theorem PySem.Challenge.cw_an0006_01_holds : PySem.Challenge.rw_an0006_01.Holds := by
  exact Mine.law_holds
