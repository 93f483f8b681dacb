import PyProof.Rows.All
import Wide.All
import OpenK.AllK
import Wide.FinOn
import Lean
import PySem.Challenge.RW_mr0135_01
set_option Elab.async false
set_option linter.unusedVariables false
section
open PySem PySem.W PyProof.Rows
set_option maxRecDepth 100000
set_option maxHeartbeats 8000000
namespace Mine
open_top hd for PySem.Challenge.rw_mr0135_01
end Mine
end
section
open PySem PySem.W PySem.Calls PyProof.Rows
set_option maxRecDepth 100000
set_option maxHeartbeats 1000000
namespace Mine
noncomputable abbrev KK (w : World) : Frag := hd.heap_39 w.params

/-- a state: all but the heap and the count of tokens is s's -/
def St (s : Shared) (h : Heap) (tk : Nat) : Shared := { s with heap := h, toks := tk }
theorem St.of (s : Shared) : s = St s s.heap s.toks := rfl

/-- where a walk stands: the frame at hand, its ground, the room -/
structure Cx (w : World) (A : Around) (h₀ : Heap) (L : Addr) (k : Nat) : Prop where
  bel : ∃ A₀ base outer env, Below A₀ base outer h₀ ∧ A.frames = some (env :: outer) ∧ env.frame = some L ∧ env.scope.kind = .function
  X : (KK w).In h₀
  T : ∃ p loose mean mg mb, Top p loose mean mg mb h₀
  hh : A.handled = none
  dep : A.depth ≤ 301 + k
  uni : A.units ≤ 4 + 4 * k

def retv (fl : Flow) : Value := match fl with | .ret v => v | _ => .none

/-- how a def's body ends: everything is handed back -/
def Back (g : Heap) (L' : Addr) (K : List (Addr × Obj) → Value → Shared → Prop) (fl : Flow) (s' : Shared) : Prop :=
  ∃ m' news', Fr g L' s'.heap m' ∧ News g L' s'.heap news' ∧ K news' (retv fl) s'

section
variable {prog : Program} {w : World} {A : Around} {E : Value → Shared → Prop} {s : Shared} {hp h₀ : Heap} {tk : Nat} {L : Addr} {m : Str → Option Value} {news : List (Addr × Obj)} {k : Nat} {Q : Value → Shared → Prop}

theorem Cx.up {p : Program} {loose : List Str} {mean : ExcName → Option Value} {mg mb : Str → Option Value} {g : Heap} {base : Heap} {outer : List Env} {env env' : Env} {L' : Addr}
    (B : Below A base (env :: outer) g) (X : (KK w).In g) (T : Top p loose mean mg mb g) (hh : A.handled = none) (hd : A.depth ≤ 301 + k) (hu : A.units ≤ 4 + 4 * k) (hf : env'.frame = some L') (hk : env'.scope.kind = .function) :
    Cx w (A.deeper env') g L' (k + 1) where
  bel := ⟨A, base, env :: outer, env', B, by unfold Around.deeper; rw [B.stack]; rfl, hf, hk⟩
  X := X
  T := ⟨p, loose, mean, mg, mb, T⟩
  hh := hh
  dep := by show A.depth + 1 ≤ _; omega
  uni := by show A.units + 3 ≤ _; omega

theorem Cx.units {k : Nat} (C : Cx w A h₀ L k) (hk : k ≤ 50) : A.units < cLine := by
  have := C.uni; rw [cLine_is]; omega

theorem call_def {name qual : Str} {params : Arguments} {body : List Stmt} {scope : Scope} {dV kV doc pm cdv ct oc : Value} {an od : Option Addr} {osl : Array (Option Value)} {f : Addr} {vals : List Value} {binds : List (Str × Value)}
    (C : Cx w A h₀ L k) (hk50 : k ≤ 50) (F : Fr h₀ L hp m) (N : News h₀ L hp news)
    (ho : (hd.heap_39 w.params).lookup f = some ⟨oc, od, .func (fnOf name qual params body scope dV kV doc pm an cdv ct), osl⟩) (hcd : codeIn (hd.heap_39 w.params) cdv qual = true)
    (hbind : BindsTo (St s hp tk) (fnOf name qual params body scope dV kV doc pm an cdv ct) ⟨vals, []⟩ binds) (hloc : ∀ y ∈ binds, scope.names.lookup y.1 = some .local)
    (hcell : ∀ x ∈ scope.names, x.2 ≠ .cell) (hco : scope.isCoroutine = false) (hgen : scope.isGenerator = false) (hk : scope.kind = .function)
    (h : ∀ g L' h₁ tk', Cx w (A.deeper (envOf qual scope L' f cdv)) g L' (k + 1) → Fr g L' h₁ (fun y => binds.reverse.lookup y) → News g L' h₁ news →
      wpAny (model prog w) (A.deeper (envOf qual scope L' f cdv)) (execs body (envOf qual scope L' f cdv))
        (Back g L' fun news' v s' => Fr h₀ L s'.heap m → News h₀ L s'.heap news' → Q v s') (fun _ _ => False) (St s h₁ tk')) :
    wpAny (model prog w) A (call (.ref f) vals) Q E (St s hp tk) := by
  obtain ⟨A₀, base, outer, env, B, hA, hf, hke⟩ := C.bel
  obtain ⟨p, loose, mean, mg, mb, T⟩ := C.T
  refine wpAny_call (code_def B F C.X N T hA hf hke ho hcd (by have := C.dep; show A.depth < 1000; omega) hbind hloc (fun g L' h₁ FG F' N' B' X' T' => ?_) hco hgen hk hcell)
  refine wpAny_mono (h g L' h₁ _ (Cx.up B' X' T' C.hh C.dep C.uni rfl hk) F' N') (fun fl s' hb => ?_) fun _ _ e => e.elim
  obtain ⟨m', news', F1, N1, K⟩ := hb
  refine ⟨L', m', news', F1, N1, fun a b => ?_⟩
  have := K a b
  cases fl <;> exact this
end

/-! the statements and expressions, on states as they are written here -/
section
variable {prog : Program} {w : World} {M : Model} {A : Around} {E : Value → Shared → Prop} {s : Shared} {hp : Heap} {tk : Nat} {env : Env} {pos pos' : Pos} {rest : List Stmt} {QF : Flow → Shared → Prop} {Q : Value → Shared → Prop} {QB : Bool → Shared → Prop} {QU : Unit → Shared → Prop} {a b : Int} {x y : Str} {t u : Tok}

theorem x_asg {z : Str} {value : Expr} (h : wpAny M A (eval value env) (fun v s₁ => wpAny M A (storeName env z v) (fun _ s₂ => wpAny M A (execs rest env) QF E s₂) E s₁) E (St s hp tk))
    (hs : swapsWith value (some (.Name z pos')) pos.line env = pure false := by rfl) : wpAny M A (execs (.Assign [.Name z pos'] value pos :: rest) env) QF E (St s hp tk) :=
  wpAny_execs_cons (wpAny_Assign_Name h hs)
theorem x_set {o i value : Expr} (h : wpAny M A (eval value env) (fun v s₁ => wpAny M A (eval o env) (fun ov s₂ => wpAny M A (eval i env) (fun iv s₃ => wpAny M A (setItem ov iv v) (fun _ s₄ => wpAny M A (execs rest env) QF E s₄) E s₃) E s₂) E s₁) E (St s hp tk))
    (hs : swapsWith value (some (.Subscript o i pos')) pos.line env = pure false := by rfl) : wpAny M A (execs (.Assign [.Subscript o i pos'] value pos :: rest) env) QF E (St s hp tk) :=
  wpAny_execs_cons (wpAny_Assign_Subscript h hs)
theorem x_ret {e : Expr} (h : wpAny M A (eval e env) (fun v => QF (.ret v)) E (St s hp tk)) : wpAny M A (execs (.Return (some e) pos :: rest) env) QF E (St s hp tk) :=
  wpAny_execs_cons (wpAny_Return_some h)
theorem x_expr {e : Expr} (h : wpAny (model prog w) A (eval e env) (fun _ s₁ => wpAny (model prog w) A (execs rest env) QF E s₁) E (St s hp tk))
    (hi : interactive env = false := by rfl) (hs : swapsWith e none pos.line env = pure false := by rfl) : wpAny (model prog w) A (execs (.Expr e pos :: rest) env) QF E (St s hp tk) :=
  wpAny_execs_cons (wpAny_Expr_any h hi hs)
theorem x_aug {z : Str} {op : Operator} {value : Expr} (h : wpAny M A (loadName env z) (fun old s₁ => wpAny M A (eval value env) (fun v s₂ => wpAny M A (inplaceOp op old v) (fun r s₃ => wpAny M A (storeName env z r) (fun _ s₄ => wpAny M A (execs rest env) QF E s₄) E s₃) E s₂) E s₁) E (St s hp tk)) :
    wpAny M A (execs (.AugAssign (.Name z pos') op value pos :: rest) env) QF E (St s hp tk) := wpAny_execs_cons (wpAny_AugAssign_Name h)
theorem x_nil (h : QF .next (St s hp tk)) : wpAny M A (execs [] env) QF E (St s hp tk) := wpAny_execs_nil h

/-- an If: what is behind it is named once -/
def Then (M : Model) (A : Around) (E : Value → Shared → Prop) (rest : List Stmt) (env : Env) (QF : Flow → Shared → Prop) : Flow → Shared → Prop :=
  fun f s' => match f with | .next => wpAny M A (execs rest env) QF E s' | f => QF f s'
theorem x_if {test : Expr} {body orelse : List Stmt} (h : wpAny M A (isTrue test env (eval test env)) (fun c s₂ => (c = true → wpAny M A (execs body env) (Then M A E rest env QF) E s₂) ∧ (c = false → wpAny M A (execs orelse env) (Then M A E rest env QF) E s₂)) E (St s hp tk)) :
    wpAny M A (execs (.If test body orelse pos :: rest) env) QF E (St s hp tk) :=
  wpAny_execs_cons (wpAny_If (wpAny_mono h (fun c s₂ hc => by cases c; exact hc.2 rfl; exact hc.1 rfl) fun _ _ e => e))

theorem e_int {i : Int} {kd : Nat} (h : ∀ t tk', Q (.int i t) (St s hp tk')) : wpAny M A (eval (.Constant (.int i) kd pos) env) Q E (St s hp tk) := wpAny_Constant_int (h _ _)
theorem e_str {kd : Nat} (h : ∀ t tk', Q (.str x t) (St s hp tk')) : wpAny M A (eval (.Constant (.str x) kd pos) env) Q E (St s hp tk) := Constant_str (h _ _)
theorem e_bin {l r : Expr} {op : Operator} (h : wpAny M A (eval l env) (fun a s₁ => wpAny M A (eval r env) (fun b s₂ => wpAny M A (binaryOp op a b) Q E s₂) E s₁) E (St s hp tk)) : wpAny M A (eval (.BinOp l op r pos) env) Q E (St s hp tk) := wpAny_BinOp h
theorem e_sub {v i : Expr} (h : wpAny M A (eval v env) (fun o s₁ => wpAny M A (eval i env) (fun i' s₂ => wpAny M A (subscriptTail v i o i') Q E s₂) E s₁) E (St s hp tk)) : wpAny M A (eval (.Subscript v i pos) env) Q E (St s hp tk) := Subscript_ h

theorem o_add (h : ∀ t tk', Q (.int (a + b) t) (St s hp tk')) : wpAny (model prog w) A (binaryOp .Add (.int a t) (.int b u)) Q E (St s hp tk) := add_int (h _ _)
theorem o_sub (h : ∀ t tk', Q (.int (a - b) t) (St s hp tk')) : wpAny (model prog w) A (binaryOp .Sub (.int a t) (.int b u)) Q E (St s hp tk) := sub_int (h _ _)
theorem o_mul (hm : IntMulOk a b) (h : ∀ t tk', Q (.int (a * b) t) (St s hp tk')) : wpAny (model prog w) A (binaryOp .Mult (.int a t) (.int b u)) Q E (St s hp tk) := mul_int (h _ _) hm
theorem o_shr (h0 : 0 ≤ a) (h : ∀ t tk', Q (.int (a / 2) t) (St s hp tk')) : wpAny (model prog w) A (binaryOp .RShift (.int a t) (.int 1 u)) Q E (St s hp tk) := wpAny_rshift1_int h0 (h _ _)
theorem o_mod (hb : b ≠ 0) (h : ∀ t tk', Q (.int (a.fmod b) t) (St s hp tk')) : wpAny (model prog w) A (binaryOp .Mod (.int a t) (.int b u)) Q E (St s hp tk) := mod_int' hb (h _ _)
theorem o_iadd (h : ∀ t tk', Q (.int (a + b) t) (St s hp tk')) : wpAny (model prog w) A (inplaceOp .Add (.int a t) (.int b u)) Q E (St s hp tk) := iadd_int (h _ _)
theorem o_addS (hsz : x.length + y.length ≤ sizeLine) (h : ∀ t tk', Q (.str (x ++ y) t) (St s hp tk')) : wpAny (model prog w) A (binaryOp .Add (.str x t) (.str y u)) Q E (St s hp tk) := add_str (fun t' tk' => h t' tk') hsz
theorem o_iaddS (hsz : x.length + y.length ≤ sizeLine) (h : ∀ t tk', Q (.str (x ++ y) t) (St s hp tk')) : wpAny (model prog w) A (inplaceOp .Add (.str x t) (.str y u)) Q E (St s hp tk) := iadd_str (fun t' tk' => h t' tk') hsz

theorem t_cmp {l r : Expr} {op : CmpOp} {whole : Sem Value} (h : wpAny M A (eval l env) (fun a s₁ => wpAny M A (eval r env) (fun b s₂ => wpAny M A (compareOp op a b) (fun c s₃ => wpAny M A (truthy c) QB E s₃) E s₂) E s₁) E (St s hp tk))
    (hb : behindInMarks op r = false := by rfl) : wpAny M A (isTrue (.Compare l [op] [r] pos) env whole) QB E (St s hp tk) := wpAny_isTrue_Compare1 h hb
theorem c_lt (h : QB (decide (a < b)) (St s hp tk)) : wpAny (model prog w) A (compareOp .Lt (.int a t) (.int b u)) (fun c s₃ => wpAny (model prog w) A (truthy c) QB E s₃) E (St s hp tk) := lt_int (wpAny_truthy_bool h)
theorem c_gt (h : QB (decide (b < a)) (St s hp tk)) : wpAny (model prog w) A (compareOp .Gt (.int a t) (.int b u)) (fun c s₃ => wpAny (model prog w) A (truthy c) QB E s₃) E (St s hp tk) := gt_int (wpAny_truthy_bool h)
theorem c_eq (h : QB (a == b) (St s hp tk)) : wpAny (model prog w) A (compareOp .Eq (.int a t) (.int b u)) (fun c s₃ => wpAny (model prog w) A (truthy c) QB E s₃) E (St s hp tk) := PyProof.Rows.eq_int (wpAny_truthy_bool h)
theorem c_ltS (h : QB (decide (x.cps.toList < y.cps.toList)) (St s hp tk)) : wpAny (model prog w) A (compareOp .Lt (.str x t) (.str y u)) (fun c s₃ => wpAny (model prog w) A (truthy c) QB E s₃) E (St s hp tk) := PyProof.Rows.lt_str (wpAny_truthy_bool h)
theorem c_eqS (h : QB (x == y) (St s hp tk)) : wpAny (model prog w) A (compareOp .Eq (.str x t) (.str y u)) (fun c s₃ => wpAny (model prog w) A (truthy c) QB E s₃) E (St s hp tk) := PyProof.Rows.eq_str (wpAny_truthy_bool h)
theorem c_neS (h : QB (x != y) (St s hp tk)) : wpAny (model prog w) A (compareOp .NotEq (.str x t) (.str y u)) (fun c s₃ => wpAny (model prog w) A (truthy c) QB E s₃) E (St s hp tk) := PyProof.Rows.ne_str (wpAny_truthy_bool h)
end

section
variable {prog : Program} {w : World} {M : Model} {A : Around} {E : Value → Shared → Prop} {s : Shared} {hp h₀ : Heap} {tk : Nat} {name : Str} {scope : Scope} {L f : Addr} {cd : Value} {m : Str → Option Value} {news : List (Addr × Obj)} {pos : Pos} {z : Str} {v : Value} {Q : Value → Shared → Prop} {QU : Unit → Shared → Prop} {k : Nat}

theorem n_loc (F : Fr h₀ L hp m) (hv : m z = some v) (h : Q v (St s hp tk)) (hk : scope.kind = .function := by rfl) (hl : (envOf name scope L f cd).kindOf z = some .local := by rfl) (hd : (z == ("__debug__" : Str)) = false := by decide) :
    wpAny M A (eval (.Name z pos) (envOf name scope L f cd)) Q E (St s hp tk) := ld (s := St s hp tk) F hv h hk hl hd
theorem n_load (F : Fr h₀ L hp m) (hv : m z = some v) (h : Q v (St s hp tk)) (hk : scope.kind = .function := by rfl) (hl : (envOf name scope L f cd).kindOf z = some .local := by rfl) :
    wpAny M A (loadName (envOf name scope L f cd) z) Q E (St s hp tk) := ldn (s := St s hp tk) F hv h hk hl
theorem n_store (F : Fr h₀ L hp m) (N : News h₀ L hp news) (h : ∀ h' tk', Fr h₀ L h' (fun y => if y = z then some v else m y) → News h₀ L h' news → QU () (St s h' tk'))
    (hk : scope.kind = .function := by rfl) (hl : (envOf name scope L f cd).kindOf z = some .local := by rfl) : wpAny M A (storeName (envOf name scope L f cd) z v) QU E (St s hp tk) :=
  stN (s := St s hp tk) F N (fun h' F' N' => h h' _ F' N') hk hl
/-- a name of the top -/
theorem n_top (C : Cx w A h₀ L k) (F : Fr h₀ L hp m) (e : nsIn (hd.heap_39 w.params) mainGlobals z = some (some v)) (h : Q v (St s hp tk)) (hk : scope.kind = .function := by rfl) (hx : (envOf name scope L f cd).kindOf z = some .globalImplicit := by rfl) (hd : (z == ("__debug__" : Str)) = false := by decide) :
    wpAny M A (eval (.Name z pos) (envOf name scope L f cd)) Q E (St s hp tk) := by
  obtain ⟨p, loose, mean, mg, mb, T⟩ := C.T
  exact name_K (s := St s hp tk) F C.X (topRead_of T) e h hk hx hd
/-- a built-in's name -/
theorem n_blt (C : Cx w A h₀ L k) (F : Fr h₀ L hp m) (e : nsIn (hd.heap_39 w.params) mainGlobals z = some none) (hv : bootBuiltins z = some v) (hn : z ≠ "__name__") (h : Q v (St s hp tk)) (hk : scope.kind = .function := by rfl) (hx : (envOf name scope L f cd).kindOf z = some .globalImplicit := by rfl) (hd : (z == ("__debug__" : Str)) = false := by decide) :
    wpAny M A (eval (.Name z pos) (envOf name scope L f cd)) Q E (St s hp tk) := by
  obtain ⟨p, loose, mean, mg, mb, T⟩ := C.T
  exact name_B (s := St s hp tk) F C.X (topRead_of T) e hv hn h hk hx hd
end

/-! the ledger with one list in front -/
section
variable {prog : Program} {w : World} {A : Around} {E : Value → Shared → Prop} {s : Shared} {hp h₀ : Heap} {tk : Nat} {L l : Addr} {m : Str → Option Value} {rest : List (Addr × Obj)} {vs : List Value} {n : Nat} {k : Int} {t u : Tok} {v : Value}

def Apart (l : Addr) (rest : List (Addr × Obj)) : Prop := ∀ p ∈ rest, p.1 ≠ l

theorem News.isListAt {h : Heap} (N : News h₀ L h ((l, listOf vs.toArray n) :: rest)) : h.IsList l vs.toArray := PySem.IsL.isList (n := n) (N _ (.head _)).1
theorem News.sub {h : Heap} {news news' : List (Addr × Obj)} (N : News h₀ L h news) (hs : ∀ p ∈ news', p ∈ news) : News h₀ L h news' := fun p hp => N p (hs p hp)

theorem lg_sub {value slice : PySem.Expr} {Q : Value → Shared → Prop} (N : News h₀ L hp ((l, listOf vs.toArray n) :: rest)) (h0 : 0 ≤ k) (h1 : k < 2 ^ 63) (hx : vs[k.toNat]? = some v) (h : Q v (St s hp tk))
    (hs : subscripted slice false (.ref l) (.int k u) = operate [.ref l, .int k u] (getItem (.ref l) (.int k u)) := by with_unfolding_all rfl) :
    wpAny (model prog w) A (subscriptTail value slice (.ref l) (.int k u)) Q E (St s hp tk) := item_litK (s := St s hp tk) (News.isListAt N) h0 h1 hx h hs

theorem lg_set {Q : Unit → Shared → Prop} (F : Fr h₀ L hp m) (N : News h₀ L hp ((l, listOf vs.toArray n) :: rest)) (ha : Apart l rest) (h0 : 0 ≤ k) (hfit : k < 2 ^ 63) (h1 : k < vs.length)
    (h : ∀ h', Fr h₀ L h' m → News h₀ L h' ((l, listOf (vs.set k.toNat v).toArray n) :: rest) → Q () (St s h' tk)) :
    wpAny (model prog w) A (setItem (.ref l) (.int k t) v) Q E (St s hp tk) := by
  have z := N _ (.head _)
  have N' : News h₀ L hp ([] ++ (l, listOf vs.toArray n) :: rest) := N
  refine ki_setAt (s := St s hp tk) z.1 h0 hfit (by rw [List.size_toArray]; exact h1) (h _ (F.change (Heap.SameBut.update ..) z.2.1 z.2.2) ?_)
  refine ki_turn (pre := []) _ N' (fun p hp => nomatch hp) ha ?_ ?_
  · apply Array.toList_inj.mp
    simp
  · simp
end
end Mine
end
section
open PySem PySem.W PySem.Calls PyProof.Rows
set_option maxRecDepth 100000
set_option maxHeartbeats 1000000
namespace Mine
section
variable {prog : Program} {w : World} {M : Model} {A : Around} {E : Value → Shared → Prop} {s : Shared} {hp h₀ : Heap} {tk : Nat} {L : Addr} {env : Env} {pos p : Pos} {Q : Value → Shared → Prop} {QB : Bool → Shared → Prop} {f : Addr} {e e1 e2 e3 e4 : Expr} {id : String} {z : Str}

theorem e_none {kd : Nat} (h : Q .none (St s hp tk)) : wpAny M A (eval (.Constant .none kd pos) env) Q E (St s hp tk) := wpAny_pure h
theorem e_call {args : List Expr} (h : wpAny M A (eval (.Name z p) env) (fun f s₁ => wpAny M A (callWith pos f [] (backTo pos (starEach args env)) []) Q E s₁) E (St s hp tk)) : wpAny M A (eval (.Call (.Name z p) args [] pos) env) Q E (St s hp tk) := wpAny_Call_NameR h

theorem cw_blt1 (h : wpAny M A (eval e env) (fun v s₁ => wpAny M A (call (.builtin id) [v]) Q E s₁) E (St s hp tk)) (he : starEach [e] env = [(false, eval e env)] := by rfl) :
    wpAny M A (callWith pos (.builtin id) [] (backTo pos (starEach [e] env)) []) Q E (St s hp tk) :=
  PyProof.Rows.callWith_builtin1 (spliced_more (wpAny_mono h (fun v s₁ h₁ => spliced_none h₁) fun _ _ x => x) he) he

theorem cw_def1 (hk : keepIn (hd.heap_39 w.params) (.ref f) = true) (h : wpAny M A (eval e1 env) (fun v s₁ => (KK w).In s₁.heap ∧ wpAny M A (call (.ref f) [v]) Q E s₁) E (St s hp tk)) (hi : (KK w).In hp) (he : starEach [e1] env = [(false, eval e1 env)] := by rfl) :
    wpAny M A (callWith pos (.ref f) [] (backTo pos (starEach [e1] env)) []) Q E (St s hp tk) :=
  callWith_K (h₀ := hp) hi hk (spliced_more (wpAny_mono h (fun v s₁ h₁ => spliced_none h₁) fun _ _ x => x) he) he
theorem cw_def2 (hk : keepIn (hd.heap_39 w.params) (.ref f) = true) (h : wpAny M A (eval e1 env) (fun v1 s₁ => wpAny M A (eval e2 env) (fun v2 s₂ => (KK w).In s₂.heap ∧ wpAny M A (call (.ref f) [v1, v2]) Q E s₂) E s₁) E (St s hp tk)) (hi : (KK w).In hp)
    (he1 : starEach [e1, e2] env = (false, eval e1 env) :: starEach [e2] env := by rfl) (he2 : starEach [e2] env = [(false, eval e2 env)] := by rfl) :
    wpAny M A (callWith pos (.ref f) [] (backTo pos (starEach [e1, e2] env)) []) Q E (St s hp tk) :=
  callWith_K (h₀ := hp) hi hk (spliced_more (wpAny_mono h (fun v s₁ h₁ => spliced_more (wpAny_mono h₁ (fun v s₂ h₂ => spliced_none h₂) fun _ _ x => x) he2) fun _ _ x => x) he1) he1 (by rw [he2]; rfl)
theorem cw_def3 (hk : keepIn (hd.heap_39 w.params) (.ref f) = true) (h : wpAny M A (eval e1 env) (fun v1 s₁ => wpAny M A (eval e2 env) (fun v2 s₂ => wpAny M A (eval e3 env) (fun v3 s₃ => (KK w).In s₃.heap ∧ wpAny M A (call (.ref f) [v1, v2, v3]) Q E s₃) E s₂) E s₁) E (St s hp tk)) (hi : (KK w).In hp)
    (he1 : starEach [e1, e2, e3] env = (false, eval e1 env) :: starEach [e2, e3] env := by rfl) (he2 : starEach [e2, e3] env = (false, eval e2 env) :: starEach [e3] env := by rfl) (he3 : starEach [e3] env = [(false, eval e3 env)] := by rfl) :
    wpAny M A (callWith pos (.ref f) [] (backTo pos (starEach [e1, e2, e3] env)) []) Q E (St s hp tk) :=
  callWith_K (h₀ := hp) hi hk (spliced_more (wpAny_mono h (fun v s₁ h₁ => spliced_more (wpAny_mono h₁ (fun v s₂ h₂ => spliced_more (wpAny_mono h₂ (fun v s₃ h₃ => spliced_none h₃) fun _ _ x => x) he3) fun _ _ x => x) he2) fun _ _ x => x) he1) he1 (by rw [he2, he3]; rfl)
theorem cw_def4 (hk : keepIn (hd.heap_39 w.params) (.ref f) = true) (h : wpAny M A (eval e1 env) (fun v1 s₁ => wpAny M A (eval e2 env) (fun v2 s₂ => wpAny M A (eval e3 env) (fun v3 s₃ => wpAny M A (eval e4 env) (fun v4 s₄ => (KK w).In s₄.heap ∧ wpAny M A (call (.ref f) [v1, v2, v3, v4]) Q E s₄) E s₃) E s₂) E s₁) E (St s hp tk)) (hi : (KK w).In hp)
    (he1 : starEach [e1, e2, e3, e4] env = (false, eval e1 env) :: starEach [e2, e3, e4] env := by rfl) (he2 : starEach [e2, e3, e4] env = (false, eval e2 env) :: starEach [e3, e4] env := by rfl) (he3 : starEach [e3, e4] env = (false, eval e3 env) :: starEach [e4] env := by rfl) (he4 : starEach [e4] env = [(false, eval e4 env)] := by rfl) :
    wpAny M A (callWith pos (.ref f) [] (backTo pos (starEach [e1, e2, e3, e4] env)) []) Q E (St s hp tk) :=
  callWith_K (h₀ := hp) hi hk (spliced_more (wpAny_mono h (fun v s₁ h₁ => spliced_more (wpAny_mono h₁ (fun v s₂ h₂ => spliced_more (wpAny_mono h₂ (fun v s₃ h₃ => spliced_more (wpAny_mono h₃ (fun v s₄ h₄ => spliced_none h₄) fun _ _ x => x) he4) fun _ _ x => x) he3) fun _ _ x => x) he2) fun _ _ x => x) he1) he1 (by rw [he2, he3, he4]; rfl)

theorem t_and {x y : Expr} {whole : Sem Value} (h : wpAny M A (isTrue x env (eval x env)) (fun c s' => (c = true → wpAny M A (isTrue y env (eval y env)) QB E s') ∧ (c = false → QB false s')) E (St s hp tk)) :
    wpAny M A (isTrue (.BoolOp .And [x, y] pos) env whole) QB E (St s hp tk) := by
  refine isTrue_and (wpAny_mono h (fun c s' hc => ?_) fun _ _ x => x)
  cases c with
  | false => exact hc.2 rfl
  | true =>
    refine isTrue_and (wpAny_mono (hc.1 rfl) (fun c' s'' hc' => ?_) fun _ _ x => x)
    cases c' with
    | false => exact hc'
    | true => exact isTrue_and_nil hc'
theorem t_or {x y : Expr} {whole : Sem Value} (h : wpAny M A (isTrue x env (eval x env)) (fun c s' => (c = false → wpAny M A (isTrue y env (eval y env)) QB E s') ∧ (c = true → QB true s')) E (St s hp tk)) :
    wpAny M A (isTrue (.BoolOp .Or [x, y] pos) env whole) QB E (St s hp tk) := by
  refine isTrue_or (wpAny_mono h (fun c s' hc => ?_) fun _ _ x => x)
  cases c with
  | true => exact hc.2 rfl
  | false =>
    refine isTrue_or (wpAny_mono (hc.1 rfl) (fun c' s'' hc' => ?_) fun _ _ x => x)
    cases c' with
    | true => exact hc'
    | false => exact isTrue_or_nil hc'
/-- an If whose ways meet again -/
theorem x_ifJ {test : Expr} {body orelse rest : List Stmt} {QF : Flow → Shared → Prop} (J : Shared → Prop)
    (h : wpAny M A (isTrue test env (eval test env)) (fun c s₂ => (c = true → wpAny M A (execs body env) (fun f s' => f = .next ∧ J s') E s₂) ∧ (c = false → wpAny M A (execs orelse env) (fun f s' => f = .next ∧ J s') E s₂)) E (St s hp tk))
    (hr : ∀ s', J s' → wpAny M A (execs rest env) QF E s') : wpAny M A (execs (.If test body orelse pos :: rest) env) QF E (St s hp tk) :=
  x_if (wpAny_mono h (fun _ _ hc => ⟨fun e => wpAny_mono (hc.1 e) (fun f s' hf => by obtain ⟨rfl, hj⟩ := hf; exact hr s' hj) fun _ _ x => x,
    fun e => wpAny_mono (hc.2 e) (fun f s' hf => by obtain ⟨rfl, hj⟩ := hf; exact hr s' hj) fun _ _ x => x⟩) fun _ _ x => x)
theorem t_not {x : Expr} {whole : Sem Value} (h : wpAny M A (isTrue x env (eval x env)) (fun c s' => QB (!c) s') E (St s hp tk)) : wpAny M A (isTrue (.UnaryOp .Not x pos) env whole) QB E (St s hp tk) := isTrue_not h
end
section
variable {prog : Program} {w : World} {A : Around} {E : Value → Shared → Prop} {s : Shared} {hp h₀ : Heap} {tk : Nat} {L l : Addr} {m : Str → Option Value} {rest : List (Addr × Obj)} {vs : List Value} {n : Nat} {v : Value} {Q : Value → Shared → Prop} {QB : Bool → Shared → Prop}
theorem lg_len (N : News h₀ L hp ((l, listOf vs.toArray n) :: rest)) (hz : vs.length ≤ 100000) (h : ∀ t tk', Q (.int (vs.length : Nat) t) (St s hp tk')) : wpAny (model prog w) A (call (.builtin "len") [.ref l]) Q E (St s hp tk) := by
  have e : vs.toArray.size = vs.length := List.size_toArray
  refine len_list (s := St s hp tk) (News.isListAt N) (by omega) ?_
  rw [e]
  exact h _ _
theorem lg_truth (N : News h₀ L hp ((l, listOf vs.toArray n) :: rest)) (hz : vs.length ≤ 100000) (h : ∀ tk', QB (decide (0 < vs.length)) (St s hp tk')) : wpAny (model prog w) A (truthy (.ref l)) QB E (St s hp tk) := by
  have e : vs.toArray.size = vs.length := List.size_toArray
  have e2 : (!vs.toArray.isEmpty) = decide (0 < vs.length) := by cases vs <;> simp
  refine wpAny_truthy_list (s := St s hp tk) (News.isListAt N) (by omega) ?_
  rw [e2]
  exact h _
theorem o_fdiv {a b : Int} {t u : Tok} (hb : b ≠ 0) (hpl : Builtin.divisionGoesByPylong a b = false ∨ PySem.PylongRoom (model prog w) A (St s hp tk)) (h : ∀ t tk', Q (.int (a.fdiv b) t) (St s hp tk')) : wpAny (model prog w) A (binaryOp .FloorDiv (.int a t) (.int b u)) Q E (St s hp tk) := floordiv_int hb (h _ _) hpl
theorem o_ifdiv {a b : Int} {t u : Tok} (hb : b ≠ 0) (hpl : Builtin.divisionGoesByPylong a b = false ∨ PySem.PylongRoom (model prog w) A (St s hp tk)) (h : ∀ t tk', Q (.int (a.fdiv b) t) (St s hp tk')) : wpAny (model prog w) A (inplaceOp .FloorDiv (.int a t) (.int b u)) Q E (St s hp tk) := ifloordiv_int hb (h _ _) hpl
end
end Mine
end
section
open PySem PySem.W PySem.Calls PyProof.Rows
set_option maxRecDepth 100000
set_option maxHeartbeats 1000000
namespace Mine
section
variable {prog : Program} {w : World} {M : Model} {A : Around} {E : Value → Shared → Prop} {s : Shared} {hp h₀ : Heap} {tk : Nat} {L : Addr} {env : Env} {pos apos p : Pos} {Q : Value → Shared → Prop} {QB : Bool → Shared → Prop} {QF : Flow → Shared → Prop} {f : Addr} {e e1 e2 e3 e4 : Expr} {id : String} {z : Str} {m : Str → Option Value} {news : List (Addr × Obj)}

theorem e_meth {o : Expr} {name : Str} {args : List Expr} {pl : Sem Bool}
    (h : wpAny M A (eval o env) (fun ov s₁ => wpAny M A (getMethod ov name pl) (fun fx s₂ => wpAny M A (callWith pos fx.1 fx.2 (backTo pos (starEach args env)) []) Q E s₂) E s₁) E (St s hp tk))
    (he : eval (.Call (.Attribute o name apos) args [] pos) env = (do
      let ov ← eval o env
      standAt apos.atName
      let (f, first) ← holding [ov] (getMethod ov name pl)
      callWith pos f first (backTo pos (starEach args env)) []) := by rfl) :
    wpAny M A (eval (.Call (.Attribute o name apos) args [] pos) env) Q E (St s hp tk) := MethodCall_ h he

theorem cw_m0 {v : Value} (h : wpAny M A (call (.builtin id) [v]) Q E (St s hp tk)) : wpAny M A (callWith pos (.builtin id) [v] (backTo pos (starEach [] env)) []) Q E (St s hp tk) := callWith_method0 h
theorem cw_m1 {v : Value} (h : wpAny M A (eval e env) (fun a s₁ => wpAny M A (call (.builtin id) [v, a]) Q E s₁) E (St s hp tk)) (he : starEach [e] env = [(false, eval e env)] := by rfl) :
    wpAny M A (callWith pos (.builtin id) [v] (backTo pos (starEach [e] env)) []) Q E (St s hp tk) :=
  callWith_method1 (spliced_more (wpAny_mono h (fun a s₁ h₁ => spliced_none h₁) fun _ _ x => x) he) he
theorem cw_m2 {v : Value} (h : wpAny M A (eval e1 env) (fun a s₁ => wpAny M A (eval e2 env) (fun b s₂ => wpAny M A (call (.builtin id) [v, a, b]) Q E s₂) E s₁) E (St s hp tk))
    (he1 : starEach [e1, e2] env = (false, eval e1 env) :: starEach [e2] env := by rfl) (he2 : starEach [e2] env = [(false, eval e2 env)] := by rfl) :
    wpAny M A (callWith pos (.builtin id) [v] (backTo pos (starEach [e1, e2] env)) []) Q E (St s hp tk) :=
  callWith_method1 (spliced_more (wpAny_mono h (fun a s₁ h₁ => spliced_more (wpAny_mono h₁ (fun b s₂ h₂ => spliced_none h₂) fun _ _ x => x) he2) fun _ _ x => x) he1) he1 (by rw [he2]; rfl)
theorem t_plain {whole : Sem Value} (h : wpAny M A whole (fun v s₁ => wpAny M A (truthy v) QB E s₁) E (St s hp tk))
    (he : isTrue e env whole = (do let v ← whole; standAt e.pos; holding [v] (truthy v)) := by rfl) : wpAny M A (isTrue e env whole) QB E (St s hp tk) := isTrue_plain h he
theorem e_tup2 {kd : Nat} (h : wpAny M A (eval e1 env) (fun a s₁ => wpAny M A (eval e2 env) (fun b s₂ => wpAny M A (newTuple [a, b]) Q E s₂) E s₁) E (St s hp tk))
    (he1 : starEach [e1, e2] env = (false, eval e1 env) :: starEach [e2] env := by rfl) (he2 : starEach [e2] env = [(false, eval e2 env)] := by rfl) :
    wpAny M A (eval (.Tuple [e1, e2] kd pos) env) Q E (St s hp tk) :=
  Tuple_ (spliced_more (wpAny_mono h (fun a s₁ h₁ => spliced_more (wpAny_mono h₁ (fun b s₂ h₂ => spliced_none h₂) fun _ _ x => x) he2) fun _ _ x => x) he1)
theorem newTuple_L {vs : List Value} (F : Fr h₀ L hp m) (N : News h₀ L hp news) (hsz : vs.length ≤ 1000)
    (h : ∀ a h', Fr h₀ L h' m → News h₀ L h' ((a, { cls := .type "tuple", data := .seq vs.toArray }) :: news) → (∀ p ∈ news, p.1 < a) → Q (.ref a) (St s h' tk)) : wpAny M A (newTuple vs) Q E (St s hp tk) :=
  newTuple_N (s := St s hp tk) F N (fun h' F' N' => h _ h' F' N' fun p hp => Heap.lt_size (N p hp).1) (by rw [sizeLine_eq]; omega)
theorem newList_L {vs : List Value} (F : Fr h₀ L hp m) (N : News h₀ L hp news) (hsz : vs.length ≤ 1000)
    (h : ∀ a h', Fr h₀ L h' m → News h₀ L h' ((a, listOf vs.toArray 0) :: news) → (∀ p ∈ news, p.1 < a) → Q (.ref a) (St s h' tk)) : wpAny M A (newList vs) Q E (St s hp tk) :=
  newList_K (s := St s hp tk) F N (fun a h' F' N' lt => h a h' F' N' lt) (by rw [sizeLine_eq]; omega)
end

section
variable {prog : Program} {w : World} {A : Around} {E : Value → Shared → Prop} {s : Shared} {hp h₀ : Heap} {tk : Nat} {L l : Addr} {m : Str → Option Value} {rest : List (Addr × Obj)} {vs : List Value} {n : Nat} {v y : Value} {u : Tok} {Q : Value → Shared → Prop} {pl : Sem Bool} {QM : Value × List Value → Shared → Prop}

theorem m_list {name : Str} {id : String} (N : News h₀ L hp ((l, listOf vs.toArray n) :: rest)) (slot : Slot "list" name id) (hty : typeOf (.builtin id) = pure (.type "method_descriptor")) (h : QM (.builtin id, [.ref l]) (St s hp tk)) :
    wpAny (model prog w) A (getMethod (.ref l) name pl) QM E (St s hp tk) := kl_method (s := St s hp tk) N (.head _) slot hty h
theorem lg_append (F : Fr h₀ L hp m) (N : News h₀ L hp ((l, listOf vs.toArray n) :: rest)) (ha : Apart l rest) (hz : vs.length ≤ 1000)
    (h : ∀ h', Fr h₀ L h' m → News h₀ L h' ((l, listOf (vs ++ [v]).toArray (n + 1)) :: rest) → Q .none (St s h' tk)) : wpAny (model prog w) A (call (.builtin "list.append") [.ref l, v]) Q E (St s hp tk) := by
  refine append_K (s := St s hp tk) F N (Upd.head ha) (fun h' F' N' => h h' F' ?_) (by rw [List.size_toArray, sizeLine_eq]; omega)
  rw [show (vs ++ [v]).toArray = vs.toArray.push v by simp]
  exact N'
theorem lg_pop (F : Fr h₀ L hp m) (N : News h₀ L hp ((l, listOf (vs ++ [y]).toArray n) :: rest)) (ha : Apart l rest) (hz : vs.length ≤ 1000)
    (h : ∀ h', Fr h₀ L h' m → News h₀ L h' ((l, listOf vs.toArray (n + 1)) :: rest) → Q y (St s h' tk)) : wpAny (model prog w) A (call (.builtin "list.pop") [.ref l]) Q E (St s hp tk) :=
  kl_pop (s := St s hp tk) F N (kpa_last y vs) (Upd.head ha) (by simp [sizeLine_eq]; omega) fun h' F' N' => h h' F' N'
theorem lg_pop0 (F : Fr h₀ L hp m) (N : News h₀ L hp ((l, listOf (y :: vs).toArray n) :: rest)) (ha : Apart l rest) (hz : vs.length ≤ 1000)
    (h : ∀ h', Fr h₀ L h' m → News h₀ L h' ((l, listOf vs.toArray (n + 1)) :: rest) → Q y (St s h' tk)) : wpAny (model prog w) A (call (.builtin "list.pop") [.ref l, .int 0 u]) Q E (St s hp tk) :=
  kl_popAt (s := St s hp tk) (k := 0) (p := []) (q := vs) F N (by decide) (by simp [seqIndex?]) (by simp [kl_cut]) (Upd.head ha) (by simp [sizeLine_eq]; omega) fun h' F' N' => h h' F' N'
theorem lg_insert0 (F : Fr h₀ L hp m) (N : News h₀ L hp ((l, listOf vs.toArray n) :: rest)) (ha : Apart l rest) (hz : vs.length ≤ 1000)
    (h : ∀ h', Fr h₀ L h' m → News h₀ L h' ((l, listOf (v :: vs).toArray (n + 1)) :: rest) → Q .none (St s h' tk)) : wpAny (model prog w) A (call (.builtin "list.insert") [.ref l, .int 0 u, v]) Q E (St s hp tk) :=
  kl_insert (s := St s hp tk) F N (by decide) (by simp [kl_ins]) (Upd.head ha) (by simp [sizeLine_eq]; omega) fun h' F' N' => h h' F' N'
end
end Mine
namespace Mine
section
variable {prog : Program} {w : World} {M : Model} {A : Around} {E : Value → Shared → Prop} {s : Shared} {hp h₀ : Heap} {tk : Nat} {L : Addr} {env : Env} {pos tpos p1 p2 : Pos} {QF : Flow → Shared → Prop} {rest : List Stmt} {m : Str → Option Value} {news : List (Addr × Obj)}
theorem a_name {z : Str} {v : Value} {QU : Unit → Shared → Prop} (h : wpAny M A (storeName env z v) QU E (St s hp tk)) : wpAny M A (assign (.Name z pos) env v) QU E (St s hp tk) := assign_Name h
theorem a_sub {o i : Expr} {v : Value} {QU : Unit → Shared → Prop} (h : wpAny M A (eval o env) (fun ov s₁ => wpAny M A (eval i env) (fun iv s₂ => wpAny M A (setItem ov iv v) QU E s₂) E s₁) E (St s hp tk)) :
    wpAny M A (assign (.Subscript o i pos) env v) QU E (St s hp tk) := by
  rw [assign_Subscript]
  refine wpAny_bind (wpAny_holding (wpAny_mono h (fun ov s₁ h₁ => ?_) fun _ _ x => x))
  refine wpAny_bind (wpAny_holding (wpAny_mono h₁ (fun iv s₂ h₂ => ?_) fun _ _ x => x))
  refine wpAny_bind (wpAny_standAt (wpAny_bind (wpAny_holding (wpAny_mono h₂ (fun _ s₃ h₃ => ?_) fun _ _ x => x))))
  exact fun Γ p _ => by simpa only [Sem.wp_release] using h₃
/-- two targets at once, a name and a place -/
theorem x_pair {z : Str} {o i value : Expr} {kd : Nat} (h : wpAny (model prog w) A (eval value env) (fun v s₁ => ∃ t a b hp' tk' h₀ L m news, v = .ref t ∧ s₁ = St s hp' tk' ∧ A.handled = none ∧ Fr h₀ L hp' m ∧ News h₀ L hp' ((t, { cls := .type "tuple", data := .seq #[a, b] }) :: news) ∧
      ∀ h', Fr h₀ L h' m → News h₀ L h' news → wpAny (model prog w) A (assign (.Name z p1) env a) (fun _ s₂ => wpAny (model prog w) A (assign (.Subscript o i p2) env b) (fun _ s₃ => wpAny (model prog w) A (execs rest env) QF E s₃) E s₂) E (St s h' tk')) E (St s hp tk))
    (hs : swapsWithSole [.Tuple [.Name z p1, .Subscript o i p2] kd tpos] value pos.line env = pure false := by rfl) (hw : swappedStores [.Tuple [.Name z p1, .Subscript o i p2] kd tpos] value env = pure none := by rfl) :
    wpAny (model prog w) A (execs (.Assign [.Tuple [.Name z p1, .Subscript o i p2] kd tpos] value pos :: rest) env) QF E (St s hp tk) := by
  refine wpAny_execs_cons (Assign_Tuple (wpAny_mono h (fun v s₁ h₁ => ?_) fun _ _ x => x) hs hw)
  obtain ⟨t, a, b, hp', tk', h₀, L, m, news, rfl, rfl, hh, F, N, h2⟩ := h₁
  refine unpackN_ (s := St s hp' tk') F N (News.isTup N (.head _)) hh rfl rfl fun h' F' N' => ?_
  refine assignInOrder_cons (wpAny_mono (h2 h' F' (fun p hp => N' p (.tail _ hp))) (fun _ s₂ h₂ => ?_) fun _ _ x => x)
  refine assignInOrder_cons (wpAny_mono h₂ (fun _ s₃ h₃ => ?_) fun _ _ x => x)
  exact assignInOrder_nil h₃
end
theorem nw_swap {h₀ h : Heap} {L : Addr} {a b : Addr × Obj} {r : List (Addr × Obj)} (N : News h₀ L h (a :: b :: r)) : News h₀ L h (b :: a :: r) := by
  intro p hp
  rcases List.mem_cons.mp hp with rfl | hp
  · exact N _ (.tail _ (.head _))
  · rcases List.mem_cons.mp hp with rfl | hp
    · exact N _ (.head _)
    · exact N _ (.tail _ (.tail _ hp))
theorem Apart.cons {l a : Addr} {o : Obj} {r : List (Addr × Obj)} (h1 : a ≠ l) (h : Apart l r) : Apart l ((a, o) :: r) := by
  intro p hp
  rcases List.mem_cons.mp hp with rfl | hp
  · exact h1
  · exact h p hp
theorem Apart.nil {l : Addr} : Apart l [] := fun p hp => nomatch hp
theorem Apart.of_lt {l : Addr} {r : List (Addr × Obj)} (h : ∀ p ∈ r, p.1 < l) : Apart l r := fun p hp => Nat.ne_of_lt (h p hp)
/-- an If whose test is decided by a word P and changes no heap -/
theorem x_ifD {M : Model} {A : Around} {E : Value → Shared → Prop} {s : Shared} {hp : Heap} {tk : Nat} {env : Env} {pos : Pos} {QF : Flow → Shared → Prop} {test : Expr} {body orelse rest : List Stmt} (P : Prop) [Decidable P]
    (h : wpAny M A (isTrue test env (eval test env)) (fun c s' => c = decide P ∧ ∃ tk', s' = St s hp tk') E (St s hp tk))
    (ht : P → ∀ tk', wpAny M A (execs body env) (Then M A E rest env QF) E (St s hp tk')) (hf : ¬ P → ∀ tk', wpAny M A (execs orelse env) (Then M A E rest env QF) E (St s hp tk')) :
    wpAny M A (execs (.If test body orelse pos :: rest) env) QF E (St s hp tk) :=
  x_if (wpAny_mono h (fun c s' hc => by
    obtain ⟨e, tk', rfl⟩ := hc
    exact ⟨fun q => ht (of_decide_eq_true (e.symm.trans q)) tk', fun q => hf (of_decide_eq_false (e.symm.trans q)) tk'⟩) fun _ _ x => x)
def Strs (vs : List Value) : Prop := ∀ v ∈ vs, ∃ x t, v = .str x t
end Mine
end
section
open PySem PySem.W PySem.Calls PyProof.Rows
set_option maxRecDepth 100000
set_option maxHeartbeats 1000000
namespace Mine
theorem sub_ri_reversed : isSubtype (.type "range_iterator") (.type "reversed") = pure false := by rw [isSubtype_type]; kernel_rfl

section
variable {prog : Program} {w : World} {A : Around} {E : Value → Shared → Prop} {s : Shared}
abbrev riObj (x left step : Int) : Obj := { cls := .type "range_iterator", data := .fields #[rawInt x, rawInt left, rawInt step] }

theorem rangeFields_at {M : Model} {r : Addr} {a b c : Int} {t u v : Tok} {Q : Int × Int × Int → Shared → Prop} (hr : IsRange s.heap r a b c t u v) (h : Q (a, b, c) s) : wpAny M A (Builtin.Range.rangeFields (.ref r)) Q E s := by
  unfold Builtin.Range.rangeFields
  refine wpAny_bind (wpAny_field hr rfl (x := .int a t) rfl ?_)
  refine wpAny_bind (wpAny_of_eq (a := some a) rfl ?_)
  refine wpAny_bind (wpAny_field hr rfl (x := .int b u) rfl ?_)
  refine wpAny_bind (wpAny_of_eq (a := some b) rfl ?_)
  refine wpAny_bind (wpAny_field hr rfl (x := .int c v) rfl ?_)
  refine wpAny_bind (wpAny_of_eq (a := some c) rfl ?_)
  exact wpAny_pure h
theorem call_range_reversed {r : Addr} {n : Nat} {t u v : Tok} {Q : Value → Shared → Prop} (hr : IsRange s.heap r 0 (n : Int) 1 t u v) (hn : n ≤ 100000)
    (h : Q (.ref s.heap.objs.size) { s with heap := s.heap.push (riObj ((n : Int) - 1) n (-1)) }) : wpAny (model prog w) A (call (.builtin "range.__reversed__") [.ref r]) Q E s := by
  have hT : s.TypeIs (.ref r) "range" := ⟨_, hr, rfl⟩
  refine wpAny_call_entry PySem.F.slot_range_reversed hT PySem.F.entry_range_reversed ?_ (PySem.F.args_range_reversed_1 _)
  unfold Builtin.«range.__reversed__»
  refine wpAny_bind (wpAny_of_eq (a := Value.ref r) rfl ?_)
  refine wpAny_bind (rangeFields_at hr ?_)
  dsimp only
  have hs : Builtin.Range.rangeSize 0 n 1 = n := by rw [rangeSize_one]; split <;> omega
  have hf : (Builtin.Range.rangeFitsLong 0 && Builtin.Range.rangeFitsLong (n : Int) && Builtin.Range.rangeFitsLong 1 && Builtin.Range.rangeFitsLong (-1) && Builtin.Range.rangeFitsLong (0 - 1) && Builtin.Range.rangeFitsLong (Builtin.Range.rangeSize 0 n 1)) = true := by
    rw [hs]
    simp only [Builtin.Range.rangeFitsLong, Bool.and_eq_true, decide_eq_true_eq]
    omega
  rw [hf]
  simp only [Bool.not_true, Bool.false_eq_true, if_false, if_true]
  have e1 : (0 : Int) + (Builtin.Range.rangeSize 0 n 1 - 1) * 1 = (n : Int) - 1 := by rw [hs]; omega
  rw [e1, hs]
  exact wpAny_bind (wpAny_newObj_type (wpAny_pure ⟨_, rfl, h⟩))

theorem code_reversed_range {r : Addr} {n : Nat} {t u v : Tok} {Q₁ : Value → Shared → Prop} (hr : IsRange s.heap r 0 (n : Int) 1 t u v) (hn : n ≤ 100000)
    (h : Q₁ (.ref s.heap.objs.size) { s with heap := s.heap.push (riObj ((n : Int) - 1) n (-1)) }) :
    codeAny (model prog w) A (.call (.builtin "reversed.__new__") ⟨[.type "reversed", .ref r], []⟩) (wants Q₁ E) s := by
  have hT : s.TypeIs (.ref r) "range" := ⟨_, hr, rfl⟩
  refine codeAny_of_tree ?_
  show wpAny _ A.in1 (do checkBuiltinCall "reversed.__new__" ⟨[.type "reversed", .ref r], []⟩; again (.builtin "reversed.__new__" ⟨[.type "reversed", .ref r], []⟩)) _ _ s
  refine wpAny_bind (wpAny_of_eq (PySem.F.newCall_reversed_1 _) (wpAny_pure ⟨plainId_quiet PySem.F.plain_reversed_new _, codeAny_builtin PySem.F.entry_reversed_new ?_⟩))
  rw [Around.under_plainId PySem.F.plain_reversed_new _]
  unfold Builtin.«reversed.__new__»
  refine wpAny_bind (wpAny_of_eq (newClass_reversed _) ?_)
  try dsimp only
  refine wpAny_bind (wpAny_of_eq (a := ()) (by first | rfl | kernel_rfl) ?_)
  refine wpAny_bind (wpAny_of_eq (a := ()) (by first | rfl | kernel_rfl) ?_)
  try dsimp only
  refine wpAny_bind (wpAny_specialOf hT PySem.F.slot_range_reversed.lookup ?_)
  try dsimp only
  refine wpAny_bind (wpAny_of_eq (PySem.F.slot_range_reversed.bind _) ?_)
  try dsimp only
  first
  | rw [if_neg (show ¬ ((Value.builtin "range.__reversed__" == Value.none) = true) from Bool.false_ne_true)]
  | (show wpAny _ _ (if (Value.builtin "range.__reversed__" == Value.none) = true then _ else _) _ _ _; rw [if_neg (show ¬ ((Value.builtin "range.__reversed__" == Value.none) = true) from Bool.false_ne_true)])
  refine wpAny_bind (wpAny_rule ?_)
  refine wpAny_bind (m := runValue (.call (.builtin "range.__reversed__") ⟨[.ref r], []⟩)) (show wpAny _ _ (call (.builtin "range.__reversed__") [.ref r]) _ _ _ from call_range_reversed hr hn ?_)
  first
  | exact wpAny_pure h
  | exact wpAny_bind (wpAny_pure (wpAny_pure h))

theorem call_reversed_range {r : Addr} {n : Nat} {t u v : Tok} {Q : Value → Shared → Prop} (hr : IsRange s.heap r 0 (n : Int) 1 t u v) (hn : n ≤ 100000)
    (h : Q (.ref s.heap.objs.size) { s with heap := s.heap.push (riObj ((n : Int) - 1) n (-1)) }) : wpAny (model prog w) A (call (.type "reversed") [.ref r]) Q E s := by
  refine callType_other (U := "range_iterator") (Q₁ := fun obj s₁ => obj = .ref s.heap.objs.size ∧ s₁ = { s with heap := s.heap.push (riObj ((n : Int) - 1) n (-1)) }) (by decide +kernel) PySem.F.create_reversed ⟨_, _, PySem.F.mro_reversed⟩ PySem.F.made_reversed sub_ri_reversed (PySem.F.typeCall_reversed_1 _) (code_reversed_range hr hn ⟨rfl, rfl⟩) ?_
  rintro obj s₁ ⟨rfl, rfl⟩
  exact ⟨⟨_, Heap.get?_push_size _ rfl, rfl⟩, h⟩
end

section
variable {prog : Program} {w : World} {M : Model} {A : Around} {E : Value → Shared → Prop} {s : Shared} {hp h₀ : Heap} {tk : Nat} {L : Addr} {env : Env} {pos : Pos} {Q : Value → Shared → Prop} {QF : Flow → Shared → Prop} {m : Str → Option Value} {news : List (Addr × Obj)} {e : Expr} {T : String}
theorem cw_type1 (h : wpAny M A (eval e env) (fun v s₁ => wpAny M A (call (.type T) [v]) Q E s₁) E (St s hp tk)) (he : starEach [e] env = [(false, eval e env)] := by rfl) :
    wpAny M A (callWith pos (.type T) [] (backTo pos (starEach [e] env)) []) Q E (St s hp tk) :=
  PySem.Pv.callWith_type1 (spliced_more (wpAny_mono h (fun v s₁ h₁ => spliced_none h₁) fun _ _ x => x) he) he
abbrev rgObj (a b c : Int) (t u v : Tok) : Obj := { cls := .type "range", data := .fields #[.int a t, .int b u, .int c v] }
theorem l_range {n : Int} {t : Tok} (F : Fr h₀ L hp m) (N : News h₀ L hp news)
    (h : ∀ r h' tk' t1 t2, Fr h₀ L h' m → News h₀ L h' ((r, rgObj 0 n 1 t1 t t2) :: news) → (∀ p ∈ news, p.1 < r) → Q (.ref r) (St s h' tk')) : wpAny (model prog w) A (call (.type "range") [.int n t]) Q E (St s hp tk) :=
  call_range_1 (s := St s hp tk) (h _ _ _ _ _ (F.push _) (N.push F _) fun p hp => Heap.lt_size (N p hp).1)
theorem l_reversed {r : Addr} {n : Nat} {t u v : Tok} (F : Fr h₀ L hp m) (N : News h₀ L hp ((r, rgObj 0 n 1 t u v) :: news)) (hn : n ≤ 100000)
    (h : ∀ i h', Fr h₀ L h' m → News h₀ L h' ((i, riObj ((n : Int) - 1) n (-1)) :: news) → (∀ p ∈ news, p.1 < i) → Q (.ref i) (St s h' tk)) : wpAny (model prog w) A (call (.type "reversed") [.ref r]) Q E (St s hp tk) :=
  call_reversed_range (s := St s hp tk) (N _ (.head _)).1 hn (h _ _ (F.push _) (News.push F (fun p hp => N p (.tail _ hp)) _) fun p hp => Heap.lt_size (N p (.tail _ hp)).1)
theorem l_iter {r : Addr} {n : Nat} {t u v : Tok} (F : Fr h₀ L hp m) (N : News h₀ L hp ((r, rgObj 0 n 1 t u v) :: news)) (hn : n ≤ 100000)
    (h : ∀ i h', Fr h₀ L h' m → News h₀ L h' ((i, riObj 0 n 1) :: news) → (∀ p ∈ news, p.1 < i) → Q (.ref i) (St s h' tk)) : wpAny (model prog w) A (pyIter (.ref r)) Q E (St s hp tk) := by
  refine wpAny_pyIter_range (s := St s hp tk) (N _ (.head _)).1 (small_one (by decide) (by decide) (by omega) (by omega)) ?_
  have hs : Builtin.Range.rangeSize 0 n 1 = n := by rw [rangeSize_one]; split <;> omega
  rw [hs]
  exact h _ _ (F.push _) (News.push F (fun p hp => N p (.tail _ hp)) _) fun p hp => Heap.lt_size (N p (.tail _ hp)).1

/-- a for over a range's iterator: what holds between the turns is said of the turn's number, the frame's map and the ledger -/
theorem for_range {z : Str} {zp : Pos} {body : List Stmt} {i : Addr} {a c : Int} {n : Nat} {name : Str} {scope : Scope} {f : Addr} {cd : Value} {h₀ : Heap} {L : Addr} (R : Result → Shared → Prop)
    (J : Nat → (Str → Option Value) → List (Addr × Obj) → Prop) (hh : A.handled = none) (F : Fr h₀ L hp m) (N : News h₀ L hp ((i, riObj a n c) :: news)) (hi : Apart i news) (h0 : J 0 m news)
    (turn : ∀ j tz h' tk' m' news', j < n → J j m' news' → Apart i news' → Fr h₀ L h' (fun y => if y = z then some (.int (a + (j : Nat) * c) tz) else m' y) → News h₀ L h' ((i, riObj (a + (j + 1 : Nat) * c) ((n : Int) - (j + 1 : Nat)) c) :: news') →
      wpAny (model prog w) A (execs body (envOf name scope L f cd)) (fun fl s₃ => match fl with
        | .next | .cont => ∃ h'' tk'' m'' news'', s₃ = St s h'' tk'' ∧ Fr h₀ L h'' m'' ∧ News h₀ L h'' ((i, riObj (a + (j + 1 : Nat) * c) ((n : Int) - (j + 1 : Nat)) c) :: news'') ∧ Apart i news'' ∧ J (j + 1) m'' news''
        | .brk => R (.ok .next) s₃
        | .ret v => R (.ok (.ret v)) s₃) (notedBy (model prog w) A (envOf name scope L f cd) fun e s' => R (.error e) s') (St s h' tk'))
    (done : ∀ h' tk' m' news', J n m' news' → Fr h₀ L h' m' → News h₀ L h' news' → R (.ok .next) (St s h' tk'))
    (hk : scope.kind = .function := by rfl) (hl : (envOf name scope L f cd).kindOf z = some .local := by rfl) :
    codeAny (model prog w) A (.forLoop (.Name z zp) (.ref i) body [] (envOf name scope L f cd)) R (St s hp tk) := by
  refine codeAny_forLoop (fun q s' => ∃ h' tk' m' news' j, s' = St s h' tk' ∧ Fr h₀ L h' m' ∧ News h₀ L h' ((i, riObj (a + (j : Nat) * c) ((n : Int) - (j : Nat)) c) :: news') ∧ Apart i news' ∧ J j m' news' ∧ j ≤ n ∧ n + 1 - j = q) ?_ (n + 1)
    ⟨hp, tk, m, news, 0, rfl, F, by simpa using N, hi, h0, Nat.zero_le _, rfl⟩
  rintro q s' ⟨h', tk', m', news', j, rfl, F', N', hi', hJ, hj, rfl⟩
  have z := N' _ (.head _)
  by_cases hlt : j < n
  · refine wpAny_pyNext_range_item (s := St s h' tk') z.1 (by omega) fun h₁ hit₁ hs₁ => ?_
    have F₁ : Fr h₀ L h₁ m' := F'.change hs₁ z.2.1 z.2.2
    have N₁ : News h₀ L h₁ ((i, riObj (a + (j + 1 : Nat) * c) ((n : Int) - (j + 1 : Nat)) c) :: news') := by
      have e1 : a + ((j + 1 : Nat) : Int) * c = a + (j : Int) * c + c := by push_cast; rw [Int.add_mul, Int.one_mul, Int.add_assoc]
      have e2 : (n : Int) - ((j + 1 : Nat) : Int) = (n : Int) - (j : Int) - 1 := by push_cast; omega
      rw [e1, e2]
      exact news_set (pre := []) N' (fun p hp => nomatch hp) hi' hs₁ hit₁
    refine wpAny_assign_Name (n_store (s := s) (tk := tk' + 1) F₁ N₁ (fun h₂ tk₂ F₂ N₂ => ?_) hk hl)
    refine wpAny_mono (turn j _ h₂ tk₂ m' news' hlt hJ hi' F₂ N₂) (fun fl s₃ h₃ => ?_) fun _ _ e => e
    have fin : (∃ h'' tk'' m'' news'', s₃ = St s h'' tk'' ∧ Fr h₀ L h'' m'' ∧ News h₀ L h'' ((i, riObj (a + (j + 1 : Nat) * c) ((n : Int) - (j + 1 : Nat)) c) :: news'') ∧ Apart i news'' ∧ J (j + 1) m'' news'') →
        ∃ q', q' < n + 1 - j ∧ ∃ h' tk' m' news' j', s₃ = St s h' tk' ∧ Fr h₀ L h' m' ∧ News h₀ L h' ((i, riObj (a + (j' : Nat) * c) ((n : Int) - (j' : Nat)) c) :: news') ∧ Apart i news' ∧ J j' m' news' ∧ j' ≤ n ∧ n + 1 - j' = q' := by
      rintro ⟨h'', tk'', m'', news'', e, F3, N3, hi3, hJ3⟩
      exact ⟨n + 1 - (j + 1), by omega, h'', tk'', m'', news'', j + 1, e, F3, N3, hi3, hJ3, hlt, rfl⟩
    cases fl with
    | next => exact fin h₃
    | cont => exact fin h₃
    | brk => exact h₃
    | ret v => exact h₃
  · obtain rfl : j = n := by omega
    refine wpAny_pyNext_range_end (s := St s h' tk') hh z.1 (by omega) fun h₁ he₁ => wpAny_execs_nil ?_
    refine done h₁ tk' m' news' hJ ⟨F'.ns.extBut he₁ (Ne.symm z.2.1), fun b o e => he₁ b o (fun q => by rw [q, z.2.2] at e; cases e) (F'.keep b o e), F'.above⟩ fun p hp => ?_
    have y := N' p (.tail _ hp)
    exact ⟨he₁ _ _ (hi' p hp) y.1, y.2⟩
end
end Mine
end
section
open PySem PySem.W PySem.Calls PyProof.Rows
set_option maxRecDepth 100000
set_option maxHeartbeats 1000000
namespace Mine


/-! the sifts, over any lt -/
section
variable {α : Type} (lt : α → α → Bool) (d : α)

def sdown (x : α) (start pos : Nat) (xs : List α) : List α :=
  if h : start < pos then
    if lt x (xs.getD ((pos - 1) / 2) d) then sdown x start ((pos - 1) / 2) (xs.set pos (xs.getD ((pos - 1) / 2) d)) else xs.set pos x
  else xs.set pos x
termination_by pos
decreasing_by omega

/-- the lesser child's place -/
def child (c : Nat) (xs : List α) : Nat := if c + 1 < xs.length ∧ lt (xs.getD c d) (xs.getD (c + 1) d) = false then c + 1 else c

def supGo (pos : Nat) (xs : List α) : Nat × List α :=
  if h : 2 * pos + 1 < xs.length then supGo (child lt d (2 * pos + 1) xs) (xs.set pos (xs.getD (child lt d (2 * pos + 1) xs) d)) else (pos, xs)
termination_by xs.length - pos
decreasing_by
  have : child lt d (2 * pos + 1) xs ≥ 2 * pos + 1 := by unfold child; split <;> omega
  rw [List.length_set]; omega

def sup (pos : Nat) (xs : List α) : List α := sdown lt d (xs.getD pos d) pos (supGo lt d pos xs).1 ((supGo lt d pos xs).2.set (supGo lt d pos xs).1 (xs.getD pos d))
end

def ltV (a b : Value) : Bool := decide ((strOf a).cps.toList < (strOf b).cps.toList)


theorem Strs.at {vs : List Value} (h : Strs vs) {i : Nat} (hi : i < vs.length) : ∃ x t, vs[i]? = some (.str x t) ∧ vs.getD i .none = .str x t := by
  obtain ⟨x, t, e⟩ := h vs[i] (List.getElem_mem hi)
  exact ⟨x, t, by rw [List.getElem?_eq_getElem hi, e], by rw [List.getD_eq_getElem?_getD, List.getElem?_eq_getElem hi, e]; rfl⟩
theorem Strs.set {vs : List Value} (h : Strs vs) (i : Nat) {v : Value} (hv : ∃ x t, v = .str x t) : Strs (vs.set i v) := by
  intro u hu
  rcases List.mem_or_eq_of_mem_set hu with hu | rfl
  · exact h u hu
  · exact hv

local macro_rules | `(tactic| walk_at "mn") => `(tactic| (refine n_loc (by assumption) (by first | rfl | assumption) ?_))
local macro_rules | `(tactic| walk_at "ms") => `(tactic| (refine n_store (by assumption) (by assumption) ?_; intro h' tk' F' N'))
local macro_rules | `(tactic| walk_at "mi") => `(tactic| (refine e_int ?_; intro t' tk'))
local macro_rules | `(tactic| walk_at "enter") => `(tactic| ((case k1 => k_is); (case k2 => k_is); (case k3 => exact BindsTo.of_eq rfl); (case k4 => exact locs rfl); (case k5 => decide); (case k6 => rfl); (case k7 => rfl); (case k8 => rfl)))

section
variable {prog : Program} {w : World} {A : Around} {E : Value → Shared → Prop} {s : Shared} {hp h₀ : Heap} {tk : Nat} {L l : Addr} {m : Str → Option Value} {rest : List (Addr × Obj)} {vs : List Value} {n k : Nat} {Q : Value → Shared → Prop}

theorem siftdown_spec {start pos : Nat} {t1 t2 : Tok} (C : Cx w A h₀ L k) (hk : k ≤ 45) (F : Fr h₀ L hp m) (N : News h₀ L hp ((l, listOf vs.toArray n) :: rest)) (ha : Apart l rest) (hS : Strs vs) (hpos : pos < vs.length) (hz : vs.length ≤ 1000)
    (h : ∀ h' tk', Fr h₀ L h' m → News h₀ L h' ((l, listOf (sdown ltV .none (vs.getD pos .none) start pos vs).toArray n) :: rest) → Q .none (St s h' tk')) :
    wpAny (model prog w) A (call (.ref 90) [.ref l, .int start t1, .int pos t2]) Q E (St s hp tk) := by
  refine' call_def (binds := [("heap", .ref l), ("startpos", .int start t1), ("pos", .int pos t2)]) C (by omega) F N ?k1 ?k2 ?k3 ?k4 ?k5 ?k6 ?k7 ?k8 ?_
  walk_at "enter"
  intro g L' h₁ tk' C' F' N'
  obtain ⟨x, tx, e1, e2⟩ := hS.at hpos
  rw [e2] at h
  -- newitem = heap[pos]
  refine x_asg (e_sub ?_)
  walk_at "mn"
  walk_at "mn"
  refine lg_sub N' (by omega) (by omega) e1 ?_
  refine n_store F' N' ?_
  intro h6 tk6 F6 N6
  -- the loop
  refine wpAny_execs_cons (wpAny_While (codeAny_whileLoop (fun j (s' : Shared) => ∃ h tk mm p tp ys, s' = St s h tk ∧ Fr g L' h mm ∧ News g L' h ((l, listOf ys.toArray n) :: rest) ∧
    mm "heap" = some (.ref l) ∧ mm "startpos" = some (.int start t1) ∧ mm "newitem" = some (.str x tx) ∧ mm "pos" = some (.int (p : Nat) tp) ∧ p = j ∧ Strs ys ∧ ys.length = vs.length ∧ p < ys.length ∧
    sdown ltV .none (.str x tx) start p ys = sdown ltV .none (.str x tx) start pos vs) ?_ pos ?_))
  · intro j s' I
    obtain ⟨h2, tk2, mm, p, tp, ys, rfl, F2, N2, i1, i2, i3, i4, rfl, S2, hl2, hp2, hsd⟩ := I
    refine t_cmp ?_
    walk_at "mn"
    walk_at "mn"
    refine c_gt ?_
    rw [sdown] at hsd
    by_cases hlt : start < p
    · rw [if_pos (by simpa using hlt)]
      rw [dif_pos hlt] at hsd
      -- parentpos = pos - 1 >> 1
      refine x_asg (e_bin (e_bin ?_))
      walk_at "mn"
      walk_at "mi"
      refine o_sub ?_; intro t' tk'
      walk_at "mi"
      refine o_shr (by omega) ?_; intro t' tk'
      have hq : ((p : Int) - 1) / 2 = (((p - 1) / 2 : Nat) : Int) := by omega
      rw [hq]
      have hq2 : (p - 1) / 2 < ys.length := by omega
      obtain ⟨y, ty, y1, y2⟩ := S2.at hq2
      rw [y2] at hsd
      walk_at "ms"
      -- parent = heap[parentpos]
      refine x_asg (e_sub ?_)
      walk_at "mn"
      walk_at "mn"
      refine lg_sub (by assumption) (by omega) (by omega) y1 ?_
      walk_at "ms"
      refine x_if (t_cmp ?_)
      walk_at "mn"
      walk_at "mn"
      refine c_ltS ?_
      constructor
      · intro hxy
        rw [if_pos (show ltV (.str x tx) (.str y ty) = true from hxy)] at hsd
        refine x_set ?_
        walk_at "mn"
        walk_at "mn"
        walk_at "mn"
        refine lg_set (by assumption) (by assumption) ha (by omega) (by omega) (by omega) ?_
        intro h5 F5 N5
        refine x_asg ?_
        walk_at "mn"
        refine n_store F5 N5 ?_
        intro h6 tk6 F6 N6
        refine wpAny_execs_cons (wpAny_Continue ?_)
        exact ⟨(p - 1) / 2, by omega, _, _, _, (p - 1) / 2, _, _, rfl, F6, N6, i1, i2, i3, rfl, rfl, S2.set _ ⟨y, ty, rfl⟩, by rw [List.length_set]; exact hl2, by rw [List.length_set]; exact hq2, hsd⟩
      · intro hxy
        rw [if_neg (show ¬ ltV (.str x tx) (.str y ty) = true by rw [show ltV (.str x tx) (.str y ty) = false from hxy]; simp)] at hsd
        refine x_nil ?_
        refine wpAny_execs_cons (wpAny_Break ?_)
        refine x_set ?_
        walk_at "mn"
        walk_at "mn"
        walk_at "mn"
        refine lg_set (by assumption) (by assumption) ha (by omega) (by omega) (by omega) ?_
        intro h5 F5 N5
        refine x_nil ⟨_, _, F5, N5, fun Fz Nz => ?_⟩
        rw [show ((p : Nat) : Int).toNat = p from rfl, hsd] at Nz
        exact h _ _ Fz Nz
    · rw [if_neg (by simpa using hlt)]
      rw [dif_neg hlt] at hsd
      refine x_nil ?_
      refine x_set ?_
      walk_at "mn"
      walk_at "mn"
      walk_at "mn"
      refine lg_set (by assumption) (by assumption) ha (by omega) (by omega) (by omega) ?_
      intro h5 F5 N5
      refine x_nil ⟨_, _, F5, N5, fun Fz Nz => ?_⟩
      rw [show ((p : Nat) : Int).toNat = p from rfl, hsd] at Nz
      exact h _ _ Fz Nz
  · exact ⟨_, _, _, pos, _, vs, rfl, F6, N6, rfl, rfl, rfl, rfl, rfl, hS, rfl, hpos, rfl⟩

theorem siftup_spec {pos : Nat} {t2 : Tok} (C : Cx w A h₀ L k) (hk : k ≤ 44) (F : Fr h₀ L hp m) (N : News h₀ L hp ((l, listOf vs.toArray n) :: rest)) (ha : Apart l rest) (hS : Strs vs) (hpos : pos < vs.length) (hz : vs.length ≤ 1000)
    (h : ∀ h' tk', Fr h₀ L h' m → News h₀ L h' ((l, listOf (sup ltV .none pos vs).toArray n) :: rest) → Q .none (St s h' tk')) :
    wpAny (model prog w) A (call (.ref 97) [.ref l, .int pos t2]) Q E (St s hp tk) := by
  refine' call_def (binds := [("heap", .ref l), ("pos", .int pos t2)]) C (by omega) F N ?k1 ?k2 ?k3 ?k4 ?k5 ?k6 ?k7 ?k8 ?_
  walk_at "enter"
  intro g L' h₁ tk' C' F' N'
  obtain ⟨x, tx, e1, e2⟩ := hS.at hpos
  unfold sup at h
  rw [e2] at h
  refine x_asg (e_call ?_)
  refine n_blt C' F' (by k_is) (by boot_by_name) (by decide) ?_
  refine cw_blt1 ?_
  walk_at "mn"
  refine lg_len N' (by omega) ?_; intro t' tk'
  walk_at "ms"
  refine x_asg ?_
  walk_at "mn"
  walk_at "ms"
  refine x_asg (e_sub ?_)
  walk_at "mn"
  walk_at "mn"
  refine lg_sub (by assumption) (by omega) (by omega) e1 ?_
  walk_at "ms"
  refine x_asg (e_bin (e_bin ?_))
  walk_at "mi"
  walk_at "mn"
  refine o_mul (by mul_fits) ?_; intro t' tk'
  walk_at "mi"
  refine o_add ?_; intro t' tk'
  refine n_store (by assumption) (by assumption) ?_
  intro h6 tk6 F6 N6
  -- the loop
  refine wpAny_execs_cons (wpAny_While (codeAny_whileLoop (fun j (s' : Shared) => ∃ h tk mm p tp tc ts te ys, s' = St s h tk ∧ Fr g L' h mm ∧ News g L' h ((l, listOf ys.toArray n) :: rest) ∧
    mm "heap" = some (.ref l) ∧ mm "startpos" = some (.int pos ts) ∧ mm "endpos" = some (.int (vs.length : Nat) te) ∧ mm "newitem" = some (.str x tx) ∧ mm "pos" = some (.int (p : Nat) tp) ∧ mm "childpos" = some (.int (2 * p + 1 : Nat) tc) ∧ vs.length - p = j ∧ Strs ys ∧ ys.length = vs.length ∧ p < ys.length ∧
    supGo ltV .none p ys = supGo ltV .none pos vs) ?_ (vs.length - pos) ?_))
  · intro j s' I
    obtain ⟨h2, tk2, mm, p, tp, tc, ts, te, ys, rfl, F2, N2, i1, i2, i3, i4, i5, i6, rfl, S2, hl2, hp2, hsd⟩ := I
    refine t_cmp ?_
    walk_at "mn"
    walk_at "mn"
    refine c_lt ?_
    rw [supGo] at hsd
    by_cases hlt : 2 * p + 1 < ys.length
    · rw [if_pos (by simp; omega)]
      rw [dif_pos hlt] at hsd
      have hcd : child ltV .none (2 * p + 1) ys < ys.length ∧ 2 * p + 1 ≤ child ltV .none (2 * p + 1) ys := by unfold child; split <;> omega
      refine x_asg (e_bin ?_)
      walk_at "mn"
      walk_at "mi"
      refine o_add ?_; intro t' tk'
      refine n_store (by assumption) (by assumption) ?_
      intro h3 tk3 F3 N3
      refine x_ifJ (fun s' => ∃ h tk mm' tcc, s' = St s h tk ∧ Fr g L' h mm' ∧ News g L' h ((l, listOf ys.toArray n) :: rest) ∧ mm' "heap" = some (.ref l) ∧ mm' "startpos" = some (.int pos ts) ∧ mm' "endpos" = some (.int (vs.length : Nat) te) ∧ mm' "newitem" = some (.str x tx) ∧ mm' "pos" = some (.int (p : Nat) tp) ∧
        mm' "childpos" = some (.int (child ltV .none (2 * p + 1) ys : Nat) tcc)) (t_and (t_cmp ?_)) ?_
      · walk_at "mn"
        walk_at "mn"
        refine c_lt ⟨fun h1 => ?_, fun h1 => ?_⟩
        · have hr : 2 * p + 1 + 1 < ys.length := by simp at h1; omega
          obtain ⟨a, ta, a1, a2⟩ := S2.at hlt
          obtain ⟨b, tb, b1, b2⟩ := S2.at hr
          refine t_not (t_cmp (e_sub ?_))
          walk_at "mn"
          walk_at "mn"
          refine lg_sub N3 (by omega) (by omega) a1 ?_
          refine e_sub ?_
          walk_at "mn"
          walk_at "mn"
          refine lg_sub N3 (by omega) (by omega) (by rw [show ((2 * p + 1 : Nat) + (1 : Int)).toNat = 2 * p + 1 + 1 by omega]; exact b1) ?_
          refine c_ltS ⟨fun h2 => ?_, fun h2 => ?_⟩
          · refine x_asg ?_
            walk_at "mn"
            refine n_store F3 N3 ?_
            intro h4 tk4 F4 N4
            have hch : child ltV .none (2 * p + 1) ys = 2 * p + 1 + 1 := by
              unfold child; rw [if_pos ⟨hr, by rw [a2, b2]; simpa [ltV, strOf] using h2⟩]
            refine x_nil ⟨rfl, _, _, _, t', rfl, F4, N4, i1, i2, i3, i4, i5, ?_⟩
            rw [hch]
            rfl
          · refine x_nil ⟨rfl, _, _, _, tc, rfl, F3, N3, i1, i2, i3, i4, i5, ?_⟩
            have hch : child ltV .none (2 * p + 1) ys = 2 * p + 1 := by
              unfold child; rw [if_neg (fun hc => by have := hc.2; rw [a2, b2] at this; simp [ltV, strOf] at this h2; exact this h2)]
            rw [hch]
            exact i6
        · refine ⟨(fun h2 => (nomatch h2)), fun _ => ?_⟩
          refine x_nil ⟨rfl, _, _, _, tc, rfl, F3, N3, i1, i2, i3, i4, i5, ?_⟩
          have hch : child ltV .none (2 * p + 1) ys = 2 * p + 1 := by
            unfold child; rw [if_neg (fun hc => by have := hc.1; simp at h1; omega)]
          rw [hch]
          exact i6
      · intro s' hJ
        generalize child ltV .none (2 * p + 1) ys = c at *
        obtain ⟨h3, tk3, m3, tcc, rfl, F3, N3, j1, j2, j3, j4, j5, j6⟩ := hJ
        obtain ⟨a, ta, a1, a2⟩ := S2.at hcd.1
        rw [a2] at hsd
        refine x_set (e_sub ?_)
        walk_at "mn"
        walk_at "mn"
        refine lg_sub N3 (by omega) (by omega) a1 ?_
        walk_at "mn"
        walk_at "mn"
        refine lg_set F3 N3 ha (by omega) (by omega) (by omega) ?_
        intro h5 F5 N5
        refine x_asg ?_
        walk_at "mn"
        walk_at "ms"
        refine x_asg (e_bin (e_bin ?_))
        walk_at "mi"
        walk_at "mn"
        refine o_mul (by mul_fits) ?_; intro t' tk'
        walk_at "mi"
        refine o_add ?_; intro t' tk'
        refine n_store (by assumption) (by assumption) ?_
        intro h6 tk6 F6 N6
        refine x_nil ⟨vs.length - c, by omega, _, _, _, c, _, _, _, _, _, rfl, F6, N6, j1, j2, j3, j4, rfl, rfl, rfl, S2.set _ ⟨a, ta, rfl⟩, by rw [List.length_set]; exact hl2, by rw [List.length_set]; exact hcd.1, hsd⟩
    · rw [if_neg (by simp; omega)]
      rw [dif_neg hlt] at hsd
      refine x_nil ?_
      refine x_set ?_
      walk_at "mn"
      walk_at "mn"
      walk_at "mn"
      refine lg_set (by assumption) (by assumption) ha (by omega) (by omega) (by omega) ?_
      intro h5 F5 N5
      refine x_expr (e_call ?_)
      refine n_top C' F5 (by k_is) ?_
      refine cw_def3 (by k_is) ?_ (C'.X.keeps F5.keep)
      walk_at "mn"
      walk_at "mn"
      walk_at "mn"
      refine ⟨C'.X.keeps F5.keep, ?_⟩
      rw [show ((p : Nat) : Int).toNat = p from rfl] at N5
      have hg : (ys.set p (.str x tx)).getD p .none = .str x tx := by simp [List.getD_eq_getElem?_getD, hp2]
      refine siftdown_spec C' (by omega) F5 N5 ha (S2.set _ ⟨x, tx, rfl⟩) (by rw [List.length_set]; exact hp2) (by rw [List.length_set]; omega) ?_
      intro h7 tk7 F7 N7
      refine x_nil ⟨_, _, F7, N7, fun Fz Nz => ?_⟩
      rw [hg] at Nz
      rw [← hsd] at h
      exact h _ _ Fz Nz
  · exact ⟨_, _, _, pos, _, _, _, _, vs, rfl, F6, N6, rfl, rfl, rfl, rfl, rfl, rfl, rfl, hS, rfl, hpos, rfl⟩
end
end Mine
end
section
namespace Mine
section
variable {α : Type} (lt : α → α → Bool) (d : α)

theorem getD_lt {xs : List α} {i : Nat} (h : i < xs.length) : xs.getD i d = xs[i] := by
  rw [List.getD_eq_getElem?_getD, List.getElem?_eq_getElem h]; rfl

theorem set_swap [DecidableEq α] {xs : List α} {i j : Nat} {x : α} (hi : i < xs.length) (hj : j < xs.length) (hij : i ≠ j) : ((xs.set i xs[j]).set j x).Perm (xs.set i x) := by
  rw [List.perm_iff_count]
  intro c
  have hj' : j < (xs.set i xs[j]).length := by rw [List.length_set]; exact hj
  rw [List.count_set hj', List.count_set hi, List.count_set hi]
  have e : (xs.set i xs[j])[j] = xs[j] := List.getElem_set_ne hij _
  rw [e]
  have h1 : xs[i] = c → 0 < xs.count c := fun e => List.count_pos_iff.mpr (e ▸ List.getElem_mem hi)
  by_cases a : xs[i] = c <;> by_cases b : xs[j] = c <;> by_cases e : x = c <;> simp [a, b, e] <;> (try have := h1 a) <;> omega

theorem sdown_perm [DecidableEq α] (x : α) (start : Nat) : ∀ (pos : Nat) (xs : List α), pos < xs.length → (sdown lt d x start pos xs).Perm (xs.set pos x) := by
  intro pos
  induction pos using Nat.strongRecOn with
  | ind pos ih =>
    intro xs hp
    rw [sdown]
    split
    · rename_i hs
      split
      · have hpar : (pos - 1) / 2 < xs.length := by omega
        rw [getD_lt d hpar]
        refine (ih ((pos - 1) / 2) (by omega) _ (by rw [List.length_set]; exact hpar)).trans (set_swap hp hpar (by omega))
      · exact .refl _
    · exact .refl _

theorem child_lt {c : Nat} {xs : List α} (h : c < xs.length) : child lt d c xs < xs.length ∧ c ≤ child lt d c xs := by unfold child; split <;> omega

theorem supGo_perm [DecidableEq α] (x : α) : ∀ (k pos : Nat) (xs : List α), xs.length - pos = k → pos < xs.length → (supGo lt d pos xs).1 < (supGo lt d pos xs).2.length ∧ ((supGo lt d pos xs).2.set (supGo lt d pos xs).1 x).Perm (xs.set pos x) := by
  intro k
  induction k using Nat.strongRecOn with
  | ind k ih =>
    intro pos xs hk hp
    rw [supGo]
    split
    · rename_i hc
      have hch := child_lt lt d hc
      rw [getD_lt d hch.1]
      have := ih (xs.length - child lt d (2 * pos + 1) xs) (by omega) (child lt d (2 * pos + 1) xs) (xs.set pos xs[child lt d (2 * pos + 1) xs]) (by rw [List.length_set]) (by rw [List.length_set]; exact hch.1)
      exact ⟨this.1, this.2.trans (set_swap hp hch.1 (by omega))⟩
    · exact ⟨hp, .refl _⟩

theorem sup_perm [DecidableEq α] {pos : Nat} {xs : List α} (hp : pos < xs.length) : (sup lt d pos xs).Perm xs := by
  unfold sup
  have h := supGo_perm lt d (xs.getD pos d) _ pos xs rfl hp
  refine (sdown_perm lt d _ _ _ _ (by rw [List.length_set]; exact h.1)).trans ?_
  rw [List.set_set]
  refine h.2.trans ?_
  rw [getD_lt d hp, List.set_getElem_self]

/-! the five calls, over any lt -/
def push (x : α) (xs : List α) : List α := sdown lt d x 0 xs.length (xs ++ [x])
def popRest (xs : List α) : List α := if xs.length ≤ 1 then [] else sup lt d 0 (xs.dropLast.set 0 (xs.getD (xs.length - 1) d))
def repl (x : α) (xs : List α) : List α := sup lt d 0 (xs.set 0 x)
def hfy : Nat → List α → List α
  | 0, xs => xs
  | i + 1, xs => hfy i (sup lt d i xs)
def heapify (xs : List α) : List α := hfy lt d (xs.length / 2) xs

theorem push_perm [DecidableEq α] (x : α) (xs : List α) : (push lt d x xs).Perm (xs ++ [x]) := by
  unfold push
  refine (sdown_perm lt d x 0 _ _ (by simp)).trans ?_
  rw [List.set_append_right _ _ (Nat.le_refl _)]
  simp
theorem hfy_perm [DecidableEq α] : ∀ (i : Nat) (xs : List α), i ≤ xs.length → (hfy lt d i xs).Perm xs
  | 0, _, _ => .refl _
  | i + 1, xs, h => by
    have p := sup_perm lt d (pos := i) (xs := xs) (by omega)
    exact (hfy_perm i _ (by rw [p.length_eq]; omega)).trans p
theorem heapify_perm [DecidableEq α] (xs : List α) : (heapify lt d xs).Perm xs := hfy_perm lt d _ _ (by omega)
theorem repl_perm [DecidableEq α] {x : α} {xs : List α} (h : 0 < xs.length) : (repl lt d x xs).Perm (xs.set 0 x) := sup_perm lt d (by rw [List.length_set]; exact h)
theorem popRest_perm [DecidableEq α] {xs : List α} (h : 0 < xs.length) : (xs.getD 0 d :: popRest lt d xs).Perm xs := by
  unfold popRest
  split
  · match xs, h with
    | [a], _ => exact .refl _
    | a :: b :: r, _ => rename_i h1; simp at h1
  · rename_i h1
    obtain ⟨a, b, r, rfl⟩ : ∃ a b r, xs = a :: b :: r := by
      match xs, h1 with
      | [], h1 => simp at h1
      | [_], h1 => simp at h1
      | a :: b :: r, _ => exact ⟨a, b, r, rfl⟩
    have hl : (a :: b :: r).getD ((a :: b :: r).length - 1) d = (a :: b :: r).getLast (by simp) := by
      rw [getD_lt d (by simp), List.getLast_eq_getElem]
    rw [hl]
    refine ((sup_perm lt d (pos := 0) (by simp)).cons _).trans ?_
    have e : (a :: b :: r).dropLast = a :: (b :: r).dropLast := rfl
    have e2 : (a :: b :: r).getLast (by simp) = (b :: r).getLast (by simp) := by simp [List.getLast_cons]
    rw [e, e2, List.set_cons_zero]
    show (a :: (b :: r).getLast _ :: (b :: r).dropLast).Perm _
    refine List.Perm.cons _ ?_
    have := List.dropLast_concat_getLast (l := b :: r) (by simp)
    exact (List.perm_append_comm (l₁ := [(b :: r).getLast (by simp)]) (l₂ := (b :: r).dropLast)).trans (by rw [this])
end
open PySem
theorem Strs.perm {vs us : List Value} (h : Strs vs) (p : us.Perm vs) : Strs us := fun v hv => h v (p.mem_iff.mp hv)
end Mine
end
section
open PySem PySem.W PySem.Calls PyProof.Rows
set_option maxRecDepth 100000
set_option maxHeartbeats 1000000
namespace Mine

local macro_rules | `(tactic| walk_at "mn") => `(tactic| (refine n_loc (by assumption) (by first | rfl | assumption) ?_))
local macro_rules | `(tactic| walk_at "ms") => `(tactic| (refine n_store (by assumption) (by assumption) ?_; intro h' tk' F' N'))
local macro_rules | `(tactic| walk_at "mi") => `(tactic| (refine e_int ?_; intro t' tk'))
local macro_rules | `(tactic| walk_at "enter") => `(tactic| ((case k1 => k_is); (case k2 => k_is); (case k3 => exact BindsTo.of_eq rfl); (case k4 => exact locs rfl); (case k5 => decide); (case k6 => rfl); (case k7 => rfl); (case k8 => rfl)))

section
variable {prog : Program} {w : World} {A : Around} {E : Value → Shared → Prop} {s : Shared} {hp h₀ : Heap} {tk : Nat} {L l : Addr} {m : Str → Option Value} {rest : List (Addr × Obj)} {vs : List Value} {n k : Nat} {x : Str} {tx : Tok} {Q : Value → Shared → Prop}

theorem heappush_spec (C : Cx w A h₀ L k) (hk : k ≤ 40) (F : Fr h₀ L hp m) (N : News h₀ L hp ((l, listOf vs.toArray n) :: rest)) (ha : Apart l rest) (hS : Strs vs) (hz : vs.length ≤ 900)
    (h : ∀ h' tk' n', Fr h₀ L h' m → News h₀ L h' ((l, listOf (push ltV .none (.str x tx) vs).toArray n') :: rest) → Q .none (St s h' tk')) :
    wpAny (model prog w) A (call (.ref 55) [.ref l, .str x tx]) Q E (St s hp tk) := by
  refine' call_def (binds := [("heap", .ref l), ("item", .str x tx)]) C (by omega) F N ?k1 ?k2 ?k3 ?k4 ?k5 ?k6 ?k7 ?k8 ?_
  walk_at "enter"
  intro g L' h₁ tk' C' F' N'
  refine x_expr (e_meth ?_)
  walk_at "mn"
  refine m_list N' PySem.F.slot_list_append PySem.F.type_list_append ?_
  refine cw_m1 ?_
  walk_at "mn"
  refine lg_append F' N' ha (by omega) ?_
  intro h2 F2 N2
  refine x_expr (e_call ?_)
  refine n_top C' F2 (by k_is) ?_
  refine cw_def3 (by k_is) ?_ (C'.X.keeps F2.keep)
  walk_at "mn"
  walk_at "mi"
  refine e_bin (e_call ?_)
  refine n_blt C' F2 (by k_is) (by boot_by_name) (by decide) ?_
  refine cw_blt1 ?_
  walk_at "mn"
  refine lg_len N2 (by simp; omega) ?_; intro t' tk'
  walk_at "mi"
  refine o_sub ?_; intro t' tk'
  refine ⟨C'.X.keeps F2.keep, ?_⟩
  have e : ((vs ++ [Value.str x tx]).length : Int) - 1 = (vs.length : Nat) := by simp
  rw [e]
  have hS2 : Strs (vs ++ [Value.str x tx]) := by
    intro v hv
    rcases List.mem_append.mp hv with hv | hv
    · exact hS v hv
    · exact ⟨x, tx, List.mem_singleton.mp hv⟩
  refine siftdown_spec (start := 0) C' (by omega) F2 N2 ha hS2 (by simp) (by simp; omega) ?_
  intro h3 tk3 F3 N3
  refine x_nil ⟨_, _, F3, N3, fun Fz Nz => ?_⟩
  have eg : (vs ++ [Value.str x tx]).getD vs.length .none = .str x tx := by simp [List.getD_eq_getElem?_getD]
  rw [eg] at Nz
  exact h _ _ _ Fz Nz

/-- behind a pop or a place laid anew: heap[0] = .., _siftup(heap, 0) -/
theorem heapreplace_spec (C : Cx w A h₀ L k) (hk : k ≤ 40) (F : Fr h₀ L hp m) (N : News h₀ L hp ((l, listOf vs.toArray n) :: rest)) (ha : Apart l rest) (hS : Strs vs) (h0 : 0 < vs.length) (hz : vs.length ≤ 900)
    (h : ∀ h' tk', Fr h₀ L h' m → News h₀ L h' ((l, listOf (repl ltV .none (.str x tx) vs).toArray n) :: rest) → Q (vs.getD 0 .none) (St s h' tk')) :
    wpAny (model prog w) A (call (.ref 69) [.ref l, .str x tx]) Q E (St s hp tk) := by
  refine' call_def (binds := [("heap", .ref l), ("item", .str x tx)]) C (by omega) F N ?k1 ?k2 ?k3 ?k4 ?k5 ?k6 ?k7 ?k8 ?_
  walk_at "enter"
  intro g L' h₁ tk' C' F' N'
  obtain ⟨y, ty, y1, y2⟩ := hS.at h0
  rw [y2] at h
  refine x_asg (e_sub ?_)
  walk_at "mn"
  walk_at "mi"
  refine lg_sub N' (by omega) (by omega) y1 ?_
  walk_at "ms"
  refine x_set ?_
  walk_at "mn"
  walk_at "mn"
  walk_at "mi"
  refine lg_set (by assumption) (by assumption) ha (by omega) (by omega) (by omega) ?_
  intro h2 F2 N2
  refine x_expr (e_call ?_)
  refine n_top C' F2 (by k_is) ?_
  refine cw_def2 (by k_is) ?_ (C'.X.keeps F2.keep)
  walk_at "mn"
  walk_at "mi"
  refine ⟨C'.X.keeps F2.keep, ?_⟩
  refine siftup_spec (pos := 0) C' (by omega) F2 N2 ha (hS.set _ ⟨x, tx, rfl⟩) (by simpa using h0) (by simp; omega) ?_
  intro h3 tk3 F3 N3
  refine x_ret ?_
  walk_at "mn"
  exact ⟨_, _, F3, N3, fun Fz Nz => h _ _ Fz Nz⟩

theorem heappop_spec (C : Cx w A h₀ L k) (hk : k ≤ 40) (F : Fr h₀ L hp m) (N : News h₀ L hp ((l, listOf vs.toArray n) :: rest)) (ha : Apart l rest) (hS : Strs vs) (h0 : 0 < vs.length) (hz : vs.length ≤ 900)
    (h : ∀ h' tk' n', Fr h₀ L h' m → News h₀ L h' ((l, listOf (popRest ltV .none vs).toArray n') :: rest) → Q (vs.getD 0 .none) (St s h' tk')) :
    wpAny (model prog w) A (call (.ref 62) [.ref l]) Q E (St s hp tk) := by
  refine' call_def (binds := [("heap", .ref l)]) C (by omega) F N ?k1 ?k2 ?k3 ?k4 ?k5 ?k6 ?k7 ?k8 ?_
  walk_at "enter"
  intro g L' h₁ tk' C' F' N'
  have hne : vs ≠ [] := by intro e; rw [e] at h0; simp at h0
  have hvs := List.dropLast_concat_getLast hne
  obtain ⟨z, tz, ez⟩ := hS _ (List.getLast_mem hne)
  rw [ez] at hvs
  have hS2 : Strs vs.dropLast := fun v hv => hS v (List.dropLast_subset _ hv)
  have hlen : vs.length = vs.dropLast.length + 1 := by rw [List.length_dropLast]; omega
  have hlast : vs.getD (vs.length - 1) .none = .str z tz := by
    rw [getD_lt Value.none (by omega), ← ez, List.getLast_eq_getElem]
  refine x_asg (e_meth ?_)
  walk_at "mn"
  refine m_list N' PySem.F.slot_list_pop PySem.F.type_list_pop ?_
  refine cw_m0 ?_
  rw [← hvs] at N'
  refine lg_pop F' N' ha (by omega) ?_
  intro h2 F2 N2
  refine n_store F2 N2 ?_
  intro h3 tk3 F3 N3
  refine x_if (t_plain ?_)
  walk_at "mn"
  refine lg_truth N3 (by omega) ?_
  intro tk4
  refine ⟨fun hc => ?_, fun hc => ?_⟩
  · have hd0 : 0 < vs.dropLast.length := by simpa using hc
    obtain ⟨y, ty, y1, y2⟩ := hS2.at hd0
    have hy : vs.getD 0 .none = .str y ty := by
      rw [getD_lt Value.none h0, ← y2, getD_lt Value.none hd0, List.getElem_dropLast]
    rw [hy] at h
    refine x_asg (e_sub ?_)
    walk_at "mn"
    walk_at "mi"
    refine lg_sub N3 (by omega) (by omega) y1 ?_
    walk_at "ms"
    refine x_set ?_
    walk_at "mn"
    walk_at "mn"
    walk_at "mi"
    refine lg_set (by assumption) (by assumption) ha (by omega) (by omega) (by omega) ?_
    intro h5 F5 N5
    refine x_expr (e_call ?_)
    refine n_top C' F5 (by k_is) ?_
    refine cw_def2 (by k_is) ?_ (C'.X.keeps F5.keep)
    walk_at "mn"
    walk_at "mi"
    refine ⟨C'.X.keeps F5.keep, ?_⟩
    refine siftup_spec (pos := 0) C' (by omega) F5 N5 ha (hS2.set _ ⟨z, tz, rfl⟩) (by simp; omega) (by simp; omega) ?_
    intro h6 tk6 F6 N6
    refine x_ret ?_
    walk_at "mn"
    refine ⟨_, _, F6, N6, fun Fz Nz => ?_⟩
    have e : popRest ltV .none vs = sup ltV .none 0 (vs.dropLast.set 0 (.str z tz)) := by
      unfold popRest; rw [if_neg (by omega), hlast]
    rw [e] at h
    exact h _ _ _ Fz Nz
  · have hd0 : vs.dropLast.length = 0 := by simpa using hc
    refine x_nil ?_
    refine x_ret ?_
    walk_at "mn"
    refine ⟨_, _, F3, N3, fun Fz Nz => ?_⟩
    have e : popRest ltV .none vs = [] := by unfold popRest; rw [if_pos (by omega)]
    have e3 : vs.dropLast = [] := List.eq_nil_of_length_eq_zero hd0
    have e2 : vs.getD 0 .none = .str z tz := by rw [← hlast, hlen, hd0]
    rw [e, e2] at h
    rw [e3] at Nz
    exact h _ _ _ Fz Nz

/-- what heappushpop gives back, and leaves -/
def ppVal (x : Value) (vs : List Value) : Value := if 0 < vs.length ∧ ltV (vs.getD 0 .none) x = true then vs.getD 0 .none else x
def ppRest (x : Value) (vs : List Value) : List Value := if 0 < vs.length ∧ ltV (vs.getD 0 .none) x = true then repl ltV .none x vs else vs

theorem heappushpop_spec (C : Cx w A h₀ L k) (hk : k ≤ 40) (F : Fr h₀ L hp m) (N : News h₀ L hp ((l, listOf vs.toArray n) :: rest)) (ha : Apart l rest) (hS : Strs vs) (hz : vs.length ≤ 900)
    (h : ∀ h' tk', Fr h₀ L h' m → News h₀ L h' ((l, listOf (ppRest (.str x tx) vs).toArray n) :: rest) → Q (ppVal (.str x tx) vs) (St s h' tk')) :
    wpAny (model prog w) A (call (.ref 76) [.ref l, .str x tx]) Q E (St s hp tk) := by
  refine' call_def (binds := [("heap", .ref l), ("item", .str x tx)]) C (by omega) F N ?k1 ?k2 ?k3 ?k4 ?k5 ?k6 ?k7 ?k8 ?_
  walk_at "enter"
  intro g L' h₁ tk' C' F' N'
  refine x_if (t_and (t_plain ?_))
  walk_at "mn"
  refine lg_truth N' (by omega) ?_
  intro tk2
  refine ⟨fun hc => ?_, fun hc => ⟨(fun h2 => (nomatch h2)), fun _ => ?_⟩⟩
  · have h0 : 0 < vs.length := by simpa using hc
    obtain ⟨y, ty, y1, y2⟩ := hS.at h0
    refine t_cmp (e_sub ?_)
    walk_at "mn"
    walk_at "mi"
    refine lg_sub N' (by omega) (by omega) y1 ?_
    walk_at "mn"
    refine c_ltS ⟨fun hlt => ?_, fun hlt => ?_⟩
    · have hp1 : ppVal (.str x tx) vs = .str y ty := by unfold ppVal; rw [y2, if_pos ⟨h0, hlt⟩]
      have hp2 : ppRest (.str x tx) vs = repl ltV .none (.str x tx) vs := by unfold ppRest; rw [y2, if_pos ⟨h0, hlt⟩]
      rw [hp1, hp2] at h
      refine x_pair (e_tup2 (e_sub ?_))
      walk_at "mn"
      walk_at "mi"
      refine lg_sub N' (by omega) (by omega) y1 ?_
      walk_at "mn"
      refine newTuple_L F' N' (by simp) ?_
      intro a h2 F2 N2 lt2
      refine ⟨a, _, _, _, _, _, _, _, _, rfl, rfl, C'.hh, F2, N2, fun h3 F3 N3 => ?_⟩
      refine a_name ?_
      refine n_store F3 N3 ?_
      intro h4 tk4 F4 N4
      refine a_sub ?_
      walk_at "mn"
      walk_at "mi"
      refine lg_set F4 N4 ha (by omega) (by omega) (by omega) ?_
      intro h5 F5 N5
      refine x_expr (e_call ?_)
      refine n_top C' F5 (by k_is) ?_
      refine cw_def2 (by k_is) ?_ (C'.X.keeps F5.keep)
      walk_at "mn"
      walk_at "mi"
      refine ⟨C'.X.keeps F5.keep, ?_⟩
      refine siftup_spec (pos := 0) C' (by omega) F5 N5 ha (hS.set _ ⟨x, tx, rfl⟩) (by simpa using h0) (by simp; omega) ?_
      intro h6 tk6 F6 N6
      refine x_nil ?_
      refine x_ret ?_
      walk_at "mn"
      exact ⟨_, _, F6, N6, fun Fz Nz => h _ _ Fz Nz⟩
    · have hn : ¬ (0 < vs.length ∧ ltV (vs.getD 0 .none) (.str x tx) = true) := fun q => by
        have := q.2; rw [y2, show ltV (.str y ty) (.str x tx) = false from hlt] at this; cases this
      have hp1 : ppVal (.str x tx) vs = .str x tx := by unfold ppVal; rw [if_neg hn]
      have hp2 : ppRest (.str x tx) vs = vs := by unfold ppRest; rw [if_neg hn]
      rw [hp1, hp2] at h
      refine x_nil ?_
      refine x_ret ?_
      walk_at "mn"
      exact ⟨_, _, F', N', fun Fz Nz => h _ _ Fz Nz⟩
  · have hn : ¬ (0 < vs.length ∧ ltV (vs.getD 0 .none) (.str x tx) = true) := fun q => by
      exact (decide_eq_false_iff_not.mp hc) q.1
    have hp1 : ppVal (.str x tx) vs = .str x tx := by unfold ppVal; rw [if_neg hn]
    have hp2 : ppRest (.str x tx) vs = vs := by unfold ppRest; rw [if_neg hn]
    rw [hp1, hp2] at h
    refine x_nil ?_
    refine x_ret ?_
    walk_at "mn"
    exact ⟨_, _, F', N', fun Fz Nz => h _ _ Fz Nz⟩

theorem heapify_spec (C : Cx w A h₀ L k) (hk : k ≤ 40) (F : Fr h₀ L hp m) (N : News h₀ L hp ((l, listOf vs.toArray n) :: rest)) (ha : Apart l rest) (hS : Strs vs) (hz : vs.length ≤ 900)
    (h : ∀ h' tk', Fr h₀ L h' m → News h₀ L h' ((l, listOf (heapify ltV .none vs).toArray n) :: rest) → Q .none (St s h' tk')) :
    wpAny (model prog w) A (call (.ref 83) [.ref l]) Q E (St s hp tk) := by
  refine' call_def (binds := [("x", .ref l)]) C (by omega) F N ?k1 ?k2 ?k3 ?k4 ?k5 ?k6 ?k7 ?k8 ?_
  walk_at "enter"
  intro g L' h₁ tk' C' F' N'
  refine x_asg (e_call ?_)
  refine n_blt C' F' (by k_is) (by boot_by_name) (by decide) ?_
  refine cw_blt1 ?_
  walk_at "mn"
  refine lg_len N' (by omega) ?_; intro t1 tk1
  refine n_store F' N' ?_
  intro h2 tk2 F2 N2
  refine wpAny_execs_cons (wpAny_For (e_call ?_))
  refine n_blt C' F2 (by k_is) (by boot_by_name) (by decide) ?_
  refine cw_type1 (e_call ?_)
  refine n_blt C' F2 (by k_is) (by boot_by_name) (by decide) ?_
  refine cw_type1 (e_bin ?_)
  walk_at "mn"
  walk_at "mi"
  refine o_fdiv (by decide) (Or.inl (PyProof.noPylong_small (by omega))) ?_; intro t3 tk3
  have hq : Int.fdiv (vs.length : Nat) 2 = ((vs.length / 2 : Nat) : Int) := by
    rw [Int.fdiv_eq_ediv_of_nonneg _ (by decide)]; omega
  rw [hq]
  refine l_range F2 N2 ?_
  intro r h3 tk4 t4 t5 F3 N3 lt3
  refine l_reversed F3 N3 (by omega) ?_
  intro i h4 F4 N4 lt4
  refine wpAny_pyIter_rangeiter (s := St s h4 tk4) (N4 _ (.head _)).1 ?_
  have hli : l < i := lt4 _ (.head _)
  have hil : ∀ vs' n', Apart i ((l, listOf vs' n') :: rest) := fun vs' n' => Apart.cons (Nat.ne_of_lt hli) fun p hp => Nat.ne_of_lt (lt4 _ (.tail _ hp))
  refine for_range _ (fun j mm nw => mm "x" = some (.ref l) ∧ ∃ ys : List Value, nw = (l, listOf ys.toArray n) :: rest ∧ Strs ys ∧ ys.length = vs.length ∧ hfy ltV .none (vs.length / 2 - j) ys = heapify ltV .none vs) C'.hh F4 N4 (hil _ _) ⟨rfl, vs, rfl, hS, rfl, rfl⟩ ?_ ?_
  · rintro j tz h5 tk5 mm nw hj ⟨i1, ys, rfl, S2, hl2, hh2⟩ hap F5 N5
    refine x_expr (e_call ?_)
    refine n_top C' F5 (by k_is) ?_
    refine cw_def2 (by k_is) ?_ (C'.X.keeps F5.keep)
    walk_at "mn"
    walk_at "mn"
    refine ⟨C'.X.keeps F5.keep, ?_⟩
    have e : ((vs.length / 2 : Nat) : Int) - 1 + (j : Nat) * (-1) = ((vs.length / 2 - (j + 1) : Nat) : Int) := by omega
    rw [e]
    refine siftup_spec C' (by omega) F5 (nw_swap N5) (Apart.cons (Nat.ne_of_gt hli) ha) S2 (by omega) (by omega) ?_
    intro h6 tk6 F6 N6
    have hp := sup_perm ltV Value.none (pos := vs.length / 2 - (j + 1)) (xs := ys) (by omega)
    refine x_nil ⟨h6, tk6, _, _, rfl, F6, nw_swap N6, hil _ _, i1, _, rfl, S2.perm hp, hp.length_eq.trans hl2, ?_⟩
    · rw [← hh2, show vs.length / 2 - j = (vs.length / 2 - (j + 1)) + 1 by omega]
      rfl
  · rintro h5 tk5 mm nw ⟨i1, ys, rfl, S2, hl2, hh2⟩ F5 N5
    rw [Nat.sub_self] at hh2
    refine x_nil ⟨_, _, F5, N5, fun Fz Nz => ?_⟩
    rw [show ys = heapify ltV .none vs from hh2] at Nz
    exact h _ _ Fz Nz
end
end Mine
end
section
open PySem PySem.W PySem.Calls PyProof.Rows
set_option maxRecDepth 100000
set_option maxHeartbeats 1000000
namespace Mine
theorem slot_re_sub : Slot "re.Pattern" "sub" "re.Pattern.sub" :=
  .of (owner := "re.Pattern") (n := "sub") (by rw [typeLookup_type, builtinLookup_eq_fast]; kernel_rfl) (by decide +kernel) (by decide +kernel) (by decide +kernel)
    (by first | exact .inl (by decide +kernel) | exact .inr (by decide +kernel)) (by rw [isSubtype_type]; kernel_rfl)
theorem entry_re_sub : entryFor table "re.Pattern.sub" = some Builtin.«re.Pattern.sub» := entryFor_of_tree (by kernel_rfl)
theorem entry_re_loop : entryFor table "re.Pattern.sub.loop" = some Builtin.«re.Pattern.sub.loop» := entryFor_of_tree (by kernel_rfl)
theorem plain_re_loop : plainId "re.Pattern.sub.loop" = true := by decide +kernel
theorem args_re_sub (a b c : Value) : argsOk "re.Pattern.sub" ⟨[a, b, c], []⟩ := by unfold argsOk; kernel_rfl
theorem type_re_sub : typeOf (.builtin "re.Pattern.sub") = pure (.type "method_descriptor") := by show builtinType _ = _; rw [builtinType_eq_fast]; kernel_rfl
end Mine
end
section
open PySem PySem.Sre
set_option maxRecDepth 100000
set_option maxHeartbeats 1000000
namespace Mine

theorem runFor_stop {m : M} (h : m.outcome.isSome = true) : ∀ n, M.runFor n m = m
  | 0 => rfl
  | n + 1 => by rw [M.runFor, if_pos h]
theorem runFor_add (m : M) : ∀ a b, M.runFor (a + b) m = M.runFor b (M.runFor a m)
  | 0, b => by rw [Nat.zero_add]; rfl
  | a + 1, b => by
    rw [show a + 1 + b = (a + b) + 1 by omega]
    by_cases h : m.outcome.isSome = true
    · rw [runFor_stop h, runFor_stop h, runFor_stop h]
    · rw [M.runFor, if_neg h, M.runFor, if_neg h, runFor_add _ a b]
theorem runFor_one {m : M} (h : m.outcome = none) : M.runFor 1 m = m.step := by
  rw [M.runFor, h]; rfl

def code1 : Array Nat := #[14, 4, 0, 1, 1, 6, 1, 16, 46, 1]

/-- a try at s -/
def st1 (t : Array Nat) (s : Nat) (o must : Bool) (sn : Seen) : M :=
  { code := code1, text := t, lim := t.size, start := s, lastStart := t.size, wholeText := false, mustAdvance := must, pc := 5, pos := s, handed := s, outermost := o, marks := #[], lastmark := -1, lastindex := -1, loops := #[], inner := none,
    frames := [{ wait := .nextStart, pc := 5, pos := s, outermost := o }], weight := 1, answer := none, seen := sn, outcome := none }
/-- it has said no -/
def no1 (t : Array Nat) (s : Nat) (o must : Bool) (pc pos : Nat) (sn : Seen) : M :=
  { code := code1, text := t, lim := t.size, start := s, lastStart := t.size, wholeText := false, mustAdvance := must, pc := pc, pos := pos, handed := s, outermost := o, marks := #[], lastmark := -1, lastindex := -1, loops := #[], inner := none,
    frames := [{ wait := .nextStart, pc := 5, pos := s, outermost := o }], weight := 1, answer := some false, seen := sn, outcome := none }

def bol (t : Array Nat) (s : Nat) : Bool := s == 0 || t.getD (s - 1) 0 == 10

theorem st1_no {t : Array Nat} {s : Nat} {o must : Bool} {sn : Seen} (h : bol t s = false) : ∃ sn', (st1 t s o must sn).step = no1 t s o must 5 s sn' := by
  unfold bol at h
  refine ⟨(sn.add 6).add 44, ?_⟩
  unfold M.step
  rw [if_neg (by simp [st1])]
  show (if (5 : Nat) < code1.size then (st1 t s o must sn).exec else _) = _
  rw [if_pos (by decide)]
  unfold M.exec
  have : ops[(st1 t s o must sn).word 0]? = some .AT := by rfl
  simp only [this]
  have h2 : (M.isAt { st1 t s o must sn with seen := (st1 t s o must sn).seen.add ((st1 t s o must sn).word 0) } (M.word { st1 t s o must sn with seen := (st1 t s o must sn).seen.add ((st1 t s o must sn).word 0) } 1)) = .ok false := by
    show Except.ok (s == 0 || t.getD (s - 1) 0 == 10) = _
    rw [h]
  rw [h2]
  rfl
theorem no1_next {t : Array Nat} {s pc pos : Nat} {o must : Bool} {sn : Seen} (h : s < t.size) : (no1 t s o must pc pos sn).step = st1 t (s + 1) false false sn := by
  unfold M.step
  rw [if_neg (by simp [no1])]
  show M.resume _ _ false = _
  unfold M.resume
  show (if s < t.size then _ else _) = _
  rw [if_pos h]
  rfl
theorem no1_end {t : Array Nat} {s pc pos : Nat} {o must : Bool} {sn : Seen} (h : ¬ s < t.size) : ∃ m', ((no1 t s o must pc pos sn).step).step = m' ∧ (no1 t s o must pc pos sn).step.outcome = none ∧ m'.outcome = some .failed ∧ m'.seen = sn := by
  refine ⟨_, rfl, ?_, ?_, ?_⟩ <;>
  · have e : (no1 t s o must pc pos sn).step = { no1 t s o must 5 s sn with frames := [], weight := 0 } := by
      unfold M.step
      rw [if_neg (by simp [no1])]
      show M.resume _ _ false = _
      unfold M.resume
      show (if s < t.size then _ else _) = _
      rw [if_neg h]
      rfl
    rw [e]
    rfl

/-- at a line's beginning: no dot | a dot -/
theorem st1_nodot {t : Array Nat} {s : Nat} {o must : Bool} {sn : Seen} (h : bol t s = true) (hd : ¬ (s < t.size ∧ t.getD s 0 = 46)) : ∃ sn', (st1 t s o must sn).step.outcome = none ∧ (st1 t s o must sn).step.step = no1 t s o must 7 s sn' := by
  unfold bol at h
  have e1 : (st1 t s o must sn).step = { st1 t s o must ((sn.add 6).add 44) with pc := 7 } := by
    unfold M.step
    rw [if_neg (by simp [st1])]
    show (if (5 : Nat) < code1.size then (st1 t s o must sn).exec else _) = _
    rw [if_pos (by decide)]
    unfold M.exec
    have : ops[(st1 t s o must sn).word 0]? = some .AT := by rfl
    simp only [this]
    have h2 : (M.isAt { st1 t s o must sn with seen := (st1 t s o must sn).seen.add ((st1 t s o must sn).word 0) } (M.word { st1 t s o must sn with seen := (st1 t s o must sn).seen.add ((st1 t s o must sn).word 0) } 1)) = .ok true := by
      show Except.ok (s == 0 || t.getD (s - 1) 0 == 10) = _
      rw [h]
    rw [h2]
    rfl
  refine ⟨((sn.add 6).add 44).add 16, by rw [e1]; rfl, ?_⟩
  rw [e1]
  unfold M.step
  rw [if_neg (by simp [st1])]
  show (if (7 : Nat) < code1.size then M.exec _ else _) = _
  rw [if_pos (by decide)]
  unfold M.exec
  have : ops[M.word { st1 t s o must ((sn.add 6).add 44) with pc := 7 } 0]? = some .LITERAL := by rfl
  simp only [this]
  by_cases hs : s < t.size
  · show (if s ≥ t.size then _ else _) = _
    rw [if_neg (by omega)]
    have h2 : (t.getD s 0 == 46) = false := by
      rw [beq_eq_false_iff_ne]; exact fun q => hd ⟨hs, q⟩
    show (match (Except.ok (t.getD s 0 == 46, ((sn.add 6).add 44).add 16) : Except String (Bool × Seen)) with | .error why => _ | .ok (false, seen) => _ | .ok (true, seen) => _) = _
    rw [h2]
    rfl
  · show (if s ≥ t.size then _ else _) = _
    rw [if_pos (by omega)]
    rfl
theorem st1_dot {t : Array Nat} {s : Nat} {o must : Bool} {sn : Seen} (h : bol t s = true) (hs : s < t.size) (hd : t.getD s 0 = 46) : ∃ m', M.runFor 5 (st1 t s o must sn) = m' ∧ m'.outcome = some .matched ∧ m'.start = s ∧ m'.handed = s + 1 := by
  unfold bol at h
  have e1 : (st1 t s o must sn).step = { st1 t s o must ((sn.add 6).add 44) with pc := 7 } := by
    unfold M.step
    rw [if_neg (by simp [st1])]
    show (if (5 : Nat) < code1.size then (st1 t s o must sn).exec else _) = _
    rw [if_pos (by decide)]
    unfold M.exec
    have : ops[(st1 t s o must sn).word 0]? = some .AT := by rfl
    simp only [this]
    have h2 : (M.isAt { st1 t s o must sn with seen := (st1 t s o must sn).seen.add ((st1 t s o must sn).word 0) } (M.word { st1 t s o must sn with seen := (st1 t s o must sn).seen.add ((st1 t s o must sn).word 0) } 1)) = .ok true := by
      show Except.ok (s == 0 || t.getD (s - 1) 0 == 10) = _
      rw [h]
    rw [h2]
    rfl
  have e2 : M.step { st1 t s o must ((sn.add 6).add 44) with pc := 7 } = { st1 t s o must (((sn.add 6).add 44).add 16) with pc := 9, pos := s + 1 } := by
    unfold M.step
    rw [if_neg (by simp [st1])]
    show (if (7 : Nat) < code1.size then M.exec _ else _) = _
    rw [if_pos (by decide)]
    unfold M.exec
    have : ops[M.word { st1 t s o must ((sn.add 6).add 44) with pc := 7 } 0]? = some .LITERAL := by rfl
    simp only [this]
    show (if s ≥ t.size then _ else _) = _
    rw [if_neg (by omega)]
    show (match (Except.ok (t.getD s 0 == 46, ((sn.add 6).add 44).add 16) : Except String (Bool × Seen)) with | .error why => _ | .ok (false, seen) => _ | .ok (true, seen) => _) = _
    rw [hd]
    rfl
  have e3 : M.step { st1 t s o must (((sn.add 6).add 44).add 16) with pc := 9, pos := s + 1 } = { st1 t s o must ((((sn.add 6).add 44).add 16).add 1) with pc := 9, pos := s + 1, handed := s + 1, answer := some true } := by
    unfold M.step
    rw [if_neg (by simp [st1])]
    show (if (9 : Nat) < code1.size then M.exec _ else _) = _
    rw [if_pos (by decide)]
    unfold M.exec
    have : ops[M.word { st1 t s o must (((sn.add 6).add 44).add 16) with pc := 9, pos := s + 1 } 0]? = some .SUCCESS := by rfl
    simp only [this]
    show (if (o && ((false && _) || (must && s + 1 == s))) = true then _ else _) = _
    rw [if_neg (by simp)]
    rfl
  refine ⟨_, rfl, ?_⟩
  rw [runFor_add _ 1 4, runFor_one rfl, e1, runFor_add _ 1 3, runFor_one rfl, e2, runFor_add _ 1 2, runFor_one rfl, e3]
  exact ⟨rfl, rfl, rfl⟩
end Mine
end
section
open PySem PySem.Sre
set_option maxRecDepth 100000
set_option maxHeartbeats 1000000
namespace Mine

/-! one step of the machine, word by word -/
section
variable {m : M}
theorem s_open (ho : m.outcome = none) (ha : m.answer = none) (hp : m.pc < m.code.size) : m.step = m.exec := by
  unfold M.step
  rw [ho, ha]
  simp [hp]
theorem s_lit (ho : m.outcome = none) (ha : m.answer = none) (hp : m.pc < m.code.size) (hw : m.code.getD m.pc 0 = 16) {c : Nat} (hc : m.code.getD (m.pc + 1) 0 = c) (hl : m.pos < m.lim) (ht : m.text.getD m.pos 0 = c) :
    m.step = { m with seen := m.seen.add 16, pc := m.pc + 2, pos := m.pos + 1 } := by
  rw [s_open ho ha hp]
  unfold M.exec M.word
  simp only [Nat.add_zero, hw]
  have e : ops[16]? = some .LITERAL := rfl
  simp only [e]
  rw [if_neg (by omega)]
  have e2 : accepts m.code m.pc (m.text.getD m.pos 0) (m.seen.add 16) = .ok (true, m.seen.add 16) := by
    unfold accepts
    simp only [hw, e, hc, ht, beq_self_eq_true]
  have e3 : itemWidth m.code m.pc = 2 := by unfold itemWidth; simp only [hw, e]
  simp only [e2, e3]
theorem s_litNo (ho : m.outcome = none) (ha : m.answer = none) (hp : m.pc < m.code.size) (hw : m.code.getD m.pc 0 = 16) {c : Nat} (hc : m.code.getD (m.pc + 1) 0 = c) (ht : ¬ (m.pos < m.lim ∧ m.text.getD m.pos 0 = c)) :
    m.step = { m with seen := m.seen.add 16, answer := some false } := by
  rw [s_open ho ha hp]
  unfold M.exec M.word
  simp only [Nat.add_zero, hw]
  have e : ops[16]? = some .LITERAL := rfl
  simp only [e]
  by_cases hl : m.pos < m.lim
  · rw [if_neg (by omega)]
    have e2 : accepts m.code m.pc (m.text.getD m.pos 0) (m.seen.add 16) = .ok (false, m.seen.add 16) := by
      unfold accepts
      have : (m.text.getD m.pos 0 == c) = false := by rw [beq_eq_false_iff_ne]; exact fun q => ht ⟨hl, q⟩
      simp only [hw, e, hc, this]
    simp only [e2]
    rfl
  · rw [if_pos (by omega)]
    rfl
theorem s_jump (ho : m.outcome = none) (ha : m.answer = none) (hp : m.pc < m.code.size) (hw : m.code.getD m.pc 0 = 15) {c : Nat} (hc : m.code.getD (m.pc + 1) 0 = c) :
    m.step = { m with seen := m.seen.add 15, pc := m.pc + 1 + c } := by
  rw [s_open ho ha hp]
  unfold M.exec M.word
  simp only [Nat.add_zero, hw]
  have e : ops[15]? = some .JUMP := rfl
  simp only [e, hc]
theorem s_succ (ho : m.outcome = none) (ha : m.answer = none) (hp : m.pc < m.code.size) (hw : m.code.getD m.pc 0 = 1) (h1 : m.wholeText = false) (h2 : m.mustAdvance = false) :
    m.step = { m with seen := m.seen.add 1, handed := m.pos, answer := some true } := by
  rw [s_open ho ha hp]
  unfold M.exec M.word
  simp only [Nat.add_zero, hw]
  have e : ops[1]? = some .SUCCESS := rfl
  simp only [e]
  rw [if_neg (by simp [h1, h2])]
  rfl
end
def code2 : Array Nat := #[14, 9, 4, 1, 2, 16, 10, 16, 13, 0, 7, 7, 16, 13, 16, 10, 15, 18, 5, 16, 10, 15, 13, 11, 16, 13, 5, 5, 0, 16, 10, 1, 15, 2, 0, 1]

def fS (s : Nat) (o : Bool) : PySem.Sre.Frame := { wait := .nextStart, pc := 10, pos := s, outermost := o }
def fB (pc s : Nat) (o : Bool) : PySem.Sre.Frame := { wait := .nextBranch, pc := pc, pos := s, outermost := o, kept := { lastmark := -1, lastindex := -1, whole := false, marks := #[] } }
def fL (s : Nat) (o : Bool) : PySem.Sre.Frame := { wait := .lookNot, pc := 26, pos := s, outermost := o, kept := { lastmark := -1, lastindex := -1, whole := false, marks := #[] } }

/-- the machine in the midst of a try at s -/
def st2 (t : Array Nat) (s : Nat) (o : Bool) (sn : Seen) (pc pos handed : Nat) (o' : Bool) (fs : List PySem.Sre.Frame) (wt : Nat) (an : Option Bool) : M :=
  { code := code2, text := t, lim := t.size, start := s, lastStart := t.size, wholeText := false, mustAdvance := false, pc := pc, pos := pos, handed := handed, outermost := o', marks := #[], lastmark := -1, lastindex := -1, loops := #[], inner := none,
    frames := fs ++ [fS s o], weight := wt, answer := an, seen := sn, outcome := none }

theorem s2_branch {t : Array Nat} {s : Nat} {o : Bool} {sn : Seen} : (st2 t s o sn 10 s s o [] 1 none).step = st2 t s o (sn.add 7) 12 s s o [fB 11 s o] 2 none := by
  rw [s_open rfl rfl (by show (10 : Nat) < 36; decide)]
  rfl
theorem s2_yesB {t : Array Nat} {s pc' pc pos hd : Nat} {o o' : Bool} {sn : Seen} : (st2 t s o sn pc pos hd o' [fB pc' s o] 2 (some true)).step = st2 t s o sn pc' s hd o [] 1 (some true) := rfl
theorem s2_yesS {t : Array Nat} {s pc pos hd : Nat} {o o' : Bool} {sn : Seen} : (st2 t s o sn pc pos hd o' [] 1 (some true)).step = { st2 t s o sn 10 s hd o [] 0 (some true) with frames := [] } := rfl
theorem s2_noB1 {t : Array Nat} {s pc pos hd : Nat} {o o' : Bool} {sn : Seen} : (st2 t s o sn pc pos hd o' [fB 11 s o] 2 (some false)).step = st2 t s o sn 19 s s o [fB 18 s o] 2 none := rfl
theorem s2_noB2 {t : Array Nat} {s pc pos hd : Nat} {o o' : Bool} {sn : Seen} : (st2 t s o sn pc pos hd o' [fB 18 s o] 2 (some false)).step = st2 t s o sn 24 s s o [fB 23 s o] 2 none := rfl
theorem s2_look {t : Array Nat} {s : Nat} {o : Bool} {sn : Seen} : (st2 t s o sn 26 (s + 1) s o [fB 23 s o] 2 none).step = st2 t s o (sn.add 5) 29 (s + 1) (s + 1) false [fL (s + 1) o, fB 23 s o] 3 none := by
  rw [s_open rfl rfl (by show (26 : Nat) < 36; decide)]
  rfl
theorem s2_noL {t : Array Nat} {s pc pos hd : Nat} {o o' : Bool} {sn : Seen} : (st2 t s o sn pc pos hd o' [fL (s + 1) o, fB 23 s o] 3 (some false)).step = st2 t s o sn 32 (s + 1) hd o [fB 23 s o] 2 none := rfl

/-- from an answer yes to the end -/
theorem s2_end {t : Array Nat} {s pc' pc pos hd : Nat} {o o' : Bool} {sn : Seen} : ∃ m', M.runFor 3 (st2 t s o sn pc pos hd o' [fB pc' s o] 2 (some true)) = m' ∧ m'.outcome = some .matched ∧ m'.start = s ∧ m'.handed = hd := by
  exact ⟨_, rfl, rfl, rfl, rfl⟩

theorem try2_crlf {t : Array Nat} {s : Nat} {o : Bool} {sn : Seen} (hs : s + 1 < t.size) (h1 : t.getD s 0 = 13) (h2 : t.getD (s + 1) 0 = 10) :
    ∃ n m', n ≤ 30 ∧ M.runFor n (st2 t s o sn 10 s s o [] 1 none) = m' ∧ m'.outcome = some .matched ∧ m'.start = s ∧ m'.handed = s + 2 := by
  obtain ⟨m', e, r⟩ := s2_end (t := t) (s := s) (pc' := 11) (pc := 35) (pos := s + 2) (hd := s + 2) (o := o) (o' := o) (sn := ((((sn.add 7).add 16).add 16).add 15).add 1)
  refine ⟨1 + (1 + (1 + (1 + (1 + 3)))), m', by omega, ?_, r⟩
  rw [runFor_add _ 1, runFor_one rfl, s2_branch]
  rw [runFor_add _ 1, runFor_one rfl, s_lit (c := 13) rfl rfl (by show (12 : Nat) < 36; decide) rfl rfl (by show s < t.size; omega) h1]
  rw [runFor_add _ 1, runFor_one rfl, s_lit (c := 10) rfl rfl (by show (14 : Nat) < 36; decide) rfl rfl (by show s + 1 < t.size; omega) h2]
  rw [runFor_add _ 1, runFor_one rfl, s_jump (c := 18) rfl rfl (by show (16 : Nat) < 36; decide) rfl rfl]
  rw [runFor_add _ 1, runFor_one rfl, s_succ rfl rfl (by show (35 : Nat) < 36; decide) rfl rfl rfl]
  exact e
theorem try2_lf {t : Array Nat} {s : Nat} {o : Bool} {sn : Seen} (hs : s < t.size) (h1 : t.getD s 0 = 10) :
    ∃ n m', n ≤ 30 ∧ M.runFor n (st2 t s o sn 10 s s o [] 1 none) = m' ∧ m'.outcome = some .matched ∧ m'.start = s ∧ m'.handed = s + 1 := by
  obtain ⟨m', e, r⟩ := s2_end (t := t) (s := s) (pc' := 18) (pc := 35) (pos := s + 1) (hd := s + 1) (o := o) (o' := o) (sn := ((((sn.add 7).add 16).add 16).add 15).add 1)
  refine ⟨1 + (1 + (1 + (1 + (1 + (1 + 3))))), m', by omega, ?_, r⟩
  rw [runFor_add _ 1, runFor_one rfl, s2_branch]
  rw [runFor_add _ 1, runFor_one rfl, s_litNo (c := 13) rfl rfl (by show (12 : Nat) < 36; decide) rfl rfl (by show ¬ (s < t.size ∧ t.getD s 0 = 13); omega)]
  rw [runFor_add _ 1, runFor_one rfl]
  show M.runFor _ (M.step (st2 t s o ((sn.add 7).add 16) 12 s s o [fB 11 s o] 2 (some false))) = _
  rw [s2_noB1]
  rw [runFor_add _ 1, runFor_one rfl, s_lit (c := 10) rfl rfl (by show (19 : Nat) < 36; decide) rfl rfl (by show s < t.size; omega) h1]
  rw [runFor_add _ 1, runFor_one rfl, s_jump (c := 13) rfl rfl (by show (21 : Nat) < 36; decide) rfl rfl]
  rw [runFor_add _ 1, runFor_one rfl, s_succ rfl rfl (by show (35 : Nat) < 36; decide) rfl rfl rfl]
  exact e
theorem try2_cr {t : Array Nat} {s : Nat} {o : Bool} {sn : Seen} (hs : s < t.size) (h1 : t.getD s 0 = 13) (h2 : ¬ (s + 1 < t.size ∧ t.getD (s + 1) 0 = 10)) :
    ∃ n m', n ≤ 30 ∧ M.runFor n (st2 t s o sn 10 s s o [] 1 none) = m' ∧ m'.outcome = some .matched ∧ m'.start = s ∧ m'.handed = s + 1 := by
  obtain ⟨m', e, r⟩ := s2_end (t := t) (s := s) (pc' := 23) (pc := 35) (pos := s + 1) (hd := s + 1) (o := o) (o' := o) (sn := (((((((((sn.add 7).add 16).add 16).add 16).add 16).add 5).add 16)).add 15).add 1)
  refine ⟨1 + (1 + (1 + (1 + (1 + (1 + (1 + (1 + (1 + (1 + (1 + (1 + 3))))))))))), m', by omega, ?_, r⟩
  rw [runFor_add _ 1, runFor_one rfl, s2_branch]
  rw [runFor_add _ 1, runFor_one rfl, s_lit (c := 13) rfl rfl (by show (12 : Nat) < 36; decide) rfl rfl (by show s < t.size; omega) h1]
  rw [runFor_add _ 1, runFor_one rfl, s_litNo (c := 10) rfl rfl (by show (14 : Nat) < 36; decide) rfl rfl h2]
  rw [runFor_add _ 1, runFor_one rfl]
  show M.runFor _ (M.step (st2 t s o (((sn.add 7).add 16).add 16) 14 (s + 1) s o [fB 11 s o] 2 (some false))) = _
  rw [s2_noB1]
  rw [runFor_add _ 1, runFor_one rfl, s_litNo (c := 10) rfl rfl (by show (19 : Nat) < 36; decide) rfl rfl (by show ¬ (s < t.size ∧ t.getD s 0 = 10); omega)]
  rw [runFor_add _ 1, runFor_one rfl]
  show M.runFor _ (M.step (st2 t s o ((((sn.add 7).add 16).add 16).add 16) 19 s s o [fB 18 s o] 2 (some false))) = _
  rw [s2_noB2]
  rw [runFor_add _ 1, runFor_one rfl, s_lit (c := 13) rfl rfl (by show (24 : Nat) < 36; decide) rfl rfl (by show s < t.size; omega) h1]
  rw [runFor_add _ 1, runFor_one rfl]
  show M.runFor _ (M.step (st2 t s o (((((sn.add 7).add 16).add 16).add 16).add 16) 26 (s + 1) s o [fB 23 s o] 2 none)) = _
  rw [s2_look]
  rw [runFor_add _ 1, runFor_one rfl, s_litNo (c := 10) rfl rfl (by show (29 : Nat) < 36; decide) rfl rfl h2]
  rw [runFor_add _ 1, runFor_one rfl]
  show M.runFor _ (M.step (st2 t s o (((((((sn.add 7).add 16).add 16).add 16).add 16).add 5).add 16) 29 (s + 1) (s + 1) false [fL (s + 1) o, fB 23 s o] 3 (some false))) = _
  rw [s2_noL]
  rw [runFor_add _ 1, runFor_one rfl, s_jump (c := 2) rfl rfl (by show (32 : Nat) < 36; decide) rfl rfl]
  rw [runFor_add _ 1, runFor_one rfl, s_succ rfl rfl (by show (35 : Nat) < 36; decide) rfl rfl rfl]
  exact e
end Mine
end
section
open PySem PySem.Sre
set_option maxRecDepth 100000
set_option maxHeartbeats 1000000
namespace Mine

theorem least_or (p : Nat → Prop) (n : Nat) : ∀ k s, n - s = k → (∃ j, s ≤ j ∧ j < n ∧ p j ∧ ∀ i, s ≤ i → i < j → ¬ p i) ∨ ∀ i, s ≤ i → i < n → ¬ p i
  | 0, s, h => .inr fun i h1 h2 => by omega
  | k + 1, s, h => by
    by_cases hp : p s
    · exact .inl ⟨s, Nat.le_refl _, by omega, hp, fun i h1 h2 => by omega⟩
    · rcases least_or p n k (s + 1) (by omega) with ⟨j, h1, h2, h3, h4⟩ | hn
      · refine .inl ⟨j, by omega, h2, h3, fun i h5 h6 => ?_⟩
        rcases Nat.lt_or_eq_of_le h5 with h7 | h7
        · exact h4 i h7 h6
        · exact h7 ▸ hp
      · refine .inr fun i h5 h6 => ?_
        rcases Nat.lt_or_eq_of_le h5 with h7 | h7
        · exact hn i h7 h6
        · exact h7 ▸ hp

/-! the first pattern: a dot at a line's beginning -/
def hit1 (t : Array Nat) (j : Nat) : Prop := bol t j = true ∧ t.getD j 0 = 46

theorem two_steps {m m' : M} (h1 : m.outcome = none) (h2 : m.step.outcome = none) (h : m.step.step = m') : M.runFor 2 m = m' := by
  rw [runFor_add _ 1 1, runFor_one h1, runFor_one h2, h]

theorem miss1 {t : Array Nat} {s : Nat} {o must : Bool} {sn : Seen} (h : ¬ (s < t.size ∧ hit1 t s)) : ∃ n sn' pc, n ≤ 2 ∧ M.runFor n (st1 t s o must sn) = no1 t s o must pc s sn' := by
  cases hb : bol t s with
  | false =>
    obtain ⟨sn', e⟩ := st1_no (o := o) (must := must) (sn := sn) hb
    exact ⟨1, sn', 5, by omega, by rw [runFor_one rfl, e]⟩
  | true =>
    obtain ⟨sn', e1, e2⟩ := st1_nodot (o := o) (must := must) (sn := sn) hb (fun q => h ⟨q.1, hb, q.2⟩)
    exact ⟨2, sn', 7, by omega, two_steps rfl e1 e2⟩

theorem search1_hit {t : Array Nat} : ∀ (k s s' : Nat) (o must : Bool) (sn : Seen), s' - s = k → s ≤ s' → s' < t.size → hit1 t s' → (∀ i, s ≤ i → i < s' → ¬ hit1 t i) →
    ∃ n m', n ≤ 3 * k + 5 ∧ M.runFor n (st1 t s o must sn) = m' ∧ m'.outcome = some .matched ∧ m'.start = s' ∧ m'.handed = s' + 1
  | 0, s, s', o, must, sn, hk, hle, hl, hh, hn => by
    obtain rfl : s = s' := by omega
    obtain ⟨m', e, r⟩ := st1_dot (o := o) (must := must) (sn := sn) hh.1 hl hh.2
    exact ⟨5, m', by omega, e, r⟩
  | k + 1, s, s', o, must, sn, hk, hle, hl, hh, hn => by
    obtain ⟨n1, sn1, pc, hn1, e1⟩ := miss1 (o := o) (must := must) (sn := sn) (t := t) (s := s) (fun q => hn s (Nat.le_refl _) (by omega) q.2)
    obtain ⟨n2, m', hn2, e2, r⟩ := search1_hit k (s + 1) s' false false sn1 (by omega) (by omega) hl hh fun i a b => hn i (by omega) b
    refine ⟨n1 + (1 + n2), m', by omega, ?_, r⟩
    rw [runFor_add, e1, runFor_add, runFor_one rfl, no1_next (by omega), e2]
theorem search1_none {t : Array Nat} : ∀ (k s : Nat) (o must : Bool) (sn : Seen), t.size - s = k → s ≤ t.size → (∀ i, s ≤ i → i < t.size → ¬ hit1 t i) →
    ∃ n m', n ≤ 3 * k + 5 ∧ M.runFor n (st1 t s o must sn) = m' ∧ m'.outcome = some .failed
  | 0, s, o, must, sn, hk, hle, hn => by
    obtain ⟨n1, sn1, pc, hn1, e1⟩ := miss1 (o := o) (must := must) (sn := sn) (t := t) (s := s) (fun q => by omega)
    obtain ⟨m', e2, e3, e4, _⟩ := no1_end (t := t) (s := s) (pc := pc) (pos := s) (o := o) (must := must) (sn := sn1) (by omega)
    refine ⟨n1 + 2, m', by omega, ?_, e4⟩
    rw [runFor_add, e1, two_steps rfl e3 e2]
  | k + 1, s, o, must, sn, hk, hle, hn => by
    obtain ⟨n1, sn1, pc, hn1, e1⟩ := miss1 (o := o) (must := must) (sn := sn) (t := t) (s := s) (fun q => hn s (Nat.le_refl _) (by omega) q.2)
    obtain ⟨n2, m', hn2, e2, r⟩ := search1_none k (s + 1) false false sn1 (by omega) (by omega) fun i a b => hn i (by omega) b
    refine ⟨n1 + (1 + n2), m', by omega, ?_, r⟩
    rw [runFor_add, e1, runFor_add, runFor_one rfl, no1_next (by omega), e2]

theorem forSearch1 {t : Array Nat} {s : Nat} {must : Bool} (h : s < t.size) : forSearch code1 t 0 s t.size must = st1 t s true must (({} : Seen).add 14) := by
  unfold forSearch
  show (if (decide (s > t.size) || decide (t.size - s < 1)) = true then _ else _) = _
  rw [if_neg (by simp; omega)]
  rfl
theorem forSearch1_end {t : Array Nat} {s : Nat} {must : Bool} (h : ¬ s < t.size) : ∃ m', M.runFor 1 (forSearch code1 t 0 s t.size must) = m' ∧ m'.outcome = some .failed := by
  unfold forSearch
  show ∃ m', M.runFor 1 (if (decide (s > t.size) || decide (t.size - s < 1)) = true then _ else _) = m' ∧ _
  rw [if_pos (by simp; omega)]
  exact ⟨_, rfl, rfl⟩

theorem found1 (t : Array Nat) (s : Nat) (must : Bool) :
    (∃ s', s ≤ s' ∧ s' < t.size ∧ hit1 t s' ∧ (∀ i, s ≤ i → i < s' → ¬ hit1 t i) ∧ ∃ n m', n ≤ 3 * t.size + 40 ∧ M.runFor n (forSearch code1 t 0 s t.size must) = m' ∧ m'.outcome = some .matched ∧ m'.start = s' ∧ m'.handed = s' + 1) ∨
    ((∀ i, s ≤ i → i < t.size → ¬ hit1 t i) ∧ ∃ n m', n ≤ 3 * t.size + 40 ∧ M.runFor n (forSearch code1 t 0 s t.size must) = m' ∧ m'.outcome = some .failed) := by
  by_cases h : s < t.size
  · rcases least_or (hit1 t) t.size _ s rfl with ⟨j, h1, h2, h3, h4⟩ | hn
    · obtain ⟨n, m', a, b, c⟩ := search1_hit _ s j true must (({} : Seen).add 14) rfl h1 h2 h3 h4
      exact .inl ⟨j, h1, h2, h3, h4, n, m', by omega, by rw [forSearch1 h]; exact b, c⟩
    · obtain ⟨n, m', a, b, c⟩ := search1_none _ s true must (({} : Seen).add 14) rfl (by omega) hn
      exact .inr ⟨hn, n, m', by omega, by rw [forSearch1 h]; exact b, c⟩
  · obtain ⟨m', a, b⟩ := forSearch1_end (t := t) (s := s) (must := must) h
    exact .inr ⟨fun i h1 h2 => by omega, 1, m', by omega, a, b⟩

/-! the second: a line end -/
def hit2 (t : Array Nat) (j : Nat) : Prop := t.getD j 0 = 10 ∨ t.getD j 0 = 13
def len2 (t : Array Nat) (j : Nat) : Nat := if t.getD j 0 = 13 ∧ j + 1 < t.size ∧ t.getD (j + 1) 0 = 10 then 2 else 1

theorem set2_yes {c : Nat} {sn : Seen} (h : c = 10 ∨ c = 13) : ∃ sn', inSet code2 c code2.size 5 true sn = .ok (true, sn') := by
  rcases h with rfl | rfl
  · exact ⟨_, rfl⟩
  · exact ⟨_, rfl⟩
theorem set2_no {c : Nat} {sn : Seen} (h : ¬ (c = 10 ∨ c = 13)) : ∃ sn', inSet code2 c code2.size 5 true sn = .ok (false, sn') := by
  refine ⟨((sn.add 16).add 16).add 0, ?_⟩
  have h1 : (c == 10) = false := by rw [beq_eq_false_iff_ne]; exact fun q => h (.inl q)
  have h2 : (c == 13) = false := by rw [beq_eq_false_iff_ne]; exact fun q => h (.inr q)
  show inSet code2 c 36 5 true sn = _
  rw [inSet]
  show (if (c == 10) = true then _ else inSet code2 c 35 7 true (sn.add 16)) = _
  rw [h1, if_neg (by simp), inSet]
  show (if (c == 13) = true then _ else inSet code2 c 34 9 true ((sn.add 16).add 16)) = _
  rw [h2, if_neg (by simp)]
  rfl

theorem adm_hit {m : M} {t : Array Nat} (hc : m.code = code2) (ht : m.text = t) (hl : m.lim = t.size) : ∀ (fuel s s' : Nat) (sn : Seen), s' - s < fuel → s ≤ s' → s' < t.size → hit2 t s' → (∀ i, s ≤ i → i < s' → ¬ hit2 t i) → ∃ sn', M.admitted m fuel s sn = .ok (some s', sn')
  | 0, _, _, _, h, _, _, _, _ => absurd h (Nat.not_lt_zero _)
  | fuel + 1, s, s', sn, hf, hle, hs, hh, hn => by
    rw [M.admitted, if_neg (by omega), hc, ht]
    by_cases e : s = s'
    · subst e
      obtain ⟨sn', q⟩ := set2_yes (sn := sn) hh
      rw [q]
      exact ⟨sn', rfl⟩
    · obtain ⟨sn1, q⟩ := set2_no (sn := sn) (hn s (Nat.le_refl _) (by omega))
      rw [q]
      exact adm_hit hc ht hl fuel (s + 1) s' sn1 (by omega) (by omega) hs hh fun i a b => hn i (by omega) b
theorem adm_none {m : M} {t : Array Nat} (hc : m.code = code2) (ht : m.text = t) (hl : m.lim = t.size) : ∀ (fuel s : Nat) (sn : Seen), (∀ i, s ≤ i → i < t.size → ¬ hit2 t i) → ∃ sn', M.admitted m fuel s sn = .ok (none, sn')
  | 0, _, sn, _ => ⟨sn, rfl⟩
  | fuel + 1, s, sn, hn => by
    rw [M.admitted]
    by_cases h : s ≥ m.lim
    · rw [if_pos h]; exact ⟨sn, rfl⟩
    · rw [if_neg h, hc, ht]
      obtain ⟨sn1, q⟩ := set2_no (sn := sn) (hn s (Nat.le_refl _) (by omega))
      rw [q]
      exact adm_none hc ht hl fuel (s + 1) sn1 fun i a b => hn i (by omega) b

theorem try2 {t : Array Nat} {s : Nat} {o : Bool} {sn : Seen} (hs : s < t.size) (h : hit2 t s) : ∃ n m', n ≤ 30 ∧ M.runFor n (st2 t s o sn 10 s s o [] 1 none) = m' ∧ m'.outcome = some .matched ∧ m'.start = s ∧ m'.handed = s + len2 t s := by
  unfold len2
  rcases h with h | h
  · rw [if_neg (by omega)]; exact try2_lf hs h
  · by_cases h2 : s + 1 < t.size ∧ t.getD (s + 1) 0 = 10
    · rw [if_pos ⟨h, h2⟩]; exact try2_crlf h2.1 h h2.2
    · rw [if_neg (fun q => h2 q.2)]; exact try2_cr hs h h2

/-- the machine laid out for the second pattern's search -/
def ini2 (t : Array Nat) (s : Nat) (must : Bool) : M :=
  { code := code2, text := t, lim := t.size, start := s, lastStart := t.size, pc := 10, pos := s, handed := s, marks := #[], mustAdvance := must, seen := ({} : Seen).add 14 }
theorem forSearch2 {t : Array Nat} {s : Nat} {must : Bool} (h : s < t.size) : forSearch code2 t 0 s t.size must = (ini2 t s must).attemptFrom s true := by
  unfold forSearch
  show (if (decide (s > t.size) || decide (t.size - s < 1)) = true then _ else _) = _
  rw [if_neg (by simp; omega)]
  rfl
theorem found2 (t : Array Nat) (s : Nat) (must : Bool) :
    (∃ s', s ≤ s' ∧ s' < t.size ∧ hit2 t s' ∧ (∀ i, s ≤ i → i < s' → ¬ hit2 t i) ∧ ∃ n m', n ≤ 3 * t.size + 40 ∧ M.runFor n (forSearch code2 t 0 s t.size must) = m' ∧ m'.outcome = some .matched ∧ m'.start = s' ∧ m'.handed = s' + len2 t s') ∨
    ((∀ i, s ≤ i → i < t.size → ¬ hit2 t i) ∧ ∃ n m', n ≤ 3 * t.size + 40 ∧ M.runFor n (forSearch code2 t 0 s t.size must) = m' ∧ m'.outcome = some .failed) := by
  by_cases h : s < t.size
  · rw [forSearch2 h]
    unfold M.attemptFrom
    have hf : (ini2 t s must).hasFirstSet = true := rfl
    rw [hf]
    simp only [Bool.not_true, Bool.false_eq_true, if_false]
    rcases least_or (hit2 t) t.size _ s rfl with ⟨j, h1, h2, h3, h4⟩ | hn
    · obtain ⟨sn', q⟩ := adm_hit (m := ini2 t s must) (t := t) rfl rfl rfl ((ini2 t s must).lim + 1 - s) s j (ini2 t s must).seen (by show j - s < t.size + 1 - s; omega) h1 h2 h3 h4
      rw [q]
      obtain ⟨n, m', a, b, c⟩ := try2 (o := true) (sn := sn') h2 h3
      exact .inl ⟨j, h1, h2, h3, h4, n, m', by omega, b, c⟩
    · obtain ⟨sn', q⟩ := adm_none (m := ini2 t s must) (t := t) rfl rfl rfl ((ini2 t s must).lim + 1 - s) s (ini2 t s must).seen hn
      rw [q]
      exact .inr ⟨hn, 1, _, by omega, rfl, rfl⟩
  · refine .inr ⟨fun i h1 h2 => by omega, ?_⟩
    unfold forSearch
    show ∃ n m', _ ∧ M.runFor n (if (decide (s > t.size) || decide (t.size - s < 1)) = true then _ else _) = m' ∧ _
    rw [if_pos (by simp; omega)]
    exact ⟨1, _, by omega, rfl, rfl⟩
end Mine
end
section
open PySem PySem.W PySem.Calls PyProof.Rows PySem.Builtin.Re
set_option maxRecDepth 100000
set_option maxHeartbeats 1000000
namespace Mine
theorem plainAttrs_re : PlainAttrs "re.Pattern" :=
  ⟨⟨"object.__getattribute__", by rw [typeLookup_type, builtinLookup_eq_fast]; kernel_rfl, by decide +kernel⟩, by rw [typeLookup_type, builtinLookup_eq_fast]; kernel_rfl⟩

section
variable {Md : Model} {A : Around} {E : Value → Shared → Prop} {s : Shared}
theorem wp_drive {Q : Sre.M → Shared → Prop} {m' : Sre.M} (ho : m'.outcome.isSome = true) (hQ : Q m' s) : ∀ (turns n : Nat) (m : Sre.M), Sre.M.runFor n m = m' → n < 4 * turns → wpAny Md A (reDrive turns m) Q E s
  | 0, n, m, _, h => absurd h (Nat.not_lt_zero _)
  | turns + 1, n, m, e, h => by
    show wpAny Md A (if (Sre.M.runFor 4 m).outcome.isSome = true then pure (Sre.M.runFor 4 m) else do rule "sre.turn"; reDrive turns (Sre.M.runFor 4 m)) Q E s
    by_cases h4 : n ≤ 4
    · have e4 : Sre.M.runFor 4 m = m' := by
        rw [show 4 = n + (4 - n) by omega, runFor_add, e, runFor_stop ho]
      rw [e4, if_pos ho]
      exact wpAny_pure hQ
    · by_cases h5 : (Sre.M.runFor 4 m).outcome.isSome = true
      · have e4 : Sre.M.runFor 4 m = m' := by
          rw [← e, show n = 4 + (n - 4) by omega, runFor_add, runFor_stop h5]
        rw [e4, if_pos ho]
        exact wpAny_pure hQ
      · rw [if_neg h5]
        refine wpAny_bind (wpAny_rule ?_)
        exact wp_drive ho hQ turns (n - 4) _ (by rw [← e, ← runFor_add]; congr 1; omega) (by omega)

theorem wp_forTriv {α : Type} {f : α → PUnit → Sem (ForInStep PUnit)} {Q : PUnit → Shared → Prop} (hf : ∀ x (Q' : ForInStep PUnit → Shared → Prop), Q' (.yield ⟨⟩) s → wpAny Md A (f x ⟨⟩) Q' E s) (h : Q ⟨⟩ s) : ∀ l : List α, wpAny Md A (forIn l PUnit.unit f) Q E s
  | [] => by rw [List.forIn_nil]; exact wpAny_pure h
  | x :: l => by
    rw [List.forIn_cons]
    exact wpAny_bind (hf x _ (wp_forTriv hf h l))

theorem wp_run {Q : Option Sre.M → Shared → Prop} {m m' : Sre.M} {n : Nat} (e : Sre.M.runFor n m = m') (hn : n ≤ 100000000) (h : (m'.outcome = some .matched ∧ Q (some m') s) ∨ (m'.outcome = some .failed ∧ Q none s)) : wpAny Md A (reRunToEnd m) Q E s := by
  unfold reRunToEnd
  have ho : m'.outcome.isSome = true := by rcases h with h | h <;> rw [h.1] <;> rfl
  refine wpAny_bind (wp_drive ho ?_ (2 ^ 64) n m e (by omega))
  refine wpAny_bind (wp_forTriv (fun x Q' hq => ?_) ?_ _)
  · split
    · exact wpAny_bind (wpAny_rule (wpAny_pure hq))
    · exact wpAny_pure hq
  · rcases h with h | h <;> rw [h.1] <;> exact wpAny_pure h.2
end

def slice (t : Array Nat) (a b : Nat) : List Nat := (t.extract a b).toList

/-- what a search over t by this code and the text laid in its place do -/
structure Eng (code t : Array Nat) (rep : List Nat) (G : Nat → List Nat) : Prop where
  step : ∀ s must, s ≤ t.size →
    (∃ s' e, s ≤ s' ∧ s' < e ∧ e ≤ t.size ∧ G s = slice t s s' ++ rep ++ G e ∧ ∃ n m', n ≤ 3 * t.size + 40 ∧ Sre.M.runFor n (Sre.forSearch code t 0 s t.size must) = m' ∧ m'.outcome = some .matched ∧ m'.start = s' ∧ m'.handed = e) ∨
    (G s = slice t s t.size ∧ ∃ n m', n ≤ 3 * t.size + 40 ∧ Sre.M.runFor n (Sre.forSearch code t 0 s t.size must) = m' ∧ m'.outcome = some .failed)

section
variable {prog : Program} {w : World} {A : Around} {E : Value → Shared → Prop} {s : Shared} {hp h₀ : Heap} {tk : Nat} {L l pat tup : Addr} {m : Str → Option Value} {rest : List (Addr × Obj)} {vs : List Value} {n : Nat}

/-- a pattern's object: its code lies in a tuple -/
structure PatAt (h : Heap) (pat : Addr) (code : Array Nat) : Prop where
  at_ : ∃ p0 p1 p3 p4 tup its n, h.get? pat = some { cls := .type "re.Pattern", data := .fields #[p0, p1, .int 0 0, p3, p4, .ref tup, .int 0 0] } ∧ h.get? tup = some { cls := .type "tuple", data := .seq its n } ∧ its.map (fun v => (reRawOf v).toNat) = code

theorem PatAt.keeps {h h' : Heap} {code : Array Nat} (x : PatAt h pat code) (k : ∀ b o, h.get? b = some o → h'.get? b = some o) : PatAt h' pat code := by
  obtain ⟨p0, p1, p3, p4, tup, its, n, a, b, c⟩ := x.at_
  exact ⟨p0, p1, p3, p4, tup, its, n, k _ _ a, k _ _ b, c⟩

theorem wp_target {code : Array Nat} {x : Str} {t : Tok} {Q : ReTarget → Shared → Prop} (hpat : PatAt hp pat code)
    (h : Q { pattern := .ref pat, string := .str x t, code := code, text := x.cps, kind := 0, groups := 0, pos := 0, lim := x.cps.size } (St s hp tk)) :
    wpAny (model prog w) A (reWholeTarget (.ref pat) (.str x t)) Q E (St s hp tk) := by
  obtain ⟨p0, p1, p3, p4, tup, its, n, a, b, c⟩ := hpat.at_
  unfold reWholeTarget
  refine wpAny_bind (wpAny_fieldsOf (s := St s hp tk) a rfl ?_)
  refine wpAny_bind (wpAny_of_eq (a := (x.cps, 0)) rfl ?_)
  dsimp only
  refine wpAny_bind (wpAny_of_eq (a := ()) rfl ?_)
  unfold reRawItems
  refine wpAny_bind (wpAny_bind (wpAny_seqItems (s := St s hp tk) b rfl (wpAny_pure (wpAny_pure ?_))))
  have e : (((some its).getD #[]).map reRawOf).map (fun (i : Int) => i.toNat) = code := by
    rw [← c]; simp [Array.map_map, Function.comp_def]
  rw [e]
  exact h
end
end Mine
end
section
open PySem PySem.W PySem.Calls PyProof.Rows PySem.Builtin.Re
set_option maxRecDepth 100000
set_option maxHeartbeats 1000000
namespace Mine
def cat (vs : List Value) : List Nat := (vs.map fun v => (strOf v).cps.toList).flatten
theorem cat_append (a b : List Value) : cat (a ++ b) = cat a ++ cat b := by simp [cat]
theorem cat_one (x : Str) (t : Tok) : cat [.str x t] = x.cps.toList := by simp [cat, strOf]
theorem join_empty : ∀ (ys : List Str), (Str.join Str.empty ys).cps.toList = (ys.map fun y => y.cps.toList).flatten
  | [] => rfl
  | [y] => by simp [Str.join]
  | y :: z :: r => by
    show ((y ++ Str.empty ++ Str.join Str.empty (z :: r)) : Str).cps.toList = _
    rw [Str.append_empty, Str.cps_append, Array.toList_append, join_empty (z :: r)]
    simp
theorem lens_cat : ∀ (ys : List Str), (ys.map (·.length)).sum = ((ys.map fun y => y.cps.toList).flatten).length
  | [] => rfl
  | y :: r => by
    rw [List.map_cons, List.sum_cons, lens_cat r]
    simp [Str.length]

section
variable {prog : Program} {w : World} {A : Around} {E : Value → Shared → Prop} {s : Shared} {hp h₀ : Heap} {tk : Nat} {L l pat : Addr} {m : Str → Option Value} {rest : List (Addr × Obj)} {vs : List Value} {n : Nat} {v : Value}

theorem lg_upd {Q : Unit → Shared → Prop} (F : Fr h₀ L hp m) (N : News h₀ L hp ((l, listOf vs.toArray n) :: rest)) (ha : Apart l rest) (hz : vs.length ≤ 1000000)
    (h : ∀ h', Fr h₀ L h' m → News h₀ L h' ((l, listOf (vs ++ [v]).toArray (n + 1)) :: rest) → Q () (St s h' tk)) : wpAny (model prog w) A (updateSeq l (·.push v)) Q E (St s hp tk) := by
  have z := N _ (.head _)
  refine wpAny_updateSeq (s := St s hp tk) z.1 rfl (h _ (F.change (Heap.SameBut.update ..) z.2.1 z.2.2) ?_) (by rw [List.size_toArray, sizeLine_eq]; omega) (by simp [sizeLine_eq]; omega)
  exact kl_turn (pre := []) _ N (fun p hp => nomatch hp) ha (by simp) (by simp)

theorem wp_slice {t : Array Nat} {a b : Nat} {Q : Value → Shared → Prop} (hz : t.size ≤ 1000000) (h : ∀ tt tk', Q (.str ⟨t.extract a b⟩ tt) (St s hp tk')) : wpAny (model prog w) A (reSlice t 0 a b) Q E (St s hp tk) := by
  show wpAny _ _ (mkStr ⟨t.extract a b⟩) _ _ _
  refine wpAny_mkStr (s := St s hp tk) (h _ _) ?_
  show (t.extract a b).size ≤ _
  rw [Array.size_extract, sizeLine_eq]
  omega

theorem sub_loop {code : Array Nat} {x rp : Str} {t tr : Tok} {G : Nat → List Nat} {R : Result → Shared → Prop} (eng : Eng code x.cps rp.cps.toList G) (hpat : PatAt h₀ pat code) (hsz : x.cps.size ≤ 100000)
    (hR : ∀ h' tk' y ty, Fr h₀ L h' m → News h₀ L h' rest → y.cps.toList = G 0 → R (.ok (.ret (.str y ty))) (St s h' tk')) (hlen : (G 0).length ≤ 1000000) (hal : Apart l rest) :
    ∀ (k done : Nat) (hp : Heap) (tk n : Nat) (vs : List Value) (nn : Int) (must : Bool), x.cps.size - done = k → done ≤ x.cps.size → Fr h₀ L hp m → News h₀ L hp ((l, listOf vs.toArray n) :: rest) → Strs vs → vs.length ≤ 2 * done → cat vs ++ G done = G 0 →
      codeAny (model prog w) A (.builtin "re.Pattern.sub.loop" ⟨[.ref pat, .str x t, .str rp tr, rawInt 0, rawInt 0, rawInt nn, rawInt done, rawInt done, .bool must, .ref l, .bool false], []⟩) R (St s hp tk) := by
  intro k
  induction k using Nat.strongRecOn with
  | ind k ih =>
    intro done hp tk n vs nn must hk hd F N hS hvl hcat
    refine codeAny_builtin entry_re_loop ?_
    rw [Around.under_plainId plain_re_loop _]
    unfold Builtin.«re.Pattern.sub.loop»
    refine wpAny_bind (wp_target (hpat.keeps F.keep) ?_)
    simp only [beq_self_eq_true, if_true]
    refine wpAny_bind (wpAny_of_eq (a := ()) rfl ?_)
    have e0 : ((0 : Int) != 0 && decide (nn ≥ 0)) = false := by simp
    rw [e0]
    simp only [Bool.false_eq_true, if_false, Int.toNat_natCast]
    unfold reNextFound
    dsimp only
    rcases eng.step done must hd with ⟨s', e, h1, h2, h3, hG, n', m', hn', er, hm1, hm2, hm3⟩ | ⟨hG, n', m', hn', er, hm1⟩
    · refine wpAny_bind (wp_run er (by omega) (.inl ⟨hm1, ?_⟩))
      dsimp only
      rw [hm2, hm3]
      have hne : ((Value.str rp tr != Value.none) = true) := rfl
      by_cases hlt : done < s'
      · rw [if_pos hlt]
        refine wpAny_bind (wp_slice (by omega) fun tt tk2 => ?_)
        refine wpAny_bind (lg_upd F N hal (by omega) fun h2 F2 N2 => ?_)
        refine wpAny_bind (wpAny_pure ?_)
        rw [if_pos hne]
        refine wpAny_bind (lg_upd F2 N2 hal (by simp; omega) fun h3' F3 N3 => ?_)
        refine wpAny_pure ⟨plainId_quiet plain_re_loop _, ih (x.cps.size - e) (by omega) e h3' tk2 _ _ (nn + 1) _ rfl h3 F3 N3 ?_ (by simp; omega) ?_⟩
        · intro u hu
          rcases List.mem_append.mp hu with hu | hu
          · rcases List.mem_append.mp hu with hu | hu
            · exact hS u hu
            · exact ⟨_, _, List.mem_singleton.mp hu⟩
          · exact ⟨_, _, List.mem_singleton.mp hu⟩
        · rw [cat_append, cat_append, cat_one, cat_one, ← hcat, hG]
          simp [slice]
      · rw [if_neg hlt]
        obtain rfl : s' = done := by omega
        refine wpAny_bind (wpAny_pure ?_)
        rw [if_pos hne]
        refine wpAny_bind (lg_upd F N hal (by omega) fun h3' F3 N3 => ?_)
        refine wpAny_pure ⟨plainId_quiet plain_re_loop _, ih (x.cps.size - e) (by omega) e h3' tk _ _ (nn + 1) _ rfl h3 F3 N3 ?_ (by simp; omega) ?_⟩
        · intro u hu
          rcases List.mem_append.mp hu with hu | hu
          · exact hS u hu
          · exact ⟨_, _, List.mem_singleton.mp hu⟩
        · rw [cat_append, cat_one, ← hcat, hG]
          simp [slice]
    · refine wpAny_bind (wp_run er (by omega) (.inr ⟨hm1, ?_⟩))
      dsimp only
      have fin : ∀ hp' tk' n' vs', Fr h₀ L hp' m → News h₀ L hp' ((l, listOf vs'.toArray n') :: rest) → Strs vs' → vs'.length ≤ 2 * done + 1 → cat vs' = G 0 →
          wpAny (model prog w) A.in1 (do
            let joiner ← reSlice x.cps 0 0 0
            let __do_lift ← seqItems? (.ref l)
            let text ← if (__do_lift.getD #[]).isEmpty = true then pure joiner else call (.builtin (if ((0 : Nat) == 0) = true then "str.join" else "bytes.join")) [joiner, .ref l]
            if false = true then do
              let __do_lift ← holding [text] do newTuple [text, ← mkInt nn]
              ret __do_lift
            else ret text) (fun fin s' => match fin with | .done f => R (.ok f) s' | .again c' => c'.quiet = true ∧ codeAny (model prog w) A c' R s') (fun e s' => R (.error e) s') (St s hp' tk') := by
        intro hp' tk' n' vs' F' N' S' hl' hc'
        refine wpAny_bind (wp_slice (by omega) fun tt tk2 => ?_)
        refine wpAny_bind (wpAny_seqItems (s := St s hp' tk2) (N' _ (.head _)).1 rfl ?_)
        have ej : (⟨x.cps.extract 0 0⟩ : Str) = Str.empty := Str.ext' (by simp [Str.empty])
        rw [ej]
        by_cases hemp : vs' = []
        · subst hemp
          dsimp only
          rw [if_pos (show ((some (#[] : Array Value)).getD #[]).isEmpty = true from rfl)]
          refine wpAny_bind (wpAny_pure ?_)
          rw [if_neg (by simp)]
          refine wpAny_pure (hR _ _ _ _ F' (fun p hp => N' p (.tail _ hp)) ?_)
          rw [← hc']
          rfl
        · dsimp only
          rw [if_neg (show ¬ ((some vs'.toArray).getD #[]).isEmpty = true by simpa using hemp)]
          obtain ⟨ys, hys⟩ : ∃ ys, StrsAre vs' ys := ⟨_, strsAre_map vs' S'⟩
          have hy2 : (ys.map fun y => y.cps.toList).flatten = G 0 := by
            rw [← hc', ← hys.strs]; simp [cat, Function.comp_def]
          refine wpAny_bind (join_list (s := St s hp' tk2) (News.isListAt N') (by simpa using hys) ?_ fun t' k' => ?_)
          · rw [lens_cat, hy2]; simp [Str.empty, Str.length]; omega
          · rw [if_neg (by simp)]
            refine wpAny_pure (hR hp' k' _ _ F' (fun p hp => N' p (.tail _ hp)) ?_)
            show (Builtin.Str.glued Str.empty ys).cps.toList = _
            rw [StrLaws.glued_eq_join, join_empty, hy2]
      rw [hG] at hcat
      by_cases hlt : done < x.cps.size
      · rw [if_pos hlt]
        refine wpAny_bind (wp_slice (by omega) fun tt tk2 => ?_)
        refine wpAny_bind (lg_upd F N hal (by omega) fun h2 F2 N2 => ?_)
        refine fin h2 tk2 _ _ F2 N2 ?_ (by simp; omega) ?_
        · intro u hu
          rcases List.mem_append.mp hu with hu | hu
          · exact hS u hu
          · exact ⟨_, _, List.mem_singleton.mp hu⟩
        · rw [cat_append, cat_one, ← hcat]; rfl
      · rw [if_neg hlt]
        refine fin hp tk _ _ F N hS (by omega) ?_
        rw [← hcat, show done = x.cps.size by omega]
        simp [slice]
end
end Mine
end
section
open PySem PySem.W PySem.Calls PyProof.Rows PySem.Builtin.Re
set_option maxRecDepth 100000
set_option maxHeartbeats 1000000
namespace Mine
theorem str_no_call : typeLookup (.type "str") "__call__" = pure none := by rw [typeLookup_type, builtinLookup_eq_fast]; kernel_rfl
theorem named_sub (a b : Value) : reNamed "re.Pattern.sub" "sub" ["repl", "string", "count"] 2 [a, b] [] = pure [some a, some b, none] := rfl

section
variable {prog : Program} {w : World} {A : Around} {E : Value → Shared → Prop} {s : Shared} {hp h₀ : Heap} {tk : Nat} {L pat : Addr} {m : Str → Option Value} {news : List (Addr × Obj)}

theorem sub_call {code : Array Nat} {x rp : Str} {t tr : Tok} {G : Nat → List Nat} {Q : Value → Shared → Prop} (eng : Eng code x.cps rp.cps.toList G) (hpat : PatAt h₀ pat code) (hsz : x.cps.size ≤ 100000) (hrp : rp.cps.contains 92 = false)
    (F : Fr h₀ L hp m) (N : News h₀ L hp news) (hlen : (G 0).length ≤ 1000000)
    (h : ∀ h' tk' y ty, Fr h₀ L h' m → News h₀ L h' news → y.cps.toList = G 0 → Q (.str y ty) (St s h' tk')) :
    wpAny (model prog w) A (call (.builtin "re.Pattern.sub") [.ref pat, .str rp tr, .str x t]) Q E (St s hp tk) := by
  have hT : (St s hp tk).TypeIs (.ref pat) "re.Pattern" := by
    obtain ⟨p0, p1, p3, p4, tup, its, n, a, b, c⟩ := (hpat.keeps F.keep).at_
    exact ⟨_, a, rfl⟩
  refine wpAny_call (codeAny_call_builtin slot_re_sub.plain entry_re_sub (slot_re_sub.check _ _ _ _ _ _ _ _ hT (args_re_sub _ _ _) ?_))
  unfold Builtin.«re.Pattern.sub» reSubstitute
  dsimp only
  refine wpAny_bind (wpAny_of_eq (named_sub _ _) ?_)
  dsimp only
  refine wpAny_bind (wpAny_pure ?_)
  refine wpAny_bind (wpAny_specialOf (typeIs_str _ rp tr) str_no_call ?_)
  simp only [Option.isSome_none, Bool.false_eq_true, if_false]
  refine wpAny_bind (wpAny_of_eq (a := some rp) rfl ?_)
  dsimp only
  refine wpAny_bind (wpAny_pure ?_)
  rw [hrp, if_pos (show (!false) = true from rfl)]
  refine wpAny_bind (wpAny_pure ?_)
  dsimp only
  refine wpAny_bind (wpAny_holding (wp_target (hpat.keeps F.keep) ?_))
  rw [if_neg (by decide)]
  refine wpAny_bind (newList_L F N (by simp) fun l h2 F2 N2 lt2 => ?_)
  refine wpAny_pure ⟨plainId_quiet plain_re_loop _, ?_⟩
  exact sub_loop eng hpat hsz (fun h' tk' y ty F' N' hy => h h' tk' y ty F' N' hy) hlen (Apart.of_lt lt2) _ 0 h2 tk 0 [] 0 false rfl (Nat.zero_le _) F2 N2 (fun v hv => nomatch hv) (Nat.zero_le _) rfl
end
end Mine
end
section
open PySem PySem.W PySem.Calls PyProof.Rows PySem.Builtin.Re
set_option maxRecDepth 100000
set_option maxHeartbeats 1000000
namespace Mine
/-- a dot more ahead where a line begins with a dot -/
def dots : Bool → List Nat → List Nat
  | _, [] => []
  | b, c :: r => (if b = true ∧ c = 46 then [46, 46] else [c]) ++ dots (c == 10) r
/-- each line end a return with its feed -/
def crlf : List Nat → List Nat
  | [] => []
  | [c] => if c = 10 ∨ c = 13 then [13, 10] else [c]
  | c :: e :: r => if c = 13 ∧ e = 10 then 13 :: 10 :: crlf r else if c = 10 ∨ c = 13 then 13 :: 10 :: crlf (e :: r) else c :: crlf (e :: r)

theorem crlf_plain {c : Nat} (h : ¬ (c = 10 ∨ c = 13)) : ∀ r, crlf (c :: r) = c :: crlf r
  | [] => by simp only [crlf, if_neg h]
  | e :: r => by rw [crlf, if_neg (fun q => h (.inr q.1)), if_neg h]
theorem crlf_two (r : List Nat) : crlf (13 :: 10 :: r) = 13 :: 10 :: crlf r := by rw [crlf, if_pos ⟨rfl, rfl⟩]
theorem crlf_one {c : Nat} {r : List Nat} (h : c = 10 ∨ c = 13) (hn : ¬ (c = 13 ∧ r.head? = some 10)) : crlf (c :: r) = 13 :: 10 :: crlf r := by
  cases r with
  | nil => simp only [crlf, if_pos h]
  | cons e r => rw [crlf, if_neg (fun q => hn ⟨q.1, by rw [q.2]; rfl⟩), if_pos h]

theorem drop_at {t : Array Nat} {s : Nat} (h : s < t.size) : t.toList.drop s = t.getD s 0 :: t.toList.drop (s + 1) := by
  rw [List.drop_eq_getElem_cons (by simpa using h)]
  simp [Array.getD, h]
theorem slice_cons {t : Array Nat} {s e : Nat} (h : s < e) (he : e ≤ t.size) : slice t s e = t.getD s 0 :: slice t (s + 1) e := by
  unfold slice
  have hs : s < t.size := by omega
  rw [Array.toList_extract, Array.toList_extract, List.extract_eq_take_drop, List.extract_eq_take_drop]
  rw [drop_at hs, show e - s = (e - (s + 1)) + 1 by omega, List.take_succ_cons]
theorem slice_self (t : Array Nat) (s : Nat) : slice t s s = [] := by simp [slice]
theorem bol_succ (t : Array Nat) (s : Nat) : bol t (s + 1) = (t.getD s 0 == 10) := by simp [bol]

theorem dots_skip {t : Array Nat} : ∀ (k s s' : Nat), s' - s = k → s ≤ s' → s' ≤ t.size → (∀ i, s ≤ i → i < s' → ¬ hit1 t i) → dots (bol t s) (t.toList.drop s) = slice t s s' ++ dots (bol t s') (t.toList.drop s')
  | 0, s, s', hk, h1, h2, _ => by
    obtain rfl : s = s' := by omega
    rw [slice_self]; rfl
  | k + 1, s, s', hk, h1, h2, hn => by
    have hs : s < t.size := by omega
    rw [drop_at hs, slice_cons (by omega) h2, dots, if_neg (show ¬ (bol t s = true ∧ t.getD s 0 = 46) from hn s (Nat.le_refl _) (by omega)), ← bol_succ, dots_skip k (s + 1) s' (by omega) (by omega) h2 fun i a b => hn i (by omega) b]
    rfl
theorem crlf_skip {t : Array Nat} : ∀ (k s s' : Nat), s' - s = k → s ≤ s' → s' ≤ t.size → (∀ i, s ≤ i → i < s' → ¬ hit2 t i) → crlf (t.toList.drop s) = slice t s s' ++ crlf (t.toList.drop s')
  | 0, s, s', hk, h1, h2, _ => by
    obtain rfl : s = s' := by omega
    rw [slice_self]; rfl
  | k + 1, s, s', hk, h1, h2, hn => by
    have hs : s < t.size := by omega
    rw [drop_at hs, slice_cons (by omega) h2, crlf_plain (hn s (Nat.le_refl _) (by omega)), crlf_skip k (s + 1) s' (by omega) (by omega) h2 fun i a b => hn i (by omega) b]
    rfl

theorem eng1 (t : Array Nat) : Eng code1 t [46, 46] (fun s => dots (bol t s) (t.toList.drop s)) where
  step := fun s must hs => by
    rcases found1 t s must with ⟨s', h1, h2, h3, h4, r⟩ | ⟨hn, r⟩
    · refine .inl ⟨s', s' + 1, h1, by omega, by omega, ?_, r⟩
      rw [dots_skip _ s s' rfl h1 (by omega) h4, drop_at h2, h3.1, dots, if_pos ⟨rfl, h3.2⟩, bol_succ, List.append_assoc]
    · refine .inr ⟨?_, r⟩
      rw [dots_skip _ s t.size rfl hs (Nat.le_refl _) hn, show t.toList.drop t.size = [] from List.drop_eq_nil_of_le (by simp), dots, List.append_nil]
theorem eng2 (t : Array Nat) : Eng code2 t [13, 10] (fun s => crlf (t.toList.drop s)) where
  step := fun s must hs => by
    rcases found2 t s must with ⟨s', h1, h2, h3, h4, r⟩ | ⟨hn, r⟩
    · have hl : len2 t s' = 1 ∨ (len2 t s' = 2 ∧ t.getD s' 0 = 13 ∧ s' + 1 < t.size ∧ t.getD (s' + 1) 0 = 10) := by
        by_cases q : t.getD s' 0 = 13 ∧ s' + 1 < t.size ∧ t.getD (s' + 1) 0 = 10
        · exact .inr ⟨by unfold len2; rw [if_pos q], q⟩
        · exact .inl (by unfold len2; rw [if_neg q])
      refine .inl ⟨s', s' + len2 t s', h1, by omega, by omega, ?_, r⟩
      rw [crlf_skip _ s s' rfl h1 (by omega) h4, List.append_assoc]
      congr 1
      rcases hl with hl | ⟨hl, q1, q2, q3⟩
      · rw [hl, drop_at h2]
        refine crlf_one h3 fun q => ?_
        unfold len2 at hl
        have hd : ¬ (t.getD s' 0 = 13 ∧ s' + 1 < t.size ∧ t.getD (s' + 1) 0 = 10) := fun z => by rw [if_pos z] at hl; omega
        by_cases hz : s' + 1 < t.size
        · rw [drop_at hz] at q
          exact hd ⟨q.1, hz, Option.some.inj q.2⟩
        · have : t.toList.drop (s' + 1) = [] := List.drop_eq_nil_of_le (by simp; omega)
          rw [this] at q
          cases q.2
      · rw [hl, drop_at h2, drop_at q2, q1, q3, crlf_two]
        rfl
    · refine .inr ⟨?_, r⟩
      rw [crlf_skip _ s t.size rfl hs (Nat.le_refl _) hn, show t.toList.drop t.size = [] from List.drop_eq_nil_of_le (by simp), crlf, List.append_nil]

theorem dots_len : ∀ (b : Bool) (x : List Nat), (dots b x).length ≤ 2 * x.length
  | _, [] => Nat.le_refl _
  | b, c :: r => by
    rw [dots, List.length_append, List.length_cons]
    have := dots_len (c == 10) r
    split <;> simp <;> omega
theorem crlf_len : ∀ (x : List Nat), (crlf x).length ≤ 2 * x.length
  | [] => Nat.le_refl _
  | [c] => by rw [crlf]; split <;> simp
  | c :: e :: r => by
    rw [crlf]
    have h1 := crlf_len r
    have h2 := crlf_len (e :: r)
    simp only [List.length_cons] at h2 ⊢
    split
    · simp only [List.length_cons]; omega
    · split <;> simp only [List.length_cons] <;> omega
end Mine
end
section
open PySem PySem.W PySem.Calls PyProof.Rows PySem.Builtin.Re
set_option maxRecDepth 100000
set_option maxHeartbeats 1000000
namespace Mine

local macro_rules | `(tactic| walk_at "mn") => `(tactic| (refine n_loc (by assumption) (by first | rfl | assumption) ?_))
local macro_rules | `(tactic| walk_at "enter") => `(tactic| ((case k1 => k_is); (case k2 => k_is); (case k3 => exact BindsTo.of_eq rfl); (case k4 => exact locs rfl); (case k5 => decide); (case k6 => rfl); (case k7 => rfl); (case k8 => rfl)))

theorem pat_of {w : World} {h : Heap} {pat tup : Addr} {code : Array Nat} {p0 p1 p3 p4 : Value} {its : Array Value} {n : Nat} (X : (KK w).In h)
    (a : (hd.heap_39 w.params).lookup pat = some { cls := .type "re.Pattern", data := .fields #[p0, p1, .int 0 0, p3, p4, .ref tup, .int 0 0] }) (b : (hd.heap_39 w.params).lookup tup = some { cls := .type "tuple", data := .seq its n })
    (c : its.map (fun v => (reRawOf v).toNat) = code) : PatAt h pat code := ⟨p0, p1, p3, p4, tup, its, n, X _ _ a, X _ _ b, c⟩
theorem pat1_at {w : World} {h : Heap} (X : (KK w).In h) : PatAt h 36 code1 := by
  refine' pat_of (tup := 35) X ?a ?b ?c
  case a => k_is
  case b => k_is
  case c => decide +kernel
theorem pat2_at {w : World} {h : Heap} (X : (KK w).In h) : PatAt h 41 code2 := by
  refine' pat_of (tup := 40) X ?a ?b ?c
  case a => k_is
  case b => k_is
  case c => decide +kernel

section
variable {prog : Program} {w : World} {A : Around} {E : Value → Shared → Prop} {s : Shared} {hp h₀ : Heap} {tk : Nat} {L : Addr} {m : Str → Option Value} {news : List (Addr × Obj)} {k : Nat} {x : Str} {tx : Tok} {Q : Value → Shared → Prop} {pl : Sem Bool} {QM : Value × List Value → Shared → Prop} {pat : Addr} {code : Array Nat}

theorem m_pat (hpat : PatAt hp pat code) (h : QM (.builtin "re.Pattern.sub", [.ref pat]) (St s hp tk)) : wpAny (model prog w) A (getMethod (.ref pat) "sub" pl) QM E (St s hp tk) := by
  obtain ⟨p0, p1, p3, p4, tup, its, n, a, b, c⟩ := hpat.at_
  exact getMethod_builtin (s := St s hp tk) ⟨_, a, rfl⟩ plainAttrs_re slot_re_sub type_re_sub (fun a' e => by cases e; exact ⟨_, a, rfl⟩) h

theorem quotedata_spec (C : Cx w A h₀ L k) (hk : k ≤ 40) (F : Fr h₀ L hp m) (N : News h₀ L hp news) (hz : x.cps.size ≤ 10000)
    (h : ∀ h' tk' y ty, Fr h₀ L h' m → News h₀ L h' news → y.cps.toList = dots true (crlf x.cps.toList) → Q (.str y ty) (St s h' tk')) :
    wpAny (model prog w) A (call (.ref 48) [.str x tx]) Q E (St s hp tk) := by
  refine' call_def (binds := [("data", .str x tx)]) C (by omega) F N ?k1 ?k2 ?k3 ?k4 ?k5 ?k6 ?k7 ?k8 ?_
  walk_at "enter"
  intro g L' h₁ tk' C' F' N'
  refine x_ret (e_meth ?_)
  refine n_top C' F' (by k_is) ?_
  refine m_pat (pat1_at (C'.X.keeps F'.keep)) ?_
  refine cw_m2 (e_str ?_)
  intro t1 tk1
  refine e_meth ?_
  refine n_top C' F' (by k_is) ?_
  refine m_pat (pat2_at (C'.X.keeps F'.keep)) ?_
  refine cw_m2 ?_
  refine n_top C' F' (by k_is) ?_
  walk_at "mn"
  have hl2 : (crlf (x.cps.toList.drop 0)).length ≤ 20000 := by
    have := crlf_len (x.cps.toList.drop 0); simp at this ⊢; omega
  refine sub_call (G := fun s => crlf (x.cps.toList.drop s)) (eng2 x.cps) (pat2_at C'.X) (by omega) (by decide +kernel) F' N' (by omega) ?_
  intro h2 tk2 y ty F2 N2 hy
  have hys : y.cps.size ≤ 20000 := by rw [← Array.length_toList, hy]; exact hl2
  have hl1 : (dots (bol y.cps 0) (y.cps.toList.drop 0)).length ≤ 40000 := by
    have := dots_len (bol y.cps 0) (y.cps.toList.drop 0); simp at this ⊢; omega
  refine sub_call (G := fun s => dots (bol y.cps s) (y.cps.toList.drop s)) (eng1 y.cps) (pat1_at C'.X) (by omega) (by decide +kernel) F2 N2 (by omega) ?_
  intro h3 tk3 z tz F3 N3 hz3
  refine ⟨_, _, F3, N3, fun Fz Nz => h _ _ _ _ Fz Nz ?_⟩
  rw [hz3, List.drop_zero, hy, List.drop_zero]
  rfl
end
end Mine
end
section
open PySem PySem.W PySem.Calls PyProof.Rows
set_option maxRecDepth 100000
set_option maxHeartbeats 1000000
namespace Mine

local macro_rules | `(tactic| walk_at "mn") => `(tactic| (refine n_loc (by assumption) (by first | rfl | assumption) ?_))
local macro_rules | `(tactic| walk_at "ms") => `(tactic| (refine n_store (by assumption) (by assumption) ?_; intro h' tk' F' N'))
local macro_rules | `(tactic| walk_at "mi") => `(tactic| (refine e_int ?_; intro t' tk'))
local macro_rules | `(tactic| walk_at "enter") => `(tactic| ((case k1 => k_is); (case k2 => k_is); (case k3 => exact BindsTo.of_eq rfl); (case k4 => exact locs rfl); (case k5 => decide); (case k6 => rfl); (case k7 => rfl); (case k8 => rfl)))

/-- a row: three signs at most, no line end among them -/
def RowOk (y : Str) : Prop := y.cps.size ≤ 3 ∧ ∀ c ∈ y.cps.toList, c ≠ 10 ∧ c ≠ 13 ∧ c < 1114112
def noEnds (x : Str) : Bool := x.length == 8 && x.cps.toList.all fun c => c != 10 && (c != 13 && decide (c < 1114112))

section
variable {prog : Program} {w : World} {A : Around} {E : Value → Shared → Prop} {s : Shared} {hp h₀ : Heap} {tk : Nat} {L : Addr} {m : Str → Option Value} {news : List (Addr × Obj)} {k : Nat} {Q : Value → Shared → Prop}

theorem s_idx {value slice : PySem.Expr} {x : Str} {t u : Tok} {i : Int} (hx : noEnds x = true) (h0 : 0 ≤ i) (h8 : i < 8) (h : ∀ c t' tk', (c ≠ 10 ∧ c ≠ 13 ∧ c < 1114112) → Q (.str ⟨#[c]⟩ t') (St s hp tk'))
    (hs : subscripted slice false (.str x t) (.int i u) = operate [.str x t, .int i u] (getItem (.str x t) (.int i u)) := by with_unfolding_all rfl) :
    wpAny (model prog w) A (subscriptTail value slice (.str x t) (.int i u)) Q E (St s hp tk) := by
  unfold noEnds at hx
  simp only [Bool.and_eq_true, beq_iff_eq, List.all_eq_true, bne_iff_ne, ne_eq, decide_eq_true_eq] at hx
  have hl : i.toNat < x.cps.size := by have := hx.1; unfold Str.length at this; omega
  have hm := hx.2 x.cps[i.toNat] (by simp)
  refine tail_any (typeIs_str _ x t) PyProof.Rows.slot_str_getitem.lookup (P.getItem_str (c := x.cps[i.toNat]) (by simp; omega) ?_ (h _ _ _ hm)) hs
  unfold seqIndex? Str.length
  simp only [if_neg (show ¬ i < 0 by omega)]
  rw [if_pos (by simp; omega)]
  simp [hl]

theorem lawRow_spec {i : Int} {ti : Tok} (C : Cx w A h₀ L k) (hk : k ≤ 40) (F : Fr h₀ L hp m) (N : News h₀ L hp news)
    (h : ∀ h' tk' y ty, Fr h₀ L h' m → News h₀ L h' news → RowOk y → Q (.str y ty) (St s h' tk')) :
    wpAny (model prog w) A (call (.ref 104) [.int i ti]) Q E (St s hp tk) := by
  refine' call_def (binds := [("number", .int i ti)]) C (by omega) F N ?k1 ?k2 ?k3 ?k4 ?k5 ?k6 ?k7 ?k8 ?_
  walk_at "enter"
  intro g L' h₁ tk' C' F' N'
  refine x_asg (e_str ?_)
  intro ts tks
  walk_at "ms"
  refine x_asg (e_bin ?_)
  walk_at "mn"
  walk_at "mi"
  refine o_mod (by decide) ?_; intro tm tkm
  have hm0 := fmod_lo i (n := 512) (by decide)
  have hm1 := fmod_hi i (n := 512) (by decide)
  generalize Int.fmod i 512 = lf at hm0 hm1
  obtain ⟨lf, rfl⟩ := Int.eq_ofNat_of_zero_le hm0
  walk_at "ms"
  refine x_asg (e_str ?_)
  intro te tke
  refine n_store (by assumption) (by assumption) ?_
  intro h3 tk3 F3 N3
  refine wpAny_execs_cons (wpAny_While (codeAny_whileLoop (fun j (s' : Shared) => ∃ h tk mm sg tsg, ∃ lf : Nat, ∃ tl row tr, s' = St s h tk ∧ Fr g L' h mm ∧ News g L' h news ∧
    mm "signs" = some (.str sg tsg) ∧ noEnds sg = true ∧ mm "left" = some (.int lf tl) ∧ mm "row" = some (.str row tr) ∧ lf = j ∧ lf * 8 ^ row.cps.size < 512 ∧ RowOk row) ?_ lf ?_))
  · intro j s' I
    obtain ⟨h4, tk4, mm, sg, tsg, lf, tl, row, tr, rfl, F4, N4, i1, i2, i3, i4, rfl, i5, i6⟩ := I
    refine t_plain ?_
    walk_at "mn"
    refine PyProof.Rows.truthy_int ?_
    by_cases hz : lf = 0
    · subst hz
      rw [if_neg (by simp)]
      refine x_nil ?_
      refine x_ret ?_
      walk_at "mn"
      exact ⟨_, _, F4, N4, fun Fz Nz => h _ _ _ _ Fz Nz i6⟩
    · rw [if_pos (by simp; omega)]
      have hp8 : 8 ^ row.cps.size < 512 := Nat.lt_of_le_of_lt (Nat.le_mul_of_pos_left _ (by omega)) i5
      have hrs : row.cps.size ≤ 2 := by
        by_cases hq : row.cps.size ≤ 2
        · exact hq
        · have : 8 ^ 3 ≤ 8 ^ row.cps.size := Nat.pow_le_pow_right (by decide) (by omega)
          omega
      refine x_aug ?_
      refine n_load F4 i4 ?_
      refine e_sub ?_
      walk_at "mn"
      refine e_bin ?_
      walk_at "mn"
      walk_at "mi"
      refine o_mod (by decide) ?_; intro t5 tk5
      refine s_idx i2 (fmod_lo _ (by decide)) (fmod_hi _ (by decide)) ?_
      intro c t6 tk6 hc1
      refine o_iaddS (by rw [sizeLine_eq]; unfold Str.length; simp; omega) ?_; intro t7 tk7
      refine n_store F4 N4 ?_
      intro h8 tk8 F8 N8
      refine x_aug ?_
      refine n_load F8 i3 ?_
      walk_at "mi"
      refine o_ifdiv (by decide) (Or.inl (PyProof.noPylong_small (by omega))) ?_; intro t9 tk9
      have hq : Int.fdiv (lf : Nat) 8 = ((lf / 8 : Nat) : Int) := by
        rw [Int.fdiv_eq_ediv_of_nonneg _ (by decide)]; omega
      rw [hq]
      refine n_store F8 N8 ?_
      intro h10 tk10 F10 N10
      refine x_nil ⟨lf / 8, by omega, _, _, _, sg, tsg, lf / 8, _, _, _, rfl, F10, N10, i1, i2, rfl, rfl, rfl, ?_, ?_⟩
      · rw [Str.cps_append, Array.size_append]
        show lf / 8 * 8 ^ (row.cps.size + 1) < 512
        rw [Nat.pow_succ]
        have : lf / 8 * 8 ≤ lf := Nat.div_mul_le_self _ _
        calc lf / 8 * (8 ^ row.cps.size * 8) = (lf / 8 * 8) * 8 ^ row.cps.size := by rw [Nat.mul_comm (8 ^ row.cps.size) 8, Nat.mul_assoc]
          _ ≤ lf * 8 ^ row.cps.size := Nat.mul_le_mul_right _ this
          _ < 512 := i5
      · refine ⟨by rw [Str.cps_append, Array.size_append]; show row.cps.size + 1 ≤ 3; omega, fun d hd => ?_⟩
        rw [Str.cps_append, Array.toList_append] at hd
        rcases List.mem_append.mp hd with hd | hd
        · exact i6.2 d hd
        · have : d = c := by simpa using hd
          exact this ▸ hc1
  · exact ⟨_, _, _, _, _, lf, _, _, _, rfl, F3, N3, rfl, by decide +kernel, rfl, rfl, rfl, by rw [show (Str.ofString "").cps.size = 0 by decide +kernel, Nat.pow_zero, Nat.mul_one]; omega, ⟨by decide +kernel, by decide +kernel⟩⟩
end
end Mine
end
section
open PySem PySem.W PySem.Calls PyProof.Rows
set_option maxRecDepth 100000
set_option maxHeartbeats 1000000
namespace Mine

local macro_rules | `(tactic| walk_at "mn") => `(tactic| (refine n_loc (by assumption) (by first | rfl | assumption) ?_))
local macro_rules | `(tactic| walk_at "mi") => `(tactic| (refine e_int ?_; intro t' tk'))
local macro_rules | `(tactic| walk_at "enter") => `(tactic| ((case k1 => k_is); (case k2 => k_is); (case k3 => exact BindsTo.of_eq rfl); (case k4 => exact locs rfl); (case k5 => decide); (case k6 => rfl); (case k7 => rfl); (case k8 => rfl)))

/-- dots more ahead, where it begins with a dot -/
def more (n : Nat) (x : List Nat) : List Nat := if x.head? = some 46 then List.replicate n 46 ++ x else x

theorem slice1 (x : Str) : Txt.slice x none (some 1) = ⟨x.cps.extract 0 1⟩ := by
  have e : Builtin.Str.strSliceIndices none (some 1) 1 x.length = List.range (min 1 x.length) := by
    unfold Builtin.Str.strSliceIndices sliceRange
    simp only [show (1 : Int) > 0 by decide, if_true, show ¬ ((1 : Int) < 0) by decide, if_false, Int.one_mul, Int.zero_add]
    have h1 : (max 0 (min 1 (x.length : Int))) = ((min 1 x.length : Nat) : Int) := by omega
    rw [h1]
    by_cases h : x.length = 0
    · simp [h]
    · have : min 1 x.length = 1 := by omega
      rw [this]; rfl
  unfold Txt.slice
  rw [e]
  by_cases h : x.length = 0
  · have : x.cps = #[] := Array.eq_empty_of_size_eq_zero h
    rw [if_pos (by simp [h])]
    exact Str.ext' (by simp [this])
  · have hm : min 1 x.length = 1 := by omega
    rw [hm]
    have h0 : 0 < x.cps.size := by unfold Str.length at h; omega
    by_cases h1 : x.length = 1
    · rw [if_pos (by simp [h1])]
      refine Str.ext' ?_
      show x.cps = x.cps.extract 0 1
      have : x.cps.size = 1 := h1
      rw [← this]; simp
    · rw [if_neg (by simp; exact fun q => h1 q.symm)]
      refine Str.ext' ?_
      apply Array.toList_inj.mp
      rw [Array.toList_extract, List.extract_eq_take_drop]
      have : x.cps.toList = x.cps[0] :: x.cps.toList.drop 1 := by
        have := List.drop_eq_getElem_cons (l := x.cps.toList) (i := 0) (by simpa using h0)
        simpa using this
      rw [this]
      simp [List.range_succ, h0]
theorem slice1_dot (x : Str) : (Txt.slice x none (some 1) == (Str.ofString ".")) = decide (x.cps.toList.head? = some 46) := by
  rw [slice1, ← toList_beq, show (Str.ofString ".").cps.toList = [46] by decide +kernel]
  show ((x.cps.extract 0 1).toList == [46]) = _
  rw [Array.toList_extract, List.extract_eq_take_drop]
  cases h : x.cps.toList with
  | nil => rfl
  | cons a r =>
    show ([a] == [46]) = decide (some a = some 46)
    by_cases q : a = 46
    · subst q; rfl
    · rw [decide_eq_false (by simpa using q), beq_eq_false_iff_ne]; simpa using q

section
variable {prog : Program} {w : World} {A : Around} {E : Value → Shared → Prop} {s : Shared} {hp h₀ : Heap} {tk : Nat} {L : Addr} {m : Str → Option Value} {news : List (Addr × Obj)} {k : Nat} {Q : Value → Shared → Prop} {x : Str} {t u : Tok}

theorem mul_one {n : Nat} (hn : n ≤ 2) {c : Nat} (hx : x.cps = #[c]) (h : ∀ y t' tk', y.cps.toList = List.replicate n c → Q (.str y t') (St s hp tk')) : wpAny (model prog w) A (binaryOp .Mult (.str x t) (.int n u)) Q E (St s hp tk) := by
  have hl : x.length = 1 := by unfold Str.length; rw [hx]; rfl
  refine P.mul_str (s := St s hp tk) (by simp; omega) (fun a b => by rw [hl]; rcases (by omega : n = 1 ∨ n = 2) with rfl | rfl <;> decide) (fun a b => by rw [hl]; rcases (by omega : n = 1 ∨ n = 2) with rfl | rfl <;> decide +kernel) ?_
  rcases (by omega : n = 0 ∨ n = 1 ∨ n = 2) with rfl | rfl | rfl
  · rw [if_pos (by decide)]
    exact ⟨by decide, h _ _ _ rfl⟩
  · rw [if_neg (by decide), if_pos (by rfl)]
    exact h _ _ _ (by rw [hx]; rfl)
  · rw [if_neg (by decide), if_neg (by rw [hl]; decide)]
    refine ⟨?_, h _ _ _ ?_⟩
    · show (List.foldl (· ++ ·) #[] (List.replicate 2 x.cps)).size ≤ _
      rw [hx, sizeLine_eq]; show 2 ≤ 16777216; decide
    · show (List.foldl (· ++ ·) #[] (List.replicate 2 x.cps)).toList = _
      rw [hx]; rfl

theorem e_cut {v e : Expr} {p pos : Pos} {env : Env} (h : wpAny (model prog w) A (eval v env) (fun o s₁ => ∃ x t hp tk, o = .str x t ∧ s₁ = St s hp tk ∧ wpAny (model prog w) A (eval e env) (fun j s₂ => ∃ i u hp' tk' h₀ L m news, j = .int i u ∧ s₂ = St s hp' tk' ∧ x.length ≤ 1000000 ∧ Fr h₀ L hp' m ∧ News h₀ L hp' news ∧
      ∀ h' t' tk'', Fr h₀ L h' m → News h₀ L h' news → Q (.str (Txt.slice x none (some i)) t') (St s h' tk'')) E (St s hp tk)) E (St s hp tk))
    (ht : ∀ x t r, letTemporaryGo v (.str x t) r = pure () := by intro _ _ _; with_unfolding_all rfl) :
    wpAny (model prog w) A (eval (.Subscript v (.Slice none (some e) none p) pos) env) Q E (St s hp tk) := by
  refine Subscript_ (wpAny_mono h (fun o s₁ h₁ => ?_) fun _ _ x => x)
  obtain ⟨x, t, hp1, tk1, rfl, rfl, h2⟩ := h₁
  refine wpAny_Slice (evalPart_none_step (evalPart_some_step (wpAny_mono h2 (fun j s₂ h₃ => ?_) fun _ _ x => x)))
  obtain ⟨i, u, hp', tk', h₀, L, m, news, rfl, rfl, hz, F, N, h4⟩ := h₃
  refine evalPart_none_step ?_
  exact slice_strN_ns (s := St s hp' tk') F N (fun h' t' k a b => h4 h' t' k a b) (by with_unfolding_all rfl) (ht x t) (by rw [sizeLine_eq]; omega)

theorem lawDots_spec {n : Nat} (C : Cx w A h₀ L k) (hk : k ≤ 40) (F : Fr h₀ L hp m) (N : News h₀ L hp news) (hn : n ≤ 2) (hz : x.cps.size ≤ 100000)
    (h : ∀ h' tk' y ty, Fr h₀ L h' m → News h₀ L h' news → y.cps.toList = more n x.cps.toList → Q (.str y ty) (St s h' tk')) :
    wpAny (model prog w) A (call (.ref 111) [.str x t, .int n u]) Q E (St s hp tk) := by
  refine' call_def (binds := [("row", .str x t), ("times", .int n u)]) C (by omega) F N ?k1 ?k2 ?k3 ?k4 ?k5 ?k6 ?k7 ?k8 ?_
  walk_at "enter"
  intro g L' h₁ tk' C' F' N'
  refine x_if (t_cmp (e_cut ?_))
  walk_at "mn"
  refine ⟨x, t, _, _, rfl, rfl, ?_⟩
  walk_at "mi"
  refine ⟨_, _, _, _, _, _, _, _, rfl, rfl, by unfold Str.length; omega, F', N', ?_⟩
  intro h2 t2 tk2 F2 N2
  refine e_str ?_
  intro t3 tk3
  refine c_eqS ?_
  rw [slice1_dot]
  refine ⟨fun hc => ?_, fun hc => ?_⟩
  · have hd : x.cps.toList.head? = some 46 := by simpa using hc
    refine x_ret (e_bin (e_bin (e_str ?_)))
    intro t4 tk4
    walk_at "mn"
    refine mul_one hn (c := 46) (by decide +kernel) ?_
    intro y t5 tk5 hy
    walk_at "mn"
    have hys : y.length = n := by unfold Str.length; rw [← Array.length_toList, hy, List.length_replicate]
    refine o_addS (by rw [sizeLine_eq, hys]; unfold Str.length; omega) ?_
    intro t6 tk6
    refine ⟨_, _, F2, N2, fun Fz Nz => h _ _ _ _ Fz Nz ?_⟩
    rw [Str.cps_append, Array.toList_append, hy]
    unfold more; rw [if_pos hd]
  · have hd : ¬ x.cps.toList.head? = some 46 := by simpa using hc
    refine x_nil ?_
    refine x_ret ?_
    walk_at "mn"
    refine ⟨_, _, F2, N2, fun Fz Nz => h _ _ _ _ Fz Nz ?_⟩
    unfold more; rw [if_neg hd]
end
end Mine
end
section
open PySem PySem.W PySem.Calls PyProof.Rows
set_option maxRecDepth 100000
set_option maxHeartbeats 1000000
namespace Mine

local macro_rules | `(tactic| walk_at "mn") => `(tactic| (refine n_loc (by assumption) (by first | rfl | assumption) ?_))
local macro_rules | `(tactic| walk_at "ms") => `(tactic| (refine n_store (by assumption) (by assumption) ?_; intro h' tk' F' N'))
local macro_rules | `(tactic| walk_at "mi") => `(tactic| (refine e_int ?_; intro t' tk'))
local macro_rules | `(tactic| walk_at "enter") => `(tactic| ((case k1 => k_is); (case k2 => k_is); (case k3 => exact BindsTo.of_eq rfl); (case k4 => exact locs rfl); (case k5 => decide); (case k6 => rfl); (case k7 => rfl); (case k8 => rfl)))

theorem strsAre_snoc {x : Str} {t : Tok} : ∀ {vs : List Value} {ss : List Str}, StrsAre vs ss → StrsAre (vs ++ [.str x t]) (ss ++ [x])
  | _, _, .nil => .cons x t .nil
  | _, _, .cons y u h => .cons y u (strsAre_snoc h)

section
variable {prog : Program} {w : World} {A : Around} {E : Value → Shared → Prop} {s : Shared} {hp h₀ : Heap} {tk : Nat} {L l : Addr} {m : Str → Option Value} {rest : List (Addr × Obj)} {vs : List Value} {ss : List Str} {n k : Nat} {Q : Value → Shared → Prop} {x : Str} {tx : Tok}

theorem lg_sort (F : Fr h₀ L hp m) (N : News h₀ L hp ((l, listOf vs.toArray n) :: rest)) (ha : Apart l rest) (hS : StrsAre vs ss) (hne : 0 < vs.length) (h64 : vs.length < 64)
    (h : ∀ h' us ss' n', Fr h₀ L h' m → News h₀ L h' ((l, listOf us.toArray n') :: rest) → StrsAre us ss' → ss'.Perm ss → sortedS ss' = true → Q .none (St s h' tk)) : wpAny (model prog w) A (call (.builtin "list.sort") [.ref l]) Q E (St s hp tk) := by
  have z := N _ (.head _)
  refine wpAny_call_entry PyProof.Rows.slot_list_sort (s := St s hp tk) ⟨_, z.1, rfl⟩ PyProof.Rows.entry_list_sort (list_sort_treeK (s := St s hp tk) strKind_oneLt (n := n) (vs := vs) z.1 hS.keysOf (fun v₁ v₂ r e => keyKind_strs (by rw [← e]; exact hS)) h64 fun st' hp' hs => ⟨.none, rfl, ?_⟩) (PyProof.Rows.args_list_sort _)
  obtain ⟨ss', h1, h2, h3⟩ := sorted_out_str hS hp' hs
  generalize (arrOf st').map (·.2) = out at h1
  have N' : News h₀ L hp ([] ++ (l, listOf vs.toArray n) :: rest) := N
  have F1 : Fr h₀ L (hp.update l (Obj.mapSeq fun _ => (#[] : Array Value))) m := F.change (Heap.SameBut.update ..) z.2.1 z.2.2
  have N1 := ki_turn (pre := []) (fun _ => (#[] : Array Value)) (its' := #[]) (n' := n + 1) N' (fun p hp => nomatch hp) ha rfl (by rw [if_neg (by simp; intro q; rw [q] at hne; simp at hne)])
  have N2 := News.grown N1 fun _ _ e => Heap.get?_push_of_some (seqObj "tuple" vs.toArray 0) e
  have N3 := News.grown N2 fun _ _ e => Heap.get?_push_of_some (seqObj "list" #[] 0) e
  have hlen : out.size ≠ 0 := by
    have q1 := h2.length_eq
    have q2 := h1.length
    have q3 := hS.length
    have q4 : out.toList.length = out.size := Array.length_toList
    omega
  have N4 := ki_turn (pre := []) (fun _ => out) (its' := out) (n' := n + 2) N3 (fun p hp => nomatch hp) ha rfl (by rw [if_neg (by simpa using hlen)])
  have F4 : Fr h₀ L ((((hp.update l (Obj.mapSeq fun _ => (#[] : Array Value))).push (seqObj "tuple" vs.toArray 0)).push (seqObj "list" #[] 0)).update l (Obj.mapSeq fun _ => out)) m :=
    ((F1.push (seqObj "tuple" vs.toArray 0)).push (seqObj "list" #[] 0)).change (Heap.SameBut.update ..) z.2.1 z.2.2
  exact h _ out.toList ss' (n + 2) F4 (by rw [Array.toArray_toList]; exact N4) h1 h2 h3

/-- what the plain row does with a call -/
def OwnRel (kind : Int) (ss : List Str) (x : Str) (r : Option Str) (ss' : List Str) : Prop :=
  if kind < 2 ∨ kind = 5 then r = none ∧ ss'.Perm (ss ++ [x]) ∧ sortedS ss' = true
  else if kind = 4 then ∃ l, r = some l ∧ (l :: ss').Perm (ss ++ [x]) ∧ sortedS (l :: ss') = true
  else match ss with
    | [] => r = some (Str.ofString "\n") ∧ ss' = []
    | l :: t => r = some l ∧ (if kind = 3 then ss'.Perm (t ++ [x]) ∧ sortedS ss' = true else ss' = t)
def RetIs (r : Option Str) (v : Value) : Prop := match r with | none => v = .none | some y => ∃ t, v = .str y t

theorem lawOwn_spec {kind : Int} {tkd : Tok} (C : Cx w A h₀ L k) (hk : k ≤ 40) (F : Fr h₀ L hp m) (N : News h₀ L hp ((l, listOf vs.toArray n) :: rest)) (ha : Apart l rest) (hS : StrsAre vs ss) (hz : vs.length ≤ 50)
    (h : ∀ h' tk' us ss' n' r v, Fr h₀ L h' m → News h₀ L h' ((l, listOf us.toArray n') :: rest) → StrsAre us ss' → OwnRel kind ss x r ss' → RetIs r v → Q v (St s h' tk')) :
    wpAny (model prog w) A (call (.ref 125) [.int kind tkd, .ref l, .str x tx]) Q E (St s hp tk) := by
  refine' call_def (binds := [("kind", .int kind tkd), ("rows", .ref l), ("row", .str x tx)]) C (by omega) F N ?k1 ?k2 ?k3 ?k4 ?k5 ?k6 ?k7 ?k8 ?_
  walk_at "enter"
  intro g L' h₁ tk' C' F' N'
  have hlen := hS.length
  have hlen2 : 0 < (vs ++ [Value.str x tx]).length := by simp
  refine x_ifD (kind < 2 ∨ kind = 5) (t_or (t_cmp ?_)) (fun hkd tk2 => ?_) (fun hkd tk2 => ?_)
  · walk_at "mn"
    walk_at "mi"
    refine c_lt ⟨fun hc => ?_, fun hc => ?_⟩
    · refine t_cmp ?_
      walk_at "mn"
      walk_at "mi"
      refine c_eq ⟨?_, _, rfl⟩
      have : ¬ kind < 2 := by simpa using hc
      by_cases q : kind = 5
      · simp [q]
      · simp [q, this]
    · have : kind < 2 := by simpa using hc
      exact ⟨by simp [this], _, rfl⟩
  · refine x_expr (e_meth ?_)
    walk_at "mn"
    refine m_list N' PySem.F.slot_list_append PySem.F.type_list_append ?_
    refine cw_m1 ?_
    walk_at "mn"
    refine lg_append F' N' ha (by omega) ?_
    intro h2 F2 N2
    refine x_expr (e_meth ?_)
    walk_at "mn"
    refine m_list N2 PyProof.Rows.slot_list_sort PySem.F.type_list_sort ?_
    refine cw_m0 ?_
    refine lg_sort F2 N2 ha (strsAre_snoc hS) hlen2 (by simp; omega) ?_
    intro h3 us ss' n' F3 N3 hS3 hp3 hs3
    refine x_ret (e_none ?_)
    exact ⟨_, _, F3, N3, fun Fz Nz => h _ _ us ss' n' none _ Fz Nz hS3 (by unfold OwnRel; rw [if_pos hkd]; exact ⟨rfl, hp3, hs3⟩) rfl⟩
  · refine x_nil ?_
    refine x_ifD (kind = 4) (t_cmp ?_) (fun hkd4 tk3 => ?_) (fun hkd4 tk3 => ?_)
    · walk_at "mn"
      walk_at "mi"
      refine c_eq ⟨?_, _, rfl⟩
      by_cases q : kind = 4
      · simp [q]
      · simp [q]
    · refine x_expr (e_meth ?_)
      walk_at "mn"
      refine m_list N' PySem.F.slot_list_append PySem.F.type_list_append ?_
      refine cw_m1 ?_
      walk_at "mn"
      refine lg_append F' N' ha (by omega) ?_
      intro h2 F2 N2
      refine x_expr (e_meth ?_)
      walk_at "mn"
      refine m_list N2 PyProof.Rows.slot_list_sort PySem.F.type_list_sort ?_
      refine cw_m0 ?_
      refine lg_sort F2 N2 ha (strsAre_snoc hS) hlen2 (by simp; omega) ?_
      intro h3 us ss' n' F3 N3 hS3 hp3 hs3
      have hl3 : ss'.length = vs.length + 1 := by rw [hp3.length_eq, List.length_append, ← hlen]; rfl
      refine x_ret (e_meth ?_)
      walk_at "mn"
      refine m_list N3 PySem.F.slot_list_pop PySem.F.type_list_pop ?_
      refine cw_m1 ?_
      walk_at "mi"
      cases hS3 with
      | nil => simp at hl3
      | cons y ty hS4 =>
        have hl4 := hS4.length
        refine lg_pop0 F3 N3 ha (by simp at hl3; omega) ?_
        intro h5 F5 N5
        exact ⟨_, _, F5, N5, fun Fz Nz => h _ _ _ _ _ (some y) _ Fz Nz hS4 (by unfold OwnRel; rw [if_neg hkd, if_pos hkd4]; exact ⟨y, rfl, hp3, hs3⟩) ⟨ty, rfl⟩⟩
    · refine x_nil ?_
      refine x_if (t_not (t_plain ?_))
      walk_at "mn"
      refine lg_truth N' (by omega) ?_
      intro tk4
      refine ⟨fun hc => ?_, fun hc => ?_⟩
      · have h0 : ¬ 0 < vs.length := by simpa using hc
        refine x_ret (e_str ?_)
        intro t5 tk5
        refine ⟨_, _, F', N', fun Fz Nz => h _ _ vs ss _ (some (Str.ofString "\n")) _ Fz Nz hS ?_ ⟨_, rfl⟩⟩
        unfold OwnRel; rw [if_neg hkd, if_neg hkd4]
        have : ss = [] := List.eq_nil_of_length_eq_zero (by omega)
        rw [this]
        exact ⟨rfl, rfl⟩
      · have h0 : 0 < vs.length := by simpa using hc
        refine x_nil ?_
        cases hS with
        | nil => simp at h0
        | cons y ty hS4 =>
          have hl4 := hS4.length
          rename_i vs4 ss4
          refine x_asg (e_meth ?_)
          walk_at "mn"
          refine m_list N' PySem.F.slot_list_pop PySem.F.type_list_pop ?_
          refine cw_m1 ?_
          walk_at "mi"
          refine lg_pop0 F' N' ha (by simp at hz; omega) ?_
          intro h5 F5 N5
          refine n_store F5 N5 ?_
          intro h6 tk6 F6 N6
          have hlen4 : 0 < (vs4 ++ [Value.str x tx]).length := by simp
          refine x_ifD (kind = 3) (t_cmp ?_) (fun hkd3 tk7 => ?_) (fun hkd3 tk7 => ?_)
          · walk_at "mn"
            walk_at "mi"
            refine c_eq ⟨?_, _, rfl⟩
            by_cases q : kind = 3
            · simp [q]
            · simp [q]
          · refine x_expr (e_meth ?_)
            walk_at "mn"
            refine m_list N6 PySem.F.slot_list_append PySem.F.type_list_append ?_
            refine cw_m1 ?_
            walk_at "mn"
            refine lg_append F6 N6 ha (by simp at hz; omega) ?_
            intro h2 F2 N2
            refine x_expr (e_meth ?_)
            walk_at "mn"
            refine m_list N2 PyProof.Rows.slot_list_sort PySem.F.type_list_sort ?_
            refine cw_m0 ?_
            refine lg_sort F2 N2 ha (strsAre_snoc hS4) hlen4 (by simp at hz ⊢; omega) ?_
            intro h3 us ss' n' F3 N3 hS3 hp3 hs3
            refine x_nil ?_
            refine x_ret ?_
            walk_at "mn"
            exact ⟨_, _, F3, N3, fun Fz Nz => h _ _ us ss' n' (some y) _ Fz Nz hS3 (by unfold OwnRel; rw [if_neg hkd, if_neg hkd4]; exact ⟨rfl, by rw [if_pos hkd3]; exact ⟨hp3, hs3⟩⟩) ⟨ty, rfl⟩⟩
          · refine x_nil ?_
            refine x_ret ?_
            walk_at "mn"
            exact ⟨_, _, F6, N6, fun Fz Nz => h _ _ _ _ _ (some y) _ Fz Nz hS4 (by unfold OwnRel; rw [if_neg hkd, if_neg hkd4]; exact ⟨rfl, by rw [if_neg hkd3]⟩) ⟨ty, rfl⟩⟩
end
end Mine
end
section
open PySem PySem.W PySem.Calls PyProof.Rows
set_option maxRecDepth 100000
set_option maxHeartbeats 1000000
namespace Mine

local macro_rules | `(tactic| walk_at "mn") => `(tactic| (refine n_loc (by assumption) (by first | rfl | assumption) ?_))
local macro_rules | `(tactic| walk_at "mi") => `(tactic| (refine e_int ?_; intro t' tk'))
local macro_rules | `(tactic| walk_at "enter") => `(tactic| ((case k1 => k_is); (case k2 => k_is); (case k3 => exact BindsTo.of_eq rfl); (case k4 => exact locs rfl); (case k5 => decide); (case k6 => rfl); (case k7 => rfl); (case k8 => rfl)))

theorem sub_ie_base : isSubtype (.type "IndexError") (.type "BaseException") = pure true := by rw [isSubtype_type]; kernel_rfl
theorem sub_ie_ie : isSubtype (.type "IndexError") (.type "IndexError") = pure true := by rw [isSubtype_type]; kernel_rfl
theorem meta_ie : isSubtype (.type ((Manifest.find? "IndexError").elim "type" fun y => y.metatype)) (.type "tuple") = pure false := by rw [isSubtype_type]; kernel_rfl

/-- what lies beneath a frame, where an exception may turn the frames' notes -/
structure Dt where
  A₀ : Around
  base : Heap
  outer : List Env
  cn : Str
  cs : Scope
  a : Addr
  ccd : Value
  p : Program
  loose : List Str
  mean : ExcName → Option Value
  mg : Str → Option Value
  mb : Str → Option Value
abbrev Dt.env (d : Dt) (L : Addr) : Env := envOf d.cn d.cs L d.a d.ccd
abbrev Dt.fs (d : Dt) : List Addr := d.outer.filterMap (·.frame)
structure Cy (w : World) (d : Dt) (A : Around) (h₀ : Heap) (L : Addr) (k : Nat) : Prop where
  B : Below d.A₀ d.base d.outer h₀
  hA : A.frames = some (d.env L :: d.outer)
  hck : d.cs.kind = .function
  X : (KK w).In h₀
  T : Top d.p d.loose d.mean d.mg d.mb h₀
  XB : (KK w).In d.base
  TB : Top d.p d.loose d.mean d.mg d.mb d.base
  D : KtsDicts d.fs h₀
  hh : A.handled = none
  dep : A.depth ≤ 301 + k
  uni : A.units ≤ 4 + 4 * k

section
variable {prog : Program} {w : World} {A : Around} {E : Value → Shared → Prop} {s : Shared} {hp h₀ : Heap} {tk : Nat} {L l : Addr} {m : Str → Option Value} {news rest : List (Addr × Obj)} {k : Nat} {Q : Value → Shared → Prop} {d : Dt} {x : Str} {tx : Tok} {n : Nat}

theorem Cy.toCx (C : Cy w d A h₀ L k) : Cx w A h₀ L k := ⟨⟨d.A₀, d.base, d.outer, d.env L, C.B, C.hA, rfl, C.hck⟩, C.X, ⟨_, _, _, _, _, C.T⟩, C.hh, C.dep, C.uni⟩
/-- another ground, the notes turned -/
theorem Cy.turn {h₀' : Heap} (C : Cy w d A h₀ L k) (B : Below d.A₀ d.base d.outer h₀') (X : (KK w).In h₀') (T : Top d.p d.loose d.mean d.mg d.mb h₀') (D : KtsDicts d.fs h₀') : Cy w d A h₀' L k := ⟨B, C.hA, C.hck, X, T, C.XB, C.TB, D, C.hh, C.dep, C.uni⟩
abbrev Dt.up (d : Dt) (A : Around) (L : Addr) (qual : Str) (scope : Scope) (f : Addr) (cdv : Value) : Dt := ⟨A, d.base, d.env L :: d.outer, qual, scope, f, cdv, d.p, d.loose, d.mean, d.mg, d.mb⟩

/-- a def's body is through: the ground may have turned -/
def BackS (fs : List Addr) (g : Heap) (L' : Addr) (K : List (Addr × Obj) → Value → Shared → Prop) (fl : Flow) (s' : Shared) : Prop :=
  ∃ g' m' news', KtsTurn fs g g' ∧ Fr g' L' s'.heap m' ∧ News g' L' s'.heap news' ∧ K news' (retv fl) s'

theorem call_defS {name qual : Str} {params : Arguments} {body : List Stmt} {scope : Scope} {dV kV doc pm cdv ct oc : Value} {an od : Option Addr} {osl : Array (Option Value)} {f : Addr} {vals : List Value} {binds : List (Str × Value)}
    (C : Cy w d A h₀ L k) (hk50 : k ≤ 50) (F : Fr h₀ L hp m) (N : News h₀ L hp news)
    (ho : (hd.heap_39 w.params).lookup f = some ⟨oc, od, .func (fnOf name qual params body scope dV kV doc pm an cdv ct), osl⟩) (hcd : codeIn (hd.heap_39 w.params) cdv qual = true)
    (hbind : BindsTo (St s hp tk) (fnOf name qual params body scope dV kV doc pm an cdv ct) ⟨vals, []⟩ binds) (hloc : ∀ y ∈ binds, scope.names.lookup y.1 = some .local)
    (hcell : ∀ x ∈ scope.names, x.2 ≠ .cell) (hco : scope.isCoroutine = false) (hgen : scope.isGenerator = false) (hk : scope.kind = .function)
    (h : ∀ g L' h₁ tk', Cy w (d.up A L qual scope f cdv) (A.deeper (envOf qual scope L' f cdv)) g L' (k + 1) → Fr g L' h₁ (fun y => binds.reverse.lookup y) → News g L' h₁ news →
      wpAny (model prog w) (A.deeper (envOf qual scope L' f cdv)) (execs body (envOf qual scope L' f cdv))
        (BackS (d.up A L qual scope f cdv).fs g L' fun news' v s' => ∀ h₀', KtsTurn d.fs h₀ h₀' → Cy w d A h₀' L k → Fr h₀' L s'.heap m → News h₀' L s'.heap news' → Q v s') (fun _ _ => False) (St s h₁ tk')) :
    wpAny (model prog w) A (call (.ref f) vals) Q E (St s hp tk) := by
  refine wpAny_call (code_defS (s := St s hp tk) (g₀ := h₀) C.B F C.X N C.T C.XB C.TB C.D KtsTurn.refl C.hA ho hcd (by have := C.dep; show A.depth < 1000; omega) hbind hloc (fun g L' h₁ FG F' N' B' X' T' D' => ?_) C.hck hco hgen hk hcell)
  refine wpAny_mono (h g L' h₁ _ ⟨B', by show (A.deeper _).frames = _; unfold Around.deeper; rw [B'.stack]; rfl, hk, X', T', C.XB, C.TB, D', C.hh, by have := C.dep; show A.depth + 1 ≤ _; omega, by have := C.uni; show A.units + 3 ≤ _; omega⟩ F' N') (fun fl s' hb => ?_) fun _ _ e => e.elim
  obtain ⟨g', m', news', T1, F1, N1, K⟩ := hb
  refine leaveS_r F1 N1 T1 fun h₀' T2 F2 N2 B2 X2 P2 D2 => ?_
  have := K h₀' T2 (C.turn B2 X2 P2 D2) F2 N2
  cases fl <;> exact this

/-- a def that raises at once -/
theorem call_raises {name qual : Str} {params : Arguments} {body : List Stmt} {scope : Scope} {dV kV doc pm cdv ct oc : Value} {an od : Option Addr} {osl : Array (Option Value)} {f : Addr} {vals : List Value} {binds : List (Str × Value)} {X : String}
    (C : Cy w d A h₀ L k) (hk50 : k ≤ 50) (F : Fr h₀ L hp m) (N : News h₀ L hp news)
    (ho : (hd.heap_39 w.params).lookup f = some ⟨oc, od, .func (fnOf name qual params body scope dV kV doc pm an cdv ct), osl⟩) (hcd : codeIn (hd.heap_39 w.params) cdv qual = true)
    (hbind : BindsTo (St s hp tk) (fnOf name qual params body scope dV kV doc pm an cdv ct) ⟨vals, []⟩ binds) (hloc : ∀ y ∈ binds, scope.names.lookup y.1 = some .local)
    (hcell : ∀ x ∈ scope.names, x.2 ≠ .cell) (hco : scope.isCoroutine = false) (hgen : scope.isGenerator = false) (hk : scope.kind = .function)
    (hE : ∀ g h' tk' e, Fr h₀ L g m → RaisedSN d.base g (d.env L :: d.outer) e (.type X) news h' → g.UpToSlots h' → E (.ref e) (St s h' tk'))
    (h : ∀ g L' h₁ tk', Cx w (A.deeper (envOf qual scope L' f cdv)) g L' (k + 1) → Fr g L' h₁ (fun y => binds.reverse.lookup y) → News g L' h₁ news →
      wpAny (model prog w) (A.deeper (envOf qual scope L' f cdv)) (execs body (envOf qual scope L' f cdv)) (fun _ _ => False)
        (fun v s' => ∃ e h₂ h₃ tk'' m', v = .ref e ∧ s' = St s h₃ tk'' ∧ Fr g L' h₂ m' ∧ News g L' h₂ news ∧ Heap.NewExc h₂ h₃ e X) (St s h₁ tk')) :
    wpAny (model prog w) A (call (.ref f) vals) Q E (St s hp tk) := by
  refine wpAny_call (code_def (s := St s hp tk) C.B F C.X N C.T C.hA rfl C.hck ho hcd (by have := C.dep; show A.depth < 1000; omega) hbind hloc (fun g L' h₁ FG F' N' B' X' T' => ?_) hco hgen hk hcell)
  refine wpAny_mono (h g L' h₁ _ (Cx.up B' X' T' C.hh C.dep C.uni rfl hk) F' N') (fun fl s' hb => hb.elim) fun v s' hb => ?_
  obtain ⟨e, h₂, h₃, tk'', m', rfl, rfl, F2, N2, hx⟩ := hb
  exact leave_newS (s' := St s h₃ tk'') B' hx F2 N2 (fun h' R _ hs => hE g h' tk'' e FG R hs) hk

theorem lg_popEmpty (hh : A.handled = none) (N : News h₀ L hp ((l, listOf [].toArray n) :: rest)) (h : ∀ h' tk' e, Heap.NewExc hp h' e "IndexError" → E (.ref e) (St s h' tk')) : wpAny (model prog w) A (call (.builtin "list.pop") [.ref l]) Q E (St s hp tk) := by
  have z := N _ (.head _)
  exact call_meets (s := St s hp tk) PySem.F.slot_list_pop ⟨_, z.1, rfl⟩ PySem.F.entry_list_pop (PySem.F.args_list_pop_1 _) (PySem.AutoSeq1.list_pop_list_0 l #[] n rfl) ⟨z.1, hh, fun h' tk' e hx => h h' tk' e hx⟩

theorem heappop_empty (C : Cy w d A h₀ L k) (hk : k ≤ 40) (F : Fr h₀ L hp m) (N : News h₀ L hp ((l, listOf [].toArray n) :: rest))
    (hE : ∀ g h' tk' e, Fr h₀ L g m → RaisedSN d.base g (d.env L :: d.outer) e (.type "IndexError") ((l, listOf [].toArray n) :: rest) h' → g.UpToSlots h' → E (.ref e) (St s h' tk')) :
    wpAny (model prog w) A (call (.ref 62) [.ref l]) Q E (St s hp tk) := by
  refine' call_raises (binds := [("heap", .ref l)]) C (by omega) F N ?k1 ?k2 ?k3 ?k4 ?k5 ?k6 ?k7 ?k8 hE ?_
  walk_at "enter"
  intro g L' h₁ tk' C' F' N'
  refine x_asg (e_meth ?_)
  walk_at "mn"
  refine m_list N' PySem.F.slot_list_pop PySem.F.type_list_pop ?_
  refine cw_m0 ?_
  refine lg_popEmpty C'.hh N' fun h' tk'' e hx => ?_
  exact ⟨e, h₁, h', tk'', _, rfl, rfl, F', N', hx⟩
theorem heapreplace_empty (C : Cy w d A h₀ L k) (hk : k ≤ 40) (F : Fr h₀ L hp m) (N : News h₀ L hp ((l, listOf [].toArray n) :: rest))
    (hE : ∀ g h' tk' e, Fr h₀ L g m → RaisedSN d.base g (d.env L :: d.outer) e (.type "IndexError") ((l, listOf [].toArray n) :: rest) h' → g.UpToSlots h' → E (.ref e) (St s h' tk')) :
    wpAny (model prog w) A (call (.ref 69) [.ref l, .str x tx]) Q E (St s hp tk) := by
  refine' call_raises (binds := [("heap", .ref l), ("item", .str x tx)]) C (by omega) F N ?k1 ?k2 ?k3 ?k4 ?k5 ?k6 ?k7 ?k8 hE ?_
  walk_at "enter"
  intro g L' h₁ tk' C' F' N'
  refine x_asg (e_sub ?_)
  walk_at "mn"
  walk_at "mi"
  have hl := News.isListAt N'
  refine tail_any (s := St s h₁ _) hl.typeIs slot_list_getitem.lookup (wpAny_getItem_list_out (s := St s h₁ _) C'.hh hl (.inr (by simp)) (by omega) (by omega) fun h' tk'' e hx => ?_) (ops := [.ref l, .int 0 _]) (by with_unfolding_all rfl)
  exact ⟨e, h₁, h', tk'', _, rfl, rfl, F', N', hx⟩

/-- what a call does to a heap, and gives back -/
def CallV (kind : Int) (vs : List Value) (x : Value) (v : Value) (vs' : List Value) : Prop :=
  if kind < 2 then v = .none ∧ vs' = push ltV .none x vs
  else if kind = 2 then (if vs = [] then (∃ t, v = .str (Str.ofString "\n") t) ∧ vs' = [] else v = vs.getD 0 .none ∧ vs' = popRest ltV .none vs)
  else if kind = 3 then (if vs = [] then (∃ t, v = .str (Str.ofString "\n") t) ∧ vs' = [] else v = vs.getD 0 .none ∧ vs' = repl ltV .none x vs)
  else if kind = 4 then v = ppVal x vs ∧ vs' = ppRest x vs
  else v = .none ∧ vs' = heapify ltV .none (x :: vs)

theorem lawCall_spec {kind : Int} {tkd : Tok} {vs : List Value} (C : Cy w d A h₀ L k) (hk : k ≤ 30) (F : Fr h₀ L hp m) (N : News h₀ L hp ((l, listOf vs.toArray n) :: rest)) (ha : Apart l rest) (hS : Strs vs) (hz : vs.length ≤ 100)
    (h : ∀ h₀' h' tk' n' v vs', KtsTurn d.fs h₀ h₀' → Cy w d A h₀' L k → Fr h₀' L h' m → News h₀' L h' ((l, listOf vs'.toArray n') :: rest) → CallV kind vs (.str x tx) v vs' → Q v (St s h' tk')) :
    wpAny (model prog w) A (call (.ref 118) [.int kind tkd, .ref l, .str x tx]) Q E (St s hp tk) := by
  refine' call_defS (binds := [("kind", .int kind tkd), ("heap", .ref l), ("row", .str x tx)]) C (by omega) F N ?k1 ?k2 ?k3 ?k4 ?k5 ?k6 ?k7 ?k8 ?_
  walk_at "enter"
  intro g L' h₁ tk' C' F' N'
  refine wpAny_execs_cons (wpAny_Try_except ?_)
  refine x_ifD (kind < 2) (t_cmp ?_) (fun hkd tk2 => ?_) (fun hkd tk2 => ?_)
  · walk_at "mn"
    walk_at "mi"
    exact c_lt ⟨rfl, _, rfl⟩
  · refine x_ret (e_call ?_)
    refine n_top C'.toCx F' (by k_is) ?_
    refine cw_def2 (by k_is) ?_ (C'.X.keeps F'.keep)
    walk_at "mn"
    walk_at "mn"
    refine ⟨C'.X.keeps F'.keep, ?_⟩
    refine heappush_spec C'.toCx (by omega) F' N' ha hS (by omega) ?_
    intro h2 tk3 n2 F2 N2
    exact ⟨g, _, _, KtsTurn.refl, F2, N2, fun h₀' T1 C1 F1 N1 => h _ _ _ _ _ _ T1 C1 F1 N1 (by unfold CallV; rw [if_pos hkd]; exact ⟨rfl, rfl⟩)⟩
  · refine x_nil ?_
    refine x_ifD (kind = 2) (t_cmp ?_) (fun hkd2 tk3 => ?_) (fun hkd2 tk3 => ?_)
    · walk_at "mn"
      walk_at "mi"
      refine c_eq ⟨?_, _, rfl⟩
      by_cases q : kind = 2 <;> simp [q]
    · refine x_ret (e_call ?_)
      refine n_top C'.toCx F' (by k_is) ?_
      refine cw_def1 (by k_is) ?_ (C'.X.keeps F'.keep)
      walk_at "mn"
      refine ⟨C'.X.keeps F'.keep, ?_⟩
      by_cases he : vs = []
      · subst he
        refine heappop_empty C' (by omega) F' N' ?_
        intro g2 h2 tk4 e F2 R2 hs2
        refine caught_SN0 (A₀ := A) (KF := hd.heap_39 w.params) (g := g) (g₀ := g) R2 F2 C'.B hs2 C'.XB C'.TB C'.D KtsTurn.refl (by k_is) (by boot_by_name) (by decide) sub_ie_base meta_ie sub_ie_ie ?_
        intro h3 g3 T3 F3 N3 B3 X3 P3 D3
        show wpAny _ _ _ _ _ (St s h3 tk4)
        refine x_ret (e_str ?_)
        intro t5 tk5
        exact ⟨g3, _, _, T3, F3, N3, fun h₀' T1 C1 F1 N1 => h _ _ _ _ _ [] T1 C1 F1 N1 (by unfold CallV; rw [if_neg hkd, if_pos hkd2, if_pos rfl]; exact ⟨⟨_, rfl⟩, rfl⟩)⟩
      · refine heappop_spec C'.toCx (by omega) F' N' ha hS (List.length_pos_iff.mpr he) (by omega) ?_
        intro h2 tk4 n2 F2 N2
        exact ⟨g, _, _, KtsTurn.refl, F2, N2, fun h₀' T1 C1 F1 N1 => h _ _ _ _ _ _ T1 C1 F1 N1 (by unfold CallV; rw [if_neg hkd, if_pos hkd2, if_neg he]; exact ⟨rfl, rfl⟩)⟩
    · refine x_nil ?_
      refine x_ifD (kind = 3) (t_cmp ?_) (fun hkd3 tk3 => ?_) (fun hkd3 tk3 => ?_)
      · walk_at "mn"
        walk_at "mi"
        refine c_eq ⟨?_, _, rfl⟩
        by_cases q : kind = 3 <;> simp [q]
      · refine x_ret (e_call ?_)
        refine n_top C'.toCx F' (by k_is) ?_
        refine cw_def2 (by k_is) ?_ (C'.X.keeps F'.keep)
        walk_at "mn"
        walk_at "mn"
        refine ⟨C'.X.keeps F'.keep, ?_⟩
        by_cases he : vs = []
        · subst he
          refine heapreplace_empty C' (by omega) F' N' ?_
          intro g2 h2 tk4 e F2 R2 hs2
          refine caught_SN0 (A₀ := A) (KF := hd.heap_39 w.params) (g := g) (g₀ := g) R2 F2 C'.B hs2 C'.XB C'.TB C'.D KtsTurn.refl (by k_is) (by boot_by_name) (by decide) sub_ie_base meta_ie sub_ie_ie ?_
          intro h3 g3 T3 F3 N3 B3 X3 P3 D3
          show wpAny _ _ _ _ _ (St s h3 tk4)
          refine x_ret (e_str ?_)
          intro t5 tk5
          exact ⟨g3, _, _, T3, F3, N3, fun h₀' T1 C1 F1 N1 => h _ _ _ _ _ [] T1 C1 F1 N1 (by unfold CallV; rw [if_neg hkd, if_neg hkd2, if_pos hkd3, if_pos rfl]; exact ⟨⟨_, rfl⟩, rfl⟩)⟩
        · refine heapreplace_spec C'.toCx (by omega) F' N' ha hS (List.length_pos_iff.mpr he) (by omega) ?_
          intro h2 tk4 F2 N2
          exact ⟨g, _, _, KtsTurn.refl, F2, N2, fun h₀' T1 C1 F1 N1 => h _ _ _ _ _ _ T1 C1 F1 N1 (by unfold CallV; rw [if_neg hkd, if_neg hkd2, if_pos hkd3, if_neg he]; exact ⟨rfl, rfl⟩)⟩
      · refine x_nil ?_
        refine x_ifD (kind = 4) (t_cmp ?_) (fun hkd4 tk3 => ?_) (fun hkd4 tk3 => ?_)
        · walk_at "mn"
          walk_at "mi"
          refine c_eq ⟨?_, _, rfl⟩
          by_cases q : kind = 4 <;> simp [q]
        · refine x_ret (e_call ?_)
          refine n_top C'.toCx F' (by k_is) ?_
          refine cw_def2 (by k_is) ?_ (C'.X.keeps F'.keep)
          walk_at "mn"
          walk_at "mn"
          refine ⟨C'.X.keeps F'.keep, ?_⟩
          refine heappushpop_spec C'.toCx (by omega) F' N' ha hS (by omega) ?_
          intro h2 tk4 F2 N2
          exact ⟨g, _, _, KtsTurn.refl, F2, N2, fun h₀' T1 C1 F1 N1 => h _ _ _ _ _ _ T1 C1 F1 N1 (by unfold CallV; rw [if_neg hkd, if_neg hkd2, if_neg hkd3, if_pos hkd4]; exact ⟨rfl, rfl⟩)⟩
        · refine x_nil ?_
          refine x_expr (e_meth ?_)
          walk_at "mn"
          refine m_list N' PySem.F.slot_list_insert PySem.F.type_list_insert ?_
          refine cw_m2 ?_
          walk_at "mi"
          walk_at "mn"
          refine lg_insert0 F' N' ha (by omega) ?_
          intro h2 F2 N2
          refine x_ret (e_call ?_)
          refine n_top C'.toCx F2 (by k_is) ?_
          refine cw_def1 (by k_is) ?_ (C'.X.keeps F2.keep)
          walk_at "mn"
          refine ⟨C'.X.keeps F2.keep, ?_⟩
          refine heapify_spec C'.toCx (by omega) F2 N2 ha (fun v hv => (List.mem_cons.mp hv).elim (fun q => ⟨x, tx, q⟩) (hS v)) (by simp; omega) ?_
          intro h3 tk4 F3 N3
          exact ⟨g, _, _, KtsTurn.refl, F3, N3, fun h₀' T1 C1 F1 N1 => h _ _ _ _ _ _ T1 C1 F1 N1 (by unfold CallV; rw [if_neg hkd, if_neg hkd2, if_neg hkd3, if_neg hkd4]; exact ⟨rfl, rfl⟩)⟩
end
end Mine
end
section
set_option maxHeartbeats 1000000
namespace Mine
section
variable {α : Type} (lt : α → α → Bool) (d : α)

structure Ord (lt : α → α → Bool) : Prop where
  trans : ∀ a b c, lt b a = false → lt c b = false → lt c a = false
  asymm : ∀ a b, lt a b = true → lt b a = false

/-- the parent's place -/
abbrev par (i : Nat) : Nat := (i - 1) / 2

/-- p lies in the tree of start -/
inductive Desc (start : Nat) : Nat → Prop
  | self : Desc start start
  | down {c : Nat} : 0 < c → Desc start (par c) → Desc start c
theorem Desc.le {start p : Nat} (h : Desc start p) : start ≤ p := by
  induction h with
  | self => exact Nat.le_refl _
  | down h0 _ ih => unfold par at ih; omega
theorem Desc.par {start p : Nat} (h : Desc start p) (hp : start < p) : Desc start (par p) := by
  cases h with
  | self => omega
  | down _ h => exact h

def HeapFrom (start : Nat) (xs : List α) : Prop := ∀ i, 0 < i → i < xs.length → start ≤ par i → lt (xs.getD i d) (xs.getD (par i) d) = false

/-- all is well but around the hole p -/
structure Hole (start p : Nat) (xs : List α) : Prop where
  desc : Desc start p
  lt_ : p < xs.length
  ok : ∀ i, 0 < i → i < xs.length → start ≤ par i → i ≠ p → par i ≠ p → lt (xs.getD i d) (xs.getD (par i) d) = false
  grand : ∀ c, 0 < c → c < xs.length → par c = p → start < p → lt (xs.getD c d) (xs.getD (par p) d) = false

theorem getD_set_self {xs : List α} {i : Nat} {x : α} (h : i < xs.length) : (xs.set i x).getD i d = x := by
  rw [List.getD_eq_getElem?_getD, List.getElem?_set_self h]; rfl
theorem getD_set_ne {xs : List α} {i j : Nat} {x : α} (h : i ≠ j) : (xs.set i x).getD j d = xs.getD j d := by
  rw [List.getD_eq_getElem?_getD, List.getElem?_set_ne h, List.getD_eq_getElem?_getD]

variable {lt d}

theorem sdown_heap (O : Ord lt) (x : α) (start : Nat) : ∀ (p : Nat) (xs : List α), Hole lt d start p xs → (∀ c, 0 < c → c < xs.length → par c = p → lt (xs.getD c d) x = false) → HeapFrom lt d start (sdown lt d x start p xs) := by
  intro p
  induction p using Nat.strongRecOn with
  | ind p ih =>
    intro xs H hx
    have place : (start < p → lt x (xs.getD (par p) d) = false) → HeapFrom lt d start (xs.set p x) := by
      intro hpar i h0 hi hs
      rw [List.length_set] at hi
      by_cases e1 : i = p
      · subst e1
        rw [getD_set_self d hi]
        have : i ≠ par i := by unfold par; omega
        rw [getD_set_ne d this]
        refine hpar ?_
        have := H.desc.le
        unfold par at hs
        omega
      · by_cases e2 : par i = p
        · rw [e2, getD_set_self d H.lt_, getD_set_ne d (Ne.symm e1)]
          exact hx i h0 hi e2
        · rw [getD_set_ne d (Ne.symm e1), getD_set_ne d (Ne.symm e2)]
          exact H.ok i h0 hi hs e1 e2
    rw [sdown]
    split
    · rename_i hs
      split
      · rename_i hlt
        have hD := H.desc.par hs
        have hg : par p < p := by unfold par; omega
        have hgl : par p < xs.length := by have := H.lt_; omega
        refine ih (par p) hg _ ⟨hD, by rw [List.length_set]; exact hgl, ?_, ?_⟩ ?_
        · intro i h0 hi hsi n1 n2
          rw [List.length_set] at hi
          by_cases e1 : i = p
          · exact absurd (by rw [e1]) n2
          · rw [getD_set_ne d (Ne.symm e1)]
            by_cases e2 : par i = p
            · rw [e2, getD_set_self d H.lt_]
              exact H.grand i h0 hi e2 hs
            · rw [getD_set_ne d (Ne.symm e2)]
              exact H.ok i h0 hi hsi e1 e2
        · intro c h0 hc hpc hsp
          rw [List.length_set] at hc
          have hgg : p ≠ par (par p) := by unfold par; omega
          rw [getD_set_ne d hgg]
          have base : lt (xs.getD (par p) d) (xs.getD (par (par p)) d) = false := by
            refine H.ok (par p) (by omega) hgl (hD.par hsp).le (by omega) (by unfold par; omega)
          by_cases e1 : c = p
          · subst e1; rw [getD_set_self d hc]; exact base
          · rw [getD_set_ne d (Ne.symm e1)]
            refine O.trans _ _ _ base ?_
            have := H.ok c h0 hc (by rw [hpc]; exact hD.le) e1 (by rw [hpc]; omega)
            rw [hpc] at this
            exact this
        · intro c h0 hc hpc
          rw [List.length_set] at hc
          have hxg : lt (xs.getD (par p) d) x = false := O.asymm _ _ hlt
          by_cases e1 : c = p
          · subst e1; rw [getD_set_self d hc]; exact hxg
          · rw [getD_set_ne d (Ne.symm e1)]
            refine O.trans _ _ _ hxg ?_
            have := H.ok c h0 hc (by rw [hpc]; exact hD.le) e1 (by rw [hpc]; omega)
            rw [hpc] at this
            exact this
      · rename_i hlt
        exact place fun _ => by simpa using hlt
    · rename_i hs
      exact place fun q => absurd q hs

theorem supGo_hole (O : Ord lt) (start : Nat) : ∀ (k p : Nat) (xs : List α), xs.length - p = k → Hole lt d start p xs → Hole lt d start (supGo lt d p xs).1 (supGo lt d p xs).2 ∧ ¬ 2 * (supGo lt d p xs).1 + 1 < (supGo lt d p xs).2.length ∧ (supGo lt d p xs).2.length = xs.length := by
  intro k
  induction k using Nat.strongRecOn with
  | ind k ih =>
    intro p xs hk H
    rw [supGo]
    split
    · rename_i hc
      have hch := child_lt lt d hc
      have hcp : child lt d (2 * p + 1) xs = 2 * p + 1 ∨ child lt d (2 * p + 1) xs = 2 * p + 2 := by unfold child; split <;> omega
      have hsm : ∀ c, 0 < c → c < xs.length → par c = p → lt (xs.getD c d) (xs.getD (child lt d (2 * p + 1) xs) d) = false := by
        intro c h0 hl hp
        have hcc : c = 2 * p + 1 ∨ c = 2 * p + 2 := by unfold par at hp; omega
        have irr : ∀ a, lt a a = false := fun a => by
          cases q : lt a a with
          | false => rfl
          | true => exact (O.asymm a a q).symm.trans q |>.symm ▸ rfl
        unfold child
        split
        · rename_i q
          rcases hcc with rfl | rfl
          · exact q.2
          · exact irr _
        · rename_i q
          rcases hcc with rfl | rfl
          · exact irr _
          · have : lt (xs.getD (2 * p + 1) d) (xs.getD (2 * p + 1 + 1) d) = true := by
              cases z : lt (xs.getD (2 * p + 1) d) (xs.getD (2 * p + 1 + 1) d) with
              | true => rfl
              | false => exact absurd ⟨hl, z⟩ q
            exact O.asymm _ _ this
      generalize hcd : child lt d (2 * p + 1) xs = c at hch hcp hsm
      have hpc : par c = p := by unfold par; omega
      have := ih (xs.length - c) (by omega) c (xs.set p (xs.getD c d)) (by rw [List.length_set]) ⟨Desc.down (by omega) (by rw [hpc]; exact H.desc), by rw [List.length_set]; exact hch.1, ?_, ?_⟩
      · rw [List.length_set] at this
        exact this
      · intro i h0 hi hs n1 n2
        rw [List.length_set] at hi
        by_cases e1 : i = p
        · subst e1
          have : i ≠ par i := by unfold par; omega
          rw [getD_set_self d hi, getD_set_ne d this]
          refine H.grand c (by omega) hch.1 hpc ?_
          have := H.desc.le
          unfold par at hs
          omega
        · rw [getD_set_ne d (Ne.symm e1)]
          by_cases e2 : par i = p
          · rw [e2, getD_set_self d H.lt_]
            exact hsm i h0 hi e2
          · rw [getD_set_ne d (Ne.symm e2)]
            exact H.ok i h0 hi hs e1 e2
      · intro c' h0 hc' hp' hs
        rw [List.length_set] at hc'
        have e1 : p ≠ c' := by unfold par at hp'; omega
        rw [hpc, getD_set_self d H.lt_, getD_set_ne d e1]
        have := H.ok c' h0 hc' (by rw [hp']; omega) (Ne.symm e1) (by rw [hp']; omega)
        rw [hp'] at this
        exact this
    · rename_i hc
      exact ⟨H, hc, rfl⟩

theorem sup_heap (O : Ord lt) {start : Nat} {xs : List α} (hs : start < xs.length) (h : HeapFrom lt d (start + 1) xs) : HeapFrom lt d start (sup lt d start xs) := by
  unfold sup
  obtain ⟨H, hleaf, hlen⟩ := supGo_hole O start _ start xs rfl ⟨.self, hs, fun i h0 hi hp n1 n2 => h i h0 hi (by omega), fun c h0 hc hp hss => by omega⟩
  generalize supGo lt d start xs = r at H hleaf hlen
  have hn : ∀ c, 0 < c → par c = r.1 → ¬ c < r.2.length := by intro c h0 hp; unfold par at hp; omega
  refine sdown_heap O _ start r.1 _ ⟨H.desc, by rw [List.length_set]; exact H.lt_, ?_, ?_⟩ ?_
  · intro i h0 hi hp n1 n2
    rw [List.length_set] at hi
    rw [getD_set_ne d (Ne.symm n1), getD_set_ne d (Ne.symm n2)]
    exact H.ok i h0 hi hp n1 n2
  · intro c h0 hc hp
    rw [List.length_set] at hc
    exact absurd hc (hn c h0 hp)
  · intro c h0 hc hp
    rw [List.length_set] at hc
    exact absurd hc (hn c h0 hp)
end
end Mine
end
section
set_option maxHeartbeats 1000000
namespace Mine
section
variable {α : Type} {lt : α → α → Bool} {d : α}

theorem push_heap (O : Ord lt) {x : α} {xs : List α} (h : HeapFrom lt d 0 xs) : HeapFrom lt d 0 (push lt d x xs) := by
  unfold push
  have hl : (xs ++ [x]).length = xs.length + 1 := by simp
  have hg : ∀ i, i < xs.length → (xs ++ [x]).getD i d = xs.getD i d := fun i hi => by
    rw [List.getD_eq_getElem?_getD, List.getElem?_append_left hi, List.getD_eq_getElem?_getD]
  have desc : ∀ k, Desc 0 k := by
    intro k
    induction k using Nat.strongRecOn with
    | ind k ih =>
      by_cases q : k = 0
      · exact q ▸ .self
      · exact .down (by omega) (ih (par k) (by unfold par; omega))
  refine sdown_heap O x 0 xs.length (xs ++ [x]) ⟨desc _, by omega, ?_, ?_⟩ ?_
  · intro i h0 hi _ n1 _
    have : i < xs.length := by omega
    rw [hg i this, hg (par i) (by unfold par; omega)]
    exact h i h0 this (Nat.zero_le _)
  · intro c h0 hc hp _
    unfold par at hp; omega
  · intro c h0 hc hp
    unfold par at hp; omega

theorem repl_heap (O : Ord lt) {x : α} {xs : List α} (h0 : 0 < xs.length) (h : HeapFrom lt d 0 xs) : HeapFrom lt d 0 (repl lt d x xs) := by
  unfold repl
  refine sup_heap O (by rw [List.length_set]; exact h0) ?_
  intro i hi hl hp
  rw [List.length_set] at hl
  rw [getD_set_ne d (by omega), getD_set_ne d (by omega)]
  exact h i hi hl (Nat.zero_le _)

theorem popRest_heap (O : Ord lt) {xs : List α} (h : HeapFrom lt d 0 xs) : HeapFrom lt d 0 (popRest lt d xs) := by
  unfold popRest
  split
  · intro i _ hi _; simp at hi
  · rename_i hn
    have hl : xs.dropLast.length = xs.length - 1 := List.length_dropLast ..
    refine sup_heap O (by rw [List.length_set]; omega) ?_
    have hg : ∀ i, i < xs.length - 1 → xs.dropLast.getD i d = xs.getD i d := fun i hi => by
      rw [getD_lt d (by omega), getD_lt d (by omega), List.getElem_dropLast]
    intro i hi hli hp
    rw [List.length_set] at hli
    rw [getD_set_ne d (by omega), getD_set_ne d (by omega), hg i (by omega), hg (par i) (by unfold par; omega)]
    exact h i hi (by omega) (Nat.zero_le _)

theorem hfy_heap [DecidableEq α] (O : Ord lt) : ∀ (i : Nat) (xs : List α), i ≤ xs.length → HeapFrom lt d i xs → HeapFrom lt d 0 (hfy lt d i xs)
  | 0, _, _, h => h
  | i + 1, xs, hl, h => by
    have p := sup_perm lt d (pos := i) (xs := xs) (by omega)
    exact hfy_heap O i _ (by rw [p.length_eq]; omega) (sup_heap O (by omega) h)
theorem heapify_heap [DecidableEq α] (O : Ord lt) (xs : List α) : HeapFrom lt d 0 (heapify lt d xs) := by
  refine hfy_heap O _ xs (by omega) ?_
  intro i hi hl hp
  unfold par at hp; omega

theorem root_least (O : Ord lt) {xs : List α} (h : HeapFrom lt d 0 xs) : ∀ i, i < xs.length → lt (xs.getD i d) (xs.getD 0 d) = false := by
  intro i
  induction i using Nat.strongRecOn with
  | ind i ih =>
    intro hi
    by_cases q : i = 0
    · subst q
      cases z : lt (xs.getD 0 d) (xs.getD 0 d) with
      | false => rfl
      | true => exact (O.asymm _ _ z).symm.trans z |>.symm ▸ rfl
    · exact O.trans _ _ _ (ih (par i) (by unfold par; omega) (by unfold par; omega)) (h i (by omega) hi (Nat.zero_le _))
theorem root_least' (O : Ord lt) {xs : List α} (h : HeapFrom lt d 0 xs) : ∀ y ∈ xs, lt y (xs.getD 0 d) = false := by
  intro y hy
  obtain ⟨i, hi, rfl⟩ := List.getElem_of_mem hy
  have := root_least O h i hi
  rwa [getD_lt d hi] at this
end

/-! the functions and a map that keeps the order -/
section
variable {α β : Type} {lt : α → α → Bool} {d : α} {lt' : β → β → Bool} {d' : β} {f : α → β}
structure Keeps (lt : α → α → Bool) (d : α) (lt' : β → β → Bool) (d' : β) (f : α → β) : Prop where
  ord : ∀ a b, lt' (f a) (f b) = lt a b
  dflt : f d = d'
variable (K : Keeps lt d lt' d' f)
include K
theorem getD_map (xs : List α) (i : Nat) : (xs.map f).getD i d' = f (xs.getD i d) := by
  rw [List.getD_eq_getElem?_getD, List.getD_eq_getElem?_getD, List.getElem?_map]
  cases xs[i]? with
  | none => exact K.dflt.symm
  | some a => rfl
theorem sdown_map (x : α) (start : Nat) : ∀ (p : Nat) (xs : List α), (sdown lt d x start p xs).map f = sdown lt' d' (f x) start p (xs.map f) := by
  intro p
  induction p using Nat.strongRecOn with
  | ind p ih =>
    intro xs
    rw [sdown]
    conv => rhs; rw [sdown]
    rw [getD_map K, K.ord]
    split
    · split
      · rw [ih _ (by omega), List.map_set]
      · rw [List.map_set]
    · rw [List.map_set]
theorem child_map (c : Nat) (xs : List α) : child lt' d' c (xs.map f) = child lt d c xs := by
  unfold child
  rw [getD_map K, getD_map K, K.ord, List.length_map]
theorem supGo_map : ∀ (k p : Nat) (xs : List α), xs.length - p = k → supGo lt' d' p (xs.map f) = ((supGo lt d p xs).1, (supGo lt d p xs).2.map f) := by
  intro k
  induction k using Nat.strongRecOn with
  | ind k ih =>
    intro p xs hk
    rw [supGo]
    conv => rhs; rw [supGo]
    rw [List.length_map, child_map K, getD_map K]
    split
    · rename_i hc
      have hch := child_lt lt d hc
      rw [← List.map_set]
      exact ih (xs.length - child lt d (2 * p + 1) xs) (by omega) _ _ (by rw [List.length_set])
    · rfl
theorem sup_map (p : Nat) (xs : List α) : (sup lt d p xs).map f = sup lt' d' p (xs.map f) := by
  unfold sup
  rw [sdown_map K, getD_map K, supGo_map K _ p xs rfl, List.map_set]
theorem push_map (x : α) (xs : List α) : (push lt d x xs).map f = push lt' d' (f x) (xs.map f) := by
  unfold push; rw [sdown_map K, List.map_append, List.length_map]; rfl
theorem popRest_map (xs : List α) : (popRest lt d xs).map f = popRest lt' d' (xs.map f) := by
  unfold popRest
  rw [List.length_map]
  split
  · rfl
  · rw [sup_map K, List.map_set, List.map_dropLast, getD_map K]
theorem repl_map (x : α) (xs : List α) : (repl lt d x xs).map f = repl lt' d' (f x) (xs.map f) := by
  unfold repl; rw [sup_map K, List.map_set]
theorem hfy_map : ∀ (i : Nat) (xs : List α), (hfy lt d i xs).map f = hfy lt' d' i (xs.map f)
  | 0, _ => rfl
  | i + 1, xs => by show (hfy lt d i (sup lt d i xs)).map f = hfy lt' d' i (sup lt' d' i (xs.map f)); rw [hfy_map i, sup_map K]
theorem heapify_map (xs : List α) : (heapify lt d xs).map f = heapify lt' d' (xs.map f) := by
  unfold heapify; rw [hfy_map K, List.length_map]
end
end Mine
end
section
open PySem PySem.W PySem.Calls PyProof.Rows PySem.StrLaws PySem.Builtin.Str
set_option maxRecDepth 100000
set_option maxHeartbeats 1000000
namespace Mine
/-- no line end in it -/
def Free (x : List Nat) : Prop := ∀ c ∈ x, c ≠ 10 ∧ c ≠ 13 ∧ c < 1114112

theorem crlf_app {x : List Nat} (h : Free x) (t : List Nat) : crlf (x ++ t) = x ++ crlf t := by
  induction x with
  | nil => rfl
  | cons c r ih =>
    have hc := h c List.mem_cons_self
    rw [List.cons_append, crlf_plain (fun q => q.elim hc.1 hc.2.1), ih fun c hc => h c (List.mem_cons_of_mem _ hc)]
    rfl
theorem dots_app {x : List Nat} (h : Free x) (t : List Nat) : dots false (x ++ t) = x ++ dots false t := by
  induction x with
  | nil => rfl
  | cons c r ih =>
    have hc := h c List.mem_cons_self
    rw [List.cons_append, dots, if_neg (fun q => by simp at q), show (c == 10) = false by simpa using hc.1, ih fun c hc => h c (List.mem_cons_of_mem _ hc)]
    rfl
theorem dots_13 (b : Bool) (t : List Nat) : dots b (13 :: t) = 13 :: dots false t := by
  rw [dots, if_neg (fun q => by omega)]; rfl
theorem dots_app1 {x : List Nat} (h : Free x) (t : List Nat) : dots true (x ++ 13 :: t) = more 1 x ++ 13 :: dots false t := by
  cases x with
  | nil => exact dots_13 _ _
  | cons c r =>
    have hc := h c List.mem_cons_self
    have hr : Free r := fun c hc => h c (List.mem_cons_of_mem _ hc)
    rw [List.cons_append, dots, show (c == 10) = false by simpa using hc.1, dots_app hr, dots_13]
    unfold more
    by_cases q : c = 46
    · subst q; rfl
    · rw [if_neg (fun z => q z.2), if_neg (by simpa using q)]; rfl
theorem dots_all {x : List Nat} (h : Free x) : dots true x = more 1 x := by
  cases x with
  | nil => rfl
  | cons c r =>
    have hc := h c List.mem_cons_self
    have hr : Free r := fun c hc => h c (List.mem_cons_of_mem _ hc)
    have := dots_app hr []
    rw [List.append_nil, show dots false [] = [] from rfl, List.append_nil] at this
    rw [dots, show (c == 10) = false by simpa using hc.1, this]
    unfold more
    by_cases q : c = 46
    · subst q; rfl
    · rw [if_neg (fun z => q z.2), if_neg (by simpa using q)]; rfl
theorem crlf_all {x : List Nat} (h : Free x) : crlf x = x := by
  have := crlf_app h []
  rwa [List.append_nil, show crlf [] = [] from rfl, List.append_nil] at this
theorem quoted {x : List Nat} (h : Free x) : dots true (crlf x) = more 1 x := by rw [crlf_all h, dots_all h]

theorem more_free {n : Nat} {x : List Nat} (h : Free x) : Free (more n x) := by
  unfold more
  split
  · intro c hc
    rcases List.mem_append.mp hc with q | q
    · have := List.eq_of_mem_replicate q; omega
    · exact h c q
  · exact h
theorem more_zero (x : List Nat) : more 0 x = x := by unfold more; split <;> rfl
theorem more_head (n : Nat) (x : List Nat) : (more n x).head? = x.head? := by
  unfold more
  split
  · rename_i h
    cases n with
    | zero => rfl
    | succ n => rw [h]; rfl
  · rfl
theorem more_succ (n : Nat) (x : List Nat) : more 1 (more n x) = more (n + 1) x := by
  by_cases h : x.head? = some 46
  · rw [more, more_head, if_pos h]
    unfold more
    rw [if_pos h, if_pos h]
    rfl
  · rw [more, more_head, if_neg h]
    unfold more
    rw [if_neg h, if_neg h]
theorem more_len (n : Nat) (x : List Nat) : (more n x).length ≤ x.length + n := by
  unfold more
  split
  · simp; omega
  · omega
theorem cons_lt {a : Nat} {x y : List Nat} : a :: x < a :: y ↔ x < y := by
  rw [List.cons_lt_cons_iff]
  constructor
  · rintro (h | h)
    · omega
    · exact h.2
  · exact fun h => .inr ⟨rfl, h⟩
theorem more1_lt (x y : List Nat) : (more 1 x < more 1 y) ↔ x < y := by
  unfold more
  by_cases hx : x.head? = some 46 <;> by_cases hy : y.head? = some 46
  · rw [if_pos hx, if_pos hy]; exact cons_lt
  · rw [if_pos hx, if_neg hy]
    cases x with
    | nil => cases hx
    | cons a x =>
      obtain rfl : a = 46 := by simpa using hx
      cases y with
      | nil => simp
      | cons b y =>
        have hb : b ≠ 46 := by simpa using hy
        show 46 :: 46 :: x < b :: y ↔ _
        rw [List.cons_lt_cons_iff, List.cons_lt_cons_iff]
        constructor <;> rintro (h | h) <;> first | exact .inl h | exact absurd h.1.symm hb
  · rw [if_neg hx, if_pos hy]
    cases y with
    | nil => cases hy
    | cons a y =>
      obtain rfl : a = 46 := by simpa using hy
      cases x with
      | nil => exact ⟨fun _ => List.nil_lt_cons _ _, fun _ => List.nil_lt_cons _ _⟩
      | cons b x =>
        have hb : b ≠ 46 := by simpa using hx
        show b :: x < 46 :: 46 :: y ↔ _
        rw [List.cons_lt_cons_iff, List.cons_lt_cons_iff]
        constructor <;> rintro (h | h) <;> first | exact .inl h | exact absurd h.1 hb
  · rw [if_neg hx, if_neg hy]
theorem more_lt : ∀ (n : Nat) (x y : List Nat), (more n x < more n y) ↔ x < y
  | 0, x, y => by rw [more_zero, more_zero]
  | n + 1, x, y => by rw [← more_succ n x, ← more_succ n y, more1_lt, more_lt n]

/-! mails -/
def joinL (sep : List Nat) : List (List Nat) → List Nat
  | [] => []
  | [r] => r
  | r :: s :: t => r ++ (sep ++ joinL sep (s :: t))
def IsSep (sep : List Nat) : Prop := sep = [10] ∨ sep = [13] ∨ sep = [13, 10]
theorem joinL_head {t : List (List Nat)} (h : ∀ r ∈ t, Free r) : (joinL [13] t).head? ≠ some 10 := by
  cases t with
  | nil => simp [joinL]
  | cons r t =>
    have hr := h r List.mem_cons_self
    cases r with
    | nil => cases t <;> simp [joinL]
    | cons c r =>
      have := (hr c List.mem_cons_self).1
      cases t <;> simp [joinL, this]
theorem mail_crlf {sep : List Nat} (hs : IsSep sep) : ∀ rows : List (List Nat), (∀ r ∈ rows, Free r) → crlf (joinL sep rows) = joinL [13, 10] rows
  | [], _ => rfl
  | [r], h => crlf_all (h r List.mem_cons_self)
  | r :: s :: t, h => by
    have ht : ∀ r ∈ s :: t, Free r := fun r hr => h r (List.mem_cons_of_mem _ hr)
    have ih := mail_crlf hs (s :: t) ht
    rw [joinL, joinL, crlf_app (h r List.mem_cons_self), ← ih]
    congr 1
    rcases hs with rfl | rfl | rfl
    · exact crlf_one (.inl rfl) (fun q => by omega)
    · exact crlf_one (.inr rfl) fun q => joinL_head ht q.2
    · exact crlf_two _
theorem mail_dots : ∀ rows : List (List Nat), (∀ r ∈ rows, Free r) → dots true (joinL [13, 10] rows) = joinL [13, 10] (rows.map (more 1))
  | [], _ => rfl
  | [r], h => dots_all (h r List.mem_cons_self)
  | r :: s :: t, h => by
    have ht : ∀ r ∈ s :: t, Free r := fun r hr => h r (List.mem_cons_of_mem _ hr)
    have ih := mail_dots (s :: t) ht
    rw [joinL, List.map_cons, List.map_cons, joinL, ← List.map_cons, ← ih]
    show dots true (r ++ 13 :: 10 :: _) = _
    rw [dots_app1 (h r List.mem_cons_self), dots, if_neg (fun q => by simp at q)]
    rfl
theorem mail {sep : List Nat} (hs : IsSep sep) {rows : List (List Nat)} (h : ∀ r ∈ rows, Free r) : dots true (crlf (joinL sep rows)) = joinL [13, 10] (rows.map (more 1)) := by
  rw [mail_crlf hs _ h, mail_dots _ h]

/-! cut again -/
def Uncut (p : List Nat) : Prop := ∀ j, (p.drop j).take 2 ≠ [13, 10]
theorem cut_at {p r P R : List Nat} (h : p ++ P = r ++ R) (hp : Uncut p) (hr : Free r) (hP : P = [] ∨ ∃ P', P = 13 :: 10 :: P') (hR : R = [] ∨ ∃ R', R = 13 :: 10 :: R') : p = r ∧ P = R := by
  rcases List.append_eq_append_iff.mp h with ⟨a, e1, e2⟩ | ⟨a, e1, e2⟩
  · -- r = p ++ a, P = a ++ R
    cases a with
    | nil => exact ⟨by rw [e1, List.append_nil], by rw [e2]; rfl⟩
    | cons c a =>
      exfalso
      have hc := hr c (by rw [e1]; simp)
      rcases hP with rfl | ⟨P', rfl⟩
      · cases e2
      · have := (List.cons.inj e2).1; omega
  · -- p = r ++ a, R = a ++ P
    cases a with
    | nil => exact ⟨by rw [e1, List.append_nil], by rw [e2]; rfl⟩
    | cons c a =>
      exfalso
      rcases hR with rfl | ⟨R', rfl⟩
      · cases e2
      · obtain ⟨rfl, e3⟩ := List.cons.inj e2
        cases a with
        | nil =>
          rcases hP with rfl | ⟨P', rfl⟩
          · cases e3
          · have := (List.cons.inj e3).1; omega
        | cons c' a =>
          obtain ⟨rfl, e4⟩ := List.cons.inj e3
          refine hp r.length ?_
          rw [e1, List.drop_left]
          rfl
theorem cut_unique : ∀ (ps rs : List (List Nat)), ps ≠ [] → rs ≠ [] → (∀ p ∈ ps, Uncut p) → (∀ r ∈ rs, Free r) → joinL [13, 10] ps = joinL [13, 10] rs → ps = rs
  | [], _, h, _, _, _, _ => absurd rfl h
  | _ :: _, [], _, h, _, _, _ => absurd rfl h
  | [p], [r], _, _, _, _, h => by rw [show p = r from h]
  | [p], r :: r' :: rs, _, _, hp, hr, h => by
    have := cut_at (P := []) (R := 13 :: 10 :: joinL [13, 10] (r' :: rs)) (by rw [List.append_nil]; exact h) (hp p List.mem_cons_self) (hr r List.mem_cons_self) (.inl rfl) (.inr ⟨_, rfl⟩)
    cases this.2
  | p :: p' :: ps, [r], _, _, hp, hr, h => by
    have := cut_at (R := []) (P := 13 :: 10 :: joinL [13, 10] (p' :: ps)) (by rw [List.append_nil]; exact h) (hp p List.mem_cons_self) (hr r List.mem_cons_self) (.inr ⟨_, rfl⟩) (.inl rfl)
    cases this.2
  | p :: p' :: ps, r :: r' :: rs, _, _, hp, hr, h => by
    have := cut_at (P := 13 :: 10 :: joinL [13, 10] (p' :: ps)) (R := 13 :: 10 :: joinL [13, 10] (r' :: rs)) h (hp p List.mem_cons_self) (hr r List.mem_cons_self) (.inr ⟨_, rfl⟩) (.inr ⟨_, rfl⟩)
    have e := cut_unique (p' :: ps) (r' :: rs) (by simp) (by simp) (fun q hq => hp q (List.mem_cons_of_mem _ hq)) (fun q hq => hr q (List.mem_cons_of_mem _ hq)) (by have := this.2; simpa using this)
    rw [this.1, e]

theorem join_toList (sep : Str) : ∀ ts : List Str, (Str.join sep ts).cps.toList = joinL sep.cps.toList (ts.map (·.cps.toList))
  | [] => rfl
  | [x] => rfl
  | x :: y :: r => by
    have ih := join_toList sep (y :: r)
    rw [List.map_cons, List.map_cons, joinL]
    rw [List.map_cons] at ih
    rw [← ih]
    show (x ++ sep ++ Str.join sep (y :: r)).cps.toList = _
    rw [Str.cps_append, Str.cps_append, Array.toList_append, Array.toList_append, List.append_assoc]

theorem part_uncut {x y : Str} (hy : y.cps = #[13, 10]) {a b : Nat} (hb : b ≤ x.length) (hn : ∀ k, a ≤ k → k < b → ¬ At x y x.length k) : Uncut (strSub x a b).cps.toList := by
  intro j hj
  rw [strSub_toList, List.drop_take, List.take_take] at hj
  have hl := congrArg List.length hj
  simp only [List.length_take, List.length_drop, List.length_cons, List.length_nil] at hl
  have hxl : x.cps.toList.length = x.length := by simp [Str.length]
  rw [Array.length_toList] at hl
  rw [show min 2 (b - a - j) = 2 by omega, List.drop_drop] at hj
  have hyl : y.length = 2 := by unfold Str.length; rw [hy]; rfl
  refine hn (a + j) (by omega) (by omega) ⟨by rw [hyl]; omega, ?_⟩
  rw [subAt_eq, hyl, hj, hy]
  rfl
theorem parts_uncut {x y : Str} (hy : y.cps = #[13, 10]) : ∀ (cuts : List Nat) (a f : Nat), ChainG x y x.length a cuts f → (∀ k, f ≤ k → ¬ At x y x.length k) → ∀ p ∈ partsFrom x y.length a cuts, Uncut p.cps.toList
  | [], a, f, h, hn, p, hp => by
    have e : f = a := h
    subst e
    rw [List.mem_singleton.mp hp]
    exact part_uncut hy (Nat.le_refl _) fun k h1 _ => hn k h1
  | d :: r, a, f, h, hn, p, hp => by
    rcases List.mem_cons.mp hp with rfl | hp'
    · exact part_uncut hy (by have := h.2.1.1; omega) h.2.2.1
    · exact parts_uncut hy r _ f h.2.2.2 hn p hp'
theorem kind_min (x : Str) : ¬ Builtin.Str.strKind x < 1 := by unfold Builtin.Str.strKind; split <;> first | omega | (split <;> omega)
theorem split_uncut {x y : Str} (hy : y.cps = #[13, 10]) : ∀ p ∈ Txt.split x y, Uncut p.cps.toList := by
  have hyl : y.length = 2 := by unfold Str.length; rw [hy]; rfl
  obtain ⟨f, hG, hn⟩ := occ_tight x y (by omega)
  unfold Txt.split
  split
  · rename_i hc
    intro p hp
    rw [List.mem_singleton.mp hp]
    rw [Bool.or_eq_true, decide_eq_true_eq, decide_eq_true_eq] at hc
    rcases hc with h | h
    · intro j hj
      have hl := congrArg List.length hj
      simp only [List.length_take, List.length_drop, List.length_cons, List.length_nil] at hl
      have hxl : x.cps.toList.length = x.length := by simp [Str.length]
      omega
    · rw [show Builtin.Str.strKind y = 1 by unfold Builtin.Str.strKind; rw [hy, if_pos (by simp)]] at h
      exact absurd h (kind_min x)
  · split
    · rename_i he
      intro p hp
      rw [List.mem_singleton.mp hp]
      have e0 : occurrences x y 0 x.length (x.length + 1) = [] := List.isEmpty_iff.mp he
      rw [e0] at hG
      have ef : f = 0 := hG
      subst ef
      rw [← sub_whole x]
      exact part_uncut hy (Nat.le_refl _) fun k h1 _ => hn k h1
    · rw [partsBetween_eq]
      exact parts_uncut hy _ 0 f hG hn
theorem split_ne (x y : Str) : Txt.split x y ≠ [] := by
  unfold Txt.split
  split
  · simp
  · split
    · simp
    · rw [partsBetween_eq]
      obtain ⟨p, r, e⟩ := partsFrom_ne x y.length 0 (occurrences x y 0 x.length (x.length + 1))
      rw [e]; simp
theorem split_mail {x y : Str} (hy : y.cps = #[13, 10]) {rows : List (List Nat)} (h : ∀ r ∈ rows, Free r) (hne : rows ≠ []) (hx : x.cps.toList = joinL [13, 10] rows) : (Txt.split x y).map (·.cps.toList) = rows := by
  refine cut_unique _ _ (by simpa using split_ne x y) hne (fun p hp => ?_) h ?_
  · obtain ⟨q, hq, rfl⟩ := List.mem_map.mp hp
    exact split_uncut hy q hq
  · have := congrArg (·.cps.toList) (join_split x y)
    simp only [join_toList] at this
    rw [hy] at this
    rw [← hx]; exact this
end Mine
end
section
open PySem PySem.W PySem.Calls PyProof.Rows
set_option maxRecDepth 100000
set_option maxHeartbeats 1000000
namespace Mine
def ltL (a b : List Nat) : Bool := decide (a < b)
theorem ltL_false {a b : List Nat} : ltL a b = false ↔ b ≤ a := by
  unfold ltL
  rw [decide_eq_false_iff_not]
  exact List.not_lt
theorem ordL : Ord ltL where
  trans := fun a b c h1 h2 => by
    rw [ltL_false] at *
    exact List.le_trans h1 h2
  asymm := fun a b h => by
    rw [ltL_false]
    exact List.le_of_lt (of_decide_eq_true h)
def cpsOf (v : Value) : List Nat := (strOf v).cps.toList
theorem keepsV : Keeps ltV .none ltL [] cpsOf := ⟨fun _ _ => rfl, rfl⟩
theorem keepsM (n : Nat) : Keeps ltL [] ltL [] (more n) := ⟨fun a b => by unfold ltL; exact decide_eq_decide.mpr (more_lt n a b), rfl⟩

def callL (kind : Int) (x : List Nat) (S : List (List Nat)) : Option (List Nat) × List (List Nat) :=
  if kind < 2 then (none, push ltL [] x S)
  else if kind = 2 then (if S = [] then (some [10], []) else (some (S.getD 0 []), popRest ltL [] S))
  else if kind = 3 then (if S = [] then (some [10], []) else (some (S.getD 0 []), repl ltL [] x S))
  else if kind = 4 then (if 0 < S.length ∧ ltL (S.getD 0 []) x = true then (some (S.getD 0 []), repl ltL [] x S) else (some x, S))
  else (none, heapify ltL [] (x :: S))
def ToldIs (n : Nat) (r : Option (List Nat)) (v : Value) : Prop := match r with | none => v = .none | some y => ∃ z t, v = .str z t ∧ z.cps.toList = more n y

theorem strs_get {vs : List Value} (h : Strs vs) (hne : vs ≠ []) : ∃ x t, vs.getD 0 .none = .str x t := by
  cases vs with
  | nil => exact absurd rfl hne
  | cons a r => exact h a List.mem_cons_self

theorem callV_L {kind : Int} {n : Nat} {vs vs' : List Value} {v : Value} {x : Str} {tx : Tok} {x₀ : List Nat} {S : List (List Nat)} (h : CallV kind vs (.str x tx) v vs') (hS : Strs vs) (hm : vs.map cpsOf = S.map (more n)) (hx : x.cps.toList = more n x₀) :
    ToldIs n (callL kind x₀ S).1 v ∧ Strs vs' ∧ vs'.map cpsOf = (callL kind x₀ S).2.map (more n) := by
  haveI : DecidableEq Value := fun a b => Classical.propDecidable (a = b)
  have hlen : vs.length = S.length := by simpa using congrArg List.length hm
  have hnil : vs = [] ↔ S = [] := by rw [← List.length_eq_zero_iff, ← List.length_eq_zero_iff, hlen]
  have hcx : cpsOf (.str x tx) = more n x₀ := hx
  have h0 : cpsOf (vs.getD 0 .none) = more n (S.getD 0 []) := by rw [← getD_map keepsV, hm, getD_map (keepsM n)]
  have hNl : more n [10] = [10] := by unfold more; rw [if_neg (by decide)]
  have hXs : Strs (vs ++ [.str x tx]) := fun u hu => by
    rcases List.mem_append.mp hu with q | q
    · exact hS u q
    · exact ⟨x, tx, List.mem_singleton.mp q⟩
  have hsR : vs ≠ [] → Strs (repl ltV .none (.str x tx) vs) := fun hne => Strs.perm (Strs.set hS 0 ⟨x, tx, rfl⟩) (repl_perm _ _ (List.length_pos_iff.mpr hne))
  have hmR : (repl ltV .none (.str x tx) vs).map cpsOf = (repl ltL [] x₀ S).map (more n) := by
    rw [repl_map keepsV, repl_map (keepsM n), hcx, hm]
  unfold CallV at h
  unfold callL
  by_cases k1 : kind < 2
  · rw [if_pos k1] at h ⊢
    obtain ⟨rfl, rfl⟩ := h
    refine ⟨rfl, Strs.perm hXs (push_perm _ _ _ _), ?_⟩
    rw [push_map keepsV, push_map (keepsM n), hcx, hm]
  rw [if_neg k1] at h ⊢
  by_cases k2 : kind = 2
  · rw [if_pos k2] at h ⊢
    by_cases hv : vs = []
    · rw [if_pos hv] at h; rw [if_pos (hnil.mp hv)]
      obtain ⟨⟨t, rfl⟩, rfl⟩ := h
      exact ⟨⟨_, _, rfl, hNl.symm⟩, hv ▸ hS, rfl⟩
    · rw [if_neg hv] at h; rw [if_neg (fun q => hv (hnil.mpr q))]
      obtain ⟨rfl, rfl⟩ := h
      obtain ⟨z, t, e⟩ := strs_get hS hv
      refine ⟨⟨z, t, e, ?_⟩, ?_, ?_⟩
      · rw [← h0, e]; rfl
      · have := popRest_perm ltV .none (List.length_pos_iff.mpr hv)
        exact fun u hu => hS u (this.mem_iff.mp (List.mem_cons_of_mem _ hu))
      · rw [popRest_map keepsV, popRest_map (keepsM n), hm]
  rw [if_neg k2] at h ⊢
  by_cases k3 : kind = 3
  · rw [if_pos k3] at h ⊢
    by_cases hv : vs = []
    · rw [if_pos hv] at h; rw [if_pos (hnil.mp hv)]
      obtain ⟨⟨t, rfl⟩, rfl⟩ := h
      exact ⟨⟨_, _, rfl, hNl.symm⟩, hv ▸ hS, rfl⟩
    · rw [if_neg hv] at h; rw [if_neg (fun q => hv (hnil.mpr q))]
      obtain ⟨rfl, rfl⟩ := h
      obtain ⟨z, t, e⟩ := strs_get hS hv
      refine ⟨⟨z, t, e, ?_⟩, hsR hv, hmR⟩
      rw [← h0, e]; rfl
  rw [if_neg k3] at h ⊢
  by_cases k4 : kind = 4
  · rw [if_pos k4] at h ⊢
    obtain ⟨rfl, rfl⟩ := h
    have hc : (0 < vs.length ∧ ltV (vs.getD 0 .none) (.str x tx) = true) ↔ (0 < S.length ∧ ltL (S.getD 0 []) x₀ = true) := by
      rw [hlen, ← keepsV.ord, h0, hcx, (keepsM n).ord]
    unfold ppVal ppRest
    by_cases q : 0 < vs.length ∧ ltV (vs.getD 0 .none) (.str x tx) = true
    · rw [if_pos q, if_pos q, if_pos (hc.mp q)]
      have hv : vs ≠ [] := List.length_pos_iff.mp q.1
      obtain ⟨z, t, e⟩ := strs_get hS hv
      refine ⟨⟨z, t, e, ?_⟩, hsR hv, hmR⟩
      rw [← h0, e]; rfl
    · rw [if_neg q, if_neg q, if_neg (fun z => q (hc.mpr z))]
      exact ⟨⟨x, tx, rfl, hx⟩, hS, hm⟩
  rw [if_neg k4] at h ⊢
  obtain ⟨rfl, rfl⟩ := h
  refine ⟨rfl, Strs.perm (vs := .str x tx :: vs) (fun u hu => ?_) (heapify_perm _ _ _), ?_⟩
  · rcases List.mem_cons.mp hu with q | q
    · exact ⟨x, tx, q⟩
    · exact hS u q
  · rw [heapify_map keepsV, heapify_map (keepsM n), List.map_cons, List.map_cons, hcx, hm]

/-! the plain rows -/
def Up (R : List (List Nat)) : Prop := R.Pairwise (· ≤ ·)
theorem risingS_up : ∀ (ss : List Str) (p : Str), risingS p ss = true → Up ((p :: ss).map (·.cps.toList))
  | [], p, _ => by unfold Up; simp
  | x :: r, p, h => by
    unfold risingS at h
    rw [Bool.and_eq_true, Bool.not_eq_true', ltCps_eq, decide_eq_false_iff_not] at h
    have ih := risingS_up r x h.2
    have hpx : p.cps.toList ≤ x.cps.toList := List.not_lt.mp h.1
    unfold Up at ih ⊢
    rw [List.map_cons, List.pairwise_cons]
    refine ⟨fun y hy => ?_, ih⟩
    rw [List.map_cons] at hy
    rcases List.mem_cons.mp hy with rfl | q
    · exact hpx
    · rw [List.map_cons, List.pairwise_cons] at ih
      exact List.le_trans hpx (ih.1 y q)
theorem sortedS_up {ss : List Str} (h : sortedS ss = true) : Up (ss.map (·.cps.toList)) := by
  cases ss with
  | nil => exact List.Pairwise.nil
  | cons p r => exact risingS_up r p h
theorem up_unique {R R' : List (List Nat)} (h : Up R) (h' : Up R') (p : R.Perm R') : R = R' := p.eq_of_pairwise (fun _ _ _ _ h1 h2 => List.le_antisymm h1 h2) h h'

/-- the heap and the plain row hold the same rows -/
structure Inv (S R : List (List Nat)) : Prop where
  heap : HeapFrom ltL [] 0 S
  perm : S.Perm R
  up : Up R
  free : ∀ r ∈ S, Free r
  len : ∀ r ∈ S, r.length ≤ 3

theorem inv_root {S R : List (List Nat)} {l : List Nat} {t : List (List Nat)} (I : Inv S R) (e : R = l :: t) : S.getD 0 [] = l ∧ S ≠ [] := by
  subst e
  have hne : S ≠ [] := fun q => by have := I.perm.length_eq; rw [q] at this; simp at this
  refine ⟨?_, hne⟩
  have h1 : S.getD 0 [] ∈ S := by cases S with | nil => exact absurd rfl hne | cons a r => exact List.mem_cons_self
  have h2 : l ∈ S := I.perm.mem_iff.mpr List.mem_cons_self
  have h3 := root_least' ordL I.heap l h2
  rw [ltL_false] at h3
  have h4 := I.perm.mem_iff.mp h1
  have h5 : l ≤ S.getD 0 [] := by
    rcases List.mem_cons.mp h4 with q | q
    · rw [q]; exact List.le_refl _
    · have hu := I.up
      unfold Up at hu
      rw [List.pairwise_cons] at hu
      exact hu.1 _ q
  exact List.le_antisymm h3 h5

/-- what the plain row does, over signs -/
def OwnL (kind : Int) (R : List (List Nat)) (x : List Nat) (r : Option (List Nat)) (R' : List (List Nat)) : Prop :=
  if kind < 2 ∨ kind = 5 then r = none ∧ R'.Perm (R ++ [x]) ∧ Up R'
  else if kind = 4 then ∃ l, r = some l ∧ (l :: R').Perm (R ++ [x]) ∧ Up (l :: R')
  else match R with
    | [] => r = some [10] ∧ R' = []
    | l :: t => r = some l ∧ (if kind = 3 then R'.Perm (t ++ [x]) ∧ Up R' else R' = t)
theorem ownL {kind : Int} {ss ss' : List Str} {x : Str} {r : Option Str} (h : OwnRel kind ss x r ss') : OwnL kind (ss.map (·.cps.toList)) x.cps.toList (r.map (·.cps.toList)) (ss'.map (·.cps.toList)) := by
  unfold OwnRel at h
  unfold OwnL
  by_cases k1 : kind < 2 ∨ kind = 5
  · rw [if_pos k1] at h ⊢
    exact ⟨by rw [h.1]; rfl, by simpa using h.2.1.map (·.cps.toList), sortedS_up h.2.2⟩
  rw [if_neg k1] at h ⊢
  by_cases k4 : kind = 4
  · rw [if_pos k4] at h ⊢
    obtain ⟨l, rfl, h2, h3⟩ := h
    exact ⟨_, rfl, by simpa using h2.map (·.cps.toList), by simpa using sortedS_up h3⟩
  rw [if_neg k4] at h ⊢
  cases ss with
  | nil =>
    obtain ⟨rfl, rfl⟩ := h
    exact ⟨by decide +kernel, rfl⟩
  | cons l t =>
    obtain ⟨rfl, h2⟩ := h
    refine ⟨rfl, ?_⟩
    by_cases k3 : kind = 3
    · rw [if_pos k3] at h2 ⊢
      exact ⟨by simpa using h2.1.map (·.cps.toList), sortedS_up h2.2⟩
    · rw [if_neg k3] at h2 ⊢
      rw [h2]

theorem inv_call {kind : Int} {x : List Nat} {S R R' : List (List Nat)} {r : Option (List Nat)} (hk : 0 ≤ kind ∧ kind < 6) (I : Inv S R) (hx : Free x) (hx3 : x.length ≤ 3) (O : OwnL kind R x r R') : (callL kind x S).1 = r ∧ Inv (callL kind x S).2 R' := by
  have all : ∀ {T : List (List Nat)}, T.Perm (S ++ [x]) → (∀ r ∈ T, Free r) ∧ ∀ r ∈ T, r.length ≤ 3 := fun p =>
    ⟨fun r hr => by
      rcases List.mem_append.mp (p.mem_iff.mp hr) with q | q
      · exact I.free r q
      · rw [List.mem_singleton.mp q]; exact hx,
     fun r hr => by
      rcases List.mem_append.mp (p.mem_iff.mp hr) with q | q
      · exact I.len r q
      · rw [List.mem_singleton.mp q]; exact hx3⟩
  unfold OwnL at O
  unfold callL
  by_cases k1 : kind < 2
  · rw [if_pos k1]
    rw [if_pos (.inl k1)] at O
    obtain ⟨rfl, o1, o2⟩ := O
    have hp := push_perm ltL [] x S
    exact ⟨rfl, push_heap ordL I.heap, hp.trans ((I.perm.append_right _).trans o1.symm), o2, (all hp).1, (all hp).2⟩
  rw [if_neg k1]
  by_cases k2 : kind = 2
  · rw [if_pos k2]
    rw [if_neg (by omega), if_neg (by omega)] at O
    cases R with
    | nil =>
      obtain ⟨rfl, rfl⟩ := O
      have hS : S = [] := by have := I.perm.length_eq; exact List.length_eq_zero_iff.mp (by simpa using this)
      rw [if_pos hS]
      exact ⟨rfl, hS ▸ I⟩
    | cons l t =>
      obtain ⟨rfl, o⟩ := O
      rw [if_neg (by omega)] at o
      subst o
      obtain ⟨e, hne⟩ := inv_root I rfl
      rw [if_neg hne, e]
      have hp := popRest_perm ltL [] (List.length_pos_iff.mpr hne)
      rw [e] at hp
      have hu := I.up
      unfold Up at hu
      rw [List.pairwise_cons] at hu
      exact ⟨rfl, popRest_heap ordL I.heap, (hp.trans I.perm).cons_inv, hu.2, fun r hr => I.free r (hp.mem_iff.mp (List.mem_cons_of_mem _ hr)), fun r hr => I.len r (hp.mem_iff.mp (List.mem_cons_of_mem _ hr))⟩
  rw [if_neg k2]
  have hset : ∀ {l : List Nat} {t : List (List Nat)}, S = l :: t → S.set 0 x = x :: t := fun h => by rw [h]; rfl
  by_cases k3 : kind = 3
  · rw [if_pos k3]
    rw [if_neg (by omega), if_neg (by omega)] at O
    cases R with
    | nil =>
      obtain ⟨rfl, rfl⟩ := O
      have hS : S = [] := by have := I.perm.length_eq; exact List.length_eq_zero_iff.mp (by simpa using this)
      rw [if_pos hS]
      exact ⟨rfl, hS ▸ I⟩
    | cons l t =>
      obtain ⟨rfl, o⟩ := O
      rw [if_pos k3] at o
      obtain ⟨e, hne⟩ := inv_root I rfl
      rw [if_neg hne, e]
      have hp := repl_perm ltL [] (x := x) (List.length_pos_iff.mpr hne)
      have hq : (S.set 0 x).Perm (t ++ [x]) := by
        cases S with
        | nil => exact absurd rfl hne
        | cons a S' =>
          obtain rfl : a = l := e
          exact ((I.perm.cons_inv).cons x).trans (List.perm_append_comm (l₁ := [x]))
      have hsub : ∀ r ∈ repl ltL [] x S, r ∈ S ++ [x] := fun r hr => by
        rcases List.mem_append.mp ((hp.trans hq).mem_iff.mp hr) with q | q
        · exact List.mem_append_left _ (I.perm.mem_iff.mpr (List.mem_cons_of_mem _ q))
        · exact List.mem_append_right _ q
      exact ⟨rfl, repl_heap ordL (List.length_pos_iff.mpr hne) I.heap, hp.trans (hq.trans o.1.symm), o.2, fun r hr => (all (List.Perm.refl _)).1 r (hsub r hr), fun r hr => (all (List.Perm.refl _)).2 r (hsub r hr)⟩
  rw [if_neg k3]
  by_cases k4 : kind = 4
  · rw [if_pos k4]
    rw [if_neg (by omega), if_pos k4] at O
    obtain ⟨l, rfl, o1, o2⟩ := O
    have hpl : (l :: R').Perm (S ++ [x]) := o1.trans (I.perm.append_right _).symm
    have hl : l ∈ S ++ [x] := hpl.mem_iff.mp List.mem_cons_self
    have hmin : ∀ y ∈ S ++ [x], l ≤ y := fun y hy => by
      rcases List.mem_cons.mp (hpl.mem_iff.mpr hy) with q | q
      · rw [q]; exact List.le_refl _
      · unfold Up at o2; rw [List.pairwise_cons] at o2; exact o2.1 y q
    have hup : Up R' := by unfold Up at o2 ⊢; rw [List.pairwise_cons] at o2; exact o2.2
    by_cases q : 0 < S.length ∧ ltL (S.getD 0 []) x = true
    · rw [if_pos q]
      have hne : S ≠ [] := List.length_pos_iff.mp q.1
      have h1 : S.getD 0 [] ∈ S := by cases S with | nil => exact absurd rfl hne | cons a r => exact List.mem_cons_self
      have hle : S.getD 0 [] ≤ l := by
        rcases List.mem_append.mp hl with z | z
        · exact ltL_false.mp (root_least' ordL I.heap l z)
        · rw [List.mem_singleton.mp z]; exact List.le_of_lt (of_decide_eq_true q.2)
      have e : S.getD 0 [] = l := List.le_antisymm hle (hmin _ (List.mem_append_left _ h1))
      rw [e]
      have hp := repl_perm ltL [] (x := x) q.1
      have hq : (repl ltL [] x S).Perm R' := by
        refine hp.trans ?_
        cases S with
        | nil => exact absurd rfl hne
        | cons a S' =>
          have ea : a = l := e
          rw [ea] at hpl
          have : (l :: R').Perm (l :: (S' ++ [x])) := hpl
          exact (List.perm_append_comm (l₁ := [x])).trans this.cons_inv.symm
      have hsub : ∀ r ∈ repl ltL [] x S, r ∈ S ++ [x] := fun r hr => hpl.mem_iff.mp (List.mem_cons_of_mem _ (hq.mem_iff.mp hr))
      exact ⟨rfl, repl_heap ordL q.1 I.heap, hq, hup, fun r hr => (all (List.Perm.refl _)).1 r (hsub r hr), fun r hr => (all (List.Perm.refl _)).2 r (hsub r hr)⟩
    · rw [if_neg q]
      have hxl : x ≤ l := by
        rcases List.mem_append.mp hl with z | z
        · have hpos : 0 < S.length := List.length_pos_of_mem z
          have h1 : ltL (S.getD 0 []) x = false := by
            cases hz : ltL (S.getD 0 []) x with
            | false => rfl
            | true => exact absurd ⟨hpos, hz⟩ q
          exact List.le_trans (ltL_false.mp h1) (ltL_false.mp (root_least' ordL I.heap l z))
        · rw [List.mem_singleton.mp z]; exact List.le_refl _
      have e : x = l := List.le_antisymm hxl (hmin x (List.mem_append_right _ List.mem_cons_self))
      subst e
      have hR : R'.Perm S := ((hpl.trans List.perm_append_comm).cons_inv : R'.Perm S)
      exact ⟨rfl, I.heap, hR.symm, hup, I.free, I.len⟩
  rw [if_neg k4]
  rw [if_pos (.inr (by omega))] at O
  obtain ⟨rfl, o1, o2⟩ := O
  have hp : (heapify ltL [] (x :: S)).Perm (S ++ [x]) := (heapify_perm _ _ _).trans (List.perm_append_comm (l₁ := [x]))
  exact ⟨rfl, heapify_heap ordL _, hp.trans ((I.perm.append_right _).trans o1.symm), o2, (all hp).1, (all hp).2⟩

/-- how many rows there are behind a call -/
theorem own_len {kind : Int} {x : List Nat} {R R' : List (List Nat)} {r : Option (List Nat)} (O : OwnL kind R x r R') : R'.length ≤ R.length + 1 := by
  unfold OwnL at O
  split at O
  · have := O.2.1.length_eq; simp at this; omega
  · split at O
    · obtain ⟨l, _, h, _⟩ := O
      have := h.length_eq; simp at this; omega
    · cases R with
      | nil => rw [O.2]; simp
      | cons l t =>
        have o := O.2
        split at o
        · have := o.1.length_eq; simp at this ⊢; omega
        · rw [o]; simp; omega
theorem own_pop {x : List Nat} {R R' : List (List Nat)} {r : Option (List Nat)} (O : OwnL 2 R x r R') : R'.length = R.length - 1 := by
  unfold OwnL at O
  rw [if_neg (by decide), if_neg (by decide)] at O
  cases R with
  | nil => rw [O.2]; rfl
  | cons l t =>
    have o := O.2
    rw [if_neg (by decide)] at o
    rw [o]; rfl
end Mine
end
section
open PySem PySem.W PySem.Calls PyProof.Rows
set_option maxRecDepth 100000
set_option maxHeartbeats 1000000
namespace Mine
section
variable {prog : Program} {w : World} {M : Model} {A : Around} {E : Value → Shared → Prop} {s : Shared} {hp h₀ : Heap} {tk : Nat} {L : Addr} {env : Env} {pos apos p : Pos} {Q : Value → Shared → Prop} {QB : Bool → Shared → Prop} {e1 e2 e3 : Expr} {m : Str → Option Value} {news : List (Addr × Obj)}
theorem e_list0 (h : wpAny M A (newList []) Q E (St s hp tk)) : wpAny M A (eval (.List [] pos) env) Q E (St s hp tk) := List_ (spliced_none h)
theorem e_list3 (h : wpAny M A (eval e1 env) (fun a s₁ => wpAny M A (eval e2 env) (fun b s₂ => wpAny M A (eval e3 env) (fun c s₃ => wpAny M A (newList [a, b, c]) Q E s₃) E s₂) E s₁) E (St s hp tk))
    (he1 : starEach [e1, e2, e3] env = (false, eval e1 env) :: starEach [e2, e3] env := by rfl) (he2 : starEach [e2, e3] env = (false, eval e2 env) :: starEach [e3] env := by rfl) (he3 : starEach [e3] env = [(false, eval e3 env)] := by rfl) :
    wpAny M A (eval (.List [e1, e2, e3] pos) env) Q E (St s hp tk) :=
  List_ (spliced_more (wpAny_mono h (fun a s₁ h₁ => spliced_more (wpAny_mono h₁ (fun b s₂ h₂ => spliced_more (wpAny_mono h₂ (fun c s₃ h₃ => spliced_none h₃) fun _ _ x => x) he3) fun _ _ x => x) he2) fun _ _ x => x) he1)
theorem e_tup3 {kd : Nat} (h : wpAny M A (eval e1 env) (fun a s₁ => wpAny M A (eval e2 env) (fun b s₂ => wpAny M A (eval e3 env) (fun c s₃ => wpAny M A (newTuple [a, b, c]) Q E s₃) E s₂) E s₁) E (St s hp tk))
    (he1 : starEach [e1, e2, e3] env = (false, eval e1 env) :: starEach [e2, e3] env := by rfl) (he2 : starEach [e2, e3] env = (false, eval e2 env) :: starEach [e3] env := by rfl) (he3 : starEach [e3] env = [(false, eval e3 env)] := by rfl) :
    wpAny M A (eval (.Tuple [e1, e2, e3] kd pos) env) Q E (St s hp tk) :=
  Tuple_ (spliced_more (wpAny_mono h (fun a s₁ h₁ => spliced_more (wpAny_mono h₁ (fun b s₂ h₂ => spliced_more (wpAny_mono h₂ (fun c s₃ h₃ => spliced_none h₃) fun _ _ x => x) he3) fun _ _ x => x) he2) fun _ _ x => x) he1)

theorem c_isNone {v : Value} (hv : plainIs v .none = true) (h : QB (v == .none) (St s hp tk)) : wpAny (model prog w) A (compareOp .Is v .none) (fun c s₃ => wpAny (model prog w) A (truthy c) QB E s₃) E (St s hp tk) := wpAny_is_plain hv (wpAny_truthy_bool h)
theorem c_isNotNone {v : Value} (hv : plainIs v .none = true) (h : QB (!(v == .none)) (St s hp tk)) : wpAny (model prog w) A (compareOp .IsNot v .none) (fun c s₃ => wpAny (model prog w) A (truthy c) QB E s₃) E (St s hp tk) := wpAny_isNot_plain hv (wpAny_truthy_bool h)

/-! texts in lists -/
theorem lay_strs : ∀ ns : List Str, (∀ y ∈ ns, PyData.strOk y = true) → PyData.canLayAll0 (ns.map PyData.str) = true
  | [], _ => rfl
  | y :: r, h => by simp [PyData.canLayAll0, PyData.canLay0, lay_strs r fun y hy => h y (List.mem_cons_of_mem _ hy), h y List.mem_cons_self]
theorem deep_strs : ∀ ns : List Str, PyData.depthAll (ns.map PyData.str) = 0
  | [] => rfl
  | _ :: r => by simp [PyData.depthAll, PyData.depth, deep_strs r]
theorem shaped_strs (ns : List Str) (h : ∀ y ∈ ns, PyData.strOk y = true) : SeqAt.shaped (.list (ns.map PyData.str)) = true := by
  simp [SeqAt.shaped, PyData.canLay0, PyData.depth, lay_strs ns h, deep_strs]
theorem same_strsL : ∀ ns ms : List Str, PySem.Spec.sameAll (ns.map PyData.str) (ms.map PyData.str) = decide (ns = ms)
  | [], [] => by simp [PySem.Spec.sameAll]
  | [], _ :: _ => by simp [PySem.Spec.sameAll]
  | _ :: _, [] => by simp [PySem.Spec.sameAll]
  | a :: r, b :: t => by
    simp only [List.map_cons, PySem.Spec.sameAll, PySem.Spec.same, same_strsL r t]
    by_cases h : a = b <;> by_cases h' : r = t <;> simp [h, h']
theorem same_strs (ns ms : List Str) : PySem.Spec.same (.list (ns.map PyData.str)) (.list (ms.map PyData.str)) = decide (ns = ms) := by
  simp only [PySem.Spec.same]; exact same_strsL ns ms
theorem carried_strs : ∀ {vs : List Value} {ns : List Str}, StrsAre vs ns → CarriedAll vs (ns.map PyData.str)
  | _, _, .nil => .nil
  | _, _, .cons _ t r => .cons (.str _ t) (carried_strs r)
theorem c_eqL {a b : Addr} {xs ys : List Value} {ns ms : List Str} (ha : hp.IsList a xs.toArray) (hb : hp.IsList b ys.toArray) (hi : StrsAre xs ns) (hj : StrsAre ys ms) (hns : ∀ y ∈ ns, PyData.strOk y = true) (hms : ∀ y ∈ ms, PyData.strOk y = true) (hu : A.units + 64 < cLine) (h : Q (.bool (decide (ns = ms))) (St s hp tk)) :
    wpAny (model prog w) A (compareOp .Eq (.ref a) (.ref b)) Q E (St s hp tk) :=
  eq_dataH_same (s := St s hp tk) (reads_newData ha (carried_strs hi)) (reads_newData hb (carried_strs hj)) (shaped_strs _ hns) (shaped_strs _ hms) hu (SeqAt.noMix_of_shape (.list .str) rfl _ _ (list_map_has fun _ => rfl) (list_map_has fun _ => rfl)) (by rw [same_strs]; exact h)
theorem c_neL {a b : Addr} {xs ys : List Value} {ns ms : List Str} (ha : hp.IsList a xs.toArray) (hb : hp.IsList b ys.toArray) (hi : StrsAre xs ns) (hj : StrsAre ys ms) (hns : ∀ y ∈ ns, PyData.strOk y = true) (hms : ∀ y ∈ ms, PyData.strOk y = true) (hu : A.units + 64 < cLine) (h : Q (.bool (!decide (ns = ms))) (St s hp tk)) :
    wpAny (model prog w) A (compareOp .NotEq (.ref a) (.ref b)) Q E (St s hp tk) :=
  ne_dataH_same (s := St s hp tk) (reads_newData ha (carried_strs hi)) (reads_newData hb (carried_strs hj)) (shaped_strs _ hns) (shaped_strs _ hms) hu (SeqAt.noMix_of_shape (.list .str) rfl _ _ (list_map_has fun _ => rfl) (list_map_has fun _ => rfl)) (by rw [same_strs]; exact h)

theorem l_join {l : Addr} {vs : List Value} {ys : List Str} {x : Str} {t : Tok} (hl : hp.IsList l vs.toArray) (hi : StrsAre vs ys) (hsep : x.length ≤ 2) (hn : ys.length ≤ 100) (hz : ∀ y ∈ ys, y.length ≤ 10)
    (h : ∀ t' tk', Q (.str (Str.join x ys) t') (St s hp tk')) : wpAny (model prog w) A (call (.builtin "str.join") [.str x t, .ref l]) Q E (St s hp tk) := by
  have hsum : ∀ ys : List Str, (∀ y ∈ ys, y.length ≤ 10) → (ys.map (·.length)).sum ≤ 10 * ys.length := fun ys => by
    induction ys with
    | nil => intro _; simp
    | cons a r ih =>
      intro hz
      have := ih fun y hy => hz y (List.mem_cons_of_mem _ hy)
      have := hz a List.mem_cons_self
      simp only [List.map_cons, List.sum_cons, List.length_cons]; omega
  have h1 := hsum ys hz
  have h2 : ys.length * x.length ≤ ys.length * 2 := Nat.mul_le_mul_left _ hsep
  refine join_list (s := St s hp tk) hl (by simpa using hi) (by omega) fun t' tk' => ?_
  rw [show Txt.join x ys = Str.join x ys from StrLaws.glued_eq_join x ys]
  exact h t' tk'
theorem l_split {x y : Str} {t u : Tok} (F : Fr h₀ L hp m) (N : News h₀ L hp news) (hy : (y.length == 0) = false) (hsz : x.length ≤ 100000)
    (h : ∀ a h' tk' us, Fr h₀ L h' m → News h₀ L h' ((a, listOf us.toArray 0) :: news) → (∀ p ∈ news, p.1 < a) → StrsAre us (Txt.split x y) → Q (.ref a) (St s h' tk')) :
    wpAny (model prog w) A (call (.builtin "str.split") [.str x t, .str y u]) Q E (St s hp tk) :=
  splitN1A (s := St s hp tk) F N hy (fun l h' k e hS _ _ F' N' => h _ h' k (strValues l) F' N' (fun p hp => Heap.lt_size (N p hp).1) (e ▸ hS)) (by rw [sizeLine_eq]; omega)
theorem l_sorted {l : Addr} {vs : List Value} {ss : List Str} (F : Fr h₀ L hp m) (N : News h₀ L hp news) (hl : hp.IsList l vs.toArray) (hS : StrsAre vs ss) (h64 : vs.length < 64)
    (h : ∀ a h' us ss' e, Fr h₀ L h' m → News h₀ L h' ((a, listOf us.toArray e) :: news) → StrsAre us ss' → ss'.Perm ss → sortedS ss' = true → Q (.ref a) (St s h' tk)) :
    wpAny (model prog w) A (call (.builtin "sorted") [.ref l]) Q E (St s hp tk) :=
  sorted_N_str (s := St s hp tk) F N hl hS h64 fun h' vs' ss' e F' N' a1 a2 a3 => h _ h' vs' ss' e F' N' a1 a2 a3
theorem isListM {news : List (Addr × Obj)} {h : Heap} {l : Addr} {vs : List Value} {n : Nat} (N : News h₀ L h news) (hm : (l, listOf vs.toArray n) ∈ news) : h.IsList l vs.toArray := PySem.IsL.isList (n := n) (N _ hm).1
theorem lg_subM {value slice : PySem.Expr} {l : Addr} {vs : List Value} {n : Nat} {k : Int} {u : Tok} {v : Value} (N : News h₀ L hp news) (hm : (l, listOf vs.toArray n) ∈ news) (h0 : 0 ≤ k) (h1 : k < 2 ^ 63) (hx : vs[k.toNat]? = some v) (h : Q v (St s hp tk))
    (hs : subscripted slice false (.ref l) (.int k u) = operate [.ref l, .int k u] (getItem (.ref l) (.int k u)) := by with_unfolding_all rfl) :
    wpAny (model prog w) A (subscriptTail value slice (.ref l) (.int k u)) Q E (St s hp tk) := item_litK (s := St s hp tk) (isListM N hm) h0 h1 hx h hs
theorem lg_truthM {l : Addr} {vs : List Value} {n : Nat} (N : News h₀ L hp news) (hm : (l, listOf vs.toArray n) ∈ news) (hz : vs.length ≤ 100000) (h : ∀ tk', QB (decide (0 < vs.length)) (St s hp tk')) : wpAny (model prog w) A (truthy (.ref l)) QB E (St s hp tk) :=
  lg_truth (rest := []) (News.sub N fun p hp => by rw [List.mem_singleton.mp hp]; exact hm) hz h
end

section
variable {prog : Program} {w : World} {A : Around} {E : Value → Shared → Prop} {s : Shared} {hp : Heap} {tk : Nat} {m : Str → Option Value} {news : List (Addr × Obj)}
/-- a for over a range's iterator, over a ground that may turn -/
theorem for_rangeG {z : Str} {zp : Pos} {body : List Stmt} {i : Addr} {a c : Int} {n : Nat} {name : Str} {scope : Scope} {f : Addr} {cd : Value} {g : Heap} {L : Addr} (R : Result → Shared → Prop)
    (J : Nat → Heap → (Str → Option Value) → List (Addr × Obj) → Prop) (hh : A.handled = none) (F : Fr g L hp m) (N : News g L hp ((i, riObj a n c) :: news)) (hi : Apart i news) (h0 : J 0 g m news)
    (turn : ∀ j g tz h' tk' m' news', j < n → J j g m' news' → Apart i news' → Fr g L h' (fun y => if y = z then some (.int (a + (j : Nat) * c) tz) else m' y) → News g L h' ((i, riObj (a + (j + 1 : Nat) * c) ((n : Int) - (j + 1 : Nat)) c) :: news') →
      wpAny (model prog w) A (execs body (envOf name scope L f cd)) (fun fl s₃ => match fl with
        | .next | .cont => ∃ g' h'' tk'' m'' news'', s₃ = St s h'' tk'' ∧ Fr g' L h'' m'' ∧ News g' L h'' ((i, riObj (a + (j + 1 : Nat) * c) ((n : Int) - (j + 1 : Nat)) c) :: news'') ∧ Apart i news'' ∧ J (j + 1) g' m'' news''
        | .brk => R (.ok .next) s₃
        | .ret v => R (.ok (.ret v)) s₃) (notedBy (model prog w) A (envOf name scope L f cd) fun e s' => R (.error e) s') (St s h' tk'))
    (done : ∀ g h' tk' m' news', J n g m' news' → Fr g L h' m' → News g L h' news' → R (.ok .next) (St s h' tk'))
    (hk : scope.kind = .function := by rfl) (hl : (envOf name scope L f cd).kindOf z = some .local := by rfl) :
    codeAny (model prog w) A (.forLoop (.Name z zp) (.ref i) body [] (envOf name scope L f cd)) R (St s hp tk) := by
  refine codeAny_forLoop (fun q s' => ∃ g h' tk' m' news' j, s' = St s h' tk' ∧ Fr g L h' m' ∧ News g L h' ((i, riObj (a + (j : Nat) * c) ((n : Int) - (j : Nat)) c) :: news') ∧ Apart i news' ∧ J j g m' news' ∧ j ≤ n ∧ n + 1 - j = q) ?_ (n + 1)
    ⟨g, hp, tk, m, news, 0, rfl, F, by simpa using N, hi, h0, Nat.zero_le _, rfl⟩
  rintro q s' ⟨g, h', tk', m', news', j, rfl, F', N', hi', hJ, hj, rfl⟩
  have z := N' _ (.head _)
  by_cases hlt : j < n
  · refine wpAny_pyNext_range_item (s := St s h' tk') z.1 (by omega) fun h₁ hit₁ hs₁ => ?_
    have F₁ : Fr g L h₁ m' := F'.change hs₁ z.2.1 z.2.2
    have N₁ : News g L h₁ ((i, riObj (a + (j + 1 : Nat) * c) ((n : Int) - (j + 1 : Nat)) c) :: news') := by
      have e1 : a + ((j + 1 : Nat) : Int) * c = a + (j : Int) * c + c := by push_cast; rw [Int.add_mul, Int.one_mul, Int.add_assoc]
      have e2 : (n : Int) - ((j + 1 : Nat) : Int) = (n : Int) - (j : Int) - 1 := by push_cast; omega
      rw [e1, e2]
      exact news_set (pre := []) N' (fun p hp => nomatch hp) hi' hs₁ hit₁
    refine wpAny_assign_Name (n_store (s := s) (tk := tk' + 1) F₁ N₁ (fun h₂ tk₂ F₂ N₂ => ?_) hk hl)
    refine wpAny_mono (turn j g _ h₂ tk₂ m' news' hlt hJ hi' F₂ N₂) (fun fl s₃ h₃ => ?_) fun _ _ e => e
    have fin : (∃ g' h'' tk'' m'' news'', s₃ = St s h'' tk'' ∧ Fr g' L h'' m'' ∧ News g' L h'' ((i, riObj (a + (j + 1 : Nat) * c) ((n : Int) - (j + 1 : Nat)) c) :: news'') ∧ Apart i news'' ∧ J (j + 1) g' m'' news'') →
        ∃ q', q' < n + 1 - j ∧ ∃ g h' tk' m' news' j', s₃ = St s h' tk' ∧ Fr g L h' m' ∧ News g L h' ((i, riObj (a + (j' : Nat) * c) ((n : Int) - (j' : Nat)) c) :: news') ∧ Apart i news' ∧ J j' g m' news' ∧ j' ≤ n ∧ n + 1 - j' = q' := by
      rintro ⟨g', h'', tk'', m'', news'', e, F3, N3, hi3, hJ3⟩
      exact ⟨n + 1 - (j + 1), by omega, g', h'', tk'', m'', news'', j + 1, e, F3, N3, hi3, hJ3, hlt, rfl⟩
    cases fl with
    | next => exact fin h₃
    | cont => exact fin h₃
    | brk => exact h₃
    | ret v => exact h₃
  · obtain rfl : j = n := by omega
    refine wpAny_pyNext_range_end (s := St s h' tk') hh z.1 (by omega) fun h₁ he₁ => wpAny_execs_nil ?_
    refine done g h₁ tk' m' news' hJ ⟨F'.ns.extBut he₁ (Ne.symm z.2.1), fun b o e => he₁ b o (fun q => by rw [q, z.2.2] at e; cases e) (F'.keep b o e), F'.above⟩ fun p hp => ?_
    have y := N' p (.tail _ hp)
    exact ⟨he₁ _ _ (hi' p hp) y.1, y.2⟩
end

/-! three lists and others -/
section
variable {h₀ h : Heap} {L : Addr} {at_ : Nat → Addr} {V : Nat → List Value} {n : Nat → Nat} {o : List (Addr × Obj)}
def led (at_ : Nat → Addr) (V : Nat → List Value) (n : Nat → Nat) (o : List (Addr × Obj)) : List (Addr × Obj) := (at_ 0, listOf (V 0).toArray (n 0)) :: (at_ 1, listOf (V 1).toArray (n 1)) :: (at_ 2, listOf (V 2).toArray (n 2)) :: o
def ledRest (at_ : Nat → Addr) (V : Nat → List Value) (n : Nat → Nat) (o : List (Addr × Obj)) : Nat → List (Addr × Obj)
  | 0 => (at_ 1, listOf (V 1).toArray (n 1)) :: (at_ 2, listOf (V 2).toArray (n 2)) :: o
  | 1 => (at_ 0, listOf (V 0).toArray (n 0)) :: (at_ 2, listOf (V 2).toArray (n 2)) :: o
  | _ => (at_ 0, listOf (V 0).toArray (n 0)) :: (at_ 1, listOf (V 1).toArray (n 1)) :: o
def upd {α : Type} (f : Nat → α) (i : Nat) (x : α) : Nat → α := fun j => if j = i then x else f j
structure Far (at_ : Nat → Addr) (o : List (Addr × Obj)) : Prop where
  a : at_ 0 ≠ at_ 1
  b : at_ 0 ≠ at_ 2
  c : at_ 1 ≠ at_ 2
  o : ∀ i, i < 3 → Apart (at_ i) o
theorem led_mem {i : Nat} (hi : i < 3) : (at_ i, listOf (V i).toArray (n i)) ∈ led at_ V n o := by
  unfold led
  rcases (by omega : i = 0 ∨ i = 1 ∨ i = 2) with rfl | rfl | rfl <;> simp
theorem led_old {p : Addr × Obj} (hp : p ∈ o) : p ∈ led at_ V n o := by unfold led; simp [hp]
theorem led_front {i : Nat} (hi : i < 3) (N : News h₀ L h (led at_ V n o)) : News h₀ L h ((at_ i, listOf (V i).toArray (n i)) :: ledRest at_ V n o i) := by
  rcases (by omega : i = 0 ∨ i = 1 ∨ i = 2) with rfl | rfl | rfl
  · exact N
  · exact nw_swap N
  · intro p hp
    unfold ledRest at hp
    refine N p ?_
    unfold led
    simp only [List.mem_cons] at hp ⊢
    rcases hp with q | q | q | q
    · exact .inr (.inr (.inl q))
    · exact .inl q
    · exact .inr (.inl q)
    · exact .inr (.inr (.inr q))
theorem led_back {i : Nat} (hi : i < 3) {vs : List Value} {c : Nat} (N : News h₀ L h ((at_ i, listOf vs.toArray c) :: ledRest at_ V n o i)) : News h₀ L h (led at_ (upd V i vs) (upd n i c) o) := by
  rcases (by omega : i = 0 ∨ i = 1 ∨ i = 2) with rfl | rfl | rfl
  · exact N
  · exact nw_swap N
  · intro p hp
    refine N p ?_
    have hp : p ∈ (at_ 0, listOf (V 0).toArray (n 0)) :: (at_ 1, listOf (V 1).toArray (n 1)) :: (at_ 2, listOf vs.toArray c) :: o := hp
    unfold ledRest
    simp only [List.mem_cons] at hp ⊢
    rcases hp with q | q | q | q
    · exact .inr (.inl q)
    · exact .inr (.inr (.inl q))
    · exact .inl q
    · exact .inr (.inr (.inr q))
theorem led_apart {i : Nat} (hi : i < 3) (D : Far at_ o) : Apart (at_ i) (ledRest at_ V n o i) := by
  have ho := D.o i hi
  rcases (by omega : i = 0 ∨ i = 1 ∨ i = 2) with rfl | rfl | rfl
  · exact Apart.cons D.a.symm (Apart.cons D.b.symm ho)
  · exact Apart.cons D.a (Apart.cons D.c.symm ho)
  · exact Apart.cons D.b (Apart.cons D.c ho)
end
end Mine
end
section
open PySem PySem.W PySem.Calls PyProof.Rows
set_option maxRecDepth 100000
set_option maxHeartbeats 1000000
namespace Mine

local macro_rules | `(tactic| walk_at "mn") => `(tactic| (refine n_loc (by assumption) (by first | rfl | assumption) ?_))
local macro_rules | `(tactic| walk_at "mi") => `(tactic| (refine e_int ?_; intro t' tk'))
local macro_rules | `(tactic| walk_at "enter") => `(tactic| ((case k1 => k_is); (case k2 => k_is); (case k3 => exact BindsTo.of_eq rfl); (case k4 => exact locs rfl); (case k5 => decide); (case k6 => rfl); (case k7 => rfl); (case k8 => rfl)))

/-- the three heaps and the plain row hold what they should -/
structure Stt (V : Nat → List Value) (us : List Value) (S R : List (List Nat)) : Prop where
  txt : ∀ i, i < 3 → Strs (V i)
  maps : ∀ i, i < 3 → (V i).map cpsOf = S.map (more i)
  own : ∃ ss : List Str, StrsAre us ss ∧ ss.map (·.cps.toList) = R
  inv : Inv S R
theorem Stt.len {V : Nat → List Value} {us : List Value} {S R : List (List Nat)} (T : Stt V us S R) {i : Nat} (hi : i < 3) : (V i).length = R.length := by
  have := congrArg List.length (T.maps i hi)
  rw [List.length_map, List.length_map] at this
  rw [this, T.inv.perm.length_eq]
theorem strs_are {vs : List Value} (h : Strs vs) : StrsAre vs (vs.map strOf) := by
  induction vs with
  | nil => exact .nil
  | cons a r ih =>
    obtain ⟨x, t, rfl⟩ := h a List.mem_cons_self
    exact .cons _ _ (ih fun v hv => h v (List.mem_cons_of_mem _ hv))
theorem strs_eq {xs ys : List Str} (h : xs.map (·.cps.toList) = ys.map (·.cps.toList)) : xs = ys := by
  induction xs generalizing ys with
  | nil => cases ys with | nil => rfl | cons b t => cases h
  | cons a r ih =>
    cases ys with
    | nil => cases h
    | cons b t =>
      obtain ⟨h1, h2⟩ := List.cons.inj h
      rw [ih h2, show a = b from Str.ext' (Array.toList_inj.mp h1)]
theorem led_in {h₀ h : Heap} {L : Addr} {at_ : Nat → Addr} {V : Nat → List Value} {n : Nat → Nat} {o : List (Addr × Obj)} {p : Addr × Obj} (N : News h₀ L h (p :: led at_ V n o)) : News h₀ L h (led at_ V n (p :: o)) := by
  intro q hq
  refine N q ?_
  unfold led at hq ⊢
  simp only [List.mem_cons] at hq ⊢
  rcases hq with h | h | h | h | h
  · exact .inr (.inl h)
  · exact .inr (.inr (.inl h))
  · exact .inr (.inr (.inr (.inl h)))
  · exact .inl h
  · exact .inr (.inr (.inr (.inr h)))
theorem led_out {h₀ h : Heap} {L : Addr} {at_ : Nat → Addr} {V : Nat → List Value} {n : Nat → Nat} {o : List (Addr × Obj)} {p : Addr × Obj} (N : News h₀ L h (led at_ V n (p :: o))) : News h₀ L h (p :: led at_ V n o) := by
  intro q hq
  refine N q ?_
  unfold led at hq ⊢
  simp only [List.mem_cons] at hq ⊢
  rcases hq with h | h | h | h | h
  · exact .inr (.inr (.inr (.inl h)))
  · exact .inl h
  · exact .inr (.inl h)
  · exact .inr (.inr (.inl h))
  · exact .inr (.inr (.inr (.inr h)))
theorem led_in2 {h₀ h : Heap} {L : Addr} {at_ : Nat → Addr} {V : Nat → List Value} {n : Nat → Nat} {o : List (Addr × Obj)} {p q : Addr × Obj} (N : News h₀ L h (p :: q :: led at_ V n o)) : News h₀ L h (led at_ V n (p :: q :: o)) := by
  intro x hx
  refine N x ?_
  unfold led at hx ⊢
  simp only [List.mem_cons] at hx ⊢
  rcases hx with h | h | h | h | h | h
  · exact .inr (.inr (.inl h))
  · exact .inr (.inr (.inr (.inl h)))
  · exact .inr (.inr (.inr (.inr (.inl h))))
  · exact .inl h
  · exact .inr (.inl h)
  · exact .inr (.inr (.inr (.inr (.inr h))))
theorem Cy.held {w : World} {d : Dt} {A : Around} {g : Heap} {L : Addr} {k : Nat} (C : Cy w d A g L k) : ∃ P : Heap → Prop, P g ∧ (∀ g', P g' → KtsTurn d.fs g g' ∧ Cy w d A g' L k) ∧ ∀ g' g'', P g' → KtsTurn d.fs g' g'' → Cy w d A g'' L k → P g'' :=
  ⟨fun g' => KtsTurn d.fs g g' ∧ Cy w d A g' L k, ⟨KtsTurn.refl, C⟩, fun _ x => x, fun _ _ x y z => ⟨x.1.trans y, z⟩⟩
theorem own_val {kind : Int} {x y : List Nat} {R R' : List (List Nat)} (O : OwnL kind R x (some y) R') (hR : ∀ r ∈ R, r.length ≤ 3) (hx : x.length ≤ 3) : y.length ≤ 3 := by
  unfold OwnL at O
  split at O
  · cases O.1
  · split at O
    · obtain ⟨l, e, h, _⟩ := O
      obtain rfl := Option.some.inj e
      rcases List.mem_append.mp (h.mem_iff.mp List.mem_cons_self) with q | q
      · exact hR _ q
      · rw [List.mem_singleton.mp q]; exact hx
    · cases R with
      | nil => obtain rfl := Option.some.inj O.1; decide
      | cons l t => obtain rfl := Option.some.inj O.1; exact hR _ List.mem_cons_self
theorem Far.cons {at_ : Nat → Addr} {o : List (Addr × Obj)} {p : Addr × Obj} (D : Far at_ o) (h : ∀ i, i < 3 → at_ i ≠ p.1) : Far at_ (p :: o) := ⟨D.a, D.b, D.c, fun i hi => Apart.cons (h i hi).symm (D.o i hi)⟩
theorem Far.led {at_ : Nat → Addr} {V : Nat → List Value} {n : Nat → Nat} {o : List (Addr × Obj)} {l : Addr} (h : ∀ i, i < 3 → at_ i ≠ l) (ho : Apart l o) : Apart l (Mine.led at_ V n o) := Apart.cons (h 0 (by decide)) (Apart.cons (h 1 (by decide)) (Apart.cons (h 2 (by decide)) ho))

theorem strOk_of {x : Str} (h : Free x.cps.toList) : PyData.strOk x = true := by
  unfold PyData.strOk
  rw [← Array.all_toList, List.all_eq_true]
  exact fun c hc => decide_eq_true (h c hc).2.2
theorem tup_item3 {prog : Program} {w : World} {A : Around} {E : Value → Shared → Prop} {s : Shared} {hp : Heap} {tk : Nat} {Q : Value → Shared → Prop} {value slice : PySem.Expr} {t : Addr} {a b c : Value} {k : Int} {u : Tok} (P : Value → Prop) (ht : IsTup hp t [a, b, c].toArray) (h0 : 0 ≤ k) (h3 : k < 3) (ha : P a) (hb : P b) (hc : P c) (h : ∀ v, P v → Q v (St s hp tk))
    (hs : subscripted slice false (.ref t) (.int k u) = operate [.ref t, .int k u] (getItem (.ref t) (.int k u)) := by with_unfolding_all rfl) :
    wpAny (model prog w) A (subscriptTail value slice (.ref t) (.int k u)) Q E (St s hp tk) := by
  refine tail_any (s := St s hp tk) (IsTup.typeIs (s := St s hp tk) ht) slot_tuple_getitem.lookup ?_ hs
  rcases (by omega : k = 0 ∨ k = 1 ∨ k = 2) with rfl | rfl | rfl
  · exact getItem_tuple (s := St s hp tk) (j := 0) (x := a) ht (by decide) (by decide) (by rfl) rfl (h _ ha)
  · exact getItem_tuple (s := St s hp tk) (j := 1) (x := b) ht (by decide) (by decide) (by rfl) rfl (h _ hb)
  · exact getItem_tuple (s := St s hp tk) (j := 2) (x := c) ht (by decide) (by decide) (by rfl) rfl (h _ hc)

section
variable {prog : Program} {w : World} {A : Around} {E : Value → Shared → Prop} {s : Shared} {hp h₀ : Heap} {tk : Nat} {L r H : Addr} {m : Str → Option Value} {o : List (Addr × Obj)} {k : Nat} {Q : Value → Shared → Prop} {d : Dt} {at_ : Nat → Addr} {V : Nat → List Value} {n : Nat → Nat} {us : List Value} {nr nH : Nat} {S R : List (List Nat)}

theorem lawStep_spec {number place : Int} {tn tp : Tok} (C : Cy w d A h₀ L k) (hk : k ≤ 10) (F : Fr h₀ L hp m) (N : News h₀ L hp ((r, listOf us.toArray nr) :: led at_ V n o)) (D : Far at_ o) (hra : ∀ i, i < 3 → at_ i ≠ r) (hro : Apart r o)
    (hH : (H, listOf [.ref (at_ 0), .ref (at_ 1), .ref (at_ 2)].toArray nH) ∈ o) (T : Stt V us S R) (hz : R.length ≤ 40)
    (h : ∀ h₀' h' tk' us' nr' V' n' S' R', KtsTurn d.fs h₀ h₀' → Cy w d A h₀' L k → Fr h₀' L h' m → News h₀' L h' ((r, listOf us'.toArray nr') :: led at_ V' n' o) → Stt V' us' S' R' → R'.length ≤ R.length + 1 → (number = 2 → R'.length = R.length - 1) → Q (.bool true) (St s h' tk')) :
    wpAny (model prog w) A (call (.ref 132) [.ref H, .ref r, .int number tn, .int place tp]) Q E (St s hp tk) := by
  refine' call_defS (binds := [("heaps", .ref H), ("rows", .ref r), ("number", .int number tn), ("place", .int place tp)]) C (by omega) F N ?k1 ?k2 ?k3 ?k4 ?k5 ?k6 ?k7 ?k8 ?_
  walk_at "enter"
  intro g L' h₁ tk' C' F' N'
  refine x_asg (e_bin ?_)
  walk_at "mn"
  walk_at "mi"
  refine o_mod (by decide) ?_; intro t1 tk1
  refine n_store F' N' ?_
  intro h2 tk2 F2 N2
  refine x_asg (e_call ?_)
  refine n_top C'.toCx F2 (by k_is) ?_
  refine cw_def1 (by k_is) ?_ (C'.X.keeps F2.keep)
  refine e_bin ?_
  walk_at "mn"
  walk_at "mi"
  refine o_fdiv (by decide) (Or.inl (PyProof.noPylong_small (by decide))) ?_; intro t3 tk3
  refine ⟨C'.X.keeps F2.keep, ?_⟩
  refine lawRow_spec C'.toCx (by omega) F2 N2 ?_
  intro h4 tk4 x tx F4 N4 hx
  refine n_store F4 N4 ?_
  intro h5 tk5 F5 N5
  have hfx : Free x.cps.toList := hx.2
  have hlx : x.cps.toList.length ≤ 3 := by simpa using hx.1
  refine x_asg (e_call ?_)
  refine n_top C'.toCx F5 (by k_is) ?_
  refine cw_def1 (by k_is) ?_ (C'.X.keeps F5.keep)
  walk_at "mn"
  refine ⟨C'.X.keeps F5.keep, ?_⟩
  refine quotedata_spec C'.toCx (by omega) F5 N5 (by have := hx.1; omega) ?_
  intro h6 tk6 x1 tx1 F6 N6 hx1
  rw [quoted hfx] at hx1
  have hl1 : x1.cps.size ≤ 4 := by rw [← Array.length_toList, hx1]; have := more_len 1 x.cps.toList; omega
  refine n_store F6 N6 ?_
  intro h7 tk7 F7 N7
  refine x_asg (e_list3 ?_)
  walk_at "mn"
  walk_at "mn"
  refine e_call ?_
  refine n_top C'.toCx F7 (by k_is) ?_
  refine cw_def1 (by k_is) ?_ (C'.X.keeps F7.keep)
  walk_at "mn"
  refine ⟨C'.X.keeps F7.keep, ?_⟩
  refine quotedata_spec C'.toCx (by omega) F7 N7 (by omega) ?_
  intro h8 tk8 x2 tx2 F8 N8 hx2
  rw [hx1, quoted (more_free hfx), more_succ] at hx2
  refine newList_L F8 N8 (by show 3 ≤ 1000; decide) ?_
  intro it h9 F9 N9 lt9
  refine n_store F9 N9 ?_
  intro h10 tk10 F10 N10
  refine x_asg (e_call ?_)
  refine n_top C'.toCx F10 (by k_is) ?_
  refine cw_def3 (by k_is) ?_ (C'.X.keeps F10.keep)
  walk_at "mn"
  walk_at "mn"
  walk_at "mn"
  refine ⟨C'.X.keeps F10.keep, ?_⟩
  obtain ⟨ss, hss, hR⟩ := T.own
  have hrl : Apart r (led at_ V n o) := Far.led hra hro
  have hit : Apart it ((r, listOf us.toArray nr) :: led at_ V n o) := Apart.of_lt lt9
  have hri : it ≠ r := (hit _ (.head _)).symm
  refine lawOwn_spec C'.toCx (by omega) F10 (nw_swap N10) (Apart.cons hri hrl) hss (by rw [hss.length]; rw [← hR, List.length_map] at hz; omega) ?_
  intro h11 tk11 us' ss' nr' ro wv F11 N11 hss' hown hret
  refine n_store F11 N11 ?_
  intro h12 tk12 F12 N12
  have O := ownL hown
  rw [hR] at O
  have hkd : 0 ≤ Int.fmod number 6 ∧ Int.fmod number 6 < 6 := ⟨fmod_lo number (by decide), fmod_hi number (by decide)⟩
  have hn2 : number = 2 → Int.fmod number 6 = 2 := fun e => by rw [e]; rfl
  generalize Int.fmod number 6 = kind at *
  obtain ⟨hr1, I'⟩ := inv_call hkd T.inv hfx hlx O
  have hlen := own_len O
  generalize hcl : callL kind x.cps.toList S = cl at *
  have hpop : number = 2 → (ss'.map (·.cps.toList)).length = R.length - 1 := fun e => by
    have := hn2 e
    subst this
    exact own_pop O
  generalize hR' : ss'.map (·.cps.toList) = R' at *
  obtain ⟨X, TX, eX, hX⟩ : ∃ (X : Nat → Str) (TX : Nat → Tok), [Value.str x tx, .str x1 tx1, .str x2 tx2] = [.str (X 0) (TX 0), .str (X 1) (TX 1), .str (X 2) (TX 2)] ∧ ∀ i, i < 3 → (X i).cps.toList = more i x.cps.toList := by
    refine ⟨fun j => if j = 0 then x else if j = 1 then x1 else x2, fun j => if j = 0 then tx else if j = 1 then tx1 else tx2, rfl, fun i hi => ?_⟩
    rcases (by omega : i = 0 ∨ i = 1 ∨ i = 2) with rfl | rfl | rfl
    · exact (more_zero _).symm
    · exact hx1
    · exact hx2
  rw [eX] at N12
  have N13 := led_in2 (nw_swap N12)
  have D2 : Far at_ ((it, listOf [Value.str (X 0) (TX 0), .str (X 1) (TX 1), .str (X 2) (TX 2)].toArray 0) :: (r, listOf us'.toArray nr') :: o) :=
    (D.cons (p := (r, listOf us'.toArray nr')) hra).cons fun i hi => by
      have := hit _ (.tail _ (led_mem (at_ := at_) (V := V) (n := n) (o := o) hi))
      exact this
  have hH2 : (H, listOf [.ref (at_ 0), .ref (at_ 1), .ref (at_ 2)].toArray nH) ∈ (it, listOf [Value.str (X 0) (TX 0), .str (X 1) (TX 1), .str (X 2) (TX 2)].toArray 0) :: (r, listOf us'.toArray nr') :: o := .tail _ (.tail _ hH)
  have hI2 : (it, listOf [Value.str (X 0) (TX 0), .str (X 1) (TX 1), .str (X 2) (TX 2)].toArray 0) ∈ (it, listOf [Value.str (X 0) (TX 0), .str (X 1) (TX 1), .str (X 2) (TX 2)].toArray 0) :: (r, listOf us'.toArray nr') :: o := .head _
  have ho2 : ∀ p ∈ o, p ∈ (it, listOf [Value.str (X 0) (TX 0), .str (X 1) (TX 1), .str (X 2) (TX 2)].toArray 0) :: (r, listOf us'.toArray nr') :: o := fun p hp => .tail _ (.tail _ hp)
  have hr2 : (r, listOf us'.toArray nr') ∈ (it, listOf [Value.str (X 0) (TX 0), .str (X 1) (TX 1), .str (X 2) (TX 2)].toArray 0) :: (r, listOf us'.toArray nr') :: o := .tail _ (.head _)
  generalize ((it, listOf [Value.str (X 0) (TX 0), .str (X 1) (TX 1), .str (X 2) (TX 2)].toArray 0) :: (r, listOf us'.toArray nr') :: o) = o2 at *
  have hSl : S.length = R.length := T.inv.perm.length_eq
  refine wpAny_execs_cons (wpAny_For (e_call ?_))
  refine n_blt C'.toCx F12 (by k_is) (by boot_by_name) (by decide) ?_
  refine cw_type1 ?_
  walk_at "mi"
  refine l_range F12 N13 ?_
  intro rg h14 tk14 t14 t15 F14 N14 lt14
  refine l_iter (n := 3) F14 N14 (by decide) ?_
  intro ri h16 F16 N16 lt16
  obtain ⟨P, hP0, hP1, hP2⟩ := C'.held
  have hari : ∀ i, i < 3 → at_ i ≠ ri := fun i hi => Nat.ne_of_lt (lt16 _ (led_mem hi))
  refine for_rangeG _ (fun j g' mm nw => P g' ∧ mm "heaps" = some (.ref H) ∧ mm "rows" = some (.ref r) ∧ mm "place" = some (.int place tp) ∧ (∃ t, mm "kind" = some (.int kind t)) ∧ mm "items" = some (.ref it) ∧ mm "want" = some wv ∧
    ∃ V' n', nw = led at_ V' n' o2 ∧ (∀ i, i < 3 → Strs (V' i)) ∧ ∀ i, i < 3 → (V' i).map cpsOf = (if i < j then cl.2 else S).map (more i)) C'.hh F16 N16 (Apart.of_lt lt16) ?_ ?_ ?_
  · exact ⟨hP0, rfl, rfl, rfl, ⟨_, rfl⟩, rfl, rfl, V, n, rfl, T.txt, fun i hi => by rw [if_neg (by omega)]; exact T.maps i hi⟩
  · rintro j g2 tz h17 tk17 mm nw hj ⟨p2, i1, i2, i3, ⟨tkd, i4⟩, i5, i6, V2, n2, rfl, s2, m2⟩ hap F17 N17
    obtain ⟨T2, C2⟩ := hP1 _ p2
    simp only [Int.zero_add, Int.mul_one] at F17
    have N18 := led_in N17
    refine x_asg (e_call ?_)
    refine n_top C2.toCx F17 (by k_is) ?_
    refine cw_def3 (by k_is) ?_ (C2.X.keeps F17.keep)
    walk_at "mn"
    refine e_sub ?_
    walk_at "mn"
    walk_at "mn"
    refine lg_subM (v := .ref (at_ j)) N18 (led_old (.tail _ hH2)) (by omega) (by omega) (by rcases (by omega : j = 0 ∨ j = 1 ∨ j = 2) with rfl | rfl | rfl <;> rfl) ?_
    refine e_sub ?_
    walk_at "mn"
    walk_at "mn"
    refine lg_subM (v := .str (X j) (TX j)) N18 (led_old (.tail _ hI2)) (by omega) (by omega) (by rcases (by omega : j = 0 ∨ j = 1 ∨ j = 2) with rfl | rfl | rfl <;> rfl) ?_
    refine ⟨C2.X.keeps F17.keep, ?_⟩
    have mj := m2 j hj
    rw [if_neg (by omega)] at mj
    have lj : (V2 j).length = S.length := by simpa using congrArg List.length mj
    refine lawCall_spec C2 (by omega) F17 (led_front hj N18) (led_apart hj (D2.cons hari)) (s2 j hj) (by omega) ?_
    intro g3 h19 tk19 n19 told vs19 T3 C3 F19 N19 CV
    obtain ⟨ht, s3, m3⟩ := callV_L CV (s2 j hj) mj (hX j hj)
    rw [hcl] at ht m3
    have N20 := led_back hj N19
    refine n_store F19 N20 ?_
    intro h21 tk21 F21 N21
    have fin : ∀ h' tk' m', Fr g3 L' h' m' → News g3 L' h' (led at_ (upd V2 j vs19) (upd n2 j n19) ((ri, riObj (0 + (j + 1 : Nat) * 1) ((3 : Nat) - (j + 1 : Nat) : Int) 1) :: o2)) → m' "heaps" = some (.ref H) → m' "rows" = some (.ref r) → m' "place" = some (.int place tp) → m' "kind" = some (.int kind tkd) → m' "items" = some (.ref it) → m' "want" = some wv →
      ∃ g' h'' tk'' m'' news'', St s h' tk' = St s h'' tk'' ∧ Fr g' L' h'' m'' ∧ News g' L' h'' ((ri, riObj (0 + (j + 1 : Nat) * 1) ((3 : Nat) - (j + 1 : Nat) : Int) 1) :: news'') ∧ Apart ri news'' ∧ P g' ∧ m'' "heaps" = some (.ref H) ∧ m'' "rows" = some (.ref r) ∧ m'' "place" = some (.int place tp) ∧ (∃ t, m'' "kind" = some (.int kind t)) ∧ m'' "items" = some (.ref it) ∧ m'' "want" = some wv ∧
        ∃ V' n', news'' = led at_ V' n' o2 ∧ (∀ i, i < 3 → Strs (V' i)) ∧ ∀ i, i < 3 → (V' i).map cpsOf = (if i < j + 1 then cl.2 else S).map (more i) := by
      intro h' tk' m' Fz Nz q1 q2 q3 q4 q5 q6
      refine ⟨g3, h', tk', m', _, rfl, Fz, led_out Nz, ?_, hP2 _ _ p2 T3 C3, q1, q2, q3, ⟨_, q4⟩, q5, q6, _, _, rfl, ?_, ?_⟩
      · exact Far.led hari fun p hp => by
          have := hap p (led_old hp)
          exact this
      · intro i hi
        unfold upd
        by_cases q : i = j
        · rw [if_pos q]; exact s3
        · rw [if_neg q]; exact s2 i hi
      · intro i hi
        unfold upd
        by_cases q : i = j
        · rw [if_pos q, if_pos (by omega), q]; exact m3
        · rw [if_neg q, m2 i hi]
          by_cases q2 : i < j
          · rw [if_pos q2, if_pos (by omega)]
          · rw [if_neg q2, if_neg (by omega)]
    rw [hr1] at ht
    cases ro with
    | none =>
      have hw : wv = .none := hret
      have hv : told = .none := ht
      subst hw hv
      refine x_if (t_cmp ?_)
      walk_at "mn"
      refine e_none ?_
      refine c_isNone rfl ⟨fun _ => ?_, fun q => (by cases q)⟩
      refine x_if (t_cmp ?_)
      walk_at "mn"
      refine e_none ?_
      refine c_isNotNone rfl ⟨fun q => (by cases q), fun _ => ?_⟩
      refine x_nil ?_
      refine x_nil ?_
      refine x_nil ?_
      exact fin _ _ _ F21 N21 i1 i2 i3 i4 i5 i6
    | some y =>
      obtain ⟨ty, rfl⟩ := (hret : ∃ t, wv = .str y t)
      obtain ⟨z, tz2, rfl, hz2⟩ := (ht : ∃ z t, told = .str z t ∧ z.cps.toList = more j y.cps.toList)
      refine x_if (t_cmp ?_)
      walk_at "mn"
      refine e_none ?_
      refine c_isNone rfl ⟨fun q => (by cases q), fun _ => ?_⟩
      refine x_if (t_cmp ?_)
      walk_at "mn"
      refine e_call ?_
      refine n_top C3.toCx F21 (by k_is) ?_
      refine cw_def2 (by k_is) ?_ (C3.X.keeps F21.keep)
      walk_at "mn"
      walk_at "mn"
      refine ⟨C3.X.keeps F21.keep, ?_⟩
      refine lawDots_spec C3.toCx (by omega) F21 N21 (by omega) (by have := own_val O (fun q hq => T.inv.len q (T.inv.perm.mem_iff.mpr hq)) hlx; rw [Array.length_toList] at this; omega) ?_
      intro h22 tk22 y2 ty2 F22 N22 hy2
      have hzy : z = y2 := Str.ext' (Array.toList_inj.mp (hz2.trans hy2.symm))
      subst hzy
      refine c_neS ⟨fun q => (by simp at q), fun _ => ?_⟩
      refine x_nil ?_
      refine x_nil ?_
      refine x_nil ?_
      exact fin _ _ _ F22 N22 i1 i2 i3 i4 i5 i6
  · rintro g2 h17 tk17 mm nw ⟨p2, i1, i2, i3, ⟨tkd, i4⟩, i5, i6, V2, n2, rfl, s2, m2⟩ F17 N17
    obtain ⟨T2, C2⟩ := hP1 _ p2
    have m3 : ∀ i, i < 3 → (V2 i).map cpsOf = cl.2.map (more i) := fun i hi => by rw [m2 i hi, if_pos hi]
    have hll : ∀ i, i < 3 → (V2 i).length ≤ 41 := fun i hi => by
      have := congrArg List.length (m3 i hi)
      rw [List.length_map, List.length_map] at this
      have h2 := I'.perm.length_eq
      omega
    refine x_asg (e_sub ?_)
    refine e_tup3 ?_
    refine e_str ?_
    intro ta tka
    refine e_str ?_
    intro tb tkb
    refine e_str ?_
    intro tc tkc
    refine newTuple_L F17 N17 (by show 3 ≤ 1000; decide) ?_
    intro tu h18 F18 N18 lt18
    refine e_bin ?_
    walk_at "mn"
    walk_at "mi"
    refine o_mod (by decide) ?_; intro td tkd2
    refine tup_item3 (fun v => ∃ le t, v = .str le t ∧ IsSep le.cps.toList ∧ le.length ≤ 2) (News.isTup N18 (.head _)) (fmod_lo place (by decide)) (fmod_hi place (by decide)) ⟨_, _, rfl, .inl (by decide +kernel), by decide +kernel⟩ ⟨_, _, rfl, .inr (.inl (by decide +kernel)), by decide +kernel⟩ ⟨_, _, rfl, .inr (.inr (by decide +kernel)), by decide +kernel⟩ ?_
    rintro _ ⟨le, tle, rfl, hsep, hlel⟩
    have N19 : News g2 L' h18 (led at_ V2 n2 o2) := News.sub N18 fun p hp => .tail _ hp
    refine n_store F18 N19 ?_
    intro h20 tk20 F20 N20
    refine wpAny_execs_cons (wpAny_For (e_call ?_))
    refine n_blt C2.toCx F20 (by k_is) (by boot_by_name) (by decide) ?_
    refine cw_type1 ?_
    walk_at "mi"
    refine l_range F20 N20 ?_
    intro rg2 h21 tk21 t21 t22 F21 N21 lt21
    refine l_iter (n := 2) F21 N21 (by decide) ?_
    intro ri2 h22 F22 N22 lt22
    have hfree : ∀ j, ∀ q ∈ cl.2.map (more j), Free q := fun j q hq => by
      obtain ⟨q0, hq0, rfl⟩ := List.mem_map.mp hq
      exact more_free (I'.free q0 hq0)
    have hmapS : ∀ i, i < 3 → ((V2 i).map strOf).map (·.cps.toList) = cl.2.map (more i) := fun i hi => by
      rw [List.map_map]; exact m3 i hi
    have hok : ∀ i, i < 3 → ∀ y ∈ (V2 i).map strOf, Free y.cps.toList := fun i hi y hy => by
      refine hfree i _ ?_
      rw [← hmapS i hi]
      exact List.mem_map_of_mem hy
    refine for_range _ (fun j mm nw => mm "heaps" = some (.ref H) ∧ mm "rows" = some (.ref r) ∧ mm "line_end" = some (.str le tle) ∧ nw = led at_ V2 n2 o2) C2.hh F22 N22 (Apart.of_lt lt22) ⟨i1, i2, rfl, rfl⟩ ?_ ?_
    · rintro j tz h23 tk23 mm nw hj ⟨i1, i2, i3, rfl⟩ hap F23 N23
      simp only [Int.zero_add, Int.mul_one] at F23
      refine x_asg (e_list0 ?_)
      refine newList_L F23 N23 (by decide) ?_
      intro sa h24 F24 N24 lt24
      refine n_store F24 N24 ?_
      intro h25 tk25 F25 N25
      refine x_ifJ (fun s' => ∃ h' tk' m' sa us n0, s' = St s h' tk' ∧ Fr g2 L' h' m' ∧ News g2 L' h' ((sa, listOf us.toArray n0) :: (ri2, riObj (0 + (j + 1 : Nat) * 1) ((2 : Nat) - (j + 1 : Nat) : Int) 1) :: led at_ V2 n2 o2) ∧ m' "sent" = some (.ref sa) ∧ m' "heaps" = some (.ref H) ∧ m' "rows" = some (.ref r) ∧ m' "line_end" = some (.str le tle) ∧ m' "level" = some (.int (j : Nat) tz) ∧ StrsAre us ((V2 (j + 1)).map strOf)) (t_plain ?_) ?_
      · refine e_sub ?_
        walk_at "mn"
        walk_at "mn"
        refine lg_subM (v := .ref (at_ j)) N25 (.tail _ (.tail _ (led_old hH2))) (by omega) (by omega) (by rcases (by omega : j = 0 ∨ j = 1) with rfl | rfl <;> rfl) ?_
        refine lg_truthM N25 (.tail _ (.tail _ (led_mem (i := j) (by omega)))) (by have := hll j (by omega); omega) ?_
        intro tk26
        refine ⟨fun ht => ?_, fun hf => ?_⟩
        · have hpos : 0 < (V2 j).length := of_decide_eq_true ht
          refine x_asg (e_meth (e_call ?_))
          refine n_top C2.toCx F25 (by k_is) ?_
          refine cw_def1 (by k_is) ?_ (C2.X.keeps F25.keep)
          refine e_meth ?_
          walk_at "mn"
          refine GM.join (s := St s h25 _) ?_
          refine cw_m1 (e_sub ?_)
          walk_at "mn"
          walk_at "mn"
          refine lg_subM (v := .ref (at_ j)) N25 (.tail _ (.tail _ (led_old hH2))) (by omega) (by omega) (by rcases (by omega : j = 0 ∨ j = 1) with rfl | rfl <;> rfl) ?_
          have hlen10 : ∀ y ∈ (V2 j).map strOf, y.length ≤ 10 := fun y hy => by
            have hy2 : y.cps.toList ∈ cl.2.map (more j) := by rw [← hmapS j (by omega)]; exact List.mem_map_of_mem hy
            obtain ⟨q0, hq0, e0⟩ := List.mem_map.mp hy2
            have h1 := more_len j q0
            have h2 := I'.len q0 hq0
            rw [e0, Array.length_toList] at h1
            unfold Str.length
            omega
          have hyl : ((V2 j).map strOf).length ≤ 41 := by rw [List.length_map]; exact hll j (by omega)
          refine l_join (isListM N25 (.tail _ (.tail _ (led_mem (i := j) (by omega))))) (strs_are (s2 j (by omega))) hlel (by omega) hlen10 ?_
          intro t27 tk27
          refine ⟨C2.X.keeps F25.keep, ?_⟩
          have hjs : (Str.join le ((V2 j).map strOf)).length ≤ 1000 := by
            have h1 := StrLaws.join_length_le le ((V2 j).map strOf)
            have h2 : ∀ ys : List Str, (∀ y ∈ ys, y.length ≤ 10) → (ys.map (·.length)).sum ≤ 10 * ys.length := fun ys => by
              induction ys with
              | nil => intro _; simp
              | cons a r ih =>
                intro hz
                have := ih fun y hy => hz y (List.mem_cons_of_mem _ hy)
                have := hz a List.mem_cons_self
                simp only [List.map_cons, List.sum_cons, List.length_cons]; omega
            have h3 := h2 _ hlen10
            have h4 : ((V2 j).map strOf).length * le.length ≤ ((V2 j).map strOf).length * 2 := Nat.mul_le_mul_left _ hlel
            omega
          refine quotedata_spec C2.toCx (by omega) F25 N25 (by unfold Str.length at hjs; omega) ?_
          intro h28 tk28 y ty F28 N28 hy
          have hysz : y.length ≤ 100000 := by
            have h1 := dots_len true (crlf (Str.join le ((V2 j).map strOf)).cps.toList)
            have h2 := crlf_len (Str.join le ((V2 j).map strOf)).cps.toList
            have h3 : (Str.join le ((V2 j).map strOf)).cps.toList.length ≤ 1000 := by rw [Array.length_toList]; exact hjs
            have h4 : y.length = (dots true (crlf (Str.join le ((V2 j).map strOf)).cps.toList)).length := by rw [← hy, Array.length_toList]; rfl
            omega
          rw [join_toList, hmapS j (by omega), mail hsep (hfree j), List.map_map] at hy
          have hcomp : (more 1 ∘ more j) = more (j + 1) := funext fun q => more_succ j q
          rw [hcomp] at hy
          refine GM.split (s := St s h28 _) ?_
          refine cw_m1 (e_str ?_)
          intro t29 tk29
          refine l_split F28 N28 (by decide +kernel) hysz ?_
          intro sb h30 tk30 ub F30 N30 lt30 hub
          have hne : cl.2.map (more (j + 1)) ≠ [] := fun q => by
            have h1 := congrArg List.length (m3 j (by omega))
            have h2 : cl.2 = [] := List.map_eq_nil_iff.mp q
            rw [h2] at h1
            simp at h1
            rw [h1] at hpos
            simp at hpos
          have hsp := split_mail (y := Str.ofString "\r\n") (by decide +kernel) (hfree (j + 1)) hne hy
          rw [← hmapS (j + 1) (by omega)] at hsp
          rw [strs_eq hsp] at hub
          refine n_store F30 N30 ?_
          intro h31 tk31 F31 N31
          refine x_nil ⟨rfl, _, _, _, sb, ub, 0, rfl, F31, News.sub N31 ?_, rfl, i1, i2, i3, rfl, hub⟩
          intro p hp
          rcases List.mem_cons.mp hp with q | q
          · exact q ▸ .head _
          · exact .tail _ (.tail _ q)
        · have h0 : ¬ 0 < (V2 j).length := of_decide_eq_false hf
          refine x_nil ⟨rfl, _, _, _, sa, [], 0, rfl, F25, N25, rfl, i1, i2, i3, rfl, ?_⟩
          have h1 := congrArg List.length (m3 j (by omega))
          have h2 := congrArg List.length (m3 (j + 1) (by omega))
          rw [List.length_map, List.length_map] at h1 h2
          have h3 : V2 (j + 1) = [] := List.length_eq_zero_iff.mp (by omega)
          rw [h3]
          exact .nil
      · rintro _ ⟨h', tk', m', sb, ub, n0, rfl, Fb, Nb, b1, b2, b3, b4, b5, b6⟩
        refine x_if (t_cmp ?_)
        walk_at "mn"
        refine e_sub ?_
        walk_at "mn"
        refine e_bin ?_
        walk_at "mn"
        walk_at "mi"
        refine o_add ?_; intro t32 tk32
        refine lg_subM (v := .ref (at_ (j + 1))) Nb (.tail _ (.tail _ (led_old hH2))) (by omega) (by omega) (by rcases (by omega : j = 0 ∨ j = 1) with rfl | rfl <;> rfl) ?_
        refine c_neL (isListM Nb (.head _)) (isListM Nb (.tail _ (.tail _ (led_mem (i := j + 1) (by omega))))) b6 (strs_are (s2 (j + 1) (by omega))) (fun y hy => strOk_of (hok _ (by omega) y hy)) (fun y hy => strOk_of (hok _ (by omega) y hy)) (by have := C2.uni; rw [cLine_is]; omega) ?_
        refine wpAny_truthy_bool ⟨fun q => (by simp at q), fun _ => ?_⟩
        refine x_nil ?_
        refine x_nil ?_
        exact ⟨_, _, _, _, rfl, Fb, News.sub Nb fun p hp => .tail _ hp, hap, b2, b3, b4, rfl⟩
    · rintro h23 tk23 mm nw ⟨i1, i2, i3, rfl⟩ F23 N23
      refine x_ret (wpAny_Compare1 (e_call ?_))
      refine n_blt C2.toCx F23 (by k_is) (by boot_by_name) (by decide) ?_
      refine cw_blt1 (e_sub ?_)
      walk_at "mn"
      walk_at "mi"
      refine lg_subM (v := .ref (at_ 0)) N23 (led_old hH2) (by decide) (by decide) rfl ?_
      have hl0 := hll 0 (by decide)
      refine l_sorted F23 N23 (isListM N23 (led_mem (i := 0) (by decide))) (strs_are (s2 0 (by decide))) (by omega) ?_
      intro so h24 ws ss2 e2 F24 N24 hws hperm hsorted
      walk_at "mn"
      have hfin : ss2 = ss' := by
        refine strs_eq (up_unique (sortedS_up hsorted) ?_ ?_)
        · rw [hR']; exact I'.up
        · rw [hR']
          refine (hperm.map _).trans ?_
          rw [hmapS 0 (by decide), show more 0 = id from funext more_zero, List.map_id]
          exact I'.perm
      have hokS : ∀ y ∈ ss2, PyData.strOk y = true := fun y hy => strOk_of (hok 0 (by decide) y (hperm.mem_iff.mp hy))
      refine c_eqL (isListM N24 (.head _)) (isListM N24 (.tail _ (led_old hr2))) hws hss' hokS (hfin ▸ hokS) (by have := C2.uni; rw [cLine_is]; omega) ?_
      rw [decide_eq_true hfin]
      refine ⟨g2, _, _, T2, F24, N24, fun h₀' T1 C1 F1 N1 => h _ _ _ us' nr' V2 n2 cl.2 R' T1 C1 F1 (News.sub N1 ?_) ⟨s2, m3, ⟨ss', hss', hR'⟩, I'⟩ hlen hpop⟩
      intro p hp
      rcases List.mem_cons.mp hp with q | q
      · exact .tail _ (led_old (q ▸ hr2))
      · refine List.mem_cons_of_mem _ ?_
        unfold led at q ⊢
        simp only [List.mem_cons] at q ⊢
        rcases q with q | q | q | q
        · exact .inl q
        · exact .inr (.inl q)
        · exact .inr (.inr (.inl q))
        · exact .inr (.inr (.inr (ho2 p q)))
end
end Mine
end
section
open PySem PySem.W PySem.Calls PyProof.Rows
set_option maxRecDepth 100000
set_option maxHeartbeats 1000000
namespace Mine

local macro_rules | `(tactic| walk_at "mn") => `(tactic| (refine n_loc (by assumption) (by first | rfl | assumption) ?_))
local macro_rules | `(tactic| walk_at "mi") => `(tactic| (refine e_int ?_; intro t' tk'))
local macro_rules | `(tactic| walk_at "enter") => `(tactic| ((case k1 => k_is); (case k2 => k_is); (case k3 => exact BindsTo.of_eq rfl); (case k4 => exact locs rfl); (case k5 => decide); (case k6 => rfl); (case k7 => rfl); (case k8 => rfl)))

section
variable {prog : Program} {w : World} {A : Around} {E : Value → Shared → Prop} {s : Shared} {hp : Heap} {tk : Nat} {m : Str → Option Value} {news : List (Addr × Obj)}
/-- a for over a list's iterator, over a ground that may turn -/
theorem for_listG {z : Str} {zp : Pos} {body : List Stmt} {i l : Addr} {vs : List Value} {c : Nat} {name : Str} {scope : Scope} {f : Addr} {cd : Value} {g : Heap} {L : Addr} {oi : Obj} (R : Result → Shared → Prop)
    (J : Nat → Heap → (Str → Option Value) → List (Addr × Obj) → Prop) (hh : A.handled = none) (F : Fr g L hp m) (N : News g L hp ((i, oi) :: news)) (hoc : oi.cls = .type "list_iterator") (hod : oi.data = .fields #[.ref l, .int (0 : Nat) 0]) (hi : Apart i news) (h0 : J 0 g m news)
    (hl : ∀ j g m news, J j g m news → (l, listOf vs.toArray c) ∈ news)
    (turn : ∀ j g oi v h' tk' m' news', vs[j]? = some v → J j g m' news' → Apart i news' → Fr g L h' (fun y => if y = z then some v else m' y) → News g L h' ((i, oi) :: news') →
      wpAny (model prog w) A (execs body (envOf name scope L f cd)) (fun fl s₃ => match fl with
        | .next | .cont => ∃ g' h'' tk'' m'' news'', s₃ = St s h'' tk'' ∧ Fr g' L h'' m'' ∧ News g' L h'' ((i, oi) :: news'') ∧ Apart i news'' ∧ J (j + 1) g' m'' news''
        | .brk => R (.ok .next) s₃
        | .ret v => R (.ok (.ret v)) s₃) (notedBy (model prog w) A (envOf name scope L f cd) fun e s' => R (.error e) s') (St s h' tk'))
    (done : ∀ g h' tk' m' news', J vs.length g m' news' → Fr g L h' m' → News g L h' news' → R (.ok .next) (St s h' tk'))
    (hk : scope.kind = .function := by rfl) (hlc : (envOf name scope L f cd).kindOf z = some .local := by rfl) :
    codeAny (model prog w) A (.forLoop (.Name z zp) (.ref i) body [] (envOf name scope L f cd)) R (St s hp tk) := by
  refine codeAny_forLoop (fun q s' => ∃ g h' tk' m' news' j, ∃ oi : Obj, s' = St s h' tk' ∧ Fr g L h' m' ∧ News g L h' ((i, oi) :: news') ∧ oi.cls = .type "list_iterator" ∧ oi.data = .fields #[.ref l, .int (j : Nat) 0] ∧ Apart i news' ∧ J j g m' news' ∧ j ≤ vs.length ∧ vs.length + 1 - j = q) ?_ (vs.length + 1)
    ⟨g, hp, tk, m, news, 0, oi, rfl, F, N, hoc, hod, hi, h0, Nat.zero_le _, rfl⟩
  rintro q s' ⟨g, h', tk', m', news', j, oi, rfl, F', N', hc, hd, hi', hJ, hj, rfl⟩
  have z := N' _ (.head _)
  have hit : h'.IsListIter i l j := ⟨oi, z.1, hc, hd⟩
  have hls : h'.IsList l vs.toArray := isListM N' (.tail _ (hl _ _ _ _ hJ))
  by_cases hlt : j < vs.length
  · refine wpAny_pyNext_list_item (s := St s h' tk') (x := vs[j]) hit hls (by simp [hlt]) fun h₁ hit₁ hs₁ => ?_
    obtain ⟨o1, ho1, hc1, hd1⟩ := hit₁
    have F₁ : Fr g L h₁ m' := F'.change hs₁ z.2.1 z.2.2
    have N₁ : News g L h₁ ((i, o1) :: news') := news_set (pre := []) N' (fun p hp => nomatch hp) hi' hs₁ ho1
    refine wpAny_assign_Name (n_store (s := s) (tk := tk') F₁ N₁ (fun h₂ tk₂ F₂ N₂ => ?_) hk hlc)
    refine wpAny_mono (turn j g o1 _ h₂ tk₂ m' news' (List.getElem?_eq_getElem hlt) hJ hi' F₂ N₂) (fun fl s₃ h₃ => ?_) fun _ _ e => e
    have fin : (∃ g' h'' tk'' m'' news'', s₃ = St s h'' tk'' ∧ Fr g' L h'' m'' ∧ News g' L h'' ((i, o1) :: news'') ∧ Apart i news'' ∧ J (j + 1) g' m'' news'') →
        ∃ q', q' < vs.length + 1 - j ∧ ∃ g h' tk' m' news' j', ∃ oi : Obj, s₃ = St s h' tk' ∧ Fr g L h' m' ∧ News g L h' ((i, oi) :: news') ∧ oi.cls = .type "list_iterator" ∧ oi.data = .fields #[.ref l, .int (j' : Nat) 0] ∧ Apart i news' ∧ J j' g m' news' ∧ j' ≤ vs.length ∧ vs.length + 1 - j' = q' := by
      rintro ⟨g', h'', tk'', m'', news'', e, F3, N3, hi3, hJ3⟩
      exact ⟨vs.length + 1 - (j + 1), by omega, g', h'', tk'', m'', news'', j + 1, o1, e, F3, N3, hc1, hd1, hi3, hJ3, hlt, rfl⟩
    cases fl with
    | next => exact fin h₃
    | cont => exact fin h₃
    | brk => exact h₃
    | ret v => exact h₃
  · obtain rfl : j = vs.length := by omega
    refine wpAny_pyNext_list_end (s := St s h' tk') hh hit hls (by simp) fun h₁ he₁ => wpAny_execs_nil ?_
    refine done g h₁ tk' m' news' hJ ⟨F'.ns.extBut he₁ (Ne.symm z.2.1), fun b o e => he₁ b o (fun q => by rw [q, z.2.2] at e; cases e) (F'.keep b o e), F'.above⟩ fun p hp => ?_
    have y := N' p (.tail _ hp)
    exact ⟨he₁ _ _ (hi' p hp) y.1, y.2⟩
end
theorem led_inR {h₀ h : Heap} {L : Addr} {at_ : Nat → Addr} {V : Nat → List Value} {n : Nat → Nat} {o : List (Addr × Obj)} {p q : Addr × Obj} (N : News h₀ L h (p :: q :: led at_ V n o)) : News h₀ L h (q :: led at_ V n (p :: o)) := by
  intro x hx
  refine N x ?_
  unfold led at hx ⊢
  simp only [List.mem_cons] at hx ⊢
  rcases hx with h | h | h | h | h | h
  · exact .inr (.inl h)
  · exact .inr (.inr (.inl h))
  · exact .inr (.inr (.inr (.inl h)))
  · exact .inr (.inr (.inr (.inr (.inl h))))
  · exact .inl h
  · exact .inr (.inr (.inr (.inr (.inr h))))
theorem led_outR {h₀ h : Heap} {L : Addr} {at_ : Nat → Addr} {V : Nat → List Value} {n : Nat → Nat} {o : List (Addr × Obj)} {p q : Addr × Obj} (N : News h₀ L h (q :: led at_ V n (p :: o))) : News h₀ L h (p :: q :: led at_ V n o) := by
  intro x hx
  refine N x ?_
  unfold led at hx ⊢
  simp only [List.mem_cons] at hx ⊢
  rcases hx with h | h | h | h | h | h
  · exact .inr (.inr (.inr (.inr (.inl h))))
  · exact .inl h
  · exact .inr (.inl h)
  · exact .inr (.inr (.inl h))
  · exact .inr (.inr (.inr (.inl h)))
  · exact .inr (.inr (.inr (.inr (.inr h))))
theorem stt_nil : Stt (fun _ => []) [] [] [] := ⟨fun _ _ v hv => (nomatch hv), fun _ _ => rfl, ⟨[], .nil, rfl⟩, ⟨fun i h0 h => (by simp at h), .refl _, List.Pairwise.nil, fun _ h => (nomatch h), fun _ h => (nomatch h)⟩⟩
theorem Stt.us_len {V : Nat → List Value} {us : List Value} {S R : List (List Nat)} (T : Stt V us S R) : us.length = R.length := by
  obtain ⟨ss, h1, h2⟩ := T.own
  rw [h1.length, ← h2, List.length_map]

section
variable {prog : Program} {w : World} {A : Around} {E : Value → Shared → Prop} {s : Shared} {hp h₀ : Heap} {tk : Nat} {L nl : Addr} {m : Str → Option Value} {rest : List (Addr × Obj)} {k : Nat} {Q : Value → Shared → Prop} {d : Dt} {vs : List Value} {c : Nat} {ns : List Int}

theorem lawRun_spec (C : Cy w d A h₀ L k) (hk : k ≤ 5) (F : Fr h₀ L hp m) (N : News h₀ L hp ((nl, listOf vs.toArray c) :: rest)) (hI : IntsAre vs ns) (hz : vs.length ≤ 20)
    (h : ∀ h₀' h' tk' news', KtsTurn d.fs h₀ h₀' → Cy w d A h₀' L k → Fr h₀' L h' m → News h₀' L h' news' → Q (.bool true) (St s h' tk')) :
    wpAny (model prog w) A (call (.ref 139) [.ref nl]) Q E (St s hp tk) := by
  refine' call_defS (binds := [("numbers", .ref nl)]) C (by omega) F N ?k1 ?k2 ?k3 ?k4 ?k5 ?k6 ?k7 ?k8 ?_
  walk_at "enter"
  intro g L' h₁ tk' C' F' N'
  refine x_asg (e_list3 ?_)
  refine e_list0 ?_
  refine newList_L F' N' (by decide) ?_
  intro a0 h2 F2 N2 lt2
  refine e_list0 ?_
  refine newList_L F2 N2 (by decide) ?_
  intro a1 h3 F3 N3 lt3
  refine e_list0 ?_
  refine newList_L F3 N3 (by decide) ?_
  intro a2 h4 F4 N4 lt4
  refine newList_L F4 N4 (by show 3 ≤ 1000; decide) ?_
  intro H h5 F5 N5 lt5
  refine n_store F5 N5 ?_
  intro h6 tk6 F6 N6
  refine x_asg (e_list0 ?_)
  refine newList_L F6 N6 (by decide) ?_
  intro r h7 F7 N7 lt7
  refine n_store F7 N7 ?_
  intro h8 tk8 F8 N8
  refine x_asg ?_
  walk_at "mi"
  refine n_store F8 N8 ?_
  intro h9 tk9 F9 N9
  have l01 : a0 < a1 := lt3 _ (.head _)
  have l02 : a0 < a2 := lt4 _ (.tail _ (.head _))
  have l12 : a1 < a2 := lt4 _ (.head _)
  have l2H : a2 < H := lt5 _ (.head _)
  have l1H : a1 < H := lt5 _ (.tail _ (.head _))
  have l0H : a0 < H := lt5 _ (.tail _ (.tail _ (.head _)))
  have lHr : H < r := lt7 _ (.head _)
  obtain ⟨at_, e0, e1, e2⟩ : ∃ at_ : Nat → Addr, at_ 0 = a0 ∧ at_ 1 = a1 ∧ at_ 2 = a2 := ⟨fun i => if i = 0 then a0 else if i = 1 then a1 else a2, rfl, rfl, rfl⟩
  subst e0 e1 e2
  have h3 : ∀ {P : Nat → Prop}, P 0 → P 1 → P 2 → ∀ i, i < 3 → P i := fun p0 p1 p2 i hi => by
    rcases (by omega : i = 0 ∨ i = 1 ∨ i = 2) with rfl | rfl | rfl <;> assumption
  have D : Far at_ ((H, listOf [.ref (at_ 0), .ref (at_ 1), .ref (at_ 2)].toArray 0) :: (nl, listOf vs.toArray c) :: rest) :=
    ⟨Nat.ne_of_lt l01, Nat.ne_of_lt l02, Nat.ne_of_lt l12, h3
      (Apart.cons (Nat.ne_of_gt l0H) fun p hp => Nat.ne_of_lt (lt2 p hp))
      (Apart.cons (Nat.ne_of_gt l1H) fun p hp => Nat.ne_of_lt (lt3 p (.tail _ hp)))
      (Apart.cons (Nat.ne_of_gt l2H) fun p hp => Nat.ne_of_lt (lt4 p (.tail _ (.tail _ hp))))⟩
  have hra : ∀ i, i < 3 → at_ i ≠ r := h3 (Nat.ne_of_lt (lt7 _ (.tail _ (.tail _ (.tail _ (.head _)))))) (Nat.ne_of_lt (lt7 _ (.tail _ (.tail _ (.head _))))) (Nat.ne_of_lt (lt7 _ (.tail _ (.head _))))
  have hro : Apart r ((H, listOf [.ref (at_ 0), .ref (at_ 1), .ref (at_ 2)].toArray 0) :: (nl, listOf vs.toArray c) :: rest) :=
    Apart.cons (Nat.ne_of_lt lHr) fun p hp => Nat.ne_of_lt (lt7 p (.tail _ (.tail _ (.tail _ (.tail _ hp)))))
  have hH : (H, listOf [.ref (at_ 0), .ref (at_ 1), .ref (at_ 2)].toArray 0) ∈ (H, listOf [.ref (at_ 0), .ref (at_ 1), .ref (at_ 2)].toArray 0) :: (nl, listOf vs.toArray c) :: rest := .head _
  have hnl : (nl, listOf vs.toArray c) ∈ (H, listOf [.ref (at_ 0), .ref (at_ 1), .ref (at_ 2)].toArray 0) :: (nl, listOf vs.toArray c) :: rest := .tail _ (.head _)
  have N10 : News g L' h9 ((r, listOf [].toArray 0) :: led at_ (fun _ => []) (fun _ => 0) ((H, listOf [.ref (at_ 0), .ref (at_ 1), .ref (at_ 2)].toArray 0) :: (nl, listOf vs.toArray c) :: rest)) := News.sub N9 fun p hp => by
    unfold led at hp
    simp only [List.mem_cons] at hp ⊢
    rcases hp with h | h | h | h | h | h
    · exact .inl h
    · exact .inr (.inr (.inr (.inr (.inl h))))
    · exact .inr (.inr (.inr (.inl h)))
    · exact .inr (.inr (.inl h))
    · exact .inr (.inl h)
    · exact .inr (.inr (.inr (.inr (.inr h))))
  generalize ((H, listOf [.ref (at_ 0), .ref (at_ 1), .ref (at_ 2)].toArray 0) :: (nl, listOf vs.toArray c) :: rest) = o at *
  obtain ⟨P, hP0, hP1, hP2⟩ := C'.held
  refine wpAny_execs_cons (wpAny_For ?_)
  walk_at "mn"
  have hir : r ≠ h9.objs.size := Nat.ne_of_lt (Heap.lt_size (N10 _ (.head _)).1)
  have hia : ∀ i, i < 3 → at_ i ≠ h9.objs.size := fun i hi => Nat.ne_of_lt (Heap.lt_size (N10 _ (.tail _ (led_mem hi))).1)
  have hio : Apart h9.objs.size o := fun p hp => Nat.ne_of_lt (Heap.lt_size (N10 p (.tail _ (led_old hp))).1)
  refine wpAny_pyIter_list (s := St s h9 _) (isListM N10 (.tail _ (led_old hnl))) ?_
  refine for_listG (s := s) (vs := vs) (c := c) _ (fun j g' mm nw => P g' ∧ mm "heaps" = some (.ref H) ∧ mm "rows" = some (.ref r) ∧ (∃ pl t, mm "place" = some (.int pl t)) ∧ ∃ us nr V n S R, nw = (r, listOf us.toArray nr) :: led at_ V n o ∧ Stt V us S R ∧ R.length ≤ j) C'.hh (F9.push _) (N10.push F9 _) rfl rfl ?_ ?_ ?_ ?_ ?_
  · exact Apart.cons hir (Far.led hia hio)
  · exact ⟨hP0, rfl, rfl, ⟨_, _, rfl⟩, _, _, _, _, _, _, rfl, stt_nil, Nat.le_refl _⟩
  · rintro j g' mm nw ⟨_, _, _, _, us, nr, V, n, S, R, rfl, _, _⟩
    exact .tail _ (led_old hnl)
  · rintro j g2 oi v h10 tk10 mm nw hv ⟨p2, i1, i2, ⟨pl, tpl, i3⟩, us, nr, V, n, S, R, rfl, T, hR⟩ hap F10 N11
    have hj : j < vs.length := (List.getElem?_eq_some_iff.mp hv).1
    obtain ⟨T2, C2⟩ := hP1 _ p2
    obtain ⟨nn, tn, rfl, _⟩ := hI.at j v hv
    refine x_if (t_not (t_plain (e_call ?_)))
    refine n_top C2.toCx F10 (by k_is) ?_
    refine cw_def4 (by k_is) ?_ (C2.X.keeps F10.keep)
    walk_at "mn"
    walk_at "mn"
    walk_at "mn"
    walk_at "mn"
    refine ⟨C2.X.keeps F10.keep, ?_⟩
    refine lawStep_spec C2 (by omega) F10 (led_inR N11) (D.cons hia) hra (Apart.cons (Ne.symm hir) hro) (.tail _ hH) T (by omega) ?_
    intro g3 h12 tk12 us' nr' V' n' S' R' T3 C3 F12 N12 T' hlen hpop
    refine wpAny_truthy_bool ⟨fun q => (by cases q), fun _ => ?_⟩
    refine x_nil ?_
    refine x_aug ?_
    refine n_load F12 i3 ?_
    walk_at "mi"
    refine o_iadd ?_
    intro t13 tk13
    refine n_store F12 (led_outR N12) ?_
    intro h14 tk14 F14 N14
    refine x_nil ?_
    exact ⟨g3, _, _, _, _, rfl, F14, N14, Apart.cons hir (Far.led hia hio), hP2 _ _ p2 T3 C3, i1, i2, ⟨_, _, rfl⟩, _, _, _, _, _, _, rfl, T', by omega⟩
  · rintro g2 h10 tk10 mm nw ⟨p2, i1, i2, ⟨pl, tpl, i3⟩, us, nr, V, n, S, R, rfl, T, hR⟩ F10 N11
    refine wpAny_execs_cons (wpAny_While (codeAny_whileLoop (fun j (s' : Shared) => ∃ g' h tk mm, ∃ pl : Int, ∃ tpl us nr V n S R, s' = St s h tk ∧ P g' ∧ Fr g' L' h mm ∧ News g' L' h ((r, listOf us.toArray nr) :: led at_ V n o) ∧ mm "heaps" = some (.ref H) ∧ mm "rows" = some (.ref r) ∧ mm "place" = some (.int pl tpl) ∧ Stt V us S R ∧ R.length = j ∧ j ≤ 20) ?_ R.length ?_))
    · rintro j s' ⟨g3, h11, tk11, mm, pl, tpl, us, nr, V, n, S, R, rfl, p3, F11, N12, i1, i2, i3, T, rfl, hj⟩
      obtain ⟨T3, C3⟩ := hP1 _ p3
      refine t_plain ?_
      walk_at "mn"
      have hul := T.us_len
      refine lg_truth N12 (by omega) ?_
      intro tk12
      by_cases hpos : 0 < us.length
      · rw [if_pos (decide_eq_true hpos)]
        refine x_if (t_not (t_plain (e_call ?_)))
        refine n_top C3.toCx F11 (by k_is) ?_
        refine cw_def4 (by k_is) ?_ (C3.X.keeps F11.keep)
        walk_at "mn"
        walk_at "mn"
        walk_at "mi"
        walk_at "mn"
        refine ⟨C3.X.keeps F11.keep, ?_⟩
        refine lawStep_spec C3 (by omega) F11 N12 D hra hro hH T (by omega) ?_
        intro g4 h13 tk13 us' nr' V' n' S' R' T4 C4 F13 N13 T' hlen hpop
        refine wpAny_truthy_bool ⟨fun q => (by cases q), fun _ => ?_⟩
        refine x_nil ?_
        refine x_aug ?_
        refine n_load F13 i3 ?_
        walk_at "mi"
        refine o_iadd ?_
        intro t14 tk14
        refine n_store F13 N13 ?_
        intro h15 tk15 F15 N15
        have := hpop rfl
        refine x_nil ?_
        exact ⟨R'.length, by omega, g4, _, _, _, _, _, us', nr', V', n', S', R', rfl, hP2 _ _ p3 T4 C4, F15, N15, i1, i2, rfl, T', rfl, by omega⟩
      · rw [if_neg (by simpa using hpos)]
        refine x_nil ?_
        refine x_ret (e_call ?_)
        refine n_top C3.toCx F11 (by k_is) ?_
        refine cw_def4 (by k_is) ?_ (C3.X.keeps F11.keep)
        walk_at "mn"
        walk_at "mn"
        walk_at "mi"
        walk_at "mn"
        refine ⟨C3.X.keeps F11.keep, ?_⟩
        refine lawStep_spec C3 (by omega) F11 N12 D hra hro hH T (by omega) ?_
        intro g4 h13 tk13 us' nr' V' n' S' R' T4 C4 F13 N13 T' hlen hpop
        exact ⟨g4, _, _, T3.trans T4, F13, N13, fun h₀' T1 C1 F1 N1 => h _ _ _ _ T1 C1 F1 N1⟩
    · exact ⟨g2, _, _, _, _, _, _, _, _, _, _, _, rfl, p2, F10, N11, i1, i2, i3, T, rfl, by omega⟩
end
end Mine
end
section
open PySem PySem.W PySem.Calls PyProof.Rows
set_option maxRecDepth 100000
set_option maxHeartbeats 1000000
namespace Mine

section
variable {prog : Program} {w : World} {M : Model} {A : Around} {E : Value → Shared → Prop} {s : Shared} {hp : Heap} {tk : Nat} {env : Env} {pos : Pos} {Q : Value → Shared → Prop} {e1 e2 e3 e4 e5 e6 : Expr}
theorem e_list6 (h : wpAny M A (eval e1 env) (fun a s₁ => wpAny M A (eval e2 env) (fun b s₂ => wpAny M A (eval e3 env) (fun c s₃ => wpAny M A (eval e4 env) (fun d s₄ => wpAny M A (eval e5 env) (fun e s₅ => wpAny M A (eval e6 env) (fun f s₆ => wpAny M A (newList [a, b, c, d, e, f]) Q E s₆) E s₅) E s₄) E s₃) E s₂) E s₁) E (St s hp tk))
    (he1 : starEach [e1, e2, e3, e4, e5, e6] env = (false, eval e1 env) :: starEach [e2, e3, e4, e5, e6] env := by rfl) (he2 : starEach [e2, e3, e4, e5, e6] env = (false, eval e2 env) :: starEach [e3, e4, e5, e6] env := by rfl) (he3 : starEach [e3, e4, e5, e6] env = (false, eval e3 env) :: starEach [e4, e5, e6] env := by rfl)
    (he4 : starEach [e4, e5, e6] env = (false, eval e4 env) :: starEach [e5, e6] env := by rfl) (he5 : starEach [e5, e6] env = (false, eval e5 env) :: starEach [e6] env := by rfl) (he6 : starEach [e6] env = [(false, eval e6 env)] := by rfl) :
    wpAny M A (eval (.List [e1, e2, e3, e4, e5, e6] pos) env) Q E (St s hp tk) :=
  List_ (spliced_more (wpAny_mono h (fun a s₁ h₁ => spliced_more (wpAny_mono h₁ (fun b s₂ h₂ => spliced_more (wpAny_mono h₂ (fun c s₃ h₃ => spliced_more (wpAny_mono h₃ (fun d s₄ h₄ => spliced_more (wpAny_mono h₄ (fun e s₅ h₅ => spliced_more (wpAny_mono h₅ (fun f s₆ h₆ => spliced_none h₆) fun _ _ x => x) he6) fun _ _ x => x) he5) fun _ _ x => x) he4) fun _ _ x => x) he3) fun _ _ x => x) he2) fun _ _ x => x) he1)
theorem e_cutL {v e : Expr} {p : Pos} (h : wpAny (model prog w) A (eval v env) (fun o s₁ => ∃ l hp tk, ∃ vs : List Value, o = .ref l ∧ s₁ = St s hp tk ∧ wpAny (model prog w) A (eval e env) (fun j s₂ => ∃ i u hp' tk' h₀ L m news, j = .int i u ∧ s₂ = St s hp' tk' ∧ vs.length ≤ 1000 ∧ hp'.IsList l vs.toArray ∧ Fr h₀ L hp' m ∧ News h₀ L hp' news ∧
      ∀ a h', Fr h₀ L h' m → News h₀ L h' ((a, listOf (slicePick vs.toArray none (some i) none).toList.toArray 0) :: news) → Q (.ref a) (St s h' tk')) E (St s hp tk)) E (St s hp tk))
    (ht : ∀ l r, letTemporaryGo v (.ref l) r = pure () := by intro _ _; with_unfolding_all rfl) :
    wpAny (model prog w) A (eval (.Subscript v (.Slice none (some e) none p) pos) env) Q E (St s hp tk) := by
  refine Subscript_ (wpAny_mono h (fun o s₁ h₁ => ?_) fun _ _ x => x)
  obtain ⟨l, hp1, tk1, vs, rfl, rfl, h2⟩ := h₁
  refine wpAny_Slice (evalPart_none_step (evalPart_some_step (wpAny_mono h2 (fun j s₂ h₃ => ?_) fun _ _ x => x)))
  obtain ⟨i, u, hp', tk', h₀, L, m, news, rfl, rfl, hz, hl, F, N, h4⟩ := h₃
  refine evalPart_none_step ?_
  exact slice_list (s := St s hp' tk') F N hl .none (.int i u) (fun h' a b => h4 _ h' a (by rw [Array.toArray_toList]; exact b)) (by with_unfolding_all rfl) (ht l) (by rw [List.size_toArray, sizeLine_eq]; omega)
theorem cy_top {name : Str} {scope : Scope} {L f : Addr} {cd : Value} {g : Heap} {p : Program} {loose : List Str} {mean : ExcName → Option Value} {mg mb : Str → Option Value} (hk : scope.kind = .function) (X : (KK w).In g) (T : Top p loose mean mg mb g) :
    Cy w ⟨callerA, g, [], name, scope, f, cd, p, loose, mean, mg, mb⟩ (callerA.deeper (envOf name scope L f cd)) g L 1 where
  B := below_caller g
  hA := by unfold Around.deeper; rw [(below_caller g).stack]; rfl
  hck := hk
  X := X
  T := T
  XB := X
  TB := T
  D := ktsDicts_nil
  hh := rfl
  dep := by show callerA.depth + 1 ≤ _; rw [depth_caller]; exact Nat.le_refl _
  uni := by show callerA.units + 3 ≤ _; rw [units_caller]; decide
end
theorem il_keep {h h' : Heap} {l : Addr} {its : Array Value} (x : h.IsList l its) (k : ∀ b o, h.get? b = some o → h'.get? b = some o) : h'.IsList l its := let ⟨o, ho, r⟩ := x; ⟨o, k _ _ ho, r⟩
theorem fr_same {g g' h : Heap} {L : Addr} {m : Str → Option Value} (T : KtsTurn [] g g') (F : Fr g' L h m) : Fr g L h m := ⟨F.ns, fun b o e => F.keep b o (T.other b o e fun q => nomatch q), by have := F.above; rw [T.size] at this; exact this⟩
theorem law_holds : PySem.Challenge.rw_mr0135_01.Holds := hd (by
  k_go0
  all_goals try k_fold
  rename Fr _ _ _ _ => F
  rename News _ _ _ _ => N
  rename Top _ _ _ _ _ _ => T
  rename (Mine.hd.heap_39 _).In _ => KX
  rename IntsAre _ _ => hI
  rename Heap.IsList _ _ _ => hL
  rename Shared.gens _ = #[] => hg
  rename ¬ (_ < _) => hcond
  rename Heap => h₁
  rename List Value => vs
  rename List Int => ns
  show wpAny _ _ _ _ _ (St _ h₁ _)
  have hlen := hI.length
  refine x_ret (e_call ?_)
  refine n_top (cy_top (by rfl) KX T).toCx F (by k_is) ?_
  refine cw_def1 (by k_is) ?_ (KX.keeps F.keep)
  refine e_bin (e_list6 ?_)
  refine e_int ?_; intro t1 k1
  refine e_int ?_; intro t2 k2
  refine e_int ?_; intro t3 k3
  refine e_int ?_; intro t4 k4
  refine e_int ?_; intro t5 k5
  refine e_int ?_; intro t6 k6
  refine newList_L F N (by show 6 ≤ 1000; decide) ?_
  intro a0 h2 F2 N2 lt2
  refine e_cutL ?_
  refine n_loc F2 rfl ?_
  refine ⟨_, _, _, vs, rfl, rfl, ?_⟩
  refine e_int ?_; intro t7 k7
  refine ⟨_, _, _, _, _, _, _, _, rfl, rfl, ?_, il_keep hL F2.keep, F2, N2, ?_⟩
  · omega
  intro a1 h3 F3 N3
  have hs := slice_ints_uptoW hI (y := 8) (by decide)
  have h8 := hs.length
  rw [List.length_take] at h8
  refine add_lists_ints (s := St _ h3 _) F3 N3 (isListM N3 (.tail _ (.head _))) (isListM N3 (.head _)) (ns := [204, 19, 6, 113, 3, 124]) (.cons _ _ (.cons _ _ (.cons _ _ (.cons _ _ (.cons _ _ (.cons _ _ .nil)))))) hs ?_ ?_
  · intro h4 F4 N4 hI4
    refine ⟨KX.keeps F4.keep, ?_⟩
    refine lawRun_spec (cy_top (by rfl) KX T) (by decide) F4 N4 hI4 ?_ ?_
    · rw [List.length_append, h8]
      show 6 + min 8 ns.length ≤ 20
      omega
    · intro g5 h5 tk5 nw5 T5 C5 F5 N5
      refine goodW_bool (fr_same T5 F5) hg ?_ ?_
      · intro cls; rfl
      · first | wrow_post | kc_post | kernel_rfl
  · rw [List.length_take, sizeLine_eq]
    show 6 + min 8 ns.length ≤ _
    omega)
end Mine
end
theorem PySem.Challenge.cw_mr0135_01_holds : PySem.Challenge.rw_mr0135_01.Holds := by
  exact Mine.law_holds
