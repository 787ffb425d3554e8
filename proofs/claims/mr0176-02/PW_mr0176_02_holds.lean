import PyProof.Rows.All
import Wide.All
import OpenK.AllK
import Wide.FinOn
import KE.KNest
import KE.KLam
import KE.KSuperObj
import PySem.Challenge.RW_mr0176_02
section
open PySem PySem.W PyProof.Rows
set_option Elab.async false
set_option maxRecDepth 100000
set_option maxHeartbeats 8000000
namespace Mine
open_top hd for PySem.Challenge.rw_mr0176_02
end Mine
end
section
open PySem PySem.W PyProof.Rows PySem.Calls
set_option Elab.async false
set_option maxRecDepth 100000
set_option linter.unusedVariables false
namespace Mine

/-- what stays the same through a whole run: the program, the world, the generators, what was drawn, the outside -/
structure Cx where
  prog : Program
  w : World
  g : Array GenState
  d : Drawn
  os : OsState
abbrev Cx.st (c : Cx) (h : Heap) (t : Nat) : Shared := ⟨h, c.g, c.d, t, c.os⟩
abbrev Cx.M (c : Cx) : Model := model c.prog c.w
/-- the tree ends in Q of its value and the heap; nothing is raised; the tokens don't matter -/
def wq {α : Type} (c : Cx) (A : Around) (t : Sem α) (Q : α → Heap → Prop) (h : Heap) : Prop :=
  ∀ tk, wpAny c.M A t (fun v s' => ∃ h' tk', s' = c.st h' tk' ∧ Q v h') (fun _ _ => False) (c.st h tk)

def Keep (h h' : Heap) : Prop := ∀ b o, h.get? b = some o → h'.get? b = some o
theorem Keep.refl (h : Heap) : Keep h h := fun _ _ e => e
theorem Keep.trans {a b c : Heap} (x : Keep a b) (y : Keep b c) : Keep a c := fun _ _ e => y _ _ (x _ _ e)

section core
variable {α β : Type} {c : Cx} {A : Around} {h : Heap}
theorem wq.of {t : Sem α} {Q : α → Heap → Prop}
    (H : ∀ tk (Q' : α → Shared → Prop), (∀ v h' tk', Q v h' → Q' v (c.st h' tk')) → wpAny c.M A t Q' (fun _ _ => False) (c.st h tk)) : wq c A t Q h :=
  fun tk => H tk _ fun v h' tk' q => ⟨h', tk', rfl, q⟩
theorem wq.go {t : Sem α} {Q : α → Heap → Prop} (H : wq c A t Q h) {Q' : α → Shared → Prop} {E : Value → Shared → Prop} {tk : Nat} (k : ∀ v h' tk', Q v h' → Q' v (c.st h' tk')) :
    wpAny c.M A t Q' E (c.st h tk) := wpAny_mono (H tk) (fun v s' ⟨h', tk', e, q⟩ => e ▸ k v h' tk' q) fun _ _ x => x.elim
theorem wq.mono {t : Sem α} {Q Q' : α → Heap → Prop} (H : wq c A t Q h) (k : ∀ v h', Q v h' → Q' v h') : wq c A t Q' h :=
  fun tk => H.go fun v h' tk' q => ⟨h', tk', rfl, k v h' q⟩
theorem wq.pure {a : α} {Q : α → Heap → Prop} (q : Q a h) : wq c A (pure a) Q h := wq.of fun _ _ k => wpAny_pure (k _ _ _ q)
theorem wq.bind {m : Sem α} {f : α → Sem β} {Q : β → Heap → Prop} (H : wq c A m (fun a h' => wq c A (f a) Q h') h) : wq c A (m >>= f) Q h :=
  wq.of fun _ _ k => wpAny_bind (H.go fun _ _ _ H' => H'.go k)
theorem wq.holding {vs : List Value} {m : Sem α} {Q : α → Heap → Prop} (H : wq c A m Q h) : wq c A (holding vs m) Q h :=
  wq.of fun _ _ k => wpAny_holding (H.go k)
theorem wq.standAt {p : Pos} {Q : Unit → Heap → Prop} (q : Q () h) : wq c A (standAt p) Q h := wq.of fun _ _ k => wpAny_standAt (k _ _ _ q)
theorem wq.rule {tag : String} {Q : Unit → Heap → Prop} (q : Q () h) : wq c A (rule tag) Q h := wq.of fun _ _ k => wpAny_rule (k _ _ _ q)
theorem wq.load {a : Addr} {o : Obj} {Q : Obj → Heap → Prop} (ho : h.get? a = some o) (q : Q o h) : wq c A (load a) Q h := wq.of fun _ _ k => wpAny_load ho (k _ _ _ q)
end core

/-- a frame's names, as a list -/
abbrev lk (l : List (Str × Value)) : Str → Option Value := fun y => l.lookup y
theorem lk_cons (x : Str) (v : Value) (l : List (Str × Value)) : (fun y => if y = x then some v else lk l y) = lk ((x, v) :: l) := by
  funext y
  show _ = List.lookup y ((x, v) :: l)
  rw [List.lookup_cons]
  by_cases e : y = x
  · subst e; simp
  · have : (y == x) = false := by simp [e]
    rw [this, if_neg e]

section exprs
variable {c : Cx} {A : Around} {h h₀ : Heap} {L a : Addr} {cn : Str} {cs : Scope} {ccd : Value} {cl : List (Str × Addr)} {l : List (Str × Value)} {m : Str → Option Value} {x : Str} {pos : Pos} {v : Value} {Q : Value → Heap → Prop} {env : Env}

theorem q_local (F : Fr h₀ L h (lk l)) (hv : lk l x = some v) (hk : cs.kind = .function) (hx : (envX cn cs L a ccd cl).kindOf x = some .local) (hd : (x == ("__debug__" : Str)) = false) (q : Q v h) :
    wq c A (eval (.Name x pos) (envX cn cs L a ccd cl)) Q h := wq.of fun _ _ k => nameX_L F hv (k _ _ _ q) hk hx hd
theorem q_int {i : Int} {k : Nat} (q : ∀ t, Q (.int i t) h) : wq c A (eval (.Constant (.int i) k pos) env) Q h := wq.of fun _ _ k => wpAny_Constant_int (k _ _ _ (q _))
theorem q_str {s : Str} {k : Nat} (q : ∀ t, Q (.str s t) h) : wq c A (eval (.Constant (.str s) k pos) env) Q h := wq.of fun _ _ k => Constant_str (k _ _ _ (q _))
theorem q_bool {b : Bool} {k : Nat} (q : Q (.bool b) h) : wq c A (eval (.Constant (.bool b) k pos) env) Q h := wq.of fun _ _ k => Constant_bool (k _ _ _ q)
theorem q_BinOp {l r : Expr} {op : Operator} (H : wq c A (eval l env) (fun a h₁ => wq c A (eval r env) (fun b h₂ => wq c A (binaryOp op a b) Q h₂) h₁) h) :
    wq c A (eval (.BinOp l op r pos) env) Q h := wq.of fun _ _ k => wpAny_BinOp (H.go fun _ _ _ H₁ => H₁.go fun _ _ _ H₂ => H₂.go k)
theorem q_Compare {l r : Expr} {op : CmpOp} (hm : behindInMarks op r = false) (H : wq c A (eval l env) (fun a h₁ => wq c A (eval r env) (fun b h₂ => wq c A (compareOp op a b) Q h₂) h₁) h) :
    wq c A (eval (.Compare l [op] [r] pos) env) Q h := wq.of fun _ _ k => wpAny_Compare1 (H.go fun _ _ _ H₁ => H₁.go fun _ _ _ H₂ => H₂.go k) hm
theorem q_UnaryOp {op : UnaryOp} {e : Expr} (H : wq c A (eval e env) (fun v h₁ => wq c A (unaryOp op v) Q h₁) h) : wq c A (eval (.UnaryOp op e pos) env) Q h :=
  wq.of fun _ _ k => UnaryOp_ (H.go fun _ _ _ H₁ => H₁.go k)
theorem q_IfExp {t b o : Expr} (H : wq c A (isTrue t env (eval t env)) (fun z h₁ => if z = true then wq c A (eval b env) Q h₁ else wq c A (eval o env) Q h₁) h) : wq c A (eval (.IfExp t b o pos) env) Q h :=
  wq.of fun _ _ k => IfExp_ (H.go fun z _ _ H₁ => by cases z <;> exact H₁.go k)
end exprs

section ops
variable {c : Cx} {A : Around} {h : Heap} {Q : Value → Heap → Prop} {a b : Int} {t u : Tok}
theorem q_add (q : ∀ t, Q (.int (a + b) t) h) : wq c A (binaryOp .Add (.int a t) (.int b u)) Q h := wq.of fun _ _ k => add_int (k _ _ _ (q _))
theorem q_sub (q : ∀ t, Q (.int (a - b) t) h) : wq c A (binaryOp .Sub (.int a t) (.int b u)) Q h := wq.of fun _ _ k => sub_int' (k _ _ _ (q _))
theorem q_mul (hm : IntMulOk a b) (q : ∀ t, Q (.int (a * b) t) h) : wq c A (binaryOp .Mult (.int a t) (.int b u)) Q h := wq.of fun _ _ k => mul_int (k _ _ _ (q _)) hm
theorem noPy {x y : Int} (h0 : 0 < y) (h : y < 18446744073709551616) : Builtin.divisionGoesByPylong x y = false := by
  refine PyProof.noPylong_of_log2 (Nat.lt_trans ((Nat.log2_lt (by omega)).mpr ?_) (by decide : 64 < 9000))
  omega
theorem q_div (hb : 0 < b) (hb' : b < 18446744073709551616) (q : ∀ t, Q (.int (a / b) t) h) : wq c A (binaryOp .FloorDiv (.int a t) (.int b u)) Q h :=
  wq.of fun _ _ k => floordiv_int (Int.ne_of_gt hb) (k _ _ _ (by rw [Int.fdiv_eq_ediv_of_nonneg _ (Int.le_of_lt hb)]; exact q _)) (.inl (noPy hb hb'))
theorem q_mod (hb : 0 < b) (hb' : b < 18446744073709551616) (q : ∀ t, Q (.int (a % b) t) h) : wq c A (binaryOp .Mod (.int a t) (.int b u)) Q h :=
  wq.of fun _ _ k => mod_int' (Int.ne_of_gt hb) (k _ _ _ (by rw [Int.fmod_eq_emod_of_nonneg _ (Int.le_of_lt hb)]; exact q _))
theorem q_and (q : ∀ t, Q (.int (Builtin.bitAnd a b) t) h) : wq c A (binaryOp .BitAnd (.int a t) (.int b u)) Q h := wq.of fun _ _ k => and_int (k _ _ _ (q _))
theorem q_xor (q : ∀ t, Q (.int (Builtin.bitXor a b) t) h) : wq c A (binaryOp .BitXor (.int a t) (.int b u)) Q h := wq.of fun _ _ k => xor_int (k _ _ _ (q _))
theorem q_pow (hn : 0 ≤ b) (hz : (Builtin.Int.intBits a : Int) * b ≤ 2 ^ 27) (q : ∀ t, Q (.int (a ^ b.toNat) t) h) : wq c A (binaryOp .Pow (.int a t) (.int b u)) Q h := wq.of fun _ _ k => pow_int hn hz (k _ _ _ (q _))
theorem q_eq (q : Q (.bool (a == b)) h) : wq c A (compareOp .Eq (.int a t) (.int b u)) Q h := wq.of fun _ _ k => eq_int (k _ _ _ q)
theorem q_ne (q : Q (.bool (a != b)) h) : wq c A (compareOp .NotEq (.int a t) (.int b u)) Q h := wq.of fun _ _ k => ne_int (k _ _ _ q)
theorem q_lt (q : Q (.bool (decide (a < b))) h) : wq c A (compareOp .Lt (.int a t) (.int b u)) Q h := wq.of fun _ _ k => lt_int (k _ _ _ q)
theorem q_gt (q : Q (.bool (decide (b < a))) h) : wq c A (compareOp .Gt (.int a t) (.int b u)) Q h := wq.of fun _ _ k => gt_int (k _ _ _ q)
theorem q_le (q : Q (.bool (decide (a ≤ b))) h) : wq c A (compareOp .LtE (.int a t) (.int b u)) Q h := wq.of fun _ _ k => le_int (k _ _ _ q)
theorem q_ge (q : Q (.bool (decide (b ≤ a))) h) : wq c A (compareOp .GtE (.int a t) (.int b u)) Q h := wq.of fun _ _ k => ge_int (k _ _ _ q)
theorem q_neg (q : ∀ t, Q (.int (-a) t) h) : wq c A (unaryOp .USub (.int a t)) Q h := wq.of fun _ _ k => neg_int (k _ _ _ (q _))
end ops

section tests
variable {c : Cx} {A : Around} {h : Heap} {env : Env} {pos : Pos} {Q : Bool → Heap → Prop} {whole : Sem Value}
theorem t_Compare {l r : Expr} {op : CmpOp} (hm : behindInMarks op r = false)
    (H : wq c A (eval l env) (fun a h₁ => wq c A (eval r env) (fun b h₂ => wq c A (compareOp op a b) (fun z h₃ => wq c A (truthy z) Q h₃) h₂) h₁) h) :
    wq c A (isTrue (.Compare l [op] [r] pos) env whole) Q h := wq.of fun _ _ k => wpAny_isTrue_Compare1 (H.go fun _ _ _ H₁ => H₁.go fun _ _ _ H₂ => H₂.go fun _ _ _ H₃ => H₃.go k) hm
theorem t_bool {b : Bool} (q : Q b h) : wq c A (truthy (.bool b)) Q h := wq.of fun _ _ k => wpAny_truthy_bool (k _ _ _ q)
theorem t_not {e : Expr} (H : wq c A (isTrue e env (eval e env)) (fun z h₁ => Q (!z) h₁) h) : wq c A (isTrue (.UnaryOp .Not e pos) env whole) Q h := wq.of fun _ _ k => isTrue_not (H.go fun _ _ _ q => k _ _ _ q)
end tests

section stmts
variable {c : Cx} {A : Around} {h h₀ : Heap} {env : Env} {pos : Pos} {Q : Flow → Heap → Prop} {L a : Addr} {cn : Str} {cs : Scope} {ccd : Value} {cl : List (Str × Addr)} {l : List (Str × Value)} {news : List (Addr × Obj)}
theorem s_nil (q : Q .next h) : wq c A (execs [] env) Q h := wq.of fun _ _ k => wpAny_execs_nil (k _ _ _ q)
theorem s_cons {s : Stmt} {rest : List Stmt} (H : wq c A (exec s env) (fun f h₁ => match f with | .next => wq c A (execs rest env) Q h₁ | f => Q f h₁) h) : wq c A (execs (s :: rest) env) Q h :=
  wq.of fun _ _ k => wpAny_execs_cons (H.go fun f _ _ H₁ => by cases f <;> first | exact H₁.go k | exact k _ _ _ H₁)
theorem s_Assign {x : Str} {p' : Pos} {e : Expr} (hs : swapsWith e (some (.Name x p')) pos.line env = pure false)
    (H : wq c A (eval e env) (fun v h₁ => wq c A (storeName env x v) (fun _ h₂ => Q .next h₂) h₁) h) : wq c A (exec (.Assign [.Name x p'] e pos) env) Q h :=
  wq.of fun _ _ k => wpAny_Assign_Name (H.go fun _ _ _ H₁ => H₁.go fun _ _ _ q => k _ _ _ q) hs
theorem s_store {x : Str} {v : Value} {Q : Unit → Heap → Prop} (F : Fr h₀ L h (lk l)) (N : News h₀ L h news) (hk : cs.kind = .function) (hx : (envX cn cs L a ccd cl).kindOf x = some .local)
    (q : ∀ h', Fr h₀ L h' (lk ((x, v) :: l)) → News h₀ L h' news → Q () h') : wq c A (storeName (envX cn cs L a ccd cl) x v) Q h :=
  wq.of fun _ _ k => storeX_L F N (fun h' F' N' => k _ _ _ (q h' (lk_cons x v l ▸ F') N')) hk hx
theorem s_Return {e : Expr} (H : wq c A (eval e env) (fun v h₁ => Q (.ret v) h₁) h) : wq c A (exec (.Return (some e) pos) env) Q h := wq.of fun _ _ k => wpAny_Return_some (H.go fun _ _ _ q => k _ _ _ q)
theorem s_If {t : Expr} {b o : List Stmt} (H : wq c A (isTrue t env (eval t env)) (fun z h₁ => if z = true then wq c A (execs b env) Q h₁ else wq c A (execs o env) Q h₁) h) : wq c A (exec (.If t b o pos) env) Q h :=
  wq.of fun _ _ k => wpAny_If (H.go fun z _ _ H₁ => by cases z <;> exact H₁.go k)
theorem s_Break (q : Q .brk h) : wq c A (exec (.Break pos) env) Q h := wq.of fun _ _ k => by
  rw [arm_exec_Break]; exact wpAny_bind (wpAny_standAt (wpAny_pure (k _ _ _ q)))
end stmts

/-- room for d more frames and u more units -/
structure Room (A : Around) (d u : Nat) : Prop where
  handled : A.handled = none
  depth : A.depth + d < 1000
  units : A.units + u < 9900
theorem Room.deeper {A : Around} {d u : Nat} {env : Env} (r : Room A (d + 1) (u + 3)) : Room (A.deeper env) d u := ⟨r.handled, by have := r.depth; show A.depth + 1 + d < 1000; omega, by have := r.units; show A.units + 3 + u < 9900; omega⟩
theorem Room.in1 {A : Around} {d u : Nat} (r : Room A d (u + 1)) : Room A.in1 d u := ⟨r.handled, r.depth, by have := r.units; show A.units + 1 + u < 9900; omega⟩
theorem Room.le {A : Around} {d u d' u' : Nat} (r : Room A d u) (hd : d' ≤ d) (hu : u' ≤ u) : Room A d' u' := ⟨r.handled, by have := r.depth; omega, by have := r.units; omega⟩
theorem Room.ok {A : Around} {d u : Nat} (r : Room A d u) : A.depth < recursionLimit := by have := r.depth; show A.depth < 1000; omega
theorem Room.cl {A : Around} {d u : Nat} (r : Room A d u) : A.units < cLine := by have := r.units; show A.units < 9900; omega
end Mine
end
section
open PySem PySem.W PyProof.Rows PySem.Calls
set_option Elab.async false
set_option maxRecDepth 100000
set_option linter.unusedVariables false
namespace Mine

/-- what every heap of the run holds: the written part, the module's names, the built-ins -/
structure Gd (K : Frag) (mg mb : Str → Option Value) (h : Heap) : Prop where
  X : K.In h
  g : h.Ns mainGlobals mg
  b : h.Ns builtinsNs mb
  bi : ∀ x : Str, x ≠ "__name__" → mb x = bootBuiltins x
  lim : h.NoLimit
theorem Gd.keeps {K : Frag} {mg mb : Str → Option Value} {h h' : Heap} (G : Gd K mg mb h) (k : Keep h h') : Gd K mg mb h' :=
  ⟨G.X.keeps k, G.g.keeps k, G.b.keeps k, G.bi, G.lim.keeps k⟩

section names
variable {c : Cx} {A : Around} {h h₀ : Heap} {L a : Addr} {cn : Str} {cs : Scope} {ccd : Value} {cl : List (Str × Addr)} {x : Str} {pos : Pos} {v : Value} {Q : Value → Heap → Prop} {K : Frag} {mg mb : Str → Option Value}
theorem q_global (G : Gd K mg mb h) (e : nsIn K mainGlobals x = some (some v)) (hk : cs.kind = .function) (hx : (envX cn cs L a ccd cl).kindOf x = some .globalImplicit) (hd : (x == ("__debug__" : Str)) = false) (q : Q v h) :
    wq c A (eval (.Name x pos) (envX cn cs L a ccd cl)) Q h :=
  wq.of fun _ _ k => Name_function_global hk hx (loadGlobal_global (env := envX cn cs L a ccd cl) G.g (mg_of G.X G.g e) (k _ _ _ q)) hd
theorem q_builtin (G : Gd K mg mb h) (e : nsIn K mainGlobals x = some none) (hv : bootBuiltins x = some v) (hn : x ≠ "__name__") (hk : cs.kind = .function) (hx : (envX cn cs L a ccd cl).kindOf x = some .globalImplicit) (hd : (x == ("__debug__" : Str)) = false) (q : Q v h) :
    wq c A (eval (.Name x pos) (envX cn cs L a ccd cl)) Q h :=
  wq.of fun _ _ k => Name_function_global hk hx (loadGlobal_builtin (env := envX cn cs L a ccd cl) G.g (mg_none_of G.X G.g e) G.b ((G.bi x hn).trans hv) (k _ _ _ q)) hd
theorem q_free {cA : Addr} {o : Obj} (hc : cl.lookup x = some cA) (ho : h.get? cA = some o) (hd : o.data = .cell (some v)) (hk : cs.kind = .function) (hx : (envX cn cs L a ccd cl).kindOf x = some .free)
    (hb : (x == ("__debug__" : Str)) = false) (hn : (x == ("__classdict__" : Str)) = false) (q : Q v h) : wq c A (eval (.Name x pos) (envX cn cs L a ccd cl)) Q h :=
  wq.of fun _ _ k => wpAny_Name (wpAny_loadName_free hk hx hc ⟨o, ho, hd⟩ (k _ _ _ q) hn) hb
theorem q_cell {cA : Addr} {o : Obj} (hc : cl.lookup x = some cA) (ho : h.get? cA = some o) (hd : o.data = .cell (some v)) (hk : cs.kind = .function) (hx : (envX cn cs L a ccd cl).kindOf x = some .cell)
    (hb : (x == ("__debug__" : Str)) = false) (q : Q v h) : wq c A (eval (.Name x pos) (envX cn cs L a ccd cl)) Q h :=
  wq.of fun _ _ k => wpAny_Name (wpAny_loadName_cell hk hx hc ⟨o, ho, hd⟩ (k _ _ _ q)) hb
end names

section calls
variable {c : Cx} {A : Around} {h h₀ : Heap} {env : Env} {pos p : Pos} {Q : Value → Heap → Prop}
theorem a_nil {Q : List Value → Heap → Prop} (q : Q [] h) : wq c A (spliced (backTo pos (starEach [] env))) Q h := wq.of fun _ _ k => spliced_nil (k _ _ _ q)
theorem a_cons {e : Expr} {rest : List Expr} {Q : List Value → Heap → Prop} (he : starEach (e :: rest) env = (false, eval e env) :: starEach rest env)
    (H : wq c A (eval e env) (fun v h₁ => wq c A (spliced (backTo pos (starEach rest env))) (fun vs h₂ => Q (v :: vs) h₂) h₁) h) : wq c A (spliced (backTo pos (starEach (e :: rest) env))) Q h :=
  wq.of fun _ _ k => by
    rw [he]
    exact spliced_cons (H.go fun _ _ _ H₁ => H₁.go fun _ _ _ q => k _ _ _ q)
theorem q_CallN {f : Str} {args : List Expr} (H : wq c A (eval (.Name f p) env) (fun fv h₁ => wq c A (callWith pos fv [] (backTo pos (starEach args env)) []) Q h₁) h) :
    wq c A (eval (.Call (.Name f p) args [] pos) env) Q h :=
  wq.of fun _ _ k => wpAny_Call_Name_kw (H.go fun _ _ _ H₁ => H₁.go k)
theorem q_CallS {v i : Expr} {args : List Expr} (H : wq c A (eval (.Subscript v i p) env) (fun fv h₁ => wq c A (callWith pos fv [] (backTo pos (starEach args env)) []) Q h₁) h) :
    wq c A (eval (.Call (.Subscript v i p) args [] pos) env) Q h := by
  show wq c A (do callWith pos (← eval (.Subscript v i p) env) [] (backTo pos (starEach args env)) (backToKw pos (keywordEach [] env))) Q h
  exact wq.bind H

def plainKeeper : Keeper → Prop
  | .frame | .machine | .boundFrame => True
  | .caller => False
theorem callWith_go {f : Value} {first : List Value} {args : List Expr} (hpl : (backTo pos (starEach args env)).any (·.1) = false) (hev : wq c A (evalArgs f true (backTo pos (starEach args env)) []) (fun a h₁ => (∃ k, plainKeeper k ∧ Looks c.M h₁ (keeperOf f) k) ∧ wq c A (call f (first ++ a.pos) a.kw) Q h₁) h) :
    wq c A (callWith pos f first (backTo pos (starEach args env)) []) Q h := wq.of fun tk Q' k =>
  callWith_of (P := fun h₁ => ∃ k, plainKeeper k ∧ Looks c.M h₁ (keeperOf f) k) (by simp [hpl]) (fun h₁ ⟨kk, hp, L⟩ => ⟨kk, by cases kk <;> simp_all [plainKeeper], L⟩)
    (hev.go fun a h₁ tk₁ H => ⟨H.1, H.2.go k⟩)
theorem q_callWith {f : Value} {first : List Value} {e : Expr} {rest : List Expr} (he : starEach (e :: rest) env = (false, eval e env) :: starEach rest env) (hpl : (backTo pos (starEach (e :: rest) env)).any (·.1) = false)
    (H : wq c A (spliced (backTo pos (starEach (e :: rest) env))) (fun vs h₁ => (∃ k, plainKeeper k ∧ Looks c.M h₁ (keeperOf f) k) ∧ wq c A (call f (first ++ vs)) Q h₁) h) :
    wq c A (callWith pos f first (backTo pos (starEach (e :: rest) env)) []) Q h := by
  refine callWith_go hpl (wq.of fun tk Q' k => ?_)
  have H' := H
  rw [he] at H' ⊢
  exact evalArgs_plain (H'.go fun vs h₁ tk₁ q => k _ _ _ q)
theorem q_callWith0 {f : Value} {first : List Value} (hk : ∃ k, plainKeeper k ∧ Looks c.M h (keeperOf f) k) (H : wq c A (call f (first ++ [])) Q h) :
    wq c A (callWith pos f first (backTo pos (starEach [] env)) []) Q h :=
  callWith_go rfl (wq.of fun tk Q' k => evalArgs_nil3 (k _ _ _ ⟨hk, H⟩))
theorem kp_fn {a : Addr} {o : Obj} {fd : FuncData} (ho : h.get? a = some o) (hd : o.data = .func fd) : ∃ k, plainKeeper k ∧ Looks c.M h (keeperOf (.ref a)) k :=
  ⟨.frame, trivial, (Looks.ld (part := none) ho).andThen (by rw [hd]; exact .now)⟩
theorem kp_type {n : String} : ∃ k, plainKeeper k ∧ Looks c.M h (keeperOf (.type n)) k := ⟨.machine, trivial, .now⟩
theorem kp_bi {n : String} : ∃ k, plainKeeper k ∧ Looks c.M h (keeperOf (.builtin n)) k := ⟨.machine, trivial, .now⟩
end calls

section entry
variable {c : Cx} {A : Around} {h : Heap} {f : Addr} {vs : List Value} {Q : Value → Heap → Prop} {o : Obj} {name qual : Str} {params : Arguments} {body : List Stmt} {scope : Scope} {cl : List (Str × Addr)} {dV kV doc pm cdv ct : Value} {an : Option Addr} {binds : List (Str × Value)} {d u : Nat}
theorem q_def (r : Room A (d + 1) (u + 3)) (ho : h.get? f = some o) (hd : o.data = .func (fnX name qual params body scope cl dV kV doc pm an cdv ct)) (hlim : h.NoLimit) (hcd : h.CodeRec cdv qual)
    (hb : ∀ s : Shared, s.heap = h → BindsTo s (fnX name qual params body scope cl dV kV doc pm an cdv ct) ⟨vs, []⟩ binds)
    (hcell : ∀ x ∈ scope.names, x.2 ≠ .cell) (hloc : ∀ x ∈ binds, scope.names.lookup x.1 = some .local)
    (hco : scope.isCoroutine = false) (hgen : scope.isGenerator = false) (hk : scope.kind = .function)
    (H : ∀ L h₁, Fr h L h₁ (lk binds.reverse) → News h L h₁ [] → Room (A.deeper (envX qual scope L f cdv cl)) d u →
      wq c (A.deeper (envX qual scope L f cdv cl)) (execs body (envX qual scope L f cdv cl)) (fun fl h' => Q (match fl with | .ret v => v | _ => .none) h') h₁) :
    wq c A (call (.ref f) vs) Q h := wq.of fun tk Q' k =>
  wpAny_call (codeAny_call_def (fd := fnX name qual params body scope cl dV kV doc pm an cdv ct) (body := body) (binds := binds) r.ok ho hd hlim hcd rfl (hb _ rfl) hcell hloc
    (fun h₁ hns hkp => wpAny_mono ((H h.objs.size h₁ ⟨hns, hkp, Nat.le_refl _⟩ News.nil r.deeper).go (E := fun _ _ => False) fun v h' tk' q => k _ _ _ q) (fun _ _ x => x) fun _ _ x => x.elim) hco hgen hk)
end entry
end Mine
end
section
open PySem PySem.W PyProof.Rows PySem.Calls PySem.W.X
set_option Elab.async false
set_option maxRecDepth 100000
set_option linter.unusedVariables false
namespace Mine

section led
variable {h h' h₀ : Heap} {L a : Addr} {m : Str → Option Value} {news : List (Addr × Obj)} {o o' : Obj} {i : Nat}
theorem led_start {h₁ : Heap} (F : Fr h L h₁ m) : Led h L m h₁ [] := ⟨F, News.nil, List.Pairwise.nil⟩
theorem led_put (D : Led h₀ L m h news) (hi : news[i]? = some (a, o)) (hs : Heap.SameBut a h h') (ho' : h'.get? a = some o') : Led h₀ L m h' (news.set i (a, o')) := by
  have sp := pairwise_split hi
  have z := D.nw (a, o) (List.mem_of_getElem? hi)
  have ord' := D.ord
  rw [sp, List.map_append, List.map_cons] at ord'
  have p1 : ∀ p ∈ news.take i, p.1 ≠ a := fun p hp => Nat.ne_of_gt ((List.pairwise_append.mp ord').2.2 p.1 (List.mem_map_of_mem hp) a (.head _))
  have p2 : ∀ p ∈ news.drop (i + 1), p.1 ≠ a := fun p hp => Nat.ne_of_lt ((List.pairwise_cons.mp (List.pairwise_append.mp ord').2.1).1 p.1 (List.mem_map_of_mem hp))
  have N := D.nw
  rw [sp] at N
  have e : news.set i (a, o') = news.take i ++ (a, o') :: news.drop (i + 1) := by
    obtain ⟨hl, _⟩ := List.getElem?_eq_some_iff.mp hi
    exact List.set_eq_take_append_cons_drop.trans (if_pos hl)
  refine ⟨D.fr.change hs z.2.1 z.2.2, ?_, ?_⟩
  · rw [e]; exact news_set N p1 p2 hs ho'
  · rw [e, List.map_append, List.map_cons]; exact ord'
theorem led_push (D : Led h₀ L m h news) (o : Obj) (hf : o.isFreed = false) : Led h₀ L m (h.push o) ((h.objs.size, o) :: news) := by
  refine ⟨D.fr.push o, D.nw.push D.fr o hf, List.Pairwise.cons (fun b hb => ?_) D.ord⟩
  obtain ⟨⟨b', ob⟩, hp, rfl⟩ := List.mem_map.mp hb
  exact Heap.lt_size (D.nw.get hp)
theorem led_grow (D : Led h₀ L m h news) (k : Keep h h') : Led h₀ L m h' news := ⟨D.fr.keeps k, D.nw.grown k, D.ord⟩
theorem led_sub {news' : List (Addr × Obj)} (D : Led h₀ L m h news) (s : news'.Sublist news) : Led h₀ L m h news' :=
  ⟨D.fr, fun p hp => D.nw p (s.subset hp), D.ord.sublist (s.map _)⟩
theorem led_tail {p : Addr × Obj} (D : Led h₀ L m h (p :: news)) : Led h₀ L m h news := led_sub D (List.sublist_cons_self ..)
theorem led_keep (D : Led h₀ L m h news) : Keep h₀ h := D.fr.keep
/-- the object at one address is lost, all else stands -/
theorem led_lose (D : Led h₀ L m h news) (hi : news[i]? = some (a, o)) (hs : Heap.ExtBut a h h') : Led h₀ L m h' (news.eraseIdx i) := by
  have sp := pairwise_split hi
  have z := D.nw (a, o) (List.mem_of_getElem? hi)
  have ord' := D.ord
  rw [sp, List.map_append, List.map_cons] at ord'
  have p1 : ∀ p ∈ news.take i, p.1 ≠ a := fun p hp => Nat.ne_of_gt ((List.pairwise_append.mp ord').2.2 p.1 (List.mem_map_of_mem hp) a (.head _))
  have p2 : ∀ p ∈ news.drop (i + 1), p.1 ≠ a := fun p hp => Nat.ne_of_lt ((List.pairwise_cons.mp (List.pairwise_append.mp ord').2.1).1 p.1 (List.mem_map_of_mem hp))
  have e : news.eraseIdx i = news.take i ++ news.drop (i + 1) := List.eraseIdx_eq_take_drop_succ ..
  have F : Fr h₀ L h' m := by
    refine ⟨D.fr.ns.extBut hs (Ne.symm z.2.1), fun b ob eb => hs b ob (fun q => ?_) (D.fr.keep b ob eb), D.fr.above⟩
    subst q; rw [z.2.2] at eb; cases eb
  refine ⟨F, fun p hp => ?_, D.ord.sublist ((List.eraseIdx_sublist ..).map _)⟩
  have hp' := hp
  rw [e] at hp'
  have ne : p.1 ≠ a := (List.mem_append.mp hp').elim (p1 p) (p2 p)
  have zp := D.nw p ((List.eraseIdx_sublist ..).subset hp)
  exact ⟨hs _ _ ne zp.1, zp.2⟩
theorem led_store {x : Str} {v : Value} {l : List (Str × Value)} (D : Led h₀ L (lk l) h news) (F : Fr h₀ L h' (lk ((x, v) :: l))) (N : News h₀ L h' news) : Led h₀ L (lk ((x, v) :: l)) h' news := ⟨F, N, D.ord⟩
end led

section rules
variable {c : Cx} {A : Around} {h h₀ : Heap} {L a : Addr} {cn : Str} {cs : Scope} {ccd : Value} {cl : List (Str × Addr)} {l : List (Str × Value)} {m : Str → Option Value} {x : Str} {pos : Pos} {v : Value} {Q : Value → Heap → Prop} {env : Env} {news : List (Addr × Obj)}
theorem d_local (D : Led h₀ L (lk l) h news) (hv : lk l x = some v) (hk : cs.kind = .function) (hx : (envX cn cs L a ccd cl).kindOf x = some .local) (hd : (x == ("__debug__" : Str)) = false) (q : Q v h) :
    wq c A (eval (.Name x pos) (envX cn cs L a ccd cl)) Q h := q_local D.fr hv hk hx hd q
theorem d_store {Q : Unit → Heap → Prop} (D : Led h₀ L (lk l) h news) (hk : cs.kind = .function) (hx : (envX cn cs L a ccd cl).kindOf x = some .local)
    (q : ∀ h', Led h₀ L (lk ((x, v) :: l)) h' news → Q () h') : wq c A (storeName (envX cn cs L a ccd cl) x v) Q h :=
  s_store D.fr D.nw hk hx fun h' F N => q h' (led_store D F N)
theorem d_global {K : Frag} {mg mb : Str → Option Value} (D : Led h₀ L m h news) (G : Gd K mg mb h₀) (e : nsIn K mainGlobals x = some (some v)) (hk : cs.kind = .function) (hx : (envX cn cs L a ccd cl).kindOf x = some .globalImplicit) (hd : (x == ("__debug__" : Str)) = false) (q : Q v h) :
    wq c A (eval (.Name x pos) (envX cn cs L a ccd cl)) Q h := q_global (G.keeps D.fr.keep) e hk hx hd q
theorem d_builtin {K : Frag} {mg mb : Str → Option Value} (D : Led h₀ L m h news) (G : Gd K mg mb h₀) (e : nsIn K mainGlobals x = some none) (hv : bootBuiltins x = some v) (hn : x ≠ "__name__") (hk : cs.kind = .function) (hx : (envX cn cs L a ccd cl).kindOf x = some .globalImplicit) (hd : (x == ("__debug__" : Str)) = false) (q : Q v h) :
    wq c A (eval (.Name x pos) (envX cn cs L a ccd cl)) Q h := q_builtin (G.keeps D.fr.keep) e hv hn hk hx hd q
theorem d_newList {vs : List Value} (D : Led h₀ L m h news) (hsz : vs.length ≤ sizeLine) (q : ∀ l' h', Led h₀ L m h' ((l', listOf vs.toArray 0) :: news) → Q (.ref l') h') : wq c A (newList vs) Q h :=
  wq.of fun _ _ k => wpAny_newList (k _ _ _ (q _ _ (led_push D _ rfl))) hsz
theorem q_List {elts : List Expr} (H : wq c A (spliced (backTo pos (starEach elts env))) (fun vs h₁ => wq c A (newList vs) Q h₁) h) : wq c A (eval (.List elts pos) env) Q h :=
  wq.of fun _ _ k => List_ (H.go fun _ _ _ H₁ => H₁.go k)
theorem q_Subscript {e i : Expr} (H : wq c A (eval e env) (fun o h₁ => wq c A (eval i env) (fun i' h₂ => wq c A (subscriptTail e i o i') Q h₂) h₁) h) : wq c A (eval (.Subscript e i pos) env) Q h :=
  wq.of fun _ _ k => Subscript_ (H.go fun _ _ _ H₁ => H₁.go fun _ _ _ H₂ => H₂.go k)
theorem q_itemL {e i : Expr} {l' : Addr} {vs : List Value} {n : Int} {u : Tok} (hs : subscripted i false (.ref l') (.int n u) = operate [.ref l', .int n u] (getItem (.ref l') (.int n u))) (hl : h.IsList l' vs.toArray) (h0 : 0 ≤ n) (h1 : n < 2 ^ 63) (hx : vs[n.toNat]? = some v) (q : Q v h) :
    wq c A (subscriptTail e i (.ref l') (.int n u)) Q h :=
  wq.of fun _ _ k => tail_any hl.typeIs slot_list_getitem.lookup (wpAny_getItem_list hl h0 h1 (by simpa using hx) (k _ _ _ q)) hs
theorem isList_of {o : Addr} {its : Array Value} {n : Nat} (e : h.get? o = some (listOf its n)) : h.IsList o its := ⟨_, e, rfl, n, rfl⟩
theorem led_isList {i : Nat} {its : Array Value} {n : Nat} {l' : Addr} (D : Led h₀ L m h news) (hi : news[i]? = some (l', listOf its n)) : h.IsList l' its := isList_of (D.at i hi)
end rules

section loops
variable {c : Cx} {A : Around} {h h₀ : Heap} {L : Addr} {m : Str → Option Value} {news : List (Addr × Obj)} {target iter : Expr} {body orelse : List Stmt} {env : Env} {pos : Pos} {Q : Flow → Heap → Prop} {it : Value}
/-- the loop's code from here on ends in Q -/
def wqL (c : Cx) (A : Around) (target : Expr) (it : Value) (body orelse : List Stmt) (env : Env) (Q : Flow → Heap → Prop) (h : Heap) : Prop :=
  ∀ tk, codeAny c.M A (.forLoop target it body orelse env) (fun r s' => match r with | .ok f => ∃ h' tk', s' = c.st h' tk' ∧ Q f h' | .error _ => False) (c.st h tk)
theorem s_For (hs : ∀ x, foldedSetIterable iter env x = pure x) (H : wq c A (eval iter env) (fun x h₁ => wq c A (pyIter x) (fun it h₂ => wqL c A target it body orelse env Q h₂) h₁) h) : wq c A (exec (.For target iter body orelse pos) env) Q h :=
  wq.of fun _ Q' k => wpAny_For (H.go fun _ _ _ H₁ => H₁.go fun _ _ tk H₂ => codeAny_mono (H₂ tk) fun r s' hr => by
    cases r with
    | ok f => obtain ⟨h', tk', rfl, q⟩ := hr; exact k _ _ _ q
    | error e => exact hr.elim) hs
theorem l_turn (H : wq c A (pyNext it) (fun r h₁ => match r with
      | none => wq c A (execs orelse env) Q h₁
      | some v => wq c A (letOwnedTupleGo target it v) (fun _ h₁' => wq c A (assign target env v) (fun _ h₂ => wq c A (execs body env) (fun f h₃ => match f with
          | .next | .cont => wqL c A target it body orelse env Q h₃
          | .brk => Q .next h₃
          | .ret v => Q (.ret v) h₃) h₂) h₁') h₁) h) : wqL c A target it body orelse env Q h := by
  intro tk
  refine codeAny_of_tree ?_
  rw [Around.under_of_weight (by rfl)]
  show wpAny _ A ((forTurn target it body orelse env).onRaise (fun x => do noteFrame x env; theTreesLotGoes x)) _ _ _
  refine wpAny_onRaise ?_
  have key : wq c A (forTurn target it body orelse env) (fun fin h' => match fin with
      | .done f => Q f h'
      | .again c' => (c' = .forLoop target it body orelse env ∧ wqL c A target it body orelse env Q h') ∨ (c' = .block orelse env ∧ wq c A (execs orelse env) Q h')) h := by
    unfold forTurn
    refine wq.bind (wq.standAt (wq.bind (wq.of fun tk Q' k => wpAny_onRaise ?_)))
    refine H.go fun r h₁ tk₁ H₁ => k _ _ _ ?_
    cases r with
    | none => exact wq.pure (.inr ⟨rfl, H₁⟩)
    | some v =>
      refine wq.bind (wq.mono H₁ fun _ h₁' H₂ => wq.bind (wq.mono H₂ fun _ h₂ H₃ => wq.bind (wq.mono H₃ fun f h₃ H₄ => ?_)))
      cases f with
      | next => exact wq.pure (.inl ⟨rfl, H₄⟩)
      | cont => exact wq.pure (.inl ⟨rfl, H₄⟩)
      | brk => exact wq.pure H₄
      | ret v => exact wq.pure H₄
  refine key.go fun fin h' tk' hf => ?_
  cases fin with
  | done f => exact ⟨h', tk', rfl, hf⟩
  | again c' =>
    rcases hf with ⟨rfl, hf⟩ | ⟨rfl, hf⟩
    · exact ⟨rfl, hf tk'⟩
    · refine ⟨rfl, codeAny_block (wpAny_mono (hf.go (E := fun _ _ => False) fun f h₂ tk₂ q => ⟨h₂, tk₂, rfl, q⟩) (fun _ _ x => x) fun _ _ x => x.elim)⟩
end loops
end Mine
end
section
open PySem PySem.W PyProof.Rows PySem.Calls PySem.W.X
set_option Elab.async false
set_option maxRecDepth 100000
set_option linter.unusedVariables false
namespace Mine

/-! iterators on the ledger -/
abbrev rI (x left step : Int) : Obj := { cls := .type "range_iterator", data := .fields #[rawInt x, rawInt left, rawInt step] }
abbrev rO (a b c : Int) (t u v : Tok) : Obj := { cls := .type "range", data := .fields #[.int a t, .int b u, .int c v] }
def IsTI (o : Obj) (t : Addr) (i : Nat) : Prop := o.cls = .type "tuple_iterator" ∧ o.data = .fields #[.ref t, .int i 0]
def IsLI (o : Obj) (t : Addr) (i : Nat) : Prop := o.cls = .type "list_iterator" ∧ o.data = .fields #[.ref t, .int i 0]
section iters
variable {c : Cx} {A : Around} {h h₀ : Heap} {L : Addr} {m : Str → Option Value} {news : List (Addr × Obj)} {j i : Nat} {I t : Addr} {o : Obj} {items : Array Value} {x : Value}

theorem c_range1 {n : Int} {t : Tok} {Q : Value → Heap → Prop} (D : Led h₀ L m h news) (q : ∀ r t u v h', Led h₀ L m h' ((r, rO 0 n 1 t u v) :: news) → Q (.ref r) h') : wq c A (call (.type "range") [.int n t]) Q h :=
  wq.of fun _ _ k => call_range_1 (k _ _ _ (q _ _ _ _ _ (led_push D _ rfl)))
theorem c_range2 {a b : Int} {t u : Tok} {Q : Value → Heap → Prop} (D : Led h₀ L m h news) (q : ∀ r t u v h', Led h₀ L m h' ((r, rO a b 1 t u v) :: news) → Q (.ref r) h') : wq c A (call (.type "range") [.int a t, .int b u]) Q h :=
  wq.of fun _ _ k => call_range_2 (k _ _ _ (q _ _ _ _ _ (led_push D _ rfl)))
theorem c_range3 {a b e : Int} {t u v : Tok} {Q : Value → Heap → Prop} (D : Led h₀ L m h news) (he : e ≠ 0) (hp : Builtin.divisionGoesByPylong (b - a) e = false) (q : ∀ r t u v h', Led h₀ L m h' ((r, rO a b e t u v) :: news) → Q (.ref r) h') : wq c A (call (.type "range") [.int a t, .int b u, .int e v]) Q h :=
  wq.of fun _ _ k => call_range_3 he (k _ _ _ (q _ _ _ _ _ (led_push D _ rfl))) (.inl hp)
theorem i_range {r : Addr} {a b e : Int} {t u v : Tok} {n : Int} {Q : Value → Heap → Prop} (D : Led h₀ L m h news) (hi : news[j]? = some (r, rO a b e t u v)) (hs : Builtin.Range.small a b e = true) (hn : Builtin.Range.rangeSize a b e = n)
    (q : ∀ I h', Led h₀ L m h' ((I, rI a n e) :: news) → Q (.ref I) h') : wq c A (pyIter (.ref r)) Q h :=
  wq.of fun _ _ k => wpAny_pyIter_range (t := t) (u := u) (v := v) (D.at j hi) hs (k _ _ _ (q _ _ (by rw [hn]; exact led_push D _ rfl)))
theorem n_range {a n e a' n' : Int} {Q : Option Value → Heap → Prop} (D : Led h₀ L m h news) (hi : news[j]? = some (I, rI a n e)) (hn : 0 < n) (ha : a + e = a') (hn' : n - 1 = n')
    (q : ∀ t h', Led h₀ L m h' (news.set j (I, rI a' n' e)) → Q (some (.int a t)) h') : wq c A (pyNext (.ref I)) Q h :=
  wq.of fun _ _ k => wpAny_pyNext_range_item (D.at j hi) hn fun h' hit hs => k _ _ _ (q _ _ (by rw [← ha, ← hn']; exact led_put D hi hs hit))
theorem n_rangeEnd {a n e : Int} {Q : Option Value → Heap → Prop} (hh : A.handled = none) (D : Led h₀ L m h news) (hi : news[j]? = some (I, rI a n e)) (hn : n ≤ 0)
    (q : ∀ h', Led h₀ L m h' (news.eraseIdx j) → Q none h') : wq c A (pyNext (.ref I)) Q h :=
  wq.of fun _ _ k => wpAny_pyNext_range_end hh (D.at j hi) hn fun h' hs => k _ _ _ (q _ (led_lose D hi hs))

theorem i_tuple {Q : Value → Heap → Prop} (D : Led h₀ L m h news) (ht : h.IsTuple t items) (q : ∀ I o h', IsTI o t 0 → Led h₀ L m h' ((I, o) :: news) → Q (.ref I) h') : wq c A (pyIter (.ref t)) Q h :=
  wq.of fun _ _ k => wpAny_pyIter_tuple ht (k _ _ _ (q _ _ _ ⟨rfl, rfl⟩ (led_push D _ rfl)))
theorem n_tuple {Q : Option Value → Heap → Prop} (D : Led h₀ L m h news) (hi : news[j]? = some (I, o)) (hI : IsTI o t i) (ht : h.IsTuple t items) (hx : items[i]? = some x)
    (q : ∀ o' h', IsTI o' t (i + 1) → Led h₀ L m h' (news.set j (I, o')) → Q (some x) h') : wq c A (pyNext (.ref I)) Q h :=
  wq.of fun _ _ k => wpAny_pyNext_tuple_item (it := I) (t := t) ⟨o, D.at j hi, hI⟩ ht hx fun h' ⟨o', ho', hI'⟩ hs => k _ _ _ (q o' _ hI' (led_put D hi hs ho'))
theorem n_tupleEnd {Q : Option Value → Heap → Prop} (hh : A.handled = none) (D : Led h₀ L m h news) (hi : news[j]? = some (I, o)) (hI : IsTI o t i) (ht : h.IsTuple t items) (hx : items[i]? = none)
    (q : ∀ h', Led h₀ L m h' (news.eraseIdx j) → Q none h') : wq c A (pyNext (.ref I)) Q h :=
  wq.of fun _ _ k => wpAny_pyNext_tuple_end hh (it := I) (t := t) ⟨o, D.at j hi, hI⟩ ht hx fun h' hs => k _ _ _ (q _ (led_lose D hi hs))
theorem i_list {Q : Value → Heap → Prop} (D : Led h₀ L m h news) (ht : h.IsList t items) (q : ∀ I o h', IsLI o t 0 → Led h₀ L m h' ((I, o) :: news) → Q (.ref I) h') : wq c A (pyIter (.ref t)) Q h :=
  wq.of fun _ _ k => wpAny_pyIter_list ht (k _ _ _ (q _ _ _ ⟨rfl, rfl⟩ (led_push D _ rfl)))
theorem n_list {Q : Option Value → Heap → Prop} (D : Led h₀ L m h news) (hi : news[j]? = some (I, o)) (hI : IsLI o t i) (ht : h.IsList t items) (hx : items[i]? = some x)
    (q : ∀ o' h', IsLI o' t (i + 1) → Led h₀ L m h' (news.set j (I, o')) → Q (some x) h') : wq c A (pyNext (.ref I)) Q h :=
  wq.of fun _ _ k => wpAny_pyNext_list_item (it := I) (l := t) ⟨o, D.at j hi, hI⟩ ht hx fun h' ⟨o', ho', hI'⟩ hs => k _ _ _ (q o' _ hI' (led_put D hi hs ho'))
theorem n_listEnd {Q : Option Value → Heap → Prop} (hh : A.handled = none) (D : Led h₀ L m h news) (hi : news[j]? = some (I, o)) (hI : IsLI o t i) (ht : h.IsList t items) (hx : items[i]? = none)
    (q : ∀ h', Led h₀ L m h' (news.eraseIdx j) → Q none h') : wq c A (pyNext (.ref I)) Q h :=
  wq.of fun _ _ k => wpAny_pyNext_list_end hh (it := I) (l := t) ⟨o, D.at j hi, hI⟩ ht hx fun h' hs => k _ _ _ (q _ (led_lose D hi hs))
/-- an iterator handed to a for again -/
theorem i_listiter {Q : Value → Heap → Prop} (D : Led h₀ L m h news) (hi : news[j]? = some (I, o)) (hI : IsLI o t i) (q : Q (.ref I) h) : wq c A (pyIter (.ref I)) Q h :=
  wq.of fun _ _ k => wpAny_pyIter_listiter (it := I) (l := t) (i := i) ⟨o, D.at j hi, hI⟩ (k _ _ _ q)
end iters

section assigns
variable {c : Cx} {A : Around} {h h₀ : Heap} {env : Env} {x : Str} {p pos : Pos} {v : Value} {Q : Unit → Heap → Prop}
theorem g_Name (H : wq c A (storeName env x v) Q h) : wq c A (assign (.Name x p) env v) Q h := wq.of fun _ _ k => wpAny_assign_Name (H.go k)
theorem g_own {it : Value} (q : Q () h) : wq c A (letOwnedTupleGo (.Name x p) it v) Q h := wq.of fun _ _ k => wpAny_pure (k _ _ _ q)
end assigns

/-! enumerate over a tuple -/
section enum
variable {prog : Program} {w : World} {A : Around} {E : Value → Shared → Prop} {s : Shared}
theorem nextOf_tuple {it t : Addr} {i : Nat} {items : Array Value} {x : Value} {Q : Value → Shared → Prop} (hit : s.heap.IsTupleIter it t i)
    (ht : s.heap.IsTuple t items) (hx : items[i]? = some x) (hQ : ∀ h', h'.IsTupleIter it t (i + 1) → Heap.SameBut it s.heap h' → Q x { s with heap := h' }) :
    wpAny (model prog w) A (Builtin.SmallTypes.nextOf (.ref it)) Q E s := by
  obtain ⟨o, ho, hc, hd⟩ := id hit
  obtain ⟨ol, hol, _, nl, hdl⟩ := ht
  unfold Builtin.SmallTypes.nextOf
  refine wpAny_bind (wpAny_callSpecial?_slot (name := Str.ofString "__next__") hit.typeIs F.slot_tuple_iterator_next
    (wpAny_call_entry F.slot_tuple_iterator_next hit.typeIs F.entry_tuple_iterator_next ?_ (F.args_tuple_iterator_next_1 _)))
  show wpAny _ _ (field (.ref it) 0 >>= _) _ _ s
  refine wpAny_bind (wpAny_field ho hd (x := .ref t) rfl ?_)
  show wpAny _ _ (if (Value.ref t == Value.none) = true then _ else _) _ _ s
  rw [if_neg (show ¬ ((Value.ref t == Value.none) = true) from Bool.false_ne_true)]
  show wpAny _ _ (field (.ref it) 1 >>= _) _ _ s
  refine wpAny_bind (wpAny_field ho hd (x := .int i 0) rfl ?_)
  show wpAny _ _ (seqItems? (.ref t) >>= _) _ _ s
  refine wpAny_bind (wpAny_seqItems hol hdl ?_)
  simp only [Int.toNat_natCast, hx]
  refine wpAny_bind (wpAny_setField ho hd (by simp) (wpAny_pure ⟨x, rfl, wpAny_pure (hQ _ ?_ (Heap.SameBut.update ..))⟩))
  exact ⟨_, Heap.get?_update_self _ ho (Obj.isFreed_of_fields (Obj.data_mapFields hd _)), (Obj.cls_mapFields ..).trans hc, by
    rw [Obj.data_mapFields hd]; simp [rawInt]⟩
theorem nextOf_tupleEnd {it t : Addr} {i : Nat} {items : Array Value} {Q : Value → Shared → Prop} (hh : A.handled = none)
    (hit : s.heap.IsTupleIter it t i) (ht : s.heap.IsTuple t items) (hx : items[i]? = none)
    (hE : ∀ h' e, Heap.ExtBut it s.heap h' → (∃ o, h'.get? e = some o ∧ o.cls = .type "StopIteration") → E (.ref e) { s with heap := h' }) :
    wpAny (model prog w) A (Builtin.SmallTypes.nextOf (.ref it)) Q E s := by
  obtain ⟨o, ho, hc, hd⟩ := id hit
  obtain ⟨ol, hol, _, nl, hdl⟩ := ht
  unfold Builtin.SmallTypes.nextOf
  refine wpAny_bind (wpAny_callSpecial?_slot (name := Str.ofString "__next__") hit.typeIs F.slot_tuple_iterator_next
    (wpAny_call_entry F.slot_tuple_iterator_next hit.typeIs F.entry_tuple_iterator_next ?_ (F.args_tuple_iterator_next_1 _)))
  show wpAny _ _ (field (.ref it) 0 >>= _) _ _ s
  refine wpAny_bind (wpAny_field ho hd (x := .ref t) rfl ?_)
  show wpAny _ _ (if (Value.ref t == Value.none) = true then _ else _) _ _ s
  rw [if_neg (show ¬ ((Value.ref t == Value.none) = true) from Bool.false_ne_true)]
  show wpAny _ _ (field (.ref it) 1 >>= _) _ _ s
  refine wpAny_bind (wpAny_field ho hd (x := .int i 0) rfl ?_)
  show wpAny _ _ (seqItems? (.ref t) >>= _) _ _ s
  refine wpAny_bind (wpAny_seqItems hol hdl ?_)
  simp only [Int.toNat_natCast, hx]
  refine wpAny_bind (wpAny_rule (wpAny_bind (wpAny_setField ho hd (by simp) ?_)))
  show wpAny _ _ (newExc (.type "StopIteration") [] >>= _) _ _ _
  refine wpAny_bind ?_
  simp only [newExc, newTuple]
  refine wpAny_bind (wpAny_newObj_type ?_ (by size_fits))
  refine wpAny_bind (m := firstArgMember _ _) (wpAny_of_eq (a := Value.none) (by first | rfl | (simp only [firstArgMember]; rfl)) ?_)
  refine wpAny_newObj_type ?_ (by size_fits)
  simp only [raiseNew]
  refine wpAny_bind (wpAny_handled ?_)
  first | rw [show A.in1.handled = none from hh] | rw [hh]
  refine wpAny_bind (wpAny_pure (wpAny_throw ?_))
  exact hE _ _ (((Heap.SameBut.update ..).extBut.push _).push _) ⟨_, Heap.get?_push_size _ rfl, rfl⟩
theorem drawsTuple {A : Around} (hh : A.handled = none) (it l : Addr) (hne : l ≠ it) (items : Array Value) :
    Draws prog w A it [it, l] items.size (fun i v => items[i]? = some v) (fun i h => h.IsTupleIter it l i ∧ h.IsTuple l items) where
  live := fun _ _ st => let ⟨o, ho, _⟩ := st.1; ⟨o, ho⟩
  frame := fun _ _ _ st hk => ⟨let ⟨o, ho, r⟩ := st.1; ⟨o, hk it (by simp) o ho, r⟩, let ⟨o, ho, r⟩ := st.2; ⟨o, hk l (by simp) o ho, r⟩⟩
  item := fun i s Q E hi st hQ => by
    refine nextOf_tuple st.1 st.2 (x := items[i]) (by simp [hi]) fun h' hit' hs' => ?_
    exact hQ _ h' s.toks (by simp [hi]) ⟨hit', st.2.extBut hs'.extBut hne⟩ hs'
  done := fun s Q E st hE => nextOf_tupleEnd hh st.1 st.2 (by simp) hE

open AutoSeq1 (wpAny_loadPart') in
theorem meets_enumT (l : Addr) (items : Array Value) (n : Nat) (dct : Option Addr) (sl : Array (Option Value)) :
    Meets (Builtin.«enumerate.__new__» ⟨[.type "enumerate", .ref l], []⟩) (fun _ R s => s.heap.get? l = some { cls := .type "tuple", dict := dct, data := .seq items n, slots := sl } ∧
      R (.ok (.ret (.ref (s.heap.push { cls := .type "tuple_iterator", data := .fields #[.ref l, .int 0 0] }).objs.size)))
        { s with heap := (s.heap.push { cls := .type "tuple_iterator", data := .fields #[.ref l, .int 0 0] }).push { cls := .type "enumerate", data := .fields #[.none, .bool false, .ref s.heap.objs.size, rawInt 0, .none, .none] } }) :=
  .of_wp fun prog w A R s h => by
    obtain ⟨hp, g, d, tk, os⟩ := s; obtain ⟨hl, h⟩ := h
    have hsub := sub_enumerate
    have hL : Heap.IsTuple (Shared.heap ⟨hp, g, d, tk, os⟩) l items := ⟨_, hl, rfl, n, rfl⟩
    wp_walk using wpAny_loadPart' hl
    refine wpAny_stack_any fun st => wpAny_pure ?_
    split
    · rename_i c _ _ _ _ _
      cases (c == Value.type "enumerate")
      · wp_walk using wpAny_loadPart' hl, wpAny_pyIter_tuple hL
        exact ⟨_, rfl, h⟩
      · wp_walk using wpAny_loadPart' hl, wpAny_pyIter_tuple hL
        exact ⟨_, rfl, h⟩
    · wp_walk using wpAny_loadPart' hl, wpAny_pyIter_tuple hL
      exact ⟨_, rfl, h⟩
abbrev enO (it : Addr) (i : Int) (old : Value) : Obj := { cls := .type "enumerate", data := .fields #[.none, .bool false, .ref it, rawInt i, .none, old] }
end enum
section enumw
variable {c : Cx} {A : Around} {h h₀ : Heap} {L : Addr} {m : Str → Option Value} {news : List (Addr × Obj)} {j i : Nat} {t e it : Addr} {items : Array Value} {x : Value}
theorem c_enum {dct : Option Addr} {sl : Array (Option Value)} {n : Nat} {Q : Value → Heap → Prop} (D : Led h₀ L m h news) (ht : h.get? t = some { cls := .type "tuple", dict := dct, data := .seq items n, slots := sl })
    (q : ∀ e it o h', IsTI o t 0 → Led h₀ L m h' ((e, enO it 0 .none) :: (it, o) :: news) → Q (.ref e) h') : wq c A (call (.type "enumerate") [.ref t]) Q h :=
  wq.of fun _ _ k => callType_new F.called_enumerate (by decide) (F.typeCall_enumerate_1 _) (F.newCall_enumerate_1 _) (fun obj => F.args_object_init_2 obj _) F.entry_enumerate_new
    (meets_enumT t items n dct sl) ⟨ht, ⟨⟨_, Heap.get?_push_size _ rfl, rfl⟩, k _ _ _ (q _ _ _ _ ⟨rfl, rfl⟩ (led_push (led_push D _ rfl) _ rfl))⟩⟩
theorem i_enum {i : Int} {old : Value} {Q : Value → Heap → Prop} (D : Led h₀ L m h news) (hi : news[j]? = some (e, enO it i old)) (q : Q (.ref e) h) : wq c A (pyIter (.ref e)) Q h :=
  wq.of fun _ _ k => wpAny_pyIter_enum (it := it) (i := i) (old := old) (D.at j hi) (k _ _ _ q)
/-- one turn of «for a, b in enumerate(tuple)»: the pair comes, and its two parts stand -/
theorem n_enum {o : Obj} {old : Value} {elts : List Expr} {k' : Nat} {pos : Pos} {body orelse : List Stmt} {env : Env} {Q : Flow → Heap → Prop} (hh : A.handled = none) (D : Led h₀ L m h ((e, enO it (i : Nat) old) :: (it, o) :: news)) (hI : IsTI o t i)
    (ht : ∀ h', Keep h₀ h' → h'.IsTuple t items) (ht0 : ∃ o, h₀.get? t = some o) (hx : items[i]? = some x) (hlen : (assignEach elts env).length = 2) (hstar : (assignEach elts env).findIdx? (·.1) = none)
    (q : ∀ u o' old' h', IsTI o' t (i + 1) → Led h₀ L m h' ((e, enO it ((i + 1 : Nat) : Int) old') :: (it, o') :: news) →
      wq c A (assignInOrder ((assignEach elts env).map (·.2)) [.int i u, x]) (fun _ h₂ => wq c A (execs body env) (fun f h₃ => match f with
          | .next | .cont => wqL c A (.Tuple elts k' pos) (.ref e) body orelse env Q h₃
          | .brk => Q .next h₃
          | .ret v => Q (.ret v) h₃) h₂) h') : wqL c A (.Tuple elts k' pos) (.ref e) body orelse env Q h := by
  have hil : i < items.size := (Array.getElem?_eq_some_iff.mp hx).1
  have g0 := D.at 0 (a := e) (o := enO it (i : Nat) old) rfl
  have g1 := D.at 1 (a := it) (o := o) rfl
  have hlt : it < e := (List.pairwise_cons.mp D.ord).1 it (by simp)
  obtain ⟨ot, hot⟩ := ht0
  have htL : t < h₀.objs.size := Heap.lt_size hot
  have z0 := D.nw (e, enO it (i : Nat) old) (by simp)
  have z1 := D.nw (it, o) (by simp)
  have hte : t ≠ e := fun q => by rw [q, z0.2.2] at hot; cases hot
  have hti : t ≠ it := fun q => by rw [q, z1.2.2] at hot; cases hot
  have W := WalksT.enumerateD (prog := c.prog) (w := c.w) (A := A) (drawsTuple (prog := c.prog) (w := c.w) (A := A.in1) hh it t hti items) e (Nat.ne_of_gt hlt) (by simp [Ne.symm hte, Nat.ne_of_gt hlt]) (by simp)
  refine l_turn (wq.of fun tk Q' kk => ?_)
  refine W.item i _ _ _ hil ⟨⟨old, g0⟩, ⟨o, g1, hI⟩, ht h D.fr.keep⟩ ?_
  rintro T vals h₁ tk₁ ⟨u, x', hx', rfl⟩ hT hTup ⟨⟨y, hout⟩, hst, hTe, hTi⟩ hk
  have : x' = x := by
    have e1 : items[i]? = some x' := hx'
    rw [hx] at e1; exact (Option.some.inj e1).symm
  subst this
  refine kk _ _ _ ?_
  refine wq.of fun tk₂ Q₂ kk₂ => ?_
  refine W.go elts k' pos i T _ _ _ ⟨⟨y, hout⟩, hst, hTe, hTi⟩ fun h₂ hst₂ hk₂ => kk₂ _ _ _ ?_
  obtain ⟨⟨old', he₂⟩, ⟨⟨o', ho', hI'⟩, ht₂⟩⟩ := hst₂
  have ke : ∀ b ob, b ≠ e → b ≠ it → h.get? b = some ob → h₂.get? b = some ob := fun b ob h1 h2 x => hk₂ b ob (by simp [h1, h2]) (hk b ob (by simp [h1, h2]) x)
  have D₂ : Led h₀ L m h₂ ((e, enO it ((i + 1 : Nat) : Int) old') :: (it, o') :: news) := by
    have ord := D.ord
    refine ⟨⟨D.fr.ns.at' fun ob x => ke L ob (fun q => z0.2.1 q.symm) (fun q => z1.2.1 q.symm) x, fun b ob x => ke b ob (fun q => by rw [q, z0.2.2] at x; cases x) (fun q => by rw [q, z1.2.2] at x; cases x) (D.fr.keep b ob x), D.fr.above⟩, ?_, ord⟩
    intro p hp
    rcases List.mem_cons.mp hp with rfl | hp
    · exact ⟨he₂, z0.2⟩
    · rcases List.mem_cons.mp hp with rfl | hp
      · exact ⟨ho', z1.2⟩
      · have zp := D.nw p (.tail _ (.tail _ hp))
        have l1 : p.1 < it := (List.pairwise_cons.mp (List.pairwise_cons.mp ord).2).1 p.1 (List.mem_map_of_mem hp)
        exact ⟨ke _ _ (Nat.ne_of_lt (Nat.lt_trans l1 hlt)) (Nat.ne_of_lt l1) zp.1, zp.2⟩
  have hTup₂ : h₂.IsTuple T #[.int i u, x'] := let ⟨ob, x, r⟩ := hTup; ⟨ob, hk₂ T ob (by simp [hTe, hTi]) x, r⟩
  refine wq.of fun tk₃ Q₃ kk₃ => ?_
  refine wpAny_assign_Tuple hh hTup₂ hlen hstar fun h₃ hx₃ => ?_
  have k₃ : Keep h₂ h₃ := fun b ob x => hx₃ b ob (Nat.ne_of_lt (Heap.lt_size x)) x
  exact (q u o' old' h₃ hI' (led_grow D₂ k₃)).go kk₃
theorem n_enumEnd {o : Obj} {old : Value} {elts : List Expr} {k' : Nat} {pos : Pos} {body orelse : List Stmt} {env : Env} {Q : Flow → Heap → Prop} (hh : A.handled = none) (D : Led h₀ L m h ((e, enO it (items.size : Nat) old) :: (it, o) :: news)) (hI : IsTI o t items.size)
    (ht : ∀ h', Keep h₀ h' → h'.IsTuple t items) (ht0 : ∃ o, h₀.get? t = some o) (q : ∀ h', Led h₀ L m h' news → wq c A (execs orelse env) Q h') : wqL c A (.Tuple elts k' pos) (.ref e) body orelse env Q h := by
  have g0 := D.at 0 (a := e) (o := enO it (items.size : Nat) old) rfl
  have g1 := D.at 1 (a := it) (o := o) rfl
  have hlt : it < e := (List.pairwise_cons.mp D.ord).1 it (by simp)
  obtain ⟨ot, hot⟩ := ht0
  have z0 := D.nw (e, enO it (items.size : Nat) old) (by simp)
  have z1 := D.nw (it, o) (by simp)
  have hte : t ≠ e := fun q => by rw [q, z0.2.2] at hot; cases hot
  have hti : t ≠ it := fun q => by rw [q, z1.2.2] at hot; cases hot
  have W := WalksT.enumerateD (prog := c.prog) (w := c.w) (A := A) (drawsTuple (prog := c.prog) (w := c.w) (A := A.in1) hh it t hti items) e (Nat.ne_of_gt hlt) (by simp [Ne.symm hte, Nat.ne_of_gt hlt]) (by simp)
  refine l_turn (wq.of fun tk Q' kk => ?_)
  refine W.done _ _ _ ⟨⟨old, g0⟩, ⟨o, g1, hI⟩, ht h D.fr.keep⟩ fun h₁ tk₁ hk => kk _ _ _ (q h₁ ?_)
  have ke : ∀ b ob, b ≠ e → b ≠ it → h.get? b = some ob → h₁.get? b = some ob := fun b ob h1 h2 x => hk b ob (by simp [h1, h2]) x
  refine ⟨⟨D.fr.ns.at' fun ob x => ke L ob (fun q => z0.2.1 q.symm) (fun q => z1.2.1 q.symm) x, fun b ob x => ke b ob (fun q => by rw [q, z0.2.2] at x; cases x) (fun q => by rw [q, z1.2.2] at x; cases x) (D.fr.keep b ob x), D.fr.above⟩, ?_, (List.pairwise_cons.mp (List.pairwise_cons.mp D.ord).2).2⟩
  intro p hp
  have zp := D.nw p (.tail _ (.tail _ hp))
  have l1 : p.1 < it := (List.pairwise_cons.mp (List.pairwise_cons.mp D.ord).2).1 p.1 (List.mem_map_of_mem hp)
  exact ⟨ke _ _ (Nat.ne_of_lt (Nat.lt_trans l1 hlt)) (Nat.ne_of_lt l1) zp.1, zp.2⟩
end enumw
end Mine
end
section
open PySem PySem.W PyProof.Rows PySem.Calls PySem.W.X
set_option Elab.async false
set_option maxRecDepth 100000
set_option linter.unusedVariables false
namespace Mine

section more
variable {c : Cx} {A : Around} {h h₀ : Heap} {L a : Addr} {cn : Str} {cs : Scope} {ccd : Value} {cl : List (Str × Addr)} {l : List (Str × Value)} {m : Str → Option Value} {pos p : Pos} {v : Value} {env : Env} {news : List (Addr × Obj)} {j : Nat}
theorem s_Expr {e : Expr} {Q : Flow → Heap → Prop} (hi : interactive env = false) (hs : swapsWith e none pos.line env = pure false) (H : wq c A (eval e env) (fun v h₁ => v = .none ∧ Q .next h₁) h) : wq c A (exec (.Expr e pos) env) Q h :=
  wq.of fun _ _ k => wpAny_Expr (H.go fun v h₁ tk q => by obtain ⟨rfl, q⟩ := q; exact k _ _ _ q) hi hs
theorem q_Method {o : Expr} {name : Str} {apos : Pos} {args : List Expr} {pl : Sem Bool} {Q : Value → Heap → Prop}
    (he : eval (.Call (.Attribute o name apos) args [] pos) env = (do
      let ov ← eval o env
      standAt apos.atName
      let (f, first) ← holding [ov] (getMethod ov name pl)
      callWith pos f first (backTo pos (starEach args env)) []))
    (H : wq c A (eval o env) (fun ov h₁ => wq c A (getMethod ov name pl) (fun fx h₂ => wq c A (callWith pos fx.1 fx.2 (backTo pos (starEach args env)) []) Q h₂) h₁) h) :
    wq c A (eval (.Call (.Attribute o name apos) args [] pos) env) Q h :=
  wq.of fun _ _ k => MethodCall_ (pl := pl) (H.go fun _ _ _ H₁ => H₁.go fun _ _ _ H₂ => H₂.go k) he
theorem m_append {D' : Addr} {its : Array Value} {n : Nat} {pl : Sem Bool} {Q : Value × List Value → Heap → Prop} (hl : h.get? D' = some (listOf its n)) (q : Q (.builtin "list.append", [.ref D']) h) : wq c A (getMethod (.ref D') "append" pl) Q h :=
  wq.of fun _ _ k => getMethod_list_append hl rfl rfl (k _ _ _ q)
theorem m_join {x : Str} {t : Tok} {pl : Sem Bool} {Q : Value × List Value → Heap → Prop} (q : Q (.builtin "str.join", [.str x t]) h) : wq c A (getMethod (.str x t) "join" pl) Q h :=
  wq.of fun _ _ k => GM.join (k _ _ _ q)
theorem c_append {D' : Addr} {its : Array Value} {n : Nat} {x : Value} {Q : Value → Heap → Prop} (D : Led h₀ L m h news) (hi : news[j]? = some (D', listOf its n)) (hz : its.size ≤ sizeLine)
    (q : ∀ h', Led h₀ L m h' (news.set j (D', listOf (its.push x) (n + 1))) → Q .none h') : wq c A (call (.builtin "list.append") [.ref D', x]) Q h :=
  wq.of fun _ _ k => append_at (hsz := hz) (D.at j hi) fun h' hs ho' => k _ _ _ (q _ (led_put D hi hs ho'))
theorem c_join {D' : Addr} {its : Array Value} {ys : List Str} {x : Str} {t : Tok} {Q : Value → Heap → Prop} (hl : h.IsList D' its) (hs : StrsAre its.toList ys) (hok : (ys.map (·.length)).sum + ys.length * x.length ≤ 16777216)
    (q : ∀ t, Q (.str (Txt.join x ys) t) h) : wq c A (call (.builtin "str.join") [.str x t, .ref D']) Q h :=
  wq.of fun _ _ k => join_list hl hs hok fun t' kk => k _ _ _ (q t')
theorem c_ord {ch : Nat} {t : Tok} {Q : Value → Heap → Prop} (q : ∀ t, Q (.int ch t) h) : wq c A (call (.builtin "ord") [.str ⟨#[ch]⟩ t]) Q h := wq.of fun _ _ k => PySem.P.ord_of_char (k _ _ _ (q _))
theorem g_two {a b : Str} {pa pb : Pos} {v w : Value} {Q : Unit → Heap → Prop} (H : wq c A (storeName env a v) (fun _ h₁ => wq c A (storeName env b w) Q h₁) h) :
    wq c A (assignInOrder ((assignEach [.Name a pa, .Name b pb] env).map (·.2)) [v, w]) Q h := by
  show wq c A (do holding [w] (assign (.Name a pa) env v); do holding [] (assign (.Name b pb) env w); pure ()) Q h
  exact wq.bind (wq.holding (g_Name (wq.mono H fun _ _ H₁ => wq.bind (wq.holding (g_Name (wq.mono H₁ fun _ _ q => wq.pure q))))))
/-- «for a, b in t» over a standing tuple of pairs: one turn -/
theorem n_pair {I T t : Addr} {o : Obj} {i k' : Nat} {items : Array Value} {x y : Value} {elts : List Expr} {body orelse : List Stmt} {Q : Flow → Heap → Prop} (hh : A.handled = none)
    (D : Led h₀ L m h ((I, o) :: news)) (hI : IsTI o t i) (ht : h.IsTuple t items) (hx : items[i]? = some (.ref T)) (hT : ∃ oT, h₀.get? T = some oT ∧ oT.cls = .type "tuple" ∧ ∃ n, oT.data = .seq #[x, y] n)
    (hlen : (assignEach elts env).length = 2) (hstar : (assignEach elts env).findIdx? (·.1) = none)
    (q : ∀ o' h', IsTI o' t (i + 1) → Led h₀ L m h' ((I, o') :: news) →
      wq c A (assignInOrder ((assignEach elts env).map (·.2)) [x, y]) (fun _ h₂ => wq c A (execs body env) (fun f h₃ => match f with
          | .next | .cont => wqL c A (.Tuple elts k' pos) (.ref I) body orelse env Q h₃
          | .brk => Q .next h₃
          | .ret v => Q (.ret v) h₃) h₂) h') : wqL c A (.Tuple elts k' pos) (.ref I) body orelse env Q h := by
  refine l_turn (n_tuple (j := 0) D rfl hI ht hx fun o' h' hI' D' => ?_)
  have D' : Led h₀ L m h' ((I, o') :: news) := D'
  refine wq.of fun tk Q' kk => ?_
  have g0 := D'.at 0 (a := I) (o := o') rfl
  have own : wpAny c.M A (letOwnedTupleGo (.Tuple elts k' pos) (.ref I) (.ref T)) Q' (fun _ _ => False) (c.st h' tk) := by
    unfold letOwnedTupleGo
    refine wpAny_bind (wpAny_load g0 ?_)
    obtain ⟨oc, od, odat, osl⟩ := o'
    obtain ⟨hc, hd⟩ := hI'
    dsimp only at hc hd
    subst hc hd
    refine wpAny_pure (kk _ _ _ ?_)
    obtain ⟨oT, hoT, hcT, nT, hdT⟩ := hT
    refine wq.of fun tk₃ Q₃ kk₃ => ?_
    refine wpAny_assign_Tuple hh (items := #[x, y]) ⟨oT, D'.fr.keep _ _ hoT, hcT, nT, hdT⟩ hlen hstar fun h₃ hx₃ => ?_
    have k₃ : Keep h' h₃ := fun b ob x => hx₃ b ob (Nat.ne_of_lt (Heap.lt_size x)) x
    exact (q _ h₃ ⟨rfl, rfl⟩ (led_grow D' k₃)).go kk₃
  exact own
end more

/-- the first whose bit passes, else the default -/
def pick (f : Int → Bool) (d : Nat) : List (Int × Nat) → Nat
  | [] => d
  | (b, ch) :: r => if f b = true then ch else pick f d r
/-- a standing tuple of pairs (a bit, a sign) -/
def Pairs (h : Heap) (t : Addr) (items : Array Value) (es : List (Int × Nat)) : Prop :=
  (∃ o, h.get? t = some o ∧ o.cls = .type "tuple" ∧ ∃ n, o.data = .seq items n) ∧ items.size = es.length ∧
  ∀ (j : Nat) (b : Int) (ch : Nat), es[j]? = some (b, ch) → ∃ (T : Addr) (tb tc : Tok), items[j]? = some (Value.ref T) ∧ ∃ oT, h.get? T = some oT ∧ oT.cls = .type "tuple" ∧ ∃ n, oT.data = .seq #[.int b tb, .str ⟨#[ch]⟩ tc] n

theorem pick_hit {f : Int → Bool} {d : Nat} : ∀ {es : List (Int × Nat)} {i : Nat} {b : Int} {ch : Nat}, es[i]? = some (b, ch) → f b = true → (∀ j b' ch', j < i → es[j]? = some (b', ch') → f b' = false) → pick f d es = ch
  | [], _, _, _, h, _, _ => by simp at h
  | (b', ch') :: r, 0, b, ch, h, hf, _ => by
    simp at h
    obtain ⟨rfl, rfl⟩ := h
    simp [pick, hf]
  | (b', ch') :: r, i + 1, b, ch, h, hf, hno => by
    have h0 := hno 0 b' ch' (by omega) rfl
    simp only [pick, h0, Bool.false_eq_true, if_false]
    exact pick_hit (i := i) (by simpa using h) hf fun j b'' ch'' hj hjb => hno (j + 1) b'' ch'' (by omega) (by simpa using hjb)
theorem pick_none {f : Int → Bool} {d : Nat} : ∀ {es : List (Int × Nat)}, (∀ b ch, (b, ch) ∈ es → f b = false) → pick f d es = d
  | [], _ => rfl
  | (b, ch) :: r, h => by
    simp only [pick, h b ch (.head _), Bool.false_eq_true, if_false]
    exact pick_none fun b' ch' hm => h b' ch' (.tail _ hm)

section search
variable {c : Cx} {A : Around} {h₀ : Heap} {L : Addr} {env : Env} {pos : Pos} {news : List (Addr × Obj)}
/-- «for bit, char in table: .. break .. else: ..»: the first pair that passes ends the search -/
theorem search {bit char : Str} {pb pc : Pos} {k' : Nat} {t : Addr} {items : Array Value} {es : List (Int × Nat)} {f : Int → Bool} {d : Nat} {body orelse : List Stmt} {Q : Flow → Heap → Prop} (hh : A.handled = none) (P : Pairs h₀ t items es)
    (Fl : List (Str × Value) → Prop)
    (step : ∀ b ch tb tc I o l h', (f b = true → pick f d es = ch) → Fl l → Led h₀ L (lk l) h' ((I, o) :: news) → wq c A (assignInOrder ((assignEach [.Name bit pb, .Name char pc] env).map (·.2)) [.int b tb, .str ⟨#[ch]⟩ tc]) (fun _ h₂ => wq c A (execs body env) (fun fl h₃ =>
      (f b = true → (match fl with | .next | .cont => False | .brk => Q .next h₃ | .ret v => Q (.ret v) h₃) ∨ False) ∧ (f b = false → fl = .next ∧ ∃ l', Fl l' ∧ Led h₀ L (lk l') h₃ ((I, o) :: news))) h₂) h')
    (els : ∀ l h', Fl l → Led h₀ L (lk l) h' news → pick f d es = d → wq c A (execs orelse env) Q h') :
    ∀ (n i : Nat) (I : Addr) (o : Obj) (l : List (Str × Value)) (h : Heap), n = es.length - i → i ≤ es.length → (∀ j b ch, j < i → es[j]? = some (b, ch) → f b = false) → IsTI o t i → Fl l → Led h₀ L (lk l) h ((I, o) :: news) →
      wqL c A (.Tuple [.Name bit pb, .Name char pc] k' pos) (.ref I) body orelse env Q h := by
  intro n
  obtain ⟨⟨ot, hot, hct, nt, hdt⟩, hsz, hP⟩ := P
  induction n with
  | zero =>
    intro i I o l h hn hi hno hI hl D
    have hie : i = es.length := by omega
    refine l_turn (n_tupleEnd hh (j := 0) D rfl hI (items := items) ⟨ot, D.fr.keep _ _ hot, hct, nt, hdt⟩ (by simp; omega) fun h' D' => ?_)
    refine els l h' hl D' (pick_none fun b ch hm => ?_)
    obtain ⟨j, hj⟩ := List.getElem?_of_mem hm
    have : j < es.length := (List.getElem?_eq_some_iff.mp hj).1
    exact hno j b ch (by omega) hj
  | succ n ih =>
    intro i I o l h hn hi hno hI hl D
    have hil : i < es.length := by omega
    obtain ⟨⟨b, ch⟩, hbc⟩ : ∃ x, es[i]? = some x := ⟨es[i], by simp [hil]⟩
    obtain ⟨T, tb, tc, hx, hT⟩ := hP i b ch hbc
    refine n_pair hh D hI ⟨ot, D.fr.keep _ _ hot, hct, nt, hdt⟩ hx hT rfl rfl fun o' h' hI' D' => ?_
    refine wq.mono (step b ch tb tc I o' l h' (fun hf => pick_hit hbc hf hno) hl D') fun _ h₂ H₂ => wq.mono H₂ fun fl h₃ H₃ => ?_
    cases hf : f b with
    | true =>
      have := (H₃.1 hf).resolve_right id
      cases fl <;> first | exact this.elim | exact this
    | false =>
      obtain ⟨rfl, l', hl', D₃⟩ := H₃.2 hf
      refine ih (i + 1) I o' l' h₃ (by omega) (by omega) (fun j b' ch' hj hjb => ?_) hI' hl' D₃
      by_cases e : j = i
      · subst e; rw [hbc] at hjb; cases hjb; exact hf
      · exact hno j b' ch' (by omega) hjb
end search
end Mine
end
section
open PySem PySem.W PyProof.Rows PySem.Calls PySem.W.X
set_option Elab.async false
set_option maxRecDepth 100000
set_option linter.unusedVariables false
namespace Mine
def IntsL : List Value → List Int → Prop
  | [], [] => True
  | v :: vs, x :: xs => (∃ t, v = .int x t) ∧ IntsL vs xs
  | _, _ => False
theorem ints_at : ∀ {vs : List Value} {xs : List Int}, IntsL vs xs → ∀ {j : Nat}, j < xs.length → ∃ t, vs[j]? = some (.int (xs.getD j 0) t)
  | [], [], _, _, hj => absurd hj (Nat.not_lt_zero _)
  | [], _ :: _, h, _, _ => h.elim
  | _ :: _, [], h, _, _ => h.elim
  | v :: vs, x :: xs, h, 0, _ => let ⟨t, e⟩ := h.1; ⟨t, by simp [e]⟩
  | v :: vs, x :: xs, h, j + 1, hj => by
    obtain ⟨t, e⟩ := ints_at h.2 (j := j) (by simpa using hj)
    exact ⟨t, by simpa using e⟩
theorem ints_len : ∀ {vs : List Value} {xs : List Int}, IntsL vs xs → vs.length = xs.length
  | [], [], _ => rfl
  | v :: vs, x :: xs, h => by simp [ints_len h.2]
theorem ints_snoc {x : Int} {t : Tok} : ∀ {vs : List Value} {xs : List Int}, IntsL vs xs → IntsL (vs ++ [.int x t]) (xs ++ [x])
  | [], [], _ => ⟨⟨t, rfl⟩, trivial⟩
  | v :: vs, y :: xs, h => ⟨h.1, ints_snoc h.2⟩

section autos
variable {c : Cx} {A : Around} {h h₀ : Heap} {L a : Addr} {cn : Str} {cs : Scope} {ccd : Value} {cl : List (Str × Addr)} {l : List (Str × Value)} {m : Str → Option Value} {x : Str} {pos : Pos} {v : Value} {env : Env} {news : List (Addr × Obj)}
/-! the same rules, their small side goals at the end -/
theorem ac {e : Expr} {rest : List Expr} {Q : List Value → Heap → Prop} 
    (H : wq c A (eval e env) (fun v h₁ => wq c A (spliced (backTo pos (starEach rest env))) (fun vs h₂ => Q (v :: vs) h₂) h₁) h) (he : starEach (e :: rest) env = (false, eval e env) :: starEach rest env := by exact rfl) : wq c A (spliced (backTo pos (starEach (e :: rest) env))) Q h := a_cons he H
theorem qw {f : Value} {first : List Value} {e : Expr} {rest : List Expr} {Q : Value → Heap → Prop}
    (H : wq c A (spliced (backTo pos (starEach (e :: rest) env))) (fun vs h₁ => (∃ k, plainKeeper k ∧ Looks c.M h₁ (keeperOf f) k) ∧ wq c A (call f (first ++ vs)) Q h₁) h)
    (he : starEach (e :: rest) env = (false, eval e env) :: starEach rest env := by exact rfl) (hpl : (backTo pos (starEach (e :: rest) env)).any (·.1) = false := by exact rfl) :
    wq c A (callWith pos f first (backTo pos (starEach (e :: rest) env)) []) Q h := q_callWith he hpl H
theorem sA {x : Str} {p' : Pos} {e : Expr} {Q : Flow → Heap → Prop}
    (H : wq c A (eval e env) (fun v h₁ => wq c A (storeName env x v) (fun _ h₂ => Q .next h₂) h₁) h) (hs : swapsWith e (some (.Name x p')) pos.line env = pure false := by exact rfl) : wq c A (exec (.Assign [.Name x p'] e pos) env) Q h := s_Assign hs H
theorem sF {target iter : Expr} {body orelse : List Stmt} {Q : Flow → Heap → Prop} (H : wq c A (eval iter env) (fun x h₁ => wq c A (pyIter x) (fun it h₂ => wqL c A target it body orelse env Q h₂) h₁) h) (hs : ∀ x, foldedSetIterable iter env x = pure x := by exact fun _ => rfl) : wq c A (exec (.For target iter body orelse pos) env) Q h := s_For hs H
theorem dl {Q : Value → Heap → Prop} (D : Led h₀ L (lk l) h news) (q : Q v h) (hv : lk l x = some v := by exact rfl) (hk : cs.kind = .function := by exact rfl) (hx : (envX cn cs L a ccd cl).kindOf x = some .local := by exact rfl) (hd : (x == ("__debug__" : Str)) = false := by exact rfl) :
    wq c A (eval (.Name x pos) (envX cn cs L a ccd cl)) Q h := d_local D hv hk hx hd q
theorem dv {Q : Value → Heap → Prop} (D : Led h₀ L (lk l) h news) (hv : lk l x = some v) (q : Q v h) (hk : cs.kind = .function := by exact rfl) (hx : (envX cn cs L a ccd cl).kindOf x = some .local := by exact rfl) (hd : (x == ("__debug__" : Str)) = false := by exact rfl) :
    wq c A (eval (.Name x pos) (envX cn cs L a ccd cl)) Q h := d_local D hv hk hx hd q
theorem ds {Q : Unit → Heap → Prop} (D : Led h₀ L (lk l) h news) (q : ∀ h', Led h₀ L (lk ((x, v) :: l)) h' news → Q () h') (hk : cs.kind = .function := by exact rfl) (hx : (envX cn cs L a ccd cl).kindOf x = some .local := by exact rfl) :
    wq c A (storeName (envX cn cs L a ccd cl) x v) Q h := d_store D hk hx q
theorem dg {K : Frag} {mg mb : Str → Option Value} {Q : Value → Heap → Prop} (D : Led h₀ L m h news) (G : Gd K mg mb h₀) (e : nsIn K mainGlobals x = some (some v)) (q : Q v h) (hk : cs.kind = .function := by exact rfl) (hx : (envX cn cs L a ccd cl).kindOf x = some .globalImplicit := by exact rfl) (hd : (x == ("__debug__" : Str)) = false := by exact rfl) :
    wq c A (eval (.Name x pos) (envX cn cs L a ccd cl)) Q h := d_global D G e hk hx hd q
theorem db {K : Frag} {mg mb : Str → Option Value} {Q : Value → Heap → Prop} (v : Value) (D : Led h₀ L m h news) (G : Gd K mg mb h₀) (e : nsIn K mainGlobals x = some none) (hv : bootBuiltins x = some v) (hn : x ≠ "__name__") (q : Q v h) (hk : cs.kind = .function := by exact rfl) (hx : (envX cn cs L a ccd cl).kindOf x = some .globalImplicit := by exact rfl) (hd : (x == ("__debug__" : Str)) = false := by exact rfl) :
    wq c A (eval (.Name x pos) (envX cn cs L a ccd cl)) Q h := d_builtin D G e hv hn hk hx hd q
theorem tC {whole : Sem Value} {Q : Bool → Heap → Prop} {l r : Expr} {op : CmpOp}
    (H : wq c A (eval l env) (fun a h₁ => wq c A (eval r env) (fun b h₂ => wq c A (compareOp op a b) (fun z h₃ => wq c A (truthy z) Q h₃) h₂) h₁) h) (hm : behindInMarks op r = false := by exact rfl) :
    wq c A (isTrue (.Compare l [op] [r] pos) env whole) Q h := t_Compare hm H
theorem qC {l r : Expr} {op : CmpOp} {Q : Value → Heap → Prop} (H : wq c A (eval l env) (fun a h₁ => wq c A (eval r env) (fun b h₂ => wq c A (compareOp op a b) Q h₂) h₁) h) (hm : behindInMarks op r = false := by exact rfl) :
    wq c A (eval (.Compare l [op] [r] pos) env) Q h := q_Compare hm H
theorem sE {e : Expr} {Q : Flow → Heap → Prop} (H : wq c A (eval e env) (fun v h₁ => v = .none ∧ Q .next h₁) h) (hi : interactive env = false := by exact rfl) (hs : swapsWith e none pos.line env = pure false := by exact rfl) : wq c A (exec (.Expr e pos) env) Q h := s_Expr hi hs H
end autos

section loops
variable {c : Cx} {A : Around} {h₀ : Heap} {L : Addr} {env : Env} {pos : Pos}
/-- «for x in range(n)» with an invariant of the names and of the news -/
theorem for_range {x : Str} {p : Pos} {n : Nat} {body orelse : List Stmt} {Q : Flow → Heap → Prop} (hh : A.handled = none) (Inv : Nat → List (Str × Value) → List (Addr × Obj) → Prop)
    (turn : ∀ (i : Nat) t I o l news h, i < n → Inv i l news → Led h₀ L (lk l) h ((I, o) :: news) →
      wq c A (storeName env x (.int i t)) (fun _ h₂ => wq c A (execs body env) (fun f h₃ => match f with
        | .next => ∃ l' news', Led h₀ L (lk l') h₃ ((I, o) :: news') ∧ Inv (i + 1) l' news'
        | .cont => ∃ l' news', Led h₀ L (lk l') h₃ ((I, o) :: news') ∧ Inv (i + 1) l' news'
        | .brk => Q .next h₃
        | .ret v => Q (.ret v) h₃) h₂) h)
    (done : ∀ l news h, Inv n l news → Led h₀ L (lk l) h news → wq c A (execs orelse env) Q h) :
    ∀ (k i : Nat) (a m : Int) (I : Addr) (l : List (Str × Value)) (news : List (Addr × Obj)) (h : Heap), k = n - i → i ≤ n → a = i → m = (n - i : Nat) → Inv i l news → Led h₀ L (lk l) h ((I, rI a m 1) :: news) → wqL c A (.Name x p) (.ref I) body orelse env Q h := by
  intro k
  induction k with
  | zero =>
    intro i a m I l news h hk hi ha hm hI D
    have : i = n := by omega
    subst this
    exact l_turn (n_rangeEnd hh (j := 0) D rfl (by omega) fun h' D' => done l news h' hI D')
  | succ k ih =>
    intro i a m I l news h hk hi ha hm hI D
    subst ha
    refine l_turn (n_range (j := 0) (a' := ((i + 1 : Nat) : Int)) (n' := ((n - (i + 1) : Nat) : Int)) D rfl (by omega) (by omega) (by omega) fun t h' D' => ?_)
    refine g_own (g_Name ?_)
    refine wq.mono (turn i t I _ l news h' (by omega) hI D') fun _ h₂ H₂ => wq.mono H₂ fun f h₃ H₃ => ?_
    cases f with
    | next => obtain ⟨l', news', D₃, hI'⟩ := H₃; exact ih (i + 1) _ _ I l' news' h₃ (by omega) (by omega) rfl rfl hI' D₃
    | cont => obtain ⟨l', news', D₃, hI'⟩ := H₃; exact ih (i + 1) _ _ I l' news' h₃ (by omega) (by omega) rfl rfl hI' D₃
    | brk => exact H₃
    | ret v => exact H₃
end loops
section txts
variable {c : Cx} {A : Around} {h : Heap} {x y : Str} {t u : Tok} {Q : Value → Heap → Prop}
theorem q_strItem {e i' : Expr} {i : Nat} {ch : Nat} (hs : subscripted i' false (.str x t) (.int i u) = operate [.str x t, .int i u] (getItem (.str x t) (.int i u))) (hi : i < 2 ^ 63) (hx : x.cps[i]? = some ch) (q : ∀ t, Q (.str ⟨#[ch]⟩ t) h) : wq c A (subscriptTail e i' (.str x t) (.int i u)) Q h :=
  wq.of fun _ _ k => tail_any (typeIs_str _ _ _) F.slot_str_getitem.lookup (PySem.P.getItem_str (c := ch) (by simp; omega) (by
    have hl : i < x.cps.size := (Array.getElem?_eq_some_iff.mp hx).1
    have hL : i < x.length := hl
    have : seqIndex? (i : Int) x.length = some i := by
      unfold seqIndex?
      simp
      first | omega | skip
    rw [this]; exact hx) (k _ _ _ (q _))) hs
theorem q_neStr (q : Q (.bool (x.cps.toList != y.cps.toList)) h) : wq c A (compareOp .NotEq (.str x t) (.str y u)) Q h := wq.of fun _ _ k => PySem.P.ne_str (k _ _ _ q)
end txts
end Mine
end
section
open PySem PySem.W PyProof.Rows PySem.Calls PySem.W.X
set_option Elab.async false
set_option maxRecDepth 100000
set_option linter.unusedVariables false
namespace Mine
/-! code tables: they grow when a function makes functions; they stand at the end of the ledger -/
abbrev T3 : List Addr := [16, 93, 100]
abbrev hid (h : Heap) : Heap := hideAll h T3
def Kp (h h' : Heap) : Prop := ∀ b o, b ∉ T3 → h.get? b = some o → h'.get? b = some o
theorem Kp.refl (h : Heap) : Kp h h := fun _ _ _ e => e
theorem Kp.trans {a b c : Heap} (x : Kp a b) (y : Kp b c) : Kp a c := fun _ _ n e => y _ _ n (x _ _ n e)
theorem Keep.kp {h h' : Heap} (k : Keep h h') : Kp h h' := fun _ _ _ e => k _ _ e
theorem Kp.hid {h h' : Heap} (k : Kp h h') : Keep (hid h) h' := fun b o e => k b o (fun q => by rw [hideAll_none _ q] at e; cases e) (of_hideAll _ e)
theorem kp_of_hid {h h' : Heap} (k : Keep (hid h) h') : Kp h h' := fun b o n e => k b o (hideAll_get _ e n)
theorem kp_of_ext {P : Addr} {h h' : Heap} (hP : P ∈ T3) (x : Heap.ExtBut P h h') : Kp h h' := fun b o n e => x b o (fun q => n (q ▸ hP)) e
theorem in_T3 {b : Nat} (h : b ∈ T3) : b = 16 ∨ b = 93 ∨ b = 100 := by simpa [T3] using h
theorem not_T3 {b : Nat} (h : 100 < b) : b ∉ T3 := fun hm => by have := in_T3 hm; omega
theorem m16 : (16 : Nat) ∈ T3 := by decide
theorem m93 : (93 : Nat) ∈ T3 := by decide
theorem m100 : (100 : Nat) ∈ T3 := by decide
abbrev tabN (a b d : Array Value) : List (Addr × Obj) := [(100, tabObj a), (93, tabObj b), (16, tabObj d)]
structure CodeR (h : Heap) (c' : Addr) (qual : Str) : Prop where
  above : 110 < c'
  code : h.CodeRec (.ref c') qual
theorem CodeR.keeps {h h' : Heap} {c' : Addr} {q : Str} (x : CodeR h c' q) (k : Kp h h') : CodeR h' c' q := by
  refine ⟨x.above, ?_⟩
  obtain ⟨c₂, oc, vs, tq, hc, hoc, hdc, hq⟩ := x.code
  cases hc
  refine ⟨c', oc, vs, tq, rfl, k _ _ (not_T3 (Nat.lt_trans (by decide) x.above)) hoc, hdc, hq⟩
structure TabOk (h : Heap) (ps : Array Value) (qual : Str) : Prop where
  ok : TriplesOk ps.toList
  hit : ∀ pos cv, codeAmong pos ps.toList = some cv → ∃ c', cv = .ref c' ∧ CodeR h c' qual
theorem TabOk.keeps {h h' : Heap} {ps : Array Value} {q : Str} (x : TabOk h ps q) (k : Kp h h') : TabOk h' ps q :=
  ⟨x.ok, fun pos cv e => let ⟨c', e1, r⟩ := x.hit pos cv e; ⟨c', e1, r.keeps k⟩⟩
theorem TabOk.nil (h : Heap) (q : Str) : TabOk h #[] q := ⟨trivial, fun pos cv e => by cases e⟩
theorem among_snoc {pos : Pos} {a b : Int} {c cv : Value} (l : List Value) (h : TriplesOk l) (e : codeAmong pos (l ++ [rawInt a, rawInt b, c]) = some cv) : codeAmong pos l = some cv ∨ cv = c := by
  fun_induction TriplesOk l with
  | case1 =>
    simp only [List.nil_append, rawInt, codeAmong] at e
    split at e
    · exact .inr (Option.some.inj e).symm
    · cases e
  | case2 x1 x2 x3 x4 x5 rest ih =>
    simp only [List.cons_append, codeAmong] at e ⊢
    split at e
    · rename_i hc; rw [if_pos hc]; exact .inl e
    · rename_i hc; rw [if_neg hc]; exact ih h e
  | case3 => exact h.elim
theorem TabOk.snoc {h h' : Heap} {ps : Array Value} {q : Str} {a b : Int} {c' : Addr} (x : TabOk h ps q) (k : Kp h h') (r : CodeR h' c' q) : TabOk h' (ps ++ #[rawInt a, rawInt b, .ref c']) q := by
  refine ⟨by simpa using TriplesOk_snoc a b (.ref c') _ x.ok, fun pos cv e => ?_⟩
  rw [Array.toList_append] at e
  rcases among_snoc _ x.ok e with e | e
  · exact (x.keeps k).hit pos cv e
  · exact ⟨c', e, r⟩

section led
variable {h h' h₀ : Heap} {L a : Addr} {m : Str → Option Value} {news : List (Addr × Obj)} {o o' : Obj} {i : Nat}
theorem led_startT {h₁ : Heap} {ta tb td : Array Value} (F : Fr h L h₁ m) (h100 : h.get? 100 = some (tabObj ta)) (h93 : h.get? 93 = some (tabObj tb)) (h16 : h.get? 16 = some (tabObj td)) : Led (hid h) L m h₁ (tabN ta tb td) := by
  refine ⟨⟨F.ns, fun b o e => F.keep b o (of_hideAll _ e), Nat.le_trans (Nat.le_of_eq (hideAll_size _ _)) F.above⟩, fun p hp => ?_, ?_⟩
  · have key : ∀ (P : Addr) (ps : Array Value), P ∈ T3 → h.get? P = some (tabObj ps) → h₁.get? P = some (tabObj ps) ∧ P ≠ L ∧ (hid h).get? P = none :=
      fun P ps hm e => ⟨F.keep _ _ e, Nat.ne_of_lt (Nat.lt_of_lt_of_le (Heap.lt_size e) F.above), hideAll_none _ hm⟩
    simp only [tabN, List.mem_cons, List.not_mem_nil, or_false] at hp
    rcases hp with rfl | rfl | rfl
    · exact key _ _ m100 h100
    · exact key _ _ m93 h93
    · exact key _ _ m16 h16
  · show List.Pairwise _ [100, 93, 16]
    simp
theorem led_add (D : Led h₀ L m h news) (ho : h.get? a = some o) (hl : ∀ p ∈ news, p.1 < a) (hL : L < a) : Led h₀ L m h ((a, o) :: news) := by
  refine ⟨D.fr, fun p hp => ?_, List.Pairwise.cons (fun b hb => ?_) D.ord⟩
  · rcases List.mem_cons.mp hp with rfl | hp
    · exact ⟨ho, Nat.ne_of_gt hL, Heap.get?_none_of_le (Nat.le_trans D.fr.above (Nat.le_of_lt hL))⟩
    · exact D.nw p hp
  · obtain ⟨p, hp, rfl⟩ := List.mem_map.mp hb
    exact hl p hp
/-- one old object of the ledger changes, the rest stays, more may come -/
theorem led_putX (D : Led h₀ L m h news) (hi : news[i]? = some (a, o)) (hs : Heap.ExtBut a h h') (ho' : h'.get? a = some o') : Led h₀ L m h' (news.set i (a, o')) := by
  have sp := pairwise_split hi
  have z := D.nw (a, o) (List.mem_of_getElem? hi)
  have ord' := D.ord
  rw [sp, List.map_append, List.map_cons] at ord'
  have p1 : ∀ p ∈ news.take i, p.1 ≠ a := fun p hp => Nat.ne_of_gt ((List.pairwise_append.mp ord').2.2 p.1 (List.mem_map_of_mem hp) a (.head _))
  have p2 : ∀ p ∈ news.drop (i + 1), p.1 ≠ a := fun p hp => Nat.ne_of_lt ((List.pairwise_cons.mp (List.pairwise_append.mp ord').2.1).1 p.1 (List.mem_map_of_mem hp))
  have e : news.set i (a, o') = news.take i ++ (a, o') :: news.drop (i + 1) := by
    obtain ⟨hl, _⟩ := List.getElem?_eq_some_iff.mp hi
    exact List.set_eq_take_append_cons_drop.trans (if_pos hl)
  refine ⟨⟨D.fr.ns.extBut hs (Ne.symm z.2.1), fun b ob eb => hs b ob (fun q => ?_) (D.fr.keep b ob eb), D.fr.above⟩, ?_, ?_⟩
  · subst q; rw [z.2.2] at eb; cases eb
  · rw [e]
    intro p hp
    rcases List.mem_append.mp hp with hp | hp
    · have zp := D.nw p (by rw [sp]; exact List.mem_append_left _ hp)
      exact ⟨hs _ _ (p1 p hp) zp.1, zp.2⟩
    · rcases List.mem_cons.mp hp with rfl | hp
      · exact ⟨ho', z.2⟩
      · have zp := D.nw p (by rw [sp]; exact List.mem_append_right _ (.tail _ hp))
        exact ⟨hs _ _ (p2 p hp) zp.1, zp.2⟩
  · rw [e, List.map_append, List.map_cons]; exact ord'
/-- all but the tables stays -/
theorem led_kp {xs : List (Addr × Obj)} {ta tb td ta' tb' td' : Array Value} (D : Led h₀ L m h (xs ++ tabN ta tb td)) (hL : 110 < L) (k : Kp h h') (e1 : h'.get? 100 = some (tabObj ta')) (e2 : h'.get? 93 = some (tabObj tb')) (e3 : h'.get? 16 = some (tabObj td')) :
    Led h₀ L m h' (xs ++ tabN ta' tb' td') := by
  have ord := D.ord
  rw [List.map_append] at ord
  have hx : ∀ p ∈ xs, 100 < p.1 := fun p hp => (List.pairwise_append.mp ord).2.2 p.1 (List.mem_map_of_mem hp) 100 (by simp)
  have nb : ∀ P ∈ T3, h₀.get? P = none := fun P hP => by
    have hP := in_T3 hP
    rcases hP with rfl | rfl | rfl
    · exact (D.nw (16, tabObj td) (List.mem_append_right _ (by simp))).2.2
    · exact (D.nw (93, tabObj tb) (List.mem_append_right _ (by simp))).2.2
    · exact (D.nw (100, tabObj ta) (List.mem_append_right _ (by simp))).2.2
  refine ⟨⟨D.fr.ns.at' fun ob x => k L ob (not_T3 (Nat.lt_trans (by decide) hL)) x, fun b ob eb => k b ob (fun q => by rw [nb b q] at eb; cases eb) (D.fr.keep b ob eb), D.fr.above⟩, fun p hp => ?_, by rw [List.map_append]; exact ord⟩
  rcases List.mem_append.mp hp with hp' | hp'
  · have zp := D.nw p (List.mem_append_left _ hp')
    exact ⟨k _ _ (not_T3 (hx p hp')) zp.1, zp.2⟩
  · have z3 : ∀ P ∈ T3, P ≠ L := fun P hP q => not_T3 (Nat.lt_trans (by decide) hL) (q ▸ hP)
    simp only [tabN, List.mem_cons, List.not_mem_nil, or_false] at hp'
    rcases hp' with rfl | rfl | rfl
    · exact ⟨e1, z3 _ m100, nb _ m100⟩
    · exact ⟨e2, z3 _ m93, nb _ m93⟩
    · exact ⟨e3, z3 _ m16, nb _ m16⟩
end led

/-- the builtins module stands among the names -/
def Bm (mg : Str → Option Value) (h : Heap) : Prop := ∃ bm o, mg "__builtins__" = some (.ref bm) ∧ bm ≠ builtinsNs ∧ bm ∉ T3 ∧ h.get? bm = some o ∧ o.cls = .type "module" ∧ o.dict = some builtinsNs ∧ o.data = .plain
theorem Bm.kp {mg : Str → Option Value} {h h' : Heap} (x : Bm mg h) (k : Kp h h') : Bm mg h' := let ⟨bm, o, a, b, n, e, r⟩ := x; ⟨bm, o, a, b, n, k _ _ n e, r⟩
theorem Bm.keeps {mg : Str → Option Value} {h h' : Heap} (x : Bm mg h) (k : Keep h h') : Bm mg h' := x.kp (Keep.kp k)
theorem Bm.at {mg : Str → Option Value} {h : Heap} {P : Addr} {ps : Array Value} (x : Bm mg h) (g : h.Ns mainGlobals mg) (hP : h.get? P = some (tabObj ps)) : h.BuiltinsAt mg P ∧ mainGlobals ≠ P := by
  obtain ⟨bm, ob, b1, b2, _, b3, b4, b5, b6⟩ := x
  refine ⟨⟨bm, ob, b1, b2, fun q => ?_, fun q => ?_, b3, b4, b5, b6⟩, fun q => ?_⟩
  · obtain ⟨o, es, ep, e, hd, _⟩ := g
    rw [q, e] at b3; cases b3; rw [hd] at b6; cases b6
  · rw [q, hP] at b3; cases b3; cases b4
  · obtain ⟨o, es, ep, e, hd, _⟩ := g
    rw [q, hP] at e; cases e; cases hd

theorem d_newListK {c : Cx} {A : Around} {h h₀ : Heap} {L : Addr} {m : Str → Option Value} {news : List (Addr × Obj)} {Q : Value → Heap → Prop} {vs : List Value} (D : Led h₀ L m h news) (hsz : vs.length ≤ sizeLine) (q : ∀ l' h', Led h₀ L m h' ((l', listOf vs.toArray 0) :: news) → Keep h h' → L < l' → Q (.ref l') h') : wq c A (newList vs) Q h :=
  wq.of fun _ _ k => wpAny_newList (k _ _ _ (q _ _ (led_push D _ rfl) (fun _ _ e => Heap.get?_push_of_some _ e) D.fr.ns.lt)) hsz
section makers
variable {c : Cx} {A : Around} {h h₀ : Heap} {L a P cP : Addr} {m mg : Str → Option Value} {news : List (Addr × Obj)} {cn : Str} {cs : Scope} {ccd : Value} {cl clos : List (Str × Addr)} {j : Nat} {ps : Array Value} {pos : Pos} {qual : Str} {scope : Scope} {params : Arguments}
theorem q_Lambda {body : Expr} {Q : Value → Heap → Prop} (D : Led h₀ L m h news) (hL : 110 < L) (hj : news[j]? = some (P, tabObj ps)) (hP : P ∈ T3) (g : h.Ns mainGlobals mg) (B : Bm mg h) (hcd : ccd = .ref cP) (C : CodeHd h cP P) (T : TabOk h ps qual)
    (hq : (envX cn cs L a ccd cl).qual ++ "<lambda>" = qual) (hcl : closureFor scope (envX cn cs L a ccd cl) = pure clos) (hdef : defaultsOf params (envX cn cs L a ccd cl) = ([], []))
    (q : ∀ f c' ctv h' ps', Led h₀ L m h' ((f, kla_obj "<lambda>" qual params body scope clos ((mg "__name__").getD .none) c' ctv) :: news.set j (P, tabObj ps')) → CodeR h' c' qual → TabOk h' ps' qual → Kp h h' → L < f → Q (.ref f) h') :
    wq c A (eval (.Lambda params body scope pos) (envX cn cs L a ccd cl)) Q h := wq.of fun tk Q' k => by
  have hm := D.at j hj
  obtain ⟨hb, hgP⟩ := B.at g hm
  refine kla_eval hdef ?_
  rw [hq]
  have hLh : L < h.objs.size := D.fr.ns.lt
  cases hf : codeAmong pos ps.toList with
  | none =>
    refine kla_makeFunction (mg := mg) hcl rfl g hcd C hm T.ok hf hgP hb fun c' ctv h' tk' hx hge hlt hrec htb => k _ _ _ ?_
    have D₁ := led_putX D hj hx htb
    have kp : Kp h h' := kp_of_ext hP hx
    have kp2 : Kp h (h'.push (kla_obj "<lambda>" qual params body scope clos ((mg "__name__").getD .none) c' ctv)) := kp.trans (Keep.kp fun _ _ e => Heap.get?_push_of_some _ e)
    have r : CodeR (h'.push (kla_obj "<lambda>" qual params body scope clos ((mg "__name__").getD .none) c' ctv)) c' qual := ⟨Nat.lt_trans hL (Nat.lt_of_lt_of_le hLh hge), hrec.push _⟩
    exact q _ c' ctv _ _ (led_push D₁ _ rfl) r (T.snoc kp2 r) kp2 (Nat.lt_of_lt_of_le hLh (Nat.le_trans hge (Nat.le_of_lt hlt)))
  | some cv =>
    obtain ⟨c', rfl, r⟩ := T.hit pos cv hf
    refine kla_makeFunctionHit (mg := mg) hcl rfl g hcd C hm T.ok hf hb fun ctv h' tk' hk hsz => k _ _ _ ?_
    have kp : Kp h h' := Keep.kp hk
    have kp2 : Kp h (h'.push (kla_obj "<lambda>" qual params body scope clos ((mg "__name__").getD .none) c' ctv)) := kp.trans (Keep.kp fun _ _ e => Heap.get?_push_of_some _ e)
    refine q _ c' ctv _ ps ?_ (r.keeps kp2) (T.keeps kp2) kp2 (Nat.lt_of_lt_of_le hLh hsz)
    have e : news.set j (P, tabObj ps) = news := by
      obtain ⟨hl, he⟩ := List.getElem?_eq_some_iff.mp hj
      rw [← he]; exact List.set_getElem_self hl
    rw [e]
    exact led_push (led_grow D hk) _ rfl
theorem s_Def {name : Str} {body : List Stmt} {Q : Flow → Heap → Prop} (D : Led h₀ L m h news) (hL : 110 < L) (hj : news[j]? = some (P, tabObj ps)) (hP : P ∈ T3) (g : h.Ns mainGlobals mg) (B : Bm mg h) (hcd : ccd = .ref cP) (C : CodeHd h cP P) (T : TabOk h ps qual)
    (hq : qualnameIn (envX cn cs L a ccd cl) name name = qual) (hcl : closureFor scope (envX cn cs L a ccd cl) = pure clos) (hd0 : params.defaults = []) (hk0 : params.kw_defaults = []) (ha : annTrees params none (envX cn cs L a ccd cl) = [])
    (q : ∀ f c' ctv doc h' ps', Led h₀ L m h' ((f, fnMade name qual params body scope clos doc ((mg "__name__").getD .none) c' ctv) :: news.set j (P, tabObj ps')) → CodeR h' c' qual → TabOk h' ps' qual → Kp h h' → L < f →
      wq c A (storeName (envX cn cs L a ccd cl) name (.ref f)) (fun _ h₂ => Q .next h₂) h') :
    wq c A (exec (.FunctionDef name params body [] none [] scope none name pos) (envX cn cs L a ccd cl)) Q h := wq.of fun tk Q' k => by
  have hm := D.at j hj
  obtain ⟨hb, hgP⟩ := B.at g hm
  refine nestDef_K hd0 hk0 ha ?_
  rw [hq]
  have hLh : L < h.objs.size := D.fr.ns.lt
  cases hf : codeAmong pos ps.toList with
  | none =>
    refine makeFunction_K (mg := mg) hcl rfl g hcd C hm T.ok hf hgP hb fun c' ctv doc h' tk' hx hge hlt hrec htb => ?_
    have D₁ := led_putX D hj hx htb
    have kp : Kp h h' := kp_of_ext hP hx
    have kp2 : Kp h (h'.push (fnMade name qual params body scope clos doc ((mg "__name__").getD .none) c' ctv)) := kp.trans (Keep.kp fun _ _ e => Heap.get?_push_of_some _ e)
    have r : CodeR (h'.push (fnMade name qual params body scope clos doc ((mg "__name__").getD .none) c' ctv)) c' qual := ⟨Nat.lt_trans hL (Nat.lt_of_lt_of_le hLh hge), hrec.push _⟩
    exact (q _ c' ctv doc _ _ (led_push D₁ _ rfl) r (T.snoc kp2 r) kp2 (Nat.lt_of_lt_of_le hLh (Nat.le_trans hge (Nat.le_of_lt hlt)))).go fun _ _ _ q => k _ _ _ q
  | some cv =>
    obtain ⟨c', rfl, r⟩ := T.hit pos cv hf
    refine makeFunction_hit (mg := mg) hcl rfl g hcd C hm T.ok hf hb fun ctv doc h' tk' hk hsz => ?_
    have kp : Kp h h' := Keep.kp hk
    have kp2 : Kp h (h'.push (fnMade name qual params body scope clos doc ((mg "__name__").getD .none) c' ctv)) := kp.trans (Keep.kp fun _ _ e => Heap.get?_push_of_some _ e)
    refine (q _ c' ctv doc _ ps ?_ (r.keeps kp2) (T.keeps kp2) kp2 (Nat.lt_of_lt_of_le hLh hsz)).go fun _ _ _ q => k _ _ _ q
    have e : news.set j (P, tabObj ps) = news := by
      obtain ⟨hl, he⟩ := List.getElem?_eq_some_iff.mp hj
      rw [← he]; exact List.set_getElem_self hl
    rw [e]
    exact led_push (led_grow D hk) _ rfl
end makers

section entry
variable {c : Cx} {A : Around} {h : Heap} {f : Addr} {vs : List Value} {Q : Value → Heap → Prop} {o : Obj} {name qual : Str} {params : Arguments} {body : List Stmt} {scope : Scope} {cl : List (Str × Addr)} {dV kV doc pm cdv ct : Value} {an : Option Addr} {binds : List (Str × Value)} {d u : Nat}
/-- a function some of whose names are cells -/
theorem q_defC (r : Room A (d + 1) (u + 3)) (ho : h.get? f = some o) (hd : o.data = .func (fnX name qual params body scope [] dV kV doc pm an cdv ct)) (hlim : h.NoLimit) (hcd : h.CodeRec cdv qual)
    (hb : ∀ s : Shared, s.heap = h → BindsTo s (fnX name qual params body scope [] dV kV doc pm an cdv ct) ⟨vs, []⟩ binds)
    (hkind : ∀ n, ∀ x ∈ binds, scope.names.lookup x.1 = some .local ∨ (scope.names.lookup x.1 = some .cell ∧ ((cellsFrom n scope.names []).lookup x.1).isSome = true))
    (hco : scope.isCoroutine = false) (hgen : scope.isGenerator = false) (hk : scope.kind = .function)
    (H : ∀ L h₁, Fr h L h₁ (bindL (envOfC qual scope L f cdv).kindOf binds fun _ => none) → (∀ n c, (cellsFrom (L + 1) scope.names []).lookup n = some c → h₁.IsCell c (bindC (envOfC qual scope L f cdv).kindOf binds (fun _ => none) n)) → Room (A.deeper (envX qual scope L f cdv (cellsFrom (L + 1) scope.names []))) d u →
      wq c (A.deeper (envX qual scope L f cdv (cellsFrom (L + 1) scope.names []))) (execs body (envX qual scope L f cdv (cellsFrom (L + 1) scope.names []))) (fun fl h' => Q (match fl with | .ret v => v | _ => .none) h') h₁) :
    wq c A (call (.ref f) vs) Q h := wq.of fun tk Q' k => by
  refine wpAny_call (codeAny_call_function (fd := fnX name qual params body scope [] dV kV doc pm an cdv ct) r.ok ho hd hco hgen rfl hcd (hb _ rfl _ _ _ _ ?_))
  refine wpAny_newFunctionEnv_cells hk (hkind _) fun env' he s' x => ?_
  subst he
  refine ⟨hlim.keeps x.toInCall.keep, codeAny_func ?_⟩
  obtain ⟨⟨h₁, tk₁, rfl⟩, ns, kp, fr⟩ := x.toInCall
  exact wpAny_mono ((H h.objs.size h₁ ⟨ns, kp, fr⟩ x.cell r.deeper).go (E := fun _ _ => False) fun v h' tk' q => k _ _ _ q) (fun _ _ x => x) fun _ _ x => x.elim
/-- a lambda's call -/
theorem q_lam {body : Expr} (r : Room A (d + 1) (u + 3)) (ho : h.get? f = some o) (hd : o.data = .func (kla_fn name qual params body scope cl pm cdv ct)) (hlim : h.NoLimit) (hcd : h.CodeRec cdv qual)
    (hb : bindArgs (kla_fn name qual params body scope cl pm cdv ct) ⟨vs, []⟩ = pure binds)
    (hcell : ∀ x ∈ scope.names, x.2 ≠ .cell) (hloc : ∀ x ∈ binds, scope.names.lookup x.1 = some .local)
    (hco : scope.isCoroutine = false) (hgen : scope.isGenerator = false) (hk : scope.kind = .function)
    (H : ∀ L h₁, Fr h L h₁ (lk binds.reverse) → Room (A.deeper (envX qual scope L f cdv cl)) d u →
      wq c (A.deeper (envX qual scope L f cdv cl)) (eval body (envX qual scope L f cdv cl)) Q h₁) :
    wq c A (call (.ref f) vs) Q h := wq.of fun tk Q' k => by
  refine wpAny_call (kla_callFunE r.ok ho hd hco hgen rfl hcd ?_)
  rw [hb]
  refine wpAny_pure (wpAny_newFunctionEnv hcell hloc (fun h₁ hns hsb => ⟨hlim.fresh _ hsb, ?_⟩) hk)
  have hk₁ : ∀ b o, h.get? b = some o → h₁.get? b = some o := fun b o e => hsb.extBut b o (Nat.ne_of_lt (Heap.lt_size e)) (Heap.get?_push_of_some _ e)
  exact kla_codeExpr (wpAny_mono ((H h.objs.size h₁ ⟨hns, hk₁, Nat.le_refl _⟩ r.deeper).go (E := fun _ _ => False) fun v h' tk' q => k _ _ _ q) (fun _ _ x => x) fun _ _ x => x.elim)
end entry
end Mine
end
section
open PySem PySem.W PyProof.Rows PySem.Calls
set_option Elab.async false
set_option maxRecDepth 100000
set_option maxHeartbeats 4000000
set_option linter.unusedVariables false
namespace Mine
noncomputable abbrev K2 (c : Cx) : Frag := hd.heap_39 c.w.params

theorem ifmt {c : Cx} {A : Around} {h : Heap} {mg mb : Str → Option Value} {n : Int} {t : Tok} (r : Room A 1 3) (G : Gd (K2 c) mg mb h) :
    wq c A (call (.ref 37) [.int n t]) (fun v h' => (∃ t, v = .int (Builtin.bitAnd n 61440) t) ∧ Keep h h') h := by
  refine q_def (d := 0) (u := 0) (binds := [(Str.ofString "mode", .int n t)]) r (G.X 37 _ rfl) rfl G.lim (codeRec_of G.X rfl) (fun s _ => BindsTo.of_eq rfl) (by decide) (locs rfl) rfl rfl rfl ?_
  intro L h₁ F N r'
  refine s_cons ?_
  refine s_Return ?_
  refine q_BinOp ?_
  refine q_local F rfl rfl rfl rfl ?_
  refine q_int fun t => ?_
  refine q_and fun t => ?_
  exact ⟨⟨_, rfl⟩, F.keep⟩
end Mine
end
section
open PySem PySem.W PyProof.Rows PySem.Calls PySem.W.X
set_option Elab.async false
set_option maxRecDepth 100000
set_option maxHeartbeats 4000000
set_option linter.unusedVariables false
namespace Mine
theorem strs_snoc {s : Str} {t : Tok} : ∀ {vs : List Value} {ys : List Str}, StrsAre vs ys → StrsAre (vs ++ [.str s t]) (ys ++ [s])
  | _, _, .nil => .cons s t .nil
  | _, _, .cons n' t' h => .cons n' t' (strs_snoc h)
theorem strs_len : ∀ {vs : List Value} {ys : List Str}, StrsAre vs ys → vs.length = ys.length
  | _, _, .nil => rfl
  | _, _, .cons n' t' h => by simp [strs_len h]
section outer
variable {c : Cx} {A : Around} {h₀ : Heap} {L p : Addr} {env : Env} {pos : Pos}
theorem outer {index table : Str} {pi pt : Pos} {k' : Nat} {t : Addr} {items : Array Value} {body : List Stmt} {Q : Flow → Heap → Prop} (C : Nat → Nat) (hh : A.handled = none) (ht : ∃ o, h₀.get? t = some o ∧ o.cls = .type "tuple" ∧ ∃ n, o.data = .seq items n)
    (Fl : List (Str × Value) → Prop)
    (turn : ∀ (i : Nat) x u e it eo o l vs n h, items[i]? = some x → Fl l → vs.length = i → Led h₀ L (lk l) h ((e, eo) :: (it, o) :: (p, listOf vs.toArray n) :: []) →
      wq c A (assignInOrder ((assignEach [.Name index pi, .Name table pt] env).map (·.2)) [.int (i : Nat) u, x]) (fun _ h₂ => wq c A (execs body env) (fun f h₃ => f = .next ∧ ∃ l' tk, Fl l' ∧
        Led h₀ L (lk l') h₃ ((e, eo) :: (it, o) :: (p, listOf (vs ++ [.str ⟨#[C i]⟩ tk]).toArray (n + 1)) :: [])) h₂) h)
    (done : ∀ l vs n h, Fl l → Led h₀ L (lk l) h [(p, listOf vs.toArray n)] → StrsAre vs ((List.range items.size).map fun i => (⟨#[C i]⟩ : Str)) → wq c A (execs [] env) Q h) :
    ∀ (k i : Nat) (e it : Addr) (o : Obj) (old : Value) (l : List (Str × Value)) (vs : List Value) (n : Nat) (h : Heap), k = items.size - i → i ≤ items.size → IsTI o t i → Fl l → StrsAre vs ((List.range i).map fun i => (⟨#[C i]⟩ : Str)) →
      Led h₀ L (lk l) h ((e, enO it (i : Nat) old) :: (it, o) :: (p, listOf vs.toArray n) :: []) → wqL c A (.Tuple [.Name index pi, .Name table pt] k' pos) (.ref e) body [] env Q h := by
  intro k
  obtain ⟨ot, hot, hct, nt, hdt⟩ := ht
  have htk : ∀ h', Keep h₀ h' → h'.IsTuple t items := fun h' k => ⟨ot, k _ _ hot, hct, nt, hdt⟩
  induction k with
  | zero =>
    intro i e it o old l vs n h hk hi hI hl hS D
    have hie : i = items.size := by omega
    subst hie
    exact n_enumEnd hh D hI htk ⟨ot, hot⟩ fun h' D' => done l vs n h' hl D' hS
  | succ k ih =>
    intro i e it o old l vs n h hk hi hI hl hS D
    have hil : i < items.size := by omega
    refine n_enum hh D hI htk ⟨ot, hot⟩ (x := items[i]) (by simp [hil]) rfl rfl fun u o' old' h' hI' D' => ?_
    refine wq.mono (turn i items[i] u e it _ o' l vs n h' (by simp [hil]) hl (by rw [strs_len hS]; simp) D') fun _ h₂ H₂ => wq.mono H₂ fun f h₃ H₃ => ?_
    obtain ⟨rfl, l', tk, hl', D₃⟩ := H₃
    refine ih (i + 1) e it o' old' l' _ (n + 1) h₃ (by omega) (by omega) hI' hl' ?_ D₃
    rw [List.range_succ, List.map_append]
    exact strs_snoc hS
end outer
theorem join10 (a b c d e f g h i j : Nat) : Txt.join (Str.ofString "") [⟨#[a]⟩, ⟨#[b]⟩, ⟨#[c]⟩, ⟨#[d]⟩, ⟨#[e]⟩, ⟨#[f]⟩, ⟨#[g]⟩, ⟨#[h]⟩, ⟨#[i]⟩, ⟨#[j]⟩] = ⟨#[a, b, c, d, e, f, g, h, i, j]⟩ := by
  rfl
def fmTab : Nat → List (Int × Nat)
  | 0 => [(40960, 108), (49152, 115), (32768, 45), (24576, 98), (16384, 100), (8192, 99), (4096, 112)]
  | 1 => [(256, 114)]
  | 2 => [(128, 119)]
  | 3 => [(2112, 115), (2048, 83), (64, 120)]
  | 4 => [(32, 114)]
  | 5 => [(16, 119)]
  | 6 => [(1032, 115), (1024, 83), (8, 120)]
  | 7 => [(4, 114)]
  | 8 => [(2, 119)]
  | 9 => [(513, 116), (512, 84), (1, 120)]
  | _ => []
def fmF (m : Int) (i : Nat) (b : Int) : Bool := if i = 0 then Builtin.bitAnd m 61440 == b else Builtin.bitAnd m b == b
def fmD (i : Nat) : Nat := if i = 0 then 63 else 45
def fmC (m : Int) (i : Nat) : Nat := pick (fmF m i) (fmD i) (fmTab i)
def fmS (m : Int) : Str := ⟨#[fmC m 0, fmC m 1, fmC m 2, fmC m 3, fmC m 4, fmC m 5, fmC m 6, fmC m 7, fmC m 8, fmC m 9]⟩
def fmIts : Array Value := #[.ref 45, .ref 47, .ref 49, .ref 53, .ref 55, .ref 57, .ref 61, .ref 63, .ref 65, .ref 69]
theorem pairs1 {h : Heap} {t T : Addr} {b : Int} {ch : Nat} {tb tc : Tok} {n n' : Nat} {o o' : Obj} (h1 : h.get? t = some o) (h2 : o.cls = .type "tuple") (h3 : o.data = .seq #[.ref T] n) (h4 : h.get? T = some o') (h5 : o'.cls = .type "tuple") (h6 : o'.data = .seq #[.int b tb, .str ⟨#[ch]⟩ tc] n') : Pairs h t #[.ref T] [(b, ch)] := by
  refine ⟨⟨o, h1, h2, n, h3⟩, rfl, fun j b' ch' e => ?_⟩
  match j, e with
  | 0, e => cases e; exact ⟨T, tb, tc, rfl, o', h4, h5, n', h6⟩
theorem pairs_cons {h : Heap} {T : Addr} {b : Int} {ch : Nat} {tb tc : Tok} {n : Nat} {o : Obj} {Ts : List Value} {es : List (Int × Nat)} (h4 : h.get? T = some o) (h5 : o.cls = .type "tuple") (h6 : o.data = .seq #[.int b tb, .str ⟨#[ch]⟩ tc] n)
    (r : ∀ (j : Nat) (b : Int) (ch : Nat), es[j]? = some (b, ch) → ∃ (T : Addr) (tb tc : Tok), Ts[j]? = some (Value.ref T) ∧ ∃ oT, h.get? T = some oT ∧ oT.cls = .type "tuple" ∧ ∃ n, oT.data = .seq #[.int b tb, .str ⟨#[ch]⟩ tc] n) :
    ∀ (j : Nat) (b' : Int) (ch' : Nat), ((b, ch) :: es)[j]? = some (b', ch') → ∃ (T' : Addr) (tb tc : Tok), (Value.ref T :: Ts)[j]? = some (Value.ref T') ∧ ∃ oT, h.get? T' = some oT ∧ oT.cls = .type "tuple" ∧ ∃ n, oT.data = .seq #[.int b' tb, .str ⟨#[ch']⟩ tc] n
  | 0, b', ch', e => by cases e; exact ⟨T, tb, tc, rfl, o, h4, h5, n, h6⟩
  | j + 1, b', ch', e => r j b' ch' e
theorem pairs_nil {h : Heap} : ∀ (j : Nat) (b : Int) (ch : Nat), ([] : List (Int × Nat))[j]? = some (b, ch) → ∃ (T : Addr) (tb tc : Tok), ([] : List Value)[j]? = some (Value.ref T) ∧ ∃ oT, h.get? T = some oT ∧ oT.cls = .type "tuple" ∧ ∃ n, oT.data = .seq #[.int b tb, .str ⟨#[ch]⟩ tc] n :=
  fun _ _ _ e => by cases e
theorem pairs_of {h : Heap} {t : Addr} {o : Obj} {n : Nat} {Ts : List Value} {es : List (Int × Nat)} (h1 : h.get? t = some o) (h2 : o.cls = .type "tuple") (h3 : o.data = .seq Ts.toArray n) (hl : Ts.length = es.length)
    (r : ∀ (j : Nat) (b : Int) (ch : Nat), es[j]? = some (b, ch) → ∃ (T : Addr) (tb tc : Tok), Ts[j]? = some (Value.ref T) ∧ ∃ oT, h.get? T = some oT ∧ oT.cls = .type "tuple" ∧ ∃ n, oT.data = .seq #[.int b tb, .str ⟨#[ch]⟩ tc] n) : Pairs h t Ts.toArray es :=
  ⟨⟨o, h1, h2, n, h3⟩, by simpa using hl, fun j b ch e => by
    obtain ⟨T, tb, tc, e1, r⟩ := r j b ch e
    exact ⟨T, tb, tc, by simpa using e1, r⟩⟩
theorem tabFact {c : Cx} {h : Heap} {mg mb : Str → Option Value} (G : Gd (K2 c) mg mb h) : ∀ (i : Nat) (x : Value), fmIts[i]? = some x → ∃ T its, x = .ref T ∧ Pairs h T its (fmTab i)
  | 0, x, e => by cases e; exact ⟨45, _, rfl, pairs_of (G.X 45 _ rfl) rfl rfl rfl (pairs_cons (G.X 38 _ rfl) rfl rfl <| pairs_cons (G.X 39 _ rfl) rfl rfl <| pairs_cons (G.X 40 _ rfl) rfl rfl <| pairs_cons (G.X 41 _ rfl) rfl rfl <| pairs_cons (G.X 42 _ rfl) rfl rfl <| pairs_cons (G.X 43 _ rfl) rfl rfl <| pairs_cons (G.X 44 _ rfl) rfl rfl pairs_nil)⟩
  | 1, x, e => by cases e; exact ⟨47, _, rfl, pairs_of (G.X 47 _ rfl) rfl rfl rfl (pairs_cons (G.X 46 _ rfl) rfl rfl pairs_nil)⟩
  | 2, x, e => by cases e; exact ⟨49, _, rfl, pairs_of (G.X 49 _ rfl) rfl rfl rfl (pairs_cons (G.X 48 _ rfl) rfl rfl pairs_nil)⟩
  | 3, x, e => by cases e; exact ⟨53, _, rfl, pairs_of (G.X 53 _ rfl) rfl rfl rfl (pairs_cons (G.X 50 _ rfl) rfl rfl <| pairs_cons (G.X 51 _ rfl) rfl rfl <| pairs_cons (G.X 52 _ rfl) rfl rfl pairs_nil)⟩
  | 4, x, e => by cases e; exact ⟨55, _, rfl, pairs_of (G.X 55 _ rfl) rfl rfl rfl (pairs_cons (G.X 54 _ rfl) rfl rfl pairs_nil)⟩
  | 5, x, e => by cases e; exact ⟨57, _, rfl, pairs_of (G.X 57 _ rfl) rfl rfl rfl (pairs_cons (G.X 56 _ rfl) rfl rfl pairs_nil)⟩
  | 6, x, e => by cases e; exact ⟨61, _, rfl, pairs_of (G.X 61 _ rfl) rfl rfl rfl (pairs_cons (G.X 58 _ rfl) rfl rfl <| pairs_cons (G.X 59 _ rfl) rfl rfl <| pairs_cons (G.X 60 _ rfl) rfl rfl pairs_nil)⟩
  | 7, x, e => by cases e; exact ⟨63, _, rfl, pairs_of (G.X 63 _ rfl) rfl rfl rfl (pairs_cons (G.X 62 _ rfl) rfl rfl pairs_nil)⟩
  | 8, x, e => by cases e; exact ⟨65, _, rfl, pairs_of (G.X 65 _ rfl) rfl rfl rfl (pairs_cons (G.X 64 _ rfl) rfl rfl pairs_nil)⟩
  | 9, x, e => by cases e; exact ⟨69, _, rfl, pairs_of (G.X 69 _ rfl) rfl rfl rfl (pairs_cons (G.X 66 _ rfl) rfl rfl <| pairs_cons (G.X 67 _ rfl) rfl rfl <| pairs_cons (G.X 68 _ rfl) rfl rfl pairs_nil)⟩
  | n + 10, x, e => by
    have : fmIts.size = 10 := rfl
    have h2 := (Array.getElem?_eq_some_iff.mp e).1
    omega
end Mine
end
section
open PySem PySem.W PyProof.Rows PySem.Calls PySem.W.X
set_option Elab.async false
set_option maxRecDepth 100000
set_option maxHeartbeats 4000000
set_option linter.unusedVariables false
namespace Mine
theorem n_enumerate (c : Cx) : nsIn (K2 c) mainGlobals (Str.ofString "enumerate") = some none := by kernel_rfl
theorem n_table (c : Cx) : nsIn (K2 c) mainGlobals (Str.ofString "_filemode_table") = some (some (.ref 70)) := by kernel_rfl
theorem n_ifmt (c : Cx) : nsIn (K2 c) mainGlobals (Str.ofString "S_IFMT") = some (some (.ref 37)) := by kernel_rfl
theorem filemode {c : Cx} {A : Around} {h : Heap} {mg mb : Str → Option Value} {n : Int} {t : Tok} (r : Room A 2 6) (G : Gd (K2 c) mg mb h) :
    wq c A (call (.ref 77) [.int n t]) (fun v h' => (∃ t, v = .str (fmS n) t) ∧ Keep h h') h := by
  refine q_def (d := 1) (u := 3) (binds := [(Str.ofString "mode", .int n t)]) r (G.X 77 _ rfl) rfl G.lim (codeRec_of G.X rfl) (fun s _ => BindsTo.of_eq rfl) (by decide) (locs rfl) rfl rfl rfl ?_
  intro L h₁ F N r'
  have D := led_start F
  clear F N
  refine s_cons (s_Assign rfl (q_List (a_nil (d_newList D (by decide) fun p h₂ D => d_store D rfl rfl fun h₃ D => ?_))))
  refine s_cons (s_For (fun _ => rfl) (q_CallN (d_builtin D G (n_enumerate c) boot_enumerate (by decide +kernel) rfl rfl rfl (q_callWith rfl rfl (a_cons rfl (d_global D G (n_table c) rfl rfl rfl (a_nil ⟨kp_type, ?_⟩)))))))
  refine c_enum D (D.fr.keep _ _ (G.X 70 _ rfl)) fun e it o h₄ hI D => i_enum (j := 0) D rfl ?_
  refine outer (items := fmIts) (fmC n) r'.handled ⟨_, G.X 70 _ rfl, rfl, _, rfl⟩ (fun l => (∃ t, lk l (Str.ofString "mode") = some (.int n t)) ∧ lk l (Str.ofString "perm") = some (.ref p)) ?turn ?done 10 0 e it o .none _ [] 0 h₄ rfl (by decide) hI ⟨⟨_, rfl⟩, rfl⟩ .nil D
  case done =>
    intro l vs k h₅ hl D hS
    refine s_nil ?_
    show wq c _ (execs _ _) _ _
    refine s_cons (s_Return (q_Method rfl (q_str fun _ => m_join ?_)))
    refine q_callWith rfl rfl (a_cons rfl (d_local D hl.2 rfl rfl rfl (a_nil ⟨kp_bi, ?_⟩)))
    refine c_join (its := vs.toArray) (led_isList (i := 0) D rfl) (by simpa using hS) (Nat.le_trans (Nat.le_of_eq (show _ = 10 from rfl)) (by decide)) fun t => ⟨⟨t, ?_⟩, D.fr.keep⟩
    exact congrArg (Value.str · t) (join10 ..)
  case turn =>
    intro i x u e it eo o l vs k h₅ hx hl hlen D
    obtain ⟨T, its, rfl, P⟩ := tabFact G i x hx
    obtain ⟨⟨tm, hm⟩, hp⟩ := hl
    refine g_two (d_store D rfl rfl fun h₆ D => d_store D rfl rfl fun h₇ D => ?_)
    obtain ⟨⟨ot, hot, hct, nt, hdt⟩, _⟩ := id P
    refine s_cons (s_For (fun _ => rfl) (d_local D rfl rfl rfl rfl (i_tuple D ⟨ot, D.fr.keep _ _ hot, hct, nt, hdt⟩ fun I o₂ h₈ hI₂ D => ?_)))
    have hz : vs.toArray.size ≤ sizeLine := by
      have : i < 10 := (Array.getElem?_eq_some_iff.mp hx).1
      have h16 : 10 ≤ sizeLine := by decide
      simp only [List.size_toArray]; omega
    refine search (f := fmF n i) (d := fmD i) r'.handled P (fun l => (∃ t, lk l (Str.ofString "mode") = some (.int n t)) ∧ lk l (Str.ofString "perm") = some (.ref p) ∧ ∃ u, lk l (Str.ofString "index") = some (.int i u)) ?step ?els _ 0 I o₂ _ h₈ rfl (Nat.zero_le _) (fun j _ _ hj => absurd hj (Nat.not_lt_zero j)) hI₂ ?fl D
    case fl => exact ⟨⟨tm, hm⟩, hp, u, rfl⟩
    case step =>
      intro b ch tb tc I' o' l' h₉ hpk hl D
      obtain ⟨⟨tm, hm⟩, hp, u, hu⟩ := hl
      have fin : pick (fmF n i) (fmD i) (fmTab i) = ch → ∀ {hh : Heap}, Led h L (lk ((Str.ofString "char", Value.str ⟨#[ch]⟩ tc) :: (Str.ofString "bit", Value.int b tb) :: l')) hh ((I', o') :: (e, eo) :: (it, o) :: (p, listOf (vs.toArray.push (Value.str ⟨#[ch]⟩ tc)) (k + 1)) :: []) → ∃ l' tk, ((∃ t, lk l' (Str.ofString "mode") = some (.int n t)) ∧ lk l' (Str.ofString "perm") = some (.ref p)) ∧ Led h L (lk l') hh ((e, eo) :: (it, o) :: (p, listOf (vs ++ [Value.str ⟨#[fmC n i]⟩ tk]).toArray (k + 1)) :: []) := fun hc hh D => ⟨((Str.ofString "char", Value.str ⟨#[ch]⟩ tc) :: (Str.ofString "bit", Value.int b tb) :: l'), tc, ⟨⟨tm, hm⟩, hp⟩, by
        have e1 : (vs ++ [Value.str ⟨#[fmC n i]⟩ tc]).toArray = vs.toArray.push (Value.str ⟨#[ch]⟩ tc) := by
          rw [← hc]; simp [fmC]
        rw [e1]; exact led_tail D⟩
      refine g_two (d_store D rfl rfl fun h₁₀ D => d_store D rfl rfl fun h₁₁ D => ?_)
      refine s_cons (s_If (t_Compare rfl (d_local D hu rfl rfl rfl (q_int fun t => q_eq (t_bool ?_)))))
      by_cases hi : i = 0
      · rw [if_pos (show (((i : Nat) : Int) == 0) = true by subst hi; rfl)]
        refine s_cons (s_If (t_Compare rfl (q_CallN (d_global D G (n_ifmt c) rfl rfl rfl (q_callWith rfl rfl (a_cons rfl (d_local D hm rfl rfl rfl (a_nil ⟨kp_fn ((G.keeps D.fr.keep).X 37 _ rfl) rfl, ?_⟩))))))))
        refine wq.mono (ifmt (r'.le (by decide) (by decide)) (G.keeps D.fr.keep)) fun v hh H => ?_
        obtain ⟨⟨t', rfl⟩, kp⟩ := H
        have D := led_grow D kp
        refine d_local D rfl rfl rfl rfl (q_eq (t_bool ?_))
        have hF : fmF n i b = (Builtin.bitAnd n 61440 == b) := by simp [fmF, hi]
        rw [← hF]
        by_cases hf : fmF n i b = true
        · rw [if_pos hf]
          refine s_cons (s_Expr rfl rfl (q_Method rfl (d_local D hp rfl rfl rfl (m_append (D.at 3 rfl) (q_callWith rfl rfl (a_cons rfl (d_local D rfl rfl rfl rfl (a_nil ⟨kp_bi, c_append (j := 3) D rfl hz fun hh D => ⟨rfl, s_cons (s_Break ⟨fun _ => .inl ?_, fun h0 => absurd (hf.symm.trans h0) (by decide)⟩)⟩⟩))))))))
          exact s_nil ⟨rfl, fin (hpk hf) D⟩
        · rw [if_neg hf]
          exact s_nil (s_nil (s_nil ⟨fun h0 => absurd h0 hf, fun _ => ⟨rfl, ((Str.ofString "char", Value.str ⟨#[ch]⟩ tc) :: (Str.ofString "bit", Value.int b tb) :: l'), ⟨⟨tm, hm⟩, hp, u, hu⟩, D⟩⟩))
      · rw [if_neg (show ¬ (((i : Nat) : Int) == 0) = true by simp; omega)]
        refine s_cons (s_If (t_Compare rfl (q_BinOp (d_local D hm rfl rfl rfl (d_local D rfl rfl rfl rfl (q_and fun t => d_local D rfl rfl rfl rfl (q_eq (t_bool ?_))))))))
        have hF : fmF n i b = (Builtin.bitAnd n b == b) := by simp [fmF, hi]
        rw [← hF]
        by_cases hf : fmF n i b = true
        · rw [if_pos hf]
          refine s_cons (s_Expr rfl rfl (q_Method rfl (d_local D hp rfl rfl rfl (m_append (D.at 3 rfl) (q_callWith rfl rfl (a_cons rfl (d_local D rfl rfl rfl rfl (a_nil ⟨kp_bi, c_append (j := 3) D rfl hz fun hh D => ⟨rfl, s_cons (s_Break ⟨fun _ => .inl ?_, fun h0 => absurd (hf.symm.trans h0) (by decide)⟩)⟩⟩))))))))
          exact s_nil ⟨rfl, fin (hpk hf) D⟩
        · rw [if_neg hf]
          exact s_nil (s_nil (s_nil ⟨fun h0 => absurd h0 hf, fun _ => ⟨rfl, ((Str.ofString "char", Value.str ⟨#[ch]⟩ tc) :: (Str.ofString "bit", Value.int b tb) :: l'), ⟨⟨tm, hm⟩, hp, u, hu⟩, D⟩⟩))
    case els =>
      intro l' h₉ hl D hpk
      obtain ⟨⟨tm, hm⟩, hp, u, hu⟩ := hl
      have fin : ∀ {ch tc}, fmD i = ch → ∀ {hh : Heap}, Led h L (lk l') hh ((e, eo) :: (it, o) :: (p, listOf (vs.toArray.push (Value.str ⟨#[ch]⟩ tc)) (k + 1)) :: []) → ∃ l' tk, ((∃ t, lk l' (Str.ofString "mode") = some (.int n t)) ∧ lk l' (Str.ofString "perm") = some (.ref p)) ∧ Led h L (lk l') hh ((e, eo) :: (it, o) :: (p, listOf (vs ++ [Value.str ⟨#[fmC n i]⟩ tk]).toArray (k + 1)) :: []) := fun {ch tc} hc hh D => ⟨l', tc, ⟨⟨tm, hm⟩, hp⟩, by
        have e1 : (vs ++ [Value.str ⟨#[fmC n i]⟩ tc]).toArray = vs.toArray.push (Value.str ⟨#[ch]⟩ tc) := by
          rw [← hc]; simp [fmC, hpk]
        rw [e1]; exact D⟩
      refine s_cons (s_If (t_Compare rfl (d_local D hu rfl rfl rfl (q_int fun t => q_eq (t_bool ?_)))))
      by_cases hi : i = 0
      · rw [if_pos (show (((i : Nat) : Int) == 0) = true by subst hi; rfl)]
        refine s_cons (s_Expr rfl rfl (q_Method rfl (d_local D hp rfl rfl rfl (m_append (D.at 2 rfl) (q_callWith rfl rfl (a_cons rfl (q_str fun tc => a_nil ⟨kp_bi, c_append (j := 2) D rfl hz fun hh D => ⟨rfl, s_nil (s_nil (s_nil ⟨rfl, fin (by simp [fmD, hi]) D⟩))⟩⟩)))))))
      · rw [if_neg (show ¬ (((i : Nat) : Int) == 0) = true by simp; omega)]
        refine s_cons (s_Expr rfl rfl (q_Method rfl (d_local D hp rfl rfl rfl (m_append (D.at 2 rfl) (q_callWith rfl rfl (a_cons rfl (q_str fun tc => a_nil ⟨kp_bi, c_append (j := 2) D rfl hz fun hh D => ⟨rfl, s_nil (s_nil (s_nil ⟨rfl, fin (by simp [fmD, hi]) D⟩))⟩⟩)))))))
end Mine
end
section
open PySem PySem.W PyProof.Rows PySem.Calls PySem.W.X
set_option Elab.async false
set_option maxRecDepth 100000
set_option maxHeartbeats 4000000
set_option linter.unusedVariables false
namespace Mine
theorem n_range' (c : Cx) : nsIn (K2 c) mainGlobals (Str.ofString "range") = some none := by kernel_rfl
theorem n_ord (c : Cx) : nsIn (K2 c) mainGlobals (Str.ofString "ord") = some none := by kernel_rfl
theorem b_range : bootBuiltins (Str.ofString "range") = some (.type "range") := boot_range
theorem b_ord : bootBuiltins (Str.ofString "ord") = some (.builtin "ord") := boot_ord
theorem x_range : Str.ofString "range" ≠ ("__name__" : Str) := by decide +kernel
theorem x_ord : Str.ofString "ord" ≠ ("__name__" : Str) := by decide +kernel

def nine (s : Int) : Int := [0, 3, 5, 7, 9, 11, 13, 14, 15].getD (s % 9).toNat 0
def kindN (n s : Int) : Int := [8, nine s, 6, 2, 4, 10, 1, 12].getD (n / 4096).toNat 0
def fig (n : Int) (k : Nat) : Int := n / 16 ^ (2 - (k : Int)).toNat % 16
def rstep (n : Int) (k : Nat) (r : Int) : Int := r + (fig n k / 4 * 2 + fig n k / 2 % 2) * 8 ^ (2 - (k : Int)).toNat + (fig n k / 2 % 2 + fig n k) % 2 * 2 ^ (11 - (k : Int)).toNat
def rightsN (n : Int) : Nat → Int
  | 0 => 0
  | k + 1 => rstep n k (rightsN n k)
def lmode (n s : Int) : Int := s / 9 % 65536 * 65536 + kindN n s * 4096 + rightsN n 3
theorem pow_small (a : Int) (ha : a = 16 ∨ a = 8 ∨ a = 2) (m : Nat) (hm : m < 12) : (Builtin.Int.intBits a : Int) * m ≤ 2 ^ 27 := by
  have h5 : Builtin.Int.intBits 16 = 5 := by decide
  have h4 : Builtin.Int.intBits 8 = 4 := by decide
  have h2 : Builtin.Int.intBits 2 = 2 := by decide
  rcases ha with rfl | rfl | rfl
  · rw [h5]; omega
  · rw [h4]; omega
  · rw [h2]; omega
theorem pow_bound (b m : Nat) (hb : b ≤ 16) (hb0 : 0 < b) (hm : m ≤ 12) : (0 : Int) < (b : Int) ^ m ∧ (b : Int) ^ m < 18446744073709551616 := by
  have h1 : 0 < b ^ m := Nat.pow_pos hb0
  have h2 : b ^ m ≤ 16 ^ 12 := Nat.le_trans (Nat.pow_le_pow_left hb m) (Nat.pow_le_pow_right (by decide) hm)
  have h3 : ((b ^ m : Nat) : Int) = (b : Int) ^ m := by simp
  have h4 : (16 : Nat) ^ 12 < 18446744073709551616 := by decide
  omega
theorem lawmode {c : Cx} {A : Around} {h : Heap} {mg mb : Str → Option Value} {n s : Int} {t u : Tok} (r : Room A 1 3) (G : Gd (K2 c) mg mb h) (hn0 : 0 ≤ n) (hn1 : n < 32768) :
    wq c A (call (.ref 84) [.int n t, .int s u]) (fun v h' => (∃ t, v = .int (lmode n s) t) ∧ Keep h h') h := by
  refine q_def (d := 0) (u := 0) (binds := [(Str.ofString "number", .int n t), (Str.ofString "spare", .int s u)]) r (G.X 84 _ rfl) rfl G.lim ?a ?b ?c ?d ?e ?f ?g ?_
  case a => exact codeRec_of G.X rfl
  case b => exact fun s _ => BindsTo.of_eq rfl
  case c => decide
  case d => exact locs rfl
  case e => exact rfl
  case f => exact rfl
  case g => exact rfl
  intro L h₁ F N r'
  have D := led_start F
  clear F N
  refine s_cons ?_
  refine sA ?_
  refine q_Subscript ?_
  refine q_List ?_
  refine ac ?_
  refine q_int fun t1 => ?_
  refine ac ?_
  refine q_Subscript ?_
  refine q_List ?_
  refine ac ?_
  refine q_int fun u1 => ?_
  refine ac ?_
  refine q_int fun u2 => ?_
  refine ac ?_
  refine q_int fun u3 => ?_
  refine ac ?_
  refine q_int fun u4 => ?_
  refine ac ?_
  refine q_int fun u5 => ?_
  refine ac ?_
  refine q_int fun u6 => ?_
  refine ac ?_
  refine q_int fun u7 => ?_
  refine ac ?_
  refine q_int fun u8 => ?_
  refine ac ?_
  refine q_int fun u9 => ?_
  refine a_nil ?_
  refine d_newList D (show 9 ≤ sizeLine by decide) fun p h₂ D => ?_
  refine q_BinOp ?_
  refine dl D ?_
  refine q_int fun t2 => ?_
  refine q_mod (by decide) (by decide) fun t2 => ?_
  obtain ⟨tn, hn⟩ := ints_at (vs := [.int 0 u1, .int 3 u2, .int 5 u3, .int 7 u4, .int 9 u5, .int 11 u6, .int 13 u7, .int 14 u8, .int 15 u9]) (xs := [0, 3, 5, 7, 9, 11, 13, 14, 15]) ⟨⟨_, rfl⟩, ⟨_, rfl⟩, ⟨_, rfl⟩, ⟨_, rfl⟩, ⟨_, rfl⟩, ⟨_, rfl⟩, ⟨_, rfl⟩, ⟨_, rfl⟩, ⟨_, rfl⟩, trivial⟩ (j := (s % 9).toNat) (by simp; omega)
  refine q_itemL rfl (led_isList (i := 0) D rfl) (by omega) (by omega) hn ?_
  refine ac ?_
  refine q_int fun t3 => ?_
  refine ac ?_
  refine q_int fun t4 => ?_
  refine ac ?_
  refine q_int fun t5 => ?_
  refine ac ?_
  refine q_int fun t6 => ?_
  refine ac ?_
  refine q_int fun t7 => ?_
  refine ac ?_
  refine q_int fun t8 => ?_
  refine a_nil ?_
  refine d_newList D (show 8 ≤ sizeLine by decide) fun p2 h₃ D => ?_
  refine q_BinOp ?_
  refine dl D ?_
  refine q_int fun t9 => ?_
  refine q_div (by decide) (by decide) fun t9 => ?_
  obtain ⟨tk, hk⟩ := ints_at (vs := [.int 8 t1, .int (nine s) tn, .int 6 t3, .int 2 t4, .int 4 t5, .int 10 t6, .int 1 t7, .int 12 t8]) (xs := [8, nine s, 6, 2, 4, 10, 1, 12]) ⟨⟨_, rfl⟩, ⟨_, rfl⟩, ⟨_, rfl⟩, ⟨_, rfl⟩, ⟨_, rfl⟩, ⟨_, rfl⟩, ⟨_, rfl⟩, ⟨_, rfl⟩, trivial⟩ (j := (n / 4096).toNat) (by simp; omega)
  refine q_itemL rfl (led_isList (i := 0) D rfl) (by omega) (by omega) hk ?_
  refine ds D fun h₄ D => ?_
  refine s_cons ?_
  refine sA ?_
  refine q_int fun t0 => ?_
  refine ds D fun h₅ D => ?_
  refine s_cons ?_
  refine sF ?_
  refine q_CallN ?_
  refine db (.type "range") D G (n_range' c) b_range x_range ?_
  refine qw ?_
  refine ac ?_
  refine q_int fun _ => ?_
  refine a_nil ⟨kp_type, ?_⟩
  refine c_range1 D fun R _ _ _ h₆ D => ?_
  refine i_range (j := 0) (n := 3) D rfl rfl rfl fun I h₇ D => ?_
  refine for_range (n := 3) r'.handled (fun i l _ => (∃ t, lk l (Str.ofString "number") = some (.int n t)) ∧ (∃ t, lk l (Str.ofString "spare") = some (.int s t)) ∧ (∃ t, lk l (Str.ofString "kind") = some (.int (kindN n s) t)) ∧ (∃ t, lk l (Str.ofString "rights") = some (.int (rightsN n i) t))) ?turn ?done 3 0 0 3 I _ _ h₇ rfl (by decide) rfl rfl ⟨⟨t, rfl⟩, ⟨u, rfl⟩, ⟨tk, rfl⟩, ⟨t0, rfl⟩⟩ D
  case done =>
    rintro l news h ⟨⟨t, hn⟩, ⟨u, hs⟩, ⟨tk, hk⟩, ⟨tr, hr⟩⟩ D
    refine s_nil ?_
    show wq c _ (execs _ _) _ _
    refine s_cons ?_
    refine s_Return ?_
    refine q_BinOp ?_
    refine q_BinOp ?_
    refine q_BinOp ?_
    refine q_BinOp ?_
    refine q_BinOp ?_
    refine dv D hs ?_
    refine q_int fun _ => ?_
    refine q_div (by decide) (by decide) fun _ => ?_
    refine q_int fun _ => ?_
    refine q_mod (by decide) (by decide) fun _ => ?_
    refine q_int fun _ => ?_
    refine q_mul (IntMulOk.of_right (by decide)) fun _ => ?_
    refine q_BinOp ?_
    refine dv D hk ?_
    refine q_int fun _ => ?_
    refine q_mul (IntMulOk.of_right (by decide)) fun _ => ?_
    refine q_add fun _ => ?_
    refine dv D hr ?_
    refine q_add fun _ => ?_
    exact ⟨⟨_, rfl⟩, D.fr.keep⟩
  case turn =>
    rintro i t I o l news h hi ⟨⟨t, hn⟩, ⟨u, hs⟩, ⟨tk, hk⟩, ⟨tr, hr⟩⟩ D
    refine ds D fun h₁ D => ?_
    have hp : (2 - (i : Int)).toNat < 12 ∧ (11 - (i : Int)).toNat < 12 := by omega
    have e1 : (2 - (i : Int)) = ((2 - (i : Int)).toNat : Int) := by omega
    have e2 : (11 - (i : Int)) = ((11 - (i : Int)).toNat : Int) := by omega
    have z1 : (Builtin.Int.intBits 16 : Int) * (2 - (i : Int)) ≤ 2 ^ 27 := by rw [e1]; exact pow_small _ (.inl rfl) _ hp.1
    have z2 : (Builtin.Int.intBits 8 : Int) * (2 - (i : Int)) ≤ 2 ^ 27 := by rw [e1]; exact pow_small _ (.inr (.inl rfl)) _ hp.1
    have z3 : (Builtin.Int.intBits 2 : Int) * (11 - (i : Int)) ≤ 2 ^ 27 := by rw [e2]; exact pow_small _ (.inr (.inr rfl)) _ hp.2
    have b1 := pow_bound 16 (2 - (i : Int)).toNat (by decide) (by decide) (by omega)
    have b2 := pow_bound 8 (2 - (i : Int)).toNat (by decide) (by decide) (by omega)
    have b3 := pow_bound 2 (11 - (i : Int)).toNat (by decide) (by decide) (by omega)
    have m1 : Builtin.Int.intBits (8 ^ (2 - (i : Int)).toNat) ≤ 64 := intBits_le_64 (Int.lt_trans (by decide) b2.1) b2.2
    have m2 : Builtin.Int.intBits (2 ^ (11 - (i : Int)).toNat) ≤ 64 := intBits_le_64 (Int.lt_trans (by decide) b3.1) b3.2
    refine s_cons ?_
    refine sA ?_
    refine q_BinOp ?_
    refine q_BinOp ?_
    refine dv D hn ?_
    refine q_BinOp ?_
    refine q_int fun _ => ?_
    refine q_BinOp ?_
    refine q_int fun _ => ?_
    refine dl D ?_
    refine q_sub fun _ => ?_
    refine q_pow (by omega) z1 fun _ => ?_
    refine q_div b1.1 b1.2 fun _ => ?_
    refine q_int fun _ => ?_
    refine q_mod (by decide) (by decide) fun _ => ?_
    refine ds D fun h₂ D => ?_
    refine s_cons ?_
    refine sA ?_
    refine q_BinOp ?_
    refine q_BinOp ?_
    refine dl D ?_
    refine q_int fun _ => ?_
    refine q_div (by decide) (by decide) fun _ => ?_
    refine q_int fun _ => ?_
    refine q_mod (by decide) (by decide) fun _ => ?_
    refine ds D fun h₃ D => ?_
    refine s_cons ?_
    refine sA ?_
    refine q_BinOp ?_
    refine dv D hr ?_
    refine q_BinOp ?_
    refine q_BinOp ?_
    refine q_BinOp ?_
    refine q_BinOp ?_
    refine dl D ?_
    refine q_int fun _ => ?_
    refine q_div (by decide) (by decide) fun _ => ?_
    refine q_int fun _ => ?_
    refine q_mul (IntMulOk.of_right (by decide)) fun _ => ?_
    refine dl D ?_
    refine q_add fun _ => ?_
    refine q_BinOp ?_
    refine q_int fun _ => ?_
    refine q_BinOp ?_
    refine q_int fun _ => ?_
    refine dl D ?_
    refine q_sub fun _ => ?_
    refine q_pow (by omega) z2 fun _ => ?_
    refine q_mul (IntMulOk.of_right m1) fun _ => ?_
    refine q_add fun _ => ?_
    refine ds D fun h₄ D => ?_
    refine s_cons ?_
    refine sA ?_
    refine q_BinOp ?_
    refine dl D ?_
    refine q_BinOp ?_
    refine q_BinOp ?_
    refine q_BinOp ?_
    refine dl D ?_
    refine dl D ?_
    refine q_add fun _ => ?_
    refine q_int fun _ => ?_
    refine q_mod (by decide) (by decide) fun _ => ?_
    refine q_BinOp ?_
    refine q_int fun _ => ?_
    refine q_BinOp ?_
    refine q_int fun _ => ?_
    refine dl D ?_
    refine q_sub fun _ => ?_
    refine q_pow (by omega) z3 fun _ => ?_
    refine q_mul (IntMulOk.of_right m2) fun _ => ?_
    refine q_add fun _ => ?_
    refine ds D fun h₄ D => ?_
    exact s_nil ⟨_, _, D, ⟨⟨t, hn⟩, ⟨u, hs⟩, ⟨tk, hk⟩, ⟨_, rfl⟩⟩⟩
end Mine
end
section
open PySem PySem.W PyProof.Rows PySem.Calls PySem.W.X
set_option Elab.async false
set_option maxRecDepth 100000
set_option maxHeartbeats 4000000
set_option linter.unusedVariables false
namespace Mine
def apart (a b : Nat → Nat) (i : Nat) : Nat → Int
  | 0 => 0
  | k + 1 => if a i = b i then apart a b (i + 1) k else (a i : Int) - (b i : Int)
theorem lawapart {c : Cx} {A : Around} {h : Heap} {mg mb : Str → Option Value} {x y : Str} {t u : Tok} {a b : Nat → Nat} (r : Room A 1 3) (G : Gd (K2 c) mg mb h) (hx : ∀ i, i < 10 → x.cps[i]? = some (a i)) (hy : ∀ i, i < 10 → y.cps[i]? = some (b i)) :
    wq c A (call (.ref 91) [.str x t, .str y u]) (fun v h' => (∃ t, v = .int (apart a b 0 10) t) ∧ Keep h h') h := by
  refine q_def (d := 0) (u := 0) (binds := [(Str.ofString "a", .str x t), (Str.ofString "b", .str y u)]) r (G.X 91 _ rfl) rfl G.lim ?a ?b ?c ?d ?e ?f ?g ?_
  case a => exact codeRec_of G.X rfl
  case b => exact fun s _ => BindsTo.of_eq rfl
  case c => decide
  case d => exact locs rfl
  case e => exact rfl
  case f => exact rfl
  case g => exact rfl
  intro L h₁ F N r'
  have D := led_start F
  clear F N
  refine s_cons ?_
  refine sF ?_
  refine q_CallN ?_
  refine db (.type "range") D G (n_range' c) b_range x_range ?_
  refine qw ?_
  refine ac ?_
  refine q_int fun _ => ?_
  refine a_nil ⟨kp_type, ?_⟩
  refine c_range1 D fun R _ _ _ h₆ D => ?_
  refine i_range (j := 0) (n := 10) D rfl rfl rfl fun I h₇ D => ?_
  refine for_range (n := 10) r'.handled (fun i l _ => (∃ t, lk l (Str.ofString "a") = some (.str x t)) ∧ (∃ t, lk l (Str.ofString "b") = some (.str y t)) ∧ apart a b 0 10 = apart a b i (10 - i)) ?turn ?done 10 0 0 10 I _ _ h₇ rfl (by decide) rfl rfl ⟨⟨t, rfl⟩, ⟨u, rfl⟩, rfl⟩ D
  case done =>
    rintro l news h ⟨⟨t, ha⟩, ⟨u, hb⟩, he⟩ D
    refine s_nil ?_
    show wq c _ (execs _ _) _ _
    refine s_cons ?_
    refine s_Return ?_
    refine q_int fun t => ?_
    exact ⟨⟨t, by rw [he]; rfl⟩, D.fr.keep⟩
  case turn =>
    rintro i ti I o l news h hi ⟨⟨t, ha⟩, ⟨u, hb⟩, he⟩ D
    have hi63 : i < 2 ^ 63 := by omega
    have e10 : apart a b i (10 - i) = if a i = b i then apart a b (i + 1) (10 - (i + 1)) else (a i : Int) - (b i : Int) := by
      obtain ⟨k, hk⟩ : ∃ k, 10 - i = k + 1 := ⟨9 - i, by omega⟩
      rw [hk, show 10 - (i + 1) = k by omega]; rfl
    refine ds D fun h₁ D => ?_
    refine s_cons ?_
    refine s_If ?_
    refine tC ?_
    refine q_Subscript ?_
    refine dv D ha ?_
    refine dl D ?_
    refine q_strItem rfl hi63 (hx i hi) fun t1 => ?_
    refine q_Subscript ?_
    refine dv D hb ?_
    refine dl D ?_
    refine q_strItem rfl hi63 (hy i hi) fun t2 => ?_
    refine q_neStr ?_
    refine t_bool ?_
    by_cases hab : a i = b i
    · rw [if_neg (by simp [hab])]
      refine s_nil (s_nil ⟨_, _, D, ⟨⟨t, ha⟩, ⟨u, hb⟩, ?_⟩⟩)
      rw [he, e10, if_pos hab]
    · rw [if_pos (by simp [hab])]
      refine s_cons ?_
      refine s_Return ?_
      refine q_BinOp ?_
      refine q_CallN ?_
      refine db (.builtin "ord") D G (n_ord c) b_ord x_ord ?_
      refine qw ?_
      refine ac ?_
      refine q_Subscript ?_
      refine dv D ha ?_
      refine dl D ?_
      refine q_strItem rfl hi63 (hx i hi) fun t3 => ?_
      refine a_nil ⟨kp_bi, ?_⟩
      refine c_ord fun t4 => ?_
      refine q_CallN ?_
      refine db (.builtin "ord") D G (n_ord c) b_ord x_ord ?_
      refine qw ?_
      refine ac ?_
      refine q_Subscript ?_
      refine dv D hb ?_
      refine dl D ?_
      refine q_strItem rfl hi63 (hy i hi) fun t5 => ?_
      refine a_nil ⟨kp_bi, ?_⟩
      refine c_ord fun t6 => ?_
      refine q_sub fun t7 => ?_
      refine ⟨⟨t7, ?_⟩, D.fr.keep⟩
      rw [he, e10, if_neg hab]
end Mine
end
section
open PySem PySem.W PyProof.Rows PySem.Calls PySem.W.X
set_option Elab.async false
set_option maxRecDepth 100000
set_option maxHeartbeats 4000000
set_option linter.unusedVariables false
namespace Mine
/-- the body of the class that cmp_to_key makes -/
noncomputable def clsBody (c : Cx) : List Stmt := match (K2 c).lookup 21 with
  | some ⟨_, _, .func fd, _⟩ => (match fd.body with
    | .stmts (.ClassDef _ _ _ body _ _ _ _ _ _ _ :: _) => body
    | _ => [])
  | _ => []
/-- one of its methods, as a function -/
noncomputable def mFn (c : Cx) (i : Nat) (clos : List (Str × Addr)) (doc pm : Value) (c' : Addr) (ctv : Value) : Obj := match (clsBody c)[i + 2]? with
  | some (.FunctionDef n ps b _ _ _ sc _ _ _) => fnMade n (Str.ofString "cmp_to_key.<locals>.K." ++ n) ps b sc clos doc pm c' ctv
  | _ => default
abbrev mName : Nat → Str
  | 0 => Str.ofString "__init__"
  | 1 => Str.ofString "__lt__"
  | 2 => Str.ofString "__gt__"
  | 3 => Str.ofString "__eq__"
  | 4 => Str.ofString "__le__"
  | _ => Str.ofString "__ge__"
abbrev mClos (cel : Addr) : Nat → List (Str × Addr)
  | 0 => []
  | _ => [(Str.ofString "mycmp", cel)]
structure KeyF (c : Cx) (K : Frag) (C ns p cel : Addr) (f cc : Nat → Addr) : Prop where
  cls : ∃ k0 k1 k2 k3 k5 nm bs q, K.lookup C = some (excClassObj nm q C ns bs [.type "object"] false [Str.ofString "obj"] [] false none none k0 k1 k2 k3 k5 "object.__new__")
  dict : ∃ o es n, K.lookup ns = some o ∧ o.data = .dict es n ∧ StrKeys es ∧ nsFind es (Str.ofString "__eq__") = some (.ref (f 3)) ∧ nsFind es (Str.ofString "__ne__") = none
  own : ∀ i, i < 6 → nsIn K ns (mName i) = some (some (.ref (f i)))
  obj : nsIn K ns (Str.ofString "obj") = some (some (.ref p))
  ga : nsIn K ns (Str.ofString "__getattribute__") = some none
  gb : nsIn K ns (Str.ofString "__getattr__") = some none
  sa : nsIn K ns (Str.ofString "__setattr__") = some none
  ne : nsIn K ns (Str.ofString "__ne__") = some none
  desc : ∃ t, K.lookup p = some ⟨.type "member_descriptor", none, .fields #[.str (Str.ofString "obj") t, .ref C, .builtin "proto.slot", .builtin "proto.slot#set", rawInt 0], #[]⟩
  cell : ∃ o, K.lookup cel = some o ∧ o.data = .cell (some (.ref 91))
  fn : ∀ i, i < 6 → ∃ doc pm ctv, K.lookup (f i) = some (mFn c i (mClos cel i) doc pm (cc i) ctv)
  code : ∀ i, i < 6 → ∃ o vs t, K.lookup (cc i) = some o ∧ o.data = .fields vs ∧ vs[1]? = some (.str (Str.ofString "cmp_to_key.<locals>.K." ++ mName i) t)
section facts
variable {c : Cx} {K : Frag} {C ns p cel : Addr} {f cc : Nat → Addr}
theorem KeyF.find (Y : KeyF c K C ns p cel f cc) {name : Str} {v : Value} (e : nsIn K ns name = some (some v)) : findIn K (.ref C) name = some (some v) := by
  obtain ⟨k0, k1, k2, k3, k5, nm, bs, q, hC⟩ := Y.cls
  simp only [findIn, hC, alongIn, ownIn, e]
theorem KeyF.miss (Y : KeyF c K C ns p cel f cc) {name : Str} (e : nsIn K ns name = some none) : findIn K (.ref C) name = some (fastBuiltinOwn "object" name) := by
  obtain ⟨k0, k1, k2, k3, k5, nm, bs, q, hC⟩ := Y.cls
  simp only [findIn, hC, alongIn, ownIn, e]
  cases fastBuiltinOwn "object" name <;> rfl
theorem KeyF.clsIn (Y : KeyF c K C ns p cel f cc) : ∃ nm bs q, clsIn K C = some { name := nm, bases := bs, mro := [.ref C, .type "object"], ns := ns, qualname := q, hasDict := false, slotNames := [Str.ofString "obj"] } := by
  obtain ⟨k0, k1, k2, k3, k5, nm, bs, q, hC⟩ := Y.cls
  exact ⟨nm, bs, q, by simp only [PySem.W.clsIn, hC]⟩
theorem KeyF.fnT (Y : KeyF c K C ns p cel f cc) {i : Nat} (hi : i < 6) (hT : ∀ doc pm ctv, ∃ d sl fd, mFn c i (mClos cel i) doc pm (cc i) ctv = ⟨.type "function", d, .func fd, sl⟩) : typeIn K (.ref (f i)) = some (.type "function") := by
  obtain ⟨doc, pm, ctv, e⟩ := Y.fn i hi
  obtain ⟨d, sl, fd, e2⟩ := hT doc pm ctv
  simp only [typeIn, e, e2]; rfl
theorem KeyF.plain (Y : KeyF c K C ns p cel f cc) (name : Str) : plainGet K C name = true := by
  unfold plainGet
  rw [Y.miss Y.ga, Y.miss Y.gb]
  kernel_rfl
theorem KeyF.makes (Y : KeyF c K C ns p cel f cc) : makesIn K C = true := by
  obtain ⟨k0, k1, k2, k3, k5, nm, bs, q, hC⟩ := Y.cls
  have t1 : typeIn K (.ref C) = some (.type "type") := by simp only [typeIn, hC]; rfl
  have t2 : specialIn K (.ref C) "__call__" = some (some (.builtin "type.__call__")) := by
    simp only [specialIn, t1, Option.bind_some]; kernel_rfl
  have t3 : instIn K (.ref C) (.type "type") = some true := by
    simp only [instIn, t1, Option.bind_some]; kernel_rfl
  simp only [makesIn, hC, t2, t3]
  simp
theorem KeyF.slot (Y : KeyF c K C ns p cel f cc) : slotIn K p C = some 0 := by
  obtain ⟨t, e⟩ := Y.desc
  obtain ⟨nm, bs, q, hC⟩ := Y.clsIn
  simp [slotIn, recIn, e, hC, rawInt]
theorem KeyF.spec (Y : KeyF c K C ns p cel f cc) (name : Str) : specialIn K (.ref p) name = fastLookup "member_descriptor" name := by
  obtain ⟨t, e⟩ := Y.desc
  simp only [specialIn, typeIn, e, findIn]; rfl
theorem KeyF.get (Y : KeyF c K C ns p cel f cc) : specialIn K (.ref p) "__get__" = some (some (.builtin "member_descriptor.__get__")) := by
  rw [Y.spec]; kernel_rfl
theorem KeyF.takes (Y : KeyF c K C ns p cel f cc) : takesIn K (.ref p) = some true := by
  unfold takesIn
  rw [Y.spec]; kernel_rfl
theorem KeyF.taker (Y : KeyF c K C ns p cel f cc) : takerIn K C (Str.ofString "obj") = some (some (.ref p)) := by
  unfold takerIn
  rw [Y.find Y.obj]
  simp [Y.takes]
theorem KeyF.over (Y : KeyF c K C ns p cel f cc) : plainOver K C = true := by
  obtain ⟨nm, bs, q, hC⟩ := Y.clsIn
  simp [plainOver, hC, onlyObject]
end facts
end Mine
end
section
open PySem PySem.W PyProof.Rows PySem.Calls PySem.W.X
set_option Elab.async false
set_option maxRecDepth 100000
set_option maxHeartbeats 4000000
set_option linter.unusedVariables false
namespace Mine
/-- the class of the keys stands in the heap -/
def KeyC (c : Cx) (h : Heap) (C : Addr) : Prop := ∃ K ns p cel f cc, KeyF c K C ns p cel f cc ∧ K.In h
theorem KeyC.keeps {c : Cx} {h h' : Heap} {C : Addr} (x : KeyC c h C) (k : Keep h h') : KeyC c h' C := let ⟨K, ns, p, cel, f, cc, Y, X⟩ := x; ⟨K, ns, p, cel, f, cc, Y, X.keeps k⟩
/-- a key for a text -/
def KeyO (h : Heap) (x C : Addr) (s : Str) : Prop := ∃ dx t od, h.get? x = some ⟨.ref C, some dx, .plain, #[some (.str s t)]⟩ ∧ h.get? dx = some od
theorem KeyO.keeps {h h' : Heap} {x C : Addr} {s : Str} (y : KeyO h x C s) (k : Keep h h') : KeyO h' x C s := let ⟨dx, t, od, a, b⟩ := y; ⟨dx, t, od, k _ _ a, k _ _ b⟩
section
variable {c : Cx} {A : Around} {h h₀ : Heap} {mg mb : Str → Option Value} {K : Frag} {C ns p cel x y : Addr} {f cc : Nat → Addr} {L a : Addr} {m : Str → Option Value} {env : Env} {pos : Pos}
theorem q_Attr {n attr : Str} {np : Pos} {Q : Value → Heap → Prop} (H : wq c A (eval (.Name n np) env) (fun o h₁ => wq c A (getAttr o attr true) Q h₁) h) : wq c A (eval (.Attribute (.Name n np) attr pos) env) Q h :=
  wq.of fun _ _ k => Attribute_name (H.go fun _ _ _ H₁ => H₁.go k)
theorem q_obj {s : Str} {Q : Value → Heap → Prop} (F : Fr h₀ L h m) (Y : KeyF c K C ns p cel f cc) (X : K.In h₀) (O : KeyO h x C s) (q : ∀ t, Q (.str s t) h) : wq c A (getAttr (.ref x) (Str.ofString "obj") true) Q h := by
  obtain ⟨dx, t, od, e, ed⟩ := O
  exact wq.of fun _ _ k => get_slot (ox := ⟨.ref C, some dx, .plain, #[some (.str s t)]⟩) (od := od) F X ⟨e, rfl, rfl, ed⟩ (Y.plain _) (by unfold isClsIn; obtain ⟨nm, bs, q, e⟩ := Y.clsIn; rw [e]; rfl) (Y.find Y.obj) Y.get Y.takes Y.slot (v := .str s t) rfl rfl (k _ _ _ (q t))
theorem KeyF.codeRec (Y : KeyF c K C ns p cel f cc) (X : K.In h) {i : Nat} (hi : i < 6) : h.CodeRec (.ref (cc i)) (Str.ofString "cmp_to_key.<locals>.K." ++ mName i) := by
  obtain ⟨o, vs, t, e, d, q⟩ := Y.code i hi
  exact ⟨cc i, o, vs, t, rfl, X _ _ e, d, q⟩
theorem q_method {s₁ s₂ : Str} {i : Nat} {op : CmpOp} {z : Bool} (hi : i < 6) (r : A.units < cLine) (F : Fr h₀ L h m) (Y : KeyF c K C ns p cel f cc) (X : K.In h₀) (O₁ : KeyO h x C s₁) (O₂ : KeyO h y C s₂)
    (hT : ∀ doc pm ctv, ∃ d sl fd, mFn c i (mClos cel i) doc pm (cc i) ctv = ⟨.type "function", d, .func fd, sl⟩) (hop : (cmpInfo op).2.1 = mName i) 
    (H : wq c A (call (.ref (f i)) [.ref x, .ref y]) (fun v h' => v = .bool z ∧ Keep h h') h) :
    wq c A (richCompare op (.ref x) (.ref y)) (fun v h' => v = .bool z ∧ Keep h h') h := by
  obtain ⟨dx, t, od, e, ed⟩ := O₁
  obtain ⟨dy, u, oy, e2, ed2⟩ := O₂
  have I : InstAt h x ⟨.ref C, some dx, .plain, #[some (.str s₁ t)]⟩ C (some od) := ⟨e, rfl, rfl, ed⟩
  have I2 : InstAt h y ⟨.ref C, some dy, .plain, #[some (.str s₂ u)]⟩ C (some oy) := ⟨e2, rfl, rfl, ed2⟩
  have hnf : notFirst K C (.ref C) = true := by simp [notFirst]
  refine wq.of fun tk Q' k => cmp_K (tb := .ref C) r F X I I2.type hnf (by rw [hop]; exact Y.find (Y.own i hi)) (by unfold isFn; rw [Y.fnT hi hT]; rfl) (H.go fun v h' tk' q => ?_)
  obtain ⟨rfl, q⟩ := q
  exact k _ _ _ ⟨rfl, q⟩
theorem m_lt {s₁ s₂ : Str} {a b : Nat → Nat} (r : Room A 2 6) (G : Gd (K2 c) mg mb h) (Y : KeyF c K C ns p cel f cc) (X : K.In h) (O₁ : KeyO h x C s₁) (O₂ : KeyO h y C s₂) (hx : ∀ i, i < 10 → s₁.cps[i]? = some (a i)) (hy : ∀ i, i < 10 → s₂.cps[i]? = some (b i)) :
    wq c A (call (.ref (f 1)) [.ref x, .ref y]) (fun v h' => v = .bool (decide (apart a b 0 10 < 0)) ∧ Keep h h') h := by
  obtain ⟨doc, pm, ctv, e⟩ := Y.fn 1 (by decide)
  refine q_def (d := 1) (u := 3) (binds := [(Str.ofString "self", .ref x), (Str.ofString "other", .ref y)]) r (X _ _ e) rfl G.lim ?a ?b ?c ?d ?e ?f ?g ?_
  case a => exact Y.codeRec X (i := 1) (by decide)
  case b => exact fun s _ => BindsTo.of_eq rfl
  case c => decide
  case d => exact locs rfl
  case e => exact rfl
  case f => exact rfl
  case g => exact rfl
  intro L h₁ F N r'
  have D := led_start F
  obtain ⟨oc, ec, dc⟩ := Y.cell
  refine s_cons ?_
  refine s_Return ?_
  refine qC ?_
  refine q_CallN ?_
  refine q_free (cA := cel) rfl (F.keep _ _ (X _ _ ec)) dc rfl rfl rfl rfl ?_
  refine qw ?_
  refine ac ?_
  refine q_Attr ?_
  refine dl D ?_
  refine q_obj F Y X (O₁.keeps F.keep) fun t1 => ?_
  refine ac ?_
  refine q_Attr ?_
  refine dl D ?_
  refine q_obj F Y X (O₂.keeps F.keep) fun t2 => ?_
  refine a_nil ⟨kp_fn ((G.keeps F.keep).X 91 _ rfl) rfl, ?_⟩
  refine wq.mono (lawapart (r'.le (by decide) (by decide)) (G.keeps F.keep) hx hy) fun v h₂ H => ?_
  obtain ⟨⟨t3, rfl⟩, k₂⟩ := H
  refine q_int fun t4 => ?_
  refine q_lt ?_
  exact ⟨rfl, Keep.trans F.keep k₂⟩
theorem m_gt {s₁ s₂ : Str} {a b : Nat → Nat} (r : Room A 2 6) (G : Gd (K2 c) mg mb h) (Y : KeyF c K C ns p cel f cc) (X : K.In h) (O₁ : KeyO h x C s₁) (O₂ : KeyO h y C s₂) (hx : ∀ i, i < 10 → s₁.cps[i]? = some (a i)) (hy : ∀ i, i < 10 → s₂.cps[i]? = some (b i)) :
    wq c A (call (.ref (f 2)) [.ref x, .ref y]) (fun v h' => v = .bool (decide (0 < apart a b 0 10)) ∧ Keep h h') h := by
  obtain ⟨doc, pm, ctv, e⟩ := Y.fn 2 (by decide)
  refine q_def (d := 1) (u := 3) (binds := [(Str.ofString "self", .ref x), (Str.ofString "other", .ref y)]) r (X _ _ e) rfl G.lim ?a ?b ?c ?d ?e ?f ?g ?_
  case a => exact Y.codeRec X (i := 2) (by decide)
  case b => exact fun s _ => BindsTo.of_eq rfl
  case c => decide
  case d => exact locs rfl
  case e => exact rfl
  case f => exact rfl
  case g => exact rfl
  intro L h₁ F N r'
  have D := led_start F
  obtain ⟨oc, ec, dc⟩ := Y.cell
  refine s_cons ?_
  refine s_Return ?_
  refine qC ?_
  refine q_CallN ?_
  refine q_free (cA := cel) rfl (F.keep _ _ (X _ _ ec)) dc rfl rfl rfl rfl ?_
  refine qw ?_
  refine ac ?_
  refine q_Attr ?_
  refine dl D ?_
  refine q_obj F Y X (O₁.keeps F.keep) fun t1 => ?_
  refine ac ?_
  refine q_Attr ?_
  refine dl D ?_
  refine q_obj F Y X (O₂.keeps F.keep) fun t2 => ?_
  refine a_nil ⟨kp_fn ((G.keeps F.keep).X 91 _ rfl) rfl, ?_⟩
  refine wq.mono (lawapart (r'.le (by decide) (by decide)) (G.keeps F.keep) hx hy) fun v h₂ H => ?_
  obtain ⟨⟨t3, rfl⟩, k₂⟩ := H
  refine q_int fun t4 => ?_
  refine q_gt ?_
  exact ⟨rfl, Keep.trans F.keep k₂⟩
theorem m_eq {s₁ s₂ : Str} {a b : Nat → Nat} (r : Room A 2 6) (G : Gd (K2 c) mg mb h) (Y : KeyF c K C ns p cel f cc) (X : K.In h) (O₁ : KeyO h x C s₁) (O₂ : KeyO h y C s₂) (hx : ∀ i, i < 10 → s₁.cps[i]? = some (a i)) (hy : ∀ i, i < 10 → s₂.cps[i]? = some (b i)) :
    wq c A (call (.ref (f 3)) [.ref x, .ref y]) (fun v h' => v = .bool ((apart a b 0 10 == 0)) ∧ Keep h h') h := by
  obtain ⟨doc, pm, ctv, e⟩ := Y.fn 3 (by decide)
  refine q_def (d := 1) (u := 3) (binds := [(Str.ofString "self", .ref x), (Str.ofString "other", .ref y)]) r (X _ _ e) rfl G.lim ?a ?b ?c ?d ?e ?f ?g ?_
  case a => exact Y.codeRec X (i := 3) (by decide)
  case b => exact fun s _ => BindsTo.of_eq rfl
  case c => decide
  case d => exact locs rfl
  case e => exact rfl
  case f => exact rfl
  case g => exact rfl
  intro L h₁ F N r'
  have D := led_start F
  obtain ⟨oc, ec, dc⟩ := Y.cell
  refine s_cons ?_
  refine s_Return ?_
  refine qC ?_
  refine q_CallN ?_
  refine q_free (cA := cel) rfl (F.keep _ _ (X _ _ ec)) dc rfl rfl rfl rfl ?_
  refine qw ?_
  refine ac ?_
  refine q_Attr ?_
  refine dl D ?_
  refine q_obj F Y X (O₁.keeps F.keep) fun t1 => ?_
  refine ac ?_
  refine q_Attr ?_
  refine dl D ?_
  refine q_obj F Y X (O₂.keeps F.keep) fun t2 => ?_
  refine a_nil ⟨kp_fn ((G.keeps F.keep).X 91 _ rfl) rfl, ?_⟩
  refine wq.mono (lawapart (r'.le (by decide) (by decide)) (G.keeps F.keep) hx hy) fun v h₂ H => ?_
  obtain ⟨⟨t3, rfl⟩, k₂⟩ := H
  refine q_int fun t4 => ?_
  refine q_eq ?_
  exact ⟨rfl, Keep.trans F.keep k₂⟩
theorem m_le {s₁ s₂ : Str} {a b : Nat → Nat} (r : Room A 2 6) (G : Gd (K2 c) mg mb h) (Y : KeyF c K C ns p cel f cc) (X : K.In h) (O₁ : KeyO h x C s₁) (O₂ : KeyO h y C s₂) (hx : ∀ i, i < 10 → s₁.cps[i]? = some (a i)) (hy : ∀ i, i < 10 → s₂.cps[i]? = some (b i)) :
    wq c A (call (.ref (f 4)) [.ref x, .ref y]) (fun v h' => v = .bool (decide (apart a b 0 10 ≤ 0)) ∧ Keep h h') h := by
  obtain ⟨doc, pm, ctv, e⟩ := Y.fn 4 (by decide)
  refine q_def (d := 1) (u := 3) (binds := [(Str.ofString "self", .ref x), (Str.ofString "other", .ref y)]) r (X _ _ e) rfl G.lim ?a ?b ?c ?d ?e ?f ?g ?_
  case a => exact Y.codeRec X (i := 4) (by decide)
  case b => exact fun s _ => BindsTo.of_eq rfl
  case c => decide
  case d => exact locs rfl
  case e => exact rfl
  case f => exact rfl
  case g => exact rfl
  intro L h₁ F N r'
  have D := led_start F
  obtain ⟨oc, ec, dc⟩ := Y.cell
  refine s_cons ?_
  refine s_Return ?_
  refine qC ?_
  refine q_CallN ?_
  refine q_free (cA := cel) rfl (F.keep _ _ (X _ _ ec)) dc rfl rfl rfl rfl ?_
  refine qw ?_
  refine ac ?_
  refine q_Attr ?_
  refine dl D ?_
  refine q_obj F Y X (O₁.keeps F.keep) fun t1 => ?_
  refine ac ?_
  refine q_Attr ?_
  refine dl D ?_
  refine q_obj F Y X (O₂.keeps F.keep) fun t2 => ?_
  refine a_nil ⟨kp_fn ((G.keeps F.keep).X 91 _ rfl) rfl, ?_⟩
  refine wq.mono (lawapart (r'.le (by decide) (by decide)) (G.keeps F.keep) hx hy) fun v h₂ H => ?_
  obtain ⟨⟨t3, rfl⟩, k₂⟩ := H
  refine q_int fun t4 => ?_
  refine q_le ?_
  exact ⟨rfl, Keep.trans F.keep k₂⟩
theorem m_ge {s₁ s₂ : Str} {a b : Nat → Nat} (r : Room A 2 6) (G : Gd (K2 c) mg mb h) (Y : KeyF c K C ns p cel f cc) (X : K.In h) (O₁ : KeyO h x C s₁) (O₂ : KeyO h y C s₂) (hx : ∀ i, i < 10 → s₁.cps[i]? = some (a i)) (hy : ∀ i, i < 10 → s₂.cps[i]? = some (b i)) :
    wq c A (call (.ref (f 5)) [.ref x, .ref y]) (fun v h' => v = .bool (decide (0 ≤ apart a b 0 10)) ∧ Keep h h') h := by
  obtain ⟨doc, pm, ctv, e⟩ := Y.fn 5 (by decide)
  refine q_def (d := 1) (u := 3) (binds := [(Str.ofString "self", .ref x), (Str.ofString "other", .ref y)]) r (X _ _ e) rfl G.lim ?a ?b ?c ?d ?e ?f ?g ?_
  case a => exact Y.codeRec X (i := 5) (by decide)
  case b => exact fun s _ => BindsTo.of_eq rfl
  case c => decide
  case d => exact locs rfl
  case e => exact rfl
  case f => exact rfl
  case g => exact rfl
  intro L h₁ F N r'
  have D := led_start F
  obtain ⟨oc, ec, dc⟩ := Y.cell
  refine s_cons ?_
  refine s_Return ?_
  refine qC ?_
  refine q_CallN ?_
  refine q_free (cA := cel) rfl (F.keep _ _ (X _ _ ec)) dc rfl rfl rfl rfl ?_
  refine qw ?_
  refine ac ?_
  refine q_Attr ?_
  refine dl D ?_
  refine q_obj F Y X (O₁.keeps F.keep) fun t1 => ?_
  refine ac ?_
  refine q_Attr ?_
  refine dl D ?_
  refine q_obj F Y X (O₂.keeps F.keep) fun t2 => ?_
  refine a_nil ⟨kp_fn ((G.keeps F.keep).X 91 _ rfl) rfl, ?_⟩
  refine wq.mono (lawapart (r'.le (by decide) (by decide)) (G.keeps F.keep) hx hy) fun v h₂ H => ?_
  obtain ⟨⟨t3, rfl⟩, k₂⟩ := H
  refine q_int fun t4 => ?_
  refine q_ge ?_
  exact ⟨rfl, Keep.trans F.keep k₂⟩
theorem mk_ne {s₁ s₂ : Str} {z : Bool} (r : A.units + 1 < cLine) (Y : KeyF c K C ns p cel f cc) (X : K.In h) (O₁ : KeyO h x C s₁) (O₂ : KeyO h y C s₂)
    (hT : ∀ doc pm ctv, ∃ d sl fd, mFn c 3 (mClos cel 3) doc pm (cc 3) ctv = ⟨.type "function", d, .func fd, sl⟩)
    (H : wq c A.in1 (call (.ref (f 3)) [.ref x, .ref y]) (fun v h' => v = .bool z ∧ Keep h h') h) :
    wq c A (compareOp .NotEq (.ref x) (.ref y)) (fun v h' => v = .bool (!z) ∧ Keep h h') h := by
  obtain ⟨dx, t, od, e, ed⟩ := O₁
  obtain ⟨dy, u, oy, e2, ed2⟩ := O₂
  obtain ⟨k0, k1, k2, k3, k5, nm, bs, q, hC⟩ := Y.cls
  obtain ⟨on, es, n, hN, hd, hs, h1, h2⟩ := Y.dict
  obtain ⟨doc, pm, ctv, hf⟩ := Y.fn 3 (by decide)
  obtain ⟨d3, sl3, fd3, e3⟩ := hT doc pm ctv
  have W : h.OwnEqNoNe x C (f 3) "object" [.type "object"] := ⟨_, _, nm, q, ns, bs, false, [Str.ofString "obj"], [], false, none, none, k0, k1, k2, k3, k5, "object.__new__", fun x => nsFind es x, _, e, rfl, X _ _ hC, ⟨on, es, n, X _ _ hN, hd, hs, fun _ => rfl⟩, h1, X _ _ hf, by rw [e3], F.cmp_object.mro, F.cmp_object.eq.lookup, h2⟩
  exact wq.of fun tk Q' k => compareOp_ne_ownEq F.cmp_object W e2 rfl r (H.go fun v h' tk' q => ⟨z, q.1, k _ _ _ ⟨rfl, q.2⟩⟩)
theorem fnShape {i : Nat} (hi : i < 6) (cl : List (Str × Addr)) (c' : Addr) : ∀ doc pm ctv, ∃ d sl fd, mFn c i cl doc pm c' ctv = ⟨.type "function", d, .func fd, sl⟩ := by
  intro doc pm ctv
  match i, hi with
  | 0, _ => exact ⟨_, _, _, rfl⟩
  | 1, _ => exact ⟨_, _, _, rfl⟩
  | 2, _ => exact ⟨_, _, _, rfl⟩
  | 3, _ => exact ⟨_, _, _, rfl⟩
  | 4, _ => exact ⟨_, _, _, rfl⟩
  | 5, _ => exact ⟨_, _, _, rfl⟩
variable {s₁ s₂ : Str} {a b : Nat → Nat} (r : Room A 2 7) (F : Fr h₀ L h m) (G : Gd (K2 c) mg mb h₀) (Kc : KeyC c h₀ C) (O₁ : KeyO h x C s₁) (O₂ : KeyO h y C s₂) (hx : ∀ i, i < 10 → s₁.cps[i]? = some (a i)) (hy : ∀ i, i < 10 → s₂.cps[i]? = some (b i))
include r F G Kc O₁ O₂ hx hy
theorem k_lt : wq c A (compareOp .Lt (.ref x) (.ref y)) (fun v h' => v = .bool (decide (apart a b 0 10 < 0)) ∧ Keep h h') h := by
  obtain ⟨K, ns, p, cel, f, cc, Y, X⟩ := Kc
  exact q_method (i := 1) (op := .Lt) (by decide) r.cl F Y X O₁ O₂ (fnShape (by decide) _ _) rfl (m_lt (r.le (by decide) (by decide)) (G.keeps F.keep) Y (X.keeps F.keep) O₁ O₂ hx hy)
theorem k_gt : wq c A (compareOp .Gt (.ref x) (.ref y)) (fun v h' => v = .bool (decide (0 < apart a b 0 10)) ∧ Keep h h') h := by
  obtain ⟨K, ns, p, cel, f, cc, Y, X⟩ := Kc
  exact q_method (i := 2) (op := .Gt) (by decide) r.cl F Y X O₁ O₂ (fnShape (by decide) _ _) rfl (m_gt (r.le (by decide) (by decide)) (G.keeps F.keep) Y (X.keeps F.keep) O₁ O₂ hx hy)
theorem k_eq : wq c A (compareOp .Eq (.ref x) (.ref y)) (fun v h' => v = .bool ((apart a b 0 10 == 0)) ∧ Keep h h') h := by
  obtain ⟨K, ns, p, cel, f, cc, Y, X⟩ := Kc
  exact q_method (i := 3) (op := .Eq) (by decide) r.cl F Y X O₁ O₂ (fnShape (by decide) _ _) rfl (m_eq (r.le (by decide) (by decide)) (G.keeps F.keep) Y (X.keeps F.keep) O₁ O₂ hx hy)
theorem k_le : wq c A (compareOp .LtE (.ref x) (.ref y)) (fun v h' => v = .bool (decide (apart a b 0 10 ≤ 0)) ∧ Keep h h') h := by
  obtain ⟨K, ns, p, cel, f, cc, Y, X⟩ := Kc
  exact q_method (i := 4) (op := .LtE) (by decide) r.cl F Y X O₁ O₂ (fnShape (by decide) _ _) rfl (m_le (r.le (by decide) (by decide)) (G.keeps F.keep) Y (X.keeps F.keep) O₁ O₂ hx hy)
theorem k_ge : wq c A (compareOp .GtE (.ref x) (.ref y)) (fun v h' => v = .bool (decide (0 ≤ apart a b 0 10)) ∧ Keep h h') h := by
  obtain ⟨K, ns, p, cel, f, cc, Y, X⟩ := Kc
  exact q_method (i := 5) (op := .GtE) (by decide) r.cl F Y X O₁ O₂ (fnShape (by decide) _ _) rfl (m_ge (r.le (by decide) (by decide)) (G.keeps F.keep) Y (X.keeps F.keep) O₁ O₂ hx hy)
theorem k_ne : wq c A (compareOp .NotEq (.ref x) (.ref y)) (fun v h' => v = .bool (!(apart a b 0 10 == 0)) ∧ Keep h h') h := by
  obtain ⟨K, ns, p, cel, f, cc, Y, X⟩ := Kc
  exact mk_ne (by have := r.units; show A.units + 1 < 9900; omega) Y (X.keeps F.keep) O₁ O₂ (fnShape (by decide) _ _) (m_eq r.in1 (G.keeps F.keep) Y (X.keeps F.keep) O₁ O₂ hx hy)
end
end Mine
end
section
open PySem PySem.W PyProof.Rows PySem.Calls PySem.W.X
set_option Elab.async false
set_option maxRecDepth 100000
set_option maxHeartbeats 4000000
set_option linter.unusedVariables false
namespace Mine
theorem s_AssignAttr {c : Cx} {A : Around} {h : Heap} {env : Env} {o value : Expr} {attr : Str} {p' pos : Pos} {Q : Flow → Heap → Prop}
    (H : wq c A (eval value env) (fun v h₁ => wq c A (eval o env) (fun ov h₂ => wq c A (setAttr ov attr v) (fun _ h₃ => Q .next h₃) h₂) h₁) h)
    (hs : swapsWith value (some (.Attribute o attr p')) pos.line env = pure false := by exact rfl) : wq c A (exec (.Assign [.Attribute o attr p'] value pos) env) Q h :=
  wq.of fun _ _ k => plainObj_wpAny_Assign_Attribute (H.go fun _ _ _ H₁ => H₁.go fun _ _ _ H₂ => H₂.go fun _ _ _ q => k _ _ _ q) hs
section
variable {c : Cx} {A : Around} {h : Heap} {f : Addr} {vs : List Value} {R : Result → Shared → Prop} {o : Obj} {name qual : Str} {params : Arguments} {body : List Stmt} {scope : Scope} {cl : List (Str × Addr)} {dV kV doc pm cdv ct : Value} {an : Option Addr} {binds : List (Str × Value)} {d u tk : Nat}
theorem c_def (r : Room A (d + 1) (u + 3)) (ho : h.get? f = some o) (hd : o.data = .func (fnX name qual params body scope cl dV kV doc pm an cdv ct)) (hlim : h.NoLimit) (hcd : h.CodeRec cdv qual)
    (hb : ∀ s : Shared, s.heap = h → BindsTo s (fnX name qual params body scope cl dV kV doc pm an cdv ct) ⟨vs, []⟩ binds)
    (hcell : ∀ x ∈ scope.names, x.2 ≠ .cell) (hloc : ∀ x ∈ binds, scope.names.lookup x.1 = some .local)
    (hco : scope.isCoroutine = false) (hgen : scope.isGenerator = false) (hk : scope.kind = .function)
    (H : ∀ L h₁, Fr h L h₁ (lk binds.reverse) → Room (A.deeper (envX qual scope L f cdv cl)) d u →
      wq c (A.deeper (envX qual scope L f cdv cl)) (execs body (envX qual scope L f cdv cl)) (fun fl h' => ∀ tk', R (.ok (.ret (match fl with | .ret v => v | _ => .none))) (c.st h' tk')) h₁) :
    codeAny c.M A (.call (.ref f) ⟨vs, []⟩) R (c.st h tk) :=
  codeAny_call_def (fd := fnX name qual params body scope cl dV kV doc pm an cdv ct) (body := body) (binds := binds) r.ok ho hd hlim hcd rfl (hb _ rfl) hcell hloc
    (fun h₁ hns hkp => wpAny_mono ((H h.objs.size h₁ ⟨hns, hkp, Nat.le_refl _⟩ r.deeper).go (E := fun _ _ => False) fun v h' tk' q => q tk') (fun _ _ x => x) fun _ _ x => x.elim) hco hgen hk
end
theorem newKey {c : Cx} {A : Around} {h : Heap} {mg mb : Str → Option Value} {C : Addr} {s : Str} {t : Tok} (r : Room A 3 9) (G : Gd (K2 c) mg mb h) (Kc : KeyC c h C) :
    wq c A (call (.ref C) [.str s t]) (fun v h' => ∃ x dx, v = .ref x ∧ h'.get? x = some ⟨.ref C, some dx, .plain, #[some (.str s t)]⟩ ∧ h'.get? dx = some emptyDict ∧ h.objs.size ≤ dx ∧ dx < x ∧ Keep h h') h := by
  obtain ⟨K, ns, p, cel, f, cc, Y, X⟩ := Kc
  refine wq.of fun tk Q' k => wpAny_call (make_core (makes_of X Y.makes) (looks_findIn X (Y.find (Y.own 0 (by decide)))) (fun self => bind_fn X self (Y.fnT (i := 0) (by decide) (fnShape (by decide) _ _))) (.inl rfl) ?_)
  obtain ⟨doc, pm, ctv, e⟩ := Y.fn 0 (by decide)
  have k1 : Keep h ((h.push emptyDict).push (instObj C h.objs.size)) := fun b o e => Heap.get?_push_of_some _ (Heap.get?_push_of_some _ e)
  have hx : ((h.push emptyDict).push (instObj C h.objs.size)).get? (h.objs.size + 1) = some (instObj C h.objs.size) := by heap_get
  have hdx : ((h.push emptyDict).push (instObj C h.objs.size)).get? h.objs.size = some emptyDict := by heap_get
  have hfresh : h.get? (h.objs.size + 1) = none := Heap.get?_none_of_le (Nat.le_succ _)
  generalize hH : (h.push emptyDict).push (instObj C h.objs.size) = H at *
  have hu : (Code.builtin "type.__call__" ⟨[.ref C, .str s t], []⟩).cUnits ≤ 6 := by
    show _ ≤ _
    exact Nat.le_of_ble_eq_true rfl
  have r1 : Room (A.under (.builtin "type.__call__" ⟨[.ref C, .str s t], []⟩)) 1 3 := ⟨r.handled, Nat.lt_of_le_of_lt (show A.depth + 1 + 1 ≤ A.depth + 3 by omega) r.depth, by have := r.units; show A.units + (Code.builtin "type.__call__" ⟨[.ref C, .str s t], []⟩).cUnits + 3 < 9900; omega⟩
  refine c_def (d := 0) (u := 0) (c := c) (binds := [(Str.ofString "self", .ref (h.objs.size + 1)), (Str.ofString "obj", .str s t)]) r1 (k1 _ _ (X _ _ e)) rfl (G.lim.keeps k1) ((Y.codeRec X (i := 0) (by decide)).keeps k1) ?b ?c ?d ?e ?f ?g ?_
  case b => exact fun s _ => BindsTo.of_eq rfl
  case c => decide
  case d => exact locs rfl
  case e => exact rfl
  case f => exact rfl
  case g => exact rfl
  intro L h₁ F r2
  have F' : Fr (hideAll H [h.objs.size + 1]) L h₁ (lk [(Str.ofString "self", .ref (h.objs.size + 1)), (Str.ofString "obj", .str s t)].reverse) := ⟨F.ns, fun b o e => F.keep b o (of_hideAll _ e), Nat.le_trans (Nat.le_of_eq (hideAll_size _ _)) F.above⟩
  have N' : News (hideAll H [h.objs.size + 1]) L h₁ [(h.objs.size + 1, instObj C h.objs.size)] := fun p hp => by
    rw [List.mem_singleton.mp hp]
    exact ⟨F.keep _ _ hx, Nat.ne_of_lt (Nat.lt_of_lt_of_le (Heap.lt_size hx) F.above), hideAll_none _ (.head _)⟩
  have D : Led (hideAll H [h.objs.size + 1]) L (lk [(Str.ofString "self", .ref (h.objs.size + 1)), (Str.ofString "obj", .str s t)].reverse) h₁ [(h.objs.size + 1, instObj C h.objs.size)] := ⟨F', N', by simp⟩
  have kh : Keep h (hideAll H [h.objs.size + 1]) := fun b o e => hideAll_get _ (k1 _ _ e) (fun q => by rw [List.mem_singleton.mp q, hfresh] at e; cases e)
  have hdx' : (hideAll H [h.objs.size + 1]).get? h.objs.size = some emptyDict := hideAll_get _ hdx (fun q => absurd (List.mem_singleton.mp q) (Nat.ne_of_lt (Nat.lt_succ_self _)))
  refine s_cons ?_
  refine s_AssignAttr ?_
  refine dl D ?_
  refine dl D ?_
  refine wq.of fun tk₂ Q₂ kk => set_slot (ox := instObj C h.objs.size) (ox' := ⟨.ref C, some h.objs.size, .plain, #[some (.str s t)]⟩) (od := emptyDict) F' (X.keeps kh) N' ⟨F.keep _ _ hx, rfl, rfl, F.keep _ _ hdx⟩ ((Y.miss Y.sa).trans (by kernel_rfl)) Y.over Y.taker (by obtain ⟨t, e⟩ := Y.desc; simp only [typeIn, e]; rfl) Y.slot (by decide) (by rfl) rfl (.head (by simp)) fun h₂ F₂ N₂ => kk _ _ _ ?_
  refine s_nil fun tk' => ⟨rfl, k _ _ _ ⟨_, h.objs.size, rfl, (N₂ _ (.head _)).1, F₂.keep _ _ hdx', Nat.le_refl _, Nat.lt_succ_self _, fun b o e => F₂.keep _ _ (kh b o e)⟩⟩
end Mine
end
section
open PySem PySem.W PyProof.Rows PySem.Calls PySem.W.X
set_option Elab.async false
set_option maxRecDepth 100000
set_option maxHeartbeats 4000000
set_option linter.unusedVariables false
namespace Mine
theorem k2_T3 (c : Cx) {b : Nat} (hb : b ∈ T3) : (K2 c).lookup b = none := by
  rcases in_T3 hb with rfl | rfl | rfl
  · rfl
  · rfl
  · rfl
theorem Gd.kp {c : Cx} {mg mb : Str → Option Value} {h h' : Heap} (G : Gd (K2 c) mg mb h) (k : Kp h h') : Gd (K2 c) mg mb h' :=
  ⟨fun a o e => k a o (fun q => by rw [k2_T3 c q] at e; cases e) (G.X a o e), G.g.at' fun o e => k _ o (fun q => absurd (in_T3 q) (by decide)) e, G.b.at' fun o e => k _ o (fun q => absurd (in_T3 q) (by decide)) e, G.bi, G.lim.at fun o e => k _ o (fun q => absurd (in_T3 q) (by decide)) e⟩
theorem kp_to_hid (h : Heap) : Kp h (hid h) := fun b o n e => hideAll_get _ e n
theorem Gd.hid {c : Cx} {mg mb : Str → Option Value} {h : Heap} (G : Gd (K2 c) mg mb h) : Gd (K2 c) mg mb (hid h) := G.kp (kp_to_hid h)
theorem KeyC.kp {c : Cx} {h h' : Heap} {C : Addr} (x : KeyC c h C) (k : Kp h h') (hn : ∀ K ns p cel f cc, KeyF c K C ns p cel f cc → K.In h → ∀ b ∈ T3, K.lookup b = none) : KeyC c h' C :=
  let ⟨K, ns, p, cel, f, cc, Y, X⟩ := x; ⟨K, ns, p, cel, f, cc, Y, fun a o e => k a o (fun q => by rw [hn K ns p cel f cc Y X a q] at e; cases e) (X a o e)⟩
noncomputable def lamFn (c : Cx) (i : Nat) (pm : Value) (c' : Addr) (ctv : Value) : Obj := match (K2 c).lookup 98 with
  | some ⟨_, _, .func fd, _⟩ => (match fd.body with
    | .stmts (.Return (some (.List es _)) _ :: _) => (match es[i]? with
      | some (.Lambda ps b sc _) => kla_obj "<lambda>" (Str.ofString "_law_questions.<locals>.<lambda>") ps b sc [] pm c' ctv
      | _ => default)
    | _ => default)
  | _ => default
abbrev qLam : Str := Str.ofString "_law_questions.<locals>.<lambda>"
abbrev qStep : Str := Str.ofString "_law_found.<locals>.step"
structure Tb (h : Heap) (ta tb td : Array Value) : Prop where
  e100 : h.get? 100 = some (tabObj ta)
  e93 : h.get? 93 = some (tabObj tb)
  e16 : h.get? 16 = some (tabObj td)
  o100 : TabOk h ta qStep
  o93 : TabOk h tb qLam
theorem Tb.keeps {h h' : Heap} {ta tb td : Array Value} (x : Tb h ta tb td) (k : Keep h h') : Tb h' ta tb td := ⟨k _ _ x.e100, k _ _ x.e93, k _ _ x.e16, x.o100.keeps (Keep.kp k), x.o93.keeps (Keep.kp k)⟩
theorem hd97 {c : Cx} {mg mb : Str → Option Value} {h : Heap} (G : Gd (K2 c) mg mb h) : CodeHd h 97 93 := ⟨_, _, _, _, _, _, _, _, _, G.X 97 _ rfl, rfl, rfl, rfl, rfl, rfl, rfl, rfl, rfl, by decide⟩
theorem hd102 {c : Cx} {mg mb : Str → Option Value} {h : Heap} (G : Gd (K2 c) mg mb h) : CodeHd h 102 100 := ⟨_, _, _, _, _, _, _, _, _, G.X 102 _ rfl, rfl, rfl, rfl, rfl, rfl, rfl, rfl, rfl, by decide⟩
theorem gd_big {c : Cx} {mg mb : Str → Option Value} {h : Heap} (G : Gd (K2 c) mg mb h) : 110 < h.objs.size := Heap.lt_size (G.X 110 _ rfl)
/-- one of the six questions -/
def LamAt (c : Cx) (h : Heap) (i : Nat) (v : Value) : Prop := ∃ f pm c' ctv, v = .ref f ∧ 110 < f ∧ h.get? f = some (lamFn c i pm c' ctv) ∧ CodeR h c' qLam
theorem LamAt.kp {c : Cx} {h h' : Heap} {i : Nat} {v : Value} (x : LamAt c h i v) (k : Kp h h') : LamAt c h' i v :=
  let ⟨f, pm, c', ctv, e, b, g, r⟩ := x; ⟨f, pm, c', ctv, e, b, k _ _ (not_T3 (Nat.lt_trans (by decide) b)) g, r.keeps k⟩
def Qst (c : Cx) (h : Heap) (l : Addr) : Prop := ∃ vs : List Value, h.IsList l vs.toArray ∧ vs.length = 6 ∧ ∀ i v, vs[i]? = some v → LamAt c h i v
theorem questions {c : Cx} {A : Around} {h : Heap} {mg mb : Str → Option Value} {ta tb td : Array Value} (r : Room A 1 3) (G : Gd (K2 c) mg mb h) (B : Bm mg h) (T : Tb h ta tb td) :
    wq c A (call (.ref 98) []) (fun v h' => ∃ l tb', v = .ref l ∧ Qst c h' l ∧ Kp h h' ∧ Tb h' ta tb' td ∧ h.objs.size ≤ l) h := by
  refine q_def (d := 0) (u := 0) (binds := []) r (G.X 98 _ rfl) rfl G.lim ?a ?b ?c ?d ?e ?f ?g ?_
  case a => exact codeRec_of G.X rfl
  case b => exact fun s _ => BindsTo.of_eq rfl
  case c => decide
  case d => exact locs rfl
  case e => exact rfl
  case f => exact rfl
  case g => exact rfl
  intro L h₁ F N r'
  have D := led_startT F T.e100 T.e93 T.e16
  have hL : 110 < L := Nat.lt_of_lt_of_le (gd_big G) F.above
  have G₁ := G.keeps F.keep
  have B₁ := B.keeps F.keep
  have T₁ := T.keeps F.keep
  have o93 := T₁.o93
  have o100 := T₁.o100
  have k₁ : Kp h h₁ := Keep.kp F.keep
  refine s_cons ?_
  refine s_Return ?_
  refine q_List ?_
  refine ac ?_
  refine q_Lambda (P := 93) (j := 1) (cP := 97) (qual := qLam) (clos := []) D hL rfl m93 G₁.g B₁ rfl (hd97 G₁) o93 rfl rfl rfl fun f1 c1 ct1 h1 ps1 D r1 o93 kp1 l1 => ?_
  have G₁ := G₁.kp kp1
  have B₁ := B₁.kp kp1
  have k₁ := k₁.trans kp1
  have o100 := o100.keeps kp1
  have q1 : LamAt c h1 0 (.ref f1) := ⟨f1, _, c1, ct1, rfl, Nat.lt_trans hL l1, D.at 0 rfl, r1⟩
  refine ac ?_
  refine q_Lambda (P := 93) (j := 2) (cP := 97) (qual := qLam) (clos := []) D hL rfl m93 G₁.g B₁ rfl (hd97 G₁) o93 rfl rfl rfl fun f2 c2 ct2 h2 ps2 D r2 o93 kp2 l2 => ?_
  have G₁ := G₁.kp kp2
  have B₁ := B₁.kp kp2
  have k₁ := k₁.trans kp2
  have o100 := o100.keeps kp2
  have q1 := q1.kp kp2
  have q2 : LamAt c h2 1 (.ref f2) := ⟨f2, _, c2, ct2, rfl, Nat.lt_trans hL l2, D.at 0 rfl, r2⟩
  refine ac ?_
  refine q_Lambda (P := 93) (j := 3) (cP := 97) (qual := qLam) (clos := []) D hL rfl m93 G₁.g B₁ rfl (hd97 G₁) o93 rfl rfl rfl fun f3 c3 ct3 h3 ps3 D r3 o93 kp3 l3 => ?_
  have G₁ := G₁.kp kp3
  have B₁ := B₁.kp kp3
  have k₁ := k₁.trans kp3
  have o100 := o100.keeps kp3
  have q1 := q1.kp kp3
  have q2 := q2.kp kp3
  have q3 : LamAt c h3 2 (.ref f3) := ⟨f3, _, c3, ct3, rfl, Nat.lt_trans hL l3, D.at 0 rfl, r3⟩
  refine ac ?_
  refine q_Lambda (P := 93) (j := 4) (cP := 97) (qual := qLam) (clos := []) D hL rfl m93 G₁.g B₁ rfl (hd97 G₁) o93 rfl rfl rfl fun f4 c4 ct4 h4 ps4 D r4 o93 kp4 l4 => ?_
  have G₁ := G₁.kp kp4
  have B₁ := B₁.kp kp4
  have k₁ := k₁.trans kp4
  have o100 := o100.keeps kp4
  have q1 := q1.kp kp4
  have q2 := q2.kp kp4
  have q3 := q3.kp kp4
  have q4 : LamAt c h4 3 (.ref f4) := ⟨f4, _, c4, ct4, rfl, Nat.lt_trans hL l4, D.at 0 rfl, r4⟩
  refine ac ?_
  refine q_Lambda (P := 93) (j := 5) (cP := 97) (qual := qLam) (clos := []) D hL rfl m93 G₁.g B₁ rfl (hd97 G₁) o93 rfl rfl rfl fun f5 c5 ct5 h5 ps5 D r5 o93 kp5 l5 => ?_
  have G₁ := G₁.kp kp5
  have B₁ := B₁.kp kp5
  have k₁ := k₁.trans kp5
  have o100 := o100.keeps kp5
  have q1 := q1.kp kp5
  have q2 := q2.kp kp5
  have q3 := q3.kp kp5
  have q4 := q4.kp kp5
  have q5 : LamAt c h5 4 (.ref f5) := ⟨f5, _, c5, ct5, rfl, Nat.lt_trans hL l5, D.at 0 rfl, r5⟩
  refine ac ?_
  refine q_Lambda (P := 93) (j := 6) (cP := 97) (qual := qLam) (clos := []) D hL rfl m93 G₁.g B₁ rfl (hd97 G₁) o93 rfl rfl rfl fun f6 c6 ct6 h6 ps6 D r6 o93 kp6 l6 => ?_
  have G₁ := G₁.kp kp6
  have B₁ := B₁.kp kp6
  have k₁ := k₁.trans kp6
  have o100 := o100.keeps kp6
  have q1 := q1.kp kp6
  have q2 := q2.kp kp6
  have q3 := q3.kp kp6
  have q4 := q4.kp kp6
  have q5 := q5.kp kp6
  have q6 : LamAt c h6 5 (.ref f6) := ⟨f6, _, c6, ct6, rfl, Nat.lt_trans hL l6, D.at 0 rfl, r6⟩
  refine a_nil ?_
  refine d_newListK D (show 6 ≤ sizeLine by decide) fun l h' D k' lL => ?_
  have kk := Keep.kp k'
  refine ⟨l, ps6, rfl, ⟨[.ref f1, .ref f2, .ref f3, .ref f4, .ref f5, .ref f6], led_isList (i := 0) D rfl, rfl, fun i v e => ?_⟩, k₁.trans kk, ⟨D.at 7 rfl, D.at 8 rfl, D.at 9 rfl, o100.keeps kk, o93.keeps kk⟩, Nat.le_trans F.above (Nat.le_of_lt lL)⟩
  match i, e with
  | 0, e => cases e; exact q1.kp kk
  | 1, e => cases e; exact q2.kp kk
  | 2, e => cases e; exact q3.kp kk
  | 3, e => cases e; exact q4.kp kk
  | 4, e => cases e; exact q5.kp kk
  | 5, e => cases e; exact q6.kp kk
end Mine
end
section
open PySem PySem.W PyProof.Rows PySem.Calls PySem.W.X
set_option Elab.async false
set_option maxRecDepth 100000
set_option maxHeartbeats 200000
set_option linter.unusedVariables false
namespace Mine
theorem apart_swap (a b : Nat → Nat) : ∀ (k i : Nat), apart b a i k = - apart a b i k
  | 0, i => rfl
  | k + 1, i => by
    unfold apart
    by_cases h : a i = b i
    · rw [if_pos h, if_pos h.symm]; exact apart_swap a b k (i + 1)
    · rw [if_neg h, if_neg (fun q => h q.symm)]; omega
section
variable {c : Cx} {A : Around} {h h₀ : Heap} {env : Env} {pos : Pos} {Q : Value → Heap → Prop}
theorem q_Not {e : Expr} (H : wq c A (eval e env) (fun v h₁ => wq c A (truthy v) (fun z h₂ => Q (.bool (!z)) h₂) h₁) h) : wq c A (eval (.UnaryOp .Not e pos) env) Q h :=
  q_UnaryOp (wq.mono H fun v h₁ H₁ => wq.of fun _ _ k => not_of (H₁.go fun _ _ _ q => k _ _ _ q))
theorem q_And {e₁ e₂ : Expr} (H : wq c A (eval e₁ env) (fun v h₁ => wq c A (truthy v) (fun z h₂ => if z = true then wq c A (eval e₂ env) Q h₂ else Q v h₂) h₁) h) : wq c A (eval (.BoolOp .And [e₁, e₂] pos) env) Q h :=
  wq.of fun _ _ k => BoolOp_and (H.go fun v _ _ H₁ => H₁.go fun z h₂ tk H₂ => by
    cases z with
    | true => exact BoolOp_one (wq.go (Q := Q) H₂ k)
    | false => exact k _ _ _ H₂)
theorem q_Or {e₁ e₂ : Expr} (H : wq c A (eval e₁ env) (fun v h₁ => wq c A (truthy v) (fun z h₂ => if z = true then Q v h₂ else wq c A (eval e₂ env) Q h₂) h₁) h) : wq c A (eval (.BoolOp .Or [e₁, e₂] pos) env) Q h :=
  wq.of fun _ _ k => BoolOp_or (H.go fun v _ _ H₁ => H₁.go fun z h₂ tk H₂ => by
    cases z with
    | true => exact k _ _ _ H₂
    | false => exact BoolOp_one (wq.go (Q := Q) H₂ k))
end
theorem z1 (z : Int) : decide (0 ≤ -z) = decide (z ≤ 0) := decide_eq_decide.mpr (by omega)
theorem z2 (z : Int) : (!decide (0 < z)) = decide (z ≤ 0) := by rw [← decide_not]; exact decide_eq_decide.mpr (by omega)
theorem z3 (z : Int) : (!decide (-z < 0)) = decide (z ≤ 0) := by rw [← decide_not]; exact decide_eq_decide.mpr (by omega)
theorem z4 (z : Int) (h : z < 0) : decide (z < 0) = decide (z ≤ 0) := decide_eq_decide.mpr (by omega)
theorem z4b (z : Int) (h : ¬ z < 0) : (z == 0) = decide (z ≤ 0) := by
  by_cases h0 : z = 0
  · subst h0; rfl
  · have : ¬ z ≤ 0 := by omega
    simp [h0, this]
theorem z5 (z : Int) (h : z = 0) : (!(!(z == 0))) = decide (z ≤ 0) := by subst h; rfl
theorem z5b (z : Int) (h : ¬ z = 0) : (!decide (-z ≤ 0)) = decide (z ≤ 0) := by rw [← decide_not]; exact decide_eq_decide.mpr (by omega)
theorem z6 (z : Int) (h : z < 0) : decide (z < 0) = true := decide_eq_true h
theorem z6b (z : Int) (h : ¬ z < 0) : ¬ decide (z < 0) = true := by simpa using h
theorem z7 (z : Int) (h : z = 0) : ¬ (!(z == 0)) = true := by subst h; decide
theorem z7b (z : Int) (h : ¬ z = 0) : (!(z == 0)) = true := by simpa using h
section
variable {c : Cx} {A : Around} {h : Heap} {mg mb : Str → Option Value} {C x y : Addr} {s₁ s₂ : Str} {a b : Nat → Nat} {v : Value}
theorem ask0 (r : Room A 3 10) (G : Gd (K2 c) mg mb h) (Kc : KeyC c h C) (O₁ : KeyO h x C s₁) (O₂ : KeyO h y C s₂) (hx : ∀ i, i < 10 → s₁.cps[i]? = some (a i)) (hy : ∀ i, i < 10 → s₂.cps[i]? = some (b i)) (V : LamAt c h 0 v) :
    wq c A (call v [.ref x, .ref y]) (fun w h' => w = .bool (decide (apart a b 0 10 ≤ 0)) ∧ Keep h h') h := by
  obtain ⟨f, pm, c', ctv, rfl, _, e, rc⟩ := V
  have sw := apart_swap a b 10 0
  refine q_lam (d := 2) (u := 7) (binds := [(Str.ofString "a", .ref x), (Str.ofString "b", .ref y)]) r e rfl G.lim rc.code ?b ?c ?d ?e ?f ?g ?_
  case b => exact rfl
  case c => decide
  case d => exact locs rfl
  case e => exact rfl
  case f => exact rfl
  case g => exact rfl
  intro L h₁ F r'
  have D := led_start F
  have Kc₁ := Kc
  have P₁ := O₁.keeps F.keep
  have P₂ := O₂.keeps F.keep
  refine qC ?_
  refine dl D ?_
  refine dl D ?_
  refine wq.mono (k_le (r'.le (by decide) (by decide)) F G Kc P₁ P₂ hx hy) fun w1 g1 H1 => ?_
  obtain ⟨rfl, e1⟩ := H1
  exact ⟨rfl, Keep.trans F.keep e1⟩
theorem ask1 (r : Room A 3 10) (G : Gd (K2 c) mg mb h) (Kc : KeyC c h C) (O₁ : KeyO h x C s₁) (O₂ : KeyO h y C s₂) (hx : ∀ i, i < 10 → s₁.cps[i]? = some (a i)) (hy : ∀ i, i < 10 → s₂.cps[i]? = some (b i)) (V : LamAt c h 1 v) :
    wq c A (call v [.ref x, .ref y]) (fun w h' => w = .bool (decide (apart a b 0 10 ≤ 0)) ∧ Keep h h') h := by
  obtain ⟨f, pm, c', ctv, rfl, _, e, rc⟩ := V
  have sw := apart_swap a b 10 0
  refine q_lam (d := 2) (u := 7) (binds := [(Str.ofString "a", .ref x), (Str.ofString "b", .ref y)]) r e rfl G.lim rc.code ?b ?c ?d ?e ?f ?g ?_
  case b => exact rfl
  case c => decide
  case d => exact locs rfl
  case e => exact rfl
  case f => exact rfl
  case g => exact rfl
  intro L h₁ F r'
  have D := led_start F
  have Kc₁ := Kc
  have P₁ := O₁.keeps F.keep
  have P₂ := O₂.keeps F.keep
  refine qC ?_
  refine dl D ?_
  refine dl D ?_
  refine wq.mono (k_ge (r'.le (by decide) (by decide)) F G Kc P₂ P₁ hy hx) fun w1 g1 H1 => ?_
  obtain ⟨rfl, e1⟩ := H1
  refine ⟨congrArg Value.bool ?_, Keep.trans F.keep e1⟩
  rw [sw]; exact z1 _
theorem ask2 (r : Room A 3 10) (G : Gd (K2 c) mg mb h) (Kc : KeyC c h C) (O₁ : KeyO h x C s₁) (O₂ : KeyO h y C s₂) (hx : ∀ i, i < 10 → s₁.cps[i]? = some (a i)) (hy : ∀ i, i < 10 → s₂.cps[i]? = some (b i)) (V : LamAt c h 2 v) :
    wq c A (call v [.ref x, .ref y]) (fun w h' => w = .bool (decide (apart a b 0 10 ≤ 0)) ∧ Keep h h') h := by
  obtain ⟨f, pm, c', ctv, rfl, _, e, rc⟩ := V
  have sw := apart_swap a b 10 0
  refine q_lam (d := 2) (u := 7) (binds := [(Str.ofString "a", .ref x), (Str.ofString "b", .ref y)]) r e rfl G.lim rc.code ?b ?c ?d ?e ?f ?g ?_
  case b => exact rfl
  case c => decide
  case d => exact locs rfl
  case e => exact rfl
  case f => exact rfl
  case g => exact rfl
  intro L h₁ F r'
  have D := led_start F
  have Kc₁ := Kc
  have P₁ := O₁.keeps F.keep
  have P₂ := O₂.keeps F.keep
  refine q_Not ?_
  refine qC ?_
  refine dl D ?_
  refine dl D ?_
  refine wq.mono (k_gt (r'.le (by decide) (by decide)) F G Kc P₁ P₂ hx hy) fun w1 g1 H1 => ?_
  obtain ⟨rfl, e1⟩ := H1
  refine t_bool ⟨congrArg Value.bool ?_, Keep.trans F.keep e1⟩
  exact z2 _
theorem ask3 (r : Room A 3 10) (G : Gd (K2 c) mg mb h) (Kc : KeyC c h C) (O₁ : KeyO h x C s₁) (O₂ : KeyO h y C s₂) (hx : ∀ i, i < 10 → s₁.cps[i]? = some (a i)) (hy : ∀ i, i < 10 → s₂.cps[i]? = some (b i)) (V : LamAt c h 3 v) :
    wq c A (call v [.ref x, .ref y]) (fun w h' => w = .bool (decide (apart a b 0 10 ≤ 0)) ∧ Keep h h') h := by
  obtain ⟨f, pm, c', ctv, rfl, _, e, rc⟩ := V
  have sw := apart_swap a b 10 0
  refine q_lam (d := 2) (u := 7) (binds := [(Str.ofString "a", .ref x), (Str.ofString "b", .ref y)]) r e rfl G.lim rc.code ?b ?c ?d ?e ?f ?g ?_
  case b => exact rfl
  case c => decide
  case d => exact locs rfl
  case e => exact rfl
  case f => exact rfl
  case g => exact rfl
  intro L h₁ F r'
  have D := led_start F
  have Kc₁ := Kc
  have P₁ := O₁.keeps F.keep
  have P₂ := O₂.keeps F.keep
  refine q_Not ?_
  refine qC ?_
  refine dl D ?_
  refine dl D ?_
  refine wq.mono (k_lt (r'.le (by decide) (by decide)) F G Kc P₂ P₁ hy hx) fun w1 g1 H1 => ?_
  obtain ⟨rfl, e1⟩ := H1
  refine t_bool ⟨congrArg Value.bool ?_, Keep.trans F.keep e1⟩
  rw [sw]; exact z3 _
theorem ask4 (r : Room A 3 10) (G : Gd (K2 c) mg mb h) (Kc : KeyC c h C) (O₁ : KeyO h x C s₁) (O₂ : KeyO h y C s₂) (hx : ∀ i, i < 10 → s₁.cps[i]? = some (a i)) (hy : ∀ i, i < 10 → s₂.cps[i]? = some (b i)) (V : LamAt c h 4 v) :
    wq c A (call v [.ref x, .ref y]) (fun w h' => w = .bool (decide (apart a b 0 10 ≤ 0)) ∧ Keep h h') h := by
  obtain ⟨f, pm, c', ctv, rfl, _, e, rc⟩ := V
  have sw := apart_swap a b 10 0
  refine q_lam (d := 2) (u := 7) (binds := [(Str.ofString "a", .ref x), (Str.ofString "b", .ref y)]) r e rfl G.lim rc.code ?b ?c ?d ?e ?f ?g ?_
  case b => exact rfl
  case c => decide
  case d => exact locs rfl
  case e => exact rfl
  case f => exact rfl
  case g => exact rfl
  intro L h₁ F r'
  have D := led_start F
  have Kc₁ := Kc
  have P₁ := O₁.keeps F.keep
  have P₂ := O₂.keeps F.keep
  refine q_Or ?_
  refine qC ?_
  refine dl D ?_
  refine dl D ?_
  refine wq.mono (k_lt (r'.le (by decide) (by decide)) F G Kc P₁ P₂ hx hy) fun w1 g1 H1 => ?_
  obtain ⟨rfl, e1⟩ := H1
  refine t_bool ?_
  by_cases hlt : apart a b 0 10 < 0
  · rw [if_pos (z6 _ hlt)]
    exact ⟨congrArg Value.bool (z4 _ hlt), Keep.trans F.keep e1⟩
  · rw [if_neg (z6b _ hlt)]
    have D := led_grow D e1
    refine qC ?_
    refine dl D ?_
    refine dl D ?_
    refine wq.mono (k_eq (r'.le (by decide) (by decide)) D.fr G Kc (P₁.keeps e1) (P₂.keeps e1) hx hy) fun w2 g2 H2 => ?_
    obtain ⟨rfl, e2⟩ := H2
    refine ⟨congrArg Value.bool ?_, Keep.trans F.keep (Keep.trans e1 e2)⟩
    exact z4b _ hlt
theorem ask5 (r : Room A 3 10) (G : Gd (K2 c) mg mb h) (Kc : KeyC c h C) (O₁ : KeyO h x C s₁) (O₂ : KeyO h y C s₂) (hx : ∀ i, i < 10 → s₁.cps[i]? = some (a i)) (hy : ∀ i, i < 10 → s₂.cps[i]? = some (b i)) (V : LamAt c h 5 v) :
    wq c A (call v [.ref x, .ref y]) (fun w h' => w = .bool (decide (apart a b 0 10 ≤ 0)) ∧ Keep h h') h := by
  obtain ⟨f, pm, c', ctv, rfl, _, e, rc⟩ := V
  have sw := apart_swap a b 10 0
  refine q_lam (d := 2) (u := 7) (binds := [(Str.ofString "a", .ref x), (Str.ofString "b", .ref y)]) r e rfl G.lim rc.code ?b ?c ?d ?e ?f ?g ?_
  case b => exact rfl
  case c => decide
  case d => exact locs rfl
  case e => exact rfl
  case f => exact rfl
  case g => exact rfl
  intro L h₁ F r'
  have D := led_start F
  have Kc₁ := Kc
  have P₁ := O₁.keeps F.keep
  have P₂ := O₂.keeps F.keep
  refine q_Not ?_
  refine q_And ?_
  refine qC ?_
  refine dl D ?_
  refine dl D ?_
  refine wq.mono (k_ne (r'.le (by decide) (by decide)) F G Kc P₁ P₂ hx hy) fun w1 g1 H1 => ?_
  obtain ⟨rfl, e1⟩ := H1
  refine t_bool ?_
  by_cases h0 : apart a b 0 10 = 0
  · rw [if_neg (z7 _ h0)]
    exact t_bool ⟨congrArg Value.bool (z5 _ h0), Keep.trans F.keep e1⟩
  · rw [if_pos (z7b _ h0)]
    have D := led_grow D e1
    refine qC ?_
    refine dl D ?_
    refine dl D ?_
    refine wq.mono (k_le (r'.le (by decide) (by decide)) D.fr G Kc (P₂.keeps e1) (P₁.keeps e1) hy hx) fun w2 g2 H2 => ?_
    obtain ⟨rfl, e2⟩ := H2
    refine t_bool ⟨congrArg Value.bool ?_, Keep.trans F.keep (Keep.trans e1 e2)⟩
    rw [sw]; exact z5b _ h0
theorem ask (r : Room A 3 10) (G : Gd (K2 c) mg mb h) (Kc : KeyC c h C) (O₁ : KeyO h x C s₁) (O₂ : KeyO h y C s₂) (hx : ∀ i, i < 10 → s₁.cps[i]? = some (a i)) (hy : ∀ i, i < 10 → s₂.cps[i]? = some (b i)) {i : Nat} (hi : i < 6) (V : LamAt c h i v) :
    wq c A (call v [.ref x, .ref y]) (fun w h' => w = .bool (decide (apart a b 0 10 ≤ 0)) ∧ Keep h h') h := by
  have h6 : i = 0 ∨ i = 1 ∨ i = 2 ∨ i = 3 ∨ i = 4 ∨ i = 5 := by clear O₁ O₂ hx hy V; omega
  rcases h6 with rfl | rfl | rfl | rfl | rfl | rfl
  · exact ask0 r G Kc O₁ O₂ hx hy V
  · exact ask1 r G Kc O₁ O₂ hx hy V
  · exact ask2 r G Kc O₁ O₂ hx hy V
  · exact ask3 r G Kc O₁ O₂ hx hy V
  · exact ask4 r G Kc O₁ O₂ hx hy V
  · exact ask5 r G Kc O₁ O₂ hx hy V
end
end Mine
end
section
open PySem PySem.W PyProof.Rows PySem.Calls PySem.W.X
set_option Elab.async false
set_option maxRecDepth 100000
set_option maxHeartbeats 400000
set_option linter.unusedVariables false
namespace Mine
theorem fmS_at (n : Int) : ∀ i, i < 10 → (fmS n).cps[i]? = some (fmC n i) := by
  intro i hi
  have h : i = 0 ∨ i = 1 ∨ i = 2 ∨ i = 3 ∨ i = 4 ∨ i = 5 ∨ i = 6 ∨ i = 7 ∨ i = 8 ∨ i = 9 := by omega
  rcases h with rfl | rfl | rfl | rfl | rfl | rfl | rfl | rfl | rfl | rfl <;> rfl
theorem n_filemode (c : Cx) : nsIn (K2 c) mainGlobals (Str.ofString "filemode") = some (some (.ref 77)) := by kernel_rfl
theorem n_lawmode (c : Cx) : nsIn (K2 c) mainGlobals (Str.ofString "_law_mode") = some (some (.ref 84)) := by kernel_rfl
noncomputable def stepFn (c : Cx) (clos : List (Str × Addr)) (doc pm : Value) (c' : Addr) (ctv : Value) : Obj := match (K2 c).lookup 103 with
  | some ⟨_, _, .func fd, _⟩ => (match fd.body with
    | .stmts (_ :: .FunctionDef n ps b _ _ _ sc _ _ _ :: _) => fnMade n qStep ps b sc clos doc pm c' ctv
    | _ => default)
  | _ => default
/-- the value at a cell -/
def CellIs (h : Heap) (a : Addr) (v : Value) : Prop := ∃ o, h.get? a = some o ∧ o.data = .cell (some v)
theorem CellIs.keeps {h h' : Heap} {a : Addr} {v : Value} (x : CellIs h a v) (k : Keep h h') : CellIs h' a v := let ⟨o, e, d⟩ := x; ⟨o, k _ _ e, d⟩
section
variable {c : Cx} {A : Around} {h : Heap} {env : Env}
theorem t_plain {e : Expr} {whole : Sem Value} {Q : Bool → Heap → Prop} (H : wq c A whole (fun v h₁ => wq c A (truthy v) Q h₁) h) (hp : isTrue e env whole = (do let v ← whole; standAt e.pos; holding [v] (truthy v)) := by exact rfl) : wq c A (isTrue e env whole) Q h := by
  rw [hp]
  exact wq.bind (wq.mono H fun v h₁ H₁ => wq.bind (wq.standAt (wq.holding H₁)))
theorem qfree {L a : Addr} {cn : Str} {cs : Scope} {ccd : Value} {cl : List (Str × Addr)} {x : Str} {pos : Pos} {v : Value} {Q : Value → Heap → Prop} {cA : Addr} (hc : cl.lookup x = some cA) (ho : CellIs h cA v) (q : Q v h) (hk : cs.kind = .function := by exact rfl) (hx : (envX cn cs L a ccd cl).kindOf x = some .free := by exact rfl)
    (hb : (x == ("__debug__" : Str)) = false := by exact rfl) (hn : (x == ("__classdict__" : Str)) = false := by exact rfl) : wq c A (eval (.Name x pos) (envX cn cs L a ccd cl)) Q h :=
  let ⟨o, e, d⟩ := ho; q_free hc e d hk hx hb hn q
end
theorem kp_key {c : Cx} {h : Heap} {C : Addr} (Kc : KeyC c h C) : ∃ k, plainKeeper k ∧ Looks c.M h (keeperOf (.ref C)) k := by
  obtain ⟨K, ns, p, cel, f, cc, Y, X⟩ := Kc
  obtain ⟨k0, k1, k2, k3, k5, nm, bs, q, hC⟩ := Y.cls
  have t1 : typeIn K (.ref C) = some (.type "type") := by simp only [typeIn, hC]; rfl
  have t2 : specialIn K (.ref C) "__call__" = some (some (.builtin "type.__call__")) := by
    simp only [specialIn, t1, Option.bind_some]; kernel_rfl
  obtain ⟨k, hk, L⟩ := looks_keep (M := c.M) (f := .ref C) (by simp only [keepIn, hC, t2]; rfl) X
  exact ⟨k, by rcases hk with rfl | rfl <;> trivial, L⟩
theorem kp_lam {c : Cx} {h : Heap} {i : Nat} {v : Value} (hi : i < 6) (V : LamAt c h i v) : ∃ k, plainKeeper k ∧ Looks c.M h (keeperOf v) k := by
  obtain ⟨f, pm, c', ctv, rfl, _, e, _⟩ := V
  have h6 : i = 0 ∨ i = 1 ∨ i = 2 ∨ i = 3 ∨ i = 4 ∨ i = 5 := by omega
  rcases h6 with rfl | rfl | rfl | rfl | rfl | rfl <;> exact kp_fn e rfl
def probe (n : Int) : Nat → Nat := fmC (lmode n n)
def stepN (b : Nat → Nat) (low power : Int) : Int := if decide (apart (probe (low + power)) b 0 10 ≤ 0) = true then low + power else low
theorem step {c : Cx} {A : Around} {h : Heap} {mg mb : Str → Option Value} {C f g l ck cq cs cg c' : Addr} {clos : List (Str × Addr)} {doc pm ctv : Value} {gs : Str} {b : Nat → Nat} {low power sp : Int} {t u ts : Tok} (r : Room A 4 13) (G : Gd (K2 c) mg mb h) (Kc : KeyC c h C)
    (hf : h.get? f = some (stepFn c clos doc pm c' ctv)) (rc : h.CodeRec (.ref c') qStep) (e1 : clos.lookup (Str.ofString "key") = some ck) (e2 : clos.lookup (Str.ofString "questions") = some cq) (e3 : clos.lookup (Str.ofString "spare") = some cs) (e4 : clos.lookup (Str.ofString "goal") = some cg)
    (k1 : CellIs h ck (.ref C)) (k2 : CellIs h cq (.ref l)) (k3 : CellIs h cs (.int sp ts)) (k4 : CellIs h cg (.ref g)) (hq : Qst c h l) (hg : KeyO h g C gs) (hb : ∀ i, i < 10 → gs.cps[i]? = some (b i)) (h0 : 0 ≤ low + power) (h1 : low + power < 32768) :
    wq c A (call (.ref f) [.int low t, .int power u]) (fun v h' => (∃ t, v = .int (stepN b low power) t) ∧ Keep h h') h := by
  refine q_def (d := 3) (u := 10) (binds := [(Str.ofString "low", .int low t), (Str.ofString "power", .int power u)]) r hf rfl G.lim rc ?b ?c ?d ?e ?f ?g ?_
  case b => exact fun s _ => BindsTo.of_eq rfl
  case c => decide
  case d => exact locs rfl
  case e => exact rfl
  case f => exact rfl
  case g => exact rfl
  intro L h₁ F N r'
  have D := led_start F
  refine s_cons ?_
  refine sA ?_
  refine q_BinOp ?_
  refine dl D ?_
  refine dl D ?_
  refine q_add fun t1 => ?_
  refine ds D fun h₂ D => ?_
  refine s_cons ?_
  refine sA ?_
  refine q_CallN ?_
  refine qfree e1 (k1.keeps D.fr.keep) ?_
  refine qw ?_
  refine ac ?_
  refine q_CallN ?_
  refine dg D G (n_filemode c) ?_
  refine qw ?_
  refine ac ?_
  refine q_CallN ?_
  refine dg D G (n_lawmode c) ?_
  refine qw ?_
  refine ac ?_
  refine dl D ?_
  refine ac ?_
  refine dl D ?_
  refine a_nil ⟨kp_fn ((G.keeps D.fr.keep).X 84 _ rfl) rfl, ?_⟩
  refine wq.mono (lawmode (r'.le (by decide) (by decide)) (G.keeps D.fr.keep) h0 h1) fun v h₃ H₃ => ?_
  obtain ⟨⟨t2, rfl⟩, kp3⟩ := H₃
  have D := led_grow D kp3
  refine a_nil ⟨kp_fn ((G.keeps D.fr.keep).X 77 _ rfl) rfl, ?_⟩
  refine wq.mono (filemode (r'.le (by decide) (by decide)) (G.keeps D.fr.keep)) fun v h₄ H₄ => ?_
  obtain ⟨⟨t3, rfl⟩, kp4⟩ := H₄
  have D := led_grow D kp4
  refine a_nil ⟨kp_key (Kc.keeps D.fr.keep), ?_⟩
  refine wq.mono (newKey (r'.le (by decide) (by decide)) (G.keeps D.fr.keep) (Kc.keeps D.fr.keep)) fun v h₅ H₅ => ?_
  obtain ⟨x, dx, rfl, ox, odx, lx, lx2, kp5⟩ := H₅
  have hLs := D.fr.ns.lt
  have D := led_grow D kp5
  have D := led_add D odx (fun p hp => (nomatch hp)) (Nat.lt_of_lt_of_le hLs lx)
  have D := led_add D ox (fun p hp => by rw [List.mem_singleton.mp hp]; exact lx2) (Nat.lt_trans (Nat.lt_of_lt_of_le hLs lx) lx2)
  refine ds D fun h₆ D => ?_
  have O₁ : KeyO h₆ x C (fmS (lmode (low + power) (low + power))) := ⟨dx, t3, emptyDict, D.at 0 rfl, D.at 1 rfl⟩
  obtain ⟨vs, hvs, hlen, hl⟩ := hq
  have hi : ((low + power + sp) % 6).toNat < 6 := by omega
  obtain ⟨v, hv⟩ : ∃ v, vs[((low + power + sp) % 6).toNat]? = some v := ⟨vs[((low + power + sp) % 6).toNat]'(by omega), by simp⟩
  have V := hl _ v hv
  have kD : Keep h h₆ := D.fr.keep
  refine s_cons ?_
  refine s_Return ?_
  refine q_IfExp ?_
  refine t_plain ?_
  refine q_CallS ?_
  refine q_Subscript ?_
  refine qfree e2 (k2.keeps D.fr.keep) ?_
  refine q_BinOp ?_
  refine q_BinOp ?_
  refine dl D ?_
  refine qfree e3 (k3.keeps D.fr.keep) ?_
  refine q_add fun t4 => ?_
  refine q_int fun t5 => ?_
  refine q_mod (by decide) (by decide) fun t6 => ?_
  refine q_itemL rfl (let ⟨o, e, r⟩ := hvs; ⟨o, kD _ _ e, r⟩) (by omega) (by omega) hv ?_
  refine qw ?_
  refine ac ?_
  refine dl D ?_
  refine ac ?_
  refine qfree e4 (k4.keeps D.fr.keep) ?_
  refine a_nil ⟨kp_lam hi (V.kp (Keep.kp kD)), ?_⟩
  refine wq.mono (ask (a := probe (low + power)) (r'.le (by decide) (by decide)) (G.keeps kD) (Kc.keeps kD) O₁ (hg.keeps kD) (fmS_at _) hb hi (V.kp (Keep.kp kD))) fun w h₇ H₇ => ?_
  obtain ⟨rfl, kp7⟩ := H₇
  have D := led_grow D kp7
  refine t_bool ?_
  by_cases hd : decide (apart (probe (low + power)) b 0 10 ≤ 0) = true
  · rw [if_pos hd]
    refine dl D ?_
    exact ⟨⟨t1, by unfold stepN; rw [if_pos hd]⟩, D.fr.keep⟩
  · rw [if_neg hd]
    refine dl D ?_
    exact ⟨⟨t, by unfold stepN; rw [if_neg hd]⟩, D.fr.keep⟩
end Mine
end
section
open PySem PySem.W PyProof.Rows PySem.Calls PySem.W.X
set_option Elab.async false
set_option maxRecDepth 100000
set_option maxHeartbeats 400000
set_option linter.unusedVariables false
namespace Mine
theorem n_iter (c : Cx) : nsIn (K2 c) mainGlobals (Str.ofString "iter") = some none := by kernel_rfl
theorem n_missing (c : Cx) : nsIn (K2 c) mainGlobals (Str.ofString "_initial_missing") = some (some (.ref 22)) := by kernel_rfl
theorem b_iter : bootBuiltins (Str.ofString "iter") = some (.builtin "iter") := boot_iter
theorem x_iter : Str.ofString "iter" ≠ ("__name__" : Str) := by decide +kernel
section
variable {c : Cx} {A : Around} {h h₀ : Heap} {L t : Addr} {m : Str → Option Value} {news : List (Addr × Obj)} {items : Array Value}
theorem c_iter {Q : Value → Heap → Prop} (D : Led h₀ L m h news) (ht : h.IsList t items) (q : ∀ I o h', IsLI o t 0 → Led h₀ L m h' ((I, o) :: news) → Q (.ref I) h') : wq c A (call (.builtin "iter") [.ref t]) Q h := by
  refine wq.of fun tk Q' k => call_function_entry (by decide +kernel) (by decide +kernel) kdk_entry_iter (kdk_args_iter _) ?_
  unfold Builtin.«iter»
  refine wpAny_bind (m := someArgs "iter" 1 2 _) (wpAny_of_eq (a := [Value.ref t]) (by first | rfl | kernel_rfl!) ?_)
  show wpAny _ _ (pyIter (.ref t) >>= _) _ _ _
  refine wpAny_bind (wpAny_pyIter_list ht ?_)
  exact wpAny_pure ⟨_, rfl, k _ _ _ (q _ _ _ ⟨rfl, rfl⟩ (led_push D _ rfl))⟩
theorem q_is {x y : Value} {Q : Value → Heap → Prop} (hp : plainIs x y = true) (hne : x ≠ y) (q : Q (.bool false) h) : wq c A (compareOp .Is x y) Q h := wq.of fun _ _ k => wpAny_is_other hp hne (k _ _ _ q)
end
section loops
variable {c : Cx} {A : Around} {h₀ : Heap} {L : Addr} {env : Env} {pos : Pos}
/-- «for x in it», it an iterator of a standing list -/
theorem for_list {x : Str} {p : Pos} {t : Addr} {vs : List Value} {body orelse : List Stmt} {Q : Flow → Heap → Prop} (hh : A.handled = none) (ht : ∀ h', Keep h₀ h' → h'.IsList t vs.toArray) (Inv : Nat → List (Str × Value) → List (Addr × Obj) → Prop)
    (turn : ∀ (i : Nat) v I o l news h, vs[i]? = some v → Inv i l news → Led h₀ L (lk l) h ((I, o) :: news) →
      wq c A (storeName env x v) (fun _ h₂ => wq c A (execs body env) (fun f h₃ => match f with
        | .next => ∃ l' news', Led h₀ L (lk l') h₃ ((I, o) :: news') ∧ Inv (i + 1) l' news'
        | .cont => ∃ l' news', Led h₀ L (lk l') h₃ ((I, o) :: news') ∧ Inv (i + 1) l' news'
        | .brk => Q .next h₃
        | .ret v => Q (.ret v) h₃) h₂) h)
    (done : ∀ l news h, Inv vs.length l news → Led h₀ L (lk l) h news → wq c A (execs orelse env) Q h) :
    ∀ (k i : Nat) (I : Addr) (o : Obj) (l : List (Str × Value)) (news : List (Addr × Obj)) (h : Heap), k = vs.length - i → i ≤ vs.length → IsLI o t i → Inv i l news → Led h₀ L (lk l) h ((I, o) :: news) → wqL c A (.Name x p) (.ref I) body orelse env Q h := by
  intro k
  induction k with
  | zero =>
    intro i I o l news h hk hi hI hV D
    have : i = vs.length := by omega
    subst this
    exact l_turn (n_listEnd hh (j := 0) D rfl hI (ht h D.fr.keep) (by simp) fun h' D' => done l news h' hV D')
  | succ k ih =>
    intro i I o l news h hk hi hI hV D
    have hil : i < vs.length := by omega
    obtain ⟨v, hv⟩ : ∃ v, vs[i]? = some v := ⟨vs[i], by simp [hil]⟩
    refine l_turn (n_list (j := 0) D rfl hI (ht h D.fr.keep) (x := v) (by simpa using hv) fun o' h' hI' D' => ?_)
    refine g_own (g_Name ?_)
    refine wq.mono (turn i v I o' l news h' hv hV D') fun _ h₂ H₂ => wq.mono H₂ fun f h₃ H₃ => ?_
    cases f with
    | next => obtain ⟨l', news', D₃, hV'⟩ := H₃; exact ih (i + 1) I o' l' news' h₃ (by omega) (by omega) hI' hV' D₃
    | cont => obtain ⟨l', news', D₃, hV'⟩ := H₃; exact ih (i + 1) I o' l' news' h₃ (by omega) (by omega) hI' hV' D₃
    | brk => exact H₃
    | ret v => exact H₃
end loops
theorem ints_get : ∀ {vs : List Value} {xs : List Int}, IntsL vs xs → ∀ {i : Nat} {v : Value}, vs[i]? = some v → ∃ x t, xs[i]? = some x ∧ v = .int x t
  | [], [], _, _, _, e => by simp at e
  | [], _ :: _, h, _, _, _ => h.elim
  | _ :: _, [], h, _, _, _ => h.elim
  | v :: vs, x :: xs, h, 0, w, e => by
    obtain ⟨t, rfl⟩ := h.1
    simp at e
    exact ⟨x, t, rfl, e.symm⟩
  | v :: vs, x :: xs, h, i + 1, w, e => by
    obtain ⟨y, t, e1, e2⟩ := ints_get h.2 (i := i) (v := w) (by simpa using e)
    exact ⟨y, t, by simpa using e1, e2⟩
theorem reduce {c : Cx} {A : Around} {h : Heap} {mg mb : Str → Option Value} {f l : Addr} {vs : List Value} {xs : List Int} {init : Int} {t : Tok} {S : Int → Int → Int} {d u : Nat} (hd : 0 < d) (r : Room A (d + 1) (u + 3)) (G : Gd (K2 c) mg mb h) (hl : h.IsList l vs.toArray) (hx : IntsL vs xs)
    (hfn : ∃ o fd, h.get? f = some o ∧ o.data = .func fd) (Ok : Int → Int → Prop)
    (hf : ∀ A' h' low t power u', Room A' d u → Keep h h' → Ok low power → wq c A' (call (.ref f) [.int low t, .int power u']) (fun v h'' => (∃ t, v = .int (S low power) t) ∧ Keep h' h'') h')
    (hok : ∀ i x, xs[i]? = some x → Ok ((xs.take i).foldl S init) x) :
    wq c A (call (.ref 30) [.ref f, .ref l, .int init t]) (fun v h' => (∃ t, v = .int (xs.foldl S init) t) ∧ Keep h h') h := by
  refine q_def (d := d) (u := u) (binds := [(Str.ofString "function", .ref f), (Str.ofString "sequence", .ref l), (Str.ofString "initial", .int init t)]) r (G.X 30 _ rfl) rfl G.lim ?a ?b ?c ?d ?e ?f ?g ?_
  case a => exact codeRec_of G.X rfl
  case b =>
    intro s hs
    have e23 := G.X 23 _ rfl
    rw [← hs] at e23
    exact BindsTo.of_defaults (T := 23) rfl e23 rfl rfl rfl
  case c => decide
  case d => exact locs rfl
  case e => exact rfl
  case f => exact rfl
  case g => exact rfl
  intro L h₁ F N r'
  have D := led_start F
  refine s_cons ?_
  refine sA ?_
  refine q_CallN ?_
  refine db (.builtin "iter") D G (n_iter c) b_iter x_iter ?_
  refine qw ?_
  refine ac ?_
  refine dl D ?_
  refine a_nil ⟨kp_bi, ?_⟩
  refine c_iter D (let ⟨o, e, r⟩ := hl; ⟨o, F.keep _ _ e, r⟩) fun I o h₂ hI D => ?_
  refine ds D fun h₃ D => ?_
  refine s_cons ?_
  refine s_If ?_
  refine tC ?_
  refine dl D ?_
  refine dg D G (n_missing c) ?_
  refine q_is rfl (fun q => nomatch q) ?_
  refine t_bool ?_
  rw [if_neg (by decide)]
  refine s_cons ?_
  refine sA ?_
  refine dl D ?_
  refine ds D fun h₄ D => ?_
  refine s_nil ?_
  refine s_cons ?_
  refine sF ?_
  refine dl D ?_
  refine i_listiter (j := 0) D rfl hI ?_
  have hn : vs.length = xs.length := ints_len hx
  refine for_list (vs := vs) r'.handled (fun h' k => let ⟨o, e, r⟩ := hl; ⟨o, k _ _ e, r⟩) (fun i l' _ => lk l' (Str.ofString "function") = some (.ref f) ∧ ∃ t, lk l' (Str.ofString "value") = some (.int ((xs.take i).foldl S init) t)) ?turn ?done vs.length 0 I o _ _ h₄ rfl (Nat.zero_le _) hI ⟨rfl, ⟨t, rfl⟩⟩ D
  case done =>
    rintro l' news h' ⟨e1, ⟨tv, e2⟩⟩ D
    refine s_nil ?_
    show wq c _ (execs _ _) _ _
    refine s_cons ?_
    refine s_Return ?_
    refine dv D e2 ?_
    exact ⟨⟨tv, by rw [hn, List.take_length]⟩, D.fr.keep⟩
  case turn =>
    rintro i v I' o' l' news h' hv ⟨e1, ⟨tv, e2⟩⟩ D
    obtain ⟨x, tx, hxi, rfl⟩ := ints_get hx hv
    obtain ⟨fo, fd, hfo, hfd⟩ := hfn
    refine ds D fun h₅ D => ?_
    refine s_cons ?_
    refine sA ?_
    refine q_CallN ?_
    refine dv D e1 ?_
    refine qw ?_
    refine ac ?_
    refine dv D e2 ?_
    refine ac ?_
    refine dl D ?_
    refine a_nil ⟨kp_fn (D.fr.keep _ _ hfo) hfd, ?_⟩
    refine wq.mono (hf _ _ _ _ _ _ r' D.fr.keep (hok i x hxi)) fun w h₆ H₆ => ?_
    obtain ⟨⟨tw, rfl⟩, k₆⟩ := H₆
    have D := led_grow D k₆
    refine ds D fun h₇ D => ?_
    refine s_nil ⟨_, _, D, e1, ⟨tw, ?_⟩⟩
    have : (xs.take (i + 1)).foldl S init = S ((xs.take i).foldl S init) x := by
      rw [List.take_add_one, hxi]
      simp
    rw [this]
    rfl
end Mine
end
section
open PySem PySem.W PyProof.Rows PySem.Calls PySem.W.X
set_option Elab.async false
set_option maxRecDepth 100000
set_option maxHeartbeats 400000
set_option linter.unusedVariables false
namespace Mine
theorem pairInts {f : Int → Int} {a₀ c₀ : Int} {vs ys : List Value} (P : Paired (fun v y => ∃ a t t', v = Value.int a t ∧ y = Value.int (f a) t') vs ys) :
    ∀ k : Nat, (∀ (j : Nat) v, vs[j]? = some v → ∃ t, v = Value.int (a₀ + ((k + j : Nat) : Int) * c₀) t) → IntsL ys ((List.range' k vs.length).map fun (i : Nat) => f (a₀ + (i : Int) * c₀)) := by
  induction P with
  | nil => intro _ _; trivial
  | cons hF r ih =>
    intro k hP
    obtain ⟨a, t, t', rfl, rfl⟩ := hF
    obtain ⟨u, e⟩ := hP 0 _ rfl
    cases e
    refine ⟨⟨t', rfl⟩, ?_⟩
    exact ih (k + 1) (fun j w hj => by
      obtain ⟨u, e⟩ := hP (j + 1) w hj
      exact ⟨u, by rw [e, show k + (j + 1) = k + 1 + j by omega]⟩)
def pows : List Int := [16384, 8192, 4096, 2048, 1024, 512, 256, 128, 64, 32, 16, 8, 4, 2, 1]
section
variable {c : Cx} {A : Around} {h h₀ : Heap} {L a : Addr} {m : Str → Option Value} {news : List (Addr × Obj)} {cn : Str} {cs : Scope} {ccd : Value} {cl : List (Str × Addr)}
theorem q_comp {elt iter : Expr} {x : Str} {px pos : Pos} {scope : Scope} {Q : Value → Heap → Prop} (hh : A.handled = none) (hclos : closureFor scope (envX cn cs L a ccd cl) = pure []) (hcell : ∀ y ∈ scope.names, y.2 ≠ .cell) (hkind : scope.kind = .function)
    (hnames : ∀ y ∈ scope.names, y.2 = .local → scope.names.lookup y.1 = some .local) (hx : scope.names.lookup x = some .local) (hs : ∀ x, foldedSetIterable iter (envX cn cs L a ccd cl) x = pure x)
    {a₀ b₀ c₀ : Int} {n : Nat} (hsm : Builtin.Range.small a₀ b₀ c₀ = true) (hn : Builtin.Range.rangeSize a₀ b₀ c₀ = (n : Int)) (hsz : n ≤ sizeLine) (f : Int → Int)
    (helt : ∀ C (i : Nat) v s₂ m₂ E', i < n → (∃ t, v = .int (a₀ + (i : Int) * c₀) t) → s₂.heap.Ns C m₂ → m₂ x = some v →
        wpAny c.M A (eval elt (compEnvC scope [] C (envX cn cs L a ccd cl))) (fun y s₃ => (∃ t, y = .int (f (a₀ + (i : Int) * c₀)) t) ∧ Keeps s₂ s₃) E' s₂)
    (H : wq c A (eval iter (envX cn cs L a ccd cl)) (fun xv h₁ => ∃ r t u v, xv = .ref r ∧ h₁.get? r = some (rO a₀ b₀ c₀ t u v) ∧
      (∀ D (ys : List Value) h', Keep h₁ h' → h'.IsList D ys.toArray → IntsL ys ((List.range' 0 n).map fun (i : Nat) => f (a₀ + (i : Int) * c₀)) → Q (.ref D) h')) h) :
    wq c A (eval (.ListComp elt [⟨.Name x px, iter, [], 0⟩] scope pos) (envX cn cs L a ccd cl)) Q h := wq.of fun tk Q' k => by
  refine wpAny_ListComp_free (fun _ => true) (fun v y => ∃ a t t', v = .int a t ∧ y = .int (f a) t') hclos hcell hkind hnames hx (H.go fun xv h₁ tk₁ H₁ => ?_) hs
  obtain ⟨r, t, u, v, rfl, hr, q⟩ := H₁
  refine wpAny_pyIter_range hr hsm ⟨h₁.objs.size, [h₁.objs.size], [h₁.objs.size], n, _, _, rfl, (Walks.range hh _ a₀ c₀ n).bound, hsz, (by show IsRangeIter _ _ _ _ _; rw [hn]; simpa using Heap.get?_push_size _ rfl), ?_, ⟨?_, ?_⟩, ?_⟩
  · intro b hb
    show b < (h₁.push _).objs.size
    rw [Heap.size_push]
    rcases List.mem_cons.mp hb with rfl | hb
    · exact Nat.lt_succ_self _
    · cases hb
  · intro C i v s₃ m₃ E' hC hP hn' hm hk _
    exact wpAny_pure ⟨rfl, s₃.heap, s₃.toks, rfl, fun _ _ e => e⟩
  · intro C i v s₃ m₃ E' hC hP hp hn' hm hk _
    obtain ⟨hi, t, rfl⟩ := hP
    refine wpAny_mono (helt C i _ s₃ m₃ E' hi ⟨t, rfl⟩ hn' hm) (fun y s₄ hy => ?_) fun _ _ e => e
    obtain ⟨⟨t', rfl⟩, ks⟩ := hy
    exact ⟨⟨_, t, t', rfl, rfl⟩, ks⟩
  · intro D h' tk ys vs' hnew hlD hplD hlen hP hF hk
    have keep : Keep h₁ h' := fun b o e => hk b o (fun hm => by rcases List.mem_cons.mp hm with rfl | hm; exact Nat.lt_irrefl _ (Heap.lt_size e); cases hm) (Heap.get?_push_of_some _ e)
    have hF' : Paired (fun v y => ∃ a t t', v = .int a t ∧ y = .int (f a) t') vs' ys.toList := by
      have e : vs'.filter (fun _ => true) = vs' := by simp
      rw [e] at hF; exact hF
    refine k _ _ _ (q D ys.toList h' keep (by rw [Array.toArray_toList]; exact hlD) ?_)
    have := pairInts (f := f) (a₀ := a₀) (c₀ := c₀) hF' 0 (fun j v hj => by
      obtain ⟨_, t, e⟩ := hP j v hj
      exact ⟨t, by rw [e, Nat.zero_add]⟩)
    rw [hlen] at this
    exact this
end
/-! what stays when one cell or one frame changes -/
theorem ne_of_data {h : Heap} {a b : Addr} {oa ob : Obj} (ha : h.get? a = some oa) (hb : h.get? b = some ob) (hd : ob.data ≠ oa.data) : b ≠ a := fun q => by
  subst q; rw [ha] at hb; cases hb; exact hd rfl
def Soft (h : Heap) (a : Addr) : Prop := ∃ o, h.get? a = some o ∧ ((∃ v, o.data = .cell v) ∨ (∃ es n, o.data = .dict es n) ∨ ∃ vs, o.data = .fields vs ∧ ∀ s t, vs[1]? ≠ some (.str s t))
theorem Soft.ne {h : Heap} {a b : Addr} {ob : Obj} (s : Soft h a) (hb : h.get? b = some ob) (h1 : ∀ v, ob.data ≠ .cell v) (h2 : ∀ es n, ob.data ≠ .dict es n) (h3 : ∀ vs, ob.data = .fields vs → ∃ s t, vs[1]? = some (.str s t)) : b ≠ a := by
  obtain ⟨o, ho, ⟨v, e⟩ | ⟨es, n, e⟩ | ⟨vs, e, n⟩⟩ := s
  · exact ne_of_data ho hb (e ▸ h1 v)
  · exact ne_of_data ho hb (e ▸ h2 es n)
  · exact ne_of_data ho hb (fun q => let ⟨s, t, e2⟩ := h3 vs (q.trans e); n s t e2)
theorem CodeR.soft {h h' : Heap} {a c' : Addr} {q : Str} (x : CodeR h c' q) (s : Soft h a) (hs : Heap.SameBut a h h') : CodeR h' c' q := by
  refine ⟨x.above, ?_⟩
  obtain ⟨c₂, oc, vs, tq, hc, hoc, hdc, hq⟩ := x.code
  refine ⟨c₂, oc, vs, tq, hc, (hs.2 _ (s.ne hoc (fun _ q => by rw [hdc] at q; cases q) (fun _ _ q => by rw [hdc] at q; cases q) (fun vs' q => by rw [hdc] at q; cases q; exact ⟨_, _, hq⟩))).trans hoc, hdc, hq⟩
theorem lam_data (c : Cx) {i : Nat} (hi : i < 6) (pm : Value) (c' : Addr) (ctv : Value) : ∃ fd, (lamFn c i pm c' ctv).data = .func fd := by
  have h6 : i = 0 ∨ i = 1 ∨ i = 2 ∨ i = 3 ∨ i = 4 ∨ i = 5 := by omega
  rcases h6 with rfl | rfl | rfl | rfl | rfl | rfl <;> exact ⟨_, rfl⟩
theorem Qst.soft {c : Cx} {h h' : Heap} {a l : Addr} (x : Qst c h l) (s : Soft h a) (hs : Heap.SameBut a h h') : Qst c h' l := by
  obtain ⟨vs, ⟨o, ho, hc, n, hd⟩, hlen, hV⟩ := x
  refine ⟨vs, ⟨o, (hs.2 _ (s.ne ho (fun _ q => by rw [hd] at q; cases q) (fun _ _ q => by rw [hd] at q; cases q) (fun _ q => by rw [hd] at q; cases q))).trans ho, hc, n, hd⟩, hlen, fun i v e => ?_⟩
  obtain ⟨f, pm, c', ctv, rfl, b, g, r⟩ := hV i v e
  have hi : i < 6 := by have := (List.getElem?_eq_some_iff.mp e).1; omega
  obtain ⟨fd, hfd⟩ := lam_data c hi pm c' ctv
  exact ⟨f, pm, c', ctv, rfl, b, (hs.2 _ (s.ne g (fun _ q => by rw [hfd] at q; cases q) (fun _ _ q => by rw [hfd] at q; cases q) (fun _ q => by rw [hfd] at q; cases q))).trans g, r.soft s hs⟩
theorem Qst.kp {c : Cx} {h h' : Heap} {l : Addr} (x : Qst c h l) (hl : 100 < l) (k : Kp h h') : Qst c h' l := by
  obtain ⟨vs, ⟨o, ho, r⟩, hlen, hV⟩ := x
  exact ⟨vs, ⟨o, k _ _ (not_T3 hl) ho, r⟩, hlen, fun i v e => (hV i v e).kp k⟩
theorem TabOk.soft {h h' : Heap} {a : Addr} {ps : Array Value} {q : Str} (x : TabOk h ps q) (s : Soft h a) (hs : Heap.SameBut a h h') : TabOk h' ps q :=
  ⟨x.ok, fun pos cv e => let ⟨c', e1, r⟩ := x.hit pos cv e; ⟨c', e1, r.soft s hs⟩⟩
section
variable {c : Cx} {A : Around} {h h₀ : Heap} {L a : Addr} {m : Str → Option Value} {l : List (Str × Value)} {news : List (Addr × Obj)} {cn : Str} {cs : Scope} {ccd : Value} {cl : List (Str × Addr)} {x : Str} {v : Value} {j : Nat}
theorem dsB {Q : Unit → Heap → Prop} (D : Led h₀ L (lk l) h news) (q : ∀ h', Led h₀ L (lk ((x, v) :: l)) h' news → Heap.SameBut L h h' → Soft h L → Q () h') (hk : cs.kind = .function := by exact rfl) (hx : (envX cn cs L a ccd cl).kindOf x = some .local := by exact rfl) :
    wq c A (storeName (envX cn cs L a ccd cl) x v) Q h := wq.of fun tk Q' k =>
  wpAny_storeName_local hx D.fr.ns (fun h' hn hs => k _ _ _ (q h' ⟨lk_cons x v l ▸ D.fr.set hn hs, D.nw.set hs, D.ord⟩ hs (let ⟨o, es, ep, e, hd, _⟩ := D.fr.ns; ⟨o, e, .inr (.inl ⟨es, ep, hd⟩)⟩))) (by show (cs.kind == .class || (cs.kind == .module && L != mainGlobals)) = false; rw [hk]; rfl)
theorem dsC {Q : Unit → Heap → Prop} {cA : Addr} {o : Obj} {v₀ : Option Value} (D : Led h₀ L m h news) (hj : news[j]? = some (cA, o)) (hd : o.data = .cell v₀) (hc : cl.lookup x = some cA)
    (q : ∀ h' o', Led h₀ L m h' (news.set j (cA, o')) → o'.data = .cell (some v) → Heap.SameBut cA h h' → Soft h cA → Q () h') (hk : cs.kind = .function := by exact rfl) (hx : (envX cn cs L a ccd cl).kindOf x = some .cell := by exact rfl) :
    wq c A (storeName (envX cn cs L a ccd cl) x v) Q h := wq.of fun tk Q' k =>
  wpAny_storeName_cell hk hx hc ⟨o, D.at j hj, hd⟩ fun h' ⟨o', ho', hd'⟩ hs => k _ _ _ (q h' o' (led_put D hj hs ho') hd' hs ⟨o, D.at j hj, .inl ⟨v₀, hd⟩⟩)
end
end Mine
end
section
open PySem PySem.W PyProof.Rows PySem.Calls PySem.W.X
set_option Elab.async false
set_option maxRecDepth 100000
set_option maxHeartbeats 400000
set_option linter.unusedVariables false
namespace Mine
theorem c_range3K {c : Cx} {A : Around} {h h₀ : Heap} {L : Addr} {m : Str → Option Value} {news : List (Addr × Obj)} {a b e : Int} {t u v : Tok} {Q : Value → Heap → Prop} (D : Led h₀ L m h news) (he : e ≠ 0) (hp : Builtin.divisionGoesByPylong (b - a) e = false) (q : ∀ r t u v h', Led h₀ L m h' ((r, rO a b e t u v) :: news) → Keep h h' → Q (.ref r) h') : wq c A (call (.type "range") [.int a t, .int b u, .int e v]) Q h :=
  wq.of fun _ _ k => call_range_3 he (k _ _ _ (q _ _ _ _ _ (led_push D _ rfl) (fun _ _ e => Heap.get?_push_of_some _ e))) (.inl hp)
theorem n_questions (c : Cx) : nsIn (K2 c) mainGlobals (Str.ofString "_law_questions") = some (some (.ref 98)) := by kernel_rfl
theorem n_reduce (c : Cx) : nsIn (K2 c) mainGlobals (Str.ofString "reduce") = some (some (.ref 30)) := by kernel_rfl
theorem found {c : Cx} {A : Around} {h : Heap} {mg mb : Str → Option Value} {ta tb td : Array Value} {C g : Addr} {gs : Str} {b : Nat → Nat} {sp : Int} {ts : Tok} (r : Room A 7 22) (G : Gd (K2 c) mg mb h) (B : Bm mg h) (T : Tb h ta tb td) (Kc : KeyC c (hid h) C)
    (hg : KeyO (hid h) g C gs) (hb : ∀ i, i < 10 → gs.cps[i]? = some (b i)) (hok : ∀ i x, pows[i]? = some x → 0 ≤ (pows.take i).foldl (stepN b) 0 + x ∧ (pows.take i).foldl (stepN b) 0 + x < 32768) :
    wq c A (call (.ref 103) [.ref g, .int sp ts, .ref C]) (fun v h' => ∃ t ta' tb', v = .int (pows.foldl (stepN b) 0) t ∧ Kp h h' ∧ Tb h' ta' tb' td) h := by
  refine q_defC (d := 6) (u := 19) (binds := [(Str.ofString "goal", .ref g), (Str.ofString "spare", .int sp ts), (Str.ofString "key", .ref C)]) r (G.X 103 _ rfl) rfl G.lim ?a ?b ?c ?d ?e ?f ?_
  case a => exact codeRec_of G.X rfl
  case b => exact fun s _ => BindsTo.of_eq rfl
  case d => exact rfl
  case e => exact rfl
  case f => exact rfl
  case c =>
    intro n x hx
    simp only [List.mem_cons, List.not_mem_nil, or_false] at hx
    rcases hx with rfl | rfl | rfl
    · exact .inr ⟨rfl, rfl⟩
    · exact .inr ⟨rfl, rfl⟩
    · exact .inr ⟨rfl, rfl⟩
  intro L h₁ F hc r'
  have F' : Fr h L h₁ (lk []) := F
  obtain ⟨o1, eo1, d1⟩ : h₁.IsCell (L + 1) (some (.ref g)) := hc (Str.ofString "goal") (L + 1) rfl
  obtain ⟨o2, eo2, d2⟩ : h₁.IsCell (L + 2) (some (.int sp ts)) := hc (Str.ofString "spare") (L + 2) rfl
  obtain ⟨o3, eo3, d3⟩ : h₁.IsCell (L + 3) (some (.ref C)) := hc (Str.ofString "key") (L + 3) rfl
  obtain ⟨o4, eo4, d4⟩ : h₁.IsCell (L + 4) none := hc (Str.ofString "questions") (L + 4) rfl
  have D := led_startT F' T.e100 T.e93 T.e16
  have hL : 110 < L := Nat.lt_of_lt_of_le (gd_big G) F.above
  have D := led_add D eo1 (fun p hp => by
    simp only [tabN, List.mem_cons, List.not_mem_nil, or_false] at hp
    rcases hp with rfl | rfl | rfl
    · exact Nat.lt_trans (Nat.lt_trans (show (100 : Nat) < 110 by decide) hL) (Nat.lt_succ_self L)
    · exact Nat.lt_trans (Nat.lt_trans (show (93 : Nat) < 110 by decide) hL) (Nat.lt_succ_self L)
    · exact Nat.lt_trans (Nat.lt_trans (show (16 : Nat) < 110 by decide) hL) (Nat.lt_succ_self L)) (Nat.lt_succ_self L)
  have up : ∀ {a : Addr} {o : Obj} {r : List (Addr × Obj)} {n : Nat}, Led (hid h) L (lk []) h₁ ((n, o) :: r) → ∀ p ∈ (n, o) :: r, p.1 < n + 1 := fun {a o r n} D p hp => by
    rcases List.mem_cons.mp hp with rfl | hp
    · exact Nat.lt_succ_self _
    · exact Nat.lt_trans ((List.pairwise_cons.mp D.ord).1 p.1 (List.mem_map_of_mem hp)) (Nat.lt_succ_self _)
  have D := led_add D eo2 (up (a := 0) D) (Nat.lt_add_of_pos_right (by decide))
  have D := led_add D eo3 (up (a := 0) D) (Nat.lt_add_of_pos_right (by decide))
  have D := led_add D eo4 (up (a := 0) D) (Nat.lt_add_of_pos_right (by decide))
  have k₁ : Kp h h₁ := Keep.kp F.keep
  refine s_cons ?_
  refine sA ?_
  refine q_CallN ?_
  refine dg D G.hid (n_questions c) ?_
  refine q_callWith0 (kp_fn ((G.keeps F.keep).X 98 _ rfl) rfl) ?_
  refine wq.mono (questions (r'.le (by decide) (by decide)) (G.keeps F.keep) (B.keeps F.keep) (T.keeps F.keep)) fun v h₂ H₂ => ?_
  obtain ⟨l, tb', rfl, hq, kp2, T2, hl⟩ := H₂
  have hl' : 100 < l := Nat.lt_of_lt_of_le (Nat.lt_trans (by decide) (Nat.lt_trans hL F'.ns.lt)) hl
  have D := led_kp (xs := [(L + 4, o4), (L + 3, o3), (L + 2, o2), (L + 1, o1)]) D hL kp2 T2.e100 T2.e93 T2.e16
  have k₂ := k₁.trans kp2
  refine dsC (j := 0) (cA := L + 4) D rfl d4 rfl fun h₃ o4' D d4' sb so => ?_
  have hq := hq.soft so sb
  have o100 := T2.o100.soft so sb
  have o93 := T2.o93.soft so sb
  have G₃ := G.hid.keeps D.fr.keep
  have B₃ := (B.kp (kp_to_hid h)).keeps D.fr.keep
  refine s_cons ?_
  refine s_Def (P := 100) (j := 4) (cP := 102) (qual := qStep) D hL rfl m100 G₃.g B₃ rfl (hd102 G₃) o100 rfl rfl rfl rfl rfl fun f c' ctv doc h₄ ps' D rc o100 kp4 lf => ?_
  have hq := hq.kp hl' kp4
  have o93 := o93.keeps kp4
  refine dsB D fun h₅ D sb5 so5 => ?_
  have hq := hq.soft so5 sb5
  have o93 := o93.soft so5 sb5
  have o100 := o100.soft so5 sb5
  have rc := rc.soft so5 sb5
  refine s_cons ?_
  refine s_Return ?_
  refine q_CallN ?_
  refine dg D G.hid (n_reduce c) ?_
  refine qw ?_
  refine ac ?_
  refine dl D ?_
  refine ac ?_
  refine q_comp (a₀ := 14) (b₀ := -1) (c₀ := -1) (n := 15) r'.handled ?p1 ?p2 ?p3 ?p4 ?p5 ?p6 rfl rfl (by decide) (fun a => 2 ^ a.toNat) ?p7 ?_
  case p1 => exact rfl
  case p2 => decide
  case p3 => exact rfl
  case p4 => decide
  case p5 => exact rfl
  case p6 => exact fun _ => rfl
  case p7 =>
    rintro Cc i v s₂ m₂ E' hi ⟨t, rfl⟩ hns hm
    have e : (14 : Int) + (i : Int) * -1 = ((14 - i : Nat) : Int) := by omega
    have h27 : (Builtin.Int.intBits 2 : Int) * ((14 - i : Nat) : Int) ≤ 2 ^ 27 := by
      have h2 : Builtin.Int.intBits 2 = 2 := by decide
      rw [h2]; omega
    refine wpAny_BinOp (wpAny_Constant_int ?_)
    refine wpAny_Name (wpAny_loadName_local (m := m₂) ?q1 ?q2 hns hm ?q3) ?q4
    case q1 => exact rfl
    case q2 => exact rfl
    case q4 => exact rfl
    refine pow_int (by omega) (by rw [e]; exact h27) ⟨⟨_, rfl⟩, _, _, rfl, fun _ _ e => e⟩
  refine q_CallN ?_
  refine db (.type "range") D G.hid (n_range' c) b_range x_range ?_
  refine qw ?_
  refine ac ?_
  refine q_int fun t1 => ?_
  refine ac ?_
  refine q_UnaryOp ?_
  refine q_int fun t2 => ?_
  refine q_neg fun t2 => ?_
  refine ac ?_
  refine q_UnaryOp ?_
  refine q_int fun t3 => ?_
  refine q_neg fun t3 => ?_
  refine a_nil ⟨kp_type, ?_⟩
  refine c_range3K D (by decide) (by decide) fun R t4 t5 t6 h₆ D k6 => ?_
  have hq := hq.kp hl' (Keep.kp k6)
  have o93 := o93.keeps (Keep.kp k6)
  have o100 := o100.keeps (Keep.kp k6)
  have rc := rc.keeps (Keep.kp k6)
  refine ⟨R, t4, t5, t6, rfl, D.at 0 rfl, fun Dl ys h₇ k7 hD hi => ?_⟩
  have D := led_grow (led_tail D) k7
  have hq := hq.kp hl' (Keep.kp k7)
  have o93 := o93.keeps (Keep.kp k7)
  have o100 := o100.keeps (Keep.kp k7)
  have rc := rc.keeps (Keep.kp k7)
  have hi : IntsL ys pows := hi
  refine ac ?_
  refine q_int fun t7 => ?_
  refine a_nil ⟨kp_fn ((G.hid.keeps D.fr.keep).X 30 _ rfl) rfl, ?_⟩
  refine wq.mono (reduce (S := stepN b) (xs := pows) (d := 4) (u := 13) (by decide) (r'.le (by decide) (by decide)) (G.hid.keeps D.fr.keep) hD hi ⟨_, _, D.at 0 rfl, rfl⟩ (fun low power => 0 ≤ low + power ∧ low + power < 32768) ?st hok) fun v h₈ H₈ => ?_
  case st =>
    intro A' h' low t power u' rm kp ok
    have kb : Keep (hid h) h' := Keep.trans D.fr.keep kp
    exact step (ck := L + 3) (cq := L + 4) (cs := L + 2) (cg := L + 1) (l := l) rm (G.hid.keeps kb) (Kc.keeps kb) (kp _ _ (D.at 0 rfl)) (rc.keeps (Keep.kp kp)).code rfl rfl rfl rfl ⟨o3, kp _ _ (D.at 2 rfl), d3⟩ ⟨o4', kp _ _ (D.at 1 rfl), d4'⟩ ⟨o2, kp _ _ (D.at 3 rfl), d2⟩ ⟨o1, kp _ _ (D.at 4 rfl), d1⟩ (hq.kp hl' (Keep.kp kp)) (hg.keeps kb) hb ok.1 ok.2
  obtain ⟨⟨tv, rfl⟩, k8⟩ := H₈
  have D := led_grow D k8
  exact ⟨tv, _, _, rfl, kp_of_hid D.fr.keep, ⟨D.at 5 rfl, D.at 6 rfl, D.at 7 rfl, o100.keeps (Keep.kp k8), o93.keeps (Keep.kp k8)⟩⟩
end Mine
end
section
open PySem PySem.W PyProof.Rows PySem.Calls PySem.W.X
set_option Elab.async false
set_option maxRecDepth 100000
set_option maxHeartbeats 400000
set_option linter.unusedVariables false
namespace Mine
theorem ints_are : ∀ {vs : List Value} {xs : List Int}, IntsAre vs xs → IntsL vs xs
  | _, _, .nil => trivial
  | _, _, .cons n t r => ⟨⟨t, rfl⟩, ints_are r⟩
theorem are_ints : ∀ {vs : List Value} {xs : List Int}, IntsL vs xs → IntsAre vs xs
  | [], [], _ => .nil
  | [], _ :: _, h => h.elim
  | _ :: _, [], h => h.elim
  | _ :: _, x :: xs, h => by obtain ⟨⟨t, rfl⟩, r⟩ := h; exact .cons x t (are_ints r)
section
variable {c : Cx} {A : Around} {h h₀ : Heap} {L : Addr} {m : Str → Option Value} {news : List (Addr × Obj)} {env : Env} {pos p : Pos}
theorem q_sliceTo {value u : Expr} {Q : Value → Heap → Prop} (D0 : Led h₀ L m h news)
    (H : wq c A (eval value env) (fun o h₁ => wq c A (eval u env) (fun vu h₂ => ∃ l vs y t, o = .ref l ∧ vu = .int y t ∧ h₂.IsList l (List.toArray vs) ∧ vs.length ≤ sizeLine ∧ Led h₀ L m h₂ news ∧
      (∀ D h', Led h₀ L m h' ((D, listOf (slicePick vs.toArray none (some y) none) 0) :: news) → Keep h₂ h' → L < D → Q (.ref D) h')) h₁) h)
    (ht : ∀ o r, letTemporaryGo value o r = pure () := by exact fun _ _ => rfl) : wq c A (eval (.Subscript value (.Slice none (some u) none p) pos) env) Q h := wq.of fun tk Q' k => by
  refine wpAny_Subscript_list_slice (H.go fun o h₁ tk₁ H₁ => ?_) ht
  refine wpAny_pure ?_
  refine H₁.go fun vu h₂ tk₂ H₂ => ?_
  obtain ⟨l, vs, y, t, rfl, rfl, hl, hz, D, q⟩ := H₂
  refine ⟨l, vs.toArray, none, some y, rfl, hl, by simpa using hz, .none, .int y t, k _ _ _ ?_⟩
  have D1 := led_push (led_tail (led_push D { cls := .type "slice", data := .fields #[.none, .int y t, .none] } rfl)) (listOf (slicePick vs.toArray none (some y) none) 0) rfl
  rw [Heap.size_push] at D1
  exact q _ _ D1 (fun _ _ e => Heap.get?_push_of_some _ (Heap.get?_push_of_some _ e)) (Nat.lt_succ_of_lt D.fr.ns.lt)
theorem t_list {l : Addr} {items : Array Value} {Q : Bool → Heap → Prop} (hl : h.IsList l items) (hz : (items.size : Int) < 2 ^ 63) (q : Q (!items.isEmpty) h) : wq c A (truthy (.ref l)) Q h := wq.of fun _ _ k => wpAny_truthy_list hl hz (k _ _ _ q)
end
section loops
variable {c : Cx} {A : Around} {h₀ : Heap} {L : Addr} {env : Env} {pos : Pos}
theorem n_listB {h : Heap} {m : Str → Option Value} {news : List (Addr × Obj)} {j i : Nat} {I t : Addr} {o : Obj} {items : Array Value} {x : Value} {Q : Option Value → Heap → Prop} (D : Led h₀ L m h news) (hi : news[j]? = some (I, o)) (hI : IsLI o t i) (ht : h.IsList t items) (hx : items[i]? = some x)
    (q : ∀ o' h', IsLI o' t (i + 1) → Led h₀ L m h' (news.set j (I, o')) → Heap.SameBut I h h' → Soft h I → Q (some x) h') : wq c A (pyNext (.ref I)) Q h :=
  wq.of fun _ _ k => wpAny_pyNext_list_item (it := I) (l := t) ⟨o, D.at j hi, hI⟩ ht hx fun h' ⟨o', ho', hI'⟩ hs => k _ _ _ (q o' _ hI' (led_put D hi hs ho') hs ⟨o, D.at j hi, .inr (.inr ⟨_, hI.2, fun s t e => by cases e⟩)⟩)
/-- «for x in l», l a list of the ledger; the invariant speaks of the heap too -/
theorem for_listL {x : Str} {p : Pos} {t : Addr} {vs : List Value} {e : Nat} {body orelse : List Stmt} {Q : Flow → Heap → Prop} (hh : A.handled = none) (Inv : Nat → List (Str × Value) → List (Addr × Obj) → Heap → Prop)
    (soft : ∀ i l news h h' a, Inv i l news h → Soft h a → Heap.SameBut a h h' → Inv i l news h')
    (turn : ∀ (i : Nat) v I o l news h, vs[i]? = some v → Inv i l news h → Led h₀ L (lk l) h ((I, o) :: (t, listOf vs.toArray e) :: news) →
      wq c A (storeName env x v) (fun _ h₂ => wq c A (execs body env) (fun f h₃ => match f with
        | .next => ∃ l' news', Led h₀ L (lk l') h₃ ((I, o) :: (t, listOf vs.toArray e) :: news') ∧ Inv (i + 1) l' news' h₃
        | .cont => ∃ l' news', Led h₀ L (lk l') h₃ ((I, o) :: (t, listOf vs.toArray e) :: news') ∧ Inv (i + 1) l' news' h₃
        | .brk => Q .next h₃
        | .ret v => Q (.ret v) h₃) h₂) h)
    (done : ∀ l news h₁ h, Inv vs.length l news h₁ → Led h₀ L (lk l) h ((t, listOf vs.toArray e) :: news) → wq c A (execs orelse env) Q h) :
    ∀ (k i : Nat) (I : Addr) (o : Obj) (l : List (Str × Value)) (news : List (Addr × Obj)) (h : Heap), k = vs.length - i → i ≤ vs.length → IsLI o t i → Inv i l news h → Led h₀ L (lk l) h ((I, o) :: (t, listOf vs.toArray e) :: news) → wqL c A (.Name x p) (.ref I) body orelse env Q h := by
  intro k
  induction k with
  | zero =>
    intro i I o l news h hk hi hI hV D
    have : i = vs.length := by omega
    subst this
    exact l_turn (n_listEnd hh (j := 0) D rfl hI (led_isList (i := 1) D rfl) (by simp) fun h' D' => done l news h h' hV D')
  | succ k ih =>
    intro i I o l news h hk hi hI hV D
    have hil : i < vs.length := by omega
    obtain ⟨v, hv⟩ : ∃ v, vs[i]? = some v := ⟨vs[i], by simp [hil]⟩
    refine l_turn (n_listB (j := 0) D rfl hI (led_isList (i := 1) D rfl) (x := v) (by simpa using hv) fun o' h' hI' D' sb so => ?_)
    refine g_own (g_Name ?_)
    refine wq.mono (turn i v I o' l news h' hv (soft _ _ _ _ _ _ hV so sb) D') fun _ h₂ H₂ => wq.mono H₂ fun f h₃ H₃ => ?_
    cases f with
    | next => obtain ⟨l', news', D₃, hV'⟩ := H₃; exact ih (i + 1) I o' l' news' h₃ (by omega) (by omega) hI' hV' D₃
    | cont => obtain ⟨l', news', D₃, hV'⟩ := H₃; exact ih (i + 1) I o' l' news' h₃ (by omega) (by omega) hI' hV' D₃
    | brk => exact H₃
    | ret v => exact H₃
end loops
theorem led_adds {h h₀ : Heap} {L : Addr} {m : Str → Option Value} {news : List (Addr × Obj)} (D : Led h₀ L m h news) : ∀ {K : List (Addr × Obj)}, (∀ q ∈ K, h.get? q.1 = some q.2) → (K.map (·.1)).Pairwise (· > ·) → (∀ q ∈ K, L < q.1) → (∀ q ∈ K, ∀ p ∈ news, p.1 < q.1) → Led h₀ L m h (K ++ news)
  | [], _, _, _, _ => D
  | (a, o) :: K, h1, h2, h3, h4 => by
    have h2' := List.pairwise_cons.mp h2
    refine led_add (led_adds D (fun q hq => h1 q (.tail _ hq)) h2'.2 (fun q hq => h3 q (.tail _ hq)) fun q hq => h4 q (.tail _ hq)) (h1 _ (.head _)) (fun p hp => ?_) (h3 _ (.head _))
    rcases List.mem_append.mp hp with hp | hp
    · exact h2'.1 p.1 (List.mem_map_of_mem hp)
    · exact h4 _ (.head _) p hp
end Mine
end
section
open PySem PySem.W PyProof.Rows PySem.Calls PySem.W.X
set_option Elab.async false
set_option maxRecDepth 100000
set_option maxHeartbeats 400000
set_option linter.unusedVariables false
namespace Mine
theorem n_ctk (c : Cx) : nsIn (K2 c) mainGlobals (Str.ofString "cmp_to_key") = some (some (.ref 21)) := by kernel_rfl
theorem n_apart (c : Cx) : nsIn (K2 c) mainGlobals (Str.ofString "_law_apart") = some (some (.ref 91)) := by kernel_rfl
theorem n_found (c : Cx) : nsIn (K2 c) mainGlobals (Str.ofString "_law_found") = some (some (.ref 103)) := by kernel_rfl
/-- what cmp_to_key(_law_apart) gives back -/
def CkPost (c : Cx) (h : Heap) (v : Value) (h' : Heap) : Prop := ∃ K C ns p cel f cc td', v = .ref C ∧ KeyF c K C ns p cel f cc ∧ (∀ q ∈ K, h'.get? q.1 = some q.2) ∧ (K.map (·.1)).Pairwise (· > ·) ∧ (∀ q ∈ K, h.objs.size ≤ q.1) ∧ Heap.ExtBut 16 h h' ∧ h'.get? 16 = some (tabObj td')
theorem lawRun {c : Cx} {A : Around} {h : Heap} {mg mb : Str → Option Value} {s : Addr} {vs : List Value} {xs : List Int} (r : Room A 50 150) (G : Gd (K2 c) mg mb h) (B : Bm mg h) (T : Tb h #[] #[] #[]) (hs : h.IsList s vs.toArray) (hxs : IntsL vs xs) (hz : vs.length ≤ sizeLine)
    (CK : ∀ A h', Room A 49 147 → Gd (K2 c) mg mb h' → Bm mg h' → h'.get? 16 = some (tabObj #[]) → wq c A (call (.ref 21) [.ref 91]) (CkPost c h') h')
    (PL : ∀ n sp : Int, 0 ≤ n → n < 32768 → pows.foldl (stepN (fmC (lmode n sp))) 0 = n)
    (PO : ∀ n sp : Int, 0 ≤ n → n < 32768 → ∀ i x, pows[i]? = some x → 0 ≤ (pows.take i).foldl (stepN (fmC (lmode n sp))) 0 + x ∧ (pows.take i).foldl (stepN (fmC (lmode n sp))) 0 + x < 32768) :
    wq c A (call (.ref 110) [.ref s]) (fun v h' => v = .bool true ∧ Kp h h' ∧ GrownAt 16 h' ∧ GrownAt 93 h' ∧ GrownAt 100 h') h := by
  refine q_def (d := 49) (u := 147) (binds := [(Str.ofString "script", .ref s)]) r (G.X 110 _ rfl) rfl G.lim ?a ?b ?c ?d ?e ?f ?g ?_
  case a => exact codeRec_of G.X rfl
  case b => exact fun s _ => BindsTo.of_eq rfl
  case c => decide
  case d => exact locs rfl
  case e => exact rfl
  case f => exact rfl
  case g => exact rfl
  intro L h₁ F N r'
  have D := led_startT F T.e100 T.e93 T.e16
  have hL : 110 < L := Nat.lt_of_lt_of_le (gd_big G) F.above
  refine s_cons ?_
  refine sA ?_
  refine q_CallN ?_
  refine dg D G.hid (n_ctk c) ?_
  refine qw ?_
  refine ac ?_
  refine dg D G.hid (n_apart c) ?_
  refine a_nil ⟨kp_fn ((G.keeps F.keep).X 21 _ rfl) rfl, ?_⟩
  refine wq.mono (CK _ _ r' (G.keeps F.keep) (B.keeps F.keep) (F.keep _ _ T.e16)) fun v h₂ H₂ => ?_
  obtain ⟨K, C, ns, p, cel, f, cc, td, rfl, Y, hK, hKo, hKl, kx, e16⟩ := H₂
  have kp2 : Kp h₁ h₂ := kp_of_ext m16 kx
  have D := led_kp (xs := []) D hL kp2 (kx _ _ (by decide) (F.keep _ _ T.e100)) (kx _ _ (by decide) (F.keep _ _ T.e93)) e16
  have hKL : ∀ q ∈ K, L < q.1 := fun q hq => Nat.lt_of_lt_of_le F.ns.lt (hKl q hq)
  have D := led_adds D hK hKo hKL (fun q hq p hp => by
    simp only [List.nil_append, tabN, List.mem_cons, List.not_mem_nil, or_false] at hp
    have h1 := hKL q hq
    rcases hp with rfl | rfl | rfl
    · exact Nat.lt_trans (Nat.lt_trans (show (100 : Nat) < 110 by decide) hL) h1
    · exact Nat.lt_trans (Nat.lt_trans (show (93 : Nat) < 110 by decide) hL) h1
    · exact Nat.lt_trans (Nat.lt_trans (show (16 : Nat) < 110 by decide) hL) h1)
  have D : Led (hid h) L (lk [(Str.ofString "script", .ref s)].reverse) h₂ (K ++ tabN #[] #[] td) := D
  refine ds D fun h₃ D => ?_
  have hs' : (hid h).IsList s vs.toArray := by
    obtain ⟨o, ho, hc, n, hd⟩ := hs
    refine ⟨o, hideAll_get _ ho (fun q => ?_), hc, n, hd⟩
    rcases in_T3 q with rfl | rfl | rfl
    · rw [T.e16] at ho; cases ho; cases hc
    · rw [T.e93] at ho; cases ho; cases hc
    · rw [T.e100] at ho; cases ho; cases hc
  have G₀ := G.hid
  have B₀ := B.kp (kp_to_hid h)
  have hK100 : ∀ q ∈ K, 100 < q.1 := fun q hq => Nat.lt_trans (Nat.lt_trans (show (100 : Nat) < 110 by decide) hL) (hKL q hq)
  refine s_cons ?_
  refine sF (wq.mono (Q := fun v h₅ => ∃ t ws ys, v = Value.ref t ∧ IntsL ws ys ∧ Led (hid h) L (lk [(Str.ofString "key", .ref C), (Str.ofString "script", .ref s)]) h₅ ((t, listOf ws.toArray 0) :: (K ++ tabN #[] #[] td))) ?it fun v h₅ H₅ => ?rest)
  case it =>
    refine q_Or ?_
    refine q_sliceTo D ?_
    refine dl D ?_
    refine q_int fun t1 => ?_
    refine ⟨s, vs, 2, t1, rfl, rfl, let ⟨o, e, r⟩ := hs'; ⟨o, D.fr.keep _ _ e, r⟩, hz, D, fun Dl h₄ D k4 lD => ?_⟩
    have hsl : IntsL (slicePick vs.toArray none (some 2) none).toList (xs.take 2) := ints_are (kmk_upto (are_ints hxs) (by decide))
    have hsz : (slicePick vs.toArray none (some 2) none).size < 3 := by
      have := ints_len hsl
      rw [Array.length_toList] at this
      rw [this]
      have := List.length_take_le 2 xs
      omega
    refine t_list (led_isList (i := 0) D rfl) (by omega) ?_
    by_cases he : (!(slicePick vs.toArray none (some 2) none).isEmpty) = true
    · rw [if_pos he]
      exact ⟨Dl, _, _, rfl, hsl, by rw [Array.toArray_toList]; exact D⟩
    · rw [if_neg he]
      have D := led_tail D
      refine q_List ?_
      refine ac ?_
      refine q_int fun t2 => ?_
      refine a_nil ?_
      refine d_newList D (show 1 ≤ sizeLine by decide) fun Dn h₅ D => ⟨Dn, [.int 19123 t2], [19123], rfl, ⟨⟨t2, rfl⟩, trivial⟩, D⟩
  case rest =>
    obtain ⟨t, ws, ys, rfl, hws, D⟩ := H₅
    refine i_list D (led_isList (i := 0) D rfl) fun I o h₆ hI D => ?_
    refine for_listL (vs := ws) (t := t) (e := 0) r'.handled (fun i l news hh => (∃ ta tb, news = K ++ tabN ta tb td ∧ TabOk hh ta qStep ∧ TabOk hh tb qLam) ∧ lk l (Str.ofString "key") = some (.ref C)) ?soft ?turn ?done ws.length 0 I o _ _ h₆ rfl (Nat.zero_le _) hI ⟨⟨#[], #[], rfl, TabOk.nil _ _, TabOk.nil _ _⟩, rfl⟩ D
    case soft =>
      rintro i l news ha hb a ⟨⟨ta, tb, e, o1, o2⟩, hk⟩ so sb
      exact ⟨⟨ta, tb, e, o1.soft so sb, o2.soft so sb⟩, hk⟩
    case done =>
      rintro l news ha hb ⟨⟨ta, tb, rfl, o1, o2⟩, hk⟩ D
      refine s_nil ?_
      show wq c _ (execs _ _) _ _
      refine s_cons ?_
      refine s_Return ?_
      refine q_bool ?_
      exact ⟨rfl, kp_of_hid D.fr.keep, ⟨_, (D.nw (16, tabObj td) (by simp)).1⟩, ⟨_, (D.nw (93, tabObj tb) (by simp)).1⟩, ⟨_, (D.nw (100, tabObj ta) (by simp)).1⟩⟩
    case turn =>
      rintro i v I o l news h₇ hv ⟨⟨ta, tb, rfl, o100, o93⟩, hk⟩ D
      obtain ⟨x, tx, hxi, rfl⟩ := ints_get hws hv
      refine dsB D fun h₈ D sb so => ?_
      have o100 := o100.soft so sb
      have o93 := o93.soft so sb
      refine s_cons ?_
      refine sA ?_
      refine q_BinOp ?_
      refine dl D ?_
      refine q_int fun t1 => ?_
      refine q_mod (by decide) (by decide) fun t2 => ?_
      refine dsB D fun h₉ D sb so => ?_
      have o100 := o100.soft so sb
      have o93 := o93.soft so sb
      refine s_cons ?_
      refine sA ?_
      refine q_BinOp ?_
      refine q_BinOp ?_
      refine dl D ?_
      refine q_int fun t3 => ?_
      refine q_div (by decide) (by decide) fun t4 => ?_
      refine q_BinOp ?_
      refine q_int fun t5 => ?_
      refine q_int fun t6 => ?_
      refine q_pow (by decide) (by decide) fun t7 => ?_
      refine q_mod (by decide) (by decide) fun t8 => ?_
      refine dsB D fun h₁₀ D sb so => ?_
      have o100 := o100.soft so sb
      have o93 := o93.soft so sb
      have hn0 : 0 ≤ x % 32768 := Int.emod_nonneg _ (by decide)
      have hn1 : x % 32768 < 32768 := Int.emod_lt_of_pos _ (by decide)
      refine s_cons ?_
      refine sA ?_
      refine q_CallN ?_
      refine dv D hk ?_
      refine qw ?_
      refine ac ?_
      refine q_CallN ?_
      refine dg D G₀ (n_filemode c) ?_
      refine qw ?_
      refine ac ?_
      refine q_CallN ?_
      refine dg D G₀ (n_lawmode c) ?_
      refine qw ?_
      refine ac ?_
      refine dl D ?_
      refine ac ?_
      refine dl D ?_
      refine a_nil ⟨kp_fn ((G₀.keeps D.fr.keep).X 84 _ rfl) rfl, ?_⟩
      refine wq.mono (lawmode (r'.le (by decide) (by decide)) (G₀.keeps D.fr.keep) hn0 hn1) fun w h₁₁ H₁₁ => ?_
      obtain ⟨⟨t9, rfl⟩, k11⟩ := H₁₁
      have D := led_grow D k11
      have o100 := o100.keeps (Keep.kp k11)
      have o93 := o93.keeps (Keep.kp k11)
      refine a_nil ⟨kp_fn ((G₀.keeps D.fr.keep).X 77 _ rfl) rfl, ?_⟩
      refine wq.mono (filemode (r'.le (by decide) (by decide)) (G₀.keeps D.fr.keep)) fun w h₁₂ H₁₂ => ?_
      obtain ⟨⟨t10, rfl⟩, k12⟩ := H₁₂
      have D := led_grow D k12
      have o100 := o100.keeps (Keep.kp k12)
      have o93 := o93.keeps (Keep.kp k12)
      have kc12 : KeyC c h₁₂ C := ⟨K, ns, p, cel, f, cc, Y, fun a o e => (D.nw (a, o) (by simp [mem_of_lookupK e])).1⟩
      refine a_nil ⟨kp_key kc12, ?_⟩
      refine wq.mono (newKey (r'.le (by decide) (by decide)) (G₀.keeps D.fr.keep) kc12) fun w h₁₃ H₁₃ => ?_
      obtain ⟨g, dg', rfl, og, odg, lg, lg2, k13⟩ := H₁₃
      have hLs := D.fr.ns.lt
      have below : ∀ q ∈ (I, o) :: (t, listOf ws.toArray 0) :: (K ++ tabN ta tb td), q.1 < dg' := fun q hq => Nat.lt_of_lt_of_le (Heap.lt_size (D.nw q hq).1) lg
      have D := led_grow D k13
      have o100 := o100.keeps (Keep.kp k13)
      have o93 := o93.keeps (Keep.kp k13)
      have hdL : L < dg' := Nat.lt_of_lt_of_le hLs lg
      have D := led_add D odg below hdL
      have D := led_add D og (fun q hq => by
        rcases List.mem_cons.mp hq with rfl | hq
        · exact lg2
        · exact Nat.lt_trans (below q hq) lg2) (Nat.lt_trans hdL lg2)
      refine dsB D fun h₁₄ D sb so => ?_
      have o100 := o100.soft so sb
      have o93 := o93.soft so sb
      have hd100 : 100 < dg' := Nat.lt_trans (Nat.lt_trans (show (100 : Nat) < 110 by decide) hL) hdL
      have kc14 : KeyC c (hid h₁₄) C := ⟨K, ns, p, cel, f, cc, Y, fun a o e => hideAll_get _ (D.nw (a, o) (by simp [mem_of_lookupK e])).1 (not_T3 (hK100 _ (mem_of_lookupK e)))⟩
      have ko14 : KeyO (hid h₁₄) g C (fmS (lmode (x % 32768) (x / 32768 % 2 ^ (20 : Int).toNat))) := ⟨dg', t10, emptyDict, hideAll_get _ (D.at 0 rfl) (not_T3 (Nat.lt_trans hd100 lg2)), hideAll_get _ (D.at 1 rfl) (not_T3 hd100)⟩
      have T14 : Tb h₁₄ ta tb td := ⟨(D.nw (100, tabObj ta) (by simp)).1, (D.nw (93, tabObj tb) (by simp)).1, (D.nw (16, tabObj td) (by simp)).1, o100, o93⟩
      refine s_cons ?_
      refine s_If ?_
      refine tC ?_
      refine q_CallN ?_
      refine dg D G₀ (n_found c) ?_
      refine qw ?_
      refine ac ?_
      refine dl D ?_
      refine ac ?_
      refine dl D ?_
      refine ac ?_
      refine dv D hk ?_
      refine a_nil ⟨kp_fn ((G₀.keeps D.fr.keep).X 103 _ rfl) rfl, ?_⟩
      refine wq.mono (found (b := fmC (lmode (x % 32768) (x / 32768 % 2 ^ (20 : Int).toNat))) (r'.le (by decide) (by decide)) (G₀.keeps D.fr.keep) (B₀.keeps D.fr.keep) T14 kc14 ko14 (fmS_at _) (PO _ _ hn0 hn1)) fun w h₁₅ H₁₅ => ?_
      obtain ⟨t11, ta', tb', rfl, k15, T15⟩ := H₁₅
      have D := led_kp (xs := (g, ⟨.ref C, some dg', .plain, #[some (.str (fmS (lmode (x % 32768) (x / 32768 % 2 ^ (20 : Int).toNat))) t10)]⟩) :: (dg', emptyDict) :: (I, o) :: (t, listOf ws.toArray 0) :: K) D hL k15 T15.e100 T15.e93 T15.e16
      rw [PL _ _ hn0 hn1]
      refine dl D ?_
      refine q_ne ?_
      refine t_bool ?_
      rw [if_neg (by simp)]
      refine s_nil (s_nil ⟨_, _, led_tail (led_tail D), ⟨ta', tb', rfl, T15.o100, T15.o93⟩, hk⟩)
end Mine
end
section
open PySem PySem.W
set_option Elab.async false
set_option maxHeartbeats 400000
namespace Mine
theorem and_pow (m j : Nat) : m &&& 2 ^ j = m / 2 ^ j % 2 * 2 ^ j := by
  have hd := Nat.testBit_eq_decide_div_mod_eq (x := m) (i := j)
  have h01 : m / 2 ^ j % 2 = 0 ∨ m / 2 ^ j % 2 = 1 := by omega
  rcases h01 with h | h
  · rw [h] at hd ⊢
    apply Nat.eq_of_testBit_eq; intro i
    rw [Nat.testBit_and, Nat.testBit_two_pow]
    by_cases e : j = i
    · subst e; simp [hd]
    · simp [e]
  · rw [h] at hd ⊢
    apply Nat.eq_of_testBit_eq; intro i
    rw [Nat.one_mul, Nat.testBit_and, Nat.testBit_two_pow]
    by_cases e : j = i
    · subst e; simp [hd]
    · simp [e]
theorem bAnd (m : Int) (k : Nat) (hm : 0 ≤ m) : Builtin.bitAnd m (k : Int) = ((m.toNat &&& k : Nat) : Int) := by
  rw [PyProof.Rows.bitAnd_pp hm (by omega)]
  simp
/-- a bit of a mode -/
def bt (m : Int) (p : Int) : Int := m / p % 2
theorem two_bits (m : Int) (p q : Nat) (hm : 0 ≤ m) (hp : ∃ i, p = 2 ^ i) (hq : ∃ i, q = 2 ^ i) (hpq : p ≠ q) : Builtin.bitAnd m ((p ||| q : Nat) : Int) = ((m.toNat / p % 2 * p ||| m.toNat / q % 2 * q : Nat) : Int) := by
  obtain ⟨i, rfl⟩ := hp
  obtain ⟨j, rfl⟩ := hq
  rw [bAnd m _ hm, Nat.and_or_distrib_left, and_pow, and_pow]
theorem one_bit (m : Int) (p : Nat) (hp : ∃ i, p = 2 ^ i) (hm : 0 ≤ m) : (Builtin.bitAnd m (p : Int) == (p : Int)) = (bt m (p : Int) == 1) := by
  obtain ⟨j, rfl⟩ := hp
  rw [bAnd m _ hm, and_pow]
  obtain ⟨n, rfl⟩ := Int.eq_ofNat_of_zero_le hm
  have hp : 0 < 2 ^ j := Nat.pow_pos (by decide)
  unfold bt
  generalize 2 ^ j = P at hp
  simp only [Int.toNat_natCast]
  have e : ((n : Int) / (P : Int) % 2) = ((n / P % 2 : Nat) : Int) := by simp
  rw [e]
  have : n / P % 2 = 0 ∨ n / P % 2 = 1 := by omega
  rcases this with h | h
  · rw [h]; simp; omega
  · rw [h]; simp
theorem b01 (m p : Int) : bt m p = 0 ∨ bt m p = 1 := by unfold bt; omega
theorem btN (m : Int) (p : Nat) (hm : 0 ≤ m) : ((m.toNat / p % 2 : Nat) : Int) = bt m p := by
  obtain ⟨n, rfl⟩ := Int.eq_ofNat_of_zero_le hm
  unfold bt; simp
theorem btNat (m : Int) (p : Nat) (hm : 0 ≤ m) : m.toNat / p % 2 = (bt m p).toNat := by have := btN m p hm; omega
theorem t2112 (m : Int) (hm : 0 ≤ m) : (Builtin.bitAnd m 2112 == 2112) = (bt m 2048 == 1 && bt m 64 == 1) := by
  have := two_bits m 2048 64 hm ⟨11, rfl⟩ ⟨6, rfl⟩ (by decide)
  rw [show ((2048 ||| 64 : Nat) : Int) = 2112 from rfl] at this
  rw [this, btNat m 2048 hm, btNat m 64 hm]
  rcases b01 m (2048 : Nat) with h | h <;> rcases b01 m (64 : Nat) with h' | h' <;> rw [h, h', show bt m 2048 = _ from h, show bt m 64 = _ from h'] <;> rfl
theorem t1032 (m : Int) (hm : 0 ≤ m) : (Builtin.bitAnd m 1032 == 1032) = (bt m 1024 == 1 && bt m 8 == 1) := by
  have := two_bits m 1024 8 hm ⟨10, rfl⟩ ⟨3, rfl⟩ (by decide)
  rw [show ((1024 ||| 8 : Nat) : Int) = 1032 from rfl] at this
  rw [this, btNat m 1024 hm, btNat m 8 hm]
  rcases b01 m (1024 : Nat) with h | h <;> rcases b01 m (8 : Nat) with h' | h' <;> rw [h, h', show bt m 1024 = _ from h, show bt m 8 = _ from h'] <;> rfl
theorem t513 (m : Int) (hm : 0 ≤ m) : (Builtin.bitAnd m 513 == 513) = (bt m 512 == 1 && bt m 1 == 1) := by
  have := two_bits m 512 1 hm ⟨9, rfl⟩ ⟨0, rfl⟩ (by decide)
  rw [show ((512 ||| 1 : Nat) : Int) = 513 from rfl] at this
  rw [this, btNat m 512 hm, btNat m 1 hm]
  rcases b01 m (512 : Nat) with h | h <;> rcases b01 m (1 : Nat) with h' | h' <;> rw [h, h', show bt m 512 = _ from h, show bt m 1 = _ from h'] <;> rfl
theorem ifmt_eq (m : Int) (hm : 0 ≤ m) : Builtin.bitAnd m 61440 = m / 4096 % 16 * 4096 := by
  have e : (61440 : Int) = ((2 ^ 15 ||| (2 ^ 14 ||| (2 ^ 13 ||| 2 ^ 12)) : Nat) : Int) := by decide
  rw [e, bAnd m _ hm, Nat.and_or_distrib_left, Nat.and_or_distrib_left, Nat.and_or_distrib_left, and_pow, and_pow, and_pow, and_pow]
  obtain ⟨n, rfl⟩ := Int.eq_ofNat_of_zero_le hm
  simp only [Int.toNat_natCast]
  have a : n / 2 ^ 15 % 2 = 0 ∨ n / 2 ^ 15 % 2 = 1 := by omega
  have b : n / 2 ^ 14 % 2 = 0 ∨ n / 2 ^ 14 % 2 = 1 := by omega
  have c : n / 2 ^ 13 % 2 = 0 ∨ n / 2 ^ 13 % 2 = 1 := by omega
  have d : n / 2 ^ 12 % 2 = 0 ∨ n / 2 ^ 12 % 2 = 1 := by omega
  rcases a with a | a <;> rcases b with b | b <;> rcases c with c | c <;> rcases d with d | d <;> rw [a, b, c, d] <;> simp <;> omega
end Mine
end
section
open PySem PySem.W
set_option Elab.async false
set_option maxHeartbeats 1000000
namespace Mine
theorem rights_eq (n : Int) : rightsN n 3 = (n / 256 % 16 / 4 * 2 + n / 256 % 16 / 2 % 2) * 64 + (n / 256 % 16 / 2 % 2 + n / 256 % 16) % 2 * 2048 + (n / 16 % 16 / 4 * 2 + n / 16 % 16 / 2 % 2) * 8 + (n / 16 % 16 / 2 % 2 + n / 16 % 16) % 2 * 1024 + (n % 16 / 4 * 2 + n % 16 / 2 % 2) + (n % 16 / 2 % 2 + n % 16) % 2 * 512 := by
  have h0 : fig n 0 = n / 256 % 16 := rfl
  have h1 : fig n 1 = n / 16 % 16 := rfl
  have h2 : fig n 2 = n % 16 := by show n / 1 % 16 = _; rw [Int.ediv_one]
  have r1 : rightsN n 1 = 0 + (fig n 0 / 4 * 2 + fig n 0 / 2 % 2) * 64 + (fig n 0 / 2 % 2 + fig n 0) % 2 * 2048 := rfl
  have r2 : rightsN n 2 = rightsN n 1 + (fig n 1 / 4 * 2 + fig n 1 / 2 % 2) * 8 + (fig n 1 / 2 % 2 + fig n 1) % 2 * 1024 := rfl
  have r3 : rightsN n 3 = rightsN n 2 + (fig n 2 / 4 * 2 + fig n 2 / 2 % 2) * 1 + (fig n 2 / 2 % 2 + fig n 2) % 2 * 512 := rfl
  rw [r3, r2, r1, h0, h1, h2]
  omega
theorem nine_lt (s : Int) : 0 ≤ nine s ∧ nine s < 16 ∧ nine s ≠ 8 ∧ nine s ≠ 6 ∧ nine s ≠ 2 ∧ nine s ≠ 4 ∧ nine s ≠ 10 ∧ nine s ≠ 1 ∧ nine s ≠ 12 := by
  unfold nine
  have h9 : (s % 9).toNat < 9 := by omega
  generalize (s % 9).toNat = j at h9
  have : j = 0 ∨ j = 1 ∨ j = 2 ∨ j = 3 ∨ j = 4 ∨ j = 5 ∨ j = 6 ∨ j = 7 ∨ j = 8 := by omega
  rcases this with rfl | rfl | rfl | rfl | rfl | rfl | rfl | rfl | rfl <;> decide
def kch (j : Nat) : Nat := [45, 63, 98, 99, 100, 108, 112, 115].getD j 0
theorem kind_lt (n s : Int) (h0 : 0 ≤ n) (h1 : n < 32768) : 0 ≤ kindN n s ∧ kindN n s < 16 ∧ pick (fun b => kindN n s * 4096 == b) 63 (fmTab 0) = kch (n / 4096).toNat := by
  have hj : (n / 4096).toNat < 8 := by omega
  unfold kindN
  generalize (n / 4096).toNat = j at hj
  have n9 := nine_lt s
  have : j = 0 ∨ j = 1 ∨ j = 2 ∨ j = 3 ∨ j = 4 ∨ j = 5 ∨ j = 6 ∨ j = 7 := by omega
  rcases this with rfl | rfl | rfl | rfl | rfl | rfl | rfl | rfl
  · show (0 : Int) ≤ 8 ∧ (8 : Int) < 16 ∧ pick (fun b => (8 : Int) * 4096 == b) 63 (fmTab 0) = 45
    decide
  · show 0 ≤ nine s ∧ nine s < 16 ∧ pick (fun b => nine s * 4096 == b) 63 (fmTab 0) = 63
    refine ⟨n9.1, n9.2.1, pick_none fun b ch hm => ?_⟩
    generalize nine s = v at n9
    simp [fmTab] at hm
    rcases hm with ⟨rfl, _⟩ | ⟨rfl, _⟩ | ⟨rfl, _⟩ | ⟨rfl, _⟩ | ⟨rfl, _⟩ | ⟨rfl, _⟩ | ⟨rfl, _⟩ <;> simp <;> omega
  · show (0 : Int) ≤ 6 ∧ (6 : Int) < 16 ∧ pick (fun b => (6 : Int) * 4096 == b) 63 (fmTab 0) = 98
    decide
  · show (0 : Int) ≤ 2 ∧ (2 : Int) < 16 ∧ pick (fun b => (2 : Int) * 4096 == b) 63 (fmTab 0) = 99
    decide
  · show (0 : Int) ≤ 4 ∧ (4 : Int) < 16 ∧ pick (fun b => (4 : Int) * 4096 == b) 63 (fmTab 0) = 100
    decide
  · show (0 : Int) ≤ 10 ∧ (10 : Int) < 16 ∧ pick (fun b => (10 : Int) * 4096 == b) 63 (fmTab 0) = 108
    decide
  · show (0 : Int) ≤ 1 ∧ (1 : Int) < 16 ∧ pick (fun b => (1 : Int) * 4096 == b) 63 (fmTab 0) = 112
    decide
  · show (0 : Int) ≤ 12 ∧ (12 : Int) < 16 ∧ pick (fun b => (12 : Int) * 4096 == b) 63 (fmTab 0) = 115
    decide
/-- the bits of a mode, from the number -/
theorem bits (n s : Int) (h0 : 0 ≤ n) (h1 : n < 32768) : 0 ≤ lmode n s ∧ lmode n s / 4096 % 16 = kindN n s ∧ bt (lmode n s) 256 = n / 2048 % 2 ∧ bt (lmode n s) 128 = n / 1024 % 2 ∧ bt (lmode n s) 64 = n / 512 % 2 ∧ bt (lmode n s) 2048 = (n / 512 % 2 + n / 256 % 2) % 2 ∧
    bt (lmode n s) 32 = n / 128 % 2 ∧ bt (lmode n s) 16 = n / 64 % 2 ∧ bt (lmode n s) 8 = n / 32 % 2 ∧ bt (lmode n s) 1024 = (n / 32 % 2 + n / 16 % 2) % 2 ∧ bt (lmode n s) 4 = n / 8 % 2 ∧ bt (lmode n s) 2 = n / 4 % 2 ∧ bt (lmode n s) 1 = n / 2 % 2 ∧ bt (lmode n s) 512 = (n / 2 % 2 + n % 2) % 2 := by
  obtain ⟨k0, k1, _⟩ := kind_lt n s h0 h1
  have hQ : 0 ≤ s / 9 % 65536 := Int.emod_nonneg _ (by decide)
  unfold lmode bt
  rw [rights_eq]
  generalize kindN n s = k at k0 k1
  generalize s / 9 % 65536 = Q at hQ
  -- figures as bits
  obtain ⟨a0, e0⟩ : ∃ a, a = n / 2048 % 2 := ⟨_, rfl⟩
  obtain ⟨a1, e1⟩ : ∃ a, a = n / 1024 % 2 := ⟨_, rfl⟩
  obtain ⟨a2, e2⟩ : ∃ a, a = n / 512 % 2 := ⟨_, rfl⟩
  obtain ⟨a3, e3⟩ : ∃ a, a = n / 256 % 2 := ⟨_, rfl⟩
  obtain ⟨a4, e4⟩ : ∃ a, a = n / 128 % 2 := ⟨_, rfl⟩
  obtain ⟨a5, e5⟩ : ∃ a, a = n / 64 % 2 := ⟨_, rfl⟩
  obtain ⟨a6, e6⟩ : ∃ a, a = n / 32 % 2 := ⟨_, rfl⟩
  obtain ⟨a7, e7⟩ : ∃ a, a = n / 16 % 2 := ⟨_, rfl⟩
  obtain ⟨a8, e8⟩ : ∃ a, a = n / 8 % 2 := ⟨_, rfl⟩
  obtain ⟨a9, e9⟩ : ∃ a, a = n / 4 % 2 := ⟨_, rfl⟩
  obtain ⟨a10, e10⟩ : ∃ a, a = n / 2 % 2 := ⟨_, rfl⟩
  obtain ⟨a11, e11⟩ : ∃ a, a = n % 2 := ⟨_, rfl⟩
  have f0 : n / 256 % 16 = 8 * a0 + 4 * a1 + 2 * a2 + a3 := by omega
  have f1 : n / 16 % 16 = 8 * a4 + 4 * a5 + 2 * a6 + a7 := by omega
  have f2 : n % 16 = 8 * a8 + 4 * a9 + 2 * a10 + a11 := by omega
  rw [← e0, ← e1, ← e2, ← e3, ← e4, ← e5, ← e6, ← e7, ← e8, ← e9, ← e10, ← e11, f0, f1, f2]
  have b0 : 0 ≤ a0 ∧ a0 < 2 := by omega
  have b1 : 0 ≤ a1 ∧ a1 < 2 := by omega
  have b2 : 0 ≤ a2 ∧ a2 < 2 := by omega
  have b3 : 0 ≤ a3 ∧ a3 < 2 := by omega
  have b4 : 0 ≤ a4 ∧ a4 < 2 := by omega
  have b5 : 0 ≤ a5 ∧ a5 < 2 := by omega
  have b6 : 0 ≤ a6 ∧ a6 < 2 := by omega
  have b7 : 0 ≤ a7 ∧ a7 < 2 := by omega
  have b8 : 0 ≤ a8 ∧ a8 < 2 := by omega
  have b9 : 0 ≤ a9 ∧ a9 < 2 := by omega
  have b10 : 0 ≤ a10 ∧ a10 < 2 := by omega
  have b11 : 0 ≤ a11 ∧ a11 < 2 := by omega
  clear e0 e1 e2 e3 e4 e5 e6 e7 e8 e9 e10 e11 f0 f1 f2
  have g0 : ((8 * a0 + 4 * a1 + 2 * a2 + a3) / 4 * 2 + (8 * a0 + 4 * a1 + 2 * a2 + a3) / 2 % 2) = 4 * a0 + 2 * a1 + a2 := by omega
  have g0' : ((8 * a0 + 4 * a1 + 2 * a2 + a3) / 2 % 2 + (8 * a0 + 4 * a1 + 2 * a2 + a3)) % 2 = (a2 + a3) % 2 := by omega
  have g1 : ((8 * a4 + 4 * a5 + 2 * a6 + a7) / 4 * 2 + (8 * a4 + 4 * a5 + 2 * a6 + a7) / 2 % 2) = 4 * a4 + 2 * a5 + a6 := by omega
  have g1' : ((8 * a4 + 4 * a5 + 2 * a6 + a7) / 2 % 2 + (8 * a4 + 4 * a5 + 2 * a6 + a7)) % 2 = (a6 + a7) % 2 := by omega
  have g2 : ((8 * a8 + 4 * a9 + 2 * a10 + a11) / 4 * 2 + (8 * a8 + 4 * a9 + 2 * a10 + a11) / 2 % 2) = 4 * a8 + 2 * a9 + a10 := by omega
  have g2' : ((8 * a8 + 4 * a9 + 2 * a10 + a11) / 2 % 2 + (8 * a8 + 4 * a9 + 2 * a10 + a11)) % 2 = (a10 + a11) % 2 := by omega
  rw [g0, g0', g1, g1', g2, g2']
  have c0 : 0 ≤ (a2 + a3) % 2 ∧ (a2 + a3) % 2 < 2 := by omega
  have c1 : 0 ≤ (a6 + a7) % 2 ∧ (a6 + a7) % 2 < 2 := by omega
  have c2 : 0 ≤ (a10 + a11) % 2 ∧ (a10 + a11) % 2 < 2 := by omega
  generalize (a2 + a3) % 2 = x0 at c0
  generalize (a6 + a7) % 2 = x1 at c1
  generalize (a10 + a11) % 2 = x2 at c2
  clear g0 g0' g1 g1' g2 g2' b3 b7 b11
  refine ⟨by omega, by omega, by omega, by omega, by omega, by omega, by omega, by omega, by omega, by omega, by omega, by omega, by omega, by omega⟩
end Mine
end
section
open PySem PySem.W
set_option Elab.async false
set_option maxHeartbeats 100000
namespace Mine
theorem lexStep {a b : Nat → Nat} {i k : Nat} {da db ra rb W : Int} (h0 : 0 ≤ ra) (h1 : ra < W) (h2 : 0 ≤ rb) (h3 : rb < W) (heq : a i = b i ↔ da = db) (hlt : a i < b i ↔ da < db) (ih : apart a b (i + 1) k ≤ 0 ↔ ra ≤ rb) :
    apart a b i (k + 1) ≤ 0 ↔ da * W + ra ≤ db * W + rb := by
  have e : apart a b i (k + 1) = if a i = b i then apart a b (i + 1) k else (a i : Int) - (b i : Int) := rfl
  rw [e]
  by_cases h : a i = b i
  · rw [if_pos h, ih, heq.mp h]
    generalize db * W = z
    omega
  · rw [if_neg h]
    have hne : da ≠ db := fun q => h (heq.mpr q)
    have hl : ((a i : Int) - (b i : Int) ≤ 0) ↔ a i < b i := by omega
    rw [hl, hlt]
    rcases Int.lt_or_gt_of_ne hne with q | q
    · have := Int.mul_le_mul_of_nonneg_right (show da + 1 ≤ db from q) (show 0 ≤ W by omega)
      rw [Int.add_mul, Int.one_mul] at this
      generalize da * W = y at *
      generalize db * W = z at *
      constructor
      · intro _; omega
      · intro _; exact q
    · have := Int.mul_le_mul_of_nonneg_right (show db + 1 ≤ da from q) (show 0 ≤ W by omega)
      rw [Int.add_mul, Int.one_mul] at this
      generalize da * W = y at *
      generalize db * W = z at *
      constructor
      · intro _; omega
      · intro _; omega
/-- the sign at each place, from the number's digit there -/
def tab : Nat → List Nat
  | 0 => [45, 63, 98, 99, 100, 108, 112, 115]
  | 1 => [45, 114]
  | 2 => [45, 119]
  | 3 => [45, 83, 115, 120]
  | 4 => [45, 114]
  | 5 => [45, 119]
  | 6 => [45, 83, 115, 120]
  | 7 => [45, 114]
  | 8 => [45, 119]
  | _ => [45, 84, 116, 120]
def dgt : Nat → Int → Int
  | 0, n => n / 4096
  | 1, n => n / 2048 % 2
  | 2, n => n / 1024 % 2
  | 3, n => n / 256 % 4
  | 4, n => n / 128 % 2
  | 5, n => n / 64 % 2
  | 6, n => n / 16 % 4
  | 7, n => n / 8 % 2
  | 8, n => n / 4 % 2
  | _, n => n % 4
theorem two_tab {c : Nat} {m p d : Int} (hb : (Builtin.bitAnd m p == p) = (bt m p == 1)) (e : bt m p = d) : pick (fun b => Builtin.bitAnd m b == b) 45 [(p, c)] = [45, c].getD d.toNat 0 := by
  have := b01 m p
  show (if (Builtin.bitAnd m p == p) = true then c else 45) = _
  rw [hb]
  rcases this with h | h
  · rw [h] at e ⊢; subst e; rfl
  · rw [h] at e ⊢; subst e; rfl
theorem four_tab {c1 c2 c3 : Nat} {m p q pq : Int} {u v : Int} (hu : 0 ≤ u ∧ u < 2) (hv : 0 ≤ v ∧ v < 2) (hpq : (Builtin.bitAnd m pq == pq) = (bt m p == 1 && bt m q == 1)) (hp : (Builtin.bitAnd m p == p) = (bt m p == 1)) (hq : (Builtin.bitAnd m q == q) = (bt m q == 1))
    (ep : bt m p = (u + v) % 2) (eq : bt m q = u) : pick (fun b => Builtin.bitAnd m b == b) 45 [(pq, c2), (p, c1), (q, c3)] = [45, c1, c2, c3].getD (2 * u + v).toNat 0 := by
  show (if (Builtin.bitAnd m pq == pq) = true then c2 else if (Builtin.bitAnd m p == p) = true then c1 else if (Builtin.bitAnd m q == q) = true then c3 else 45) = _
  rw [hpq, hp, hq, ep, eq]
  have h1 : u = 0 ∨ u = 1 := by omega
  have h2 : v = 0 ∨ v = 1 := by omega
  rcases h1 with rfl | rfl <;> rcases h2 with rfl | rfl <;> rfl
theorem fmF_zero (m : Int) : fmF m 0 = fun b => Builtin.bitAnd m 61440 == b := by funext b; unfold fmF; rw [if_pos rfl]
theorem fmF_succ (m : Int) (i : Nat) : fmF m (i + 1) = fun b => Builtin.bitAnd m b == b := by funext b; unfold fmF; rw [if_neg (Nat.succ_ne_zero i)]
theorem fmC_zero (m : Int) : fmC m 0 = pick (fun b => Builtin.bitAnd m 61440 == b) 63 (fmTab 0) := by unfold fmC; rw [fmF_zero]; rfl
theorem fmC_succ (m : Int) (i : Nat) : fmC m (i + 1) = pick (fun b => Builtin.bitAnd m b == b) 45 (fmTab (i + 1)) := by unfold fmC; rw [fmF_succ]; rfl
theorem sg1 {m n : Int} (hm : 0 ≤ m) (e : bt m 256 = n / 2048 % 2) : fmC m 1 = (tab 1).getD (dgt 1 n).toNat 0 := by
  rw [fmC_succ]
  have h := two_tab (c := 114) (p := 256) (one_bit m 256 ⟨8, by decide⟩ hm) e
  exact h
theorem sg2 {m n : Int} (hm : 0 ≤ m) (e : bt m 128 = n / 1024 % 2) : fmC m 2 = (tab 2).getD (dgt 2 n).toNat 0 := by
  rw [fmC_succ]
  have h := two_tab (c := 119) (p := 128) (one_bit m 128 ⟨7, by decide⟩ hm) e
  exact h
theorem sg4 {m n : Int} (hm : 0 ≤ m) (e : bt m 32 = n / 128 % 2) : fmC m 4 = (tab 4).getD (dgt 4 n).toNat 0 := by
  rw [fmC_succ]
  have h := two_tab (c := 114) (p := 32) (one_bit m 32 ⟨5, by decide⟩ hm) e
  exact h
theorem sg5 {m n : Int} (hm : 0 ≤ m) (e : bt m 16 = n / 64 % 2) : fmC m 5 = (tab 5).getD (dgt 5 n).toNat 0 := by
  rw [fmC_succ]
  have h := two_tab (c := 119) (p := 16) (one_bit m 16 ⟨4, by decide⟩ hm) e
  exact h
theorem sg7 {m n : Int} (hm : 0 ≤ m) (e : bt m 4 = n / 8 % 2) : fmC m 7 = (tab 7).getD (dgt 7 n).toNat 0 := by
  rw [fmC_succ]
  have h := two_tab (c := 114) (p := 4) (one_bit m 4 ⟨2, by decide⟩ hm) e
  exact h
theorem sg8 {m n : Int} (hm : 0 ≤ m) (e : bt m 2 = n / 4 % 2) : fmC m 8 = (tab 8).getD (dgt 8 n).toNat 0 := by
  rw [fmC_succ]
  have h := two_tab (c := 119) (p := 2) (one_bit m 2 ⟨1, by decide⟩ hm) e
  exact h
theorem sg3 {m n : Int} (hm : 0 ≤ m) (e1 : bt m 2048 = (n / 512 % 2 + n / 256 % 2) % 2) (e2 : bt m 64 = n / 512 % 2) : fmC m 3 = (tab 3).getD (dgt 3 n).toNat 0 := by
  rw [fmC_succ]
  have h := four_tab (c1 := 83) (c2 := 115) (c3 := 120) (p := 2048) (q := 64) (pq := 2112) (u := n / 512 % 2) (v := n / 256 % 2) (by omega) (by omega) (t2112 m hm) (one_bit m 2048 ⟨11, by decide⟩ hm) (one_bit m 64 ⟨6, by decide⟩ hm) e1 e2
  rw [show 2 * (n / 512 % 2) + n / 256 % 2 = n / 256 % 4 by omega] at h
  exact h
theorem sg6 {m n : Int} (hm : 0 ≤ m) (e1 : bt m 1024 = (n / 32 % 2 + n / 16 % 2) % 2) (e2 : bt m 8 = n / 32 % 2) : fmC m 6 = (tab 6).getD (dgt 6 n).toNat 0 := by
  rw [fmC_succ]
  have h := four_tab (c1 := 83) (c2 := 115) (c3 := 120) (p := 1024) (q := 8) (pq := 1032) (u := n / 32 % 2) (v := n / 16 % 2) (by omega) (by omega) (t1032 m hm) (one_bit m 1024 ⟨10, by decide⟩ hm) (one_bit m 8 ⟨3, by decide⟩ hm) e1 e2
  rw [show 2 * (n / 32 % 2) + n / 16 % 2 = n / 16 % 4 by omega] at h
  exact h
theorem sg9 {m n : Int} (hm : 0 ≤ m) (e1 : bt m 512 = (n / 2 % 2 + n % 2) % 2) (e2 : bt m 1 = n / 2 % 2) : fmC m 9 = (tab 9).getD (dgt 9 n).toNat 0 := by
  rw [fmC_succ]
  have h := four_tab (c1 := 84) (c2 := 116) (c3 := 120) (p := 512) (q := 1) (pq := 513) (u := n / 2 % 2) (v := n % 2) (by omega) (by omega) (t513 m hm) (one_bit m 512 ⟨9, by decide⟩ hm) (one_bit m 1 ⟨0, by decide⟩ hm) e1 e2
  rw [show 2 * (n / 2 % 2) + n % 2 = n % 4 by omega] at h
  exact h
theorem sign (n s : Int) (h0 : 0 ≤ n) (h1 : n < 32768) : ∀ i, i < 10 → fmC (lmode n s) i = (tab i).getD (dgt i n).toNat 0 := by
  intro i hi
  have h : i = 0 ∨ i = 1 ∨ i = 2 ∨ i = 3 ∨ i = 4 ∨ i = 5 ∨ i = 6 ∨ i = 7 ∨ i = 8 ∨ i = 9 := by omega
  obtain ⟨hm, hk, b256, b128, b64, b2048, b32, b16, b8, b1024, b4, b2, b1, b512⟩ := bits n s h0 h1
  have hK := (kind_lt n s h0 h1).2.2
  have tf := ifmt_eq _ hm
  rw [hk] at tf
  rcases h with rfl | rfl | rfl | rfl | rfl | rfl | rfl | rfl | rfl | rfl
  · rw [fmC_zero, tf]; exact hK
  · exact sg1 hm b256
  · exact sg2 hm b128
  · exact sg3 hm b2048 b64
  · exact sg4 hm b32
  · exact sg5 hm b16
  · exact sg6 hm b1024 b8
  · exact sg7 hm b4
  · exact sg8 hm b2
  · exact sg9 hm b512 b1
end Mine
end
section
open PySem PySem.W
set_option Elab.async false
set_option maxHeartbeats 400000
namespace Mine
theorem tab_lt : ∀ i, i < 10 → ∀ u : Nat, u < (tab i).length → ∀ v : Nat, v < (tab i).length → ((tab i).getD u 0 = (tab i).getD v 0 ↔ u = v) ∧ ((tab i).getD u 0 < (tab i).getD v 0 ↔ u < v) := by decide
def wt : Nat → Int
  | 0 => 4096
  | 1 => 2048
  | 2 => 1024
  | 3 => 256
  | 4 => 128
  | 5 => 64
  | 6 => 16
  | 7 => 8
  | 8 => 4
  | _ => 1
theorem dgt_ok (n : Int) (h0 : 0 ≤ n) (h1 : n < 32768) : ∀ i, i < 10 → 0 ≤ dgt i n ∧ (dgt i n).toNat < (tab i).length := by
  intro i hi
  have h : i = 0 ∨ i = 1 ∨ i = 2 ∨ i = 3 ∨ i = 4 ∨ i = 5 ∨ i = 6 ∨ i = 7 ∨ i = 8 ∨ i = 9 := by omega
  rcases h with rfl | rfl | rfl | rfl | rfl | rfl | rfl | rfl | rfl | rfl
  · show 0 ≤ n / 4096 ∧ (n / 4096).toNat < 8
    omega
  · show 0 ≤ n / 2048 % 2 ∧ (n / 2048 % 2).toNat < 2
    omega
  · show 0 ≤ n / 1024 % 2 ∧ (n / 1024 % 2).toNat < 2
    omega
  · show 0 ≤ n / 256 % 4 ∧ (n / 256 % 4).toNat < 4
    omega
  · show 0 ≤ n / 128 % 2 ∧ (n / 128 % 2).toNat < 2
    omega
  · show 0 ≤ n / 64 % 2 ∧ (n / 64 % 2).toNat < 2
    omega
  · show 0 ≤ n / 16 % 4 ∧ (n / 16 % 4).toNat < 4
    omega
  · show 0 ≤ n / 8 % 2 ∧ (n / 8 % 2).toNat < 2
    omega
  · show 0 ≤ n / 4 % 2 ∧ (n / 4 % 2).toNat < 2
    omega
  · show 0 ≤ n % 4 ∧ (n % 4).toNat < 4
    omega
theorem cmpT (m n : Int) (hm0 : 0 ≤ m) (hm1 : m < 32768) (hn0 : 0 ≤ n) (hn1 : n < 32768) {a b : Nat → Nat} (ha : ∀ i, i < 10 → a i = (tab i).getD (dgt i m).toNat 0) (hb : ∀ i, i < 10 → b i = (tab i).getD (dgt i n).toNat 0) : ∀ i, i < 10 → (a i = b i ↔ dgt i m = dgt i n) ∧ (a i < b i ↔ dgt i m < dgt i n) := by
  intro i hi
  have h1 := dgt_ok m hm0 hm1 i hi
  have h2 := dgt_ok n hn0 hn1 i hi
  have h3 := tab_lt i hi _ h1.2 _ h2.2
  rw [ha i hi, hb i hi]
  generalize dgt i m = x at *
  generalize dgt i n = y at *
  refine ⟨h3.1.trans ?_, h3.2.trans ?_⟩
  · omega
  · omega
theorem order (m n : Int) (hm0 : 0 ≤ m) (hm1 : m < 32768) (hn0 : 0 ≤ n) (hn1 : n < 32768) {a b : Nat → Nat} (ha : ∀ i, i < 10 → a i = (tab i).getD (dgt i m).toNat 0) (hb : ∀ i, i < 10 → b i = (tab i).getD (dgt i n).toNat 0) : apart a b 0 10 ≤ 0 ↔ m ≤ n := by
  have C := cmpT m n hm0 hm1 hn0 hn1 ha hb
  have p10 : apart a b 10 0 ≤ 0 ↔ m % 1 ≤ n % 1 := by
    show (0 : Int) ≤ 0 ↔ _
    omega
  have q9 := lexStep (a := a) (b := b) (i := 9) (k := 0) (da := m % 4) (db := n % 4) (ra := m % 1) (rb := n % 1) (W := 1) (Int.emod_nonneg _ (by decide)) (Int.emod_lt_of_pos _ (by decide)) (Int.emod_nonneg _ (by decide)) (Int.emod_lt_of_pos _ (by decide)) (C 9 (by decide)).1 (C 9 (by decide)).2 p10
  rw [show (m % 4) * 1 + m % 1 = m % 4 by clear p10; clear C ha hb; omega, show (n % 4) * 1 + n % 1 = n % 4 by clear p10; clear C ha hb; omega] at q9
  have q8 := lexStep (a := a) (b := b) (i := 8) (k := 1) (da := m / 4 % 2) (db := n / 4 % 2) (ra := m % 4) (rb := n % 4) (W := 4) (Int.emod_nonneg _ (by decide)) (Int.emod_lt_of_pos _ (by decide)) (Int.emod_nonneg _ (by decide)) (Int.emod_lt_of_pos _ (by decide)) (C 8 (by decide)).1 (C 8 (by decide)).2 q9
  rw [show (m / 4 % 2) * 4 + m % 4 = m % 8 by clear q9; clear C ha hb; omega, show (n / 4 % 2) * 4 + n % 4 = n % 8 by clear q9; clear C ha hb; omega] at q8
  have q7 := lexStep (a := a) (b := b) (i := 7) (k := 2) (da := m / 8 % 2) (db := n / 8 % 2) (ra := m % 8) (rb := n % 8) (W := 8) (Int.emod_nonneg _ (by decide)) (Int.emod_lt_of_pos _ (by decide)) (Int.emod_nonneg _ (by decide)) (Int.emod_lt_of_pos _ (by decide)) (C 7 (by decide)).1 (C 7 (by decide)).2 q8
  rw [show (m / 8 % 2) * 8 + m % 8 = m % 16 by clear q8; clear C ha hb; omega, show (n / 8 % 2) * 8 + n % 8 = n % 16 by clear q8; clear C ha hb; omega] at q7
  have q6 := lexStep (a := a) (b := b) (i := 6) (k := 3) (da := m / 16 % 4) (db := n / 16 % 4) (ra := m % 16) (rb := n % 16) (W := 16) (Int.emod_nonneg _ (by decide)) (Int.emod_lt_of_pos _ (by decide)) (Int.emod_nonneg _ (by decide)) (Int.emod_lt_of_pos _ (by decide)) (C 6 (by decide)).1 (C 6 (by decide)).2 q7
  rw [show (m / 16 % 4) * 16 + m % 16 = m % 64 by clear q7; clear C ha hb; omega, show (n / 16 % 4) * 16 + n % 16 = n % 64 by clear q7; clear C ha hb; omega] at q6
  have q5 := lexStep (a := a) (b := b) (i := 5) (k := 4) (da := m / 64 % 2) (db := n / 64 % 2) (ra := m % 64) (rb := n % 64) (W := 64) (Int.emod_nonneg _ (by decide)) (Int.emod_lt_of_pos _ (by decide)) (Int.emod_nonneg _ (by decide)) (Int.emod_lt_of_pos _ (by decide)) (C 5 (by decide)).1 (C 5 (by decide)).2 q6
  rw [show (m / 64 % 2) * 64 + m % 64 = m % 128 by clear q6; clear C ha hb; omega, show (n / 64 % 2) * 64 + n % 64 = n % 128 by clear q6; clear C ha hb; omega] at q5
  have q4 := lexStep (a := a) (b := b) (i := 4) (k := 5) (da := m / 128 % 2) (db := n / 128 % 2) (ra := m % 128) (rb := n % 128) (W := 128) (Int.emod_nonneg _ (by decide)) (Int.emod_lt_of_pos _ (by decide)) (Int.emod_nonneg _ (by decide)) (Int.emod_lt_of_pos _ (by decide)) (C 4 (by decide)).1 (C 4 (by decide)).2 q5
  rw [show (m / 128 % 2) * 128 + m % 128 = m % 256 by clear q5; clear C ha hb; omega, show (n / 128 % 2) * 128 + n % 128 = n % 256 by clear q5; clear C ha hb; omega] at q4
  have q3 := lexStep (a := a) (b := b) (i := 3) (k := 6) (da := m / 256 % 4) (db := n / 256 % 4) (ra := m % 256) (rb := n % 256) (W := 256) (Int.emod_nonneg _ (by decide)) (Int.emod_lt_of_pos _ (by decide)) (Int.emod_nonneg _ (by decide)) (Int.emod_lt_of_pos _ (by decide)) (C 3 (by decide)).1 (C 3 (by decide)).2 q4
  rw [show (m / 256 % 4) * 256 + m % 256 = m % 1024 by clear q4; clear C ha hb; omega, show (n / 256 % 4) * 256 + n % 256 = n % 1024 by clear q4; clear C ha hb; omega] at q3
  have q2 := lexStep (a := a) (b := b) (i := 2) (k := 7) (da := m / 1024 % 2) (db := n / 1024 % 2) (ra := m % 1024) (rb := n % 1024) (W := 1024) (Int.emod_nonneg _ (by decide)) (Int.emod_lt_of_pos _ (by decide)) (Int.emod_nonneg _ (by decide)) (Int.emod_lt_of_pos _ (by decide)) (C 2 (by decide)).1 (C 2 (by decide)).2 q3
  rw [show (m / 1024 % 2) * 1024 + m % 1024 = m % 2048 by clear q3; clear C ha hb; omega, show (n / 1024 % 2) * 1024 + n % 1024 = n % 2048 by clear q3; clear C ha hb; omega] at q2
  have q1 := lexStep (a := a) (b := b) (i := 1) (k := 8) (da := m / 2048 % 2) (db := n / 2048 % 2) (ra := m % 2048) (rb := n % 2048) (W := 2048) (Int.emod_nonneg _ (by decide)) (Int.emod_lt_of_pos _ (by decide)) (Int.emod_nonneg _ (by decide)) (Int.emod_lt_of_pos _ (by decide)) (C 1 (by decide)).1 (C 1 (by decide)).2 q2
  rw [show (m / 2048 % 2) * 2048 + m % 2048 = m % 4096 by clear q2; clear C ha hb; omega, show (n / 2048 % 2) * 2048 + n % 2048 = n % 4096 by clear q2; clear C ha hb; omega] at q1
  have q0 := lexStep (a := a) (b := b) (i := 0) (k := 9) (da := m / 4096) (db := n / 4096) (ra := m % 4096) (rb := n % 4096) (W := 4096) (Int.emod_nonneg _ (by decide)) (Int.emod_lt_of_pos _ (by decide)) (Int.emod_nonneg _ (by decide)) (Int.emod_lt_of_pos _ (by decide)) (C 0 (by decide)).1 (C 0 (by decide)).2 q1
  rw [show (m / 4096) * 4096 + m % 4096 = m by clear q1; clear C ha hb; omega, show (n / 4096) * 4096 + n % 4096 = n by clear q1; clear C ha hb; omega] at q0
  exact q0
theorem ord2 (m n s : Int) (hm0 : 0 ≤ m) (hm1 : m < 32768) (hn0 : 0 ≤ n) (hn1 : n < 32768) : apart (probe m) (fmC (lmode n s)) 0 10 ≤ 0 ↔ m ≤ n :=
  order m n hm0 hm1 hn0 hn1 (sign m m hm0 hm1) (sign n s hn0 hn1)
theorem stepE (n s low p : Int) (hn0 : 0 ≤ n) (hn1 : n < 32768) (h0 : 0 ≤ low + p) (h1 : low + p < 32768) : stepN (fmC (lmode n s)) low p = if low + p ≤ n then low + p else low := by
  unfold stepN
  have := ord2 (low + p) n s h0 h1 hn0 hn1
  by_cases h : low + p ≤ n
  · rw [if_pos h, if_pos (decide_eq_true (this.mpr h))]
  · rw [if_neg h, if_neg (fun q => h (this.mp (of_decide_eq_true q)))]
/-- the sum after the first i powers: the number's upper bits -/
theorem one_step (n s P : Int) (hn0 : 0 ≤ n) (hn1 : n < 32768) (low : Int) (h0 : 0 ≤ low + P) (h1 : low + P < 32768) (r : Int) (h : (if low + P ≤ n then low + P else low) = r) : stepN (fmC (lmode n s)) low P = r := (stepE n s low P hn0 hn1 h0 h1).trans h
theorem st0 (n s : Int) (hn0 : 0 ≤ n) (hn1 : n < 32768) : stepN (fmC (lmode n s)) (n / 32768 * 32768) 16384 = n / 16384 * 16384 ∧ 0 ≤ n / 32768 * 32768 + 16384 ∧ n / 32768 * 32768 + 16384 < 32768 := by
  have h0 : 0 ≤ n / 32768 * 32768 + 16384 := by omega
  have h1 : n / 32768 * 32768 + 16384 < 32768 := by omega
  refine ⟨one_step n s 16384 hn0 hn1 _ h0 h1 _ ?_, h0, h1⟩
  split <;> omega
theorem st1 (n s : Int) (hn0 : 0 ≤ n) (hn1 : n < 32768) : stepN (fmC (lmode n s)) (n / 16384 * 16384) 8192 = n / 8192 * 8192 ∧ 0 ≤ n / 16384 * 16384 + 8192 ∧ n / 16384 * 16384 + 8192 < 32768 := by
  have h0 : 0 ≤ n / 16384 * 16384 + 8192 := by omega
  have h1 : n / 16384 * 16384 + 8192 < 32768 := by omega
  refine ⟨one_step n s 8192 hn0 hn1 _ h0 h1 _ ?_, h0, h1⟩
  split <;> omega
theorem st2 (n s : Int) (hn0 : 0 ≤ n) (hn1 : n < 32768) : stepN (fmC (lmode n s)) (n / 8192 * 8192) 4096 = n / 4096 * 4096 ∧ 0 ≤ n / 8192 * 8192 + 4096 ∧ n / 8192 * 8192 + 4096 < 32768 := by
  have h0 : 0 ≤ n / 8192 * 8192 + 4096 := by omega
  have h1 : n / 8192 * 8192 + 4096 < 32768 := by omega
  refine ⟨one_step n s 4096 hn0 hn1 _ h0 h1 _ ?_, h0, h1⟩
  split <;> omega
theorem st3 (n s : Int) (hn0 : 0 ≤ n) (hn1 : n < 32768) : stepN (fmC (lmode n s)) (n / 4096 * 4096) 2048 = n / 2048 * 2048 ∧ 0 ≤ n / 4096 * 4096 + 2048 ∧ n / 4096 * 4096 + 2048 < 32768 := by
  have h0 : 0 ≤ n / 4096 * 4096 + 2048 := by omega
  have h1 : n / 4096 * 4096 + 2048 < 32768 := by omega
  refine ⟨one_step n s 2048 hn0 hn1 _ h0 h1 _ ?_, h0, h1⟩
  split <;> omega
theorem st4 (n s : Int) (hn0 : 0 ≤ n) (hn1 : n < 32768) : stepN (fmC (lmode n s)) (n / 2048 * 2048) 1024 = n / 1024 * 1024 ∧ 0 ≤ n / 2048 * 2048 + 1024 ∧ n / 2048 * 2048 + 1024 < 32768 := by
  have h0 : 0 ≤ n / 2048 * 2048 + 1024 := by omega
  have h1 : n / 2048 * 2048 + 1024 < 32768 := by omega
  refine ⟨one_step n s 1024 hn0 hn1 _ h0 h1 _ ?_, h0, h1⟩
  split <;> omega
theorem st5 (n s : Int) (hn0 : 0 ≤ n) (hn1 : n < 32768) : stepN (fmC (lmode n s)) (n / 1024 * 1024) 512 = n / 512 * 512 ∧ 0 ≤ n / 1024 * 1024 + 512 ∧ n / 1024 * 1024 + 512 < 32768 := by
  have h0 : 0 ≤ n / 1024 * 1024 + 512 := by omega
  have h1 : n / 1024 * 1024 + 512 < 32768 := by omega
  refine ⟨one_step n s 512 hn0 hn1 _ h0 h1 _ ?_, h0, h1⟩
  split <;> omega
theorem st6 (n s : Int) (hn0 : 0 ≤ n) (hn1 : n < 32768) : stepN (fmC (lmode n s)) (n / 512 * 512) 256 = n / 256 * 256 ∧ 0 ≤ n / 512 * 512 + 256 ∧ n / 512 * 512 + 256 < 32768 := by
  have h0 : 0 ≤ n / 512 * 512 + 256 := by omega
  have h1 : n / 512 * 512 + 256 < 32768 := by omega
  refine ⟨one_step n s 256 hn0 hn1 _ h0 h1 _ ?_, h0, h1⟩
  split <;> omega
theorem st7 (n s : Int) (hn0 : 0 ≤ n) (hn1 : n < 32768) : stepN (fmC (lmode n s)) (n / 256 * 256) 128 = n / 128 * 128 ∧ 0 ≤ n / 256 * 256 + 128 ∧ n / 256 * 256 + 128 < 32768 := by
  have h0 : 0 ≤ n / 256 * 256 + 128 := by omega
  have h1 : n / 256 * 256 + 128 < 32768 := by omega
  refine ⟨one_step n s 128 hn0 hn1 _ h0 h1 _ ?_, h0, h1⟩
  split <;> omega
theorem st8 (n s : Int) (hn0 : 0 ≤ n) (hn1 : n < 32768) : stepN (fmC (lmode n s)) (n / 128 * 128) 64 = n / 64 * 64 ∧ 0 ≤ n / 128 * 128 + 64 ∧ n / 128 * 128 + 64 < 32768 := by
  have h0 : 0 ≤ n / 128 * 128 + 64 := by omega
  have h1 : n / 128 * 128 + 64 < 32768 := by omega
  refine ⟨one_step n s 64 hn0 hn1 _ h0 h1 _ ?_, h0, h1⟩
  split <;> omega
theorem st9 (n s : Int) (hn0 : 0 ≤ n) (hn1 : n < 32768) : stepN (fmC (lmode n s)) (n / 64 * 64) 32 = n / 32 * 32 ∧ 0 ≤ n / 64 * 64 + 32 ∧ n / 64 * 64 + 32 < 32768 := by
  have h0 : 0 ≤ n / 64 * 64 + 32 := by omega
  have h1 : n / 64 * 64 + 32 < 32768 := by omega
  refine ⟨one_step n s 32 hn0 hn1 _ h0 h1 _ ?_, h0, h1⟩
  split <;> omega
theorem st10 (n s : Int) (hn0 : 0 ≤ n) (hn1 : n < 32768) : stepN (fmC (lmode n s)) (n / 32 * 32) 16 = n / 16 * 16 ∧ 0 ≤ n / 32 * 32 + 16 ∧ n / 32 * 32 + 16 < 32768 := by
  have h0 : 0 ≤ n / 32 * 32 + 16 := by omega
  have h1 : n / 32 * 32 + 16 < 32768 := by omega
  refine ⟨one_step n s 16 hn0 hn1 _ h0 h1 _ ?_, h0, h1⟩
  split <;> omega
theorem st11 (n s : Int) (hn0 : 0 ≤ n) (hn1 : n < 32768) : stepN (fmC (lmode n s)) (n / 16 * 16) 8 = n / 8 * 8 ∧ 0 ≤ n / 16 * 16 + 8 ∧ n / 16 * 16 + 8 < 32768 := by
  have h0 : 0 ≤ n / 16 * 16 + 8 := by omega
  have h1 : n / 16 * 16 + 8 < 32768 := by omega
  refine ⟨one_step n s 8 hn0 hn1 _ h0 h1 _ ?_, h0, h1⟩
  split <;> omega
theorem st12 (n s : Int) (hn0 : 0 ≤ n) (hn1 : n < 32768) : stepN (fmC (lmode n s)) (n / 8 * 8) 4 = n / 4 * 4 ∧ 0 ≤ n / 8 * 8 + 4 ∧ n / 8 * 8 + 4 < 32768 := by
  have h0 : 0 ≤ n / 8 * 8 + 4 := by omega
  have h1 : n / 8 * 8 + 4 < 32768 := by omega
  refine ⟨one_step n s 4 hn0 hn1 _ h0 h1 _ ?_, h0, h1⟩
  split <;> omega
theorem st13 (n s : Int) (hn0 : 0 ≤ n) (hn1 : n < 32768) : stepN (fmC (lmode n s)) (n / 4 * 4) 2 = n / 2 * 2 ∧ 0 ≤ n / 4 * 4 + 2 ∧ n / 4 * 4 + 2 < 32768 := by
  have h0 : 0 ≤ n / 4 * 4 + 2 := by omega
  have h1 : n / 4 * 4 + 2 < 32768 := by omega
  refine ⟨one_step n s 2 hn0 hn1 _ h0 h1 _ ?_, h0, h1⟩
  split <;> omega
theorem st14 (n s : Int) (hn0 : 0 ≤ n) (hn1 : n < 32768) : stepN (fmC (lmode n s)) (n / 2 * 2) 1 = n / 1 * 1 ∧ 0 ≤ n / 2 * 2 + 1 ∧ n / 2 * 2 + 1 < 32768 := by
  have h0 : 0 ≤ n / 2 * 2 + 1 := by omega
  have h1 : n / 2 * 2 + 1 < 32768 := by omega
  refine ⟨one_step n s 1 hn0 hn1 _ h0 h1 _ ?_, h0, h1⟩
  split <;> omega
theorem pre0 (n s : Int) (hn0 : 0 ≤ n) (hn1 : n < 32768) : (pows.take 0).foldl (stepN (fmC (lmode n s))) 0 = n / 32768 * 32768 := by
  show (0 : Int) = _
  omega
theorem pre1 (n s : Int) (hn0 : 0 ≤ n) (hn1 : n < 32768) : (pows.take 1).foldl (stepN (fmC (lmode n s))) 0 = n / 16384 * 16384 := by
  have e : (pows.take 1).foldl (stepN (fmC (lmode n s))) 0 = stepN (fmC (lmode n s)) ((pows.take 0).foldl (stepN (fmC (lmode n s))) 0) 16384 := by
    generalize stepN (fmC (lmode n s)) = S
    rfl
  rw [e, pre0 n s hn0 hn1, (st0 n s hn0 hn1).1]
theorem pre2 (n s : Int) (hn0 : 0 ≤ n) (hn1 : n < 32768) : (pows.take 2).foldl (stepN (fmC (lmode n s))) 0 = n / 8192 * 8192 := by
  have e : (pows.take 2).foldl (stepN (fmC (lmode n s))) 0 = stepN (fmC (lmode n s)) ((pows.take 1).foldl (stepN (fmC (lmode n s))) 0) 8192 := by
    generalize stepN (fmC (lmode n s)) = S
    rfl
  rw [e, pre1 n s hn0 hn1, (st1 n s hn0 hn1).1]
theorem pre3 (n s : Int) (hn0 : 0 ≤ n) (hn1 : n < 32768) : (pows.take 3).foldl (stepN (fmC (lmode n s))) 0 = n / 4096 * 4096 := by
  have e : (pows.take 3).foldl (stepN (fmC (lmode n s))) 0 = stepN (fmC (lmode n s)) ((pows.take 2).foldl (stepN (fmC (lmode n s))) 0) 4096 := by
    generalize stepN (fmC (lmode n s)) = S
    rfl
  rw [e, pre2 n s hn0 hn1, (st2 n s hn0 hn1).1]
theorem pre4 (n s : Int) (hn0 : 0 ≤ n) (hn1 : n < 32768) : (pows.take 4).foldl (stepN (fmC (lmode n s))) 0 = n / 2048 * 2048 := by
  have e : (pows.take 4).foldl (stepN (fmC (lmode n s))) 0 = stepN (fmC (lmode n s)) ((pows.take 3).foldl (stepN (fmC (lmode n s))) 0) 2048 := by
    generalize stepN (fmC (lmode n s)) = S
    rfl
  rw [e, pre3 n s hn0 hn1, (st3 n s hn0 hn1).1]
theorem pre5 (n s : Int) (hn0 : 0 ≤ n) (hn1 : n < 32768) : (pows.take 5).foldl (stepN (fmC (lmode n s))) 0 = n / 1024 * 1024 := by
  have e : (pows.take 5).foldl (stepN (fmC (lmode n s))) 0 = stepN (fmC (lmode n s)) ((pows.take 4).foldl (stepN (fmC (lmode n s))) 0) 1024 := by
    generalize stepN (fmC (lmode n s)) = S
    rfl
  rw [e, pre4 n s hn0 hn1, (st4 n s hn0 hn1).1]
theorem pre6 (n s : Int) (hn0 : 0 ≤ n) (hn1 : n < 32768) : (pows.take 6).foldl (stepN (fmC (lmode n s))) 0 = n / 512 * 512 := by
  have e : (pows.take 6).foldl (stepN (fmC (lmode n s))) 0 = stepN (fmC (lmode n s)) ((pows.take 5).foldl (stepN (fmC (lmode n s))) 0) 512 := by
    generalize stepN (fmC (lmode n s)) = S
    rfl
  rw [e, pre5 n s hn0 hn1, (st5 n s hn0 hn1).1]
theorem pre7 (n s : Int) (hn0 : 0 ≤ n) (hn1 : n < 32768) : (pows.take 7).foldl (stepN (fmC (lmode n s))) 0 = n / 256 * 256 := by
  have e : (pows.take 7).foldl (stepN (fmC (lmode n s))) 0 = stepN (fmC (lmode n s)) ((pows.take 6).foldl (stepN (fmC (lmode n s))) 0) 256 := by
    generalize stepN (fmC (lmode n s)) = S
    rfl
  rw [e, pre6 n s hn0 hn1, (st6 n s hn0 hn1).1]
theorem pre8 (n s : Int) (hn0 : 0 ≤ n) (hn1 : n < 32768) : (pows.take 8).foldl (stepN (fmC (lmode n s))) 0 = n / 128 * 128 := by
  have e : (pows.take 8).foldl (stepN (fmC (lmode n s))) 0 = stepN (fmC (lmode n s)) ((pows.take 7).foldl (stepN (fmC (lmode n s))) 0) 128 := by
    generalize stepN (fmC (lmode n s)) = S
    rfl
  rw [e, pre7 n s hn0 hn1, (st7 n s hn0 hn1).1]
theorem pre9 (n s : Int) (hn0 : 0 ≤ n) (hn1 : n < 32768) : (pows.take 9).foldl (stepN (fmC (lmode n s))) 0 = n / 64 * 64 := by
  have e : (pows.take 9).foldl (stepN (fmC (lmode n s))) 0 = stepN (fmC (lmode n s)) ((pows.take 8).foldl (stepN (fmC (lmode n s))) 0) 64 := by
    generalize stepN (fmC (lmode n s)) = S
    rfl
  rw [e, pre8 n s hn0 hn1, (st8 n s hn0 hn1).1]
theorem pre10 (n s : Int) (hn0 : 0 ≤ n) (hn1 : n < 32768) : (pows.take 10).foldl (stepN (fmC (lmode n s))) 0 = n / 32 * 32 := by
  have e : (pows.take 10).foldl (stepN (fmC (lmode n s))) 0 = stepN (fmC (lmode n s)) ((pows.take 9).foldl (stepN (fmC (lmode n s))) 0) 32 := by
    generalize stepN (fmC (lmode n s)) = S
    rfl
  rw [e, pre9 n s hn0 hn1, (st9 n s hn0 hn1).1]
theorem pre11 (n s : Int) (hn0 : 0 ≤ n) (hn1 : n < 32768) : (pows.take 11).foldl (stepN (fmC (lmode n s))) 0 = n / 16 * 16 := by
  have e : (pows.take 11).foldl (stepN (fmC (lmode n s))) 0 = stepN (fmC (lmode n s)) ((pows.take 10).foldl (stepN (fmC (lmode n s))) 0) 16 := by
    generalize stepN (fmC (lmode n s)) = S
    rfl
  rw [e, pre10 n s hn0 hn1, (st10 n s hn0 hn1).1]
theorem pre12 (n s : Int) (hn0 : 0 ≤ n) (hn1 : n < 32768) : (pows.take 12).foldl (stepN (fmC (lmode n s))) 0 = n / 8 * 8 := by
  have e : (pows.take 12).foldl (stepN (fmC (lmode n s))) 0 = stepN (fmC (lmode n s)) ((pows.take 11).foldl (stepN (fmC (lmode n s))) 0) 8 := by
    generalize stepN (fmC (lmode n s)) = S
    rfl
  rw [e, pre11 n s hn0 hn1, (st11 n s hn0 hn1).1]
theorem pre13 (n s : Int) (hn0 : 0 ≤ n) (hn1 : n < 32768) : (pows.take 13).foldl (stepN (fmC (lmode n s))) 0 = n / 4 * 4 := by
  have e : (pows.take 13).foldl (stepN (fmC (lmode n s))) 0 = stepN (fmC (lmode n s)) ((pows.take 12).foldl (stepN (fmC (lmode n s))) 0) 4 := by
    generalize stepN (fmC (lmode n s)) = S
    rfl
  rw [e, pre12 n s hn0 hn1, (st12 n s hn0 hn1).1]
theorem pre14 (n s : Int) (hn0 : 0 ≤ n) (hn1 : n < 32768) : (pows.take 14).foldl (stepN (fmC (lmode n s))) 0 = n / 2 * 2 := by
  have e : (pows.take 14).foldl (stepN (fmC (lmode n s))) 0 = stepN (fmC (lmode n s)) ((pows.take 13).foldl (stepN (fmC (lmode n s))) 0) 2 := by
    generalize stepN (fmC (lmode n s)) = S
    rfl
  rw [e, pre13 n s hn0 hn1, (st13 n s hn0 hn1).1]
theorem pre15 (n s : Int) (hn0 : 0 ≤ n) (hn1 : n < 32768) : (pows.take 15).foldl (stepN (fmC (lmode n s))) 0 = n / 1 * 1 := by
  have e : (pows.take 15).foldl (stepN (fmC (lmode n s))) 0 = stepN (fmC (lmode n s)) ((pows.take 14).foldl (stepN (fmC (lmode n s))) 0) 1 := by
    generalize stepN (fmC (lmode n s)) = S
    rfl
  rw [e, pre14 n s hn0 hn1, (st14 n s hn0 hn1).1]
theorem plainL (n s : Int) (hn0 : 0 ≤ n) (hn1 : n < 32768) : pows.foldl (stepN (fmC (lmode n s))) 0 = n := by
  have e : pows.foldl (stepN (fmC (lmode n s))) 0 = (pows.take 15).foldl (stepN (fmC (lmode n s))) 0 := by
    generalize stepN (fmC (lmode n s)) = S
    rfl
  rw [e, pre15 n s hn0 hn1]
  omega
theorem plainO (n s : Int) (hn0 : 0 ≤ n) (hn1 : n < 32768) : ∀ i x, pows[i]? = some x → 0 ≤ (pows.take i).foldl (stepN (fmC (lmode n s))) 0 + x ∧ (pows.take i).foldl (stepN (fmC (lmode n s))) 0 + x < 32768 := by
  intro i x hx
  have hi : i < 15 := (List.getElem?_eq_some_iff.mp hx).1
  have h : i = 0 ∨ i = 1 ∨ i = 2 ∨ i = 3 ∨ i = 4 ∨ i = 5 ∨ i = 6 ∨ i = 7 ∨ i = 8 ∨ i = 9 ∨ i = 10 ∨ i = 11 ∨ i = 12 ∨ i = 13 ∨ i = 14 := by omega
  rcases h with rfl | rfl | rfl | rfl | rfl | rfl | rfl | rfl | rfl | rfl | rfl | rfl | rfl | rfl | rfl
  · have e : x = 16384 := (Option.some.inj hx).symm
    rw [e, pre0 n s hn0 hn1]; exact (st0 n s hn0 hn1).2
  · have e : x = 8192 := (Option.some.inj hx).symm
    rw [e, pre1 n s hn0 hn1]; exact (st1 n s hn0 hn1).2
  · have e : x = 4096 := (Option.some.inj hx).symm
    rw [e, pre2 n s hn0 hn1]; exact (st2 n s hn0 hn1).2
  · have e : x = 2048 := (Option.some.inj hx).symm
    rw [e, pre3 n s hn0 hn1]; exact (st3 n s hn0 hn1).2
  · have e : x = 1024 := (Option.some.inj hx).symm
    rw [e, pre4 n s hn0 hn1]; exact (st4 n s hn0 hn1).2
  · have e : x = 512 := (Option.some.inj hx).symm
    rw [e, pre5 n s hn0 hn1]; exact (st5 n s hn0 hn1).2
  · have e : x = 256 := (Option.some.inj hx).symm
    rw [e, pre6 n s hn0 hn1]; exact (st6 n s hn0 hn1).2
  · have e : x = 128 := (Option.some.inj hx).symm
    rw [e, pre7 n s hn0 hn1]; exact (st7 n s hn0 hn1).2
  · have e : x = 64 := (Option.some.inj hx).symm
    rw [e, pre8 n s hn0 hn1]; exact (st8 n s hn0 hn1).2
  · have e : x = 32 := (Option.some.inj hx).symm
    rw [e, pre9 n s hn0 hn1]; exact (st9 n s hn0 hn1).2
  · have e : x = 16 := (Option.some.inj hx).symm
    rw [e, pre10 n s hn0 hn1]; exact (st10 n s hn0 hn1).2
  · have e : x = 8 := (Option.some.inj hx).symm
    rw [e, pre11 n s hn0 hn1]; exact (st11 n s hn0 hn1).2
  · have e : x = 4 := (Option.some.inj hx).symm
    rw [e, pre12 n s hn0 hn1]; exact (st12 n s hn0 hn1).2
  · have e : x = 2 := (Option.some.inj hx).symm
    rw [e, pre13 n s hn0 hn1]; exact (st13 n s hn0 hn1).2
  · have e : x = 1 := (Option.some.inj hx).symm
    rw [e, pre14 n s hn0 hn1]; exact (st14 n s hn0 hn1).2
end Mine
end
section
open PySem PySem.W PyProof.Rows PySem.Calls PySem.W.X
set_option Elab.async false
set_option maxRecDepth 100000
set_option maxHeartbeats 1000000
namespace Mine
theorem n_law (c : Cx) : nsIn (K2 c) mainGlobals (Str.ofString "law") = some (some (.ref 110)) := by kernel_rfl
theorem hd20 {c : Cx} {mg mb : Str → Option Value} {h : Heap} (G : Gd (K2 c) mg mb h) : CodeHd h 20 16 := ⟨_, _, _, _, _, _, _, _, _, G.X 20 _ rfl, rfl, rfl, rfl, rfl, rfl, rfl, rfl, rfl, by decide⟩
theorem old_of {c : Cx} {mg mb : Str → Option Value} {h h' : Heap} (G : Gd (K2 c) mg mb h) (hT : ∀ P ∈ T3, h.get? P = some (tabObj #[])) (k : Kp h h') (g1 : GrownAt 16 h') (g2 : GrownAt 93 h') (g3 : GrownAt 100 h') : OldK h h' := by
  have key : ∀ P ∈ T3, isCodeTable h P ∧ GrownAt P h' := fun P hP => by
    rcases in_T3 hP with rfl | rfl | rfl
    · exact ⟨((hd20 G).tab (hT _ m16)).isCodeTable, g1⟩
    · exact ⟨((hd97 G).tab (hT _ m93)).isCodeTable, g2⟩
    · exact ⟨((hd102 G).tab (hT _ m100)).isCodeTable, g3⟩
  refine ⟨fun b o e => ?_, fun b o e => ?_⟩
  · by_cases hb : b ∈ T3
    · obtain ⟨t, ps, hP⟩ := key b hb
      have e2 := hT b hb
      rw [e] at e2
      cases e2
      exact .inr (.inl ⟨t, rfl, #[], ps, rfl, by rw [Array.empty_append]; exact hP⟩)
    · exact .inl (k b o hb e)
  · by_cases hb : b ∈ T3
    · obtain ⟨_, ps, hP⟩ := key b hb
      exact ⟨_, hP⟩
    · exact ⟨o, k b o hb e⟩
theorem J (CK : ∀ c mg mb A h', Room A 49 147 → Gd (K2 c) mg mb h' → Bm mg h' → h'.get? 16 = some (tabObj #[]) → wq c A (call (.ref 21) [.ref 91]) (CkPost c h') h') : PySem.Challenge.rw_mr0176_02.Holds := by
  refine hd ?_
  k_fill
  intro w s₀ s₁ mg mb G Y fa o pm cd doc dV kV ho hd hcd hD hmg hg args vals as hpre hlay hrd hwl hlo
  have KX := km_in_of Y
  have hT := km_tabs_of Y
  refine Ground.open G ?_
  intro T B D TE TW
  clear ho hd hcd hD TE TW B D Y
  wrow_args hpre hlay hrd hwl hlo
  rename_i xs _ _ _ _ _ _ _ sA vs _ hL _ _ _ hI _ hlen _
  have hT' : ∀ P ∈ T3, s₁.heap.get? P = some (tabObj #[]) := fun P hP => hT P (by
    rcases in_T3 hP with rfl | rfl | rfl
    · decide
    · decide
    · decide)
  let c : Cx := ⟨PySem.Challenge.rw_mr0176_02.row.prog, w, s₁.gens, s₁.drawn, s₁.os⟩
  have G' : Gd (K2 c) mg mb s₁.heap := ⟨KX, T.g, T.b, T.builtins, T.nolimit⟩
  have hfa : mg (Str.ofString "law") = some (.ref 110) := mg_of G'.X T.g (n_law c)
  have hfa2 : mg (Str.ofString "law") = some (.ref fa) := hmg
  rw [hfa] at hfa2
  cases hfa2
  have B' : Bm mg s₁.heap := by
    obtain ⟨bm, ob, b1, b2, b3, b4, b5, b6⟩ := T.bmain
    refine ⟨bm, ob, b1, b2, fun q => ?_, b3, b4, b5, b6⟩
    rw [hT' bm q] at b3; cases b3; cases b4
  have Tb' : Tb s₁.heap #[] #[] #[] := ⟨hT' _ m100, hT' _ m93, hT' _ m16, TabOk.nil _ _, TabOk.nil _ _⟩
  have rm : Room callerA 50 150 := ⟨rfl, by decide, by decide⟩
  have hlen2 : vs.length ≤ sizeLine := by
    have e1 : vs.length = xs.length := hI.length
    have e2 : (63 : Nat) ≤ sizeLine := by decide
    omega
  have run := lawRun rm G' B' Tb' hL (ints_are hI) hlen2 (fun A h' => CK c mg mb A h') (fun n sp => plainL n sp) (fun n sp => plainO n sp)
  refine wq.go (c := c) (h := s₁.heap) (tk := s₁.toks) run fun v h' tk' hv => ?_
  obtain ⟨rfl, kp, g1, g2, g3⟩ := hv
  refine ⟨.inl ⟨_, _, [], rfl, fun _ => rfl, ReadsW.bool true, ?post, fun _ => ⟨List.nodup_nil, fun _ hm => (nomatch hm)⟩⟩, old_of G' hT' kp g1 g2 g3, rfl, .of_eq hg⟩
  first | rfl | wrow_post
end Mine
end
section
open PySem PySem.W PyProof.Rows PySem.Calls PySem.W.X
set_option Elab.async false
set_option maxRecDepth 100000
set_option linter.unusedVariables false
namespace Mine
theorem b_bc : bootBuiltins (Str.ofString "__build_class__") = some (.builtin "__build_class__") := by decide +kernel
theorem x_bc : Str.ofString "__build_class__" ≠ ("__name__" : Str) := by decide +kernel
/-- a class statement with one base and no decorator -/
theorem s_Class {c : Cx} {A : Around} {h : Heap} {env : Env} {name bind : Str} {base : Expr} {body : List Stmt} {scope : Scope} {x1 : Option Scope} {statics : List Str} {pos : Pos} {Q : Flow → Heap → Prop} {mb : Str → Option Value} (hb : env.builtins = builtinsNs) (b : h.Ns builtinsNs mb) (bi : ∀ x : Str, x ≠ "__name__" → mb x = bootBuiltins x)
    (he : starEach [base] env = [(false, eval base env)])
    (H : wq c A (eval base env) (fun bv h₁ => wq c A (buildClass name (qualnameIn env name bind) [bv] [] body scope statics pos.line env pos none) (fun cv h₂ => wq c A (storeName env bind cv) (fun _ h₃ => Q .next h₃) h₂) h₁) h) :
    wq c A (exec (.ClassDef name [base] [] body [] [] scope x1 bind statics pos) env) Q h := wq.of fun tk Q' k => by
  rw [arm_exec_ClassDef]
  refine wpAny_bind (wpAny_pure (wpAny_bind (wpAny_standAt (wpAny_bind ?_))))
  unfold buildClassGuard
  rw [hb]
  refine wpAny_bind (wpAny_nsGet b ?_)
  have e := (bi (Str.ofString "__build_class__") x_bc).trans b_bc
  rw [show mb "__build_class__" = some (.builtin "__build_class__") from e]
  refine wpAny_pure (wpAny_bind (wpAny_holding (wpAny_bind ?_)))
  unfold evalArgs
  rw [he]
  show wpAny _ _ (spliced (backTo pos [(false, eval base env)]) >>= _) _ _ _
  refine wpAny_bind ?_
  refine spliced_cons (H.go fun bv h₁ tk₁ H₁ => spliced_nil ?_)
  refine wpAny_bind (wpAny_pure (wpAny_holding ?_))
  refine wpAny_bind (wpAny_pure (wpAny_bind (wpAny_pure (wpAny_pure ?_))))
  refine wpAny_bind (wpAny_standAt (wpAny_holding ?_))
  refine H₁.go fun cv h₂ tk₂ H₂ => ?_
  refine wpAny_bind (wpAny_pure (wpAny_bind (wpAny_standAt (wpAny_bind (wpAny_bindName (H₂.go fun _ h₃ tk₃ q => wpAny_pure (k _ _ _ q)))))))
end Mine
end
section
open PySem PySem.W PyProof.Rows PySem.Calls PySem.W.X
set_option Elab.async false
set_option maxRecDepth 100000
set_option maxHeartbeats 400000
namespace Mine
abbrev bigA : Around := { handled := none, depth := 955, frames := none, guards := none, units := 9760 }
theorem wpBig {α : Type} {M : Model} {A : Around} {t : Sem α} {Q : α → Shared → Prop} {E : Value → Shared → Prop} {s : Shared} (hh : A.handled = none) (hd : A.depth ≤ 955) (hu : A.units ≤ 9760) (H : wpAny M bigA t Q E s) : wpAny M A t Q E s :=
  fun Γ p hΓ => H Γ p ⟨hΓ.1.trans hh, Nat.le_trans hΓ.2.1 hd, fun l e => (nomatch e), fun g e => (nomatch e), Nat.le_trans hΓ.2.2.2.2 hu⟩
end Mine
end
section
open PySem PySem.W PyProof.Rows PySem.Calls PySem.W.X
set_option Elab.async false
set_option maxRecDepth 100000
set_option maxHeartbeats 400000
namespace Mine
local macro_rules | `(tactic| x_close) => `(tactic| (refine ⟨_, _, rfl, rfl, ?_⟩; assumption))
theorem ga (c : Cx) (h : Heap) (tk : Nat) (t : Tok) :
    wpAny (model c.prog c.w) bigA (getAttrBy (.type "type") (.str (Str.ofString "__prepare__") t) false) (fun v s' => ∃ a h', v = .ref a ∧ s' = ⟨h', c.g, c.d, tk, c.os⟩ ∧ Mem h h' [] [(a, { cls := .type "builtin_function_or_method", data := .fields #[.builtin "type.__prepare__", .type "type"] })]) (fun _ _ => False) ⟨h, c.g, c.d, tk, c.os⟩ := by
  x_run
theorem pr (c : Cx) (h : Heap) (tk : Nat) (t : Tok) (a b : Addr) (name : Str) (ha : h.get? a = some (Obj.mk (.type "builtin_function_or_method") none (.fields #[.builtin "type.__prepare__", .type "type"]) #[])) :
    wpAny (model c.prog c.w) bigA (call (.ref a) [.str name t, .ref b] []) (fun v s' => ∃ a h', v = .ref a ∧ s' = ⟨h', c.g, c.d, tk, c.os⟩ ∧ Mem h h' [] [(a, { cls := .type "dict", data := .dict #[] })]) (fun _ _ => False) ⟨h, c.g, c.d, tk, c.os⟩ := by
  x_run
end Mine
end
section
open PySem PySem.W PyProof.Rows PySem.Calls PySem.W.X
set_option Elab.async false
set_option maxRecDepth 100000
set_option linter.unusedVariables false
set_option maxHeartbeats 400000
namespace Mine
/-! a namespace's dict as a list of names with their values, in order -/
def IsEs : List (Str × Value) → List DictEntry → Prop
  | [], [] => True
  | (x, v) :: l, e :: es => (∃ t, e.key = .str x t) ∧ e.val = v ∧ IsEs l es
  | _, _ => False
def setL (l : List (Str × Value)) (x : Str) (v : Value) : List (Str × Value) := match l with
  | [] => [(x, v)]
  | (y, w) :: r => if y = x then (y, v) :: r else (y, w) :: setL r x v
def delL (l : List (Str × Value)) (x : Str) : List (Str × Value) := match l with
  | [] => []
  | (y, w) :: r => if y = x then r else (y, w) :: delL r x
def NsO (o : Obj) (l : List (Str × Value)) : Prop := o.cls = .type "dict" ∧ o.slots = #[] ∧ ∃ es n, o.data = .dict es n ∧ IsEs l es.toList
theorem isEs_str {l : List (Str × Value)} : ∀ {es : List DictEntry}, IsEs l es → ∀ e ∈ es, ∃ n t, e.key = .str n t := by
  induction l with
  | nil => intro es h e he; cases es with
    | nil => cases he
    | cons _ _ => exact h.elim
  | cons p l ih => intro es h e he; cases es with
    | nil => cases he
    | cons e' es =>
      obtain ⟨⟨t, hk⟩, hv, hr⟩ := h
      rcases List.mem_cons.mp he with rfl | he
      · exact ⟨_, t, hk⟩
      · exact ih hr e he
theorem isEs_find {l : List (Str × Value)} (x : Str) : ∀ {es : List DictEntry}, IsEs l es → (es.find? fun e => e.key.isStr x).map (·.val) = lk l x := by
  induction l with
  | nil => intro es h; cases es with
    | nil => rfl
    | cons _ _ => exact h.elim
  | cons p l ih => intro es h; cases es with
    | nil => exact h.elim
    | cons e es =>
      obtain ⟨⟨t, hk⟩, hv, hr⟩ := h
      show _ = List.lookup x ((p.1, p.2) :: l)
      rw [List.find?_cons, List.lookup_cons, hk]
      have hk2 : (Value.str p.1 t).isStr x = (p.1 == x) := rfl
      rw [hk2]
      by_cases e1 : p.1 = x
      · rw [show (p.1 == x) = true from beq_iff_eq.mpr e1, show (x == p.1) = true from beq_iff_eq.mpr e1.symm]
        simp [hv]
      · rw [show (p.1 == x) = false from beq_eq_false_iff_ne.mpr e1, show (x == p.1) = false from beq_eq_false_iff_ne.mpr (Ne.symm e1)]
        exact ih hr
theorem nsO_ns {h : Heap} {a : Addr} {o : Obj} {l : List (Str × Value)} (e : h.get? a = some o) (N : NsO o l) : h.Ns a (lk l) := by
  obtain ⟨hc, hs, es, n, hd, hI⟩ := N
  refine ⟨o, es, n, e, hd, fun e he => isEs_str hI e (Array.mem_toList_iff.mpr he), fun x => ?_⟩
  show (es.find? _).map _ = _
  rw [← isEs_find x hI, ← Array.find?_toList]
theorem isEs_put {x : Str} {v : Value} {hs : Int} {t : Tok} {l : List (Str × Value)} : ∀ {es : List DictEntry}, IsEs l es →
    IsEs (setL l x v) (nsPutIn x.cps.size x.cps.toList (fun | some e => { e with val := v } | none => ⟨hs, .str x t, v⟩) es).1 := by
  induction l with
  | nil => intro es h; cases es with
    | nil => exact ⟨⟨t, rfl⟩, rfl, trivial⟩
    | cons _ _ => exact h.elim
  | cons p l ih => intro es h; cases es with
    | nil => exact h.elim
    | cons e es =>
      obtain ⟨⟨t', hk⟩, hv, hr⟩ := h
      have hs : e.key.isStrByCps x.cps.size x.cps.toList = (p.1 == x) := by rw [Value.isStrByCps_eq, hk]; rfl
      simp only [nsPutIn, setL, hs]
      by_cases e1 : p.1 = x
      · rw [show (p.1 == x) = true from beq_iff_eq.mpr e1, if_pos e1]
        exact ⟨⟨t', hk⟩, rfl, hr⟩
      · rw [show (p.1 == x) = false from beq_eq_false_iff_ne.mpr e1, if_neg e1]
        exact ⟨⟨t', hk⟩, hv, ih hr⟩
theorem nsO_put {o : Obj} {x : Str} {v : Value} {hs : Int} {t : Tok} {l : List (Str × Value)} (N : NsO o l) : NsO (o.putName x hs (.str x t) v) (setL l x v) := by
  obtain ⟨hc, hsl, es, n, hd, hI⟩ := N
  obtain ⟨oc, od, dt, sl⟩ := o
  dsimp only at hc hsl hd
  subst hd
  have P := isEs_put (x := x) (v := v) (hs := hs) (t := t) hI
  unfold Obj.putName
  dsimp only
  generalize nsPutIn x.cps.size x.cps.toList (fun | some e => { e with val := v } | none => ⟨hs, .str x t, v⟩) es.toList = r at P
  obtain ⟨es', b⟩ := r
  cases b with
  | true => exact ⟨hc, hsl, es'.toArray, n + 1, rfl, P⟩
  | false => exact ⟨hc, hsl, es'.toArray, n, rfl, P⟩
theorem isEs_del {x : Str} {l : List (Str × Value)} : ∀ {es : List DictEntry}, IsEs l es → IsEs (delL l x) ((nsDropIn x.cps.size x.cps.toList es).getD es) := by
  induction l with
  | nil => intro es h; cases es with
    | nil => exact trivial
    | cons _ _ => exact h.elim
  | cons p l ih => intro es h; cases es with
    | nil => exact h.elim
    | cons e es =>
      obtain ⟨⟨t', hk⟩, hv, hr⟩ := h
      have hs : e.key.isStrByCps x.cps.size x.cps.toList = (p.1 == x) := by rw [Value.isStrByCps_eq, hk]; rfl
      simp only [nsDropIn, delL, hs]
      by_cases e1 : p.1 = x
      · rw [show (p.1 == x) = true from beq_iff_eq.mpr e1, if_pos e1]
        exact hr
      · rw [show (p.1 == x) = false from beq_eq_false_iff_ne.mpr e1, if_neg e1]
        have := ih hr
        simp only [Bool.false_eq_true, if_false]
        cases q : nsDropIn x.cps.size x.cps.toList es with
        | none => rw [q] at this; exact ⟨⟨t', hk⟩, hv, this⟩
        | some r => rw [q] at this; exact ⟨⟨t', hk⟩, hv, this⟩
theorem nsO_del {o : Obj} {x : Str} {l : List (Str × Value)} (N : NsO o l) : NsO (o.dropName x) (delL l x) := by
  obtain ⟨hc, hsl, es, n, hd, hI⟩ := N
  obtain ⟨oc, od, dt, sl⟩ := o
  dsimp only at hc hsl hd
  subst hd
  have P := isEs_del (x := x) hI
  unfold Obj.dropName
  dsimp only
  cases q : nsDropIn x.cps.size x.cps.toList es.toList with
  | none => rw [q] at P; exact ⟨hc, hsl, es, n, rfl, P⟩
  | some r => rw [q] at P; exact ⟨hc, hsl, r.toArray, n + 1, rfl, P⟩
theorem nsO_free {o : Obj} {l : List (Str × Value)} (N : NsO o l) : o.isFreed = false := by
  obtain ⟨hc, hsl, es, n, hd, hI⟩ := N
  exact Obj.isFreed_of_dict hd

section ops
variable {c : Cx} {A : Around} {h h₀ : Heap} {L a : Addr} {m : Str → Option Value} {news : List (Addr × Obj)} {i : Nat} {o : Obj} {l : List (Str × Value)} {x : Str} {v : Value}
theorem q_load {Q : Obj → Heap → Prop} (D : Led h₀ L m h news) (hi : news[i]? = some (a, o)) (q : Q o h) : wq c A (load a) Q h := wq.load (D.at i hi) q
theorem q_loadPart {p : Option Value} {Q : Obj → Heap → Prop} (D : Led h₀ L m h news) (hi : news[i]? = some (a, o)) (q : Q o h) : wq c A (loadPart a p) Q h := wq.of fun _ _ k => wpAny_loadPart (D.at i hi) (k _ _ _ q)
theorem led_upd {f : Obj → Obj} (D : Led h₀ L m h news) (hi : news[i]? = some (a, o)) (hf : (f o).isFreed = false) : Led h₀ L m (h.update a f) (news.set i (a, f o)) :=
  led_put D hi (Heap.SameBut.update ..) (Heap.get?_update_self f (D.at i hi) hf)
theorem q_update {f : Obj → Obj} {Q : Unit → Heap → Prop} (D : Led h₀ L m h news) (hi : news[i]? = some (a, o)) (hf : (f o).isFreed = false) (q : ∀ h', Led h₀ L m h' (news.set i (a, f o)) → Q () h') : wq c A (update a f) Q h :=
  wq.of fun _ _ k => wpAny_update (D.at i hi) (k _ _ _ (q _ (led_upd D hi hf)))
theorem q_updatePart {p : Option Value} {f : Obj → Obj} {Q : Unit → Heap → Prop} (D : Led h₀ L m h news) (hi : news[i]? = some (a, o)) (hf : (f o).isFreed = false) (q : ∀ h', Led h₀ L m h' (news.set i (a, f o)) → Q () h') : wq c A (updatePart a p f) Q h :=
  wq.of fun _ _ k => wpAny_updatePart (D.at i hi) (k _ _ _ (q _ (led_upd D hi hf)))
theorem q_alloc {Q : Addr → Heap → Prop} (D : Led h₀ L m h news) (hf : o.isFreed = false) (q : ∀ a h', Led h₀ L m h' ((a, o) :: news) → L < a → Q a h') : wq c A (alloc o) Q h :=
  wq.of fun _ _ k => wpAny_alloc (k _ _ _ (q _ _ (led_push D o hf) D.fr.ns.lt))
theorem q_newObj {T : String} {data : Data} {Q : Value → Heap → Prop} (D : Led h₀ L m h news) (hs : sizeOk data) (hf : ({ cls := .type T, data } : Obj).isFreed = false) (q : ∀ a h', Led h₀ L m h' ((a, { cls := .type T, data }) :: news) → L < a → Q (.ref a) h') : wq c A (newObj (.type T) data) Q h :=
  wq.of fun _ _ k => wpAny_newObj_type (k _ _ _ (q _ _ (led_push D _ hf) D.fr.ns.lt)) hs
theorem q_newTextTuple {items : List Value} {Q : Value → Heap → Prop} (D : Led h₀ L m h news) (q : ∀ a h', Led h₀ L m h' ((a, { cls := .type "tuple", data := .seq items.toArray }) :: news) → L < a → Q (.ref a) h') : wq c A (newTextTuple items) Q h :=
  wq.of fun _ _ k => wpAny_newTextTuple (k _ _ _ (q _ _ (led_push D _ rfl) D.fr.ns.lt))
theorem q_newTuple {items : List Value} {Q : Value → Heap → Prop} (D : Led h₀ L m h news) (hz : items.length ≤ sizeLine) (q : ∀ a h', Led h₀ L m h' ((a, { cls := .type "tuple", data := .seq items.toArray }) :: news) → L < a → Q (.ref a) h') : wq c A (newTuple items) Q h :=
  wq.of fun _ _ k => wpAny_newTuple (k _ _ _ (q _ _ (led_push D _ rfl) D.fr.ns.lt)) hz
theorem q_mkText {Q : Value → Heap → Prop} (q : ∀ t, Q (.str x t) h) : wq c A (mkText x) Q h := wq.of fun _ _ k => wpAny_mkText (k _ _ _ (q _))
theorem q_mkStr {Q : Value → Heap → Prop} (hz : x.length ≤ sizeLine) (q : ∀ t, Q (.str x t) h) : wq c A (mkStr x) Q h := wq.of fun _ _ k => wpAny_mkStr (k _ _ _ (q _)) hz
theorem q_mkInt {n : Int} {Q : Value → Heap → Prop} (q : ∀ t, Q (.int n t) h) : wq c A (mkInt n) Q h := wq.of fun _ _ k => wpAny_mkInt (k _ _ _ (q _))
theorem q_fresh {Q : Tok → Heap → Prop} (q : ∀ t, Q t h) : wq c A fresh Q h := wq.of fun _ _ k => wpAny_fresh (k _ _ _ (q _))
theorem q_eqp {α : Type} {t : Sem α} {r : α} {Q : α → Heap → Prop} (e : t = pure r) (q : Q r h) : wq c A t Q h := e ▸ wq.pure q
theorem q_ns {mm : Str → Option Value} {Q : Option Value → Heap → Prop} (N : h.Ns a mm) (q : Q (mm x) h) : wq c A (nsGet a x) Q h := wq.of fun _ _ k => wpAny_nsGet N (k _ _ _ q)
theorem q_nsGet {Q : Option Value → Heap → Prop} (D : Led h₀ L m h news) (hi : news[i]? = some (a, o)) (N : NsO o l) (q : Q (lk l x) h) : wq c A (nsGet a x) Q h := q_ns (nsO_ns (D.at i hi) N) q
theorem q_strHash {Q : Int → Heap → Prop} (q : ∀ n, Q n h) : wq c A (strHash x) Q h := wq.of fun _ _ k => by
  unfold strHash
  exact wpAny_bind (wpAny_askSetting (wpAny_pure (k _ _ _ (q _))))
theorem q_nsSet {Q : Unit → Heap → Prop} (D : Led h₀ L m h news) (hi : news[i]? = some (a, o)) (N : NsO o l) (q : ∀ o' h', NsO o' (setL l x v) → Led h₀ L m h' (news.set i (a, o')) → Q () h') : wq c A (nsSet a x v) Q h := by
  unfold nsSet
  refine wq.bind (q_strHash fun n => wq.bind (q_mkText fun t => wq.bind (q_loadPart D hi ?_)))
  obtain ⟨hc, hsl, es, ep, hd, hI⟩ := id N
  rw [hd]
  dsimp only
  have hany : es.any (·.refKey) = false := by
    rw [Array.any_eq_false']; intro e he; obtain ⟨n, t, h⟩ := isEs_str hI e (Array.mem_toList_iff.mpr he); simp [DictEntry.refKey, h]
  rw [aRefKeyMayBeTheName_eq]
  simp only [aRefKeyMayBeTheNameByArray, hany, Bool.and_false, Bool.false_eq_true, if_false]
  refine wq.bind (wq.pure ?_)
  exact q_updatePart D hi (nsO_free (nsO_put N)) fun h' D' => q _ h' (nsO_put N) D'
theorem q_nsSetBV {Q : Unit → Heap → Prop} (D : Led h₀ L m h news) (hi : news[i]? = some (a, o)) (N : NsO o l) (hz : l.length ≤ sizeLine) (q : ∀ o' h', NsO o' (setL l x v) → Led h₀ L m h' (news.set i (a, o')) → Q () h') : wq c A (nsSetByValue a x v) Q h := by
  unfold nsSetByValue
  refine wq.bind (q_loadPart D hi ?_)
  obtain ⟨hc, hsl, es, ep, hd, hI⟩ := id N
  rw [hd]
  dsimp only
  have len : ∀ {l : List (Str × Value)} {es : List DictEntry}, IsEs l es → es.length = l.length := by
    intro l
    induction l with
    | nil => intro es h; cases es with
      | nil => rfl
      | cons _ _ => exact h.elim
    | cons p l ih => intro es h; cases es with
      | nil => exact h.elim
      | cons e es => simp [ih h.2.2]
  have h2 : ¬ es.size > sizeLine := by
    rw [← Array.length_toList, len hI]; omega
  rw [show (decide (es.size > sizeLine)) = false from decide_eq_false h2]
  simp only [Bool.false_and, Bool.false_eq_true, if_false]
  refine wq.bind (wq.pure ?_)
  exact q_nsSet D hi N q
theorem q_nsDel {Q : Bool → Heap → Prop} (D : Led h₀ L m h news) (hi : news[i]? = some (a, o)) (N : NsO o l) (hx : (lk l x).isSome = true) (q : ∀ o' h', NsO o' (delL l x) → Led h₀ L m h' (news.set i (a, o')) → Q true h') : wq c A (nsDel a x) Q h := by
  unfold nsDel
  refine wq.bind (q_loadPart D hi ?_)
  obtain ⟨hc, hsl, es, ep, hd, hI⟩ := id N
  have hh : nsHas x o = pure true := by
    rw [nsHas_eq, nsHasByArray, hd]
    have e1 := isEs_find x hI
    have : es.any (·.key.isStr x) = true := by
      rw [← Array.any_toList, List.any_eq_true]
      cases q : es.toList.find? fun e => e.key.isStr x with
      | none => rw [q] at e1; rw [← e1] at hx; cases hx
      | some e => exact ⟨e, List.mem_of_find?_eq_some q, List.find?_some (p := fun e : DictEntry => e.key.isStr x) q⟩
    simp only [this, if_true]
  rw [hh]
  refine wq.bind (wq.pure ?_)
  rw [if_pos rfl]
  refine wq.bind (q_updatePart D hi (nsO_free (nsO_del N)) fun h' D' => wq.pure (q _ h' (nsO_del N) D'))
end ops
end Mine
end
section
open PySem PySem.W PyProof.Rows PySem.Calls PySem.W.X
set_option Elab.async false
set_option maxRecDepth 100000
set_option linter.unusedVariables false
set_option maxHeartbeats 400000
namespace Mine
/-- a code object whose table lies at P -/
def CdO (o : Obj) (P : Addr) : Prop := ∃ vs file tf flags tg inF text tt, o.cls = .type "code" ∧ o.data = .fields vs ∧ vs[11]? = some (.ref P) ∧ vs.getD 11 .none = .ref P ∧ vs.getD 18 .none = .str file tf ∧
    vs.getD 7 .none = .int flags tg ∧ vs.getD 9 .none = .bool inF ∧ vs.getD 10 .none = .int text tt
theorem CdO.hd {o : Obj} {P c : Addr} {h : Heap} (x : CdO o P) (e : h.get? c = some o) (ne : c ≠ P) : CodeHd h c P :=
  let ⟨vs, file, tf, flags, tg, inF, text, tt, a1, a2, a3, a4, a5, a6, a7, a8⟩ := x; ⟨o, vs, file, tf, flags, tg, inF, text, tt, e, a1, a2, a3, a4, a5, a6, a7, a8, ne⟩
section
variable {c : Cx} {A : Around} {h h₀ : Heap} {L a : Addr} {m : Str → Option Value} {news : List (Addr × Obj)}
theorem q_newCode {ctx : CodeContext} {name qual : Str} {fl argc po ko flags : Nat} {free : List Str} {isF : Bool} {Q : Value → Heap → Prop} (D : Led h₀ L m h news)
    (q : ∀ c' P' oc T oT h', CdO oc P' → Led h₀ L m h' ((c', oc) :: (P', tabObj #[]) :: (T, oT) :: news) → Q (.ref c') h') : wq c A (newCode ctx name qual fl argc po ko flags free isF) Q h := by
  unfold newCode
  refine wq.bind (q_mkText fun t1 => wq.bind (q_mkText fun t2 => wq.bind (q_mkText fun t3 => ?_)))
  refine wq.bind (wq.of fun tk Q' k => wpAny_mkStrs fun fs => ?_)
  refine k fs h _ ?_
  refine wq.bind (q_newTextTuple D fun T h₁ D hT => ?_)
  refine wq.bind (q_alloc (o := tabObj #[]) D rfl fun P' h₂ D hP => ?_)
  refine wq.bind (wq.pure (wq.bind (wq.pure (wq.bind (wq.pure ?_)))))
  refine wq.bind (q_fresh fun t4 => wq.bind (q_mkText fun t5 => ?_))
  unfold newFields
  refine q_newObj D (by size_fits) rfl fun c' h₃ D hc => q c' P' _ T _ h₃ ?_ D
  exact ⟨_, _, _, _, _, _, _, _, rfl, rfl, rfl, rfl, rfl, rfl, rfl, rfl⟩
theorem q_classCode {env : Env} {cP P : Addr} {j : Nat} {ps : Array Value} {pos : Pos} {fl : Nat} {name qual : Str} {scope : Scope} {Q : Value → Heap → Prop} (D : Led h₀ L m h news) (hcode : env.code = .ref cP) (C : CodeHd h cP P) (hj : news[j]? = some (P, tabObj ps)) (hnf : codeAmong pos ps.toList = none) (ht : TriplesOk ps.toList)
    (q : ∀ c' P' oc T oT h', CdO oc P' → Led h₀ L m h' ((c', oc) :: (P', tabObj #[]) :: (T, oT) :: news.set j (P, tabObj (ps ++ #[rawInt pos.line, rawInt pos.col, .ref c']))) → Q (.ref c') h') : wq c A (classCode env pos fl name qual scope) Q h := by
  unfold classCode codeAt
  rw [hcode, if_neg (show ¬ ((Value.ref cP == Value.none) = true) from Bool.false_ne_true)]
  obtain ⟨o, vs, file, tf, flags, tg, inF, text, tt, e1, r1, r2, r3, r4, r5, r6, r7, r8, hne⟩ := C
  refine wq.bind (wq.of fun tk Q' k => wpAny_fieldsOf e1 r2 (k _ _ _ ?_))
  rw [r4]
  refine wq.bind (wq.of fun tk Q' k => wpAny_fieldsOf (D.at j hj) rfl (k _ _ _ ?_))
  rw [hnf, r5, r6, r7, r8]
  refine wq.bind (q_newCode D fun c' P' oc T oT h' hoc D' => ?_)
  have hj' : ((c', oc) :: (P', tabObj #[]) :: (T, oT) :: news)[j + 3]? = some (P, tabObj ps) := hj
  have hnew : Obj.mapFields (fun vs => if (codeAmong pos vs.toList).isSome = true then vs else vs ++ #[rawInt pos.line, rawInt pos.col, .ref c']) (tabObj ps) = tabObj (ps ++ #[rawInt pos.line, rawInt pos.col, .ref c']) := by
    simp only [Obj.mapFields, hnf]; rfl
  refine wq.bind (wq.of fun tk Q' k => wpAny_updateFieldsOfTheText (D'.at _ hj') rfl ?_)
  have D'' := led_upd (f := Obj.mapFields (fun vs => if (codeAmong pos vs.toList).isSome = true then vs else vs ++ #[rawInt pos.line, rawInt pos.col, .ref c'])) D' hj' (by rw [hnew]; rfl)
  rw [hnew] at D''
  refine k _ _ _ ?_
  have D3 : Led h₀ L m _ ((c', oc) :: (P', tabObj #[]) :: (T, oT) :: news.set j (P, tabObj (ps ++ #[rawInt pos.line, rawInt pos.col, .ref c']))) := D''
  have hl := (List.getElem?_eq_some_iff.mp hj).1
  refine wq.bind (wq.of fun tk Q' k => wpAny_fieldsOf (D3.at (j + 3) (a := P) (o := tabObj (ps ++ #[rawInt pos.line, rawInt pos.col, .ref c'])) (by
    show (news.set j _)[j]? = _
    rw [List.getElem?_set_self hl])) rfl (k _ _ _ ?_))
  rw [show (ps ++ #[rawInt pos.line, rawInt pos.col, Value.ref c']).toList = ps.toList ++ [rawInt pos.line, rawInt pos.col, .ref c'] by simp, codeAmong_snoc _ ht hnf]
  exact wq.pure (q c' P' oc T oT _ hoc D3)
end
end Mine
end
section
open PySem PySem.W PyProof.Rows PySem.Calls PySem.W.X
set_option Elab.async false
set_option maxRecDepth 100000
set_option linter.unusedVariables false
set_option maxHeartbeats 400000
namespace Mine
section
variable {c : Cx} {A : Around} {h h₀ : Heap} {L a : Addr} {m : Str → Option Value} {news : List (Addr × Obj)}
/-- a built-in's own tree -/
theorem q_builtinCode {id : String} {args : Args} {b : Builtin} {R : Result → Shared → Prop} {tk : Nat} (he : entryFor table id = some b)
    (H : wq c (A.under (.builtin id args)) (b args) (fun fin h' => ∃ v, fin = .done (.ret v) ∧ ∀ tk', R (.ok (.ret v)) (c.st h' tk')) h) : codeAny c.M A (.builtin id args) R (c.st h tk) := by
  refine codeAny_builtin he (wpAny_mono (H.go (E := fun _ _ => False) (Q' := fun fin s' => match fin with | .done f => R (.ok f) s' | .again c' => c'.quiet = true ∧ codeAny c.M A c' R s') fun fin h' tk' q => ?_) (fun _ _ x => x) fun _ _ x => x.elim)
  obtain ⟨v, rfl, q⟩ := q
  exact q tk'
/-- a bound built-in method called -/
theorem c_bound {id : String} {self : Value} {args : List Value} {b : Builtin} {Q : Value → Heap → Prop} (ho : h.get? a = some (Obj.mk (.type "builtin_function_or_method") none (.fields #[.builtin id, self]) #[]))
    (hq : (Code.builtin id ⟨self :: args, []⟩).quiet = true) (he : entryFor table id = some b)
    (H : wq c A.in1 (checkBoundCall id ⟨self :: args, []⟩) (fun _ h₁ => wq c (A.under (.builtin id ⟨self :: args, []⟩)) (b ⟨self :: args, []⟩) (fun fin h' => ∃ v, fin = .done (.ret v) ∧ Q v h') h₁) h) : wq c A (call (.ref a) args) Q h := by
  refine wq.of fun tk Q' k => wpAny_call (codeAny_of_tree ?_)
  rw [Around.under_plain (by rfl) (by rfl)]
  show wpAny _ _ (callAny (.ref a) ⟨args, []⟩) _ _ _
  unfold callAny
  refine wpAny_bind (wpAny_load ho ?_)
  dsimp only
  rw [if_pos (by rfl)]
  show wpAny _ _ (do checkBoundCall id ⟨self :: args, []⟩; again (.builtin id ⟨self :: args, []⟩)) _ _ _
  refine wpAny_bind (H.go fun _ h₁ tk₁ H₁ => ?_)
  refine wpAny_pure ⟨hq, q_builtinCode he (wq.mono H₁ fun fin h' ⟨v, e, q⟩ => ⟨v, e, fun tk' => k _ _ _ q⟩)⟩
theorem c_prep {x y : Value} {Q : Value → Heap → Prop} (D : Led h₀ L m h news) (ho : h.get? a = some (Obj.mk (.type "builtin_function_or_method") none (.fields #[.builtin "type.__prepare__", .type "type"]) #[]))
    (q : ∀ ns h', Led h₀ L m h' ((ns, { cls := .type "dict", data := .dict #[] }) :: news) → L < ns → Q (.ref ns) h') : wq c A (call (.ref a) [x, y]) Q h := by
  refine c_bound ho (by kernel_rfl) (entryFor_of_fast (b := Builtin.«type.__prepare__») (by kernel_rfl)) (q_eqp (r := ()) (by kernel_rfl) ?_)
  unfold Builtin.«type.__prepare__» newDict
  exact wq.bind (q_newObj D (by size_fits) rfl fun ns h' D hL => wq.pure ⟨_, rfl, q ns h' D hL⟩)
end
end Mine
end
section
open PySem PySem.W PyProof.Rows PySem.Calls PySem.W.X
set_option Elab.async false
set_option maxRecDepth 100000
set_option linter.unusedVariables false
set_option maxHeartbeats 400000
namespace Mine
def Bq (mg : Str → Option Value) (h : Heap) : Prop := ∃ bm o, mg "__builtins__" = some (.ref bm) ∧ bm ≠ builtinsNs ∧ h.get? bm = some o ∧ o.cls = .type "module" ∧ o.dict = some builtinsNs ∧ o.data = .plain
/-- the class body's own names -/
abbrev clsEnv (scope : Scope) (ns : Addr) (qual : Str) (c' fr : Addr) (clos : List (Str × Addr)) : Env :=
  { scope, locals := ns, globals := mainGlobals, qual := qual ++ ".", code := .ref c', frame := some fr, builtins := builtinsNs, cells := clos }
theorem wq.onRaise {α : Type} {c : Cx} {A : Around} {h : Heap} {t : Sem α} {k : Value → Sem Unit} {Q : α → Heap → Prop} (H : wq c A t Q h) : wq c A (t.onRaise k) Q h := wq.of fun _ _ kk => wpAny_onRaise (H.go kk)
/-- what is left of a class statement behind its body -/
def tailB (c : Cx) (A : Around) (cenv : Env) (statics : List Str) (nameV basesT ns : Value) (Q : Value → Heap → Prop) (h : Heap) : Prop :=
  ∀ vs, wq c A (newTextTuple vs) (fun tv h₄ => wq c A (storeName cenv ("__static_attributes__" : Str) tv) (fun _ h₅ => wq c A (call (.type "type") [nameV, basesT, ns] []) Q h₅) h₄) h
section
variable {c : Cx} {A : Around} {h h₀ : Heap} {L a : Addr} {m : Str → Option Value} {news : List (Addr × Obj)} {i : Nat} {o : Obj} {l : List (Str × Value)} {x : Str} {v : Value} {env : Env}
theorem q_localSet {Q : Unit → Heap → Prop} (hl : env.locals = a) (D : Led h₀ L m h news) (hi : news[i]? = some (a, o)) (N : NsO o l) (q : ∀ o' h', NsO o' (setL l x v) → Led h₀ L m h' (news.set i (a, o')) → Q () h') : wq c A (localSet env x v) Q h := by
  unfold localSet
  rw [hl]
  refine wq.bind (q_load D hi ?_)
  rw [if_pos (by rw [N.1]; rfl)]
  exact q_nsSet D hi N q
theorem storeC_own (hk : env.scope.kind = .class) (hx : env.kindOf x = none) (hc : compilersOwnNames.contains x = true) : storeName env x v = localSet env x v := by
  unfold storeName
  rw [hx]
  simp only [Env.blockKind, hk, hc]
  rfl
theorem storeC_local (hk : env.scope.kind = .class) (hx : env.kindOf x = some .local) : storeName env x v = localSet env x v := by
  unfold storeName
  rw [hx]
  simp only [hk]
  rfl
theorem q_loadC {Q : Value → Heap → Prop} {mg : Str → Option Value} (hk : env.scope.kind = .class) (hx : env.kindOf x = none) (hc : compilersOwnNames.contains x = true) (hl : env.locals = a) (D : Led h₀ L m h news) (hi : news[i]? = some (a, o)) (N : NsO o l) (hnl : lk l x = none) (hgl : env.globals = mainGlobals) (g : h.Ns mainGlobals mg) (hv : mg x = some v) (q : Q v h) : wq c A (loadName env x) Q h := by
  unfold loadName
  rw [hx]
  simp only [Env.blockKind, hk, ScopeKind.isAnnotationScope, Bool.false_and, Bool.false_eq_true, if_false, hc, Bool.not_true]
  unfold localGet
  rw [hl]
  refine wq.bind (wq.bind (q_load D hi ?_))
  rw [if_pos (by rw [N.1]; rfl)]
  refine q_nsGet D hi N ?_
  rw [hnl]
  unfold loadGlobal
  rw [hgl]
  refine wq.bind (q_ns g ?_)
  rw [hv]
  exact wq.pure q
theorem q_build {name qual : Str} {body : List Stmt} {scope : Scope} {statics : List Str} {fl : Nat} {pos : Pos} {Q : Value → Heap → Prop} {cP P : Addr} {j : Nat} {ps : Array Value} {clos : List (Str × Addr)} {mg : Str → Option Value} {nv : Value}
    (D : Led h₀ L m h news) (hd : A.depth < 955) (hh : A.handled = none) (hu : A.units ≤ 9760)
    (hcode : env.code = .ref cP) (C : CodeHd h₀ cP P) (hj : news[j]? = some (P, tabObj ps)) (hnf : codeAmong pos ps.toList = none) (ht : TriplesOk ps.toList) (hgl : env.globals = mainGlobals) (g : h₀.Ns mainGlobals mg) (B : Bq mg h₀) (hn : mg "__name__" = some nv) (lim : h₀.NoLimit)
    (hcl : closureFor scope env = pure clos) (hk : scope.kind = .class) (h1 : scope.names.lookup ("__class__" : Str) = none) (h2 : scope.names.lookup ("__classdict__" : Str) = none) (h3 : scope.names.lookup ("__name__" : Str) = none) (h4 : scope.names.lookup ("__module__" : Str) = some .local) (h5 : scope.names.lookup ("__qualname__" : Str) = none) (h6 : scope.names.lookup ("__firstlineno__" : Str) = none)
    (hann : hasAnns body = false) (hdoc : docOf body = none) (hL : 2 ≤ L) 
    (H : ∀ bT nsA on P' c' oc T oT fr ofr t0 t1 t2 h', NsO on [("__module__", nv), ("__qualname__", .str qual t1), ("__firstlineno__", .int fl t2)] → CdO oc P' → Led h₀ L m h' ((fr, ofr) :: (c', oc) :: (P', tabObj #[]) :: (T, oT) :: (nsA, on) :: (bT, { cls := .type "tuple", data := .seq #[.type "object"] }) :: news.set j (P, tabObj (ps ++ #[rawInt pos.line, rawInt pos.col, .ref c']))) →
       wq c (A.deeper (clsEnv scope nsA qual c' fr clos)) (execs body (clsEnv scope nsA qual c' fr clos)) (fun _ h₂ => tailB c A (clsEnv scope nsA qual c' fr clos) statics (.str name t0) (.ref bT) (.ref nsA) Q h₂) h') :
    wq c A (buildClass name qual [.type "object"] [] body scope statics fl env pos none) Q h := by
  unfold buildClass
  refine wq.bind (q_newTuple D (by decide) fun bT h₁ D hbT => ?_)
  refine wq.bind (q_eqp (r := ([Value.type "object"], false)) (by rfl) ?_)
  refine wq.bind (q_eqp (r := Value.type "type") (by rfl) ?_)
  refine wq.bind (q_eqp (r := true) (by rfl) ?_)
  rw [if_pos rfl]
  refine wq.bind (q_eqp (r := Value.type "type") (by kernel_rfl) ?_)
  refine wq.bind (q_mkText fun t0 => ?_)
  rw [if_neg (by decide)]
  refine wq.bind (wq.pure (wq.holding ?_))
  refine wq.bind ?_
  unfold getAttr? getAttrBy?
  refine wq.bind (q_mkText fun t2 => ?_)
  refine wq.bind (wq.of fun tk Q' k => wpAny_attempt (wpBig hh (by omega) hu (wpAny_mono (ga c h₁ tk t2) (fun v s' hv => ?_) fun _ _ x => x.elim)))
  obtain ⟨b, h₂, rfl, rfl, M⟩ := hv
  have kp : Keep h₁ h₂ := fun b' o' e => M.keep b' o' e (by simp [away])
  have hb := (M.nw _ (.head _)).1
  have D := led_grow D kp
  refine k _ h₂ _ ?_
  refine wq.pure ?_
  refine wq.bind (c_prep D hb fun nsA h₃ D hns => ?_)
  dsimp only
  refine wq.bind (q_eqp (r := ()) ?e1 ?_)
  case e1 =>
    unfold notTheModulesDict
    rw [if_neg]
    rw [beq_iff_eq]
    show nsA ≠ 1
    exact Nat.ne_of_gt (Nat.lt_of_lt_of_le (by decide) (Nat.le_trans hL (Nat.le_of_lt hns)))
  refine wq.bind (wq.of fun tk Q' k => wpAny_specialOf (T := "dict") (r := some (.builtin "dict.__getitem__")) ⟨_, D.at 0 rfl, rfl⟩ (by rw [typeLookup_type, builtinLookup_eq_fast]; kernel_rfl) (k _ _ _ ?_))
  rw [if_neg (by decide)]
  refine wq.holding ?_
  rw [if_neg (by rw [h1]; decide)]
  refine wq.bind (wq.pure ?_)
  rw [if_neg (by rw [h2]; decide)]
  refine wq.bind (wq.pure ?_)
  refine wq.bind (q_classCode (j := j + 2) D hcode (C.keeps D.fr.keep) hj hnf ht fun c' P' oc T oT h₄ hoc D => ?_)
  obtain ⟨bm, ob, b1, b2, b3, b4, b5, b6⟩ := B
  rw [hgl]
  refine wq.bind (wq.of fun tk Q' k => wpAny_builtinsFor (g.keeps D.fr.keep) b1 b2 (D.fr.keep _ _ b3) b4 b5 b6 (k _ _ _ ?_))
  unfold newBodyFrame
  refine wq.bind (wq.bind (q_ns (g.keeps D.fr.keep) ?_))
  rw [hn]
  refine q_alloc D rfl fun fr h₅ D hfr => ?_
  rw [hcl]
  refine wq.bind (wq.pure (wq.holding ?_))
  refine wq.bind (wq.of fun tk Q' k => wpAny_enterFrame (lim.keeps D.fr.keep) (by show A.depth < 1000; omega) (k _ _ _ ?_))
  refine wq.bind (wq.onRaise ?_)
  change wq c A (do
    storeName (clsEnv scope nsA qual c' fr clos) ("__module__" : Str) (← loadName (clsEnv scope nsA qual c' fr clos) ("__name__" : Str))
    storeName (clsEnv scope nsA qual c' fr clos) ("__qualname__" : Str) (← mkText qual)
    storeName (clsEnv scope nsA qual c' fr clos) ("__firstlineno__" : Str) (← mkInt fl)
    pure ()) _ h₅
  have on0 : NsO ({ cls := .type "dict", data := .dict #[] } : Obj) [] := ⟨rfl, rfl, #[], 0, rfl, trivial⟩
  refine wq.bind (q_loadC (a := nsA) (i := 4) hk h3 (by decide +kernel) rfl D rfl on0 rfl rfl (g.keeps D.fr.keep) hn ?_)
  rw [storeC_local (env := clsEnv scope nsA qual c' fr clos) hk h4]
  refine wq.bind (q_localSet (a := nsA) (i := 4) rfl D rfl on0 fun on h₆ N D => ?_)
  refine wq.bind (q_mkText fun t1 => ?_)
  rw [storeC_own (env := clsEnv scope nsA qual c' fr clos) hk h5 (by decide +kernel)]
  refine wq.bind (q_localSet (a := nsA) (i := 4) rfl D rfl N fun on h₇ N D => ?_)
  refine wq.bind (q_mkInt fun t2 => ?_)
  rw [storeC_own (env := clsEnv scope nsA qual c' fr clos) hk h6 (by decide +kernel)]
  refine wq.bind (q_localSet (a := nsA) (i := 4) rfl D rfl N fun on h₈ N D => ?_)
  refine wq.pure ?_
  change wq c A (run (.body body (clsEnv scope nsA qual c' fr clos)) >>= fun _ =>
    (statics.mapM mkText >>= fun vs => newTextTuple vs >>= fun tv => storeName (clsEnv scope nsA qual c' fr clos) ("__static_attributes__" : Str) tv >>= fun _ => pure ()).onRaise (leavingAround (clsEnv scope nsA qual c' fr clos)) >>= fun _ =>
    call (.type "type") [.str name t0, .ref bT, .ref nsA] [] >>= fun cls => pure cls) Q h₈
  refine wq.bind (wq.of fun tk Q' k => wpAny_run (codeAny_body hann hdoc ?_))
  have HH := H bT nsA on P' c' oc T oT fr _ t0 t1 t2 h₈ N hoc D
  refine wpAny_mono (HH.go (E := fun _ _ => False) fun f h₉ tk' Hf => ?_) (fun _ _ x => x) fun _ _ x => x.elim
  refine k _ _ _ ?_
  refine wq.bind (wq.onRaise (wq.bind (wq.of fun tk Q' k => wpAny_mkStrs fun vs => k _ _ _ (wq.bind (wq.mono (Hf vs) fun tv h₁₀ H₁₀ => wq.bind (wq.mono H₁₀ fun _ h₁₁ H₁₁ => wq.pure ?_))))))
  exact wq.bind (wq.mono H₁₁ fun cv h₁₂ q => wq.pure q)
end
end Mine
end
section
open PySem PySem.W PyProof.Rows PySem.Calls PySem.W.X
set_option Elab.async false
set_option maxRecDepth 100000
set_option linter.unusedVariables false
set_option maxHeartbeats 400000
namespace Mine
def CdR (o : Obj) (qual : Str) : Prop := ∃ vs t, o.data = .fields vs ∧ vs[1]? = some (.str qual t)
section
variable {c : Cx} {A : Around} {h h₀ : Heap} {L a P cc : Addr} {m mg : Str → Option Value} {news : List (Addr × Obj)} {i j : Nat} {o oc : Obj} {l : List (Str × Value)} {x : Str} {v : Value} {env : Env} {ps : Array Value} {pos : Pos}
theorem q_none {k : Nat} {Q : Value → Heap → Prop} (q : Q .none h) : wq c A (eval (.Constant .none k pos) env) Q h := wq.of fun _ _ kk => Constant_none (kk _ _ _ q)
theorem bq_at {T : Addr} {oT : Obj} (D : Led h₀ L m h news) (hj : news[j]? = some (T, oT)) (g : h₀.Ns mainGlobals mg) (B : Bq mg h₀) : h.BuiltinsAt mg T ∧ mainGlobals ≠ T := by
  obtain ⟨bm, ob, b1, b2, b3, b4, b5, b6⟩ := B
  have z := (D.nw _ (List.mem_of_getElem? hj)).2.2
  refine ⟨⟨bm, ob, b1, b2, fun q => ?_, fun q => ?_, D.fr.keep _ _ b3, b4, b5, b6⟩, fun q => ?_⟩
  · obtain ⟨o, es, ep, e, hd, _⟩ := g
    rw [q, e] at b3; cases b3; rw [hd] at b6; cases b6
  · rw [q, z] at b3; cases b3
  · obtain ⟨o, es, ep, e, hd, _⟩ := g
    rw [q, z] at e; cases e
theorem s_DefC {name qual : Str} {params : Arguments} {body : List Stmt} {scope : Scope} {clos : List (Str × Addr)} {Q : Flow → Heap → Prop} {oP : Obj} (D : Led h₀ L m h news) (hj : news[j]? = some (P, oP)) (hP : oP = tabObj ps) (hi : news[i]? = some (cc, oc)) (hoc : CdO oc P) (hne : cc ≠ P) (hcode : env.code = .ref cc) (hgl : env.globals = mainGlobals) (g : h₀.Ns mainGlobals mg) (B : Bq mg h₀) (ht : TriplesOk ps.toList) (hnf : codeAmong pos ps.toList = none)
    (hq : qualnameIn env name name = qual) (hcl : closureFor scope env = pure clos) (hd0 : params.defaults = []) (hk0 : params.kw_defaults = []) (ha : annTrees params none env = [])
    (q : ∀ f of c' ctv doc od oP' ps' h', of = fnMade name qual params body scope clos doc ((mg "__name__").getD .none) c' ctv → oP' = tabObj ps' → ps' = ps ++ #[rawInt pos.line, rawInt pos.col, .ref c'] → TriplesOk ps'.toList → Led h₀ L m h' ((f, of) :: (c', od) :: news.set j (P, oP')) → CdR od qual → L < c' → L < f →
      wq c A (storeName env name (.ref f)) (fun _ h₂ => Q .next h₂) h') :
    wq c A (exec (.FunctionDef name params body [] none [] scope none name pos) env) Q h := wq.of fun tk Q' k => by
  subst hP
  have hm := D.at j hj
  obtain ⟨hb, hgP⟩ := bq_at D hj g B
  refine nestDef_K hd0 hk0 ha ?_
  rw [hq]
  have hLh : L < h.objs.size := D.fr.ns.lt
  refine makeFunction_K (mg := mg) hcl hgl (g.keeps D.fr.keep) hcode (hoc.hd (D.at i hi) hne) hm ht hnf hgP hb fun c' ctv doc h' tk' hx hge hlt hrec htb => ?_
  have D₁ := led_putX D hj hx htb
  obtain ⟨c₂, od, vs, t, e₂, god, hdd, hvs⟩ := hrec
  cases e₂
  have D₂ := led_add D₁ god (fun p hp => ?below) (Nat.lt_of_lt_of_le hLh hge)
  case below =>
    rcases List.mem_or_eq_of_mem_set hp with hp | hp
    · exact Nat.lt_of_lt_of_le (Heap.lt_size (D.nw p hp).1) hge
    · rw [hp]; exact Nat.lt_of_lt_of_le (Heap.lt_size hm) hge
  exact (q _ _ c' ctv doc od _ _ _ rfl rfl rfl (by simpa using TriplesOk_snoc pos.line pos.col (.ref c') _ ht) (led_push D₂ _ rfl) ⟨vs, t, hdd, hvs⟩ (Nat.lt_of_lt_of_le hLh hge) (Nat.lt_trans (Nat.lt_of_lt_of_le hLh hge) hlt)).go fun _ _ _ q => k _ _ _ q
/-- a name of the class body is stored -/
theorem q_storeC {Q : Unit → Heap → Prop} (D : Led h₀ L m h news) (hi : news[i]? = some (a, o)) (N : NsO o l) (q : ∀ o' h', NsO o' (setL l x v) → Led h₀ L m h' (news.set i (a, o')) → Q () h') (hk : env.scope.kind = .class := by exact rfl) (hx : env.kindOf x = some .local := by exact rfl) (hl : env.locals = a := by exact rfl) : wq c A (storeName env x v) Q h := by
  rw [storeC_local hk hx]
  exact q_localSet hl D hi N q
end
end Mine
end
section
open PySem PySem.W PyProof.Rows PySem.Calls PySem.W.X
set_option Elab.async false
set_option maxRecDepth 100000
set_option linter.unusedVariables false
set_option maxHeartbeats 400000
namespace Mine
section
variable {c : Cx} {A : Around} {h h₀ : Heap} {L a : Addr} {m mg : Str → Option Value} {news : List (Addr × Obj)}
theorem c_builtin {id : String} {args : List Value} {b : Builtin} {Q : Value → Heap → Prop} (hp : plainId id = true) (he : entryFor table id = some b)
    (H : wq c A.in1 (checkBuiltinCall id ⟨args, []⟩) (fun _ h₁ => wq c A.in1 (b ⟨args, []⟩) (fun fin h' => ∃ v, fin = .done (.ret v) ∧ Q v h') h₁) h) : wq c A (call (.builtin id) args) Q h := by
  refine wq.of fun tk Q' k => wpAny_call (codeAny_of_tree ?_)
  rw [Around.under_plain (by rfl) (by rfl)]
  show wpAny _ _ (do checkBuiltinCall id ⟨args, []⟩; again (.builtin id ⟨args, []⟩)) _ _ _
  refine wpAny_bind (H.go fun _ h₁ tk₁ H₁ => ?_)
  refine wpAny_pure ⟨plainId_quiet hp _, q_builtinCode he ?_⟩
  rw [Around.under_plainId hp _]
  exact wq.mono H₁ fun fin h' ⟨v, e, q⟩ => ⟨v, e, fun tk' => k _ _ _ q⟩
theorem slot_type_init : Slot "type" "__init__" "type.__init__" := .of (owner := "type") (n := "__init__") (by rw [typeLookup_type, builtinLookup_eq_fast]; kernel_rfl) (by decide +kernel) (by decide +kernel) (by decide +kernel) (by first | exact .inl (by decide +kernel) | exact .inr (by decide +kernel)) (by rw [isSubtype_type]; kernel_rfl)
theorem c_typeCall {x y z : Value} {Q : Value → Heap → Prop}
    (HN : wq c A.in1.in1 (Builtin.«type.__new__» ⟨[.type "type", x, y, z], []⟩) (fun fin h' => ∃ C oC, fin = .done (.ret (.ref C)) ∧ h'.get? C = some oC ∧ oC.cls = .type "type" ∧ Q (.ref C) h') h) : wq c A (call (.type "type") [x, y, z]) Q h := by
  refine wq.of fun tk Q' kk => wpAny_call (codeAny_of_tree ?_)
  show wpAny _ _ (callAny (.type "type") _) _ _ _
  refine wpAny_pure ⟨Code.quiet_builtin _ (by decide +kernel), q_builtinCode F.entry_type_call ?_⟩
  rw [Around.under_plain (weight_type_call_type _ _ _) rfl]
  unfold Builtin.«type.__call__»
  dsimp only
  rw [if_pos (by decide), if_neg (by simp), if_neg (by simp)]
  rw [if_neg (Bool.eq_false_iff.mp (by kernel_rfl))]
  refine wq.bind (q_eqp (r := ()) (by kernel_rfl) ?_)
  refine wq.bind (q_eqp (r := [.type "type", .type "object"]) (by rw [mroOf_type]; kernel_rfl) ?_)
  rw [if_neg (by decide)]
  refine wq.bind (q_eqp (r := some "type.__new__") (by kernel_rfl) ?_)
  refine wq.bind (wq.pure ?_)
  refine wq.bind (wq.holding (c_builtin (by decide +kernel) (entryFor_of_fast (b := Builtin.«type.__new__») (by kernel_rfl)) (q_eqp (r := ()) (by kernel_rfl) (wq.mono HN fun fin h' H' => ?_))))
  obtain ⟨C, oC, rfl, hC, hcl, q⟩ := H'
  refine ⟨_, rfl, ?_⟩
  refine wq.bind (wq.of fun tk Q' k => wpAny_isInstance (T := "type") (b := true) ⟨_, hC, hcl⟩ (by rw [isSubtype_type]; kernel_rfl) (k _ _ _ ?_))
  rw [if_neg (by decide)]
  refine wq.bind (wq.holding (wq.of fun tk Q' k => wpAny_callSpecial?_slot ⟨_, hC, hcl⟩ slot_type_init (wpAny_call_entry slot_type_init ⟨_, hC, hcl⟩ (entryFor_of_fast (b := Builtin.«type.__init__») (by kernel_rfl)) ?_ (by kernel_rfl))))
  unfold Builtin.«type.__init__»
  dsimp only
  refine wpAny_of_eq (a := Fin.done (Flow.ret Value.none)) (by rfl) ⟨_, rfl, k _ _ _ ?_⟩
  dsimp only
  rw [if_neg (by decide)]
  exact wq.pure ⟨_, rfl, fun tk' => kk _ _ _ q⟩
end
end Mine
end
section
open PySem PySem.W PyProof.Rows PySem.Calls PySem.W.X
set_option Elab.async false
set_option maxRecDepth 100000
set_option linter.unusedVariables false
set_option maxHeartbeats 400000
namespace Mine
section
local macro_rules | `(tactic| x_close) => `(tactic| (refine ⟨_, _, _, 1, rfl, rfl, ?_⟩; assumption))
theorem collectOne (c : Cx) (h : Heap) (tk : Nat) (x : Value) (sl : Addr) (n : Nat) (hs : h.get? sl = some (Obj.mk (.type "list") none (.seq #[x] n) #[])) :
    wpAny (model c.prog c.w) bigA (runValue (.builtin "proto.collect" ⟨[.ref sl], []⟩)) (fun v s' => ∃ a h' tk' n', v = .ref a ∧ s' = ⟨h', c.g, c.d, tk', c.os⟩ ∧ Mem h h' [] [(a, Obj.mk (.type "list") none (.seq #[x] n') #[])]) (fun _ _ => False) ⟨h, c.g, c.d, tk, c.os⟩ := by
  x_run
end
section
variable {c : Cx} {A : Around} {h h₀ : Heap} {L a : Addr} {m mg : Str → Option Value} {news : List (Addr × Obj)}
/-- what the dict of a class to be made must bear -/
structure ClsL (l : List (Str × Value)) (sl : Addr) (qual : Str) (tq : Tok) : Prop where
  slots : lk l "__slots__" = some (.ref sl)
  module : (lk l "__module__").isSome = true
  qualname : lk l "__qualname__" = some (.str qual tq)
  doc : lk l "__doc__" = none
  new : lk l "__new__" = none
  init : lk l "__init_subclass__" = none
  item : lk l "__class_getitem__" = none
  cell : lk l "__classcell__" = none
  dcell : lk l "__classdictcell__" = none
  del : lk l "__del__" = none
  obj : lk l "obj" = none
  eq : (lk l "__eq__").isSome = true
  hash : (lk l "__hash__").isSome = true
  short : l.length ≤ 100
theorem wq.no {α : Type} {p : Prop} [Decidable p] {t e : Sem α} {Q : α → Heap → Prop} (hp : ¬ p) (H : wq c A e Q h) : wq c A (if p then t else e) Q h := by rw [if_neg hp]; exact H
theorem wq.yes {α : Type} {p : Prop} [Decidable p] {t e : Sem α} {Q : α → Heap → Prop} (hp : p) (H : wq c A t Q h) : wq c A (if p then t else e) Q h := by rw [if_pos hp]; exact H
theorem q_entries {o : Obj} {es : Array DictEntry} {n : Nat} {p : Option Value} {Q : Array DictEntry → Heap → Prop} (ho : h.get? a = some o) (hd : o.data = .dict es n) (q : Q es h) : wq c A (dictEntries a p) Q h := by
  unfold dictEntries
  refine wq.bind (wq.of fun tk Q' k => wpAny_loadPart ho (k _ _ _ ?_))
  rw [hd]
  exact wq.pure q
theorem isEs_any {l : List (Str × Value)} {es : Array DictEntry} (hI : IsEs l es.toList) (x : Str) : es.any (fun e => e.key.isStr x) = (lk l x).isSome := by
  have e1 := isEs_find x hI
  rw [← e1, ← Array.any_toList]
  cases q : es.toList.find? fun e => e.key.isStr x with
  | none =>
    rw [List.find?_eq_none] at q
    have : es.toList.any (fun e => e.key.isStr x) = false := by
      rw [List.any_eq_false]; exact q
    rw [this]; rfl
  | some e =>
    have : es.toList.any (fun e => e.key.isStr x) = true := by
      rw [List.any_eq_true]; exact ⟨e, List.mem_of_find?_eq_some q, List.find?_some (p := fun e : DictEntry => e.key.isStr x) q⟩
    rw [this]; rfl
theorem isEs_len : ∀ {l : List (Str × Value)} {es : List DictEntry}, IsEs l es → es.length = l.length
  | [], [], _ => rfl
  | [], _ :: _, h => h.elim
  | _ :: _, [], h => h.elim
  | p :: l, e :: es, h => by simp [isEs_len h.2.2]
theorem q_for1 {α β : Type} {x : α} {b : β} {f : α → β → Sem (ForInStep β)} {Q : β → Heap → Prop} (H : wq c A (f x b) (fun r h₁ => Q (match r with | .done b => b | .yield b => b) h₁) h) : wq c A (forIn [x] b f) Q h := by
  rw [List.forIn_cons]
  refine wq.bind (wq.mono H fun r h₁ q => ?_)
  cases r with
  | done b => exact wq.pure q
  | yield b =>
    show wq c A (forIn [] b f) Q h₁
    rw [List.forIn_nil]; exact wq.pure q
theorem q_for1A {α β : Type} {x : α} {b : β} {f : α → β → Sem (ForInStep β)} {Q : β → Heap → Prop} (H : wq c A (f x b) (fun r h₁ => Q (match r with | .done b => b | .yield b => b) h₁) h) : wq c A (forIn #[x] b f) Q h := by
  rw [← Array.forIn_toList]
  exact q_for1 H
theorem q_slotsRead {es : Array DictEntry} {l : List (Str × Value)} {sl : Addr} {qual : Str} {tq t4 : Tok} {n : Nat} {Q : Builtin.Slots.Plan → Heap → Prop} (hd : A.depth ≤ 955) (hh : A.handled = none) (hu : A.units ≤ 9760) (hI : IsEs l es.toList) (X : ClsL l sl qual tq) (hs : h.get? sl = some (Obj.mk (.type "list") none (.seq #[.str "obj" t4] n) #[]))
    (q : ∀ h', Keep h h' → Q { names := ["obj"], dict := false, weak := false, inherited := [] } h') : wq c A (Builtin.Slots.read "K" [.type "object"] es) Q h := by
  unfold Builtin.Slots.read
  refine wq.bind (q_eqp (r := Value.type "object") (by kernel_rfl) ?_)
  refine wq.bind (q_eqp (r := []) (by kernel_rfl) ?_)
  refine wq.bind (q_eqp (r := false) (by kernel_rfl) ?_)
  refine wq.bind (q_eqp (r := false) (by kernel_rfl) ?_)
  refine wq.bind (q_eqp (r := false) (by kernel_rfl) ?_)
  obtain ⟨e, he, hv⟩ : ∃ e, es.find? (fun e => e.key.isStr ("__slots__" : Str)) = some e ∧ e.val = .ref sl := by
    have e1 := isEs_find ("__slots__" : Str) hI
    rw [X.slots, Array.find?_toList] at e1
    cases q : es.find? fun e => e.key.isStr ("__slots__" : Str) with
    | none => rw [q] at e1; cases e1
    | some e => rw [q] at e1; exact ⟨e, rfl, Option.some.inj e1⟩
  rw [he]
  refine wq.bind (wq.rule ?_)
  rw [hv]
  refine wq.bind (wq.of fun tk Q' k => wpAny_bind (wpAny_load hs (wpAny_pure (k _ _ _ ?_))))
  refine wq.no (by decide) ?_
  refine wq.bind ?_
  unfold collect
  refine wq.bind (wq.of fun tk Q' k => wpBig hh hd hu (wpAny_mono (collectOne c h tk _ sl n hs) (fun v s' hv => ?_) fun _ _ x => x.elim))
  obtain ⟨b, h₂, tk', n', rfl, rfl, M⟩ := hv
  have kp : Keep h h₂ := fun b' o' e => M.keep b' o' e (by simp [away])
  have hb := (M.nw _ (.head _)).1
  refine k _ h₂ _ ?_
  refine wq.bind (wq.load hb ?_)
  refine wq.pure ?_
  refine wq.yes (by rfl) ?_
  refine wq.bind (q_eqp (r := false) (by kernel_rfl) ?_)
  refine wq.no (by decide) ?_
  refine wq.bind (q_eqp (r := ((false, false, #[Str.ofString "obj"], []) : Bool × Bool × Array Str × List Str)) (by kernel_rfl) ?_)
  refine wq.bind (q_for1A ?_)
  refine wq.no (by decide) ?_
  refine wq.no (by rw [show Builtin.Slots.mangle "K" "obj" = ("obj" : Str) from by decide +kernel, isEs_any hI, X.obj]; decide) ?_
  refine wq.no (by decide +kernel) ?_
  refine wq.pure ?_
  refine wq.bind (q_eqp (r := (false, false)) (by kernel_rfl) ?_)
  exact q_eqp (r := { names := [Str.ofString "obj"], dict := false, weak := false, inherited := [] }) (by kernel_rfl) (q h₂ kp)
end
end Mine
end
section
open PySem PySem.W PyProof.Rows PySem.Calls PySem.W.X
set_option Elab.async false
set_option maxRecDepth 100000
set_option linter.unusedVariables false
set_option maxHeartbeats 400000
namespace Mine
section
variable {c : Cx} {A : Around} {h h₀ : Heap} {L a : Addr} {m mg : Str → Option Value} {news : List (Addr × Obj)}
theorem lk_set {l : List (Str × Value)} {x y : Str} {v : Value} : lk (setL l x v) y = if y = x then some v else lk l y := by
  induction l with
  | nil =>
    show List.lookup y [(x, v)] = _
    rw [List.lookup_cons]
    by_cases e : y = x
    · rw [if_pos e, show (y == x) = true from beq_iff_eq.mpr e]
    · rw [if_neg e, show (y == x) = false from beq_eq_false_iff_ne.mpr e]
  | cons p l ih =>
    obtain ⟨z, w⟩ := p
    unfold setL
    by_cases e1 : z = x
    · rw [if_pos e1]
      show List.lookup y ((z, v) :: l) = if y = x then _ else List.lookup y ((z, w) :: l)
      rw [List.lookup_cons, List.lookup_cons]
      subst e1
      by_cases e : y = z
      · rw [if_pos e, show (y == z) = true from beq_iff_eq.mpr e]
      · rw [if_neg e, show (y == z) = false from beq_eq_false_iff_ne.mpr e]
    · rw [if_neg e1]
      show List.lookup y ((z, w) :: setL l x v) = if y = x then _ else List.lookup y ((z, w) :: l)
      rw [List.lookup_cons, List.lookup_cons]
      by_cases e : y = z
      · subst e
        rw [show (y == y) = true from beq_iff_eq.mpr rfl, if_neg e1]
      · rw [show (y == z) = false from beq_eq_false_iff_ne.mpr e]
        exact ih
theorem lk_del {l : List (Str × Value)} {x y : Str} (hy : y ≠ x) : lk (delL l x) y = lk l y := by
  induction l with
  | nil => rfl
  | cons p l ih =>
    obtain ⟨z, w⟩ := p
    unfold delL
    by_cases e1 : z = x
    · rw [if_pos e1]
      show _ = List.lookup y ((z, w) :: l)
      rw [List.lookup_cons, show (y == z) = false from beq_eq_false_iff_ne.mpr (fun q => hy (q.trans e1))]
    · rw [if_neg e1]
      show List.lookup y ((z, w) :: delL l x) = List.lookup y ((z, w) :: l)
      rw [List.lookup_cons, List.lookup_cons]
      cases (y == z) with
      | true => rfl
      | false => exact ih
theorem q_get {o : Obj} {i : Nat} {l : List (Str × Value)} {x : Str} {r : Option Value} {Q : Option Value → Heap → Prop} (D : Led h₀ L m h news) (hi : news[i]? = some (a, o)) (N : NsO o l) (e : lk l x = r) (q : Q r h) : wq c A (nsGet a x) Q h := q_nsGet D hi N (e ▸ q)
theorem q_setSlot {o o' : Obj} {i k : Nat} {v : Option Value} {Q : Unit → Heap → Prop} (D : Led h₀ L m h news) (hi : news[i]? = some (a, o)) (hk : k < sizeLine) (e : { o with slots := (o.slots ++ Array.replicate (k + 1 - o.slots.size) none).setIfInBounds k v } = o') (hf : o'.isFreed = false)
    (q : ∀ h', Led h₀ L m h' (news.set i (a, o')) → Q () h') : wq c A (setSlotAt a k v) Q h := by
  unfold setSlotAt
  refine wq.no (by omega) ?_
  refine q_updatePart D hi (by rw [e]; exact hf) fun h' D' => ?_
  rw [e] at D'
  exact q h' D'
theorem q_updateCls {o o' : Obj} {i : Nat} {cd : ClassData} {f : ClassData → ClassData} {Q : Unit → Heap → Prop} (D : Led h₀ L m h news) (hi : news[i]? = some (a, o)) (hd : o.data = .cls cd) (e : o.mapCls f = o') (hf : o'.isFreed = false) (hp : o'.data.pastItsLine = none)
    (q : ∀ h', Led h₀ L m h' (news.set i (a, o')) → Q () h') : wq c A (updateCls a f) Q h := by
  unfold updateCls
  refine wq.bind (q_load D hi ?_)
  rw [hd]
  refine wq.bind (q_update D hi (by rw [e]; exact hf) fun h' D' => ?_)
  rw [e] at D'
  unfold lookBehind
  refine wq.bind (q_loadPart (i := i) (o := o') D' (by rw [List.getElem?_set_self (List.getElem?_eq_some_iff.mp hi).1]) ?_)
  rw [hp]
  exact wq.pure (q h' D')
theorem q_lookupC {C : Addr} {oC : Obj} {cd : ClassData} {mm : Str → Option Value} {x : Str} {r : Option Value} {Q : Option Value → Heap → Prop} (hC : h.get? C = some oC) (hd : oC.data = .cls cd) (hm : cd.mro = [.ref C, .type "object"]) (hn : h.Ns cd.ns mm) (e : mm x = none) (er : builtinOwn "object" x = r) (q : Q r h) : wq c A (typeLookup (.ref C) x) Q h := by
  have key : ∀ {Q : List Value → Heap → Prop}, Q [.ref C, .type "object"] h → wq c A (mroOf (.ref C)) Q h := fun q => by
    show wq c A (do return (← classData C).mro) _ h
    unfold classData
    refine wq.bind (wq.bind (wq.load hC ?_))
    rw [hd]
    refine wq.pure (wq.pure ?_)
    rw [hm]; exact q
  unfold typeLookup
  refine wq.bind (key ?_)
  refine wq.bind ?_
  rw [List.forIn_cons]
  refine wq.bind ?_
  refine wq.bind ?_
  show wq c A (do nsGet (← classData C).ns x) _ h
  unfold classData
  refine wq.bind (wq.bind (wq.load hC ?_))
  rw [hd]
  refine wq.pure (q_ns hn ?_)
  rw [e]
  refine wq.pure ?_
  show wq c A (forIn [Value.type "object"] _ _) _ h
  rw [List.forIn_cons]
  refine wq.bind (wq.bind ?_)
  show wq c A (pure (builtinOwn "object" x)) _ h
  refine wq.pure ?_
  rw [er]
  cases r with
  | none => exact wq.pure (wq.pure (wq.pure q))
  | some v => exact wq.pure (wq.pure (wq.pure q))
theorem q_for2 {α β : Type} {x y : α} {b : β} {f : α → β → Sem (ForInStep β)} {Q : β → Heap → Prop} (H : wq c A (f x b) (fun r h₁ => ∃ b', r = .yield b' ∧ wq c A (f y b') (fun r h₁ => Q (match r with | .done b => b | .yield b => b) h₁) h₁) h) : wq c A (forIn [x, y] b f) Q h := by
  rw [List.forIn_cons]
  refine wq.bind (wq.mono H fun r h₁ q => ?_)
  obtain ⟨b', rfl, q⟩ := q
  exact q_for1 q
end
end Mine
end
section
open PySem PySem.W PyProof.Rows PySem.Calls PySem.W.X
set_option Elab.async false
set_option maxRecDepth 100000
set_option linter.unusedVariables false
set_option maxHeartbeats 400000
namespace Mine
abbrev qK : Str := Str.ofString "cmp_to_key.<locals>.K"
section
local macro_rules | `(tactic| x_close) => `(tactic| (refine ⟨_, _, _, rfl, rfl, ?_⟩; assumption))
theorem superMade (c : Cx) (h : Heap) (tk : Nat) (C : Addr) (d : Option Addr) (nm q : Str) (bs : List Value) (ns : Addr) (hdc : Bool) (sn : List Str) (sub : List Value) (ab : Bool) (col : Option Bool) (hdel : Bool) (sl : Array (Option Value)) (hC : h.get? C = some (Obj.mk (.type "type") d (.cls (ClassData.mk nm bs [.ref C, .type "object"] ns q hdc sn sub ab col hdel)) sl)) :
    wpAny (model c.prog c.w) bigA (call (.type "super") [.ref C, .ref C]) (fun v s' => ∃ a h' tk', v = .ref a ∧ s' = ⟨h', c.g, c.d, tk', c.os⟩ ∧ Mem h h' [] [(a, Obj.mk (.type "super") none (.fields #[.ref C, .ref C, .ref C]) #[])]) (fun _ _ => False) ⟨h, c.g, c.d, tk, c.os⟩ := by
  x_run
theorem classGet (c : Cx) (h : Heap) (tk : Nat) (C : Addr) (d : Option Addr) (nm q : Str) (bs : List Value) (ns : Addr) (hdc : Bool) (sn : List Str) (sub : List Value) (ab : Bool) (col : Option Bool) (hdel : Bool) (sl : Array (Option Value)) (hC : h.get? C = some (Obj.mk (.type "type") d (.cls (ClassData.mk nm bs [.ref C, .type "object"] ns q hdc sn sub ab col hdel)) sl)) :
    wpAny (model c.prog c.w) bigA (call (.builtin "classmethod_descriptor.__get__") [.builtin "object.__init_subclass__", .none, .ref C]) (fun v s' => ∃ a h' tk', v = .ref a ∧ s' = ⟨h', c.g, c.d, tk', c.os⟩ ∧ Mem h h' [] [(a, Obj.mk (.type "builtin_function_or_method") none (.fields #[.builtin "object.__init_subclass__", .ref C]) #[])]) (fun _ _ => False) ⟨h, c.g, c.d, tk, c.os⟩ := by
  x_run
end
section
local macro_rules | `(tactic| x_close) => `(tactic| (refine ⟨_, _, rfl, rfl, ?_⟩; first | assumption | exact Mem.start _))
theorem initSub (c : Cx) (h : Heap) (tk : Nat) (C b : Addr) (d : Option Addr) (bs : List Value) (ns : Addr) (hdc : Bool) (sn : List Str) (sub : List Value) (ab : Bool) (col : Option Bool) (hdel : Bool) (sl : Array (Option Value)) (hC : h.get? C = some (Obj.mk (.type "type") d (.cls (ClassData.mk (Str.ofString "K") bs [.ref C, .type "object"] ns qK hdc sn sub ab col hdel)) sl)) (hb : h.get? b = some (Obj.mk (.type "builtin_function_or_method") none (.fields #[.builtin "object.__init_subclass__", .ref C]) #[])) :
    wpAny (model c.prog c.w) bigA (call (.ref b) []) (fun v s' => ∃ h' tk', v = .none ∧ s' = ⟨h', c.g, c.d, tk', c.os⟩ ∧ Mem h h' [] []) (fun _ _ => False) ⟨h, c.g, c.d, tk, c.os⟩ := by
  x_run
end
section
variable {c : Cx} {A : Around} {h h₀ : Heap} {L a : Addr} {m mg : Str → Option Value} {news : List (Addr × Obj)}
theorem q_superGa {so C : Addr} {tk : Tok} {Q : PySem.Fin → Heap → Prop} (hso : h.get? so = some (Obj.mk (.type "super") none (.fields #[.ref C, .ref C, .ref C]) #[])) (hno : Looks c.M h (opaqueClassAbove (.ref C)) none)
    (hC : Looks c.M h (mroOf (.ref C)) [.ref C, .type "object"]) 
    (H : wq c A (call (.builtin "classmethod_descriptor.__get__") [.builtin "object.__init_subclass__", .none, .ref C]) (fun v h' => Q (.done (.ret v)) h') h) :
    wq c A (Builtin.«super.__getattribute__» ⟨[.ref so, .str "__init_subclass__" tk], []⟩) Q h := by
  have fld : ∀ {i : Nat} {v : Value} {Q : Value → Heap → Prop}, (#[.ref C, .ref C, .ref C] : Array Value)[i]? = some v → Q v h → wq c A (field (.ref so) i) Q h := fun e q => wq.of fun tk Q' k => wpAny_field hso rfl e (k _ _ _ q)
  unfold Builtin.«super.__getattribute__»
  refine wq.bind (wq.pure ?_)
  refine wq.no (by decide) ?_
  refine wq.bind (wq.pure ?_)
  refine wq.bind (fld (i := 0) (v := .ref C) rfl ?_)
  refine wq.bind (fld (i := 1) (v := .ref C) rfl ?_)
  refine wq.bind (fld (i := 2) (v := .ref C) rfl ?_)
  refine wq.no (Bool.eq_false_iff.mp (by kernel_rfl)) ?_
  refine wq.bind (wq.of fun tk Q' k => ks_wpAny_notOpaque hno (k _ _ _ ?_))
  refine wq.no (Bool.eq_false_iff.mp (by kernel_rfl)) ?_
  refine wq.bind (wq.of fun tk Q' k => hC.here (k _ _ _ ?_))
  have e : List.drop 1 (List.dropWhile (fun x => x != Value.ref C) [Value.ref C, Value.type "object"]) = [Value.type "object"] := by simp
  refine wq.bind ?_
  rw [e]
  refine q_for1 ?_
  refine wq.bind (q_eqp (r := some (.builtin "object.__init_subclass__")) ?e1 ?_)
  case e1 =>
    show (pure (builtinOwn "object" "__init_subclass__") : Sem (Option Value)) = _
    rw [builtinOwn_eq_fast]; kernel_rfl
  refine wq.bind (q_eqp (r := .type "classmethod_descriptor") ?e2 ?_)
  case e2 =>
    show builtinType "object.__init_subclass__" = _
    rw [builtinType_eq_fast]; kernel_rfl
  refine wq.bind (q_eqp (r := some (.builtin "classmethod_descriptor.__get__")) (by rw [typeLookup_type, builtinLookup_eq_fast]; kernel_rfl) ?_)
  refine wq.bind (wq.holding ?_)
  rw [if_pos (show (Value.ref C == Value.ref C) = true from beq_self_eq_true _)]
  refine wq.mono H fun v h' q => ?_
  exact wq.bind (wq.pure (wq.pure (wq.pure q)))
theorem q_superAttr {so C : Addr} {Q : Value → Heap → Prop} (hso : h.get? so = some (Obj.mk (.type "super") none (.fields #[.ref C, .ref C, .ref C]) #[])) (hno : Looks c.M h (opaqueClassAbove (.ref C)) none)
    (hC : Looks c.M h (mroOf (.ref C)) [.ref C, .type "object"]) 
    (H : wq c A.in1 (call (.builtin "classmethod_descriptor.__get__") [.builtin "object.__init_subclass__", .none, .ref C]) (fun v h' => (∃ b, v = .ref b) ∧ Q v h') h) :
    wq c A (getAttr (.ref so) "__init_subclass__") Q h := by
  unfold getAttr getAttrBy
  refine wq.bind (q_mkText fun t => wq.holding ?_)
  refine wq.bind (wq.of fun tk Q' k => wpAny_typeOf (T := "super") ⟨_, hso, rfl⟩ (k _ _ _ ?_))
  refine wq.bind (q_eqp F.ks_slot_super_ga.lookup ?_)
  show wq c A (getAttrByItsOwn (.ref so) (.str "__init_subclass__" t) (.type "super") (.builtin "super.__getattribute__") true false) Q h
  unfold getAttrByItsOwn hookBefore callGetattribute boundAndCalled
  refine wq.bind (q_eqp (r := none) rfl ?_)
  refine wq.bind (wq.of fun tk Q' k => wpAny_attempt (wpAny_holding ?_))
  show wpAny _ _ (bindSpecial (.builtin "super.__getattribute__") (.ref so) >>= _) _ _ _
  refine wpAny_bind (wpAny_of_eq (F.ks_slot_super_ga.bind _) ?_)
  refine wpAny_call_entry F.ks_slot_super_ga ⟨_, hso, rfl⟩ F.ks_entry_super_ga ?_ (F.ks_gaArgs_super _ _)
  refine (q_superGa (Q := fun fin h' => ∃ b, fin = .done (.ret (.ref b)) ∧ Q (.ref b) h') hso hno hC (wq.mono H fun v h' ⟨⟨b, e⟩, q⟩ => ?_)).go fun fin h' tk' ⟨b, e, q⟩ => ⟨_, e, k _ _ _ ?_⟩
  · subst e; exact ⟨b, rfl, q⟩
  · exact wq.pure q
theorem wq.tryC {α : Type} {t : Sem α} {k : Value → Sem α} {Q : α → Heap → Prop} (H : wq c A t Q h) : wq c A (t.tryCatch k) Q h := wq.of fun _ _ kk => wpAny_tryCatch (H.go kk)
theorem q_forSameL {α β : Type} {b : β} {f : α → β → Sem (ForInStep β)} {Q : β → Heap → Prop} (q : Q b h) : ∀ {es : List α}, (∀ e ∈ es, ∀ Q' : ForInStep β → Heap → Prop, Q' (.yield b) h → wq c A (f e b) Q' h) → wq c A (forIn es b f) Q h
  | [], _ => by rw [List.forIn_nil]; exact wq.pure q
  | e :: es, H => by
    rw [List.forIn_cons]
    refine wq.bind (H e (.head _) _ ?_)
    exact q_forSameL q fun e' he' => H e' (.tail _ he')
theorem q_forSame {α β : Type} {b : β} {f : α → β → Sem (ForInStep β)} {Q : β → Heap → Prop} {es : Array α} (q : Q b h) (H : ∀ e ∈ es.toList, ∀ Q' : ForInStep β → Heap → Prop, Q' (.yield b) h → wq c A (f e b) Q' h) : wq c A (forIn es b f) Q h := by
  rw [← Array.forIn_toList]
  exact q_forSameL q H
def ValOk (h : Heap) (v : Value) : Prop := (∃ s t, v = .str s t) ∨ (∃ i t, v = .int i t) ∨ v = .none ∨ ∃ a o T, v = .ref a ∧ h.get? a = some o ∧ o.cls = .type T ∧ (T = "list" ∨ T = "function" ∨ T = "tuple" ∨ T = "member_descriptor")
theorem vOk_held {v : Value} {k : Str} (x : ValOk h v) : Builtin.heldUnderItsOwnName k v = false := by
  rcases x with ⟨s, t, rfl⟩ | ⟨i, t, rfl⟩ | rfl | ⟨a, o, T, rfl, _⟩
  all_goals rfl
theorem vOk_special {v : Value} {Q : Option Value → Heap → Prop} (x : ValOk h v) (q : Q none h) : wq c A (specialOf v "__set_name__") Q h := by
  rcases x with ⟨s, t, rfl⟩ | ⟨i, t, rfl⟩ | rfl | ⟨a, o, T, rfl, ho, hT, hh⟩
  · refine wq.bind (wq.pure (q_eqp (r := none) (by rw [typeLookup_type, builtinLookup_eq_fast]; kernel_rfl) q))
  · refine wq.bind (wq.pure (q_eqp (r := none) (by rw [typeLookup_type, builtinLookup_eq_fast]; kernel_rfl) q))
  · refine wq.bind (wq.pure (q_eqp (r := none) (by rw [typeLookup_type, builtinLookup_eq_fast]; kernel_rfl) q))
  · rcases hh with rfl | rfl | rfl | rfl
    all_goals exact wq.of fun tk Q' k => wpAny_specialOf (r := none) ⟨_, ho, hT⟩ (by rw [typeLookup_type, builtinLookup_eq_fast]; kernel_rfl) (k _ _ _ q)
theorem isEs_vals {P : Value → Prop} : ∀ {l : List (Str × Value)} {es : List DictEntry}, IsEs l es → (∀ p ∈ l, P p.2) → ∀ e ∈ es, P e.val
  | [], [], _, _, e, he => by cases he
  | [], _ :: _, h, _, _, _ => h.elim
  | _ :: _, [], h, _, _, _ => h.elim
  | p :: l, e' :: es, h, hp, e, he => by
    rcases List.mem_cons.mp he with rfl | he
    · rw [h.2.1]; exact hp p (.head _)
    · exact isEs_vals h.2.2 (fun p' hp' => hp p' (.tail _ hp')) e he
theorem set_vals {P : Value → Prop} {x : Str} {v : Value} : ∀ {l : List (Str × Value)}, (∀ p ∈ l, P p.2) → P v → ∀ p ∈ setL l x v, P p.2
  | [], _, hv, p, hp => by rw [List.mem_singleton.mp hp]; exact hv
  | (y, w) :: l, h, hv, p, hp => by
    unfold setL at hp
    split at hp
    · rcases List.mem_cons.mp hp with rfl | hp
      · exact hv
      · exact h p (.tail _ hp)
    · rcases List.mem_cons.mp hp with rfl | hp
      · exact h (y, w) (.head _)
      · exact set_vals (fun p' hp' => h p' (.tail _ hp')) hv p hp
theorem del_vals {P : Value → Prop} {x : Str} : ∀ {l : List (Str × Value)}, (∀ p ∈ l, P p.2) → ∀ p ∈ delL l x, P p.2
  | [], _, p, hp => by cases hp
  | (y, w) :: l, h, p, hp => by
    unfold delL at hp
    split at hp
    · exact h p (.tail _ hp)
    · rcases List.mem_cons.mp hp with rfl | hp
      · exact h (y, w) (.head _)
      · exact del_vals (fun p' hp' => h p' (.tail _ hp')) p hp
end
end Mine
end
section
open PySem PySem.W PyProof.Rows PySem.Calls PySem.W.X
set_option Elab.async false
set_option maxRecDepth 100000
set_option linter.unusedVariables false
set_option maxHeartbeats 400000
namespace Mine
section
variable {c : Cx} {A : Around} {h h₀ : Heap} {L a : Addr} {m mg : Str → Option Value} {news : List (Addr × Obj)}
theorem len_del {l : List (Str × Value)} {x : Str} : (delL l x).length ≤ l.length := by
  induction l with
  | nil => exact Nat.le_refl _
  | cons p l ih =>
    obtain ⟨z, w⟩ := p
    unfold delL
    split
    · simp
    · simpa using ih
theorem q_refresh {C : Addr} {oC on : Obj} {cd : ClassData} {l : List (Str × Value)} {Q : Unit → Heap → Prop} (hC : h.get? C = some oC) (hd : oC.data = .cls cd) (hm : cd.mro = [.ref C, .type "object"]) (hs : oC.slots[4]?.join = some (.builtin "object.__new__")) (hn : h.get? cd.ns = some on) (N : NsO on l) (e : lk l "__new__" = none) (q : Q () h) : wq c A (Bind.refreshMaker C) Q h := by
  unfold Bind.refreshMaker slotAt
  refine wq.bind (wq.bind (wq.of fun tk Q' k => wpAny_loadPart hC (k _ _ _ ?_)))
  refine wq.pure ?_
  rw [hs]
  refine wq.no (by decide) ?_
  refine wq.bind (q_lookupC hC hd hm (nsO_ns hn N) e (r := some (.builtin "object.__new__")) (by rw [builtinOwn_eq_fast]; kernel_rfl) ?_)
  exact wq.no (by decide +kernel) (wq.pure q)
abbrev dscO (C : Addr) (t : Tok) : Obj := ⟨.type "member_descriptor", none, .fields #[.str "obj" t, .ref C, .builtin "proto.slot", .builtin "proto.slot#set", rawInt 0], #[]⟩
theorem q_install {C ns : Addr} {oC oC' on : Obj} {cd : ClassData} {l : List (Str × Value)} {iC iN : Nat} {Q : Unit → Heap → Prop} (D : Led h₀ L m h news) (hC : news[iC]? = some (C, oC)) (hN : news[iN]? = some (ns, on)) (N : NsO on l) (hne : iC ≠ iN) (hz : l.length ≤ 100) (hd : oC.data = .cls cd) (eo : lk l "obj" = none)
    (e : oC.mapCls (fun c => { c with hasDict := false, slotNames := ["obj"] }) = oC') (hf : oC'.isFreed = false) (hp : oC'.data.pastItsLine = none)
    (q : ∀ p t on' h', NsO on' (setL l "obj" (.ref p)) → Led h₀ L m h' (((p, dscO C t) :: news.set iN (ns, on')).set (iC + 1) (C, oC')) → L < p → Q () h') :
    wq c A (Builtin.Slots.install (.ref C) ns [.type "object"] { names := ["obj"], dict := false, weak := false, inherited := [] }) Q h := by
  unfold Builtin.Slots.install
  refine wq.bind (q_for1 ?_)
  refine wq.bind (q_get D hN N eo ?_)
  refine wq.yes (by decide) ?_
  refine wq.bind (q_mkStr (by decide +kernel) fun t => ?_)
  refine wq.bind (q_newObj D (by size_fits) rfl fun p h₁ D hp1 => ?_)
  refine wq.bind (q_nsSetBV (i := iN + 1) D hN N (Nat.le_trans hz (by decide)) fun on' h₂ N' D => ?_)
  refine wq.pure ?_
  refine wq.bind (q_eqp (r := false) (by kernel_rfl) ?_)
  refine wq.no (by decide +kernel) ?_
  have D : Led h₀ L m h₂ ((p, dscO C t) :: news.set iN (ns, on')) := D
  refine q_updateCls (i := iC + 1) (o' := oC') D ?hi hd e hf hp fun h₃ D => q p t on' h₃ N' D hp1
  case hi =>
    show (news.set iN (ns, on'))[iC]? = some (C, oC)
    rw [List.getElem?_set_ne (Ne.symm hne)]
    exact hC
theorem q_typeNew {t0 t4 tq : Tok} {bT nsA sl : Addr} {on : Obj} {l : List (Str × Value)} {ib iN is : Nat} {Q : Fin → Heap → Prop}
    (hd : A.depth ≤ 955) (hh : A.handled = none) (hu : A.units + 2 ≤ 9760) (hL : 2 ≤ L) (hop : ∀ C, Looks c.M h₀ (opaqueClassAbove (.ref C)) none) (HV : ∀ h', News h₀ L h' news → ∀ q ∈ l, ValOk h' q.2)
    (D : Led h₀ L m h news) (hb : news[ib]? = some (bT, { cls := .type "tuple", data := .seq #[.type "object"] })) (hN : news[iN]? = some (nsA, on)) (N : NsO on l) (hs : news[is]? = some (sl, W.listOf #[.str "obj" t4] 0)) (hns : L < nsA) (X : ClsL l sl qK tq)
    (q : ∀ C ns p t on' h', NsO on' (setL (setL (delL l "__qualname__") "obj" (.ref p)) "__doc__" .none) → Led h₀ L m h' ((p, dscO C t) :: (C, ⟨.type "type", none, .cls { name := "K", bases := [.type "object"], mro := [.ref C, .type "object"], ns := ns, qualname := qK, hasDict := false, slotNames := ["obj"] }, #[some (.ref bT), none, some (.str "K" t0), some (.str qK tq), some (.builtin "object.__new__"), some (.bool false)]⟩) :: (ns, on') :: news) → L < p → L < C → L < ns → Q (.done (.ret (.ref C))) h') :
    wq c A (Builtin.«type.__new__» ⟨[.type "type", .str "K" t0, .ref bT, .ref nsA], []⟩) Q h := by
  unfold Builtin.«type.__new__»
  refine wq.bind (wq.pure ?_)
  refine wq.bind (wq.of fun tk Q' k => wpAny_isInstance (T := "tuple") (b := true) ⟨_, D.at ib hb, rfl⟩ (by rw [isSubtype_type]; kernel_rfl) (k _ _ _ ?_))
  refine wq.no (by decide) ?_
  refine wq.bind (wq.of fun tk Q' k => wpAny_isInstance (T := "dict") (b := true) ⟨_, D.at iN hN, N.1⟩ (by rw [isSubtype_type]; kernel_rfl) (k _ _ _ ?_))
  refine wq.no (by decide) ?_
  refine wq.bind (wq.of fun tk Q' k => wpAny_seqItems (D.at ib hb) rfl (k _ _ _ ?_))
  refine wq.no (by decide) ?_
  refine wq.bind (q_eqp (r := ()) (by rfl) ?_)
  refine wq.bind (q_eqp (r := Value.type "type") (by kernel_rfl) ?_)
  refine wq.no (by decide) ?_
  refine wq.bind (q_eqp (r := ()) (by kernel_rfl) ?_)
  refine wq.bind (q_eqp (r := Value.type "object") (by kernel_rfl) ?_)
  refine wq.no (by rw [beq_iff_eq]; exact Nat.ne_of_gt (Nat.lt_of_lt_of_le (by decide) (Nat.le_trans hL (Nat.le_of_lt hns)))) ?_
  obtain ⟨hc, hsl, es, ep, hdat, hI⟩ := id N
  refine wq.bind (q_entries (D.at iN hN) hdat ?_)
  refine wq.bind (wq.of fun tk Q' k => wpAny_specialOf (T := "dict") (r := some (.builtin "dict.__iter__")) ⟨_, D.at iN hN, hc⟩ (by rw [typeLookup_type, builtinLookup_eq_fast]; kernel_rfl) (k _ _ _ ?_))
  refine wq.yes (by rw [show (some (Value.builtin "dict.__iter__") == some (Value.builtin "dict.__iter__")) = true from by decide, Bool.or_true]) ?_
  refine wq.bind (wq.pure ?_)
  refine wq.bind (wq.holding (q_slotsRead hd hh (by omega) hI X (D.at is hs) fun h₁ kp => ?_))
  have D := led_grow D kp
  refine wq.bind (q_newObj D ?sz rfl fun ns h₂ D hns2 => ?_)
  case sz =>
    show es.size ≤ sizeLine + 1
    rw [← Array.length_toList, isEs_len hI]
    exact Nat.le_trans X.short (by decide)
  have N₂ : NsO ({ cls := .type "dict", data := .dict es } : Obj) l := ⟨rfl, rfl, es, 0, rfl, hI⟩
  generalize ({ cls := .type "dict", data := .dict es } : Obj) = on₂ at D N₂
  refine wq.no (by show ¬ (!(es.any fun x => x.key.isStr ("__module__" : Str))) = true; rw [isEs_any hI, X.module]; decide) ?_
  refine wq.bind (q_eqp (r := ()) (by kernel_rfl) ?_)
  refine wq.no (by decide +kernel) ?_
  refine wq.bind (q_get (i := 0) D rfl N₂ X.qualname ?_)
  refine wq.bind (q_get (i := 0) D rfl N₂ X.qualname ?_)
  refine wq.bind (wq.pure ?_)
  refine wq.bind (wq.pure ?_)
  refine wq.bind (q_get (i := 0) D rfl N₂ X.doc ?_)
  refine wq.bind (q_alloc D rfl fun C h₃ D hC => ?_)
  refine wq.yes (by decide) ?_
  refine wq.bind (q_setSlot (i := 0) (o' := ⟨.type "type", none, .cls { name := "K", bases := [.type "object"], mro := [], ns := ns, qualname := qK }, #[some (.ref bT)]⟩) D rfl (by decide) rfl rfl fun h₄ D => ?_)
  refine wq.bind (q_setSlot (i := 0) (o' := ⟨.type "type", none, .cls { name := "K", bases := [.type "object"], mro := [], ns := ns, qualname := qK }, #[some (.ref bT), none, some (.str "K" t0)]⟩) D rfl (by decide) rfl rfl fun h₅ D => ?_)
  refine wq.bind (q_setSlot (i := 0) (o' := ⟨.type "type", none, .cls { name := "K", bases := [.type "object"], mro := [], ns := ns, qualname := qK }, #[some (.ref bT), none, some (.str "K" t0), some (.str qK tq)]⟩) D rfl (by decide) rfl rfl fun h₆ D => ?_)
  simp only [List.set_cons_zero] at D
  refine wq.bind (q_nsDel (i := 1) D rfl N₂ (by rw [X.qualname]; rfl) fun on₃ h₇ N₃ D => ?_)
  simp only [List.set_cons_succ, List.set_cons_zero] at D
  refine wq.bind (q_get (i := 1) D rfl N₃ ((lk_del (by decide +kernel)).trans X.new) ?_)
  refine wq.bind (q_for2 (wq.bind (q_get (i := 1) D rfl N₃ ((lk_del (by decide +kernel)).trans X.init) (wq.pure ⟨_, rfl, wq.bind (q_get (i := 1) D rfl N₃ ((lk_del (by decide +kernel)).trans X.item) (wq.pure ?_))⟩))))
  refine wq.bind (q_get (i := 1) D rfl N₃ ((lk_del (by decide +kernel)).trans X.cell) ?_)
  refine wq.bind (q_get (i := 1) D rfl N₃ ((lk_del (by decide +kernel)).trans X.dcell) ?_)
  refine wq.bind (q_eqp (r := none) (by kernel_rfl) ?_)
  refine wq.bind (q_eqp (r := [Value.type "object"]) (by kernel_rfl) ?_)
  refine wq.bind (wq.pure ?_)
  refine wq.bind (q_eqp (r := false) ?del ?_)
  case del =>
    rw [show List.filter (fun x => x != Value.ref C) [Value.ref C, Value.type "object"] = [Value.type "object"] by simp]
    kernel_rfl
  refine wq.bind (q_updateCls (i := 0) (o' := ⟨.type "type", none, .cls { name := "K", bases := [.type "object"], mro := [.ref C, .type "object"], ns := ns, qualname := qK }, #[some (.ref bT), none, some (.str "K" t0), some (.str qK tq)]⟩) D rfl rfl ?e1 rfl ?e2 fun h₈ D => ?_)
  case e1 =>
    show (Obj.mk _ _ (.cls _) _) = _
    rw [show ((fun n => es.any fun x => x.key.isStr n) ("__del__" : Str)) = false from (isEs_any hI _).trans (by rw [X.del]; rfl)]
    rfl
  case e2 => rfl
  refine wq.bind (q_eqp (r := some "object.__new__") (by kernel_rfl) ?_)
  refine wq.bind (q_setSlot (i := 0) (o' := ⟨.type "type", none, .cls { name := "K", bases := [.type "object"], mro := [.ref C, .type "object"], ns := ns, qualname := qK }, #[some (.ref bT), none, some (.str "K" t0), some (.str qK tq), some (.builtin "object.__new__")]⟩) D rfl (by decide) rfl rfl fun h₉ D => ?_)
  simp only [List.set_cons_succ, List.set_cons_zero] at D
  refine wq.bind (q_refresh (D.at 0 rfl) rfl rfl rfl (D.at 1 rfl) N₃ ((lk_del (by decide +kernel)).trans X.new) ?_)
  refine wq.bind (q_install (iC := 0) (iN := 1) (oC' := ⟨.type "type", none, .cls { name := "K", bases := [.type "object"], mro := [.ref C, .type "object"], ns := ns, qualname := qK, hasDict := false, slotNames := ["obj"] }, #[some (.ref bT), none, some (.str "K" t0), some (.str qK tq), some (.builtin "object.__new__")]⟩) D rfl rfl N₃ (by decide) ?len rfl ((lk_del (by decide +kernel)).trans X.obj) rfl rfl rfl fun p t on₄ h₁₀ N₄ D hp => ?_)
  case len => exact Nat.le_trans len_del X.short
  simp only [List.set_cons_succ, List.set_cons_zero] at D
  refine wq.bind (q_eqp (r := false) (by kernel_rfl) ?_)
  refine wq.bind (q_setSlot (i := 1) (o' := ⟨.type "type", none, .cls { name := "K", bases := [.type "object"], mro := [.ref C, .type "object"], ns := ns, qualname := qK, hasDict := false, slotNames := ["obj"] }, #[some (.ref bT), none, some (.str "K" t0), some (.str qK tq), some (.builtin "object.__new__"), some (.bool false)]⟩) D rfl (by decide) rfl rfl fun h₁₁ D => ?_)
  refine wq.no (by decide) ?_
  refine wq.no (by decide) ?_
  simp only [List.set_cons_succ, List.set_cons_zero] at D
  refine wq.bind (q_get (i := 2) D rfl N₄ (lk_set.trans ((if_neg (by decide +kernel)).trans ((lk_del (by decide +kernel)).trans X.doc))) ?_)
  refine wq.yes (by decide) ?_
  refine wq.bind (q_nsSet (i := 2) D rfl N₄ fun on₅ h₁₂ N₅ D => ?_)
  simp only [List.set_cons_succ, List.set_cons_zero] at D
  refine wq.bind (q_get (i := 2) (r := lk l "__eq__") D rfl N₅ (lk_set.trans ((if_neg (by decide +kernel)).trans (lk_set.trans ((if_neg (by decide +kernel)).trans (lk_del (by decide +kernel)))))) ?_)
  refine wq.yes X.eq ?_
  refine wq.bind (q_get (i := 2) (r := lk l "__hash__") D rfl N₅ (lk_set.trans ((if_neg (by decide +kernel)).trans (lk_set.trans ((if_neg (by decide +kernel)).trans (lk_del (by decide +kernel)))))) ?_)
  refine wq.no (by rw [Option.isNone_iff_eq_none]; intro e; have hx := X.hash; rw [e] at hx; cases hx) ?_
  refine wq.bind (q_eqp (r := ()) (by kernel_rfl) ?_)
  refine wq.bind (wq.tryC (wq.holding ?_))
  have ok5 : ∀ q ∈ setL (setL (delL l "__qualname__") "obj" (.ref p)) "__doc__" .none, ValOk h₁₂ q.2 := set_vals (set_vals (del_vals (HV h₁₂ (fun q hq => D.nw q (.tail _ (.tail _ (.tail _ hq)))))) (.inr (.inr (.inr ⟨p, _, _, rfl, D.at 0 rfl, rfl, .inr (.inr (.inr rfl))⟩)))) (.inr (.inr (.inl rfl)))
  obtain ⟨hc5, hsl5, es5, ep5, hd5, hI5⟩ := id N₅
  refine wq.bind (q_entries (D.at 2 rfl) hd5 ?_)
  refine wq.bind (q_forSame ?_ fun e he Q' q' => ?_)
  rotate_left
  · obtain ⟨n, te, hk⟩ := isEs_str hI5 e he
    refine wq.bind ?_
    rw [hk]
    exact wq.pure (wq.no (by simp) (wq.pure q'))
  refine wq.no (by decide) ?_
  refine wq.bind (q_entries (D.at 2 rfl) hd5 ?_)
  refine wq.bind (q_forSame ?_ fun e he Q' q' => ?_)
  rotate_left
  · obtain ⟨n, te, hk⟩ := isEs_str hI5 e he
    have ok := isEs_vals hI5 ok5 e he
    refine wq.no ?_ (wq.bind (vOk_special ok (wq.pure q')))
    rw [hk]
    show ¬ Builtin.heldUnderItsOwnName n e.val = true
    rw [vOk_held ok]; decide
  refine wq.bind (wq.of fun tk Q' k => wpBig hh hd (by omega) (wpAny_mono (superMade c h₁₂ tk C _ _ _ _ _ _ _ _ _ _ _ _ (D.at 1 rfl)) (fun v s' hv => ?_) fun _ _ x => x.elim))
  obtain ⟨so, h₁₃, tk', rfl, rfl, M⟩ := hv
  have kp : Keep h₁₂ h₁₃ := fun b' o' e => M.keep b' o' e (by simp [away])
  have hso := (M.nw _ (.head _)).1
  have D := led_grow D kp
  refine k _ h₁₃ _ ?_
  have hCl := D.at 1 rfl
  refine wq.bind (wq.holding (q_superAttr hso ((hop C).keeps D.fr.keep) (fun A Q E s k q => by
    unfold mroOf classData
    exact wpAny_bind (wpAny_bind (wpAny_load (k _ _ hCl) (wpAny_pure (wpAny_pure q))))) ?_))
  refine wq.of fun tk Q' k => wpBig hh hd (by show A.units + 1 ≤ 9760; omega) (wpAny_mono (classGet c h₁₃ tk C _ _ _ _ _ _ _ _ _ _ _ _ hCl) (fun v s' hv => ?_) fun _ _ x => x.elim)
  obtain ⟨b, h₁₄, tk', rfl, rfl, M⟩ := hv
  have kp : Keep h₁₃ h₁₄ := fun b' o' e => M.keep b' o' e (by simp [away])
  have hb := (M.nw _ (.head _)).1
  have D := led_grow D kp
  refine k _ h₁₄ _ ⟨⟨b, rfl⟩, ?_⟩
  refine wq.bind (wq.of fun tk Q' k => wpBig hh hd (by omega) (wpAny_mono (initSub c h₁₄ tk C b _ _ _ _ _ _ _ _ _ _ (D.at 1 rfl) hb) (fun v s' hv => ?_) fun _ _ x => x.elim))
  obtain ⟨h₁₅, tk', rfl, rfl, M⟩ := hv
  have kp : Keep h₁₄ h₁₅ := fun b' o' e => M.keep b' o' e (by simp [away])
  have D := led_grow D kp
  refine k _ h₁₅ _ ?_
  refine wq.pure ?_
  exact wq.pure (q C ns p t on₅ h₁₅ N₅ D hp hC hns2)
end
end Mine
end
section
open PySem PySem.W PyProof.Rows PySem.Calls PySem.W.X
set_option Elab.async false
set_option maxRecDepth 100000
set_option maxHeartbeats 4000000
set_option linter.unusedVariables false
namespace Mine
theorem hd20' {c : Cx} {mg mb : Str → Option Value} {h : Heap} (G : Gd (K2 c) mg mb h) : CodeHd h 20 16 := ⟨_, _, _, _, _, _, _, _, _, G.X 20 _ rfl, rfl, rfl, rfl, rfl, rfl, rfl, rfl, rfl, by decide⟩
theorem led_start16 {h h₁ : Heap} {L : Addr} {m : Str → Option Value} {td : Array Value} (F : Fr h L h₁ m) (h16 : h.get? 16 = some (tabObj td)) : Led (hideAll h [16]) L m h₁ [(16, tabObj td)] := by
  refine ⟨⟨F.ns, fun b o e => F.keep b o (of_hideAll _ e), Nat.le_trans (Nat.le_of_eq (hideAll_size _ _)) F.above⟩, fun p hp => ?_, by simp⟩
  rw [List.mem_singleton.mp hp]
  exact ⟨F.keep _ _ h16, Nat.ne_of_lt (Nat.lt_of_lt_of_le (Heap.lt_size h16) F.above), hideAll_none _ (.head _)⟩
theorem kp_16 (h : Heap) : Kp h (hideAll h [16]) := fun b o n e => hideAll_get _ e fun q => n (by rw [List.mem_singleton.mp q]; exact m16)
theorem n_object (c : Cx) : nsIn (K2 c) mainGlobals (Str.ofString "object") = some none := by kernel_rfl
theorem b_object : bootBuiltins (Str.ofString "object") = some (.type "object") := by decide +kernel
theorem x_object : Str.ofString "object" ≠ ("__name__" : Str) := by decide +kernel
theorem n_name (c : Cx) : ∃ s t, nsIn (K2 c) mainGlobals (Str.ofString "__name__") = some (some (.str s t)) := ⟨_, _, by rfl⟩
theorem nsIn_of {K : Frag} {ns : Addr} {o : Obj} {l : List (Str × Value)} {x : Str} (e : K.lookup ns = some o) (N : NsO o l) : nsIn K ns x = some (lk l x) := by
  obtain ⟨hc, hs, es, n, hd, hI⟩ := N
  obtain ⟨oc, od, dt, sl⟩ := o
  dsimp only at hd
  subst hd
  unfold nsIn
  rw [e]
  dsimp only
  have e1 := isEs_find x hI
  have hany : es.toList.any (·.refKey) = false := by
    rw [List.any_eq_false]; intro e he; obtain ⟨n, t, h⟩ := isEs_str hI e he; simp [DictEntry.refKey, h]
  cases q : es.toList.find? fun e => e.key.isStr x with
  | none => rw [q] at e1; simp only [hany]; rw [← e1]; rfl
  | some e' => rw [q] at e1; rw [← e1]; rfl
theorem lookup_ord {l l' : List (Addr × Obj)} {a : Addr} {o : Obj} (ord : ((l ++ l').map (·.1)).Pairwise (· > ·)) (hm : (a, o) ∈ l) : List.lookup a l = some o := by
  rw [List.map_append] at ord
  replace ord := (List.pairwise_append.mp ord).1
  clear l'
  induction l with
  | nil => cases hm
  | cons p l ih =>
    obtain ⟨b, ob⟩ := p
    rw [List.lookup_cons]
    rcases List.mem_cons.mp hm with e | hm
    · cases e
      rw [beq_self_eq_true]
    · have : b > a := (List.pairwise_cons.mp ord).1 a (List.mem_map_of_mem (f := (·.1)) hm)
      rw [show (a == b) = false from beq_eq_false_iff_ne.mpr (Nat.ne_of_lt this)]
      exact ih hm (List.pairwise_cons.mp ord).2
theorem ck {c : Cx} {mg mb : Str → Option Value} {A : Around} {h : Heap} (r : Room A 49 147) (G : Gd (K2 c) mg mb h) (B : Bm mg h) (h16 : h.get? 16 = some (tabObj #[])) : wq c A (call (.ref 21) [.ref 91]) (CkPost c h) h := by
  refine q_defC (d := 48) (u := 144) (binds := [(Str.ofString "mycmp", .ref 91)]) r (G.X 21 _ rfl) rfl G.lim ?a ?b ?c ?d ?e ?f ?_
  case a => exact codeRec_of G.X rfl
  case b => exact fun s _ => BindsTo.of_eq rfl
  case d => exact rfl
  case e => exact rfl
  case f => exact rfl
  case c =>
    intro n x hx
    rw [List.mem_singleton.mp hx]
    exact .inr ⟨rfl, rfl⟩
  intro L h₁ F hc r'
  have F' : Fr h L h₁ (lk []) := F
  obtain ⟨o1, eo1, d1⟩ : h₁.IsCell (L + 1) (some (.ref 91)) := hc (Str.ofString "mycmp") (L + 1) rfl
  have hL : 110 < L := Nat.lt_of_lt_of_le (gd_big G) F.above
  have D := led_start16 F' h16
  have D := led_add D eo1 (fun p hp => by
    rw [List.mem_singleton.mp hp]
    exact Nat.lt_trans (Nat.lt_trans (show (16 : Nat) < 110 by decide) hL) (Nat.lt_succ_self L)) (Nat.lt_succ_self L)
  have G₀ : Gd (K2 c) mg mb (hideAll h [16]) := G.kp (kp_16 h)
  have B₀ : Bq mg (hideAll h [16]) := by
    obtain ⟨bm, o, b1, b2, b3, b4, b5⟩ := B.kp (kp_16 h)
    exact ⟨bm, o, b1, b2, b4, b5⟩
  obtain ⟨sN, tN, hnv⟩ := n_name c
  have hn := mg_of G₀.X G₀.g hnv
  refine s_cons ?_
  refine s_Class (mb := mb) rfl (G₀.b.keeps D.fr.keep) G₀.bi rfl ?_
  refine db (.type "object") D G₀ (n_object c) b_object x_object ?_
  refine q_build (j := 1) (cP := 20) (P := 16) (ps := #[]) (clos := [(Str.ofString "mycmp", L + 1)]) D (by have := r.depth; show A.depth + 1 < 955; omega) r'.handled (by have := r.units; show A.units + 3 ≤ 9760; omega) rfl (hd20' G₀) rfl rfl trivial rfl G₀.g B₀ hn G₀.lim rfl rfl rfl rfl rfl rfl rfl rfl rfl rfl (Nat.le_trans (by decide) (Nat.le_of_lt hL)) ?_
  intro bT nsA on P' cc oc T oT fr ofr t0 t1 t2 h₂ N hoc D
  simp only [List.set_cons_succ, List.set_cons_zero] at D
  have hne : cc ≠ P' := Nat.ne_of_gt ((List.pairwise_cons.mp (List.pairwise_cons.mp D.ord).2).1 P' (.head _))
  refine s_cons ?_
  refine sA ?_
  refine q_str fun t3 => ?_
  refine q_storeC (i := 4) D rfl N fun on h₃ N D => ?_
  simp only [List.set_cons_succ, List.set_cons_zero] at D
  have eP : tabObj #[] = tabObj #[] := rfl
  have hT : TriplesOk (#[] : Array Value).toList := trivial
  refine s_cons ?_
  refine sA ?_
  refine q_List ?_
  refine ac ?_
  refine q_str fun t4 => ?_
  refine a_nil ?_
  refine d_newList D (show 1 ≤ sizeLine by decide) fun sl h₄ D => ?_
  refine q_storeC (i := 5) D rfl N fun on h₅ N D => ?_
  simp only [List.set_cons_succ, List.set_cons_zero] at D
  refine s_cons ?_
  refine s_DefC (j := 3) (i := 2) (clos := []) D rfl eP rfl hoc hne rfl rfl G₀.g B₀ hT (by kernel_rfl) rfl (by rfl) rfl rfl rfl fun f0 of0 c0 ct0 doc0 od0 oP ps0 h₆0 ef0 eP ep0 hT D cr0 lc0 lf0 => ?_
  simp only [List.set_cons_succ, List.set_cons_zero] at D
  refine q_storeC (i := 7) D rfl N fun on h₇0 N D => ?_
  simp only [List.set_cons_succ, List.set_cons_zero] at D
  refine s_cons ?_
  refine s_DefC (j := 5) (i := 4) (clos := [(Str.ofString "mycmp", L + 1)]) D rfl eP rfl hoc hne rfl rfl G₀.g B₀ hT (by rw [ep0]; kernel_rfl) rfl (by rfl) rfl rfl rfl fun f1 of1 c1 ct1 doc1 od1 oP ps1 h₆1 ef1 eP ep1 hT D cr1 lc1 lf1 => ?_
  simp only [List.set_cons_succ, List.set_cons_zero] at D
  refine q_storeC (i := 9) D rfl N fun on h₇1 N D => ?_
  simp only [List.set_cons_succ, List.set_cons_zero] at D
  refine s_cons ?_
  refine s_DefC (j := 7) (i := 6) (clos := [(Str.ofString "mycmp", L + 1)]) D rfl eP rfl hoc hne rfl rfl G₀.g B₀ hT (by rw [ep1, ep0]; kernel_rfl) rfl (by rfl) rfl rfl rfl fun f2 of2 c2 ct2 doc2 od2 oP ps2 h₆2 ef2 eP ep2 hT D cr2 lc2 lf2 => ?_
  simp only [List.set_cons_succ, List.set_cons_zero] at D
  refine q_storeC (i := 11) D rfl N fun on h₇2 N D => ?_
  simp only [List.set_cons_succ, List.set_cons_zero] at D
  refine s_cons ?_
  refine s_DefC (j := 9) (i := 8) (clos := [(Str.ofString "mycmp", L + 1)]) D rfl eP rfl hoc hne rfl rfl G₀.g B₀ hT (by rw [ep2, ep1, ep0]; kernel_rfl) rfl (by rfl) rfl rfl rfl fun f3 of3 c3 ct3 doc3 od3 oP ps3 h₆3 ef3 eP ep3 hT D cr3 lc3 lf3 => ?_
  simp only [List.set_cons_succ, List.set_cons_zero] at D
  refine q_storeC (i := 13) D rfl N fun on h₇3 N D => ?_
  simp only [List.set_cons_succ, List.set_cons_zero] at D
  refine s_cons ?_
  refine s_DefC (j := 11) (i := 10) (clos := [(Str.ofString "mycmp", L + 1)]) D rfl eP rfl hoc hne rfl rfl G₀.g B₀ hT (by rw [ep3, ep2, ep1, ep0]; kernel_rfl) rfl (by rfl) rfl rfl rfl fun f4 of4 c4 ct4 doc4 od4 oP ps4 h₆4 ef4 eP ep4 hT D cr4 lc4 lf4 => ?_
  simp only [List.set_cons_succ, List.set_cons_zero] at D
  refine q_storeC (i := 15) D rfl N fun on h₇4 N D => ?_
  simp only [List.set_cons_succ, List.set_cons_zero] at D
  refine s_cons ?_
  refine s_DefC (j := 13) (i := 12) (clos := [(Str.ofString "mycmp", L + 1)]) D rfl eP rfl hoc hne rfl rfl G₀.g B₀ hT (by rw [ep4, ep3, ep2, ep1, ep0]; kernel_rfl) rfl (by rfl) rfl rfl rfl fun f5 of5 c5 ct5 doc5 od5 oP ps5 h₆5 ef5 eP ep5 hT D cr5 lc5 lf5 => ?_
  simp only [List.set_cons_succ, List.set_cons_zero] at D
  refine q_storeC (i := 17) D rfl N fun on h₇5 N D => ?_
  simp only [List.set_cons_succ, List.set_cons_zero] at D
  refine s_cons ?_
  refine sA ?_
  refine q_none ?_
  refine q_storeC (i := 17) D rfl N fun on h₈ N D => ?_
  simp only [List.set_cons_succ, List.set_cons_zero] at D
  refine s_nil ?_
  intro vs
  refine q_newTextTuple D fun tv h₉ D ltv => ?_
  rw [storeC_own rfl rfl (by decide +kernel)]
  refine q_localSet (i := 18) rfl D rfl N fun on h₁₀ N D => ?_
  simp only [List.set_cons_succ, List.set_cons_zero] at D
  have hop : ∀ C, Looks c.M (hideAll h [16]) (opaqueClassAbove (.ref C)) none := fun C => looks_opaque G₀.X (by kernel_rfl)
  have hns : L < nsA := by
    have := (List.pairwise_append.mp (show List.Pairwise (· > ·) (([tv, f5, c5, f4, c4, f3, c3, f2, c2, f1, c1, f0, c0, sl, fr, cc, P', T] ++ [nsA, bT, L + 1, 16]) : List Nat) from D.ord)).2.1
    exact Nat.lt_trans (Nat.lt_succ_self L) ((List.pairwise_cons.mp this).1 (L + 1) (by simp))
  refine c_typeCall (q_typeNew (ib := 19) (iN := 18) (is := 13) (tq := t1) (by have := r.depth; show A.depth + 1 ≤ 955; omega) r'.handled (by have := r.units; show A.units + 3 + 1 + 1 + 2 ≤ 9760; omega) (Nat.le_trans (by decide) (Nat.le_of_lt hL)) hop ?hv D rfl rfl N rfl hns ?hx fun C ns p t on' h₁₁ N' D lp lC lns => ?_)
  case hx => exact ⟨by kernel_rfl, by kernel_rfl, by kernel_rfl, by kernel_rfl, by kernel_rfl, by kernel_rfl, by kernel_rfl, by kernel_rfl, by kernel_rfl, by kernel_rfl, by kernel_rfl, by kernel_rfl, by kernel_rfl, Nat.le_of_ble_eq_true (by kernel_rfl)⟩
  case hv =>
    intro h' N'
    have at' : ∀ (i : Nat) {a : Addr} {o : Obj}, _ = some (a, o) → h'.get? a = some o := fun i {a o} (hm : [(tv, ({ cls := Value.type "tuple", data := Data.seq vs.toArray } : Obj)), (f5, of5), (c5, od5), (f4, of4), (c4, od4), (f3, of3), (c3, od3), (f2, of2), (c2, od2), (f1, of1), (c1, od1), (f0, of0), (c0, od0), (sl, W.listOf #[Value.str (Str.ofString "obj") t4] 0)][i]? = some (a, o)) => (N' (a, o) (List.mem_append_left _ (List.mem_of_getElem? hm))).1
    refine set_vals ?_ (.inr (.inr (.inr ⟨tv, _, _, rfl, at' 0 rfl, rfl, .inr (.inr (.inl rfl))⟩)))
    refine set_vals ?_ (.inr (.inr (.inl rfl)))
    refine set_vals ?_ (.inr (.inr (.inr ⟨f5, of5, _, rfl, at' 1 rfl, by rw [ef5], .inr (.inl rfl)⟩)))
    refine set_vals ?_ (.inr (.inr (.inr ⟨f4, of4, _, rfl, at' 3 rfl, by rw [ef4], .inr (.inl rfl)⟩)))
    refine set_vals ?_ (.inr (.inr (.inr ⟨f3, of3, _, rfl, at' 5 rfl, by rw [ef3], .inr (.inl rfl)⟩)))
    refine set_vals ?_ (.inr (.inr (.inr ⟨f2, of2, _, rfl, at' 7 rfl, by rw [ef2], .inr (.inl rfl)⟩)))
    refine set_vals ?_ (.inr (.inr (.inr ⟨f1, of1, _, rfl, at' 9 rfl, by rw [ef1], .inr (.inl rfl)⟩)))
    refine set_vals ?_ (.inr (.inr (.inr ⟨f0, of0, _, rfl, at' 11 rfl, by rw [ef0], .inr (.inl rfl)⟩)))
    refine set_vals ?_ (.inr (.inr (.inr ⟨sl, _, _, rfl, at' 13 rfl, rfl, .inl rfl⟩)))
    refine set_vals ?_ (.inl ⟨_, _, rfl⟩)
    intro q hq
    simp only [List.mem_cons, List.not_mem_nil, or_false] at hq
    rcases hq with rfl | rfl | rfl
    · exact .inl ⟨_, _, rfl⟩
    · exact .inl ⟨_, _, rfl⟩
    · exact .inr (.inl ⟨_, _, rfl⟩)
  refine ⟨C, _, rfl, D.at 1 rfl, rfl, ?_⟩
  refine ds D fun h₁₂ D => ?_
  refine s_cons ?_
  refine s_Return ?_
  refine dl D ?_
  show CkPost c h (.ref C) h₁₂
  have ord := D.ord
  have inK : ∀ (i : Nat) {a : Addr} {o : Obj}, ([(p, dscO C t), (C, (⟨.type "type", none, .cls { name := "K", bases := [.type "object"], mro := [.ref C, .type "object"], ns := ns, qualname := qK, hasDict := false, slotNames := ["obj"] }, #[some (.ref bT), none, some (.str "K" t0), some (.str qK t1), some (.builtin "object.__new__"), some (.bool false)]⟩ : Obj)), (ns, on'), (tv, { cls := Value.type "tuple", data := Data.seq vs.toArray }), (f5, of5), (c5, od5), (f4, of4), (c4, od4), (f3, of3), (c3, od3), (f2, of2), (c2, od2), (f1, of1), (c1, od1), (f0, of0), (c0, od0), (sl, W.listOf #[Value.str (Str.ofString "obj") t4] 0), (fr, ofr), (cc, oc), (P', oP), (T, oT), (nsA, on), (bT, { cls := Value.type "tuple", data := Data.seq #[Value.type "object"] }), (L + 1, o1)] : List (Addr × Obj))[i]? = some (a, o) → _ := fun i {a o} hi => lookup_ord (l' := [(16, tabObj (#[] ++ #[rawInt ↑4, rawInt ↑4, Value.ref cc]))]) ord (List.mem_of_getElem? hi)
  have e16 : h₁₂.get? 16 = some (tabObj _) := D.at 24 rfl
  refine ⟨[(p, dscO C t), (C, (⟨.type "type", none, .cls { name := "K", bases := [.type "object"], mro := [.ref C, .type "object"], ns := ns, qualname := qK, hasDict := false, slotNames := ["obj"] }, #[some (.ref bT), none, some (.str "K" t0), some (.str qK t1), some (.builtin "object.__new__"), some (.bool false)]⟩ : Obj)), (ns, on'), (tv, { cls := Value.type "tuple", data := Data.seq vs.toArray }), (f5, of5), (c5, od5), (f4, of4), (c4, od4), (f3, of3), (c3, od3), (f2, of2), (c2, od2), (f1, of1), (c1, od1), (f0, of0), (c0, od0), (sl, W.listOf #[Value.str (Str.ofString "obj") t4] 0), (fr, ofr), (cc, oc), (P', oP), (T, oT), (nsA, on), (bT, { cls := Value.type "tuple", data := Data.seq #[Value.type "object"] }), (L + 1, o1)], C, ns, p, L + 1, (fun i => match i with | 0 => f0 | 1 => f1 | 2 => f2 | 3 => f3 | 4 => f4 | _ => f5), (fun i => match i with | 0 => c0 | 1 => c1 | 2 => c2 | 3 => c3 | 4 => c4 | _ => c5), _, rfl, ⟨?cls, ?dict, ?own, ?obj, ?ga, ?gb, ?sa, ?ne, ?desc, ?cell, ?fn, ?code⟩, ?mem, ?ord, ?low, ?ext, e16⟩
  case cls => exact ⟨_, _, _, _, _, _, _, _, inK 1 rfl⟩
  case dict =>
    obtain ⟨hc', hsl', es', ep', hd', hI'⟩ := id N'
    refine ⟨on', es', ep', inK 2 rfl, hd', fun e he => isEs_str hI' e (Array.mem_toList_iff.mpr he), ?_, ?_⟩
    · show (es'.find? _).map _ = _
      rw [← Array.find?_toList]
      exact (isEs_find _ hI').trans (by kernel_rfl)
    · show (es'.find? _).map _ = _
      rw [← Array.find?_toList]
      exact (isEs_find _ hI').trans (by kernel_rfl)
  case own =>
    intro i hi
    rcases i with _ | _ | _ | _ | _ | _ | i
    · exact (nsIn_of (inK 2 rfl) N').trans (congrArg some (by kernel_rfl))
    · exact (nsIn_of (inK 2 rfl) N').trans (congrArg some (by kernel_rfl))
    · exact (nsIn_of (inK 2 rfl) N').trans (congrArg some (by kernel_rfl))
    · exact (nsIn_of (inK 2 rfl) N').trans (congrArg some (by kernel_rfl))
    · exact (nsIn_of (inK 2 rfl) N').trans (congrArg some (by kernel_rfl))
    · exact (nsIn_of (inK 2 rfl) N').trans (congrArg some (by kernel_rfl))
    · omega
  case obj => exact (nsIn_of (inK 2 rfl) N').trans (congrArg some (by kernel_rfl))
  case ga => exact (nsIn_of (inK 2 rfl) N').trans (congrArg some (by kernel_rfl))
  case gb => exact (nsIn_of (inK 2 rfl) N').trans (congrArg some (by kernel_rfl))
  case sa => exact (nsIn_of (inK 2 rfl) N').trans (congrArg some (by kernel_rfl))
  case ne => exact (nsIn_of (inK 2 rfl) N').trans (congrArg some (by kernel_rfl))
  case desc => exact ⟨t, inK 0 rfl⟩
  case cell => exact ⟨o1, inK 23 rfl, d1⟩
  case fn =>
    intro i hi
    rcases i with _ | _ | _ | _ | _ | _ | i
    · exact ⟨doc0, (mg ("__name__" : Str)).getD .none, ct0, (inK 14 rfl).trans (congrArg some (ef0.trans (by kernel_rfl)))⟩
    · exact ⟨doc1, (mg ("__name__" : Str)).getD .none, ct1, (inK 12 rfl).trans (congrArg some (ef1.trans (by kernel_rfl)))⟩
    · exact ⟨doc2, (mg ("__name__" : Str)).getD .none, ct2, (inK 10 rfl).trans (congrArg some (ef2.trans (by kernel_rfl)))⟩
    · exact ⟨doc3, (mg ("__name__" : Str)).getD .none, ct3, (inK 8 rfl).trans (congrArg some (ef3.trans (by kernel_rfl)))⟩
    · exact ⟨doc4, (mg ("__name__" : Str)).getD .none, ct4, (inK 6 rfl).trans (congrArg some (ef4.trans (by kernel_rfl)))⟩
    · exact ⟨doc5, (mg ("__name__" : Str)).getD .none, ct5, (inK 4 rfl).trans (congrArg some (ef5.trans (by kernel_rfl)))⟩
    · omega
  case code =>
    intro i hi
    rcases i with _ | _ | _ | _ | _ | _ | i
    · obtain ⟨vs', tt, e1, e2⟩ := cr0
      exact ⟨od0, vs', tt, inK 15 rfl, e1, e2.trans (congrArg some (congrArg (fun s => Value.str s tt) (by kernel_rfl)))⟩
    · obtain ⟨vs', tt, e1, e2⟩ := cr1
      exact ⟨od1, vs', tt, inK 13 rfl, e1, e2.trans (congrArg some (congrArg (fun s => Value.str s tt) (by kernel_rfl)))⟩
    · obtain ⟨vs', tt, e1, e2⟩ := cr2
      exact ⟨od2, vs', tt, inK 11 rfl, e1, e2.trans (congrArg some (congrArg (fun s => Value.str s tt) (by kernel_rfl)))⟩
    · obtain ⟨vs', tt, e1, e2⟩ := cr3
      exact ⟨od3, vs', tt, inK 9 rfl, e1, e2.trans (congrArg some (congrArg (fun s => Value.str s tt) (by kernel_rfl)))⟩
    · obtain ⟨vs', tt, e1, e2⟩ := cr4
      exact ⟨od4, vs', tt, inK 7 rfl, e1, e2.trans (congrArg some (congrArg (fun s => Value.str s tt) (by kernel_rfl)))⟩
    · obtain ⟨vs', tt, e1, e2⟩ := cr5
      exact ⟨od5, vs', tt, inK 5 rfl, e1, e2.trans (congrArg some (congrArg (fun s => Value.str s tt) (by kernel_rfl)))⟩
    · omega
  case mem => exact fun q hq => (D.nw q (List.mem_append_left [_] hq)).1
  case ord => exact (List.pairwise_append.mp (show List.Pairwise (· > ·) (([p, C, ns, tv, f5, c5, f4, c4, f3, c3, f2, c2, f1, c1, f0, c0, sl, fr, cc, P', T, nsA, bT, L + 1] ++ [16]) : List Nat) from ord)).1
  case low =>
    intro q hq
    have hlast : ∀ x ∈ ([p, C, ns, tv, f5, c5, f4, c4, f3, c3, f2, c2, f1, c1, f0, c0, sl, fr, cc, P', T, nsA, bT] : List Nat), x > L + 1 := fun x hx => (List.pairwise_append.mp (show List.Pairwise (· > ·) (([p, C, ns, tv, f5, c5, f4, c4, f3, c3, f2, c2, f1, c1, f0, c0, sl, fr, cc, P', T, nsA, bT] ++ [L + 1, 16]) : List Nat) from ord)).2.2 x hx (L + 1) (.head _)
    have hq1 : q.1 ∈ ([p, C, ns, tv, f5, c5, f4, c4, f3, c3, f2, c2, f1, c1, f0, c0, sl, fr, cc, P', T, nsA, bT] ++ [L + 1] : List Nat) := List.mem_map_of_mem (f := (·.1)) hq
    have hLL : h.objs.size ≤ L := F.above
    rcases List.mem_append.mp hq1 with h1 | h1
    · exact Nat.le_trans hLL (Nat.le_of_lt (Nat.lt_trans (Nat.lt_succ_self L) (hlast _ h1)))
    · rw [List.mem_singleton.mp h1]; exact Nat.le_trans hLL (Nat.le_succ L)
  case ext => exact fun b ob hb e => D.fr.keep b ob (hideAll_get _ e fun q => hb (List.mem_singleton.mp q))
end Mine
end
open PySem PySem.W PyProof.Rows PySem.Calls PySem.W.X
set_option Elab.async false
set_option maxRecDepth 100000
set_option maxHeartbeats 4000000
theorem PySem.Challenge.cw_mr0176_02_holds : PySem.Challenge.rw_mr0176_02.Holds := by
  exact Mine.J fun c mg mb A h' r G B h16 => Mine.ck r G B h16
