import PyProof.Rows.All
import Wide.All
import OpenK.AllK
import Wide.FinOn
import KE.KNest
import KE.KLam
import KE.KSuperObj
import PySem.Challenge.RW_mr0176_01
section
open PySem PySem.W PyProof.Rows
set_option Elab.async false
set_option maxRecDepth 100000
set_option maxHeartbeats 8000000
namespace Mine
open_top hd for PySem.Challenge.rw_mr0176_01
end Mine
end
section
open PySem PySem.W PyProof.Rows PySem.Calls
set_option Elab.async false
set_option maxRecDepth 100000
set_option linter.unusedVariables false
namespace Mine

/-- what stays the same through a whole run: the program, the world, the generators, what was drawn, the outside -/
structure Cx where
  prog : Program
  w : World
  g : Array GenState
  d : Drawn
  os : OsState
noncomputable abbrev Cx.st (c : Cx) (h : Heap) (t : Nat) : Shared := ⟨h, c.g, c.d, t, c.os⟩
noncomputable abbrev Cx.M (c : Cx) : Model := model c.prog c.w
/-- the tree ends in Q of its value and the heap; nothing is raised; the tokens don't matter -/
noncomputable def wq {α : Type} (c : Cx) (A : Around) (t : Sem α) (Q : α → Heap → Prop) (h : Heap) : Prop :=
  ∀ tk, wpAny c.M A t (fun v s' => ∃ h' tk', s' = c.st h' tk' ∧ Q v h') (fun _ _ => False) (c.st h tk)

noncomputable def Keep (h h' : Heap) : Prop := ∀ b o, h.get? b = some o → h'.get? b = some o
theorem Keep.refl (h : Heap) : Keep h h := fun _ _ e => e
theorem Keep.trans {a b c : Heap} (x : Keep a b) (y : Keep b c) : Keep a c := fun _ _ e => y _ _ (x _ _ e)

theorem n_zero {n i : Nat} (h : 0 = n - i) (h2 : i ≤ n) : i = n := Nat.le_antisymm h2 (Nat.sub_eq_zero_iff_le.mp h.symm)
theorem n_lt {k n i : Nat} (h : k + 1 = n - i) : i < n := Nat.lt_of_sub_pos (h ▸ Nat.succ_pos k)
theorem n_next {k n i : Nat} (h : k + 1 = n - i) : k = n - (i + 1) := by rw [Nat.sub_add_eq, ← h]; rfl
theorem n_pos {k n i : Nat} {m : Int} (h : k + 1 = n - i) (hm : m = (n - i : Nat)) : 0 < m := by rw [hm, ← h]; exact Int.natCast_pos.mpr (Nat.succ_pos k)
theorem n_none {n : Nat} {m : Int} (hm : m = (n - n : Nat)) : m ≤ 0 := by rw [hm, Nat.sub_self]; exact Int.le_refl 0
theorem n_less {k n i : Nat} {m : Int} (h : k + 1 = n - i) (hm : m = (n - i : Nat)) : m - 1 = ((n - (i + 1) : Nat) : Int) := by
  rw [hm, ← h, ← n_next h]
  exact Int.add_sub_cancel (k : Int) 1
section core
variable {α β : Type} {c : Cx} {A : Around} {h : Heap}
theorem wq.of {t : Sem α} {Q : α → Heap → Prop}
    (H : ∀ tk (Q' : α → Shared → Prop), (∀ v h' tk', Q v h' → Q' v (c.st h' tk')) → wpAny c.M A t Q' (fun _ _ => False) (c.st h tk)) : wq c A t Q h :=
  fun tk => H tk _ fun v h' tk' q => ⟨h', tk', rfl, q⟩
theorem wq.go {t : Sem α} {Q : α → Heap → Prop} (H : wq c A t Q h) {Q' : α → Shared → Prop} {E : Value → Shared → Prop} {tk : Nat} (k : ∀ v h' tk', Q v h' → Q' v (c.st h' tk')) :
    wpAny c.M A t Q' E (c.st h tk) := wpAny_mono (H tk) (fun v s' ⟨h', tk', e, q⟩ => e ▸ k v h' tk' q) fun _ _ x => x.elim
theorem wq.mono {t : Sem α} {Q Q' : α → Heap → Prop} (H : wq c A t Q h) (k : ∀ v h', Q v h' → Q' v h') : wq c A t Q' h :=
  fun tk => H.go fun v h' tk' q => ⟨h', tk', rfl, k v h' q⟩
/-- the answer's law, held by a name -/
theorem wq.gen {t : Sem α} {Q : α → Heap → Prop} (H : ∀ Q' : α → Heap → Prop, (∀ v h', Q v h' → Q' v h') → wq c A t Q' h) : wq c A t Q h := H Q fun _ _ x => x
theorem wq.pure {a : α} {Q : α → Heap → Prop} (q : Q a h) : wq c A (pure a) Q h := wq.of fun _ _ k => wpAny_pure (k _ _ _ q)
theorem wq.bind {m : Sem α} {f : α → Sem β} {Q : β → Heap → Prop} (H : wq c A m (fun a h' => wq c A (f a) Q h') h) : wq c A (m >>= f) Q h :=
  wq.of fun _ _ k => wpAny_bind (H.go fun _ _ _ H' => H'.go k)
theorem wq.holding {vs : List Value} {m : Sem α} {Q : α → Heap → Prop} (H : wq c A m Q h) : wq c A (holding vs m) Q h :=
  wq.of fun _ _ k => wpAny_holding (H.go k)
theorem wq.standAt {p : Pos} {Q : Unit → Heap → Prop} (q : Q () h) : wq c A (standAt p) Q h := wq.of fun _ _ k => wpAny_standAt (k _ _ _ q)
theorem wq.rule {tag : String} {Q : Unit → Heap → Prop} (q : Q () h) : wq c A (rule tag) Q h := wq.of fun _ _ k => wpAny_rule (k _ _ _ q)
theorem wq.load {a : Addr} {o : Obj} {Q : Obj → Heap → Prop} (ho : h.get? a = some o) (q : Q o h) : wq c A (load a) Q h := wq.of fun _ _ k => wpAny_load ho (k _ _ _ q)
end core

/-- a frame's names, as a list -/
noncomputable abbrev lk (l : List (Str × Value)) : Str → Option Value := fun y => l.lookup y
theorem lk_cons (x : Str) (v : Value) (l : List (Str × Value)) : (fun y => if y = x then some v else lk l y) = lk ((x, v) :: l) := by
  funext y
  show _ = List.lookup y ((x, v) :: l)
  rw [List.lookup_cons]
  by_cases e : y = x
  · subst e; simp
  · have : (y == x) = false := by simp [e]
    rw [this, if_neg e]

section exprs
variable {c : Cx} {A : Around} {h h₀ : Heap} {L a : Addr} {cn : Str} {cs : Scope} {ccd : Value} {cl : List (Str × Addr)} {l : List (Str × Value)} {m : Str → Option Value} {x : Str} {pos : Pos} {v : Value} {Q : Value → Heap → Prop} {env : Env}

theorem q_local (F : Fr h₀ L h (lk l)) (hv : lk l x = some v) (hk : cs.kind = .function) (hx : (envX cn cs L a ccd cl).kindOf x = some .local) (hd : (x == ("__debug__" : Str)) = false) (q : Q v h) :
    wq c A (eval (.Name x pos) (envX cn cs L a ccd cl)) Q h := wq.of fun _ _ k => nameX_L F hv (k _ _ _ q) hk hx hd
theorem q_int {i : Int} {k : Nat} (q : ∀ t, Q (.int i t) h) : wq c A (eval (.Constant (.int i) k pos) env) Q h := wq.of fun _ _ k => wpAny_Constant_int (k _ _ _ (q _))
theorem q_str {s : Str} {k : Nat} (q : ∀ t, Q (.str s t) h) : wq c A (eval (.Constant (.str s) k pos) env) Q h := wq.of fun _ _ k => Constant_str (k _ _ _ (q _))
theorem q_bool {b : Bool} {k : Nat} (q : Q (.bool b) h) : wq c A (eval (.Constant (.bool b) k pos) env) Q h := wq.of fun _ _ k => Constant_bool (k _ _ _ q)
theorem q_BinOp {l r : Expr} {op : Operator} (H : wq c A (eval l env) (fun a h₁ => wq c A (eval r env) (fun b h₂ => wq c A (binaryOp op a b) Q h₂) h₁) h) :
    wq c A (eval (.BinOp l op r pos) env) Q h := wq.of fun _ _ k => wpAny_BinOp (H.go fun _ _ _ H₁ => H₁.go fun _ _ _ H₂ => H₂.go k)
theorem q_Compare {l r : Expr} {op : CmpOp} (hm : behindInMarks op r = false) (H : wq c A (eval l env) (fun a h₁ => wq c A (eval r env) (fun b h₂ => wq c A (compareOp op a b) Q h₂) h₁) h) :
    wq c A (eval (.Compare l [op] [r] pos) env) Q h := wq.of fun _ _ k => wpAny_Compare1 (H.go fun _ _ _ H₁ => H₁.go fun _ _ _ H₂ => H₂.go k) hm
theorem q_UnaryOp {op : UnaryOp} {e : Expr} (H : wq c A (eval e env) (fun v h₁ => wq c A (unaryOp op v) Q h₁) h) : wq c A (eval (.UnaryOp op e pos) env) Q h :=
  wq.of fun _ _ k => UnaryOp_ (H.go fun _ _ _ H₁ => H₁.go k)
theorem q_IfExp {t b o : Expr} (H : wq c A (isTrue t env (eval t env)) (fun z h₁ => if z = true then wq c A (eval b env) Q h₁ else wq c A (eval o env) Q h₁) h) : wq c A (eval (.IfExp t b o pos) env) Q h :=
  wq.of fun _ _ k => IfExp_ (H.go fun z _ _ H₁ => by cases z <;> exact H₁.go k)
end exprs

section ops
variable {c : Cx} {A : Around} {h : Heap} {Q : Value → Heap → Prop} {a b : Int} {t u : Tok}
theorem q_add (q : ∀ t, Q (.int (a + b) t) h) : wq c A (binaryOp .Add (.int a t) (.int b u)) Q h := wq.of fun _ _ k => add_int (k _ _ _ (q _))
theorem q_sub (q : ∀ t, Q (.int (a - b) t) h) : wq c A (binaryOp .Sub (.int a t) (.int b u)) Q h := wq.of fun _ _ k => sub_int' (k _ _ _ (q _))
theorem q_mul (hm : IntMulOk a b) (q : ∀ t, Q (.int (a * b) t) h) : wq c A (binaryOp .Mult (.int a t) (.int b u)) Q h := wq.of fun _ _ k => mul_int (k _ _ _ (q _)) hm
theorem noPy {x y : Int} (h0 : 0 < y) (h : y < 18446744073709551616) : Builtin.divisionGoesByPylong x y = false := by
  refine PyProof.noPylong_of_log2 (Nat.lt_trans ((Nat.log2_lt (by omega)).mpr ?_) (by decide : 64 < 9000))
  omega
theorem q_div (hb : 0 < b) (hb' : b < 18446744073709551616) (q : ∀ t, Q (.int (a / b) t) h) : wq c A (binaryOp .FloorDiv (.int a t) (.int b u)) Q h :=
  wq.of fun _ _ k => floordiv_int (Int.ne_of_gt hb) (k _ _ _ (by rw [Int.fdiv_eq_ediv_of_nonneg _ (Int.le_of_lt hb)]; exact q _)) (.inl (noPy hb hb'))
theorem q_mod (hb : 0 < b) (hb' : b < 18446744073709551616) (q : ∀ t, Q (.int (a % b) t) h) : wq c A (binaryOp .Mod (.int a t) (.int b u)) Q h :=
  wq.of fun _ _ k => mod_int' (Int.ne_of_gt hb) (k _ _ _ (by rw [Int.fmod_eq_emod_of_nonneg _ (Int.le_of_lt hb)]; exact q _))
theorem q_and (q : ∀ t, Q (.int (Builtin.bitAnd a b) t) h) : wq c A (binaryOp .BitAnd (.int a t) (.int b u)) Q h := wq.of fun _ _ k => and_int (k _ _ _ (q _))
theorem q_xor (q : ∀ t, Q (.int (Builtin.bitXor a b) t) h) : wq c A (binaryOp .BitXor (.int a t) (.int b u)) Q h := wq.of fun _ _ k => xor_int (k _ _ _ (q _))
theorem q_pow (hn : 0 ≤ b) (hz : (Builtin.Int.intBits a : Int) * b ≤ 2 ^ 27) (q : ∀ t, Q (.int (a ^ b.toNat) t) h) : wq c A (binaryOp .Pow (.int a t) (.int b u)) Q h := wq.of fun _ _ k => pow_int hn hz (k _ _ _ (q _))
theorem q_eq (q : Q (.bool (a == b)) h) : wq c A (compareOp .Eq (.int a t) (.int b u)) Q h := wq.of fun _ _ k => eq_int (k _ _ _ q)
theorem q_ne (q : Q (.bool (a != b)) h) : wq c A (compareOp .NotEq (.int a t) (.int b u)) Q h := wq.of fun _ _ k => ne_int (k _ _ _ q)
theorem q_lt (q : Q (.bool (decide (a < b))) h) : wq c A (compareOp .Lt (.int a t) (.int b u)) Q h := wq.of fun _ _ k => lt_int (k _ _ _ q)
theorem q_gt (q : Q (.bool (decide (b < a))) h) : wq c A (compareOp .Gt (.int a t) (.int b u)) Q h := wq.of fun _ _ k => gt_int (k _ _ _ q)
theorem q_neg (q : ∀ t, Q (.int (-a) t) h) : wq c A (unaryOp .USub (.int a t)) Q h := wq.of fun _ _ k => neg_int (k _ _ _ (q _))
end ops

section tests
variable {c : Cx} {A : Around} {h : Heap} {env : Env} {pos : Pos} {Q : Bool → Heap → Prop} {whole : Sem Value}
theorem t_Compare {l r : Expr} {op : CmpOp} (hm : behindInMarks op r = false)
    (H : wq c A (eval l env) (fun a h₁ => wq c A (eval r env) (fun b h₂ => wq c A (compareOp op a b) (fun z h₃ => wq c A (truthy z) Q h₃) h₂) h₁) h) :
    wq c A (isTrue (.Compare l [op] [r] pos) env whole) Q h := wq.of fun _ _ k => wpAny_isTrue_Compare1 (H.go fun _ _ _ H₁ => H₁.go fun _ _ _ H₂ => H₂.go fun _ _ _ H₃ => H₃.go k) hm
theorem t_bool {b : Bool} (q : Q b h) : wq c A (truthy (.bool b)) Q h := wq.of fun _ _ k => wpAny_truthy_bool (k _ _ _ q)
end tests

section stmts
variable {c : Cx} {A : Around} {h h₀ : Heap} {env : Env} {pos : Pos} {Q : Flow → Heap → Prop} {L a : Addr} {cn : Str} {cs : Scope} {ccd : Value} {cl : List (Str × Addr)} {l : List (Str × Value)} {news : List (Addr × Obj)}
theorem s_nil (q : Q .next h) : wq c A (execs [] env) Q h := wq.of fun _ _ k => wpAny_execs_nil (k _ _ _ q)
theorem s_cons {s : Stmt} {rest : List Stmt} (H : wq c A (exec s env) (fun f h₁ => match f with | .next => wq c A (execs rest env) Q h₁ | f => Q f h₁) h) : wq c A (execs (s :: rest) env) Q h :=
  wq.of fun _ _ k => wpAny_execs_cons (H.go fun f _ _ H₁ => by cases f <;> first | exact H₁.go k | exact k _ _ _ H₁)
theorem s_Assign {x : Str} {p' : Pos} {e : Expr} (hs : swapsWith e (some (.Name x p')) pos.line env = pure false)
    (H : wq c A (eval e env) (fun v h₁ => wq c A (storeName env x v) (fun _ h₂ => Q .next h₂) h₁) h) : wq c A (exec (.Assign [.Name x p'] e pos) env) Q h :=
  wq.of fun _ _ k => wpAny_Assign_Name (H.go fun _ _ _ H₁ => H₁.go fun _ _ _ q => k _ _ _ q) hs
theorem s_store {x : Str} {v : Value} {Q : Unit → Heap → Prop} (F : Fr h₀ L h (lk l)) (N : News h₀ L h news) (hk : cs.kind = .function) (hx : (envX cn cs L a ccd cl).kindOf x = some .local)
    (q : ∀ h', Fr h₀ L h' (lk ((x, v) :: l)) → News h₀ L h' news → Q () h') : wq c A (storeName (envX cn cs L a ccd cl) x v) Q h :=
  wq.of fun _ _ k => storeX_L F N (fun h' F' N' => k _ _ _ (q h' (lk_cons x v l ▸ F') N')) hk hx
theorem s_Return {e : Expr} (H : wq c A (eval e env) (fun v h₁ => Q (.ret v) h₁) h) : wq c A (exec (.Return (some e) pos) env) Q h := wq.of fun _ _ k => wpAny_Return_some (H.go fun _ _ _ q => k _ _ _ q)
theorem s_If {t : Expr} {b o : List Stmt} (H : wq c A (isTrue t env (eval t env)) (fun z h₁ => if z = true then wq c A (execs b env) Q h₁ else wq c A (execs o env) Q h₁) h) : wq c A (exec (.If t b o pos) env) Q h :=
  wq.of fun _ _ k => wpAny_If (H.go fun z _ _ H₁ => by cases z <;> exact H₁.go k)
theorem s_Break (q : Q .brk h) : wq c A (exec (.Break pos) env) Q h := wq.of fun _ _ k => by
  rw [arm_exec_Break]; exact wpAny_bind (wpAny_standAt (wpAny_pure (k _ _ _ q)))
end stmts

/-- room for d more frames and u more units -/
structure Room (A : Around) (d u : Nat) : Prop where
  handled : A.handled = none
  depth : A.depth + d < 1000
  units : A.units + u < 9900
theorem Room.deeper {A : Around} {d u : Nat} {env : Env} (r : Room A (d + 1) (u + 3)) : Room (A.deeper env) d u := ⟨r.handled, by have := r.depth; show A.depth + 1 + d < 1000; omega, by have := r.units; show A.units + 3 + u < 9900; omega⟩
theorem Room.in1 {A : Around} {d u : Nat} (r : Room A d (u + 1)) : Room A.in1 d u := ⟨r.handled, r.depth, by have := r.units; show A.units + 1 + u < 9900; omega⟩
theorem Room.le {A : Around} {d u d' u' : Nat} (r : Room A d u) (hd : d' ≤ d) (hu : u' ≤ u) : Room A d' u' := ⟨r.handled, by have := r.depth; omega, by have := r.units; omega⟩
theorem Room.ok {A : Around} {d u : Nat} (r : Room A d u) : A.depth < recursionLimit := by have := r.depth; show A.depth < 1000; omega
theorem Room.cl {A : Around} {d u : Nat} (r : Room A d u) : A.units < cLine := by have := r.units; show A.units < 9900; omega
end Mine
end
section
open PySem PySem.W PyProof.Rows PySem.Calls
set_option Elab.async false
set_option maxRecDepth 100000
set_option linter.unusedVariables false
namespace Mine

/-- what every heap of the run holds: the written part, the module's names, the built-ins -/
structure Gd (K : Frag) (mg mb : Str → Option Value) (h : Heap) : Prop where
  X : K.In h
  g : h.Ns mainGlobals mg
  b : h.Ns builtinsNs mb
  bi : ∀ x : Str, x ≠ "__name__" → mb x = bootBuiltins x
  lim : h.NoLimit
theorem Gd.keeps {K : Frag} {mg mb : Str → Option Value} {h h' : Heap} (G : Gd K mg mb h) (k : Keep h h') : Gd K mg mb h' :=
  ⟨G.X.keeps k, G.g.keeps k, G.b.keeps k, G.bi, G.lim.keeps k⟩

section names
variable {c : Cx} {A : Around} {h h₀ : Heap} {L a : Addr} {cn : Str} {cs : Scope} {ccd : Value} {cl : List (Str × Addr)} {x : Str} {pos : Pos} {v : Value} {Q : Value → Heap → Prop} {K : Frag} {mg mb : Str → Option Value}
theorem q_global (G : Gd K mg mb h) (e : nsIn K mainGlobals x = some (some v)) (hk : cs.kind = .function) (hx : (envX cn cs L a ccd cl).kindOf x = some .globalImplicit) (hd : (x == ("__debug__" : Str)) = false) (q : Q v h) :
    wq c A (eval (.Name x pos) (envX cn cs L a ccd cl)) Q h :=
  wq.of fun _ _ k => Name_function_global hk hx (loadGlobal_global (env := envX cn cs L a ccd cl) G.g (mg_of G.X G.g e) (k _ _ _ q)) hd
theorem q_builtin (G : Gd K mg mb h) (e : nsIn K mainGlobals x = some none) (hv : bootBuiltins x = some v) (hn : x ≠ "__name__") (hk : cs.kind = .function) (hx : (envX cn cs L a ccd cl).kindOf x = some .globalImplicit) (hd : (x == ("__debug__" : Str)) = false) (q : Q v h) :
    wq c A (eval (.Name x pos) (envX cn cs L a ccd cl)) Q h :=
  wq.of fun _ _ k => Name_function_global hk hx (loadGlobal_builtin (env := envX cn cs L a ccd cl) G.g (mg_none_of G.X G.g e) G.b ((G.bi x hn).trans hv) (k _ _ _ q)) hd
theorem q_free {cA : Addr} {o : Obj} (hc : cl.lookup x = some cA) (ho : h.get? cA = some o) (hd : o.data = .cell (some v)) (hk : cs.kind = .function) (hx : (envX cn cs L a ccd cl).kindOf x = some .free)
    (hb : (x == ("__debug__" : Str)) = false) (hn : (x == ("__classdict__" : Str)) = false) (q : Q v h) : wq c A (eval (.Name x pos) (envX cn cs L a ccd cl)) Q h :=
  wq.of fun _ _ k => wpAny_Name (wpAny_loadName_free hk hx hc ⟨o, ho, hd⟩ (k _ _ _ q) hn) hb
theorem q_cell {cA : Addr} {o : Obj} (hc : cl.lookup x = some cA) (ho : h.get? cA = some o) (hd : o.data = .cell (some v)) (hk : cs.kind = .function) (hx : (envX cn cs L a ccd cl).kindOf x = some .cell)
    (hb : (x == ("__debug__" : Str)) = false) (q : Q v h) : wq c A (eval (.Name x pos) (envX cn cs L a ccd cl)) Q h :=
  wq.of fun _ _ k => wpAny_Name (wpAny_loadName_cell hk hx hc ⟨o, ho, hd⟩ (k _ _ _ q)) hb
end names

section calls
variable {c : Cx} {A : Around} {h h₀ : Heap} {env : Env} {pos p : Pos} {Q : Value → Heap → Prop}
theorem a_nil {Q : List Value → Heap → Prop} (q : Q [] h) : wq c A (spliced (backTo pos (starEach [] env))) Q h := wq.of fun _ _ k => spliced_nil (k _ _ _ q)
theorem a_cons {e : Expr} {rest : List Expr} {Q : List Value → Heap → Prop} (he : starEach (e :: rest) env = (false, eval e env) :: starEach rest env)
    (H : wq c A (eval e env) (fun v h₁ => wq c A (spliced (backTo pos (starEach rest env))) (fun vs h₂ => Q (v :: vs) h₂) h₁) h) : wq c A (spliced (backTo pos (starEach (e :: rest) env))) Q h :=
  wq.of fun _ _ k => by
    rw [he]
    exact spliced_cons (H.go fun _ _ _ H₁ => H₁.go fun _ _ _ q => k _ _ _ q)
theorem q_CallN {f : Str} {args : List Expr} (H : wq c A (eval (.Name f p) env) (fun fv h₁ => wq c A (callWith pos fv [] (backTo pos (starEach args env)) []) Q h₁) h) :
    wq c A (eval (.Call (.Name f p) args [] pos) env) Q h :=
  wq.of fun _ _ k => wpAny_Call_Name_kw (H.go fun _ _ _ H₁ => H₁.go k)
noncomputable def plainKeeper : Keeper → Prop
  | .frame | .machine | .boundFrame => True
  | .caller => False
theorem callWith_go {f : Value} {first : List Value} {args : List Expr} (hpl : (backTo pos (starEach args env)).any (·.1) = false) (hev : wq c A (evalArgs f true (backTo pos (starEach args env)) []) (fun a h₁ => (∃ k, plainKeeper k ∧ Looks c.M h₁ (keeperOf f) k) ∧ wq c A (call f (first ++ a.pos) a.kw) Q h₁) h) :
    wq c A (callWith pos f first (backTo pos (starEach args env)) []) Q h := wq.of fun tk Q' k =>
  callWith_of (P := fun h₁ => ∃ k, plainKeeper k ∧ Looks c.M h₁ (keeperOf f) k) (by simp [hpl]) (fun h₁ ⟨kk, hp, L⟩ => ⟨kk, by cases kk <;> simp_all [plainKeeper], L⟩)
    (hev.go fun a h₁ tk₁ H => ⟨H.1, H.2.go k⟩)
theorem q_callWith {f : Value} {first : List Value} {e : Expr} {rest : List Expr} (he : starEach (e :: rest) env = (false, eval e env) :: starEach rest env) (hpl : (backTo pos (starEach (e :: rest) env)).any (·.1) = false)
    (H : wq c A (spliced (backTo pos (starEach (e :: rest) env))) (fun vs h₁ => (∃ k, plainKeeper k ∧ Looks c.M h₁ (keeperOf f) k) ∧ wq c A (call f (first ++ vs)) Q h₁) h) :
    wq c A (callWith pos f first (backTo pos (starEach (e :: rest) env)) []) Q h := by
  refine callWith_go hpl (wq.of fun tk Q' k => ?_)
  have H' := H
  rw [he] at H' ⊢
  exact evalArgs_plain (H'.go fun vs h₁ tk₁ q => k _ _ _ q)
theorem kp_fn {a : Addr} {o : Obj} {fd : FuncData} (ho : h.get? a = some o) (hd : o.data = .func fd) : ∃ k, plainKeeper k ∧ Looks c.M h (keeperOf (.ref a)) k :=
  ⟨.frame, trivial, (Looks.ld (part := none) ho).andThen (by rw [hd]; exact .now)⟩
theorem kp_type {n : String} : ∃ k, plainKeeper k ∧ Looks c.M h (keeperOf (.type n)) k := ⟨.machine, trivial, .now⟩
theorem kp_bi {n : String} : ∃ k, plainKeeper k ∧ Looks c.M h (keeperOf (.builtin n)) k := ⟨.machine, trivial, .now⟩
end calls

/-- a frame's names, by the frame -/
noncomputable abbrev fEnv (qual : Str) (scope : Scope) (f : Addr) (cdv : Value) (cl : List (Str × Addr)) (L : Addr) : Env := envX qual scope L f cdv cl
section entry
variable {c : Cx} {A : Around} {h : Heap} {f : Addr} {vs : List Value} {Q : Value → Heap → Prop} {o : Obj} {name qual : Str} {params : Arguments} {body : List Stmt} {scope : Scope} {cl : List (Str × Addr)} {dV kV doc pm cdv ct : Value} {an : Option Addr} {binds : List (Str × Value)} {d u : Nat}
theorem q_def (r : Room A (d + 1) (u + 3)) (ho : h.get? f = some o) (hd : o.data = .func (fnX name qual params body scope cl dV kV doc pm an cdv ct)) (hlim : h.NoLimit) (hcd : h.CodeRec cdv qual)
    (hb : ∀ s : Shared, s.heap = h → BindsTo s (fnX name qual params body scope cl dV kV doc pm an cdv ct) ⟨vs, []⟩ binds)
    (hcell : ∀ x ∈ scope.names, x.2 ≠ .cell) (hloc : ∀ x ∈ binds, scope.names.lookup x.1 = some .local)
    (hco : scope.isCoroutine = false) (hgen : scope.isGenerator = false) (hk : scope.kind = .function)
    (H : ∀ L h₁, Fr h L h₁ (lk binds.reverse) → News h L h₁ [] → Room (A.deeper (fEnv qual scope f cdv cl L)) d u →
      wq c (A.deeper (fEnv qual scope f cdv cl L)) (execs body (fEnv qual scope f cdv cl L)) (fun fl h' => Q (match fl with | .ret v => v | _ => .none) h') h₁) :
    wq c A (call (.ref f) vs) Q h := wq.of fun tk Q' k =>
  wpAny_call (codeAny_call_def (fd := fnX name qual params body scope cl dV kV doc pm an cdv ct) (body := body) (binds := binds) r.ok ho hd hlim hcd rfl (hb _ rfl) hcell hloc
    (fun h₁ hns hkp => wpAny_mono ((H h.objs.size h₁ ⟨hns, hkp, Nat.le_refl _⟩ News.nil r.deeper).go (E := fun _ _ => False) fun v h' tk' q => k _ _ _ q) (fun _ _ x => x) fun _ _ x => x.elim) hco hgen hk)
end entry
end Mine
end
section
open PySem PySem.W PyProof.Rows PySem.Calls PySem.W.X
set_option Elab.async false
set_option maxRecDepth 100000
set_option linter.unusedVariables false
namespace Mine

section led
variable {h h' h₀ : Heap} {L a : Addr} {m : Str → Option Value} {news : List (Addr × Obj)} {o o' : Obj} {i : Nat}
theorem led_start {h₁ : Heap} (F : Fr h L h₁ m) : Led h L m h₁ [] := ⟨F, News.nil, List.Pairwise.nil⟩
theorem led_put (D : Led h₀ L m h news) (hi : news[i]? = some (a, o)) (hs : Heap.SameBut a h h') (ho' : h'.get? a = some o') : Led h₀ L m h' (news.set i (a, o')) := by
  have sp := pairwise_split hi
  have z := D.nw (a, o) (List.mem_of_getElem? hi)
  have ord' := D.ord
  rw [sp, List.map_append, List.map_cons] at ord'
  have p1 : ∀ p ∈ news.take i, p.1 ≠ a := fun p hp => Nat.ne_of_gt ((List.pairwise_append.mp ord').2.2 p.1 (List.mem_map_of_mem hp) a (.head _))
  have p2 : ∀ p ∈ news.drop (i + 1), p.1 ≠ a := fun p hp => Nat.ne_of_lt ((List.pairwise_cons.mp (List.pairwise_append.mp ord').2.1).1 p.1 (List.mem_map_of_mem hp))
  have N := D.nw
  rw [sp] at N
  have e : news.set i (a, o') = news.take i ++ (a, o') :: news.drop (i + 1) := by
    obtain ⟨hl, _⟩ := List.getElem?_eq_some_iff.mp hi
    exact List.set_eq_take_append_cons_drop.trans (if_pos hl)
  refine ⟨D.fr.change hs z.2.1 z.2.2, ?_, ?_⟩
  · rw [e]; exact news_set N p1 p2 hs ho'
  · rw [e, List.map_append, List.map_cons]; exact ord'
theorem led_push (D : Led h₀ L m h news) (o : Obj) (hf : o.isFreed = false) : Led h₀ L m (h.push o) ((h.objs.size, o) :: news) := by
  refine ⟨D.fr.push o, D.nw.push D.fr o hf, List.Pairwise.cons (fun b hb => ?_) D.ord⟩
  obtain ⟨⟨b', ob⟩, hp, rfl⟩ := List.mem_map.mp hb
  exact Heap.lt_size (D.nw.get hp)
theorem led_grow (D : Led h₀ L m h news) (k : Keep h h') : Led h₀ L m h' news := ⟨D.fr.keeps k, D.nw.grown k, D.ord⟩
theorem led_sub {news' : List (Addr × Obj)} (D : Led h₀ L m h news) (s : news'.Sublist news) : Led h₀ L m h news' :=
  ⟨D.fr, fun p hp => D.nw p (s.subset hp), D.ord.sublist (s.map _)⟩
theorem led_tail {p : Addr × Obj} (D : Led h₀ L m h (p :: news)) : Led h₀ L m h news := led_sub D (List.sublist_cons_self ..)
/-- the object at one address is lost, all else stands -/
theorem led_lose (D : Led h₀ L m h news) (hi : news[i]? = some (a, o)) (hs : Heap.ExtBut a h h') : Led h₀ L m h' (news.eraseIdx i) := by
  have sp := pairwise_split hi
  have z := D.nw (a, o) (List.mem_of_getElem? hi)
  have ord' := D.ord
  rw [sp, List.map_append, List.map_cons] at ord'
  have p1 : ∀ p ∈ news.take i, p.1 ≠ a := fun p hp => Nat.ne_of_gt ((List.pairwise_append.mp ord').2.2 p.1 (List.mem_map_of_mem hp) a (.head _))
  have p2 : ∀ p ∈ news.drop (i + 1), p.1 ≠ a := fun p hp => Nat.ne_of_lt ((List.pairwise_cons.mp (List.pairwise_append.mp ord').2.1).1 p.1 (List.mem_map_of_mem hp))
  have e : news.eraseIdx i = news.take i ++ news.drop (i + 1) := List.eraseIdx_eq_take_drop_succ ..
  have F : Fr h₀ L h' m := by
    refine ⟨D.fr.ns.extBut hs (Ne.symm z.2.1), fun b ob eb => hs b ob (fun q => ?_) (D.fr.keep b ob eb), D.fr.above⟩
    subst q; rw [z.2.2] at eb; cases eb
  refine ⟨F, fun p hp => ?_, D.ord.sublist ((List.eraseIdx_sublist ..).map _)⟩
  have hp' := hp
  rw [e] at hp'
  have ne : p.1 ≠ a := (List.mem_append.mp hp').elim (p1 p) (p2 p)
  have zp := D.nw p ((List.eraseIdx_sublist ..).subset hp)
  exact ⟨hs _ _ ne zp.1, zp.2⟩
theorem led_store {x : Str} {v : Value} {l : List (Str × Value)} (D : Led h₀ L (lk l) h news) (F : Fr h₀ L h' (lk ((x, v) :: l))) (N : News h₀ L h' news) : Led h₀ L (lk ((x, v) :: l)) h' news := ⟨F, N, D.ord⟩
end led

section rules
variable {c : Cx} {A : Around} {h h₀ : Heap} {L a : Addr} {cn : Str} {cs : Scope} {ccd : Value} {cl : List (Str × Addr)} {l : List (Str × Value)} {m : Str → Option Value} {x : Str} {pos : Pos} {v : Value} {Q : Value → Heap → Prop} {env : Env} {news : List (Addr × Obj)}
theorem d_local (D : Led h₀ L (lk l) h news) (hv : lk l x = some v) (hk : cs.kind = .function) (hx : (envX cn cs L a ccd cl).kindOf x = some .local) (hd : (x == ("__debug__" : Str)) = false) (q : Q v h) :
    wq c A (eval (.Name x pos) (envX cn cs L a ccd cl)) Q h := q_local D.fr hv hk hx hd q
theorem d_store {Q : Unit → Heap → Prop} (D : Led h₀ L (lk l) h news) (hk : cs.kind = .function) (hx : (envX cn cs L a ccd cl).kindOf x = some .local)
    (q : ∀ h', Led h₀ L (lk ((x, v) :: l)) h' news → Q () h') : wq c A (storeName (envX cn cs L a ccd cl) x v) Q h :=
  s_store D.fr D.nw hk hx fun h' F N => q h' (led_store D F N)
theorem d_global {K : Frag} {mg mb : Str → Option Value} (D : Led h₀ L m h news) (G : Gd K mg mb h₀) (e : nsIn K mainGlobals x = some (some v)) (hk : cs.kind = .function) (hx : (envX cn cs L a ccd cl).kindOf x = some .globalImplicit) (hd : (x == ("__debug__" : Str)) = false) (q : Q v h) :
    wq c A (eval (.Name x pos) (envX cn cs L a ccd cl)) Q h := q_global (G.keeps D.fr.keep) e hk hx hd q
theorem d_builtin {K : Frag} {mg mb : Str → Option Value} (D : Led h₀ L m h news) (G : Gd K mg mb h₀) (e : nsIn K mainGlobals x = some none) (hv : bootBuiltins x = some v) (hn : x ≠ "__name__") (hk : cs.kind = .function) (hx : (envX cn cs L a ccd cl).kindOf x = some .globalImplicit) (hd : (x == ("__debug__" : Str)) = false) (q : Q v h) :
    wq c A (eval (.Name x pos) (envX cn cs L a ccd cl)) Q h := q_builtin (G.keeps D.fr.keep) e hv hn hk hx hd q
theorem d_newList {vs : List Value} (D : Led h₀ L m h news) (hsz : vs.length ≤ sizeLine) (q : ∀ l' h', Led h₀ L m h' ((l', listOf vs.toArray 0) :: news) → Q (.ref l') h') : wq c A (newList vs) Q h :=
  wq.of fun _ _ k => wpAny_newList (k _ _ _ (q _ _ (led_push D _ rfl))) hsz
theorem q_List {elts : List Expr} (H : wq c A (spliced (backTo pos (starEach elts env))) (fun vs h₁ => wq c A (newList vs) Q h₁) h) : wq c A (eval (.List elts pos) env) Q h :=
  wq.of fun _ _ k => List_ (H.go fun _ _ _ H₁ => H₁.go k)
theorem q_Subscript {e i : Expr} (H : wq c A (eval e env) (fun o h₁ => wq c A (eval i env) (fun i' h₂ => wq c A (subscriptTail e i o i') Q h₂) h₁) h) : wq c A (eval (.Subscript e i pos) env) Q h :=
  wq.of fun _ _ k => Subscript_ (H.go fun _ _ _ H₁ => H₁.go fun _ _ _ H₂ => H₂.go k)
theorem q_itemL {e i : Expr} {l' : Addr} {vs : List Value} {n : Int} {u : Tok} (hs : subscripted i false (.ref l') (.int n u) = operate [.ref l', .int n u] (getItem (.ref l') (.int n u))) (hl : h.IsList l' vs.toArray) (h0 : 0 ≤ n) (h1 : n < 2 ^ 63) (hx : vs[n.toNat]? = some v) (q : Q v h) :
    wq c A (subscriptTail e i (.ref l') (.int n u)) Q h :=
  wq.of fun _ _ k => tail_any hl.typeIs slot_list_getitem.lookup (wpAny_getItem_list hl h0 h1 (by simpa using hx) (k _ _ _ q)) hs
theorem isList_of {o : Addr} {its : Array Value} {n : Nat} (e : h.get? o = some (listOf its n)) : h.IsList o its := ⟨_, e, rfl, n, rfl⟩
theorem led_isList {i : Nat} {its : Array Value} {n : Nat} {l' : Addr} (D : Led h₀ L m h news) (hi : news[i]? = some (l', listOf its n)) : h.IsList l' its := isList_of (D.at i hi)
end rules

section loops
variable {c : Cx} {A : Around} {h h₀ : Heap} {L : Addr} {m : Str → Option Value} {news : List (Addr × Obj)} {target iter : Expr} {body orelse : List Stmt} {env : Env} {pos : Pos} {Q : Flow → Heap → Prop} {it : Value}
/-- the loop's code from here on ends in Q -/
noncomputable def wqL (c : Cx) (A : Around) (target : Expr) (it : Value) (body orelse : List Stmt) (env : Env) (Q : Flow → Heap → Prop) (h : Heap) : Prop :=
  ∀ tk, codeAny c.M A (.forLoop target it body orelse env) (fun r s' => match r with | .ok f => ∃ h' tk', s' = c.st h' tk' ∧ Q f h' | .error _ => False) (c.st h tk)
theorem s_For (hs : ∀ x, foldedSetIterable iter env x = pure x) (H : wq c A (eval iter env) (fun x h₁ => wq c A (pyIter x) (fun it h₂ => wqL c A target it body orelse env Q h₂) h₁) h) : wq c A (exec (.For target iter body orelse pos) env) Q h :=
  wq.of fun _ Q' k => wpAny_For (H.go fun _ _ _ H₁ => H₁.go fun _ _ tk H₂ => codeAny_mono (H₂ tk) fun r s' hr => by
    cases r with
    | ok f => obtain ⟨h', tk', rfl, q⟩ := hr; exact k _ _ _ q
    | error e => exact hr.elim) hs
theorem l_turn (H : wq c A (pyNext it) (fun r h₁ => match r with
      | none => wq c A (execs orelse env) Q h₁
      | some v => wq c A (letOwnedTupleGo target it v) (fun _ h₁' => wq c A (assign target env v) (fun _ h₂ => wq c A (execs body env) (fun f h₃ => match f with
          | .next | .cont => wqL c A target it body orelse env Q h₃
          | .brk => Q .next h₃
          | .ret v => Q (.ret v) h₃) h₂) h₁') h₁) h) : wqL c A target it body orelse env Q h := by
  intro tk
  refine codeAny_of_tree ?_
  rw [Around.under_of_weight (by rfl)]
  show wpAny _ A ((forTurn target it body orelse env).onRaise (fun x => do noteFrame x env; theTreesLotGoes x)) _ _ _
  refine wpAny_onRaise ?_
  have key : wq c A (forTurn target it body orelse env) (fun fin h' => match fin with
      | .done f => Q f h'
      | .again c' => (c' = .forLoop target it body orelse env ∧ wqL c A target it body orelse env Q h') ∨ (c' = .block orelse env ∧ wq c A (execs orelse env) Q h')) h := by
    unfold forTurn
    refine wq.bind (wq.standAt (wq.bind (wq.of fun tk Q' k => wpAny_onRaise ?_)))
    refine H.go fun r h₁ tk₁ H₁ => k _ _ _ ?_
    cases r with
    | none => exact wq.pure (.inr ⟨rfl, H₁⟩)
    | some v =>
      refine wq.bind (wq.mono H₁ fun _ h₁' H₂ => wq.bind (wq.mono H₂ fun _ h₂ H₃ => wq.bind (wq.mono H₃ fun f h₃ H₄ => ?_)))
      cases f with
      | next => exact wq.pure (.inl ⟨rfl, H₄⟩)
      | cont => exact wq.pure (.inl ⟨rfl, H₄⟩)
      | brk => exact wq.pure H₄
      | ret v => exact wq.pure H₄
  refine key.go fun fin h' tk' hf => ?_
  cases fin with
  | done f => exact ⟨h', tk', rfl, hf⟩
  | again c' =>
    rcases hf with ⟨rfl, hf⟩ | ⟨rfl, hf⟩
    · exact ⟨rfl, hf tk'⟩
    · refine ⟨rfl, codeAny_block (wpAny_mono (hf.go (E := fun _ _ => False) fun f h₂ tk₂ q => ⟨h₂, tk₂, rfl, q⟩) (fun _ _ x => x) fun _ _ x => x.elim)⟩
end loops
end Mine
end
section
open PySem PySem.W PyProof.Rows PySem.Calls PySem.W.X
set_option Elab.async false
set_option maxRecDepth 100000
set_option linter.unusedVariables false
namespace Mine

/-! iterators on the ledger -/
noncomputable abbrev rI (x left step : Int) : Obj := { cls := .type "range_iterator", data := .fields #[rawInt x, rawInt left, rawInt step] }
noncomputable abbrev rO (a b c : Int) (t u v : Tok) : Obj := { cls := .type "range", data := .fields #[.int a t, .int b u, .int c v] }
noncomputable def IsTI (o : Obj) (t : Addr) (i : Nat) : Prop := o.cls = .type "tuple_iterator" ∧ o.data = .fields #[.ref t, .int i 0]
noncomputable def IsLI (o : Obj) (t : Addr) (i : Nat) : Prop := o.cls = .type "list_iterator" ∧ o.data = .fields #[.ref t, .int i 0]
section iters
variable {c : Cx} {A : Around} {h h₀ : Heap} {L : Addr} {m : Str → Option Value} {news : List (Addr × Obj)} {j i : Nat} {I t : Addr} {o : Obj} {items : Array Value} {x : Value}

theorem c_range1 {n : Int} {t : Tok} {Q : Value → Heap → Prop} (D : Led h₀ L m h news) (q : ∀ r t u v h', Led h₀ L m h' ((r, rO 0 n 1 t u v) :: news) → Q (.ref r) h') : wq c A (call (.type "range") [.int n t]) Q h :=
  wq.of fun _ _ k => call_range_1 (k _ _ _ (q _ _ _ _ _ (led_push D _ rfl)))
theorem c_range2 {a b : Int} {t u : Tok} {Q : Value → Heap → Prop} (D : Led h₀ L m h news) (q : ∀ r t u v h', Led h₀ L m h' ((r, rO a b 1 t u v) :: news) → Q (.ref r) h') : wq c A (call (.type "range") [.int a t, .int b u]) Q h :=
  wq.of fun _ _ k => call_range_2 (k _ _ _ (q _ _ _ _ _ (led_push D _ rfl)))
theorem i_range {r : Addr} {a b e : Int} {t u v : Tok} {n : Int} {Q : Value → Heap → Prop} (D : Led h₀ L m h news) (hi : news[j]? = some (r, rO a b e t u v)) (hs : Builtin.Range.small a b e = true) (hn : Builtin.Range.rangeSize a b e = n)
    (q : ∀ I h', Led h₀ L m h' ((I, rI a n e) :: news) → Q (.ref I) h') : wq c A (pyIter (.ref r)) Q h :=
  wq.of fun _ _ k => wpAny_pyIter_range (t := t) (u := u) (v := v) (D.at j hi) hs (k _ _ _ (q _ _ (by rw [hn]; exact led_push D _ rfl)))
theorem n_range {a n e a' n' : Int} {Q : Option Value → Heap → Prop} (D : Led h₀ L m h news) (hi : news[j]? = some (I, rI a n e)) (hn : 0 < n) (ha : a + e = a') (hn' : n - 1 = n')
    (q : ∀ t h', Led h₀ L m h' (news.set j (I, rI a' n' e)) → Q (some (.int a t)) h') : wq c A (pyNext (.ref I)) Q h :=
  wq.of fun _ _ k => wpAny_pyNext_range_item (D.at j hi) hn fun h' hit hs => k _ _ _ (q _ _ (by rw [← ha, ← hn']; exact led_put D hi hs hit))
theorem n_rangeEnd {a n e : Int} {Q : Option Value → Heap → Prop} (hh : A.handled = none) (D : Led h₀ L m h news) (hi : news[j]? = some (I, rI a n e)) (hn : n ≤ 0)
    (q : ∀ h', Led h₀ L m h' (news.eraseIdx j) → Q none h') : wq c A (pyNext (.ref I)) Q h :=
  wq.of fun _ _ k => wpAny_pyNext_range_end hh (D.at j hi) hn fun h' hs => k _ _ _ (q _ (led_lose D hi hs))

theorem i_tuple {Q : Value → Heap → Prop} (D : Led h₀ L m h news) (ht : h.IsTuple t items) (q : ∀ I o h', IsTI o t 0 → Led h₀ L m h' ((I, o) :: news) → Q (.ref I) h') : wq c A (pyIter (.ref t)) Q h :=
  wq.of fun _ _ k => wpAny_pyIter_tuple ht (k _ _ _ (q _ _ _ ⟨rfl, rfl⟩ (led_push D _ rfl)))
theorem n_tuple {Q : Option Value → Heap → Prop} (D : Led h₀ L m h news) (hi : news[j]? = some (I, o)) (hI : IsTI o t i) (ht : h.IsTuple t items) (hx : items[i]? = some x)
    (q : ∀ o' h', IsTI o' t (i + 1) → Led h₀ L m h' (news.set j (I, o')) → Q (some x) h') : wq c A (pyNext (.ref I)) Q h :=
  wq.of fun _ _ k => wpAny_pyNext_tuple_item (it := I) (t := t) ⟨o, D.at j hi, hI⟩ ht hx fun h' ⟨o', ho', hI'⟩ hs => k _ _ _ (q o' _ hI' (led_put D hi hs ho'))
theorem n_tupleEnd {Q : Option Value → Heap → Prop} (hh : A.handled = none) (D : Led h₀ L m h news) (hi : news[j]? = some (I, o)) (hI : IsTI o t i) (ht : h.IsTuple t items) (hx : items[i]? = none)
    (q : ∀ h', Led h₀ L m h' (news.eraseIdx j) → Q none h') : wq c A (pyNext (.ref I)) Q h :=
  wq.of fun _ _ k => wpAny_pyNext_tuple_end hh (it := I) (t := t) ⟨o, D.at j hi, hI⟩ ht hx fun h' hs => k _ _ _ (q _ (led_lose D hi hs))
/-- an iterator handed to a for again -/
theorem i_listiter {Q : Value → Heap → Prop} (D : Led h₀ L m h news) (hi : news[j]? = some (I, o)) (hI : IsLI o t i) (q : Q (.ref I) h) : wq c A (pyIter (.ref I)) Q h :=
  wq.of fun _ _ k => wpAny_pyIter_listiter (it := I) (l := t) (i := i) ⟨o, D.at j hi, hI⟩ (k _ _ _ q)
end iters

section assigns
variable {c : Cx} {A : Around} {h h₀ : Heap} {env : Env} {x : Str} {p pos : Pos} {v : Value} {Q : Unit → Heap → Prop}
theorem g_Name (H : wq c A (storeName env x v) Q h) : wq c A (assign (.Name x p) env v) Q h := wq.of fun _ _ k => wpAny_assign_Name (H.go k)
theorem g_own {it : Value} (q : Q () h) : wq c A (letOwnedTupleGo (.Name x p) it v) Q h := wq.of fun _ _ k => wpAny_pure (k _ _ _ q)
end assigns

/-! enumerate over a tuple -/
section enum
variable {prog : Program} {w : World} {A : Around} {E : Value → Shared → Prop} {s : Shared}
theorem nextOf_tuple {it t : Addr} {i : Nat} {items : Array Value} {x : Value} {Q : Value → Shared → Prop} (hit : s.heap.IsTupleIter it t i)
    (ht : s.heap.IsTuple t items) (hx : items[i]? = some x) (hQ : ∀ h', h'.IsTupleIter it t (i + 1) → Heap.SameBut it s.heap h' → Q x { s with heap := h' }) :
    wpAny (model prog w) A (Builtin.SmallTypes.nextOf (.ref it)) Q E s := by
  obtain ⟨o, ho, hc, hd⟩ := id hit
  obtain ⟨ol, hol, _, nl, hdl⟩ := ht
  unfold Builtin.SmallTypes.nextOf
  refine wpAny_bind (wpAny_callSpecial?_slot (name := Str.ofString "__next__") hit.typeIs F.slot_tuple_iterator_next
    (wpAny_call_entry F.slot_tuple_iterator_next hit.typeIs F.entry_tuple_iterator_next ?_ (F.args_tuple_iterator_next_1 _)))
  show wpAny _ _ (field (.ref it) 0 >>= _) _ _ s
  refine wpAny_bind (wpAny_field ho hd (x := .ref t) rfl ?_)
  show wpAny _ _ (if (Value.ref t == Value.none) = true then _ else _) _ _ s
  rw [if_neg (show ¬ ((Value.ref t == Value.none) = true) from Bool.false_ne_true)]
  show wpAny _ _ (field (.ref it) 1 >>= _) _ _ s
  refine wpAny_bind (wpAny_field ho hd (x := .int i 0) rfl ?_)
  show wpAny _ _ (seqItems? (.ref t) >>= _) _ _ s
  refine wpAny_bind (wpAny_seqItems hol hdl ?_)
  simp only [Int.toNat_natCast, hx]
  refine wpAny_bind (wpAny_setField ho hd (by simp) (wpAny_pure ⟨x, rfl, wpAny_pure (hQ _ ?_ (Heap.SameBut.update ..))⟩))
  exact ⟨_, Heap.get?_update_self _ ho (Obj.isFreed_of_fields (Obj.data_mapFields hd _)), (Obj.cls_mapFields ..).trans hc, by
    rw [Obj.data_mapFields hd]; simp [rawInt]⟩
theorem nextOf_tupleEnd {it t : Addr} {i : Nat} {items : Array Value} {Q : Value → Shared → Prop} (hh : A.handled = none)
    (hit : s.heap.IsTupleIter it t i) (ht : s.heap.IsTuple t items) (hx : items[i]? = none)
    (hE : ∀ h' e, Heap.ExtBut it s.heap h' → (∃ o, h'.get? e = some o ∧ o.cls = .type "StopIteration") → E (.ref e) { s with heap := h' }) :
    wpAny (model prog w) A (Builtin.SmallTypes.nextOf (.ref it)) Q E s := by
  obtain ⟨o, ho, hc, hd⟩ := id hit
  obtain ⟨ol, hol, _, nl, hdl⟩ := ht
  unfold Builtin.SmallTypes.nextOf
  refine wpAny_bind (wpAny_callSpecial?_slot (name := Str.ofString "__next__") hit.typeIs F.slot_tuple_iterator_next
    (wpAny_call_entry F.slot_tuple_iterator_next hit.typeIs F.entry_tuple_iterator_next ?_ (F.args_tuple_iterator_next_1 _)))
  show wpAny _ _ (field (.ref it) 0 >>= _) _ _ s
  refine wpAny_bind (wpAny_field ho hd (x := .ref t) rfl ?_)
  show wpAny _ _ (if (Value.ref t == Value.none) = true then _ else _) _ _ s
  rw [if_neg (show ¬ ((Value.ref t == Value.none) = true) from Bool.false_ne_true)]
  show wpAny _ _ (field (.ref it) 1 >>= _) _ _ s
  refine wpAny_bind (wpAny_field ho hd (x := .int i 0) rfl ?_)
  show wpAny _ _ (seqItems? (.ref t) >>= _) _ _ s
  refine wpAny_bind (wpAny_seqItems hol hdl ?_)
  simp only [Int.toNat_natCast, hx]
  refine wpAny_bind (wpAny_rule (wpAny_bind (wpAny_setField ho hd (by simp) ?_)))
  show wpAny _ _ (newExc (.type "StopIteration") [] >>= _) _ _ _
  refine wpAny_bind ?_
  simp only [newExc, newTuple]
  refine wpAny_bind (wpAny_newObj_type ?_ (by size_fits))
  refine wpAny_bind (m := firstArgMember _ _) (wpAny_of_eq (a := Value.none) (by first | rfl | (simp only [firstArgMember]; rfl)) ?_)
  refine wpAny_newObj_type ?_ (by size_fits)
  simp only [raiseNew]
  refine wpAny_bind (wpAny_handled ?_)
  first | rw [show A.in1.handled = none from hh] | rw [hh]
  refine wpAny_bind (wpAny_pure (wpAny_throw ?_))
  exact hE _ _ (((Heap.SameBut.update ..).extBut.push _).push _) ⟨_, Heap.get?_push_size _ rfl, rfl⟩
theorem drawsTuple {A : Around} (hh : A.handled = none) (it l : Addr) (hne : l ≠ it) (items : Array Value) :
    Draws prog w A it [it, l] items.size (fun i v => items[i]? = some v) (fun i h => h.IsTupleIter it l i ∧ h.IsTuple l items) where
  live := fun _ _ st => let ⟨o, ho, _⟩ := st.1; ⟨o, ho⟩
  frame := fun _ _ _ st hk => ⟨let ⟨o, ho, r⟩ := st.1; ⟨o, hk it (by simp) o ho, r⟩, let ⟨o, ho, r⟩ := st.2; ⟨o, hk l (by simp) o ho, r⟩⟩
  item := fun i s Q E hi st hQ => by
    refine nextOf_tuple st.1 st.2 (x := items[i]) (by simp [hi]) fun h' hit' hs' => ?_
    exact hQ _ h' s.toks (by simp [hi]) ⟨hit', st.2.extBut hs'.extBut hne⟩ hs'
  done := fun s Q E st hE => nextOf_tupleEnd hh st.1 st.2 (by simp) hE

open AutoSeq1 (wpAny_loadPart') in
theorem meets_enumT (l : Addr) (items : Array Value) (n : Nat) (dct : Option Addr) (sl : Array (Option Value)) :
    Meets (Builtin.«enumerate.__new__» ⟨[.type "enumerate", .ref l], []⟩) (fun _ R s => s.heap.get? l = some { cls := .type "tuple", dict := dct, data := .seq items n, slots := sl } ∧
      R (.ok (.ret (.ref (s.heap.push { cls := .type "tuple_iterator", data := .fields #[.ref l, .int 0 0] }).objs.size)))
        { s with heap := (s.heap.push { cls := .type "tuple_iterator", data := .fields #[.ref l, .int 0 0] }).push { cls := .type "enumerate", data := .fields #[.none, .bool false, .ref s.heap.objs.size, rawInt 0, .none, .none] } }) :=
  .of_wp fun prog w A R s h => by
    obtain ⟨hp, g, d, tk, os⟩ := s; obtain ⟨hl, h⟩ := h
    have hsub := sub_enumerate
    have hL : Heap.IsTuple (Shared.heap ⟨hp, g, d, tk, os⟩) l items := ⟨_, hl, rfl, n, rfl⟩
    wp_walk using wpAny_loadPart' hl
    refine wpAny_stack_any fun st => wpAny_pure ?_
    split
    · rename_i c _ _ _ _ _
      cases (c == Value.type "enumerate")
      · wp_walk using wpAny_loadPart' hl, wpAny_pyIter_tuple hL
        exact ⟨_, rfl, h⟩
      · wp_walk using wpAny_loadPart' hl, wpAny_pyIter_tuple hL
        exact ⟨_, rfl, h⟩
    · wp_walk using wpAny_loadPart' hl, wpAny_pyIter_tuple hL
      exact ⟨_, rfl, h⟩
noncomputable abbrev enO (it : Addr) (i : Int) (old : Value) : Obj := { cls := .type "enumerate", data := .fields #[.none, .bool false, .ref it, rawInt i, .none, old] }
end enum
section enumw
variable {c : Cx} {A : Around} {h h₀ : Heap} {L : Addr} {m : Str → Option Value} {news : List (Addr × Obj)} {j i : Nat} {t e it : Addr} {items : Array Value} {x : Value}
theorem c_enum {dct : Option Addr} {sl : Array (Option Value)} {n : Nat} {Q : Value → Heap → Prop} (D : Led h₀ L m h news) (ht : h.get? t = some { cls := .type "tuple", dict := dct, data := .seq items n, slots := sl })
    (q : ∀ e it o h', IsTI o t 0 → Led h₀ L m h' ((e, enO it 0 .none) :: (it, o) :: news) → Q (.ref e) h') : wq c A (call (.type "enumerate") [.ref t]) Q h :=
  wq.of fun _ _ k => callType_new F.called_enumerate (by decide) (F.typeCall_enumerate_1 _) (F.newCall_enumerate_1 _) (fun obj => F.args_object_init_2 obj _) F.entry_enumerate_new
    (meets_enumT t items n dct sl) ⟨ht, ⟨⟨_, Heap.get?_push_size _ rfl, rfl⟩, k _ _ _ (q _ _ _ _ ⟨rfl, rfl⟩ (led_push (led_push D _ rfl) _ rfl))⟩⟩
theorem i_enum {i : Int} {old : Value} {Q : Value → Heap → Prop} (D : Led h₀ L m h news) (hi : news[j]? = some (e, enO it i old)) (q : Q (.ref e) h) : wq c A (pyIter (.ref e)) Q h :=
  wq.of fun _ _ k => wpAny_pyIter_enum (it := it) (i := i) (old := old) (D.at j hi) (k _ _ _ q)
/-- one turn of «for a, b in enumerate(tuple)»: the pair comes, and its two parts stand -/
theorem n_enum {o : Obj} {old : Value} {elts : List Expr} {k' : Nat} {pos : Pos} {body orelse : List Stmt} {env : Env} {Q : Flow → Heap → Prop} (hh : A.handled = none) (D : Led h₀ L m h ((e, enO it (i : Nat) old) :: (it, o) :: news)) (hI : IsTI o t i)
    (ht : ∀ h', Keep h₀ h' → h'.IsTuple t items) (ht0 : ∃ o, h₀.get? t = some o) (hx : items[i]? = some x) (hlen : (assignEach elts env).length = 2) (hstar : (assignEach elts env).findIdx? (·.1) = none)
    (q : ∀ u o' old' h', IsTI o' t (i + 1) → Led h₀ L m h' ((e, enO it ((i + 1 : Nat) : Int) old') :: (it, o') :: news) →
      wq c A (assignInOrder ((assignEach elts env).map (·.2)) [.int i u, x]) (fun _ h₂ => wq c A (execs body env) (fun f h₃ => match f with
          | .next | .cont => wqL c A (.Tuple elts k' pos) (.ref e) body orelse env Q h₃
          | .brk => Q .next h₃
          | .ret v => Q (.ret v) h₃) h₂) h') : wqL c A (.Tuple elts k' pos) (.ref e) body orelse env Q h := by
  have hil : i < items.size := (Array.getElem?_eq_some_iff.mp hx).1
  have g0 := D.at 0 (a := e) (o := enO it (i : Nat) old) rfl
  have g1 := D.at 1 (a := it) (o := o) rfl
  have hlt : it < e := (List.pairwise_cons.mp D.ord).1 it (by simp)
  obtain ⟨ot, hot⟩ := ht0
  have htL : t < h₀.objs.size := Heap.lt_size hot
  have z0 := D.nw (e, enO it (i : Nat) old) (by simp)
  have z1 := D.nw (it, o) (by simp)
  have hte : t ≠ e := fun q => by rw [q, z0.2.2] at hot; cases hot
  have hti : t ≠ it := fun q => by rw [q, z1.2.2] at hot; cases hot
  have W := WalksT.enumerateD (prog := c.prog) (w := c.w) (A := A) (drawsTuple (prog := c.prog) (w := c.w) (A := A.in1) hh it t hti items) e (Nat.ne_of_gt hlt) (by simp [Ne.symm hte, Nat.ne_of_gt hlt]) (by simp)
  refine l_turn (wq.of fun tk Q' kk => ?_)
  refine W.item i _ _ _ hil ⟨⟨old, g0⟩, ⟨o, g1, hI⟩, ht h D.fr.keep⟩ ?_
  rintro T vals h₁ tk₁ ⟨u, x', hx', rfl⟩ hT hTup ⟨⟨y, hout⟩, hst, hTe, hTi⟩ hk
  have : x' = x := by
    have e1 : items[i]? = some x' := hx'
    rw [hx] at e1; exact (Option.some.inj e1).symm
  subst this
  refine kk _ _ _ ?_
  refine wq.of fun tk₂ Q₂ kk₂ => ?_
  refine W.go elts k' pos i T _ _ _ ⟨⟨y, hout⟩, hst, hTe, hTi⟩ fun h₂ hst₂ hk₂ => kk₂ _ _ _ ?_
  obtain ⟨⟨old', he₂⟩, ⟨⟨o', ho', hI'⟩, ht₂⟩⟩ := hst₂
  have ke : ∀ b ob, b ≠ e → b ≠ it → h.get? b = some ob → h₂.get? b = some ob := fun b ob h1 h2 x => hk₂ b ob (by simp [h1, h2]) (hk b ob (by simp [h1, h2]) x)
  have D₂ : Led h₀ L m h₂ ((e, enO it ((i + 1 : Nat) : Int) old') :: (it, o') :: news) := by
    have ord := D.ord
    refine ⟨⟨D.fr.ns.at' fun ob x => ke L ob (fun q => z0.2.1 q.symm) (fun q => z1.2.1 q.symm) x, fun b ob x => ke b ob (fun q => by rw [q, z0.2.2] at x; cases x) (fun q => by rw [q, z1.2.2] at x; cases x) (D.fr.keep b ob x), D.fr.above⟩, ?_, ord⟩
    intro p hp
    rcases List.mem_cons.mp hp with rfl | hp
    · exact ⟨he₂, z0.2⟩
    · rcases List.mem_cons.mp hp with rfl | hp
      · exact ⟨ho', z1.2⟩
      · have zp := D.nw p (.tail _ (.tail _ hp))
        have l1 : p.1 < it := (List.pairwise_cons.mp (List.pairwise_cons.mp ord).2).1 p.1 (List.mem_map_of_mem hp)
        exact ⟨ke _ _ (Nat.ne_of_lt (Nat.lt_trans l1 hlt)) (Nat.ne_of_lt l1) zp.1, zp.2⟩
  have hTup₂ : h₂.IsTuple T #[.int i u, x'] := let ⟨ob, x, r⟩ := hTup; ⟨ob, hk₂ T ob (by simp [hTe, hTi]) x, r⟩
  refine wq.of fun tk₃ Q₃ kk₃ => ?_
  refine wpAny_assign_Tuple hh hTup₂ hlen hstar fun h₃ hx₃ => ?_
  have k₃ : Keep h₂ h₃ := fun b ob x => hx₃ b ob (Nat.ne_of_lt (Heap.lt_size x)) x
  exact (q u o' old' h₃ hI' (led_grow D₂ k₃)).go kk₃
theorem n_enumEnd {o : Obj} {old : Value} {elts : List Expr} {k' : Nat} {pos : Pos} {body orelse : List Stmt} {env : Env} {Q : Flow → Heap → Prop} (hh : A.handled = none) (D : Led h₀ L m h ((e, enO it (items.size : Nat) old) :: (it, o) :: news)) (hI : IsTI o t items.size)
    (ht : ∀ h', Keep h₀ h' → h'.IsTuple t items) (ht0 : ∃ o, h₀.get? t = some o) (q : ∀ h', Led h₀ L m h' news → wq c A (execs orelse env) Q h') : wqL c A (.Tuple elts k' pos) (.ref e) body orelse env Q h := by
  have g0 := D.at 0 (a := e) (o := enO it (items.size : Nat) old) rfl
  have g1 := D.at 1 (a := it) (o := o) rfl
  have hlt : it < e := (List.pairwise_cons.mp D.ord).1 it (by simp)
  obtain ⟨ot, hot⟩ := ht0
  have z0 := D.nw (e, enO it (items.size : Nat) old) (by simp)
  have z1 := D.nw (it, o) (by simp)
  have hte : t ≠ e := fun q => by rw [q, z0.2.2] at hot; cases hot
  have hti : t ≠ it := fun q => by rw [q, z1.2.2] at hot; cases hot
  have W := WalksT.enumerateD (prog := c.prog) (w := c.w) (A := A) (drawsTuple (prog := c.prog) (w := c.w) (A := A.in1) hh it t hti items) e (Nat.ne_of_gt hlt) (by simp [Ne.symm hte, Nat.ne_of_gt hlt]) (by simp)
  refine l_turn (wq.of fun tk Q' kk => ?_)
  refine W.done _ _ _ ⟨⟨old, g0⟩, ⟨o, g1, hI⟩, ht h D.fr.keep⟩ fun h₁ tk₁ hk => kk _ _ _ (q h₁ ?_)
  have ke : ∀ b ob, b ≠ e → b ≠ it → h.get? b = some ob → h₁.get? b = some ob := fun b ob h1 h2 x => hk b ob (by simp [h1, h2]) x
  refine ⟨⟨D.fr.ns.at' fun ob x => ke L ob (fun q => z0.2.1 q.symm) (fun q => z1.2.1 q.symm) x, fun b ob x => ke b ob (fun q => by rw [q, z0.2.2] at x; cases x) (fun q => by rw [q, z1.2.2] at x; cases x) (D.fr.keep b ob x), D.fr.above⟩, ?_, (List.pairwise_cons.mp (List.pairwise_cons.mp D.ord).2).2⟩
  intro p hp
  have zp := D.nw p (.tail _ (.tail _ hp))
  have l1 : p.1 < it := (List.pairwise_cons.mp (List.pairwise_cons.mp D.ord).2).1 p.1 (List.mem_map_of_mem hp)
  exact ⟨ke _ _ (Nat.ne_of_lt (Nat.lt_trans l1 hlt)) (Nat.ne_of_lt l1) zp.1, zp.2⟩
end enumw
end Mine
end
section
open PySem PySem.W PyProof.Rows PySem.Calls PySem.W.X
set_option Elab.async false
set_option maxRecDepth 100000
set_option linter.unusedVariables false
namespace Mine

section more
variable {c : Cx} {A : Around} {h h₀ : Heap} {L a : Addr} {cn : Str} {cs : Scope} {ccd : Value} {cl : List (Str × Addr)} {l : List (Str × Value)} {m : Str → Option Value} {pos p : Pos} {v : Value} {env : Env} {news : List (Addr × Obj)} {j : Nat}
theorem s_Expr {e : Expr} {Q : Flow → Heap → Prop} (hi : interactive env = false) (hs : swapsWith e none pos.line env = pure false) (H : wq c A (eval e env) (fun v h₁ => v = .none ∧ Q .next h₁) h) : wq c A (exec (.Expr e pos) env) Q h :=
  wq.of fun _ _ k => wpAny_Expr (H.go fun v h₁ tk q => by obtain ⟨rfl, q⟩ := q; exact k _ _ _ q) hi hs
theorem q_Method {o : Expr} {name : Str} {apos : Pos} {args : List Expr} {pl : Sem Bool} {Q : Value → Heap → Prop}
    (he : eval (.Call (.Attribute o name apos) args [] pos) env = (do
      let ov ← eval o env
      standAt apos.atName
      let (f, first) ← holding [ov] (getMethod ov name pl)
      callWith pos f first (backTo pos (starEach args env)) []))
    (H : wq c A (eval o env) (fun ov h₁ => wq c A (getMethod ov name pl) (fun fx h₂ => wq c A (callWith pos fx.1 fx.2 (backTo pos (starEach args env)) []) Q h₂) h₁) h) :
    wq c A (eval (.Call (.Attribute o name apos) args [] pos) env) Q h :=
  wq.of fun _ _ k => MethodCall_ (pl := pl) (H.go fun _ _ _ H₁ => H₁.go fun _ _ _ H₂ => H₂.go k) he
theorem m_append {D' : Addr} {its : Array Value} {n : Nat} {pl : Sem Bool} {Q : Value × List Value → Heap → Prop} (hl : h.get? D' = some (listOf its n)) (q : Q (.builtin "list.append", [.ref D']) h) : wq c A (getMethod (.ref D') "append" pl) Q h :=
  wq.of fun _ _ k => getMethod_list_append hl rfl rfl (k _ _ _ q)
theorem m_join {x : Str} {t : Tok} {pl : Sem Bool} {Q : Value × List Value → Heap → Prop} (q : Q (.builtin "str.join", [.str x t]) h) : wq c A (getMethod (.str x t) "join" pl) Q h :=
  wq.of fun _ _ k => GM.join (k _ _ _ q)
theorem c_append {D' : Addr} {its : Array Value} {n : Nat} {x : Value} {Q : Value → Heap → Prop} (D : Led h₀ L m h news) (hi : news[j]? = some (D', listOf its n)) (hz : its.size ≤ sizeLine)
    (q : ∀ h', Led h₀ L m h' (news.set j (D', listOf (its.push x) (n + 1))) → Q .none h') : wq c A (call (.builtin "list.append") [.ref D', x]) Q h :=
  wq.of fun _ _ k => append_at (hsz := hz) (D.at j hi) fun h' hs ho' => k _ _ _ (q _ (led_put D hi hs ho'))
theorem c_join {D' : Addr} {its : Array Value} {ys : List Str} {x : Str} {t : Tok} {Q : Value → Heap → Prop} (hl : h.IsList D' its) (hs : StrsAre its.toList ys) (hok : (ys.map (·.length)).sum + ys.length * x.length ≤ 16777216)
    (q : ∀ t, Q (.str (Txt.join x ys) t) h) : wq c A (call (.builtin "str.join") [.str x t, .ref D']) Q h :=
  wq.of fun _ _ k => join_list hl hs hok fun t' kk => k _ _ _ (q t')
theorem g_two {a b : Str} {pa pb : Pos} {v w : Value} {Q : Unit → Heap → Prop} (H : wq c A (storeName env a v) (fun _ h₁ => wq c A (storeName env b w) Q h₁) h) :
    wq c A (assignInOrder ((assignEach [.Name a pa, .Name b pb] env).map (·.2)) [v, w]) Q h := by
  show wq c A (do holding [w] (assign (.Name a pa) env v); do holding [] (assign (.Name b pb) env w); pure ()) Q h
  exact wq.bind (wq.holding (g_Name (wq.mono H fun _ _ H₁ => wq.bind (wq.holding (g_Name (wq.mono H₁ fun _ _ q => wq.pure q))))))
/-- «for a, b in t» over a standing tuple of pairs: one turn -/
theorem n_pair {I T t : Addr} {o : Obj} {i k' : Nat} {items : Array Value} {x y : Value} {elts : List Expr} {body orelse : List Stmt} {Q : Flow → Heap → Prop} (hh : A.handled = none)
    (D : Led h₀ L m h ((I, o) :: news)) (hI : IsTI o t i) (ht : h.IsTuple t items) (hx : items[i]? = some (.ref T)) (hT : ∃ oT, h₀.get? T = some oT ∧ oT.cls = .type "tuple" ∧ ∃ n, oT.data = .seq #[x, y] n)
    (hlen : (assignEach elts env).length = 2) (hstar : (assignEach elts env).findIdx? (·.1) = none)
    (q : ∀ o' h', IsTI o' t (i + 1) → Led h₀ L m h' ((I, o') :: news) →
      wq c A (assignInOrder ((assignEach elts env).map (·.2)) [x, y]) (fun _ h₂ => wq c A (execs body env) (fun f h₃ => match f with
          | .next | .cont => wqL c A (.Tuple elts k' pos) (.ref I) body orelse env Q h₃
          | .brk => Q .next h₃
          | .ret v => Q (.ret v) h₃) h₂) h') : wqL c A (.Tuple elts k' pos) (.ref I) body orelse env Q h := by
  refine l_turn (n_tuple (j := 0) D rfl hI ht hx fun o' h' hI' D' => ?_)
  have D' : Led h₀ L m h' ((I, o') :: news) := D'
  refine wq.of fun tk Q' kk => ?_
  have g0 := D'.at 0 (a := I) (o := o') rfl
  have own : wpAny c.M A (letOwnedTupleGo (.Tuple elts k' pos) (.ref I) (.ref T)) Q' (fun _ _ => False) (c.st h' tk) := by
    unfold letOwnedTupleGo
    refine wpAny_bind (wpAny_load g0 ?_)
    obtain ⟨oc, od, odat, osl⟩ := o'
    obtain ⟨hc, hd⟩ := hI'
    dsimp only at hc hd
    subst hc hd
    refine wpAny_pure (kk _ _ _ ?_)
    obtain ⟨oT, hoT, hcT, nT, hdT⟩ := hT
    refine wq.of fun tk₃ Q₃ kk₃ => ?_
    refine wpAny_assign_Tuple hh (items := #[x, y]) ⟨oT, D'.fr.keep _ _ hoT, hcT, nT, hdT⟩ hlen hstar fun h₃ hx₃ => ?_
    have k₃ : Keep h' h₃ := fun b ob x => hx₃ b ob (Nat.ne_of_lt (Heap.lt_size x)) x
    exact (q _ h₃ ⟨rfl, rfl⟩ (led_grow D' k₃)).go kk₃
  exact own
end more

/-- the first whose bit passes, else the default -/
noncomputable def pick (f : Int → Bool) (d : Nat) : List (Int × Nat) → Nat
  | [] => d
  | (b, ch) :: r => if f b = true then ch else pick f d r
/-- a standing tuple of pairs (a bit, a sign) -/
noncomputable def Pairs (h : Heap) (t : Addr) (items : Array Value) (es : List (Int × Nat)) : Prop :=
  (∃ o, h.get? t = some o ∧ o.cls = .type "tuple" ∧ ∃ n, o.data = .seq items n) ∧ items.size = es.length ∧
  ∀ (j : Nat) (b : Int) (ch : Nat), es[j]? = some (b, ch) → ∃ (T : Addr) (tb tc : Tok), items[j]? = some (Value.ref T) ∧ ∃ oT, h.get? T = some oT ∧ oT.cls = .type "tuple" ∧ ∃ n, oT.data = .seq #[.int b tb, .str ⟨#[ch]⟩ tc] n

theorem pick_hit {f : Int → Bool} {d : Nat} : ∀ {es : List (Int × Nat)} {i : Nat} {b : Int} {ch : Nat}, es[i]? = some (b, ch) → f b = true → (∀ j b' ch', j < i → es[j]? = some (b', ch') → f b' = false) → pick f d es = ch
  | [], _, _, _, h, _, _ => by simp at h
  | (b', ch') :: r, 0, b, ch, h, hf, _ => by
    simp at h
    obtain ⟨rfl, rfl⟩ := h
    simp [pick, hf]
  | (b', ch') :: r, i + 1, b, ch, h, hf, hno => by
    have h0 := hno 0 b' ch' (by omega) rfl
    simp only [pick, h0, Bool.false_eq_true, if_false]
    exact pick_hit (i := i) (by simpa using h) hf fun j b'' ch'' hj hjb => hno (j + 1) b'' ch'' (by omega) (by simpa using hjb)
theorem pick_none {f : Int → Bool} {d : Nat} : ∀ {es : List (Int × Nat)}, (∀ b ch, (b, ch) ∈ es → f b = false) → pick f d es = d
  | [], _ => rfl
  | (b, ch) :: r, h => by
    simp only [pick, h b ch (.head _), Bool.false_eq_true, if_false]
    exact pick_none fun b' ch' hm => h b' ch' (.tail _ hm)

section search
variable {c : Cx} {A : Around} {h₀ : Heap} {L : Addr} {env : Env} {pos : Pos} {news : List (Addr × Obj)}
/-- «for bit, char in table: .. break .. else: ..»: the first pair that passes ends the search -/
theorem search {bit char : Str} {pb pc : Pos} {k' : Nat} {t : Addr} {items : Array Value} {es : List (Int × Nat)} {f : Int → Bool} {d : Nat} {body orelse : List Stmt} {Q : Flow → Heap → Prop} (hh : A.handled = none) (P : Pairs h₀ t items es)
    (Fl : List (Str × Value) → Prop)
    (step : ∀ b ch tb tc I o l h', (f b = true → pick f d es = ch) → Fl l → Led h₀ L (lk l) h' ((I, o) :: news) → wq c A (assignInOrder ((assignEach [.Name bit pb, .Name char pc] env).map (·.2)) [.int b tb, .str ⟨#[ch]⟩ tc]) (fun _ h₂ => wq c A (execs body env) (fun fl h₃ =>
      (f b = true → (match fl with | .next | .cont => False | .brk => Q .next h₃ | .ret v => Q (.ret v) h₃) ∨ False) ∧ (f b = false → fl = .next ∧ ∃ l', Fl l' ∧ Led h₀ L (lk l') h₃ ((I, o) :: news))) h₂) h')
    (els : ∀ l h', Fl l → Led h₀ L (lk l) h' news → pick f d es = d → wq c A (execs orelse env) Q h') :
    ∀ (n i : Nat) (I : Addr) (o : Obj) (l : List (Str × Value)) (h : Heap), n = es.length - i → i ≤ es.length → (∀ j b ch, j < i → es[j]? = some (b, ch) → f b = false) → IsTI o t i → Fl l → Led h₀ L (lk l) h ((I, o) :: news) →
      wqL c A (.Tuple [.Name bit pb, .Name char pc] k' pos) (.ref I) body orelse env Q h := by
  intro n
  obtain ⟨⟨ot, hot, hct, nt, hdt⟩, hsz, hP⟩ := P
  induction n with
  | zero =>
    intro i I o l h hn hi hno hI hl D
    have hie : i = es.length := n_zero hn hi
    refine l_turn (n_tupleEnd hh (j := 0) D rfl hI (items := items) ⟨ot, D.fr.keep _ _ hot, hct, nt, hdt⟩ (Array.getElem?_eq_none (by rw [hie, ← hsz]; exact Nat.le_refl _)) fun h' D' => ?_)
    refine els l h' hl D' (pick_none fun b ch hm => ?_)
    obtain ⟨j, hj⟩ := List.getElem?_of_mem hm
    have : j < es.length := (List.getElem?_eq_some_iff.mp hj).1
    exact hno j b ch (hie ▸ this) hj
  | succ n ih =>
    intro i I o l h hn hi hno hI hl D
    have hil : i < es.length := n_lt hn
    obtain ⟨⟨b, ch⟩, hbc⟩ : ∃ x, es[i]? = some x := ⟨es[i], by simp [hil]⟩
    obtain ⟨T, tb, tc, hx, hT⟩ := hP i b ch hbc
    refine n_pair hh D hI ⟨ot, D.fr.keep _ _ hot, hct, nt, hdt⟩ hx hT rfl rfl fun o' h' hI' D' => ?_
    refine wq.mono (step b ch tb tc I o' l h' (fun hf => pick_hit hbc hf hno) hl D') fun _ h₂ H₂ => wq.mono H₂ fun fl h₃ H₃ => ?_
    cases hf : f b with
    | true =>
      have := (H₃.1 hf).resolve_right id
      cases fl <;> first | exact this.elim | exact this
    | false =>
      obtain ⟨rfl, l', hl', D₃⟩ := H₃.2 hf
      refine ih (i + 1) I o' l' h₃ (n_next hn) (n_lt hn) (fun j b' ch' hj hjb => ?_) hI' hl' D₃
      by_cases e : j = i
      · subst e; rw [hbc] at hjb; cases hjb; exact hf
      · exact hno j b' ch' (Nat.lt_of_le_of_ne (Nat.le_of_lt_succ hj) e) hjb
end search
end Mine
end
section
open PySem PySem.W PyProof.Rows PySem.Calls PySem.W.X
set_option Elab.async false
set_option maxRecDepth 100000
set_option linter.unusedVariables false
namespace Mine
noncomputable def IntsL : List Value → List Int → Prop
  | [], [] => True
  | v :: vs, x :: xs => (∃ t, v = .int x t) ∧ IntsL vs xs
  | _, _ => False
theorem ints_at : ∀ {vs : List Value} {xs : List Int}, IntsL vs xs → ∀ {j : Nat}, j < xs.length → ∃ t, vs[j]? = some (.int (xs.getD j 0) t)
  | [], [], _, _, hj => absurd hj (Nat.not_lt_zero _)
  | [], _ :: _, h, _, _ => h.elim
  | _ :: _, [], h, _, _ => h.elim
  | v :: vs, x :: xs, h, 0, _ => let ⟨t, e⟩ := h.1; ⟨t, by simp [e]⟩
  | v :: vs, x :: xs, h, j + 1, hj => by
    obtain ⟨t, e⟩ := ints_at h.2 (j := j) (by simpa using hj)
    exact ⟨t, by simpa using e⟩
theorem ints_len : ∀ {vs : List Value} {xs : List Int}, IntsL vs xs → vs.length = xs.length
  | [], [], _ => rfl
  | v :: vs, x :: xs, h => by simp [ints_len h.2]
section autos
variable {c : Cx} {A : Around} {h h₀ : Heap} {L a : Addr} {cn : Str} {cs : Scope} {ccd : Value} {cl : List (Str × Addr)} {l : List (Str × Value)} {m : Str → Option Value} {x : Str} {pos : Pos} {v : Value} {env : Env} {news : List (Addr × Obj)}
/-! the same rules, their small side goals at the end -/
theorem ac {e : Expr} {rest : List Expr} {Q : List Value → Heap → Prop} 
    (H : wq c A (eval e env) (fun v h₁ => wq c A (spliced (backTo pos (starEach rest env))) (fun vs h₂ => Q (v :: vs) h₂) h₁) h) (he : starEach (e :: rest) env = (false, eval e env) :: starEach rest env := by exact rfl) : wq c A (spliced (backTo pos (starEach (e :: rest) env))) Q h := a_cons he H
theorem qw {f : Value} {first : List Value} {e : Expr} {rest : List Expr} {Q : Value → Heap → Prop}
    (H : wq c A (spliced (backTo pos (starEach (e :: rest) env))) (fun vs h₁ => (∃ k, plainKeeper k ∧ Looks c.M h₁ (keeperOf f) k) ∧ wq c A (call f (first ++ vs)) Q h₁) h)
    (he : starEach (e :: rest) env = (false, eval e env) :: starEach rest env := by exact rfl) (hpl : (backTo pos (starEach (e :: rest) env)).any (·.1) = false := by exact rfl) :
    wq c A (callWith pos f first (backTo pos (starEach (e :: rest) env)) []) Q h := q_callWith he hpl H
theorem sA {x : Str} {p' : Pos} {e : Expr} {Q : Flow → Heap → Prop}
    (H : wq c A (eval e env) (fun v h₁ => wq c A (storeName env x v) (fun _ h₂ => Q .next h₂) h₁) h) (hs : swapsWith e (some (.Name x p')) pos.line env = pure false := by exact rfl) : wq c A (exec (.Assign [.Name x p'] e pos) env) Q h := s_Assign hs H
theorem sF {target iter : Expr} {body orelse : List Stmt} {Q : Flow → Heap → Prop} (H : wq c A (eval iter env) (fun x h₁ => wq c A (pyIter x) (fun it h₂ => wqL c A target it body orelse env Q h₂) h₁) h) (hs : ∀ x, foldedSetIterable iter env x = pure x := by exact fun _ => rfl) : wq c A (exec (.For target iter body orelse pos) env) Q h := s_For hs H
theorem dl {Q : Value → Heap → Prop} (D : Led h₀ L (lk l) h news) (q : Q v h) (hv : lk l x = some v := by exact rfl) (hk : cs.kind = .function := by exact rfl) (hx : (envX cn cs L a ccd cl).kindOf x = some .local := by exact rfl) (hd : (x == ("__debug__" : Str)) = false := by exact rfl) :
    wq c A (eval (.Name x pos) (envX cn cs L a ccd cl)) Q h := d_local D hv hk hx hd q
theorem dv {Q : Value → Heap → Prop} (D : Led h₀ L (lk l) h news) (hv : lk l x = some v) (q : Q v h) (hk : cs.kind = .function := by exact rfl) (hx : (envX cn cs L a ccd cl).kindOf x = some .local := by exact rfl) (hd : (x == ("__debug__" : Str)) = false := by exact rfl) :
    wq c A (eval (.Name x pos) (envX cn cs L a ccd cl)) Q h := d_local D hv hk hx hd q
theorem ds {Q : Unit → Heap → Prop} (D : Led h₀ L (lk l) h news) (q : ∀ h', Led h₀ L (lk ((x, v) :: l)) h' news → Q () h') (hk : cs.kind = .function := by exact rfl) (hx : (envX cn cs L a ccd cl).kindOf x = some .local := by exact rfl) :
    wq c A (storeName (envX cn cs L a ccd cl) x v) Q h := d_store D hk hx q
theorem dg {K : Frag} {mg mb : Str → Option Value} {Q : Value → Heap → Prop} (D : Led h₀ L m h news) (G : Gd K mg mb h₀) (e : nsIn K mainGlobals x = some (some v)) (q : Q v h) (hk : cs.kind = .function := by exact rfl) (hx : (envX cn cs L a ccd cl).kindOf x = some .globalImplicit := by exact rfl) (hd : (x == ("__debug__" : Str)) = false := by exact rfl) :
    wq c A (eval (.Name x pos) (envX cn cs L a ccd cl)) Q h := d_global D G e hk hx hd q
theorem db {K : Frag} {mg mb : Str → Option Value} {Q : Value → Heap → Prop} (v : Value) (D : Led h₀ L m h news) (G : Gd K mg mb h₀) (e : nsIn K mainGlobals x = some none) (hv : bootBuiltins x = some v) (hn : x ≠ "__name__") (q : Q v h) (hk : cs.kind = .function := by exact rfl) (hx : (envX cn cs L a ccd cl).kindOf x = some .globalImplicit := by exact rfl) (hd : (x == ("__debug__" : Str)) = false := by exact rfl) :
    wq c A (eval (.Name x pos) (envX cn cs L a ccd cl)) Q h := d_builtin D G e hv hn hk hx hd q
theorem tC {whole : Sem Value} {Q : Bool → Heap → Prop} {l r : Expr} {op : CmpOp}
    (H : wq c A (eval l env) (fun a h₁ => wq c A (eval r env) (fun b h₂ => wq c A (compareOp op a b) (fun z h₃ => wq c A (truthy z) Q h₃) h₂) h₁) h) (hm : behindInMarks op r = false := by exact rfl) :
    wq c A (isTrue (.Compare l [op] [r] pos) env whole) Q h := t_Compare hm H
theorem qC {l r : Expr} {op : CmpOp} {Q : Value → Heap → Prop} (H : wq c A (eval l env) (fun a h₁ => wq c A (eval r env) (fun b h₂ => wq c A (compareOp op a b) Q h₂) h₁) h) (hm : behindInMarks op r = false := by exact rfl) :
    wq c A (eval (.Compare l [op] [r] pos) env) Q h := q_Compare hm H
end autos

section loops
variable {c : Cx} {A : Around} {h₀ : Heap} {L : Addr} {env : Env} {pos : Pos}
/-- «for x in range(n)» with an invariant of the names and of the news -/
theorem for_range {x : Str} {p : Pos} {n : Nat} {body orelse : List Stmt} {Q : Flow → Heap → Prop} (hh : A.handled = none) (Inv : Nat → List (Str × Value) → List (Addr × Obj) → Prop)
    (turn : ∀ (i : Nat) t I o l news h, i < n → Inv i l news → Led h₀ L (lk l) h ((I, o) :: news) →
      wq c A (storeName env x (.int i t)) (fun _ h₂ => wq c A (execs body env) (fun f h₃ => match f with
        | .next => ∃ l' news', Led h₀ L (lk l') h₃ ((I, o) :: news') ∧ Inv (i + 1) l' news'
        | .cont => ∃ l' news', Led h₀ L (lk l') h₃ ((I, o) :: news') ∧ Inv (i + 1) l' news'
        | .brk => Q .next h₃
        | .ret v => Q (.ret v) h₃) h₂) h)
    (done : ∀ l news h, Inv n l news → Led h₀ L (lk l) h news → wq c A (execs orelse env) Q h) :
    ∀ (k i : Nat) (a m : Int) (I : Addr) (l : List (Str × Value)) (news : List (Addr × Obj)) (h : Heap), k = n - i → i ≤ n → a = i → m = (n - i : Nat) → Inv i l news → Led h₀ L (lk l) h ((I, rI a m 1) :: news) → wqL c A (.Name x p) (.ref I) body orelse env Q h := by
  intro k
  induction k with
  | zero =>
    intro i a m I l news h hk hi ha hm hI D
    have : i = n := n_zero hk hi
    subst this
    exact l_turn (n_rangeEnd hh (j := 0) D rfl (n_none hm) fun h' D' => done l news h' hI D')
  | succ k ih =>
    intro i a m I l news h hk hi ha hm hI D
    subst ha
    refine l_turn (n_range (j := 0) (a' := ((i + 1 : Nat) : Int)) (n' := ((n - (i + 1) : Nat) : Int)) D rfl (n_pos hk hm) rfl (n_less hk hm) fun t h' D' => ?_)
    refine g_own (g_Name ?_)
    refine wq.mono (turn i t I _ l news h' (n_lt hk) hI D') fun _ h₂ H₂ => wq.mono H₂ fun f h₃ H₃ => ?_
    cases f with
    | next => obtain ⟨l', news', D₃, hI'⟩ := H₃; exact ih (i + 1) _ _ I l' news' h₃ (n_next hk) (n_lt hk) rfl rfl hI' D₃
    | cont => obtain ⟨l', news', D₃, hI'⟩ := H₃; exact ih (i + 1) _ _ I l' news' h₃ (n_next hk) (n_lt hk) rfl rfl hI' D₃
    | brk => exact H₃
    | ret v => exact H₃
end loops
section txts
variable {c : Cx} {A : Around} {h : Heap} {x y : Str} {t u : Tok} {Q : Value → Heap → Prop}
theorem q_strItem {e i' : Expr} {i : Nat} {ch : Nat} (hs : subscripted i' false (.str x t) (.int i u) = operate [.str x t, .int i u] (getItem (.str x t) (.int i u))) (hi : i < 2 ^ 63) (hx : x.cps[i]? = some ch) (q : ∀ t, Q (.str ⟨#[ch]⟩ t) h) : wq c A (subscriptTail e i' (.str x t) (.int i u)) Q h :=
  wq.of fun _ _ k => tail_any (typeIs_str _ _ _) F.slot_str_getitem.lookup (PySem.P.getItem_str (c := ch) (by simp; omega) (by
    have hl : i < x.cps.size := (Array.getElem?_eq_some_iff.mp hx).1
    have hL : i < x.length := hl
    have : seqIndex? (i : Int) x.length = some i := by
      unfold seqIndex?
      simp
      first | omega | skip
    rw [this]; exact hx) (k _ _ _ (q _))) hs
theorem q_neStr (q : Q (.bool (x.cps.toList != y.cps.toList)) h) : wq c A (compareOp .NotEq (.str x t) (.str y u)) Q h := wq.of fun _ _ k => PySem.P.ne_str (k _ _ _ q)
end txts
end Mine
end
section
open PySem PySem.W PyProof.Rows PySem.Calls PySem.W.X
set_option Elab.async false
set_option maxRecDepth 100000
set_option linter.unusedVariables false
namespace Mine
/-! code tables: they grow when a function makes functions; they stand at the end of the ledger -/
noncomputable abbrev T3 : List Addr := [63, 110]
noncomputable abbrev hid (h : Heap) : Heap := hideAll h T3
noncomputable def Kp (h h' : Heap) : Prop := ∀ b o, b ∉ T3 → h.get? b = some o → h'.get? b = some o
theorem Kp.trans {a b c : Heap} (x : Kp a b) (y : Kp b c) : Kp a c := fun _ _ n e => y _ _ n (x _ _ n e)
theorem Keep.kp {h h' : Heap} (k : Keep h h') : Kp h h' := fun _ _ _ e => k _ _ e
theorem kp_of_hid {h h' : Heap} (k : Keep (hid h) h') : Kp h h' := fun b o n e => k b o (hideAll_get _ e n)
theorem kp_of_ext {P : Addr} {h h' : Heap} (hP : P ∈ T3) (x : Heap.ExtBut P h h') : Kp h h' := fun b o n e => x b o (fun q => n (q ▸ hP)) e
theorem in_T3 {b : Nat} (h : b ∈ T3) : b = 63 ∨ b = 110 := by simpa [T3] using h
theorem not_T3 {b : Nat} (h : 110 < b) : b ∉ T3 := fun hm => by have := in_T3 hm; omega
theorem m63 : (63 : Nat) ∈ T3 := by decide
theorem m110 : (110 : Nat) ∈ T3 := by decide
noncomputable abbrev tabN (a b : Array Value) : List (Addr × Obj) := [(110, tabObj a), (63, tabObj b)]
structure CodeR (h : Heap) (c' : Addr) (qual : Str) : Prop where
  above : 113 < c'
  code : h.CodeRec (.ref c') qual
theorem CodeR.keeps {h h' : Heap} {c' : Addr} {q : Str} (x : CodeR h c' q) (k : Kp h h') : CodeR h' c' q := by
  refine ⟨x.above, ?_⟩
  obtain ⟨c₂, oc, vs, tq, hc, hoc, hdc, hq⟩ := x.code
  cases hc
  refine ⟨c', oc, vs, tq, rfl, k _ _ (not_T3 (Nat.lt_trans (by decide) x.above)) hoc, hdc, hq⟩
structure TabOk (h : Heap) (ps : Array Value) (qual : Str) : Prop where
  ok : TriplesOk ps.toList
  hit : ∀ pos cv, codeAmong pos ps.toList = some cv → ∃ c', cv = .ref c' ∧ CodeR h c' qual
theorem TabOk.keeps {h h' : Heap} {ps : Array Value} {q : Str} (x : TabOk h ps q) (k : Kp h h') : TabOk h' ps q :=
  ⟨x.ok, fun pos cv e => let ⟨c', e1, r⟩ := x.hit pos cv e; ⟨c', e1, r.keeps k⟩⟩
theorem TabOk.nil (h : Heap) (q : Str) : TabOk h #[] q := ⟨trivial, fun pos cv e => by cases e⟩
theorem among_snoc {pos : Pos} {a b : Int} {c cv : Value} (l : List Value) (h : TriplesOk l) (e : codeAmong pos (l ++ [rawInt a, rawInt b, c]) = some cv) : codeAmong pos l = some cv ∨ cv = c := by
  fun_induction TriplesOk l with
  | case1 =>
    simp only [List.nil_append, rawInt, codeAmong] at e
    split at e
    · exact .inr (Option.some.inj e).symm
    · cases e
  | case2 x1 x2 x3 x4 x5 rest ih =>
    simp only [List.cons_append, codeAmong] at e ⊢
    split at e
    · rename_i hc; rw [if_pos hc]; exact .inl e
    · rename_i hc; rw [if_neg hc]; exact ih h e
  | case3 => exact h.elim
theorem TabOk.snoc {h h' : Heap} {ps : Array Value} {q : Str} {a b : Int} {c' : Addr} (x : TabOk h ps q) (k : Kp h h') (r : CodeR h' c' q) : TabOk h' (ps ++ #[rawInt a, rawInt b, .ref c']) q := by
  refine ⟨by simpa using TriplesOk_snoc a b (.ref c') _ x.ok, fun pos cv e => ?_⟩
  rw [Array.toList_append] at e
  rcases among_snoc _ x.ok e with e | e
  · exact (x.keeps k).hit pos cv e
  · exact ⟨c', e, r⟩

section led
variable {h h' h₀ : Heap} {L a : Addr} {m : Str → Option Value} {news : List (Addr × Obj)} {o o' : Obj} {i : Nat}
theorem led_startT {h₁ : Heap} {ta tb : Array Value} (F : Fr h L h₁ m) (h110 : h.get? 110 = some (tabObj ta)) (h63 : h.get? 63 = some (tabObj tb)) : Led (hid h) L m h₁ (tabN ta tb) := by
  refine ⟨⟨F.ns, fun b o e => F.keep b o (of_hideAll _ e), Nat.le_trans (Nat.le_of_eq (hideAll_size _ _)) F.above⟩, fun p hp => ?_, ?_⟩
  · have key : ∀ (P : Addr) (ps : Array Value), P ∈ T3 → h.get? P = some (tabObj ps) → h₁.get? P = some (tabObj ps) ∧ P ≠ L ∧ (hid h).get? P = none :=
      fun P ps hm e => ⟨F.keep _ _ e, Nat.ne_of_lt (Nat.lt_of_lt_of_le (Heap.lt_size e) F.above), hideAll_none _ hm⟩
    simp only [tabN, List.mem_cons, List.not_mem_nil, or_false] at hp
    rcases hp with rfl | rfl
    · exact key _ _ m110 h110
    · exact key _ _ m63 h63
  · show List.Pairwise _ [110, 63]
    simp
theorem led_add (D : Led h₀ L m h news) (ho : h.get? a = some o) (hl : ∀ p ∈ news, p.1 < a) (hL : L < a) : Led h₀ L m h ((a, o) :: news) := by
  refine ⟨D.fr, fun p hp => ?_, List.Pairwise.cons (fun b hb => ?_) D.ord⟩
  · rcases List.mem_cons.mp hp with rfl | hp
    · exact ⟨ho, Nat.ne_of_gt hL, Heap.get?_none_of_le (Nat.le_trans D.fr.above (Nat.le_of_lt hL))⟩
    · exact D.nw p hp
  · obtain ⟨p, hp, rfl⟩ := List.mem_map.mp hb
    exact hl p hp
/-- one old object of the ledger changes, the rest stays, more may come -/
theorem led_putX (D : Led h₀ L m h news) (hi : news[i]? = some (a, o)) (hs : Heap.ExtBut a h h') (ho' : h'.get? a = some o') : Led h₀ L m h' (news.set i (a, o')) := by
  have sp := pairwise_split hi
  have z := D.nw (a, o) (List.mem_of_getElem? hi)
  have ord' := D.ord
  rw [sp, List.map_append, List.map_cons] at ord'
  have p1 : ∀ p ∈ news.take i, p.1 ≠ a := fun p hp => Nat.ne_of_gt ((List.pairwise_append.mp ord').2.2 p.1 (List.mem_map_of_mem hp) a (.head _))
  have p2 : ∀ p ∈ news.drop (i + 1), p.1 ≠ a := fun p hp => Nat.ne_of_lt ((List.pairwise_cons.mp (List.pairwise_append.mp ord').2.1).1 p.1 (List.mem_map_of_mem hp))
  have e : news.set i (a, o') = news.take i ++ (a, o') :: news.drop (i + 1) := by
    obtain ⟨hl, _⟩ := List.getElem?_eq_some_iff.mp hi
    exact List.set_eq_take_append_cons_drop.trans (if_pos hl)
  refine ⟨⟨D.fr.ns.extBut hs (Ne.symm z.2.1), fun b ob eb => hs b ob (fun q => ?_) (D.fr.keep b ob eb), D.fr.above⟩, ?_, ?_⟩
  · subst q; rw [z.2.2] at eb; cases eb
  · rw [e]
    intro p hp
    rcases List.mem_append.mp hp with hp | hp
    · have zp := D.nw p (by rw [sp]; exact List.mem_append_left _ hp)
      exact ⟨hs _ _ (p1 p hp) zp.1, zp.2⟩
    · rcases List.mem_cons.mp hp with rfl | hp
      · exact ⟨ho', z.2⟩
      · have zp := D.nw p (by rw [sp]; exact List.mem_append_right _ (.tail _ hp))
        exact ⟨hs _ _ (p2 p hp) zp.1, zp.2⟩
  · rw [e, List.map_append, List.map_cons]; exact ord'
/-- all but the tables stays -/
theorem led_kp {xs : List (Addr × Obj)} {ta tb ta' tb' : Array Value} (D : Led h₀ L m h (xs ++ tabN ta tb)) (hL : 113 < L) (k : Kp h h') (e1 : h'.get? 110 = some (tabObj ta')) (e2 : h'.get? 63 = some (tabObj tb')) :
    Led h₀ L m h' (xs ++ tabN ta' tb') := by
  have ord := D.ord
  rw [List.map_append] at ord
  have hx : ∀ p ∈ xs, 110 < p.1 := fun p hp => (List.pairwise_append.mp ord).2.2 p.1 (List.mem_map_of_mem hp) 110 (by simp)
  have nb : ∀ P ∈ T3, h₀.get? P = none := fun P hP => by
    have hP := in_T3 hP
    rcases hP with rfl | rfl
    · exact (D.nw (63, tabObj tb) (List.mem_append_right _ (by simp))).2.2
    · exact (D.nw (110, tabObj ta) (List.mem_append_right _ (by simp))).2.2
  refine ⟨⟨D.fr.ns.at' fun ob x => k L ob (not_T3 (Nat.lt_trans (by decide) hL)) x, fun b ob eb => k b ob (fun q => by rw [nb b q] at eb; cases eb) (D.fr.keep b ob eb), D.fr.above⟩, fun p hp => ?_, by rw [List.map_append]; exact ord⟩
  rcases List.mem_append.mp hp with hp' | hp'
  · have zp := D.nw p (List.mem_append_left _ hp')
    exact ⟨k _ _ (not_T3 (hx p hp')) zp.1, zp.2⟩
  · have z3 : ∀ P ∈ T3, P ≠ L := fun P hP q => not_T3 (Nat.lt_trans (by decide) hL) (q ▸ hP)
    simp only [tabN, List.mem_cons, List.not_mem_nil, or_false] at hp'
    rcases hp' with rfl | rfl
    · exact ⟨e1, z3 _ m110, nb _ m110⟩
    · exact ⟨e2, z3 _ m63, nb _ m63⟩
end led

/-- the builtins module stands among the names -/
noncomputable def Bm (mg : Str → Option Value) (h : Heap) : Prop := ∃ bm o, mg "__builtins__" = some (.ref bm) ∧ bm ≠ builtinsNs ∧ bm ∉ T3 ∧ h.get? bm = some o ∧ o.cls = .type "module" ∧ o.dict = some builtinsNs ∧ o.data = .plain
theorem Bm.kp {mg : Str → Option Value} {h h' : Heap} (x : Bm mg h) (k : Kp h h') : Bm mg h' := let ⟨bm, o, a, b, n, e, r⟩ := x; ⟨bm, o, a, b, n, k _ _ n e, r⟩
theorem Bm.keeps {mg : Str → Option Value} {h h' : Heap} (x : Bm mg h) (k : Keep h h') : Bm mg h' := x.kp (Keep.kp k)
theorem Bm.at {mg : Str → Option Value} {h : Heap} {P : Addr} {ps : Array Value} (x : Bm mg h) (g : h.Ns mainGlobals mg) (hP : h.get? P = some (tabObj ps)) : h.BuiltinsAt mg P ∧ mainGlobals ≠ P := by
  obtain ⟨bm, ob, b1, b2, _, b3, b4, b5, b6⟩ := x
  refine ⟨⟨bm, ob, b1, b2, fun q => ?_, fun q => ?_, b3, b4, b5, b6⟩, fun q => ?_⟩
  · obtain ⟨o, es, ep, e, hd, _⟩ := g
    rw [q, e] at b3; cases b3; rw [hd] at b6; cases b6
  · rw [q, hP] at b3; cases b3; cases b4
  · obtain ⟨o, es, ep, e, hd, _⟩ := g
    rw [q, hP] at e; cases e; cases hd

section makers
variable {c : Cx} {A : Around} {h h₀ : Heap} {L a P cP : Addr} {m mg : Str → Option Value} {news : List (Addr × Obj)} {cn : Str} {cs : Scope} {ccd : Value} {cl clos : List (Str × Addr)} {j : Nat} {ps : Array Value} {pos : Pos} {qual : Str} {scope : Scope} {params : Arguments}
theorem q_Lambda {body : Expr} {Q : Value → Heap → Prop} (D : Led h₀ L m h news) (hL : 113 < L) (hj : news[j]? = some (P, tabObj ps)) (hP : P ∈ T3) (g : h.Ns mainGlobals mg) (B : Bm mg h) (hcd : ccd = .ref cP) (C : CodeHd h cP P) (T : TabOk h ps qual)
    (hq : (envX cn cs L a ccd cl).qual ++ "<lambda>" = qual) (hcl : closureFor scope (envX cn cs L a ccd cl) = pure clos) (hdef : defaultsOf params (envX cn cs L a ccd cl) = ([], []))
    (q : ∀ f c' ctv h' ps', Led h₀ L m h' ((f, kla_obj "<lambda>" qual params body scope clos ((mg "__name__").getD .none) c' ctv) :: news.set j (P, tabObj ps')) → CodeR h' c' qual → TabOk h' ps' qual → Kp h h' → L < f → Q (.ref f) h') :
    wq c A (eval (.Lambda params body scope pos) (envX cn cs L a ccd cl)) Q h := wq.of fun tk Q' k => by
  have hm := D.at j hj
  obtain ⟨hb, hgP⟩ := B.at g hm
  refine kla_eval hdef ?_
  rw [hq]
  have hLh : L < h.objs.size := D.fr.ns.lt
  cases hf : codeAmong pos ps.toList with
  | none =>
    refine kla_makeFunction (mg := mg) hcl rfl g hcd C hm T.ok hf hgP hb fun c' ctv h' tk' hx hge hlt hrec htb => k _ _ _ ?_
    have D₁ := led_putX D hj hx htb
    have kp : Kp h h' := kp_of_ext hP hx
    have kp2 : Kp h (h'.push (kla_obj "<lambda>" qual params body scope clos ((mg "__name__").getD .none) c' ctv)) := kp.trans (Keep.kp fun _ _ e => Heap.get?_push_of_some _ e)
    have r : CodeR (h'.push (kla_obj "<lambda>" qual params body scope clos ((mg "__name__").getD .none) c' ctv)) c' qual := ⟨Nat.lt_trans hL (Nat.lt_of_lt_of_le hLh hge), hrec.push _⟩
    exact q _ c' ctv _ _ (led_push D₁ _ rfl) r (T.snoc kp2 r) kp2 (Nat.lt_of_lt_of_le hLh (Nat.le_trans hge (Nat.le_of_lt hlt)))
  | some cv =>
    obtain ⟨c', rfl, r⟩ := T.hit pos cv hf
    refine kla_makeFunctionHit (mg := mg) hcl rfl g hcd C hm T.ok hf hb fun ctv h' tk' hk hsz => k _ _ _ ?_
    have kp : Kp h h' := Keep.kp hk
    have kp2 : Kp h (h'.push (kla_obj "<lambda>" qual params body scope clos ((mg "__name__").getD .none) c' ctv)) := kp.trans (Keep.kp fun _ _ e => Heap.get?_push_of_some _ e)
    refine q _ c' ctv _ ps ?_ (r.keeps kp2) (T.keeps kp2) kp2 (Nat.lt_of_lt_of_le hLh hsz)
    have e : news.set j (P, tabObj ps) = news := by
      obtain ⟨hl, he⟩ := List.getElem?_eq_some_iff.mp hj
      rw [← he]; exact List.set_getElem_self hl
    rw [e]
    exact led_push (led_grow D hk) _ rfl
end makers

/-- a frame's names, its cells right behind it -/
noncomputable abbrev cEnv (qual : Str) (scope : Scope) (f : Addr) (cdv : Value) (L : Addr) : Env := envX qual scope L f cdv (cellsFrom (L + 1) scope.names [])
section entry
variable {c : Cx} {A : Around} {h : Heap} {f : Addr} {vs : List Value} {Q : Value → Heap → Prop} {o : Obj} {name qual : Str} {params : Arguments} {body : List Stmt} {scope : Scope} {cl : List (Str × Addr)} {dV kV doc pm cdv ct : Value} {an : Option Addr} {binds : List (Str × Value)} {d u : Nat}
/-- a function some of whose names are cells -/
theorem q_defC (r : Room A (d + 1) (u + 3)) (ho : h.get? f = some o) (hd : o.data = .func (fnX name qual params body scope [] dV kV doc pm an cdv ct)) (hlim : h.NoLimit) (hcd : h.CodeRec cdv qual)
    (hb : ∀ s : Shared, s.heap = h → BindsTo s (fnX name qual params body scope [] dV kV doc pm an cdv ct) ⟨vs, []⟩ binds)
    (hkind : ∀ n, ∀ x ∈ binds, scope.names.lookup x.1 = some .local ∨ (scope.names.lookup x.1 = some .cell ∧ ((cellsFrom n scope.names []).lookup x.1).isSome = true))
    (hco : scope.isCoroutine = false) (hgen : scope.isGenerator = false) (hk : scope.kind = .function)
    (H : ∀ L h₁, Fr h L h₁ (bindL (envOfC qual scope L f cdv).kindOf binds fun _ => none) → (∀ n c, (cellsFrom (L + 1) scope.names []).lookup n = some c → h₁.IsCell c (bindC (envOfC qual scope L f cdv).kindOf binds (fun _ => none) n)) → Room (A.deeper (cEnv qual scope f cdv L)) d u →
      wq c (A.deeper (cEnv qual scope f cdv L)) (execs body (cEnv qual scope f cdv L)) (fun fl h' => Q (match fl with | .ret v => v | _ => .none) h') h₁) :
    wq c A (call (.ref f) vs) Q h := wq.of fun tk Q' k => by
  refine wpAny_call (codeAny_call_function (fd := fnX name qual params body scope [] dV kV doc pm an cdv ct) r.ok ho hd hco hgen rfl hcd (hb _ rfl _ _ _ _ ?_))
  refine wpAny_newFunctionEnv_cells hk (hkind _) fun env' he s' x => ?_
  subst he
  refine ⟨hlim.keeps x.toInCall.keep, codeAny_func ?_⟩
  obtain ⟨⟨h₁, tk₁, rfl⟩, ns, kp, fr⟩ := x.toInCall
  exact wpAny_mono ((H h.objs.size h₁ ⟨ns, kp, fr⟩ x.cell r.deeper).go (E := fun _ _ => False) fun v h' tk' q => k _ _ _ q) (fun _ _ x => x) fun _ _ x => x.elim
/-- a lambda's call -/
theorem q_lam {body : Expr} (r : Room A (d + 1) (u + 3)) (ho : h.get? f = some o) (hd : o.data = .func (kla_fn name qual params body scope cl pm cdv ct)) (hlim : h.NoLimit) (hcd : h.CodeRec cdv qual)
    (hb : bindArgs (kla_fn name qual params body scope cl pm cdv ct) ⟨vs, []⟩ = pure binds)
    (hcell : ∀ x ∈ scope.names, x.2 ≠ .cell) (hloc : ∀ x ∈ binds, scope.names.lookup x.1 = some .local)
    (hco : scope.isCoroutine = false) (hgen : scope.isGenerator = false) (hk : scope.kind = .function)
    (H : ∀ L h₁, Fr h L h₁ (lk binds.reverse) → Room (A.deeper (envX qual scope L f cdv cl)) d u →
      wq c (A.deeper (envX qual scope L f cdv cl)) (eval body (envX qual scope L f cdv cl)) Q h₁) :
    wq c A (call (.ref f) vs) Q h := wq.of fun tk Q' k => by
  refine wpAny_call (kla_callFunE r.ok ho hd hco hgen rfl hcd ?_)
  rw [hb]
  refine wpAny_pure (wpAny_newFunctionEnv hcell hloc (fun h₁ hns hsb => ⟨hlim.fresh _ hsb, ?_⟩) hk)
  have hk₁ : ∀ b o, h.get? b = some o → h₁.get? b = some o := fun b o e => hsb.extBut b o (Nat.ne_of_lt (Heap.lt_size e)) (Heap.get?_push_of_some _ e)
  exact kla_codeExpr (wpAny_mono ((H h.objs.size h₁ ⟨hns, hk₁, Nat.le_refl _⟩ r.deeper).go (E := fun _ _ => False) fun v h' tk' q => k _ _ _ q) (fun _ _ x => x) fun _ _ x => x.elim)
end entry
end Mine
end
section
open PySem PySem.W PyProof.Rows PySem.Calls
set_option Elab.async false
set_option maxRecDepth 100000
set_option maxHeartbeats 4000000
set_option linter.unusedVariables false
namespace Mine
noncomputable abbrev K2 (c : Cx) : Frag := hd.heap_39 c.w.params

theorem ifmt {c : Cx} {A : Around} {h : Heap} {mg mb : Str → Option Value} {n : Int} {t : Tok} (r : Room A 1 3) (G : Gd (K2 c) mg mb h) :
    wq c A (call (.ref 21) [.int n t]) (fun v h' => (∃ t, v = .int (Builtin.bitAnd n 61440) t) ∧ Keep h h') h := by
  refine q_def (d := 0) (u := 0) (binds := [(Str.ofString "mode", .int n t)]) r (G.X 21 _ rfl) rfl G.lim (codeRec_of G.X rfl) (fun s _ => BindsTo.of_eq rfl) (by decide) (locs rfl) rfl rfl rfl ?_
  intro L h₁ F N r'
  refine s_cons ?_
  refine s_Return ?_
  refine q_BinOp ?_
  refine q_local F rfl rfl rfl rfl ?_
  refine q_int fun t => ?_
  refine q_and fun t => ?_
  exact ⟨⟨_, rfl⟩, F.keep⟩
end Mine
end
section
open PySem PySem.W PyProof.Rows PySem.Calls PySem.W.X
set_option Elab.async false
set_option maxRecDepth 100000
set_option maxHeartbeats 4000000
set_option linter.unusedVariables false
namespace Mine
theorem strs_snoc {s : Str} {t : Tok} : ∀ {vs : List Value} {ys : List Str}, StrsAre vs ys → StrsAre (vs ++ [.str s t]) (ys ++ [s])
  | _, _, .nil => .cons s t .nil
  | _, _, .cons n' t' h => .cons n' t' (strs_snoc h)
theorem strs_len : ∀ {vs : List Value} {ys : List Str}, StrsAre vs ys → vs.length = ys.length
  | _, _, .nil => rfl
  | _, _, .cons n' t' h => by simp [strs_len h]
section outer
variable {c : Cx} {A : Around} {h₀ : Heap} {L p : Addr} {env : Env} {pos : Pos}
theorem outer {index table : Str} {pi pt : Pos} {k' : Nat} {t : Addr} {items : Array Value} {body : List Stmt} {Q : Flow → Heap → Prop} (C : Nat → Nat) (hh : A.handled = none) (ht : ∃ o, h₀.get? t = some o ∧ o.cls = .type "tuple" ∧ ∃ n, o.data = .seq items n)
    (Fl : List (Str × Value) → Prop)
    (turn : ∀ (i : Nat) x u e it eo o l vs n h, items[i]? = some x → Fl l → vs.length = i → Led h₀ L (lk l) h ((e, eo) :: (it, o) :: (p, listOf vs.toArray n) :: []) →
      wq c A (assignInOrder ((assignEach [.Name index pi, .Name table pt] env).map (·.2)) [.int (i : Nat) u, x]) (fun _ h₂ => wq c A (execs body env) (fun f h₃ => f = .next ∧ ∃ l' tk, Fl l' ∧
        Led h₀ L (lk l') h₃ ((e, eo) :: (it, o) :: (p, listOf (vs ++ [.str ⟨#[C i]⟩ tk]).toArray (n + 1)) :: [])) h₂) h)
    (done : ∀ l vs n h, Fl l → Led h₀ L (lk l) h [(p, listOf vs.toArray n)] → StrsAre vs ((List.range items.size).map fun i => (⟨#[C i]⟩ : Str)) → wq c A (execs [] env) Q h) :
    ∀ (k i : Nat) (e it : Addr) (o : Obj) (old : Value) (l : List (Str × Value)) (vs : List Value) (n : Nat) (h : Heap), k = items.size - i → i ≤ items.size → IsTI o t i → Fl l → StrsAre vs ((List.range i).map fun i => (⟨#[C i]⟩ : Str)) →
      Led h₀ L (lk l) h ((e, enO it (i : Nat) old) :: (it, o) :: (p, listOf vs.toArray n) :: []) → wqL c A (.Tuple [.Name index pi, .Name table pt] k' pos) (.ref e) body [] env Q h := by
  intro k
  obtain ⟨ot, hot, hct, nt, hdt⟩ := ht
  have htk : ∀ h', Keep h₀ h' → h'.IsTuple t items := fun h' k => ⟨ot, k _ _ hot, hct, nt, hdt⟩
  induction k with
  | zero =>
    intro i e it o old l vs n h hk hi hI hl hS D
    have hie : i = items.size := n_zero hk hi
    subst hie
    exact n_enumEnd hh D hI htk ⟨ot, hot⟩ fun h' D' => done l vs n h' hl D' hS
  | succ k ih =>
    intro i e it o old l vs n h hk hi hI hl hS D
    have hil : i < items.size := n_lt hk
    refine n_enum hh D hI htk ⟨ot, hot⟩ (x := items[i]) (by simp [hil]) rfl rfl fun u o' old' h' hI' D' => ?_
    refine wq.mono (turn i items[i] u e it _ o' l vs n h' (by simp [hil]) hl (by rw [strs_len hS]; simp) D') fun _ h₂ H₂ => wq.mono H₂ fun f h₃ H₃ => ?_
    obtain ⟨rfl, l', tk, hl', D₃⟩ := H₃
    refine ih (i + 1) e it o' old' l' _ (n + 1) h₃ (n_next hk) (n_lt hk) hI' hl' ?_ D₃
    rw [List.range_succ, List.map_append]
    exact strs_snoc hS
end outer
theorem join10 (a b c d e f g h i j : Nat) : Txt.join (Str.ofString "") [⟨#[a]⟩, ⟨#[b]⟩, ⟨#[c]⟩, ⟨#[d]⟩, ⟨#[e]⟩, ⟨#[f]⟩, ⟨#[g]⟩, ⟨#[h]⟩, ⟨#[i]⟩, ⟨#[j]⟩] = ⟨#[a, b, c, d, e, f, g, h, i, j]⟩ := by
  rfl
noncomputable def fmTab : Nat → List (Int × Nat)
  | 0 => [(40960, 108), (49152, 115), (32768, 45), (24576, 98), (16384, 100), (8192, 99), (4096, 112)]
  | 1 => [(256, 114)]
  | 2 => [(128, 119)]
  | 3 => [(2112, 115), (2048, 83), (64, 120)]
  | 4 => [(32, 114)]
  | 5 => [(16, 119)]
  | 6 => [(1032, 115), (1024, 83), (8, 120)]
  | 7 => [(4, 114)]
  | 8 => [(2, 119)]
  | 9 => [(513, 116), (512, 84), (1, 120)]
  | _ => []
noncomputable def fmF (m : Int) (i : Nat) (b : Int) : Bool := if i = 0 then Builtin.bitAnd m 61440 == b else Builtin.bitAnd m b == b
noncomputable def fmD (i : Nat) : Nat := if i = 0 then 63 else 45
noncomputable def fmC (m : Int) (i : Nat) : Nat := pick (fmF m i) (fmD i) (fmTab i)
noncomputable def fmS (m : Int) : Str := ⟨#[fmC m 0, fmC m 1, fmC m 2, fmC m 3, fmC m 4, fmC m 5, fmC m 6, fmC m 7, fmC m 8, fmC m 9]⟩
noncomputable def fmIts : Array Value := #[.ref 29, .ref 31, .ref 33, .ref 37, .ref 39, .ref 41, .ref 45, .ref 47, .ref 49, .ref 53]
theorem pairs_cons {h : Heap} {T : Addr} {b : Int} {ch : Nat} {tb tc : Tok} {n : Nat} {o : Obj} {Ts : List Value} {es : List (Int × Nat)} (h4 : h.get? T = some o) (h5 : o.cls = .type "tuple") (h6 : o.data = .seq #[.int b tb, .str ⟨#[ch]⟩ tc] n)
    (r : ∀ (j : Nat) (b : Int) (ch : Nat), es[j]? = some (b, ch) → ∃ (T : Addr) (tb tc : Tok), Ts[j]? = some (Value.ref T) ∧ ∃ oT, h.get? T = some oT ∧ oT.cls = .type "tuple" ∧ ∃ n, oT.data = .seq #[.int b tb, .str ⟨#[ch]⟩ tc] n) :
    ∀ (j : Nat) (b' : Int) (ch' : Nat), ((b, ch) :: es)[j]? = some (b', ch') → ∃ (T' : Addr) (tb tc : Tok), (Value.ref T :: Ts)[j]? = some (Value.ref T') ∧ ∃ oT, h.get? T' = some oT ∧ oT.cls = .type "tuple" ∧ ∃ n, oT.data = .seq #[.int b' tb, .str ⟨#[ch']⟩ tc] n
  | 0, b', ch', e => by cases e; exact ⟨T, tb, tc, rfl, o, h4, h5, n, h6⟩
  | j + 1, b', ch', e => r j b' ch' e
theorem pairs_nil {h : Heap} : ∀ (j : Nat) (b : Int) (ch : Nat), ([] : List (Int × Nat))[j]? = some (b, ch) → ∃ (T : Addr) (tb tc : Tok), ([] : List Value)[j]? = some (Value.ref T) ∧ ∃ oT, h.get? T = some oT ∧ oT.cls = .type "tuple" ∧ ∃ n, oT.data = .seq #[.int b tb, .str ⟨#[ch]⟩ tc] n :=
  fun _ _ _ e => by cases e
theorem pairs_of {h : Heap} {t : Addr} {o : Obj} {n : Nat} {Ts : List Value} {es : List (Int × Nat)} (h1 : h.get? t = some o) (h2 : o.cls = .type "tuple") (h3 : o.data = .seq Ts.toArray n) (hl : Ts.length = es.length)
    (r : ∀ (j : Nat) (b : Int) (ch : Nat), es[j]? = some (b, ch) → ∃ (T : Addr) (tb tc : Tok), Ts[j]? = some (Value.ref T) ∧ ∃ oT, h.get? T = some oT ∧ oT.cls = .type "tuple" ∧ ∃ n, oT.data = .seq #[.int b tb, .str ⟨#[ch]⟩ tc] n) : Pairs h t Ts.toArray es :=
  ⟨⟨o, h1, h2, n, h3⟩, by simpa using hl, fun j b ch e => by
    obtain ⟨T, tb, tc, e1, r⟩ := r j b ch e
    exact ⟨T, tb, tc, by simpa using e1, r⟩⟩
theorem tabFact {c : Cx} {h : Heap} {mg mb : Str → Option Value} (G : Gd (K2 c) mg mb h) : ∀ (i : Nat) (x : Value), fmIts[i]? = some x → ∃ T its, x = .ref T ∧ Pairs h T its (fmTab i)
  | 0, x, e => by cases e; exact ⟨29, _, rfl, pairs_of (G.X 29 _ rfl) rfl rfl rfl (pairs_cons (G.X 22 _ rfl) rfl rfl <| pairs_cons (G.X 23 _ rfl) rfl rfl <| pairs_cons (G.X 24 _ rfl) rfl rfl <| pairs_cons (G.X 25 _ rfl) rfl rfl <| pairs_cons (G.X 26 _ rfl) rfl rfl <| pairs_cons (G.X 27 _ rfl) rfl rfl <| pairs_cons (G.X 28 _ rfl) rfl rfl pairs_nil)⟩
  | 1, x, e => by cases e; exact ⟨31, _, rfl, pairs_of (G.X 31 _ rfl) rfl rfl rfl (pairs_cons (G.X 30 _ rfl) rfl rfl pairs_nil)⟩
  | 2, x, e => by cases e; exact ⟨33, _, rfl, pairs_of (G.X 33 _ rfl) rfl rfl rfl (pairs_cons (G.X 32 _ rfl) rfl rfl pairs_nil)⟩
  | 3, x, e => by cases e; exact ⟨37, _, rfl, pairs_of (G.X 37 _ rfl) rfl rfl rfl (pairs_cons (G.X 34 _ rfl) rfl rfl <| pairs_cons (G.X 35 _ rfl) rfl rfl <| pairs_cons (G.X 36 _ rfl) rfl rfl pairs_nil)⟩
  | 4, x, e => by cases e; exact ⟨39, _, rfl, pairs_of (G.X 39 _ rfl) rfl rfl rfl (pairs_cons (G.X 38 _ rfl) rfl rfl pairs_nil)⟩
  | 5, x, e => by cases e; exact ⟨41, _, rfl, pairs_of (G.X 41 _ rfl) rfl rfl rfl (pairs_cons (G.X 40 _ rfl) rfl rfl pairs_nil)⟩
  | 6, x, e => by cases e; exact ⟨45, _, rfl, pairs_of (G.X 45 _ rfl) rfl rfl rfl (pairs_cons (G.X 42 _ rfl) rfl rfl <| pairs_cons (G.X 43 _ rfl) rfl rfl <| pairs_cons (G.X 44 _ rfl) rfl rfl pairs_nil)⟩
  | 7, x, e => by cases e; exact ⟨47, _, rfl, pairs_of (G.X 47 _ rfl) rfl rfl rfl (pairs_cons (G.X 46 _ rfl) rfl rfl pairs_nil)⟩
  | 8, x, e => by cases e; exact ⟨49, _, rfl, pairs_of (G.X 49 _ rfl) rfl rfl rfl (pairs_cons (G.X 48 _ rfl) rfl rfl pairs_nil)⟩
  | 9, x, e => by cases e; exact ⟨53, _, rfl, pairs_of (G.X 53 _ rfl) rfl rfl rfl (pairs_cons (G.X 50 _ rfl) rfl rfl <| pairs_cons (G.X 51 _ rfl) rfl rfl <| pairs_cons (G.X 52 _ rfl) rfl rfl pairs_nil)⟩
  | n + 10, x, e => by
    have : fmIts.size = 10 := rfl
    have h2 := (Array.getElem?_eq_some_iff.mp e).1
    omega
end Mine
end
section
open PySem PySem.W PyProof.Rows PySem.Calls PySem.W.X
set_option Elab.async false
set_option maxRecDepth 100000
set_option maxHeartbeats 4000000
set_option linter.unusedVariables false
namespace Mine
theorem n_enumerate (c : Cx) : nsIn (K2 c) mainGlobals (Str.ofString "enumerate") = some none := by kernel_rfl
theorem n_table (c : Cx) : nsIn (K2 c) mainGlobals (Str.ofString "_filemode_table") = some (some (.ref 54)) := by kernel_rfl
theorem n_ifmt (c : Cx) : nsIn (K2 c) mainGlobals (Str.ofString "S_IFMT") = some (some (.ref 21)) := by kernel_rfl
theorem filemode {c : Cx} {A : Around} {h : Heap} {mg mb : Str → Option Value} {n : Int} {t : Tok} (r : Room A 2 6) (G : Gd (K2 c) mg mb h) :
    wq c A (call (.ref 61) [.int n t]) (fun v h' => (∃ t, v = .str (fmS n) t) ∧ Keep h h') h := by
  refine q_def (d := 1) (u := 3) (binds := [(Str.ofString "mode", .int n t)]) r (G.X 61 _ rfl) rfl G.lim (codeRec_of G.X rfl) (fun s _ => BindsTo.of_eq rfl) (by decide) (locs rfl) rfl rfl rfl ?_
  intro L h₁ F N r'
  refine wq.gen fun Q0 k0 => ?_
  have D := led_start F
  clear F N
  refine s_cons (s_Assign rfl (q_List (a_nil (d_newList D (by decide) fun p h₂ D => d_store D rfl rfl fun h₃ D => ?_))))
  refine s_cons (s_For (fun _ => rfl) (q_CallN (d_builtin D G (n_enumerate c) boot_enumerate (by decide +kernel) rfl rfl rfl (q_callWith rfl rfl (a_cons rfl (d_global D G (n_table c) rfl rfl rfl (a_nil ⟨kp_type, ?_⟩)))))))
  refine c_enum D (D.fr.keep _ _ (G.X 54 _ rfl)) fun e it o h₄ hI D => i_enum (j := 0) D rfl ?_
  refine outer (items := fmIts) (fmC n) r'.handled ⟨_, G.X 54 _ rfl, rfl, _, rfl⟩ (fun l => (∃ t, lk l (Str.ofString "mode") = some (.int n t)) ∧ lk l (Str.ofString "perm") = some (.ref p)) ?turn ?done 10 0 e it o .none _ [] 0 h₄ rfl (by decide) hI ⟨⟨_, rfl⟩, rfl⟩ .nil D
  case done =>
    intro l vs k h₅ hl D hS
    refine s_nil ?_
    show wq c _ (execs _ _) _ _
    refine s_cons (s_Return (q_Method rfl (q_str fun _ => m_join ?_)))
    refine q_callWith rfl rfl (a_cons rfl (d_local D hl.2 rfl rfl rfl (a_nil ⟨kp_bi, ?_⟩)))
    refine c_join (its := vs.toArray) (led_isList (i := 0) D rfl) (by simpa using hS) (Nat.le_trans (Nat.le_of_eq (show _ = 10 from rfl)) (by decide)) fun t => k0 _ _ ⟨⟨t, ?_⟩, D.fr.keep⟩
    exact congrArg (Value.str · t) (join10 ..)
  case turn =>
    intro i x u e it eo o l vs k h₅ hx hl hlen D
    obtain ⟨T, its, rfl, P⟩ := tabFact G i x hx
    obtain ⟨⟨tm, hm⟩, hp⟩ := hl
    refine g_two (d_store D rfl rfl fun h₆ D => d_store D rfl rfl fun h₇ D => ?_)
    refine wq.gen fun Q1 k1 => ?_
    obtain ⟨⟨ot, hot, hct, nt, hdt⟩, _⟩ := id P
    refine s_cons (s_For (fun _ => rfl) (d_local D rfl rfl rfl rfl (i_tuple D ⟨ot, D.fr.keep _ _ hot, hct, nt, hdt⟩ fun I o₂ h₈ hI₂ D => ?_)))
    have hz : vs.toArray.size ≤ sizeLine := by
      have : i < 10 := (Array.getElem?_eq_some_iff.mp hx).1
      have h16 : 10 ≤ sizeLine := by decide
      simp only [List.size_toArray]; omega
    refine search (f := fmF n i) (d := fmD i) r'.handled P (fun l => (∃ t, lk l (Str.ofString "mode") = some (.int n t)) ∧ lk l (Str.ofString "perm") = some (.ref p) ∧ ∃ u, lk l (Str.ofString "index") = some (.int i u)) ?step ?els _ 0 I o₂ _ h₈ rfl (Nat.zero_le _) (fun j _ _ hj => absurd hj (Nat.not_lt_zero j)) hI₂ ?fl D
    case fl => exact ⟨⟨tm, hm⟩, hp, u, rfl⟩
    case step =>
      intro b ch tb tc I' o' l' h₉ hpk hl D
      obtain ⟨⟨tm, hm⟩, hp, u, hu⟩ := hl
      have fin : pick (fmF n i) (fmD i) (fmTab i) = ch → ∀ {hh : Heap}, Led h L (lk ((Str.ofString "char", Value.str ⟨#[ch]⟩ tc) :: (Str.ofString "bit", Value.int b tb) :: l')) hh ((I', o') :: (e, eo) :: (it, o) :: (p, listOf (vs.toArray.push (Value.str ⟨#[ch]⟩ tc)) (k + 1)) :: []) → ∃ l' tk, ((∃ t, lk l' (Str.ofString "mode") = some (.int n t)) ∧ lk l' (Str.ofString "perm") = some (.ref p)) ∧ Led h L (lk l') hh ((e, eo) :: (it, o) :: (p, listOf (vs ++ [Value.str ⟨#[fmC n i]⟩ tk]).toArray (k + 1)) :: []) := fun hc hh D => ⟨((Str.ofString "char", Value.str ⟨#[ch]⟩ tc) :: (Str.ofString "bit", Value.int b tb) :: l'), tc, ⟨⟨tm, hm⟩, hp⟩, by
        have e1 : (vs ++ [Value.str ⟨#[fmC n i]⟩ tc]).toArray = vs.toArray.push (Value.str ⟨#[ch]⟩ tc) := by
          rw [← hc]; simp [fmC]
        rw [e1]; exact led_tail D⟩
      refine g_two (d_store D rfl rfl fun h₁₀ D => d_store D rfl rfl fun h₁₁ D => ?_)
      refine s_cons (s_If (t_Compare rfl (d_local D hu rfl rfl rfl (q_int fun t => q_eq (t_bool ?_)))))
      by_cases hi : i = 0
      · rw [if_pos (show (((i : Nat) : Int) == 0) = true by subst hi; rfl)]
        refine s_cons (s_If (t_Compare rfl (q_CallN (d_global D G (n_ifmt c) rfl rfl rfl (q_callWith rfl rfl (a_cons rfl (d_local D hm rfl rfl rfl (a_nil ⟨kp_fn ((G.keeps D.fr.keep).X 21 _ rfl) rfl, ?_⟩))))))))
        refine wq.mono (ifmt (r'.le (by decide) (by decide)) (G.keeps D.fr.keep)) fun v hh H => ?_
        obtain ⟨⟨t', rfl⟩, kp⟩ := H
        have D := led_grow D kp
        refine d_local D rfl rfl rfl rfl (q_eq (t_bool ?_))
        have hF : fmF n i b = (Builtin.bitAnd n 61440 == b) := by simp [fmF, hi]
        rw [← hF]
        by_cases hf : fmF n i b = true
        · rw [if_pos hf]
          refine s_cons (s_Expr rfl rfl (q_Method rfl (d_local D hp rfl rfl rfl (m_append (D.at 3 rfl) (q_callWith rfl rfl (a_cons rfl (d_local D rfl rfl rfl rfl (a_nil ⟨kp_bi, c_append (j := 3) D rfl hz fun hh D => ⟨rfl, s_cons (s_Break ⟨fun _ => .inl ?_, fun h0 => absurd (hf.symm.trans h0) (by decide)⟩)⟩⟩))))))))
          exact s_nil (k1 _ _ ⟨rfl, fin (hpk hf) D⟩)
        · rw [if_neg hf]
          exact s_nil (s_nil (s_nil ⟨fun h0 => absurd h0 hf, fun _ => ⟨rfl, ((Str.ofString "char", Value.str ⟨#[ch]⟩ tc) :: (Str.ofString "bit", Value.int b tb) :: l'), ⟨⟨tm, hm⟩, hp, u, hu⟩, D⟩⟩))
      · rw [if_neg (show ¬ (((i : Nat) : Int) == 0) = true by simp; omega)]
        refine s_cons (s_If (t_Compare rfl (q_BinOp (d_local D hm rfl rfl rfl (d_local D rfl rfl rfl rfl (q_and fun t => d_local D rfl rfl rfl rfl (q_eq (t_bool ?_))))))))
        have hF : fmF n i b = (Builtin.bitAnd n b == b) := by simp [fmF, hi]
        rw [← hF]
        by_cases hf : fmF n i b = true
        · rw [if_pos hf]
          refine s_cons (s_Expr rfl rfl (q_Method rfl (d_local D hp rfl rfl rfl (m_append (D.at 3 rfl) (q_callWith rfl rfl (a_cons rfl (d_local D rfl rfl rfl rfl (a_nil ⟨kp_bi, c_append (j := 3) D rfl hz fun hh D => ⟨rfl, s_cons (s_Break ⟨fun _ => .inl ?_, fun h0 => absurd (hf.symm.trans h0) (by decide)⟩)⟩⟩))))))))
          exact s_nil (k1 _ _ ⟨rfl, fin (hpk hf) D⟩)
        · rw [if_neg hf]
          exact s_nil (s_nil (s_nil ⟨fun h0 => absurd h0 hf, fun _ => ⟨rfl, ((Str.ofString "char", Value.str ⟨#[ch]⟩ tc) :: (Str.ofString "bit", Value.int b tb) :: l'), ⟨⟨tm, hm⟩, hp, u, hu⟩, D⟩⟩))
    case els =>
      intro l' h₉ hl D hpk
      obtain ⟨⟨tm, hm⟩, hp, u, hu⟩ := hl
      have fin : ∀ {ch tc}, fmD i = ch → ∀ {hh : Heap}, Led h L (lk l') hh ((e, eo) :: (it, o) :: (p, listOf (vs.toArray.push (Value.str ⟨#[ch]⟩ tc)) (k + 1)) :: []) → ∃ l' tk, ((∃ t, lk l' (Str.ofString "mode") = some (.int n t)) ∧ lk l' (Str.ofString "perm") = some (.ref p)) ∧ Led h L (lk l') hh ((e, eo) :: (it, o) :: (p, listOf (vs ++ [Value.str ⟨#[fmC n i]⟩ tk]).toArray (k + 1)) :: []) := fun {ch tc} hc hh D => ⟨l', tc, ⟨⟨tm, hm⟩, hp⟩, by
        have e1 : (vs ++ [Value.str ⟨#[fmC n i]⟩ tc]).toArray = vs.toArray.push (Value.str ⟨#[ch]⟩ tc) := by
          rw [← hc]; simp [fmC, hpk]
        rw [e1]; exact D⟩
      refine s_cons (s_If (t_Compare rfl (d_local D hu rfl rfl rfl (q_int fun t => q_eq (t_bool ?_)))))
      by_cases hi : i = 0
      · rw [if_pos (show (((i : Nat) : Int) == 0) = true by subst hi; rfl)]
        refine s_cons (s_Expr rfl rfl (q_Method rfl (d_local D hp rfl rfl rfl (m_append (D.at 2 rfl) (q_callWith rfl rfl (a_cons rfl (q_str fun tc => a_nil ⟨kp_bi, c_append (j := 2) D rfl hz fun hh D => ⟨rfl, s_nil (s_nil (s_nil (k1 _ _ ⟨rfl, fin (by simp [fmD, hi]) D⟩)))⟩⟩)))))))
      · rw [if_neg (show ¬ (((i : Nat) : Int) == 0) = true by simp; omega)]
        refine s_cons (s_Expr rfl rfl (q_Method rfl (d_local D hp rfl rfl rfl (m_append (D.at 2 rfl) (q_callWith rfl rfl (a_cons rfl (q_str fun tc => a_nil ⟨kp_bi, c_append (j := 2) D rfl hz fun hh D => ⟨rfl, s_nil (s_nil (s_nil (k1 _ _ ⟨rfl, fin (by simp [fmD, hi]) D⟩)))⟩⟩)))))))
end Mine
end
section
open PySem PySem.W PyProof.Rows PySem.Calls PySem.W.X
set_option Elab.async false
set_option maxRecDepth 100000
set_option maxHeartbeats 4000000
set_option linter.unusedVariables false
namespace Mine
/-- the body of the class that cmp_to_key makes -/
noncomputable def clsBody (c : Cx) : List Stmt := match (K2 c).lookup 68 with
  | some ⟨_, _, .func fd, _⟩ => (match fd.body with
    | .stmts (.ClassDef _ _ _ body _ _ _ _ _ _ _ :: _) => body
    | _ => [])
  | _ => []
/-- one of its methods, as a function -/
noncomputable def mFn (c : Cx) (i : Nat) (clos : List (Str × Addr)) (doc pm : Value) (c' : Addr) (ctv : Value) : Obj := match (clsBody c)[i + 2]? with
  | some (.FunctionDef n ps b _ _ _ sc _ _ _) => fnMade n (Str.ofString "cmp_to_key.<locals>.K." ++ n) ps b sc clos doc pm c' ctv
  | _ => default
noncomputable abbrev mName : Nat → Str
  | 0 => Str.ofString "__init__"
  | 1 => Str.ofString "__lt__"
  | 2 => Str.ofString "__gt__"
  | 3 => Str.ofString "__eq__"
  | 4 => Str.ofString "__le__"
  | _ => Str.ofString "__ge__"
noncomputable abbrev mClos (cel : Addr) : Nat → List (Str × Addr)
  | 0 => []
  | _ => [(Str.ofString "mycmp", cel)]
structure KeyF (c : Cx) (K : Frag) (C ns p cel : Addr) (f cc : Nat → Addr) (mv : Value) : Prop where
  cls : ∃ k0 k1 k2 k3 k5 nm bs q, K.lookup C = some (excClassObj nm q C ns bs [.type "object"] false [Str.ofString "obj"] [] false none none k0 k1 k2 k3 k5 "object.__new__")
  dict : ∃ o es n, K.lookup ns = some o ∧ o.data = .dict es n ∧ StrKeys es ∧ nsFind es (Str.ofString "__eq__") = some (.ref (f 3)) ∧ nsFind es (Str.ofString "__ne__") = none
  own : ∀ i, i < 6 → nsIn K ns (mName i) = some (some (.ref (f i)))
  obj : nsIn K ns (Str.ofString "obj") = some (some (.ref p))
  ga : nsIn K ns (Str.ofString "__getattribute__") = some none
  gb : nsIn K ns (Str.ofString "__getattr__") = some none
  sa : nsIn K ns (Str.ofString "__setattr__") = some none
  ne : nsIn K ns (Str.ofString "__ne__") = some none
  desc : ∃ t, K.lookup p = some ⟨.type "member_descriptor", none, .fields #[.str (Str.ofString "obj") t, .ref C, .builtin "proto.slot", .builtin "proto.slot#set", rawInt 0], #[]⟩
  cell : ∃ o, K.lookup cel = some o ∧ o.data = .cell (some mv)
  fn : ∀ i, i < 6 → ∃ doc pm ctv, K.lookup (f i) = some (mFn c i (mClos cel i) doc pm (cc i) ctv)
  code : ∀ i, i < 6 → ∃ o vs t, K.lookup (cc i) = some o ∧ o.data = .fields vs ∧ vs[1]? = some (.str (Str.ofString "cmp_to_key.<locals>.K." ++ mName i) t)
section facts
variable {c : Cx} {K : Frag} {C ns p cel : Addr} {f cc : Nat → Addr} {mv : Value}
theorem KeyF.find (Y : KeyF c K C ns p cel f cc mv) {name : Str} {v : Value} (e : nsIn K ns name = some (some v)) : findIn K (.ref C) name = some (some v) := by
  obtain ⟨k0, k1, k2, k3, k5, nm, bs, q, hC⟩ := Y.cls
  simp only [findIn, hC, alongIn, ownIn, e]
theorem KeyF.miss (Y : KeyF c K C ns p cel f cc mv) {name : Str} (e : nsIn K ns name = some none) : findIn K (.ref C) name = some (fastBuiltinOwn "object" name) := by
  obtain ⟨k0, k1, k2, k3, k5, nm, bs, q, hC⟩ := Y.cls
  simp only [findIn, hC, alongIn, ownIn, e]
  cases fastBuiltinOwn "object" name <;> rfl
theorem KeyF.clsIn (Y : KeyF c K C ns p cel f cc mv) : ∃ nm bs q, clsIn K C = some { name := nm, bases := bs, mro := [.ref C, .type "object"], ns := ns, qualname := q, hasDict := false, slotNames := [Str.ofString "obj"] } := by
  obtain ⟨k0, k1, k2, k3, k5, nm, bs, q, hC⟩ := Y.cls
  exact ⟨nm, bs, q, by simp only [PySem.W.clsIn, hC]⟩
theorem KeyF.fnT (Y : KeyF c K C ns p cel f cc mv) {i : Nat} (hi : i < 6) (hT : ∀ doc pm ctv, ∃ d sl fd, mFn c i (mClos cel i) doc pm (cc i) ctv = ⟨.type "function", d, .func fd, sl⟩) : typeIn K (.ref (f i)) = some (.type "function") := by
  obtain ⟨doc, pm, ctv, e⟩ := Y.fn i hi
  obtain ⟨d, sl, fd, e2⟩ := hT doc pm ctv
  simp only [typeIn, e, e2]; rfl
theorem KeyF.plain (Y : KeyF c K C ns p cel f cc mv) (name : Str) : plainGet K C name = true := by
  unfold plainGet
  rw [Y.miss Y.ga, Y.miss Y.gb]
  kernel_rfl
theorem KeyF.makes (Y : KeyF c K C ns p cel f cc mv) : makesIn K C = true := by
  obtain ⟨k0, k1, k2, k3, k5, nm, bs, q, hC⟩ := Y.cls
  have t1 : typeIn K (.ref C) = some (.type "type") := by simp only [typeIn, hC]; rfl
  have t2 : specialIn K (.ref C) "__call__" = some (some (.builtin "type.__call__")) := by
    simp only [specialIn, t1, Option.bind_some]; kernel_rfl
  have t3 : instIn K (.ref C) (.type "type") = some true := by
    simp only [instIn, t1, Option.bind_some]; kernel_rfl
  simp only [makesIn, hC, t2, t3]
  simp
theorem KeyF.slot (Y : KeyF c K C ns p cel f cc mv) : slotIn K p C = some 0 := by
  obtain ⟨t, e⟩ := Y.desc
  obtain ⟨nm, bs, q, hC⟩ := Y.clsIn
  simp [slotIn, recIn, e, hC, rawInt]
theorem KeyF.spec (Y : KeyF c K C ns p cel f cc mv) (name : Str) : specialIn K (.ref p) name = fastLookup "member_descriptor" name := by
  obtain ⟨t, e⟩ := Y.desc
  simp only [specialIn, typeIn, e, findIn]; rfl
theorem KeyF.get (Y : KeyF c K C ns p cel f cc mv) : specialIn K (.ref p) "__get__" = some (some (.builtin "member_descriptor.__get__")) := by
  rw [Y.spec]; kernel_rfl
theorem KeyF.takes (Y : KeyF c K C ns p cel f cc mv) : takesIn K (.ref p) = some true := by
  unfold takesIn
  rw [Y.spec]; kernel_rfl
theorem KeyF.taker (Y : KeyF c K C ns p cel f cc mv) : takerIn K C (Str.ofString "obj") = some (some (.ref p)) := by
  unfold takerIn
  rw [Y.find Y.obj]
  simp [Y.takes]
theorem KeyF.over (Y : KeyF c K C ns p cel f cc mv) : plainOver K C = true := by
  obtain ⟨nm, bs, q, hC⟩ := Y.clsIn
  simp [plainOver, hC, onlyObject]
end facts
end Mine
end
section
open PySem PySem.W PyProof.Rows PySem.Calls PySem.W.X
set_option Elab.async false
set_option maxRecDepth 100000
set_option maxHeartbeats 4000000
set_option linter.unusedVariables false
namespace Mine
/-- the class of the keys stands in the heap -/
noncomputable def KeyC (c : Cx) (h : Heap) (C : Addr) (mv : Value) : Prop := ∃ K ns p cel f cc, KeyF c K C ns p cel f cc mv ∧ K.In h
theorem KeyC.keeps {c : Cx} {h h' : Heap} {C : Addr} {mv : Value} (x : KeyC c h C mv) (k : Keep h h') : KeyC c h' C mv := let ⟨K, ns, p, cel, f, cc, Y, X⟩ := x; ⟨K, ns, p, cel, f, cc, Y, X.keeps k⟩
/-- a key for an int -/
noncomputable def KeyO (h : Heap) (x C : Addr) (s : Int) : Prop := ∃ dx t od, h.get? x = some ⟨.ref C, some dx, .plain, #[some (.int s t)]⟩ ∧ h.get? dx = some od
theorem KeyO.keeps {h h' : Heap} {x C : Addr} {s : Int} (y : KeyO h x C s) (k : Keep h h') : KeyO h' x C s := let ⟨dx, t, od, a, b⟩ := y; ⟨dx, t, od, k _ _ a, k _ _ b⟩
section
variable {c : Cx} {A : Around} {h h₀ : Heap} {mg mb : Str → Option Value} {K : Frag} {C ns p cel x y : Addr} {f cc : Nat → Addr} {mv : Value} {L a : Addr} {m : Str → Option Value} {env : Env} {pos : Pos}
theorem q_Attr {n attr : Str} {np : Pos} {Q : Value → Heap → Prop} (H : wq c A (eval (.Name n np) env) (fun o h₁ => wq c A (getAttr o attr true) Q h₁) h) : wq c A (eval (.Attribute (.Name n np) attr pos) env) Q h :=
  wq.of fun _ _ k => Attribute_name (H.go fun _ _ _ H₁ => H₁.go k)
theorem q_obj {s : Int} {Q : Value → Heap → Prop} (F : Fr h₀ L h m) (Y : KeyF c K C ns p cel f cc mv) (X : K.In h₀) (O : KeyO h x C s) (q : ∀ t, Q (.int s t) h) : wq c A (getAttr (.ref x) (Str.ofString "obj") true) Q h := by
  obtain ⟨dx, t, od, e, ed⟩ := O
  exact wq.of fun _ _ k => get_slot (ox := ⟨.ref C, some dx, .plain, #[some (.int s t)]⟩) (od := od) F X ⟨e, rfl, rfl, ed⟩ (Y.plain _) (by unfold isClsIn; obtain ⟨nm, bs, q, e⟩ := Y.clsIn; rw [e]; rfl) (Y.find Y.obj) Y.get Y.takes Y.slot (v := .int s t) rfl rfl (k _ _ _ (q t))
theorem KeyF.codeRec (Y : KeyF c K C ns p cel f cc mv) (X : K.In h) {i : Nat} (hi : i < 6) : h.CodeRec (.ref (cc i)) (Str.ofString "cmp_to_key.<locals>.K." ++ mName i) := by
  obtain ⟨o, vs, t, e, d, q⟩ := Y.code i hi
  exact ⟨cc i, o, vs, t, rfl, X _ _ e, d, q⟩
theorem fnShape {i : Nat} (hi : i < 6) (cl : List (Str × Addr)) (c' : Addr) : ∀ doc pm ctv, ∃ d sl fd, mFn c i cl doc pm c' ctv = ⟨.type "function", d, .func fd, sl⟩ := by
  intro doc pm ctv
  match i, hi with
  | 0, _ => exact ⟨_, _, _, rfl⟩
  | 1, _ => exact ⟨_, _, _, rfl⟩
  | 2, _ => exact ⟨_, _, _, rfl⟩
  | 3, _ => exact ⟨_, _, _, rfl⟩
  | 4, _ => exact ⟨_, _, _, rfl⟩
  | 5, _ => exact ⟨_, _, _, rfl⟩
/-- what the comparison answers at two values -/
theorem m_lt {s₁ s₂ z : Int} {lam : Addr} {ol : Obj} {fd : FuncData} (r : Room A 4 12) (G : Gd (K2 c) mg mb h) (Y : KeyF c K C ns p cel f cc (.ref lam)) (X : K.In h) (O₁ : KeyO h x C s₁) (O₂ : KeyO h y C s₂) (hl : h.get? lam = some ol) (hld : ol.data = .func fd)
    (CM : ∀ A h' t u, Room A 3 9 → Keep h h' → wq c A (call (.ref lam) [.int s₁ t, .int s₂ u]) (fun v h'' => (∃ t, v = .int z t) ∧ Keep h' h'') h') :
    wq c A (call (.ref (f 1)) [.ref x, .ref y]) (fun v h' => v = .bool (decide (z < 0)) ∧ Keep h h') h := by
  obtain ⟨doc, pm, ctv, e⟩ := Y.fn 1 (by decide)
  refine q_def (d := 3) (u := 9) (binds := [(Str.ofString "self", .ref x), (Str.ofString "other", .ref y)]) r (X _ _ e) rfl G.lim ?a ?b ?c ?d ?e ?f ?g ?_
  case a => exact Y.codeRec X (i := 1) (by decide)
  case b => exact fun s _ => BindsTo.of_eq rfl
  case c => decide
  case d => exact locs rfl
  case e => exact rfl
  case f => exact rfl
  case g => exact rfl
  intro L h₁ F N r'
  have D := led_start F
  obtain ⟨oc, ec, dc⟩ := Y.cell
  refine s_cons ?_
  refine s_Return ?_
  refine qC ?_
  refine q_CallN ?_
  refine q_free (cA := cel) rfl (F.keep _ _ (X _ _ ec)) dc rfl rfl rfl rfl ?_
  refine qw ?_
  refine ac ?_
  refine q_Attr ?_
  refine dl D ?_
  refine q_obj F Y X (O₁.keeps F.keep) fun t1 => ?_
  refine ac ?_
  refine q_Attr ?_
  refine dl D ?_
  refine q_obj F Y X (O₂.keeps F.keep) fun t2 => ?_
  refine a_nil ⟨kp_fn (F.keep _ _ hl) hld, ?_⟩
  refine wq.mono (CM _ _ t1 t2 r' F.keep) fun v h₂ H => ?_
  obtain ⟨⟨t3, rfl⟩, k₂⟩ := H
  refine q_int fun t4 => ?_
  refine q_lt ?_
  exact ⟨rfl, Keep.trans F.keep k₂⟩
theorem m_gt {s₁ s₂ z : Int} {lam : Addr} {ol : Obj} {fd : FuncData} (r : Room A 4 12) (G : Gd (K2 c) mg mb h) (Y : KeyF c K C ns p cel f cc (.ref lam)) (X : K.In h) (O₁ : KeyO h x C s₁) (O₂ : KeyO h y C s₂) (hl : h.get? lam = some ol) (hld : ol.data = .func fd)
    (CM : ∀ A h' t u, Room A 3 9 → Keep h h' → wq c A (call (.ref lam) [.int s₁ t, .int s₂ u]) (fun v h'' => (∃ t, v = .int z t) ∧ Keep h' h'') h') :
    wq c A (call (.ref (f 2)) [.ref x, .ref y]) (fun v h' => v = .bool (decide (0 < z)) ∧ Keep h h') h := by
  obtain ⟨doc, pm, ctv, e⟩ := Y.fn 2 (by decide)
  refine q_def (d := 3) (u := 9) (binds := [(Str.ofString "self", .ref x), (Str.ofString "other", .ref y)]) r (X _ _ e) rfl G.lim ?a ?b ?c ?d ?e ?f ?g ?_
  case a => exact Y.codeRec X (i := 2) (by decide)
  case b => exact fun s _ => BindsTo.of_eq rfl
  case c => decide
  case d => exact locs rfl
  case e => exact rfl
  case f => exact rfl
  case g => exact rfl
  intro L h₁ F N r'
  have D := led_start F
  obtain ⟨oc, ec, dc⟩ := Y.cell
  refine s_cons ?_
  refine s_Return ?_
  refine qC ?_
  refine q_CallN ?_
  refine q_free (cA := cel) rfl (F.keep _ _ (X _ _ ec)) dc rfl rfl rfl rfl ?_
  refine qw ?_
  refine ac ?_
  refine q_Attr ?_
  refine dl D ?_
  refine q_obj F Y X (O₁.keeps F.keep) fun t1 => ?_
  refine ac ?_
  refine q_Attr ?_
  refine dl D ?_
  refine q_obj F Y X (O₂.keeps F.keep) fun t2 => ?_
  refine a_nil ⟨kp_fn (F.keep _ _ hl) hld, ?_⟩
  refine wq.mono (CM _ _ t1 t2 r' F.keep) fun v h₂ H => ?_
  obtain ⟨⟨t3, rfl⟩, k₂⟩ := H
  refine q_int fun t4 => ?_
  refine q_gt ?_
  exact ⟨rfl, Keep.trans F.keep k₂⟩
end
end Mine
end
section
open PySem PySem.W PyProof.Rows PySem.Calls PySem.W.X
set_option Elab.async false
set_option maxRecDepth 100000
set_option maxHeartbeats 4000000
set_option linter.unusedVariables false
namespace Mine
theorem s_AssignAttr {c : Cx} {A : Around} {h : Heap} {env : Env} {o value : Expr} {attr : Str} {p' pos : Pos} {Q : Flow → Heap → Prop}
    (H : wq c A (eval value env) (fun v h₁ => wq c A (eval o env) (fun ov h₂ => wq c A (setAttr ov attr v) (fun _ h₃ => Q .next h₃) h₂) h₁) h)
    (hs : swapsWith value (some (.Attribute o attr p')) pos.line env = pure false := by exact rfl) : wq c A (exec (.Assign [.Attribute o attr p'] value pos) env) Q h :=
  wq.of fun _ _ k => plainObj_wpAny_Assign_Attribute (H.go fun _ _ _ H₁ => H₁.go fun _ _ _ H₂ => H₂.go fun _ _ _ q => k _ _ _ q) hs
section
variable {c : Cx} {A : Around} {h : Heap} {f : Addr} {vs : List Value} {R : Result → Shared → Prop} {o : Obj} {name qual : Str} {params : Arguments} {body : List Stmt} {scope : Scope} {cl : List (Str × Addr)} {dV kV doc pm cdv ct : Value} {an : Option Addr} {binds : List (Str × Value)} {d u tk : Nat}
theorem c_def (r : Room A (d + 1) (u + 3)) (ho : h.get? f = some o) (hd : o.data = .func (fnX name qual params body scope cl dV kV doc pm an cdv ct)) (hlim : h.NoLimit) (hcd : h.CodeRec cdv qual)
    (hb : ∀ s : Shared, s.heap = h → BindsTo s (fnX name qual params body scope cl dV kV doc pm an cdv ct) ⟨vs, []⟩ binds)
    (hcell : ∀ x ∈ scope.names, x.2 ≠ .cell) (hloc : ∀ x ∈ binds, scope.names.lookup x.1 = some .local)
    (hco : scope.isCoroutine = false) (hgen : scope.isGenerator = false) (hk : scope.kind = .function)
    (H : ∀ L h₁, Fr h L h₁ (lk binds.reverse) → Room (A.deeper (envX qual scope L f cdv cl)) d u →
      wq c (A.deeper (envX qual scope L f cdv cl)) (execs body (envX qual scope L f cdv cl)) (fun fl h' => ∀ tk', R (.ok (.ret (match fl with | .ret v => v | _ => .none))) (c.st h' tk')) h₁) :
    codeAny c.M A (.call (.ref f) ⟨vs, []⟩) R (c.st h tk) :=
  codeAny_call_def (fd := fnX name qual params body scope cl dV kV doc pm an cdv ct) (body := body) (binds := binds) r.ok ho hd hlim hcd rfl (hb _ rfl) hcell hloc
    (fun h₁ hns hkp => wpAny_mono ((H h.objs.size h₁ ⟨hns, hkp, Nat.le_refl _⟩ r.deeper).go (E := fun _ _ => False) fun v h' tk' q => q tk') (fun _ _ x => x) fun _ _ x => x.elim) hco hgen hk
end
theorem newKey {c : Cx} {A : Around} {h : Heap} {mg mb : Str → Option Value} {C : Addr} {s : Int} {mv : Value} {t : Tok} (r : Room A 3 9) (G : Gd (K2 c) mg mb h) (Kc : KeyC c h C mv) :
    wq c A (call (.ref C) [.int s t]) (fun v h' => ∃ x dx, v = .ref x ∧ h'.get? x = some ⟨.ref C, some dx, .plain, #[some (.int s t)]⟩ ∧ h'.get? dx = some emptyDict ∧ h.objs.size ≤ dx ∧ dx < x ∧ Keep h h') h := by
  obtain ⟨K, ns, p, cel, f, cc, Y, X⟩ := Kc
  refine wq.of fun tk Q' k => wpAny_call (make_core (makes_of X Y.makes) (looks_findIn X (Y.find (Y.own 0 (by decide)))) (fun self => bind_fn X self (Y.fnT (i := 0) (by decide) (fnShape (by decide) _ _))) (.inl rfl) ?_)
  obtain ⟨doc, pm, ctv, e⟩ := Y.fn 0 (by decide)
  have k1 : Keep h ((h.push emptyDict).push (instObj C h.objs.size)) := fun b o e => Heap.get?_push_of_some _ (Heap.get?_push_of_some _ e)
  have hx : ((h.push emptyDict).push (instObj C h.objs.size)).get? (h.objs.size + 1) = some (instObj C h.objs.size) := by heap_get
  have hdx : ((h.push emptyDict).push (instObj C h.objs.size)).get? h.objs.size = some emptyDict := by heap_get
  have hfresh : h.get? (h.objs.size + 1) = none := Heap.get?_none_of_le (Nat.le_succ _)
  generalize hH : (h.push emptyDict).push (instObj C h.objs.size) = H at *
  have hu : (Code.builtin "type.__call__" ⟨[.ref C, .int s t], []⟩).cUnits ≤ 6 := by
    show _ ≤ _
    exact Nat.le_of_ble_eq_true rfl
  have r1 : Room (A.under (.builtin "type.__call__" ⟨[.ref C, .int s t], []⟩)) 1 3 := ⟨r.handled, Nat.lt_of_le_of_lt (show A.depth + 1 + 1 ≤ A.depth + 3 by omega) r.depth, by have := r.units; show A.units + (Code.builtin "type.__call__" ⟨[.ref C, .int s t], []⟩).cUnits + 3 < 9900; omega⟩
  refine c_def (d := 0) (u := 0) (c := c) (binds := [(Str.ofString "self", .ref (h.objs.size + 1)), (Str.ofString "obj", .int s t)]) r1 (k1 _ _ (X _ _ e)) rfl (G.lim.keeps k1) ((Y.codeRec X (i := 0) (by decide)).keeps k1) ?b ?c ?d ?e ?f ?g ?_
  case b => exact fun s _ => BindsTo.of_eq rfl
  case c => decide
  case d => exact locs rfl
  case e => exact rfl
  case f => exact rfl
  case g => exact rfl
  intro L h₁ F r2
  have F' : Fr (hideAll H [h.objs.size + 1]) L h₁ (lk [(Str.ofString "self", .ref (h.objs.size + 1)), (Str.ofString "obj", .int s t)].reverse) := ⟨F.ns, fun b o e => F.keep b o (of_hideAll _ e), Nat.le_trans (Nat.le_of_eq (hideAll_size _ _)) F.above⟩
  have N' : News (hideAll H [h.objs.size + 1]) L h₁ [(h.objs.size + 1, instObj C h.objs.size)] := fun p hp => by
    rw [List.mem_singleton.mp hp]
    exact ⟨F.keep _ _ hx, Nat.ne_of_lt (Nat.lt_of_lt_of_le (Heap.lt_size hx) F.above), hideAll_none _ (.head _)⟩
  have D : Led (hideAll H [h.objs.size + 1]) L (lk [(Str.ofString "self", .ref (h.objs.size + 1)), (Str.ofString "obj", .int s t)].reverse) h₁ [(h.objs.size + 1, instObj C h.objs.size)] := ⟨F', N', by simp⟩
  have kh : Keep h (hideAll H [h.objs.size + 1]) := fun b o e => hideAll_get _ (k1 _ _ e) (fun q => by rw [List.mem_singleton.mp q, hfresh] at e; cases e)
  have hdx' : (hideAll H [h.objs.size + 1]).get? h.objs.size = some emptyDict := hideAll_get _ hdx (fun q => absurd (List.mem_singleton.mp q) (Nat.ne_of_lt (Nat.lt_succ_self _)))
  refine s_cons ?_
  refine s_AssignAttr ?_
  refine dl D ?_
  refine dl D ?_
  refine wq.of fun tk₂ Q₂ kk => set_slot (ox := instObj C h.objs.size) (ox' := ⟨.ref C, some h.objs.size, .plain, #[some (.int s t)]⟩) (od := emptyDict) F' (X.keeps kh) N' ⟨F.keep _ _ hx, rfl, rfl, F.keep _ _ hdx⟩ ((Y.miss Y.sa).trans (by kernel_rfl)) Y.over Y.taker (by obtain ⟨t, e⟩ := Y.desc; simp only [typeIn, e]; rfl) Y.slot (by decide) (by rfl) rfl (.head (by simp)) fun h₂ F₂ N₂ => kk _ _ _ ?_
  refine s_nil fun tk' => ⟨rfl, k _ _ _ ⟨_, h.objs.size, rfl, (N₂ _ (.head _)).1, F₂.keep _ _ hdx', Nat.le_refl _, Nat.lt_succ_self _, fun b o e => F₂.keep _ _ (kh b o e)⟩⟩
end Mine
end
section
open PySem PySem.W PyProof.Rows PySem.Calls PySem.W.X
set_option Elab.async false
set_option maxRecDepth 100000
set_option linter.unusedVariables false
namespace Mine
theorem b_bc : bootBuiltins (Str.ofString "__build_class__") = some (.builtin "__build_class__") := by decide +kernel
theorem x_bc : Str.ofString "__build_class__" ≠ ("__name__" : Str) := by decide +kernel
/-- a class statement with one base and no decorator -/
theorem s_Class {c : Cx} {A : Around} {h : Heap} {env : Env} {name bind : Str} {base : Expr} {body : List Stmt} {scope : Scope} {x1 : Option Scope} {statics : List Str} {pos : Pos} {Q : Flow → Heap → Prop} {mb : Str → Option Value} (hb : env.builtins = builtinsNs) (b : h.Ns builtinsNs mb) (bi : ∀ x : Str, x ≠ "__name__" → mb x = bootBuiltins x)
    (he : starEach [base] env = [(false, eval base env)])
    (H : wq c A (eval base env) (fun bv h₁ => wq c A (buildClass name (qualnameIn env name bind) [bv] [] body scope statics pos.line env pos none) (fun cv h₂ => wq c A (storeName env bind cv) (fun _ h₃ => Q .next h₃) h₂) h₁) h) :
    wq c A (exec (.ClassDef name [base] [] body [] [] scope x1 bind statics pos) env) Q h := wq.of fun tk Q' k => by
  rw [arm_exec_ClassDef]
  refine wpAny_bind (wpAny_pure (wpAny_bind (wpAny_standAt (wpAny_bind ?_))))
  unfold buildClassGuard
  rw [hb]
  refine wpAny_bind (wpAny_nsGet b ?_)
  have e := (bi (Str.ofString "__build_class__") x_bc).trans b_bc
  rw [show mb "__build_class__" = some (.builtin "__build_class__") from e]
  refine wpAny_pure (wpAny_bind (wpAny_holding (wpAny_bind ?_)))
  unfold evalArgs
  rw [he]
  show wpAny _ _ (spliced (backTo pos [(false, eval base env)]) >>= _) _ _ _
  refine wpAny_bind ?_
  refine spliced_cons (H.go fun bv h₁ tk₁ H₁ => spliced_nil ?_)
  refine wpAny_bind (wpAny_pure (wpAny_holding ?_))
  refine wpAny_bind (wpAny_pure (wpAny_bind (wpAny_pure (wpAny_pure ?_))))
  refine wpAny_bind (wpAny_standAt (wpAny_holding ?_))
  refine H₁.go fun cv h₂ tk₂ H₂ => ?_
  refine wpAny_bind (wpAny_pure (wpAny_bind (wpAny_standAt (wpAny_bind (wpAny_bindName (H₂.go fun _ h₃ tk₃ q => wpAny_pure (k _ _ _ q)))))))
end Mine
end
section
open PySem PySem.W PyProof.Rows PySem.Calls PySem.W.X
set_option Elab.async false
set_option maxRecDepth 100000
set_option maxHeartbeats 400000
namespace Mine
noncomputable abbrev bigA : Around := { handled := none, depth := 955, frames := none, guards := none, units := 9760 }
theorem wpBig {α : Type} {M : Model} {A : Around} {t : Sem α} {Q : α → Shared → Prop} {E : Value → Shared → Prop} {s : Shared} (hh : A.handled = none) (hd : A.depth ≤ 955) (hu : A.units ≤ 9760) (H : wpAny M bigA t Q E s) : wpAny M A t Q E s :=
  fun Γ p hΓ => H Γ p ⟨hΓ.1.trans hh, Nat.le_trans hΓ.2.1 hd, fun l e => (nomatch e), fun g e => (nomatch e), Nat.le_trans hΓ.2.2.2.2 hu⟩
end Mine
end
section
open PySem PySem.W PyProof.Rows PySem.Calls PySem.W.X
set_option Elab.async false
set_option maxRecDepth 100000
set_option maxHeartbeats 400000
namespace Mine
local macro_rules | `(tactic| x_close) => `(tactic| (refine ⟨_, _, rfl, rfl, ?_⟩; assumption))
theorem ga (c : Cx) (h : Heap) (tk : Nat) (t : Tok) :
    wpAny (model c.prog c.w) bigA (getAttrBy (.type "type") (.str (Str.ofString "__prepare__") t) false) (fun v s' => ∃ a h', v = .ref a ∧ s' = ⟨h', c.g, c.d, tk, c.os⟩ ∧ Mem h h' [] [(a, { cls := .type "builtin_function_or_method", data := .fields #[.builtin "type.__prepare__", .type "type"] })]) (fun _ _ => False) ⟨h, c.g, c.d, tk, c.os⟩ := by
  x_run
end Mine
end
section
open PySem PySem.W PyProof.Rows PySem.Calls PySem.W.X
set_option Elab.async false
set_option maxRecDepth 100000
set_option linter.unusedVariables false
set_option maxHeartbeats 400000
namespace Mine
/-! a namespace's dict as a list of names with their values, in order -/
noncomputable def IsEs : List (Str × Value) → List DictEntry → Prop
  | [], [] => True
  | (x, v) :: l, e :: es => (∃ t, e.key = .str x t) ∧ e.val = v ∧ IsEs l es
  | _, _ => False
noncomputable def setL (l : List (Str × Value)) (x : Str) (v : Value) : List (Str × Value) := match l with
  | [] => [(x, v)]
  | (y, w) :: r => if y = x then (y, v) :: r else (y, w) :: setL r x v
noncomputable def delL (l : List (Str × Value)) (x : Str) : List (Str × Value) := match l with
  | [] => []
  | (y, w) :: r => if y = x then r else (y, w) :: delL r x
noncomputable def NsO (o : Obj) (l : List (Str × Value)) : Prop := o.cls = .type "dict" ∧ o.slots = #[] ∧ ∃ es n, o.data = .dict es n ∧ IsEs l es.toList
theorem isEs_str {l : List (Str × Value)} : ∀ {es : List DictEntry}, IsEs l es → ∀ e ∈ es, ∃ n t, e.key = .str n t := by
  induction l with
  | nil => intro es h e he; cases es with
    | nil => cases he
    | cons _ _ => exact h.elim
  | cons p l ih => intro es h e he; cases es with
    | nil => cases he
    | cons e' es =>
      obtain ⟨⟨t, hk⟩, hv, hr⟩ := h
      rcases List.mem_cons.mp he with rfl | he
      · exact ⟨_, t, hk⟩
      · exact ih hr e he
theorem isEs_find {l : List (Str × Value)} (x : Str) : ∀ {es : List DictEntry}, IsEs l es → (es.find? fun e => e.key.isStr x).map (·.val) = lk l x := by
  induction l with
  | nil => intro es h; cases es with
    | nil => rfl
    | cons _ _ => exact h.elim
  | cons p l ih => intro es h; cases es with
    | nil => exact h.elim
    | cons e es =>
      obtain ⟨⟨t, hk⟩, hv, hr⟩ := h
      show _ = List.lookup x ((p.1, p.2) :: l)
      rw [List.find?_cons, List.lookup_cons, hk]
      have hk2 : (Value.str p.1 t).isStr x = (p.1 == x) := rfl
      rw [hk2]
      by_cases e1 : p.1 = x
      · rw [show (p.1 == x) = true from beq_iff_eq.mpr e1, show (x == p.1) = true from beq_iff_eq.mpr e1.symm]
        simp [hv]
      · rw [show (p.1 == x) = false from beq_eq_false_iff_ne.mpr e1, show (x == p.1) = false from beq_eq_false_iff_ne.mpr (Ne.symm e1)]
        exact ih hr
theorem nsO_ns {h : Heap} {a : Addr} {o : Obj} {l : List (Str × Value)} (e : h.get? a = some o) (N : NsO o l) : h.Ns a (lk l) := by
  obtain ⟨hc, hs, es, n, hd, hI⟩ := N
  refine ⟨o, es, n, e, hd, fun e he => isEs_str hI e (Array.mem_toList_iff.mpr he), fun x => ?_⟩
  show (es.find? _).map _ = _
  rw [← isEs_find x hI, ← Array.find?_toList]
theorem isEs_put {x : Str} {v : Value} {hs : Int} {t : Tok} {l : List (Str × Value)} : ∀ {es : List DictEntry}, IsEs l es →
    IsEs (setL l x v) (nsPutIn x.cps.size x.cps.toList (fun | some e => { e with val := v } | none => ⟨hs, .str x t, v⟩) es).1 := by
  induction l with
  | nil => intro es h; cases es with
    | nil => exact ⟨⟨t, rfl⟩, rfl, trivial⟩
    | cons _ _ => exact h.elim
  | cons p l ih => intro es h; cases es with
    | nil => exact h.elim
    | cons e es =>
      obtain ⟨⟨t', hk⟩, hv, hr⟩ := h
      have hs : e.key.isStrByCps x.cps.size x.cps.toList = (p.1 == x) := by rw [Value.isStrByCps_eq, hk]; rfl
      simp only [nsPutIn, setL, hs]
      by_cases e1 : p.1 = x
      · rw [show (p.1 == x) = true from beq_iff_eq.mpr e1, if_pos e1]
        exact ⟨⟨t', hk⟩, rfl, hr⟩
      · rw [show (p.1 == x) = false from beq_eq_false_iff_ne.mpr e1, if_neg e1]
        exact ⟨⟨t', hk⟩, hv, ih hr⟩
theorem nsO_put {o : Obj} {x : Str} {v : Value} {hs : Int} {t : Tok} {l : List (Str × Value)} (N : NsO o l) : NsO (o.putName x hs (.str x t) v) (setL l x v) := by
  obtain ⟨hc, hsl, es, n, hd, hI⟩ := N
  obtain ⟨oc, od, dt, sl⟩ := o
  dsimp only at hc hsl hd
  subst hd
  have P := isEs_put (x := x) (v := v) (hs := hs) (t := t) hI
  unfold Obj.putName
  dsimp only
  generalize nsPutIn x.cps.size x.cps.toList (fun | some e => { e with val := v } | none => ⟨hs, .str x t, v⟩) es.toList = r at P
  obtain ⟨es', b⟩ := r
  cases b with
  | true => exact ⟨hc, hsl, es'.toArray, n + 1, rfl, P⟩
  | false => exact ⟨hc, hsl, es'.toArray, n, rfl, P⟩
theorem isEs_del {x : Str} {l : List (Str × Value)} : ∀ {es : List DictEntry}, IsEs l es → IsEs (delL l x) ((nsDropIn x.cps.size x.cps.toList es).getD es) := by
  induction l with
  | nil => intro es h; cases es with
    | nil => exact trivial
    | cons _ _ => exact h.elim
  | cons p l ih => intro es h; cases es with
    | nil => exact h.elim
    | cons e es =>
      obtain ⟨⟨t', hk⟩, hv, hr⟩ := h
      have hs : e.key.isStrByCps x.cps.size x.cps.toList = (p.1 == x) := by rw [Value.isStrByCps_eq, hk]; rfl
      simp only [nsDropIn, delL, hs]
      by_cases e1 : p.1 = x
      · rw [show (p.1 == x) = true from beq_iff_eq.mpr e1, if_pos e1]
        exact hr
      · rw [show (p.1 == x) = false from beq_eq_false_iff_ne.mpr e1, if_neg e1]
        have := ih hr
        simp only [Bool.false_eq_true, if_false]
        cases q : nsDropIn x.cps.size x.cps.toList es with
        | none => rw [q] at this; exact ⟨⟨t', hk⟩, hv, this⟩
        | some r => rw [q] at this; exact ⟨⟨t', hk⟩, hv, this⟩
theorem nsO_del {o : Obj} {x : Str} {l : List (Str × Value)} (N : NsO o l) : NsO (o.dropName x) (delL l x) := by
  obtain ⟨hc, hsl, es, n, hd, hI⟩ := N
  obtain ⟨oc, od, dt, sl⟩ := o
  dsimp only at hc hsl hd
  subst hd
  have P := isEs_del (x := x) hI
  unfold Obj.dropName
  dsimp only
  cases q : nsDropIn x.cps.size x.cps.toList es.toList with
  | none => rw [q] at P; exact ⟨hc, hsl, es, n, rfl, P⟩
  | some r => rw [q] at P; exact ⟨hc, hsl, r.toArray, n + 1, rfl, P⟩
theorem nsO_free {o : Obj} {l : List (Str × Value)} (N : NsO o l) : o.isFreed = false := by
  obtain ⟨hc, hsl, es, n, hd, hI⟩ := N
  exact Obj.isFreed_of_dict hd

section ops
variable {c : Cx} {A : Around} {h h₀ : Heap} {L a : Addr} {m : Str → Option Value} {news : List (Addr × Obj)} {i : Nat} {o : Obj} {l : List (Str × Value)} {x : Str} {v : Value}
theorem q_load {Q : Obj → Heap → Prop} (D : Led h₀ L m h news) (hi : news[i]? = some (a, o)) (q : Q o h) : wq c A (load a) Q h := wq.load (D.at i hi) q
theorem q_loadPart {p : Option Value} {Q : Obj → Heap → Prop} (D : Led h₀ L m h news) (hi : news[i]? = some (a, o)) (q : Q o h) : wq c A (loadPart a p) Q h := wq.of fun _ _ k => wpAny_loadPart (D.at i hi) (k _ _ _ q)
theorem led_upd {f : Obj → Obj} (D : Led h₀ L m h news) (hi : news[i]? = some (a, o)) (hf : (f o).isFreed = false) : Led h₀ L m (h.update a f) (news.set i (a, f o)) :=
  led_put D hi (Heap.SameBut.update ..) (Heap.get?_update_self f (D.at i hi) hf)
theorem q_update {f : Obj → Obj} {Q : Unit → Heap → Prop} (D : Led h₀ L m h news) (hi : news[i]? = some (a, o)) (hf : (f o).isFreed = false) (q : ∀ h', Led h₀ L m h' (news.set i (a, f o)) → Q () h') : wq c A (update a f) Q h :=
  wq.of fun _ _ k => wpAny_update (D.at i hi) (k _ _ _ (q _ (led_upd D hi hf)))
theorem q_updatePart {p : Option Value} {f : Obj → Obj} {Q : Unit → Heap → Prop} (D : Led h₀ L m h news) (hi : news[i]? = some (a, o)) (hf : (f o).isFreed = false) (q : ∀ h', Led h₀ L m h' (news.set i (a, f o)) → Q () h') : wq c A (updatePart a p f) Q h :=
  wq.of fun _ _ k => wpAny_updatePart (D.at i hi) (k _ _ _ (q _ (led_upd D hi hf)))
theorem q_alloc {Q : Addr → Heap → Prop} (D : Led h₀ L m h news) (hf : o.isFreed = false) (q : ∀ a h', Led h₀ L m h' ((a, o) :: news) → L < a → Q a h') : wq c A (alloc o) Q h :=
  wq.of fun _ _ k => wpAny_alloc (k _ _ _ (q _ _ (led_push D o hf) D.fr.ns.lt))
theorem q_newObj {T : String} {data : Data} {Q : Value → Heap → Prop} (D : Led h₀ L m h news) (hs : sizeOk data) (hf : ({ cls := .type T, data } : Obj).isFreed = false) (q : ∀ a h', Led h₀ L m h' ((a, { cls := .type T, data }) :: news) → L < a → Q (.ref a) h') : wq c A (newObj (.type T) data) Q h :=
  wq.of fun _ _ k => wpAny_newObj_type (k _ _ _ (q _ _ (led_push D _ hf) D.fr.ns.lt)) hs
theorem q_newTextTuple {items : List Value} {Q : Value → Heap → Prop} (D : Led h₀ L m h news) (q : ∀ a h', Led h₀ L m h' ((a, { cls := .type "tuple", data := .seq items.toArray }) :: news) → L < a → Q (.ref a) h') : wq c A (newTextTuple items) Q h :=
  wq.of fun _ _ k => wpAny_newTextTuple (k _ _ _ (q _ _ (led_push D _ rfl) D.fr.ns.lt))
theorem q_newTuple {items : List Value} {Q : Value → Heap → Prop} (D : Led h₀ L m h news) (hz : items.length ≤ sizeLine) (q : ∀ a h', Led h₀ L m h' ((a, { cls := .type "tuple", data := .seq items.toArray }) :: news) → L < a → Q (.ref a) h') : wq c A (newTuple items) Q h :=
  wq.of fun _ _ k => wpAny_newTuple (k _ _ _ (q _ _ (led_push D _ rfl) D.fr.ns.lt)) hz
theorem q_mkText {Q : Value → Heap → Prop} (q : ∀ t, Q (.str x t) h) : wq c A (mkText x) Q h := wq.of fun _ _ k => wpAny_mkText (k _ _ _ (q _))
theorem q_mkStr {Q : Value → Heap → Prop} (hz : x.length ≤ sizeLine) (q : ∀ t, Q (.str x t) h) : wq c A (mkStr x) Q h := wq.of fun _ _ k => wpAny_mkStr (k _ _ _ (q _)) hz
theorem q_mkInt {n : Int} {Q : Value → Heap → Prop} (q : ∀ t, Q (.int n t) h) : wq c A (mkInt n) Q h := wq.of fun _ _ k => wpAny_mkInt (k _ _ _ (q _))
theorem q_fresh {Q : Tok → Heap → Prop} (q : ∀ t, Q t h) : wq c A fresh Q h := wq.of fun _ _ k => wpAny_fresh (k _ _ _ (q _))
theorem q_eqp {α : Type} {t : Sem α} {r : α} {Q : α → Heap → Prop} (e : t = pure r) (q : Q r h) : wq c A t Q h := e ▸ wq.pure q
theorem b_eqp {α β : Type} {t : Sem α} {r : α} {f : α → Sem β} {Q : β → Heap → Prop} (e : t = pure r) (H : wq c A (f r) Q h) : wq c A (t >>= f) Q h := wq.bind (q_eqp e H)
theorem b_pure {α β : Type} {r : α} {f : α → Sem β} {Q : β → Heap → Prop} (H : wq c A (f r) Q h) : wq c A (pure r >>= f) Q h := wq.bind (wq.pure H)
theorem b_mkText {β : Type} {y : Str} {f : Value → Sem β} {Q : β → Heap → Prop} (H : ∀ t, wq c A (f (.str y t)) Q h) : wq c A (mkText y >>= f) Q h := wq.bind (q_mkText H)
theorem q_ns {mm : Str → Option Value} {Q : Option Value → Heap → Prop} (N : h.Ns a mm) (q : Q (mm x) h) : wq c A (nsGet a x) Q h := wq.of fun _ _ k => wpAny_nsGet N (k _ _ _ q)
theorem q_nsGet {Q : Option Value → Heap → Prop} (D : Led h₀ L m h news) (hi : news[i]? = some (a, o)) (N : NsO o l) (q : Q (lk l x) h) : wq c A (nsGet a x) Q h := q_ns (nsO_ns (D.at i hi) N) q
theorem q_strHash {Q : Int → Heap → Prop} (q : ∀ n, Q n h) : wq c A (strHash x) Q h := wq.of fun _ _ k => by
  unfold strHash
  exact wpAny_bind (wpAny_askSetting (wpAny_pure (k _ _ _ (q _))))
theorem q_nsSet {Q : Unit → Heap → Prop} (D : Led h₀ L m h news) (hi : news[i]? = some (a, o)) (N : NsO o l) (q : ∀ o' h', NsO o' (setL l x v) → Led h₀ L m h' (news.set i (a, o')) → Q () h') : wq c A (nsSet a x v) Q h := by
  unfold nsSet
  refine wq.bind (q_strHash fun n => wq.bind (q_mkText fun t => wq.bind (q_loadPart D hi ?_)))
  obtain ⟨hc, hsl, es, ep, hd, hI⟩ := id N
  rw [hd]
  dsimp only
  have hany : es.any (·.refKey) = false := by
    rw [Array.any_eq_false']; intro e he; obtain ⟨n, t, h⟩ := isEs_str hI e (Array.mem_toList_iff.mpr he); simp [DictEntry.refKey, h]
  rw [aRefKeyMayBeTheName_eq]
  simp only [aRefKeyMayBeTheNameByArray, hany, Bool.and_false, Bool.false_eq_true, if_false]
  refine wq.bind (wq.pure ?_)
  exact q_updatePart D hi (nsO_free (nsO_put N)) fun h' D' => q _ h' (nsO_put N) D'
theorem q_nsSetBV {Q : Unit → Heap → Prop} (D : Led h₀ L m h news) (hi : news[i]? = some (a, o)) (N : NsO o l) (hz : l.length ≤ sizeLine) (q : ∀ o' h', NsO o' (setL l x v) → Led h₀ L m h' (news.set i (a, o')) → Q () h') : wq c A (nsSetByValue a x v) Q h := by
  unfold nsSetByValue
  refine wq.bind (q_loadPart D hi ?_)
  obtain ⟨hc, hsl, es, ep, hd, hI⟩ := id N
  rw [hd]
  dsimp only
  have len : ∀ {l : List (Str × Value)} {es : List DictEntry}, IsEs l es → es.length = l.length := by
    intro l
    induction l with
    | nil => intro es h; cases es with
      | nil => rfl
      | cons _ _ => exact h.elim
    | cons p l ih => intro es h; cases es with
      | nil => exact h.elim
      | cons e es => simp [ih h.2.2]
  have h2 : ¬ es.size > sizeLine := by
    rw [← Array.length_toList, len hI]; omega
  rw [show (decide (es.size > sizeLine)) = false from decide_eq_false h2]
  simp only [Bool.false_and, Bool.false_eq_true, if_false]
  refine wq.bind (wq.pure ?_)
  exact q_nsSet D hi N q
theorem q_nsDel {Q : Bool → Heap → Prop} (D : Led h₀ L m h news) (hi : news[i]? = some (a, o)) (N : NsO o l) (hx : (lk l x).isSome = true) (q : ∀ o' h', NsO o' (delL l x) → Led h₀ L m h' (news.set i (a, o')) → Q true h') : wq c A (nsDel a x) Q h := by
  unfold nsDel
  refine wq.bind (q_loadPart D hi ?_)
  obtain ⟨hc, hsl, es, ep, hd, hI⟩ := id N
  have hh : nsHas x o = pure true := by
    rw [nsHas_eq, nsHasByArray, hd]
    have e1 := isEs_find x hI
    have : es.any (·.key.isStr x) = true := by
      rw [← Array.any_toList, List.any_eq_true]
      cases q : es.toList.find? fun e => e.key.isStr x with
      | none => rw [q] at e1; rw [← e1] at hx; cases hx
      | some e => exact ⟨e, List.mem_of_find?_eq_some q, List.find?_some (p := fun e : DictEntry => e.key.isStr x) q⟩
    simp only [this, if_true]
  rw [hh]
  refine wq.bind (wq.pure ?_)
  rw [if_pos rfl]
  refine wq.bind (q_updatePart D hi (nsO_free (nsO_del N)) fun h' D' => wq.pure (q _ h' (nsO_del N) D'))
end ops
end Mine
end
section
open PySem PySem.W PyProof.Rows PySem.Calls PySem.W.X
set_option Elab.async false
set_option maxRecDepth 100000
set_option linter.unusedVariables false
set_option maxHeartbeats 400000
namespace Mine
/-- a code object whose table lies at P -/
noncomputable def CdO (o : Obj) (P : Addr) : Prop := ∃ vs file tf flags tg inF text tt, o.cls = .type "code" ∧ o.data = .fields vs ∧ vs[11]? = some (.ref P) ∧ vs.getD 11 .none = .ref P ∧ vs.getD 18 .none = .str file tf ∧
    vs.getD 7 .none = .int flags tg ∧ vs.getD 9 .none = .bool inF ∧ vs.getD 10 .none = .int text tt
theorem CdO.hd {o : Obj} {P c : Addr} {h : Heap} (x : CdO o P) (e : h.get? c = some o) (ne : c ≠ P) : CodeHd h c P := by
  obtain ⟨vs, file, tf, flags, tg, inF, text, tt, a1, a2, a3, a4, a5, a6, a7, a8⟩ := x
  exact ⟨o, vs, file, tf, flags, tg, inF, text, tt, e, a1, a2, a3, a4, a5, a6, a7, a8, ne⟩
section
variable {c : Cx} {A : Around} {h h₀ : Heap} {L a : Addr} {m : Str → Option Value} {news : List (Addr × Obj)}
theorem q_newCode {ctx : CodeContext} {name qual : Str} {fl argc po ko flags : Nat} {free : List Str} {isF : Bool} {Q : Value → Heap → Prop} (D : Led h₀ L m h news)
    (q : ∀ c' P' oc T oT h', CdO oc P' → Led h₀ L m h' ((c', oc) :: (P', tabObj #[]) :: (T, oT) :: news) → Q (.ref c') h') : wq c A (newCode ctx name qual fl argc po ko flags free isF) Q h := by
  unfold newCode
  refine b_mkText fun t1 => wq.bind (q_mkText fun t2 => wq.bind (q_mkText fun t3 => ?_))
  refine wq.bind (wq.of fun tk Q' k => wpAny_mkStrs fun fs => ?_)
  refine k fs h _ ?_
  refine wq.bind (q_newTextTuple D fun T h₁ D hT => ?_)
  refine wq.bind (q_alloc (o := tabObj #[]) D rfl fun P' h₂ D hP => ?_)
  refine b_pure (wq.bind (wq.pure (wq.bind (wq.pure ?_))))
  refine wq.bind (q_fresh fun t4 => wq.bind (q_mkText fun t5 => ?_))
  unfold newFields
  refine q_newObj D (by size_fits) rfl fun c' h₃ D hc => q c' P' _ T _ h₃ ?_ D
  exact ⟨_, _, _, _, _, _, _, _, rfl, rfl, rfl, rfl, rfl, rfl, rfl, rfl⟩
theorem q_classCode {env : Env} {cP P : Addr} {j : Nat} {ps : Array Value} {pos : Pos} {fl : Nat} {name qual : Str} {scope : Scope} {Q : Value → Heap → Prop} (D : Led h₀ L m h news) (hcode : env.code = .ref cP) (C : CodeHd h cP P) (hj : news[j]? = some (P, tabObj ps)) (hnf : codeAmong pos ps.toList = none) (ht : TriplesOk ps.toList)
    (q : ∀ c' P' oc T oT h', CdO oc P' → Led h₀ L m h' ((c', oc) :: (P', tabObj #[]) :: (T, oT) :: news.set j (P, tabObj (ps ++ #[rawInt pos.line, rawInt pos.col, .ref c']))) → Q (.ref c') h') : wq c A (classCode env pos fl name qual scope) Q h := by
  unfold classCode codeAt
  rw [hcode, if_neg (show ¬ ((Value.ref cP == Value.none) = true) from Bool.false_ne_true)]
  obtain ⟨o, vs, file, tf, flags, tg, inF, text, tt, e1, r1, r2, r3, r4, r5, r6, r7, r8, hne⟩ := C
  refine wq.bind (wq.of fun tk Q' k => wpAny_fieldsOf e1 r2 (k _ _ _ ?_))
  rw [r4]
  refine wq.bind (wq.of fun tk Q' k => wpAny_fieldsOf (D.at j hj) rfl (k _ _ _ ?_))
  rw [hnf, r5, r6, r7, r8]
  refine wq.bind (q_newCode D fun c' P' oc T oT h' hoc D' => ?_)
  have hj' : ((c', oc) :: (P', tabObj #[]) :: (T, oT) :: news)[j + 3]? = some (P, tabObj ps) := hj
  have hnew : Obj.mapFields (fun vs => if (codeAmong pos vs.toList).isSome = true then vs else vs ++ #[rawInt pos.line, rawInt pos.col, .ref c']) (tabObj ps) = tabObj (ps ++ #[rawInt pos.line, rawInt pos.col, .ref c']) := by
    simp only [Obj.mapFields, hnf]; rfl
  refine wq.bind (wq.of fun tk Q' k => wpAny_updateFieldsOfTheText (D'.at _ hj') rfl ?_)
  have D'' := led_upd (f := Obj.mapFields (fun vs => if (codeAmong pos vs.toList).isSome = true then vs else vs ++ #[rawInt pos.line, rawInt pos.col, .ref c'])) D' hj' (by rw [hnew]; rfl)
  rw [hnew] at D''
  refine k _ _ _ ?_
  have D3 : Led h₀ L m _ ((c', oc) :: (P', tabObj #[]) :: (T, oT) :: news.set j (P, tabObj (ps ++ #[rawInt pos.line, rawInt pos.col, .ref c']))) := D''
  have hl := (List.getElem?_eq_some_iff.mp hj).1
  refine wq.bind (wq.of fun tk Q' k => wpAny_fieldsOf (D3.at (j + 3) (a := P) (o := tabObj (ps ++ #[rawInt pos.line, rawInt pos.col, .ref c'])) (by
    show (news.set j _)[j]? = _
    rw [List.getElem?_set_self hl])) rfl (k _ _ _ ?_))
  rw [show (ps ++ #[rawInt pos.line, rawInt pos.col, Value.ref c']).toList = ps.toList ++ [rawInt pos.line, rawInt pos.col, .ref c'] by simp, codeAmong_snoc _ ht hnf]
  exact wq.pure (q c' P' oc T oT _ hoc D3)
end
end Mine
end
section
open PySem PySem.W PyProof.Rows PySem.Calls PySem.W.X
set_option Elab.async false
set_option maxRecDepth 100000
set_option linter.unusedVariables false
set_option maxHeartbeats 400000
namespace Mine
section
variable {c : Cx} {A : Around} {h h₀ : Heap} {L a : Addr} {m : Str → Option Value} {news : List (Addr × Obj)}
/-- a built-in's own tree -/
theorem q_builtinCode {id : String} {args : Args} {b : Builtin} {R : Result → Shared → Prop} {tk : Nat} (he : entryFor table id = some b)
    (H : wq c (A.under (.builtin id args)) (b args) (fun fin h' => ∃ v, fin = .done (.ret v) ∧ ∀ tk', R (.ok (.ret v)) (c.st h' tk')) h) : codeAny c.M A (.builtin id args) R (c.st h tk) := by
  refine codeAny_builtin he (wpAny_mono (H.go (E := fun _ _ => False) (Q' := fun fin s' => match fin with | .done f => R (.ok f) s' | .again c' => c'.quiet = true ∧ codeAny c.M A c' R s') fun fin h' tk' q => ?_) (fun _ _ x => x) fun _ _ x => x.elim)
  obtain ⟨v, rfl, q⟩ := q
  exact q tk'
/-- a bound built-in method called -/
theorem c_bound {id : String} {self : Value} {args : List Value} {b : Builtin} {Q : Value → Heap → Prop} (ho : h.get? a = some (Obj.mk (.type "builtin_function_or_method") none (.fields #[.builtin id, self]) #[]))
    (hq : (Code.builtin id ⟨self :: args, []⟩).quiet = true) (he : entryFor table id = some b)
    (H : wq c A.in1 (checkBoundCall id ⟨self :: args, []⟩) (fun _ h₁ => wq c (A.under (.builtin id ⟨self :: args, []⟩)) (b ⟨self :: args, []⟩) (fun fin h' => ∃ v, fin = .done (.ret v) ∧ Q v h') h₁) h) : wq c A (call (.ref a) args) Q h := by
  refine wq.of fun tk Q' k => wpAny_call (codeAny_of_tree ?_)
  rw [Around.under_plain (by rfl) (by rfl)]
  show wpAny _ _ (callAny (.ref a) ⟨args, []⟩) _ _ _
  unfold callAny
  refine wpAny_bind (wpAny_load ho ?_)
  dsimp only
  rw [if_pos (by rfl)]
  show wpAny _ _ (do checkBoundCall id ⟨self :: args, []⟩; again (.builtin id ⟨self :: args, []⟩)) _ _ _
  refine wpAny_bind (H.go fun _ h₁ tk₁ H₁ => ?_)
  refine wpAny_pure ⟨hq, q_builtinCode he (wq.mono H₁ fun fin h' ⟨v, e, q⟩ => ⟨v, e, fun tk' => k _ _ _ q⟩)⟩
theorem c_prep {x y : Value} {Q : Value → Heap → Prop} (D : Led h₀ L m h news) (ho : h.get? a = some (Obj.mk (.type "builtin_function_or_method") none (.fields #[.builtin "type.__prepare__", .type "type"]) #[]))
    (q : ∀ ns h', Led h₀ L m h' ((ns, { cls := .type "dict", data := .dict #[] }) :: news) → L < ns → Q (.ref ns) h') : wq c A (call (.ref a) [x, y]) Q h := by
  refine c_bound ho (by kernel_rfl) (entryFor_of_fast (b := Builtin.«type.__prepare__») (by kernel_rfl)) (q_eqp (r := ()) (by kernel_rfl) ?_)
  unfold Builtin.«type.__prepare__» newDict
  exact wq.bind (q_newObj D (by size_fits) rfl fun ns h' D hL => wq.pure ⟨_, rfl, q ns h' D hL⟩)
end
end Mine
end
section
open PySem PySem.W PyProof.Rows PySem.Calls PySem.W.X
set_option Elab.async false
set_option maxRecDepth 100000
set_option linter.unusedVariables false
set_option maxHeartbeats 400000
namespace Mine
noncomputable def Bq (mg : Str → Option Value) (h : Heap) : Prop := ∃ bm o, mg "__builtins__" = some (.ref bm) ∧ bm ≠ builtinsNs ∧ h.get? bm = some o ∧ o.cls = .type "module" ∧ o.dict = some builtinsNs ∧ o.data = .plain
/-- the class body's own names -/
noncomputable abbrev clsEnv (scope : Scope) (ns : Addr) (qual : Str) (c' fr : Addr) (clos : List (Str × Addr)) : Env :=
  { scope, locals := ns, globals := mainGlobals, qual := qual ++ ".", code := .ref c', frame := some fr, builtins := builtinsNs, cells := clos }
theorem wq.onRaise {α : Type} {c : Cx} {A : Around} {h : Heap} {t : Sem α} {k : Value → Sem Unit} {Q : α → Heap → Prop} (H : wq c A t Q h) : wq c A (t.onRaise k) Q h := wq.of fun _ _ kk => wpAny_onRaise (H.go kk)
/-- what is left of a class statement behind its body -/
noncomputable def tailB (c : Cx) (A : Around) (cenv : Env) (statics : List Str) (nameV basesT ns : Value) (Q : Value → Heap → Prop) (h : Heap) : Prop :=
  ∀ vs, wq c A (newTextTuple vs) (fun tv h₄ => wq c A (storeName cenv ("__static_attributes__" : Str) tv) (fun _ h₅ => wq c A (call (.type "type") [nameV, basesT, ns] []) Q h₅) h₄) h
section
variable {c : Cx} {A : Around} {h h₀ : Heap} {L a : Addr} {m : Str → Option Value} {news : List (Addr × Obj)} {i : Nat} {o : Obj} {l : List (Str × Value)} {x : Str} {v : Value} {env : Env}
theorem q_localSet {Q : Unit → Heap → Prop} (hl : env.locals = a) (D : Led h₀ L m h news) (hi : news[i]? = some (a, o)) (N : NsO o l) (q : ∀ o' h', NsO o' (setL l x v) → Led h₀ L m h' (news.set i (a, o')) → Q () h') : wq c A (localSet env x v) Q h := by
  unfold localSet
  rw [hl]
  refine wq.bind (q_load D hi ?_)
  rw [if_pos (by rw [N.1]; rfl)]
  exact q_nsSet D hi N q
theorem storeC_own (hk : env.scope.kind = .class) (hx : env.kindOf x = none) (hc : compilersOwnNames.contains x = true) : storeName env x v = localSet env x v := by
  unfold storeName
  rw [hx]
  simp only [Env.blockKind, hk, hc]
  rfl
theorem storeC_local (hk : env.scope.kind = .class) (hx : env.kindOf x = some .local) : storeName env x v = localSet env x v := by
  unfold storeName
  rw [hx]
  simp only [hk]
  rfl
theorem q_loadC {Q : Value → Heap → Prop} {mg : Str → Option Value} (hk : env.scope.kind = .class) (hx : env.kindOf x = none) (hc : compilersOwnNames.contains x = true) (hl : env.locals = a) (D : Led h₀ L m h news) (hi : news[i]? = some (a, o)) (N : NsO o l) (hnl : lk l x = none) (hgl : env.globals = mainGlobals) (g : h.Ns mainGlobals mg) (hv : mg x = some v) (q : Q v h) : wq c A (loadName env x) Q h := by
  unfold loadName
  rw [hx]
  simp only [Env.blockKind, hk, ScopeKind.isAnnotationScope, Bool.false_and, Bool.false_eq_true, if_false, hc, Bool.not_true]
  unfold localGet
  rw [hl]
  refine wq.bind (wq.bind (q_load D hi ?_))
  rw [if_pos (by rw [N.1]; rfl)]
  refine q_nsGet D hi N ?_
  rw [hnl]
  unfold loadGlobal
  rw [hgl]
  refine wq.bind (q_ns g ?_)
  rw [hv]
  exact wq.pure q
theorem q_build {name qual : Str} {body : List Stmt} {scope : Scope} {statics : List Str} {fl : Nat} {pos : Pos} {Q : Value → Heap → Prop} {cP P : Addr} {j : Nat} {ps : Array Value} {clos : List (Str × Addr)} {mg : Str → Option Value} {nv : Value}
    (D : Led h₀ L m h news) (hd : A.depth < 955) (hh : A.handled = none) (hu : A.units ≤ 9760)
    (hcode : env.code = .ref cP) (C : CodeHd h₀ cP P) (hj : news[j]? = some (P, tabObj ps)) (hnf : codeAmong pos ps.toList = none) (ht : TriplesOk ps.toList) (hgl : env.globals = mainGlobals) (g : h₀.Ns mainGlobals mg) (B : Bq mg h₀) (hn : mg "__name__" = some nv) (lim : h₀.NoLimit)
    (hcl : closureFor scope env = pure clos) (hk : scope.kind = .class) (h1 : scope.names.lookup ("__class__" : Str) = none) (h2 : scope.names.lookup ("__classdict__" : Str) = none) (h3 : scope.names.lookup ("__name__" : Str) = none) (h4 : scope.names.lookup ("__module__" : Str) = some .local) (h5 : scope.names.lookup ("__qualname__" : Str) = none) (h6 : scope.names.lookup ("__firstlineno__" : Str) = none)
    (hann : hasAnns body = false) (hdoc : docOf body = none) (hL : 2 ≤ L) 
    (H : ∀ bT nsA on P' c' oc T oT fr ofr t0 t1 t2 h', NsO on [("__module__", nv), ("__qualname__", .str qual t1), ("__firstlineno__", .int fl t2)] → CdO oc P' → Led h₀ L m h' ((fr, ofr) :: (c', oc) :: (P', tabObj #[]) :: (T, oT) :: (nsA, on) :: (bT, { cls := .type "tuple", data := .seq #[.type "object"] }) :: news.set j (P, tabObj (ps ++ #[rawInt pos.line, rawInt pos.col, .ref c']))) →
       wq c (A.deeper (clsEnv scope nsA qual c' fr clos)) (execs body (clsEnv scope nsA qual c' fr clos)) (fun _ h₂ => tailB c A (clsEnv scope nsA qual c' fr clos) statics (.str name t0) (.ref bT) (.ref nsA) Q h₂) h') :
    wq c A (buildClass name qual [.type "object"] [] body scope statics fl env pos none) Q h := by
  unfold buildClass
  refine wq.bind (q_newTuple D (by decide) fun bT h₁ D hbT => ?_)
  refine b_eqp (r := ([Value.type "object"], false)) (by rfl) ?_
  refine b_eqp (r := Value.type "type") (by rfl) ?_
  refine b_eqp (r := true) (by rfl) ?_
  rw [if_pos rfl]
  refine b_eqp (r := Value.type "type") (by kernel_rfl) ?_
  refine b_mkText fun t0 => ?_
  rw [if_neg (by decide)]
  refine b_pure (wq.holding ?_)
  refine wq.bind ?_
  unfold getAttr? getAttrBy?
  refine b_mkText fun t2 => ?_
  refine wq.bind (wq.of fun tk Q' k => wpAny_attempt (wpBig hh (by omega) hu (wpAny_mono (ga c h₁ tk t2) (fun v s' hv => ?_) fun _ _ x => x.elim)))
  obtain ⟨b, h₂, rfl, rfl, M⟩ := hv
  have kp : Keep h₁ h₂ := fun b' o' e => M.keep b' o' e (by simp [away])
  have hb := (M.nw _ (.head _)).1
  have D := led_grow D kp
  refine k _ h₂ _ ?_
  refine wq.pure ?_
  refine wq.bind (c_prep D hb fun nsA h₃ D hns => ?_)
  dsimp only
  refine b_eqp (r := ()) ?e1 ?_
  case e1 =>
    unfold notTheModulesDict
    rw [if_neg]
    rw [beq_iff_eq]
    show nsA ≠ 1
    exact Nat.ne_of_gt (Nat.lt_of_lt_of_le (by decide) (Nat.le_trans hL (Nat.le_of_lt hns)))
  refine wq.bind (wq.of fun tk Q' k => wpAny_specialOf (T := "dict") (r := some (.builtin "dict.__getitem__")) ⟨_, D.at 0 rfl, rfl⟩ (by rw [typeLookup_type, builtinLookup_eq_fast]; kernel_rfl) (k _ _ _ ?_))
  rw [if_neg (by decide)]
  refine wq.holding ?_
  rw [if_neg (by rw [h1]; decide)]
  refine b_pure ?_
  rw [if_neg (by rw [h2]; decide)]
  refine b_pure ?_
  refine wq.bind (q_classCode (j := j + 2) D hcode (C.keeps D.fr.keep) hj hnf ht fun c' P' oc T oT h₄ hoc D => ?_)
  obtain ⟨bm, ob, b1, b2, b3, b4, b5, b6⟩ := B
  rw [hgl]
  refine wq.bind (wq.of fun tk Q' k => wpAny_builtinsFor (g.keeps D.fr.keep) b1 b2 (D.fr.keep _ _ b3) b4 b5 b6 (k _ _ _ ?_))
  unfold newBodyFrame
  refine wq.bind (wq.bind (q_ns (g.keeps D.fr.keep) ?_))
  rw [hn]
  refine q_alloc D rfl fun fr h₅ D hfr => ?_
  rw [hcl]
  refine b_pure (wq.holding ?_)
  refine wq.bind (wq.of fun tk Q' k => wpAny_enterFrame (lim.keeps D.fr.keep) (by show A.depth < 1000; omega) (k _ _ _ ?_))
  refine wq.bind (wq.onRaise ?_)
  change wq c A (do
    storeName (clsEnv scope nsA qual c' fr clos) ("__module__" : Str) (← loadName (clsEnv scope nsA qual c' fr clos) ("__name__" : Str))
    storeName (clsEnv scope nsA qual c' fr clos) ("__qualname__" : Str) (← mkText qual)
    storeName (clsEnv scope nsA qual c' fr clos) ("__firstlineno__" : Str) (← mkInt fl)
    pure ()) _ h₅
  have on0 : NsO ({ cls := .type "dict", data := .dict #[] } : Obj) [] := ⟨rfl, rfl, #[], 0, rfl, trivial⟩
  refine wq.bind (q_loadC (a := nsA) (i := 4) hk h3 (by decide +kernel) rfl D rfl on0 rfl rfl (g.keeps D.fr.keep) hn ?_)
  rw [storeC_local (env := clsEnv scope nsA qual c' fr clos) hk h4]
  refine wq.bind (q_localSet (a := nsA) (i := 4) rfl D rfl on0 fun on h₆ N D => ?_)
  refine b_mkText fun t1 => ?_
  rw [storeC_own (env := clsEnv scope nsA qual c' fr clos) hk h5 (by decide +kernel)]
  refine wq.bind (q_localSet (a := nsA) (i := 4) rfl D rfl N fun on h₇ N D => ?_)
  refine wq.bind (q_mkInt fun t2 => ?_)
  rw [storeC_own (env := clsEnv scope nsA qual c' fr clos) hk h6 (by decide +kernel)]
  refine wq.bind (q_localSet (a := nsA) (i := 4) rfl D rfl N fun on h₈ N D => ?_)
  refine wq.pure ?_
  change wq c A (run (.body body (clsEnv scope nsA qual c' fr clos)) >>= fun _ =>
    (statics.mapM mkText >>= fun vs => newTextTuple vs >>= fun tv => storeName (clsEnv scope nsA qual c' fr clos) ("__static_attributes__" : Str) tv >>= fun _ => pure ()).onRaise (leavingAround (clsEnv scope nsA qual c' fr clos)) >>= fun _ =>
    call (.type "type") [.str name t0, .ref bT, .ref nsA] [] >>= fun cls => pure cls) Q h₈
  refine wq.bind (wq.of fun tk Q' k => wpAny_run (codeAny_body hann hdoc ?_))
  have HH := H bT nsA on P' c' oc T oT fr _ t0 t1 t2 h₈ N hoc D
  refine wpAny_mono (HH.go (E := fun _ _ => False) fun f h₉ tk' Hf => ?_) (fun _ _ x => x) fun _ _ x => x.elim
  refine k _ _ _ ?_
  refine wq.bind (wq.onRaise (wq.bind (wq.of fun tk Q' k => wpAny_mkStrs fun vs => k _ _ _ (wq.bind (wq.mono (Hf vs) fun tv h₁₀ H₁₀ => wq.bind (wq.mono H₁₀ fun _ h₁₁ H₁₁ => wq.pure ?_))))))
  exact wq.bind (wq.mono H₁₁ fun cv h₁₂ q => wq.pure q)
end
end Mine
end
section
open PySem PySem.W PyProof.Rows PySem.Calls PySem.W.X
set_option Elab.async false
set_option maxRecDepth 100000
set_option linter.unusedVariables false
set_option maxHeartbeats 400000
namespace Mine
noncomputable def CdR (o : Obj) (qual : Str) : Prop := ∃ vs t, o.data = .fields vs ∧ vs[1]? = some (.str qual t)
section
variable {c : Cx} {A : Around} {h h₀ : Heap} {L a P cc : Addr} {m mg : Str → Option Value} {news : List (Addr × Obj)} {i j : Nat} {o oc : Obj} {l : List (Str × Value)} {x : Str} {v : Value} {env : Env} {ps : Array Value} {pos : Pos}
theorem q_none {k : Nat} {Q : Value → Heap → Prop} (q : Q .none h) : wq c A (eval (.Constant .none k pos) env) Q h := wq.of fun _ _ kk => Constant_none (kk _ _ _ q)
theorem bq_at {T : Addr} {oT : Obj} (D : Led h₀ L m h news) (hj : news[j]? = some (T, oT)) (g : h₀.Ns mainGlobals mg) (B : Bq mg h₀) : h.BuiltinsAt mg T ∧ mainGlobals ≠ T := by
  obtain ⟨bm, ob, b1, b2, b3, b4, b5, b6⟩ := B
  have z := (D.nw _ (List.mem_of_getElem? hj)).2.2
  refine ⟨⟨bm, ob, b1, b2, fun q => ?_, fun q => ?_, D.fr.keep _ _ b3, b4, b5, b6⟩, fun q => ?_⟩
  · obtain ⟨o, es, ep, e, hd, _⟩ := g
    rw [q, e] at b3; cases b3; rw [hd] at b6; cases b6
  · rw [q, z] at b3; cases b3
  · obtain ⟨o, es, ep, e, hd, _⟩ := g
    rw [q, z] at e; cases e
theorem s_DefC {name qual : Str} {params : Arguments} {body : List Stmt} {scope : Scope} {clos : List (Str × Addr)} {Q : Flow → Heap → Prop} {oP : Obj} (D : Led h₀ L m h news) (hj : news[j]? = some (P, oP)) (hP : oP = tabObj ps) (hi : news[i]? = some (cc, oc)) (hoc : CdO oc P) (hne : cc ≠ P) (hcode : env.code = .ref cc) (hgl : env.globals = mainGlobals) (g : h₀.Ns mainGlobals mg) (B : Bq mg h₀) (ht : TriplesOk ps.toList) (hnf : codeAmong pos ps.toList = none)
    (hq : qualnameIn env name name = qual) (hcl : closureFor scope env = pure clos) (hd0 : params.defaults = []) (hk0 : params.kw_defaults = []) (ha : annTrees params none env = [])
    (q : ∀ f of c' ctv doc od oP' ps' h', of = fnMade name qual params body scope clos doc ((mg "__name__").getD .none) c' ctv → oP' = tabObj ps' → ps' = ps ++ #[rawInt pos.line, rawInt pos.col, .ref c'] → TriplesOk ps'.toList → Led h₀ L m h' ((f, of) :: (c', od) :: news.set j (P, oP')) → CdR od qual → L < c' → L < f →
      wq c A (storeName env name (.ref f)) (fun _ h₂ => Q .next h₂) h') :
    wq c A (exec (.FunctionDef name params body [] none [] scope none name pos) env) Q h := wq.of fun tk Q' k => by
  subst hP
  have hm := D.at j hj
  obtain ⟨hb, hgP⟩ := bq_at D hj g B
  refine nestDef_K hd0 hk0 ha ?_
  rw [hq]
  have hLh : L < h.objs.size := D.fr.ns.lt
  refine makeFunction_K (mg := mg) hcl hgl (g.keeps D.fr.keep) hcode (hoc.hd (D.at i hi) hne) hm ht hnf hgP hb fun c' ctv doc h' tk' hx hge hlt hrec htb => ?_
  have D₁ := led_putX D hj hx htb
  obtain ⟨c₂, od, vs, t, e₂, god, hdd, hvs⟩ := hrec
  cases e₂
  have D₂ := led_add D₁ god (fun p hp => ?below) (Nat.lt_of_lt_of_le hLh hge)
  case below =>
    rcases List.mem_or_eq_of_mem_set hp with hp | hp
    · exact Nat.lt_of_lt_of_le (Heap.lt_size (D.nw p hp).1) hge
    · rw [hp]; exact Nat.lt_of_lt_of_le (Heap.lt_size hm) hge
  exact (q _ _ c' ctv doc od _ _ _ rfl rfl rfl (by simpa using TriplesOk_snoc pos.line pos.col (.ref c') _ ht) (led_push D₂ _ rfl) ⟨vs, t, hdd, hvs⟩ (Nat.lt_of_lt_of_le hLh hge) (Nat.lt_trans (Nat.lt_of_lt_of_le hLh hge) hlt)).go fun _ _ _ q => k _ _ _ q
/-- a name of the class body is stored -/
theorem q_storeC {Q : Unit → Heap → Prop} (D : Led h₀ L m h news) (hi : news[i]? = some (a, o)) (N : NsO o l) (q : ∀ o' h', NsO o' (setL l x v) → Led h₀ L m h' (news.set i (a, o')) → Q () h') (hk : env.scope.kind = .class := by exact rfl) (hx : env.kindOf x = some .local := by exact rfl) (hl : env.locals = a := by exact rfl) : wq c A (storeName env x v) Q h := by
  rw [storeC_local hk hx]
  exact q_localSet hl D hi N q
end
end Mine
end
section
open PySem PySem.W PyProof.Rows PySem.Calls PySem.W.X
set_option Elab.async false
set_option maxRecDepth 100000
set_option linter.unusedVariables false
set_option maxHeartbeats 400000
namespace Mine
section
variable {c : Cx} {A : Around} {h h₀ : Heap} {L a : Addr} {m mg : Str → Option Value} {news : List (Addr × Obj)}
theorem c_builtin {id : String} {args : List Value} {b : Builtin} {Q : Value → Heap → Prop} (hp : plainId id = true) (he : entryFor table id = some b)
    (H : wq c A.in1 (checkBuiltinCall id ⟨args, []⟩) (fun _ h₁ => wq c A.in1 (b ⟨args, []⟩) (fun fin h' => ∃ v, fin = .done (.ret v) ∧ Q v h') h₁) h) : wq c A (call (.builtin id) args) Q h := by
  refine wq.of fun tk Q' k => wpAny_call (codeAny_of_tree ?_)
  rw [Around.under_plain (by rfl) (by rfl)]
  show wpAny _ _ (do checkBuiltinCall id ⟨args, []⟩; again (.builtin id ⟨args, []⟩)) _ _ _
  refine wpAny_bind (H.go fun _ h₁ tk₁ H₁ => ?_)
  refine wpAny_pure ⟨plainId_quiet hp _, q_builtinCode he ?_⟩
  rw [Around.under_plainId hp _]
  exact wq.mono H₁ fun fin h' ⟨v, e, q⟩ => ⟨v, e, fun tk' => k _ _ _ q⟩
theorem slot_type_init : Slot "type" "__init__" "type.__init__" := .of (owner := "type") (n := "__init__") (by rw [typeLookup_type, builtinLookup_eq_fast]; kernel_rfl) (by decide +kernel) (by decide +kernel) (by decide +kernel) (by first | exact .inl (by decide +kernel) | exact .inr (by decide +kernel)) (by rw [isSubtype_type]; kernel_rfl)
theorem c_typeCall {x y z : Value} {Q : Value → Heap → Prop}
    (HN : wq c A.in1.in1 (Builtin.«type.__new__» ⟨[.type "type", x, y, z], []⟩) (fun fin h' => ∃ C oC, fin = .done (.ret (.ref C)) ∧ h'.get? C = some oC ∧ oC.cls = .type "type" ∧ Q (.ref C) h') h) : wq c A (call (.type "type") [x, y, z]) Q h := by
  refine wq.of fun tk Q' kk => wpAny_call (codeAny_of_tree ?_)
  show wpAny _ _ (callAny (.type "type") _) _ _ _
  refine wpAny_pure ⟨Code.quiet_builtin _ (by decide +kernel), q_builtinCode F.entry_type_call ?_⟩
  rw [Around.under_plain (weight_type_call_type _ _ _) rfl]
  unfold Builtin.«type.__call__»
  dsimp only
  rw [if_pos (by decide), if_neg (by simp), if_neg (by simp)]
  rw [if_neg (Bool.eq_false_iff.mp (by kernel_rfl))]
  refine b_eqp (r := ()) (by kernel_rfl) ?_
  refine b_eqp (r := [.type "type", .type "object"]) (by rw [mroOf_type]; kernel_rfl) ?_
  rw [if_neg (by decide)]
  refine b_eqp (r := some "type.__new__") (by kernel_rfl) ?_
  refine b_pure ?_
  refine wq.bind (wq.holding (c_builtin (by decide +kernel) (entryFor_of_fast (b := Builtin.«type.__new__») (by kernel_rfl)) (q_eqp (r := ()) (by kernel_rfl) (wq.mono HN fun fin h' H' => ?_))))
  obtain ⟨C, oC, rfl, hC, hcl, q⟩ := H'
  refine ⟨_, rfl, ?_⟩
  refine wq.bind (wq.of fun tk Q' k => wpAny_isInstance (T := "type") (b := true) ⟨_, hC, hcl⟩ (by rw [isSubtype_type]; kernel_rfl) (k _ _ _ ?_))
  rw [if_neg (by decide)]
  refine wq.bind (wq.holding (wq.of fun tk Q' k => wpAny_callSpecial?_slot ⟨_, hC, hcl⟩ slot_type_init (wpAny_call_entry slot_type_init ⟨_, hC, hcl⟩ (entryFor_of_fast (b := Builtin.«type.__init__») (by kernel_rfl)) ?_ (by kernel_rfl))))
  unfold Builtin.«type.__init__»
  dsimp only
  refine wpAny_of_eq (a := Fin.done (Flow.ret Value.none)) (by rfl) ⟨_, rfl, k _ _ _ ?_⟩
  dsimp only
  rw [if_neg (by decide)]
  exact wq.pure ⟨_, rfl, fun tk' => kk _ _ _ q⟩
end
end Mine
end
section
open PySem PySem.W PyProof.Rows PySem.Calls PySem.W.X
set_option Elab.async false
set_option maxRecDepth 100000
set_option linter.unusedVariables false
set_option maxHeartbeats 400000
namespace Mine
section
local macro_rules | `(tactic| x_close) => `(tactic| (refine ⟨_, _, _, 1, rfl, rfl, ?_⟩; assumption))
theorem collectOne (c : Cx) (h : Heap) (tk : Nat) (x : Value) (sl : Addr) (n : Nat) (hs : h.get? sl = some (Obj.mk (.type "list") none (.seq #[x] n) #[])) :
    wpAny (model c.prog c.w) bigA (runValue (.builtin "proto.collect" ⟨[.ref sl], []⟩)) (fun v s' => ∃ a h' tk' n', v = .ref a ∧ s' = ⟨h', c.g, c.d, tk', c.os⟩ ∧ Mem h h' [] [(a, Obj.mk (.type "list") none (.seq #[x] n') #[])]) (fun _ _ => False) ⟨h, c.g, c.d, tk, c.os⟩ := by
  x_run
end
section
variable {c : Cx} {A : Around} {h h₀ : Heap} {L a : Addr} {m mg : Str → Option Value} {news : List (Addr × Obj)}
/-- what the dict of a class to be made must bear -/
structure ClsL (l : List (Str × Value)) (sl : Addr) (qual : Str) (tq : Tok) : Prop where
  slots : lk l "__slots__" = some (.ref sl)
  module : (lk l "__module__").isSome = true
  qualname : lk l "__qualname__" = some (.str qual tq)
  doc : lk l "__doc__" = none
  new : lk l "__new__" = none
  init : lk l "__init_subclass__" = none
  item : lk l "__class_getitem__" = none
  cell : lk l "__classcell__" = none
  dcell : lk l "__classdictcell__" = none
  del : lk l "__del__" = none
  obj : lk l "obj" = none
  eq : (lk l "__eq__").isSome = true
  hash : (lk l "__hash__").isSome = true
  short : l.length ≤ 100
theorem wq.no {α : Type} {p : Prop} [Decidable p] {t e : Sem α} {Q : α → Heap → Prop} (hp : ¬ p) (H : wq c A e Q h) : wq c A (if p then t else e) Q h := by rw [if_neg hp]; exact H
theorem wq.yes {α : Type} {p : Prop} [Decidable p] {t e : Sem α} {Q : α → Heap → Prop} (hp : p) (H : wq c A t Q h) : wq c A (if p then t else e) Q h := by rw [if_pos hp]; exact H
theorem q_entries {o : Obj} {es : Array DictEntry} {n : Nat} {p : Option Value} {Q : Array DictEntry → Heap → Prop} (ho : h.get? a = some o) (hd : o.data = .dict es n) (q : Q es h) : wq c A (dictEntries a p) Q h := by
  unfold dictEntries
  refine wq.bind (wq.of fun tk Q' k => wpAny_loadPart ho (k _ _ _ ?_))
  rw [hd]
  exact wq.pure q
theorem isEs_any {l : List (Str × Value)} {es : Array DictEntry} (hI : IsEs l es.toList) (x : Str) : es.any (fun e => e.key.isStr x) = (lk l x).isSome := by
  have e1 := isEs_find x hI
  rw [← e1, ← Array.any_toList]
  cases q : es.toList.find? fun e => e.key.isStr x with
  | none =>
    rw [List.find?_eq_none] at q
    have : es.toList.any (fun e => e.key.isStr x) = false := by
      rw [List.any_eq_false]; exact q
    rw [this]; rfl
  | some e =>
    have : es.toList.any (fun e => e.key.isStr x) = true := by
      rw [List.any_eq_true]; exact ⟨e, List.mem_of_find?_eq_some q, List.find?_some (p := fun e : DictEntry => e.key.isStr x) q⟩
    rw [this]; rfl
theorem isEs_len : ∀ {l : List (Str × Value)} {es : List DictEntry}, IsEs l es → es.length = l.length
  | [], [], _ => rfl
  | [], _ :: _, h => h.elim
  | _ :: _, [], h => h.elim
  | p :: l, e :: es, h => by simp [isEs_len h.2.2]
theorem q_for1 {α β : Type} {x : α} {b : β} {f : α → β → Sem (ForInStep β)} {Q : β → Heap → Prop} (H : wq c A (f x b) (fun r h₁ => Q (match r with | .done b => b | .yield b => b) h₁) h) : wq c A (forIn [x] b f) Q h := by
  rw [List.forIn_cons]
  refine wq.bind (wq.mono H fun r h₁ q => ?_)
  cases r with
  | done b => exact wq.pure q
  | yield b =>
    show wq c A (forIn [] b f) Q h₁
    rw [List.forIn_nil]; exact wq.pure q
theorem q_for1A {α β : Type} {x : α} {b : β} {f : α → β → Sem (ForInStep β)} {Q : β → Heap → Prop} (H : wq c A (f x b) (fun r h₁ => Q (match r with | .done b => b | .yield b => b) h₁) h) : wq c A (forIn #[x] b f) Q h := by
  rw [← Array.forIn_toList]
  exact q_for1 H
theorem q_slotsRead {es : Array DictEntry} {l : List (Str × Value)} {sl : Addr} {qual : Str} {tq t4 : Tok} {n : Nat} {Q : Builtin.Slots.Plan → Heap → Prop} (hd : A.depth ≤ 955) (hh : A.handled = none) (hu : A.units ≤ 9760) (hI : IsEs l es.toList) (X : ClsL l sl qual tq) (hs : h.get? sl = some (Obj.mk (.type "list") none (.seq #[.str "obj" t4] n) #[]))
    (q : ∀ h', Keep h h' → Q { names := ["obj"], dict := false, weak := false, inherited := [] } h') : wq c A (Builtin.Slots.read "K" [.type "object"] es) Q h := by
  unfold Builtin.Slots.read
  refine b_eqp (r := Value.type "object") (by kernel_rfl) ?_
  refine b_eqp (r := []) (by kernel_rfl) ?_
  refine b_eqp (r := false) (by kernel_rfl) ?_
  refine b_eqp (r := false) (by kernel_rfl) ?_
  refine b_eqp (r := false) (by kernel_rfl) ?_
  obtain ⟨e, he, hv⟩ : ∃ e, es.find? (fun e => e.key.isStr ("__slots__" : Str)) = some e ∧ e.val = .ref sl := by
    have e1 := isEs_find ("__slots__" : Str) hI
    rw [X.slots, Array.find?_toList] at e1
    cases q : es.find? fun e => e.key.isStr ("__slots__" : Str) with
    | none => rw [q] at e1; cases e1
    | some e => rw [q] at e1; exact ⟨e, rfl, Option.some.inj e1⟩
  rw [he]
  refine wq.bind (wq.rule ?_)
  rw [hv]
  refine wq.bind (wq.of fun tk Q' k => wpAny_bind (wpAny_load hs (wpAny_pure (k _ _ _ ?_))))
  refine wq.no (by decide) ?_
  refine wq.bind ?_
  unfold collect
  refine wq.bind (wq.of fun tk Q' k => wpBig hh hd hu (wpAny_mono (collectOne c h tk _ sl n hs) (fun v s' hv => ?_) fun _ _ x => x.elim))
  obtain ⟨b, h₂, tk', n', rfl, rfl, M⟩ := hv
  have kp : Keep h h₂ := fun b' o' e => M.keep b' o' e (by simp [away])
  have hb := (M.nw _ (.head _)).1
  refine k _ h₂ _ ?_
  refine wq.bind (wq.load hb ?_)
  refine wq.pure ?_
  refine wq.yes (by rfl) ?_
  refine b_eqp (r := false) (by kernel_rfl) ?_
  refine wq.no (by decide) ?_
  refine b_eqp (r := ((false, false, #[Str.ofString "obj"], []) : Bool × Bool × Array Str × List Str)) (by kernel_rfl) ?_
  refine wq.bind (q_for1A ?_)
  refine wq.no (by decide) ?_
  refine wq.no (by rw [show Builtin.Slots.mangle "K" "obj" = ("obj" : Str) from by decide +kernel, isEs_any hI, X.obj]; decide) ?_
  refine wq.no (by decide +kernel) ?_
  refine wq.pure ?_
  refine b_eqp (r := (false, false)) (by kernel_rfl) ?_
  exact q_eqp (r := { names := [Str.ofString "obj"], dict := false, weak := false, inherited := [] }) (by kernel_rfl) (q h₂ kp)
end
end Mine
end
section
open PySem PySem.W PyProof.Rows PySem.Calls PySem.W.X
set_option Elab.async false
set_option maxRecDepth 100000
set_option linter.unusedVariables false
set_option maxHeartbeats 400000
namespace Mine
section
variable {c : Cx} {A : Around} {h h₀ : Heap} {L a : Addr} {m mg : Str → Option Value} {news : List (Addr × Obj)}
theorem lk_set {l : List (Str × Value)} {x y : Str} {v : Value} : lk (setL l x v) y = if y = x then some v else lk l y := by
  induction l with
  | nil =>
    show List.lookup y [(x, v)] = _
    rw [List.lookup_cons]
    by_cases e : y = x
    · rw [if_pos e, show (y == x) = true from beq_iff_eq.mpr e]
    · rw [if_neg e, show (y == x) = false from beq_eq_false_iff_ne.mpr e]
  | cons p l ih =>
    obtain ⟨z, w⟩ := p
    unfold setL
    by_cases e1 : z = x
    · rw [if_pos e1]
      show List.lookup y ((z, v) :: l) = if y = x then _ else List.lookup y ((z, w) :: l)
      rw [List.lookup_cons, List.lookup_cons]
      subst e1
      by_cases e : y = z
      · rw [if_pos e, show (y == z) = true from beq_iff_eq.mpr e]
      · rw [if_neg e, show (y == z) = false from beq_eq_false_iff_ne.mpr e]
    · rw [if_neg e1]
      show List.lookup y ((z, w) :: setL l x v) = if y = x then _ else List.lookup y ((z, w) :: l)
      rw [List.lookup_cons, List.lookup_cons]
      by_cases e : y = z
      · subst e
        rw [show (y == y) = true from beq_iff_eq.mpr rfl, if_neg e1]
      · rw [show (y == z) = false from beq_eq_false_iff_ne.mpr e]
        exact ih
theorem lk_del {l : List (Str × Value)} {x y : Str} (hy : y ≠ x) : lk (delL l x) y = lk l y := by
  induction l with
  | nil => rfl
  | cons p l ih =>
    obtain ⟨z, w⟩ := p
    unfold delL
    by_cases e1 : z = x
    · rw [if_pos e1]
      show _ = List.lookup y ((z, w) :: l)
      rw [List.lookup_cons, show (y == z) = false from beq_eq_false_iff_ne.mpr (fun q => hy (q.trans e1))]
    · rw [if_neg e1]
      show List.lookup y ((z, w) :: delL l x) = List.lookup y ((z, w) :: l)
      rw [List.lookup_cons, List.lookup_cons]
      cases (y == z) with
      | true => rfl
      | false => exact ih
theorem q_get {o : Obj} {i : Nat} {l : List (Str × Value)} {x : Str} {r : Option Value} {Q : Option Value → Heap → Prop} (D : Led h₀ L m h news) (hi : news[i]? = some (a, o)) (N : NsO o l) (e : lk l x = r) (q : Q r h) : wq c A (nsGet a x) Q h := q_nsGet D hi N (e ▸ q)
theorem b_get {β : Type} {o : Obj} {i : Nat} {l : List (Str × Value)} {x : Str} {r : Option Value} {f : Option Value → Sem β} {Q : β → Heap → Prop} (D : Led h₀ L m h news) (hi : news[i]? = some (a, o)) (N : NsO o l) (e : lk l x = r) (H : wq c A (f r) Q h) : wq c A (nsGet a x >>= f) Q h := wq.bind (q_get D hi N e H)
theorem q_setSlot {o o' : Obj} {i k : Nat} {v : Option Value} {Q : Unit → Heap → Prop} (D : Led h₀ L m h news) (hi : news[i]? = some (a, o)) (hk : k < sizeLine) (e : { o with slots := (o.slots ++ Array.replicate (k + 1 - o.slots.size) none).setIfInBounds k v } = o') (hf : o'.isFreed = false)
    (q : ∀ h', Led h₀ L m h' (news.set i (a, o')) → Q () h') : wq c A (setSlotAt a k v) Q h := by
  unfold setSlotAt
  refine wq.no (by omega) ?_
  refine q_updatePart D hi (by rw [e]; exact hf) fun h' D' => ?_
  rw [e] at D'
  exact q h' D'
theorem b_setSlot {β : Type} {o o' : Obj} {i k : Nat} {v : Option Value} {f : Unit → Sem β} {Q : β → Heap → Prop} (D : Led h₀ L m h news) (hi : news[i]? = some (a, o)) (hk : k < sizeLine) (e : { o with slots := (o.slots ++ Array.replicate (k + 1 - o.slots.size) none).setIfInBounds k v } = o') (hf : o'.isFreed = false)
    (H : ∀ h', Led h₀ L m h' (news.set i (a, o')) → wq c A (f ()) Q h') : wq c A (setSlotAt a k v >>= f) Q h := wq.bind (q_setSlot D hi hk e hf H)
theorem q_updateCls {o o' : Obj} {i : Nat} {cd : ClassData} {f : ClassData → ClassData} {Q : Unit → Heap → Prop} (D : Led h₀ L m h news) (hi : news[i]? = some (a, o)) (hd : o.data = .cls cd) (e : o.mapCls f = o') (hf : o'.isFreed = false) (hp : o'.data.pastItsLine = none)
    (q : ∀ h', Led h₀ L m h' (news.set i (a, o')) → Q () h') : wq c A (updateCls a f) Q h := by
  unfold updateCls
  refine wq.bind (q_load D hi ?_)
  rw [hd]
  refine wq.bind (q_update D hi (by rw [e]; exact hf) fun h' D' => ?_)
  rw [e] at D'
  unfold lookBehind
  refine wq.bind (q_loadPart (i := i) (o := o') D' (by rw [List.getElem?_set_self (List.getElem?_eq_some_iff.mp hi).1]) ?_)
  rw [hp]
  exact wq.pure (q h' D')
theorem q_lookupC {C : Addr} {oC : Obj} {cd : ClassData} {mm : Str → Option Value} {x : Str} {r : Option Value} {Q : Option Value → Heap → Prop} (hC : h.get? C = some oC) (hd : oC.data = .cls cd) (hm : cd.mro = [.ref C, .type "object"]) (hn : h.Ns cd.ns mm) (e : mm x = none) (er : builtinOwn "object" x = r) (q : Q r h) : wq c A (typeLookup (.ref C) x) Q h := by
  have key : ∀ {Q : List Value → Heap → Prop}, Q [.ref C, .type "object"] h → wq c A (mroOf (.ref C)) Q h := fun q => by
    show wq c A (do return (← classData C).mro) _ h
    unfold classData
    refine wq.bind (wq.bind (wq.load hC ?_))
    rw [hd]
    refine wq.pure (wq.pure ?_)
    rw [hm]; exact q
  unfold typeLookup
  refine wq.bind (key ?_)
  refine wq.bind ?_
  rw [List.forIn_cons]
  refine wq.bind ?_
  refine wq.bind ?_
  show wq c A (do nsGet (← classData C).ns x) _ h
  unfold classData
  refine wq.bind (wq.bind (wq.load hC ?_))
  rw [hd]
  refine wq.pure (q_ns hn ?_)
  rw [e]
  refine wq.pure ?_
  show wq c A (forIn [Value.type "object"] _ _) _ h
  rw [List.forIn_cons]
  refine wq.bind (wq.bind ?_)
  show wq c A (pure (builtinOwn "object" x)) _ h
  refine wq.pure ?_
  rw [er]
  cases r with
  | none => exact wq.pure (wq.pure (wq.pure q))
  | some v => exact wq.pure (wq.pure (wq.pure q))
theorem q_for2 {α β : Type} {x y : α} {b : β} {f : α → β → Sem (ForInStep β)} {Q : β → Heap → Prop} (H : wq c A (f x b) (fun r h₁ => ∃ b', r = .yield b' ∧ wq c A (f y b') (fun r h₁ => Q (match r with | .done b => b | .yield b => b) h₁) h₁) h) : wq c A (forIn [x, y] b f) Q h := by
  rw [List.forIn_cons]
  refine wq.bind (wq.mono H fun r h₁ q => ?_)
  obtain ⟨b', rfl, q⟩ := q
  exact q_for1 q
end
end Mine
end
section
open PySem PySem.W PyProof.Rows PySem.Calls PySem.W.X
set_option Elab.async false
set_option maxRecDepth 100000
set_option linter.unusedVariables false
set_option maxHeartbeats 400000
namespace Mine
noncomputable abbrev qK : Str := Str.ofString "cmp_to_key.<locals>.K"
section
local macro_rules | `(tactic| x_close) => `(tactic| (refine ⟨_, _, _, rfl, rfl, ?_⟩; assumption))
theorem superMade (c : Cx) (h : Heap) (tk : Nat) (C : Addr) (d : Option Addr) (nm q : Str) (bs : List Value) (ns : Addr) (hdc : Bool) (sn : List Str) (sub : List Value) (ab : Bool) (col : Option Bool) (hdel : Bool) (sl : Array (Option Value)) (hC : h.get? C = some (Obj.mk (.type "type") d (.cls (ClassData.mk nm bs [.ref C, .type "object"] ns q hdc sn sub ab col hdel)) sl)) :
    wpAny (model c.prog c.w) bigA (call (.type "super") [.ref C, .ref C]) (fun v s' => ∃ a h' tk', v = .ref a ∧ s' = ⟨h', c.g, c.d, tk', c.os⟩ ∧ Mem h h' [] [(a, Obj.mk (.type "super") none (.fields #[.ref C, .ref C, .ref C]) #[])]) (fun _ _ => False) ⟨h, c.g, c.d, tk, c.os⟩ := by
  x_run
theorem classGet (c : Cx) (h : Heap) (tk : Nat) (C : Addr) (d : Option Addr) (nm q : Str) (bs : List Value) (ns : Addr) (hdc : Bool) (sn : List Str) (sub : List Value) (ab : Bool) (col : Option Bool) (hdel : Bool) (sl : Array (Option Value)) (hC : h.get? C = some (Obj.mk (.type "type") d (.cls (ClassData.mk nm bs [.ref C, .type "object"] ns q hdc sn sub ab col hdel)) sl)) :
    wpAny (model c.prog c.w) bigA (call (.builtin "classmethod_descriptor.__get__") [.builtin "object.__init_subclass__", .none, .ref C]) (fun v s' => ∃ a h' tk', v = .ref a ∧ s' = ⟨h', c.g, c.d, tk', c.os⟩ ∧ Mem h h' [] [(a, Obj.mk (.type "builtin_function_or_method") none (.fields #[.builtin "object.__init_subclass__", .ref C]) #[])]) (fun _ _ => False) ⟨h, c.g, c.d, tk, c.os⟩ := by
  x_run
end
section
local macro_rules | `(tactic| x_close) => `(tactic| (refine ⟨_, _, rfl, rfl, ?_⟩; first | assumption | exact Mem.start _))
theorem initSub (c : Cx) (h : Heap) (tk : Nat) (C b : Addr) (d : Option Addr) (bs : List Value) (ns : Addr) (hdc : Bool) (sn : List Str) (sub : List Value) (ab : Bool) (col : Option Bool) (hdel : Bool) (sl : Array (Option Value)) (hC : h.get? C = some (Obj.mk (.type "type") d (.cls (ClassData.mk (Str.ofString "K") bs [.ref C, .type "object"] ns qK hdc sn sub ab col hdel)) sl)) (hb : h.get? b = some (Obj.mk (.type "builtin_function_or_method") none (.fields #[.builtin "object.__init_subclass__", .ref C]) #[])) :
    wpAny (model c.prog c.w) bigA (call (.ref b) []) (fun v s' => ∃ h' tk', v = .none ∧ s' = ⟨h', c.g, c.d, tk', c.os⟩ ∧ Mem h h' [] []) (fun _ _ => False) ⟨h, c.g, c.d, tk, c.os⟩ := by
  x_run
end
section
variable {c : Cx} {A : Around} {h h₀ : Heap} {L a : Addr} {m mg : Str → Option Value} {news : List (Addr × Obj)}
theorem q_superGa {so C : Addr} {tk : Tok} {Q : PySem.Fin → Heap → Prop} (hso : h.get? so = some (Obj.mk (.type "super") none (.fields #[.ref C, .ref C, .ref C]) #[])) (hno : Looks c.M h (opaqueClassAbove (.ref C)) none)
    (hC : Looks c.M h (mroOf (.ref C)) [.ref C, .type "object"]) 
    (H : wq c A (call (.builtin "classmethod_descriptor.__get__") [.builtin "object.__init_subclass__", .none, .ref C]) (fun v h' => Q (.done (.ret v)) h') h) :
    wq c A (Builtin.«super.__getattribute__» ⟨[.ref so, .str "__init_subclass__" tk], []⟩) Q h := by
  have fld : ∀ {i : Nat} {v : Value} {Q : Value → Heap → Prop}, (#[.ref C, .ref C, .ref C] : Array Value)[i]? = some v → Q v h → wq c A (field (.ref so) i) Q h := fun e q => wq.of fun tk Q' k => wpAny_field hso rfl e (k _ _ _ q)
  unfold Builtin.«super.__getattribute__»
  refine b_pure ?_
  refine wq.no (by decide) ?_
  refine b_pure ?_
  refine wq.bind (fld (i := 0) (v := .ref C) rfl ?_)
  refine wq.bind (fld (i := 1) (v := .ref C) rfl ?_)
  refine wq.bind (fld (i := 2) (v := .ref C) rfl ?_)
  refine wq.no (Bool.eq_false_iff.mp (by kernel_rfl)) ?_
  refine wq.bind (wq.of fun tk Q' k => ks_wpAny_notOpaque hno (k _ _ _ ?_))
  refine wq.no (Bool.eq_false_iff.mp (by kernel_rfl)) ?_
  refine wq.bind (wq.of fun tk Q' k => hC.here (k _ _ _ ?_))
  have e : List.drop 1 (List.dropWhile (fun x => x != Value.ref C) [Value.ref C, Value.type "object"]) = [Value.type "object"] := by simp
  refine wq.bind ?_
  rw [e]
  refine q_for1 ?_
  refine b_eqp (r := some (.builtin "object.__init_subclass__")) ?e1 ?_
  case e1 =>
    show (pure (builtinOwn "object" "__init_subclass__") : Sem (Option Value)) = _
    rw [builtinOwn_eq_fast]; kernel_rfl
  refine b_eqp (r := .type "classmethod_descriptor") ?e2 ?_
  case e2 =>
    show builtinType "object.__init_subclass__" = _
    rw [builtinType_eq_fast]; kernel_rfl
  refine b_eqp (r := some (.builtin "classmethod_descriptor.__get__")) (by rw [typeLookup_type, builtinLookup_eq_fast]; kernel_rfl) ?_
  refine wq.bind (wq.holding ?_)
  rw [if_pos (show (Value.ref C == Value.ref C) = true from beq_self_eq_true _)]
  refine wq.mono H fun v h' q => ?_
  exact b_pure (wq.pure (wq.pure q))
theorem q_superAttr {so C : Addr} {Q : Value → Heap → Prop} (hso : h.get? so = some (Obj.mk (.type "super") none (.fields #[.ref C, .ref C, .ref C]) #[])) (hno : Looks c.M h (opaqueClassAbove (.ref C)) none)
    (hC : Looks c.M h (mroOf (.ref C)) [.ref C, .type "object"]) 
    (H : wq c A.in1 (call (.builtin "classmethod_descriptor.__get__") [.builtin "object.__init_subclass__", .none, .ref C]) (fun v h' => (∃ b, v = .ref b) ∧ Q v h') h) :
    wq c A (getAttr (.ref so) "__init_subclass__") Q h := by
  unfold getAttr getAttrBy
  refine b_mkText fun t => wq.holding ?_
  refine wq.bind (wq.of fun tk Q' k => wpAny_typeOf (T := "super") ⟨_, hso, rfl⟩ (k _ _ _ ?_))
  refine b_eqp F.ks_slot_super_ga.lookup ?_
  show wq c A (getAttrByItsOwn (.ref so) (.str "__init_subclass__" t) (.type "super") (.builtin "super.__getattribute__") true false) Q h
  unfold getAttrByItsOwn hookBefore callGetattribute boundAndCalled
  refine b_eqp (r := none) rfl ?_
  refine wq.bind (wq.of fun tk Q' k => wpAny_attempt (wpAny_holding ?_))
  show wpAny _ _ (bindSpecial (.builtin "super.__getattribute__") (.ref so) >>= _) _ _ _
  refine wpAny_bind (wpAny_of_eq (F.ks_slot_super_ga.bind _) ?_)
  refine wpAny_call_entry F.ks_slot_super_ga ⟨_, hso, rfl⟩ F.ks_entry_super_ga ?_ (F.ks_gaArgs_super _ _)
  refine (q_superGa (Q := fun fin h' => ∃ b, fin = .done (.ret (.ref b)) ∧ Q (.ref b) h') hso hno hC (wq.mono H fun v h' ⟨⟨b, e⟩, q⟩ => ?_)).go fun fin h' tk' ⟨b, e, q⟩ => ⟨_, e, k _ _ _ ?_⟩
  · subst e; exact ⟨b, rfl, q⟩
  · exact wq.pure q
theorem wq.tryC {α : Type} {t : Sem α} {k : Value → Sem α} {Q : α → Heap → Prop} (H : wq c A t Q h) : wq c A (t.tryCatch k) Q h := wq.of fun _ _ kk => wpAny_tryCatch (H.go kk)
theorem q_forSameL {α β : Type} {b : β} {f : α → β → Sem (ForInStep β)} {Q : β → Heap → Prop} (q : Q b h) : ∀ {es : List α}, (∀ e ∈ es, ∀ Q' : ForInStep β → Heap → Prop, Q' (.yield b) h → wq c A (f e b) Q' h) → wq c A (forIn es b f) Q h
  | [], _ => by rw [List.forIn_nil]; exact wq.pure q
  | e :: es, H => by
    rw [List.forIn_cons]
    refine wq.bind (H e (.head _) _ ?_)
    exact q_forSameL q fun e' he' => H e' (.tail _ he')
theorem q_forSame {α β : Type} {b : β} {f : α → β → Sem (ForInStep β)} {Q : β → Heap → Prop} {es : Array α} (q : Q b h) (H : ∀ e ∈ es.toList, ∀ Q' : ForInStep β → Heap → Prop, Q' (.yield b) h → wq c A (f e b) Q' h) : wq c A (forIn es b f) Q h := by
  rw [← Array.forIn_toList]
  exact q_forSameL q H
noncomputable def ValOk (h : Heap) (v : Value) : Prop := (∃ s t, v = .str s t) ∨ (∃ i t, v = .int i t) ∨ v = .none ∨ ∃ a o T, v = .ref a ∧ h.get? a = some o ∧ o.cls = .type T ∧ (T = "list" ∨ T = "function" ∨ T = "tuple" ∨ T = "member_descriptor")
theorem vOk_held {v : Value} {k : Str} (x : ValOk h v) : Builtin.heldUnderItsOwnName k v = false := by
  rcases x with ⟨s, t, rfl⟩ | ⟨i, t, rfl⟩ | rfl | ⟨a, o, T, rfl, _⟩
  all_goals rfl
theorem vOk_special {v : Value} {Q : Option Value → Heap → Prop} (x : ValOk h v) (q : Q none h) : wq c A (specialOf v "__set_name__") Q h := by
  rcases x with ⟨s, t, rfl⟩ | ⟨i, t, rfl⟩ | rfl | ⟨a, o, T, rfl, ho, hT, hh⟩
  · refine b_pure (q_eqp (r := none) (by rw [typeLookup_type, builtinLookup_eq_fast]; kernel_rfl) q)
  · refine b_pure (q_eqp (r := none) (by rw [typeLookup_type, builtinLookup_eq_fast]; kernel_rfl) q)
  · refine b_pure (q_eqp (r := none) (by rw [typeLookup_type, builtinLookup_eq_fast]; kernel_rfl) q)
  · rcases hh with rfl | rfl | rfl | rfl
    all_goals exact wq.of fun tk Q' k => wpAny_specialOf (r := none) ⟨_, ho, hT⟩ (by rw [typeLookup_type, builtinLookup_eq_fast]; kernel_rfl) (k _ _ _ q)
theorem isEs_vals {P : Value → Prop} : ∀ {l : List (Str × Value)} {es : List DictEntry}, IsEs l es → (∀ p ∈ l, P p.2) → ∀ e ∈ es, P e.val
  | [], [], _, _, e, he => by cases he
  | [], _ :: _, h, _, _, _ => h.elim
  | _ :: _, [], h, _, _, _ => h.elim
  | p :: l, e' :: es, h, hp, e, he => by
    rcases List.mem_cons.mp he with rfl | he
    · rw [h.2.1]; exact hp p (.head _)
    · exact isEs_vals h.2.2 (fun p' hp' => hp p' (.tail _ hp')) e he
theorem set_vals {P : Value → Prop} {x : Str} {v : Value} : ∀ {l : List (Str × Value)}, (∀ p ∈ l, P p.2) → P v → ∀ p ∈ setL l x v, P p.2
  | [], _, hv, p, hp => by rw [List.mem_singleton.mp hp]; exact hv
  | (y, w) :: l, h, hv, p, hp => by
    unfold setL at hp
    split at hp
    · rcases List.mem_cons.mp hp with rfl | hp
      · exact hv
      · exact h p (.tail _ hp)
    · rcases List.mem_cons.mp hp with rfl | hp
      · exact h (y, w) (.head _)
      · exact set_vals (fun p' hp' => h p' (.tail _ hp')) hv p hp
theorem del_vals {P : Value → Prop} {x : Str} : ∀ {l : List (Str × Value)}, (∀ p ∈ l, P p.2) → ∀ p ∈ delL l x, P p.2
  | [], _, p, hp => by cases hp
  | (y, w) :: l, h, p, hp => by
    unfold delL at hp
    split at hp
    · exact h p (.tail _ hp)
    · rcases List.mem_cons.mp hp with rfl | hp
      · exact h (y, w) (.head _)
      · exact del_vals (fun p' hp' => h p' (.tail _ hp')) p hp
end
end Mine
end
section
open PySem PySem.W PyProof.Rows PySem.Calls PySem.W.X
set_option Elab.async false
set_option maxRecDepth 100000
set_option linter.unusedVariables false
set_option maxHeartbeats 400000
namespace Mine
section
variable {c : Cx} {A : Around} {h h₀ : Heap} {L a : Addr} {m mg : Str → Option Value} {news : List (Addr × Obj)}
theorem len_del {l : List (Str × Value)} {x : Str} : (delL l x).length ≤ l.length := by
  induction l with
  | nil => exact Nat.le_refl _
  | cons p l ih =>
    obtain ⟨z, w⟩ := p
    unfold delL
    split
    · simp
    · simpa using ih
theorem q_refresh {C : Addr} {oC on : Obj} {cd : ClassData} {l : List (Str × Value)} {Q : Unit → Heap → Prop} (hC : h.get? C = some oC) (hd : oC.data = .cls cd) (hm : cd.mro = [.ref C, .type "object"]) (hs : oC.slots[4]?.join = some (.builtin "object.__new__")) (hn : h.get? cd.ns = some on) (N : NsO on l) (e : lk l "__new__" = none) (q : Q () h) : wq c A (Bind.refreshMaker C) Q h := by
  unfold Bind.refreshMaker slotAt
  refine wq.bind (wq.bind (wq.of fun tk Q' k => wpAny_loadPart hC (k _ _ _ ?_)))
  refine wq.pure ?_
  rw [hs]
  refine wq.no (by decide) ?_
  refine wq.bind (q_lookupC hC hd hm (nsO_ns hn N) e (r := some (.builtin "object.__new__")) (by rw [builtinOwn_eq_fast]; kernel_rfl) ?_)
  exact wq.no (by decide +kernel) (wq.pure q)
noncomputable abbrev dscO (C : Addr) (t : Tok) : Obj := ⟨.type "member_descriptor", none, .fields #[.str "obj" t, .ref C, .builtin "proto.slot", .builtin "proto.slot#set", rawInt 0], #[]⟩
theorem q_install {C ns : Addr} {oC oC' on : Obj} {cd : ClassData} {l : List (Str × Value)} {iC iN : Nat} {Q : Unit → Heap → Prop} (D : Led h₀ L m h news) (hC : news[iC]? = some (C, oC)) (hN : news[iN]? = some (ns, on)) (N : NsO on l) (hne : iC ≠ iN) (hz : l.length ≤ 100) (hd : oC.data = .cls cd) (eo : lk l "obj" = none)
    (e : oC.mapCls (fun c => { c with hasDict := false, slotNames := ["obj"] }) = oC') (hf : oC'.isFreed = false) (hp : oC'.data.pastItsLine = none)
    (q : ∀ p t on' h', NsO on' (setL l "obj" (.ref p)) → Led h₀ L m h' (((p, dscO C t) :: news.set iN (ns, on')).set (iC + 1) (C, oC')) → L < p → Q () h') :
    wq c A (Builtin.Slots.install (.ref C) ns [.type "object"] { names := ["obj"], dict := false, weak := false, inherited := [] }) Q h := by
  unfold Builtin.Slots.install
  refine wq.bind (q_for1 ?_)
  refine b_get D hN N eo ?_
  refine wq.yes (by decide) ?_
  refine wq.bind (q_mkStr (by decide +kernel) fun t => ?_)
  refine wq.bind (q_newObj D (by size_fits) rfl fun p h₁ D hp1 => ?_)
  refine wq.bind (q_nsSetBV (i := iN + 1) D hN N (Nat.le_trans hz (by decide)) fun on' h₂ N' D => ?_)
  refine wq.pure ?_
  refine b_eqp (r := false) (by kernel_rfl) ?_
  refine wq.no (by decide +kernel) ?_
  have D : Led h₀ L m h₂ ((p, dscO C t) :: news.set iN (ns, on')) := D
  refine q_updateCls (i := iC + 1) (o' := oC') D ?hi hd e hf hp fun h₃ D => q p t on' h₃ N' D hp1
  case hi =>
    show (news.set iN (ns, on'))[iC]? = some (C, oC)
    rw [List.getElem?_set_ne (Ne.symm hne)]
    exact hC
theorem q_typeNew {t0 t4 tq : Tok} {bT nsA sl : Addr} {on : Obj} {l : List (Str × Value)} {ib iN is : Nat} {Q : Fin → Heap → Prop}
    (hd : A.depth ≤ 955) (hh : A.handled = none) (hu : A.units + 2 ≤ 9760) (hL : 2 ≤ L) (hop : ∀ C, Looks c.M h₀ (opaqueClassAbove (.ref C)) none) (HV : ∀ h', News h₀ L h' news → ∀ q ∈ l, ValOk h' q.2)
    (D : Led h₀ L m h news) (hb : news[ib]? = some (bT, { cls := .type "tuple", data := .seq #[.type "object"] })) (hN : news[iN]? = some (nsA, on)) (N : NsO on l) (hs : news[is]? = some (sl, W.listOf #[.str "obj" t4] 0)) (hns : L < nsA) (X : ClsL l sl qK tq)
    (q : ∀ C ns p t on' h', NsO on' (setL (setL (delL l "__qualname__") "obj" (.ref p)) "__doc__" .none) → Led h₀ L m h' ((p, dscO C t) :: (C, ⟨.type "type", none, .cls { name := "K", bases := [.type "object"], mro := [.ref C, .type "object"], ns := ns, qualname := qK, hasDict := false, slotNames := ["obj"] }, #[some (.ref bT), none, some (.str "K" t0), some (.str qK tq), some (.builtin "object.__new__"), some (.bool false)]⟩) :: (ns, on') :: news) → L < p → L < C → L < ns → Q (.done (.ret (.ref C))) h') :
    wq c A (Builtin.«type.__new__» ⟨[.type "type", .str "K" t0, .ref bT, .ref nsA], []⟩) Q h := by
  unfold Builtin.«type.__new__»
  refine b_pure ?_
  refine wq.bind (wq.of fun tk Q' k => wpAny_isInstance (T := "tuple") (b := true) ⟨_, D.at ib hb, rfl⟩ (by rw [isSubtype_type]; kernel_rfl) (k _ _ _ ?_))
  refine wq.no (by decide) ?_
  refine wq.bind (wq.of fun tk Q' k => wpAny_isInstance (T := "dict") (b := true) ⟨_, D.at iN hN, N.1⟩ (by rw [isSubtype_type]; kernel_rfl) (k _ _ _ ?_))
  refine wq.no (by decide) ?_
  refine wq.bind (wq.of fun tk Q' k => wpAny_seqItems (D.at ib hb) rfl (k _ _ _ ?_))
  refine wq.no (by decide) ?_
  refine b_eqp (r := ()) (by rfl) ?_
  refine b_eqp (r := Value.type "type") (by kernel_rfl) ?_
  refine wq.no (by decide) ?_
  refine b_eqp (r := ()) (by kernel_rfl) ?_
  refine b_eqp (r := Value.type "object") (by kernel_rfl) ?_
  refine wq.no (by rw [beq_iff_eq]; exact Nat.ne_of_gt (Nat.lt_of_lt_of_le (by decide) (Nat.le_trans hL (Nat.le_of_lt hns)))) ?_
  obtain ⟨hc, hsl, es, ep, hdat, hI⟩ := id N
  refine wq.bind (q_entries (D.at iN hN) hdat ?_)
  refine wq.bind (wq.of fun tk Q' k => wpAny_specialOf (T := "dict") (r := some (.builtin "dict.__iter__")) ⟨_, D.at iN hN, hc⟩ (by rw [typeLookup_type, builtinLookup_eq_fast]; kernel_rfl) (k _ _ _ ?_))
  refine wq.yes (by rw [show (some (Value.builtin "dict.__iter__") == some (Value.builtin "dict.__iter__")) = true from by decide, Bool.or_true]) ?_
  refine b_pure ?_
  refine wq.bind (wq.holding (q_slotsRead hd hh (by omega) hI X (D.at is hs) fun h₁ kp => ?_))
  have D := led_grow D kp
  refine wq.bind (q_newObj D ?sz rfl fun ns h₂ D hns2 => ?_)
  case sz =>
    show es.size ≤ sizeLine + 1
    rw [← Array.length_toList, isEs_len hI]
    exact Nat.le_trans X.short (by decide)
  have N₂ : NsO ({ cls := .type "dict", data := .dict es } : Obj) l := ⟨rfl, rfl, es, 0, rfl, hI⟩
  generalize ({ cls := .type "dict", data := .dict es } : Obj) = on₂ at D N₂
  refine wq.no (by show ¬ (!(es.any fun x => x.key.isStr ("__module__" : Str))) = true; rw [isEs_any hI, X.module]; decide) ?_
  refine b_eqp (r := ()) (by kernel_rfl) ?_
  refine wq.no (by decide +kernel) ?_
  refine b_get (i := 0) D rfl N₂ X.qualname ?_
  refine b_get (i := 0) D rfl N₂ X.qualname ?_
  refine b_pure ?_
  refine b_pure ?_
  refine b_get (i := 0) D rfl N₂ X.doc ?_
  refine wq.bind (q_alloc D rfl fun C h₃ D hC => ?_)
  refine wq.yes (by decide) ?_
  refine b_setSlot (i := 0) (o' := ⟨.type "type", none, .cls { name := "K", bases := [.type "object"], mro := [], ns := ns, qualname := qK }, #[some (.ref bT)]⟩) D rfl (by decide) rfl rfl fun h₄ D => ?_
  refine b_setSlot (i := 0) (o' := ⟨.type "type", none, .cls { name := "K", bases := [.type "object"], mro := [], ns := ns, qualname := qK }, #[some (.ref bT), none, some (.str "K" t0)]⟩) D rfl (by decide) rfl rfl fun h₅ D => ?_
  refine b_setSlot (i := 0) (o' := ⟨.type "type", none, .cls { name := "K", bases := [.type "object"], mro := [], ns := ns, qualname := qK }, #[some (.ref bT), none, some (.str "K" t0), some (.str qK tq)]⟩) D rfl (by decide) rfl rfl fun h₆ D => ?_
  dsimp only [List.set_cons_zero] at D
  refine wq.bind (q_nsDel (i := 1) D rfl N₂ (by rw [X.qualname]; rfl) fun on₃ h₇ N₃ D => ?_)
  dsimp only [List.set_cons_succ, List.set_cons_zero] at D
  refine b_get (i := 1) D rfl N₃ ((lk_del (by decide +kernel)).trans X.new) ?_
  refine wq.bind (q_for2 (wq.bind (q_get (i := 1) D rfl N₃ ((lk_del (by decide +kernel)).trans X.init) (wq.pure ⟨_, rfl, wq.bind (q_get (i := 1) D rfl N₃ ((lk_del (by decide +kernel)).trans X.item) (wq.pure ?_))⟩))))
  refine b_get (i := 1) D rfl N₃ ((lk_del (by decide +kernel)).trans X.cell) ?_
  refine b_get (i := 1) D rfl N₃ ((lk_del (by decide +kernel)).trans X.dcell) ?_
  refine b_eqp (r := none) (by kernel_rfl) ?_
  refine b_eqp (r := [Value.type "object"]) (by kernel_rfl) ?_
  refine b_pure ?_
  refine b_eqp (r := false) ?del ?_
  case del =>
    rw [show List.filter (fun x => x != Value.ref C) [Value.ref C, Value.type "object"] = [Value.type "object"] by simp]
    kernel_rfl
  refine wq.bind (q_updateCls (i := 0) (o' := ⟨.type "type", none, .cls { name := "K", bases := [.type "object"], mro := [.ref C, .type "object"], ns := ns, qualname := qK }, #[some (.ref bT), none, some (.str "K" t0), some (.str qK tq)]⟩) D rfl rfl ?e1 rfl ?e2 fun h₈ D => ?_)
  case e1 =>
    show (Obj.mk _ _ (.cls _) _) = _
    rw [show ((fun n => es.any fun x => x.key.isStr n) ("__del__" : Str)) = false from (isEs_any hI _).trans (by rw [X.del]; rfl)]
    rfl
  case e2 => rfl
  refine b_eqp (r := some "object.__new__") (by kernel_rfl) ?_
  refine b_setSlot (i := 0) (o' := ⟨.type "type", none, .cls { name := "K", bases := [.type "object"], mro := [.ref C, .type "object"], ns := ns, qualname := qK }, #[some (.ref bT), none, some (.str "K" t0), some (.str qK tq), some (.builtin "object.__new__")]⟩) D rfl (by decide) rfl rfl fun h₉ D => ?_
  dsimp only [List.set_cons_succ, List.set_cons_zero] at D
  refine wq.bind (q_refresh (D.at 0 rfl) rfl rfl rfl (D.at 1 rfl) N₃ ((lk_del (by decide +kernel)).trans X.new) ?_)
  refine wq.bind (q_install (iC := 0) (iN := 1) (oC' := ⟨.type "type", none, .cls { name := "K", bases := [.type "object"], mro := [.ref C, .type "object"], ns := ns, qualname := qK, hasDict := false, slotNames := ["obj"] }, #[some (.ref bT), none, some (.str "K" t0), some (.str qK tq), some (.builtin "object.__new__")]⟩) D rfl rfl N₃ (by decide) ?len rfl ((lk_del (by decide +kernel)).trans X.obj) rfl rfl rfl fun p t on₄ h₁₀ N₄ D hp => ?_)
  case len => exact Nat.le_trans len_del X.short
  dsimp only [List.set_cons_succ, List.set_cons_zero] at D
  refine b_eqp (r := false) (by kernel_rfl) ?_
  refine b_setSlot (i := 1) (o' := ⟨.type "type", none, .cls { name := "K", bases := [.type "object"], mro := [.ref C, .type "object"], ns := ns, qualname := qK, hasDict := false, slotNames := ["obj"] }, #[some (.ref bT), none, some (.str "K" t0), some (.str qK tq), some (.builtin "object.__new__"), some (.bool false)]⟩) D rfl (by decide) rfl rfl fun h₁₁ D => ?_
  refine wq.no (by decide) ?_
  refine wq.no (by decide) ?_
  dsimp only [List.set_cons_succ, List.set_cons_zero] at D
  refine b_get (i := 2) D rfl N₄ (lk_set.trans ((if_neg (by decide +kernel)).trans ((lk_del (by decide +kernel)).trans X.doc))) ?_
  refine wq.yes (by decide) ?_
  refine wq.bind (q_nsSet (i := 2) D rfl N₄ fun on₅ h₁₂ N₅ D => ?_)
  dsimp only [List.set_cons_succ, List.set_cons_zero] at D
  refine b_get (i := 2) (r := lk l "__eq__") D rfl N₅ (lk_set.trans ((if_neg (by decide +kernel)).trans (lk_set.trans ((if_neg (by decide +kernel)).trans (lk_del (by decide +kernel)))))) ?_
  refine wq.yes X.eq ?_
  refine b_get (i := 2) (r := lk l "__hash__") D rfl N₅ (lk_set.trans ((if_neg (by decide +kernel)).trans (lk_set.trans ((if_neg (by decide +kernel)).trans (lk_del (by decide +kernel)))))) ?_
  refine wq.no (by rw [Option.isNone_iff_eq_none]; intro e; have hx := X.hash; rw [e] at hx; cases hx) ?_
  refine b_eqp (r := ()) (by kernel_rfl) ?_
  refine wq.bind (wq.tryC (wq.holding ?_))
  have ok5 : ∀ q ∈ setL (setL (delL l "__qualname__") "obj" (.ref p)) "__doc__" .none, ValOk h₁₂ q.2 := set_vals (set_vals (del_vals (HV h₁₂ (fun q hq => D.nw q (.tail _ (.tail _ (.tail _ hq)))))) (.inr (.inr (.inr ⟨p, _, _, rfl, D.at 0 rfl, rfl, .inr (.inr (.inr rfl))⟩)))) (.inr (.inr (.inl rfl)))
  obtain ⟨hc5, hsl5, es5, ep5, hd5, hI5⟩ := id N₅
  refine wq.bind (q_entries (D.at 2 rfl) hd5 ?_)
  refine wq.bind (q_forSame ?_ fun e he Q' q' => ?_)
  rotate_left
  · obtain ⟨n, te, hk⟩ := isEs_str hI5 e he
    refine wq.bind ?_
    rw [hk]
    exact wq.pure (wq.no (by simp) (wq.pure q'))
  refine wq.no (by decide) ?_
  refine wq.bind (q_entries (D.at 2 rfl) hd5 ?_)
  refine wq.bind (q_forSame ?_ fun e he Q' q' => ?_)
  rotate_left
  · obtain ⟨n, te, hk⟩ := isEs_str hI5 e he
    have ok := isEs_vals hI5 ok5 e he
    refine wq.no ?_ (wq.bind (vOk_special ok (wq.pure q')))
    rw [hk]
    show ¬ Builtin.heldUnderItsOwnName n e.val = true
    rw [vOk_held ok]; decide
  refine wq.bind (wq.of fun tk Q' k => wpBig hh hd (by omega) (wpAny_mono (superMade c h₁₂ tk C _ _ _ _ _ _ _ _ _ _ _ _ (D.at 1 rfl)) (fun v s' hv => ?_) fun _ _ x => x.elim))
  obtain ⟨so, h₁₃, tk', rfl, rfl, M⟩ := hv
  have kp : Keep h₁₂ h₁₃ := fun b' o' e => M.keep b' o' e (by simp [away])
  have hso := (M.nw _ (.head _)).1
  have D := led_grow D kp
  refine k _ h₁₃ _ ?_
  have hCl := D.at 1 rfl
  refine wq.bind (wq.holding (q_superAttr hso ((hop C).keeps D.fr.keep) (fun A Q E s k q => by
    unfold mroOf classData
    exact wpAny_bind (wpAny_bind (wpAny_load (k _ _ hCl) (wpAny_pure (wpAny_pure q))))) ?_))
  refine wq.of fun tk Q' k => wpBig hh hd (by show A.units + 1 ≤ 9760; omega) (wpAny_mono (classGet c h₁₃ tk C _ _ _ _ _ _ _ _ _ _ _ _ hCl) (fun v s' hv => ?_) fun _ _ x => x.elim)
  obtain ⟨b, h₁₄, tk', rfl, rfl, M⟩ := hv
  have kp : Keep h₁₃ h₁₄ := fun b' o' e => M.keep b' o' e (by simp [away])
  have hb := (M.nw _ (.head _)).1
  have D := led_grow D kp
  refine k _ h₁₄ _ ⟨⟨b, rfl⟩, ?_⟩
  refine wq.bind (wq.of fun tk Q' k => wpBig hh hd (by omega) (wpAny_mono (initSub c h₁₄ tk C b _ _ _ _ _ _ _ _ _ _ (D.at 1 rfl) hb) (fun v s' hv => ?_) fun _ _ x => x.elim))
  obtain ⟨h₁₅, tk', rfl, rfl, M⟩ := hv
  have kp : Keep h₁₄ h₁₅ := fun b' o' e => M.keep b' o' e (by simp [away])
  have D := led_grow D kp
  refine k _ h₁₅ _ ?_
  refine wq.pure ?_
  exact wq.pure (q C ns p t on₅ h₁₅ N₅ D hp hC hns2)
end
end Mine
end
section
open PySem PySem.W PyProof.Rows PySem.Calls PySem.W.X
set_option Elab.async false
set_option maxRecDepth 100000
set_option maxHeartbeats 400000
set_option linter.unusedVariables false
namespace Mine
section
variable {c : Cx} {A : Around} {h h₀ : Heap} {L t : Addr} {m : Str → Option Value} {news : List (Addr × Obj)} {items : Array Value}
theorem c_iter {Q : Value → Heap → Prop} (D : Led h₀ L m h news) (ht : h.IsList t items) (q : ∀ I o h', IsLI o t 0 → Led h₀ L m h' ((I, o) :: news) → Q (.ref I) h') : wq c A (call (.builtin "iter") [.ref t]) Q h := by
  refine wq.of fun tk Q' k => call_function_entry (by decide +kernel) (by decide +kernel) kdk_entry_iter (kdk_args_iter _) ?_
  unfold Builtin.«iter»
  refine wpAny_bind (m := someArgs "iter" 1 2 _) (wpAny_of_eq (a := [Value.ref t]) (by first | rfl | kernel_rfl!) ?_)
  show wpAny _ _ (pyIter (.ref t) >>= _) _ _ _
  refine wpAny_bind (wpAny_pyIter_list ht ?_)
  exact wpAny_pure ⟨_, rfl, k _ _ _ (q _ _ _ ⟨rfl, rfl⟩ (led_push D _ rfl))⟩
end
section loops
variable {c : Cx} {A : Around} {h₀ : Heap} {L : Addr} {env : Env} {pos : Pos}
end loops
theorem ints_get : ∀ {vs : List Value} {xs : List Int}, IntsL vs xs → ∀ {i : Nat} {v : Value}, vs[i]? = some v → ∃ x t, xs[i]? = some x ∧ v = .int x t
  | [], [], _, _, _, e => by simp at e
  | [], _ :: _, h, _, _, _ => h.elim
  | _ :: _, [], h, _, _, _ => h.elim
  | v :: vs, x :: xs, h, 0, w, e => by
    obtain ⟨t, rfl⟩ := h.1
    simp at e
    exact ⟨x, t, rfl, e.symm⟩
  | v :: vs, x :: xs, h, i + 1, w, e => by
    obtain ⟨y, t, e1, e2⟩ := ints_get h.2 (i := i) (v := w) (by simpa using e)
    exact ⟨y, t, by simpa using e1, e2⟩
theorem ne_of_data {h : Heap} {a b : Addr} {oa ob : Obj} (ha : h.get? a = some oa) (hb : h.get? b = some ob) (hd : ob.data ≠ oa.data) : b ≠ a := fun q => by
  subst q; rw [ha] at hb; cases hb; exact hd rfl
noncomputable def Soft (h : Heap) (a : Addr) : Prop := ∃ o, h.get? a = some o ∧ ((∃ v, o.data = .cell v) ∨ (∃ es n, o.data = .dict es n) ∨ ∃ vs, o.data = .fields vs ∧ ∀ s t, vs[1]? ≠ some (.str s t))
theorem Soft.ne {h : Heap} {a b : Addr} {ob : Obj} (s : Soft h a) (hb : h.get? b = some ob) (h1 : ∀ v, ob.data ≠ .cell v) (h2 : ∀ es n, ob.data ≠ .dict es n) (h3 : ∀ vs, ob.data = .fields vs → ∃ s t, vs[1]? = some (.str s t)) : b ≠ a := by
  obtain ⟨o, ho, ⟨v, e⟩ | ⟨es, n, e⟩ | ⟨vs, e, n⟩⟩ := s
  · exact ne_of_data ho hb (e ▸ h1 v)
  · exact ne_of_data ho hb (e ▸ h2 es n)
  · exact ne_of_data ho hb (fun q => let ⟨s, t, e2⟩ := h3 vs (q.trans e); n s t e2)
section
variable {c : Cx} {A : Around} {h h₀ : Heap} {L a : Addr} {m : Str → Option Value} {l : List (Str × Value)} {news : List (Addr × Obj)} {cn : Str} {cs : Scope} {ccd : Value} {cl : List (Str × Addr)} {x : Str} {v : Value} {j : Nat}
theorem dsB {Q : Unit → Heap → Prop} (D : Led h₀ L (lk l) h news) (q : ∀ h', Led h₀ L (lk ((x, v) :: l)) h' news → Heap.SameBut L h h' → Soft h L → Q () h') (hk : cs.kind = .function := by exact rfl) (hx : (envX cn cs L a ccd cl).kindOf x = some .local := by exact rfl) :
    wq c A (storeName (envX cn cs L a ccd cl) x v) Q h := wq.of fun tk Q' k =>
  wpAny_storeName_local hx D.fr.ns (fun h' hn hs => k _ _ _ (q h' ⟨lk_cons x v l ▸ D.fr.set hn hs, D.nw.set hs, D.ord⟩ hs (let ⟨o, es, ep, e, hd, _⟩ := D.fr.ns; ⟨o, e, .inr (.inl ⟨es, ep, hd⟩)⟩))) (by show (cs.kind == .class || (cs.kind == .module && L != mainGlobals)) = false; rw [hk]; rfl)
theorem dsC {Q : Unit → Heap → Prop} {cA : Addr} {o : Obj} {v₀ : Option Value} (D : Led h₀ L m h news) (hj : news[j]? = some (cA, o)) (hd : o.data = .cell v₀) (hc : cl.lookup x = some cA)
    (q : ∀ h' o', Led h₀ L m h' (news.set j (cA, o')) → o'.data = .cell (some v) → Heap.SameBut cA h h' → Soft h cA → Q () h') (hk : cs.kind = .function := by exact rfl) (hx : (envX cn cs L a ccd cl).kindOf x = some .cell := by exact rfl) :
    wq c A (storeName (envX cn cs L a ccd cl) x v) Q h := wq.of fun tk Q' k =>
  wpAny_storeName_cell hk hx hc ⟨o, D.at j hj, hd⟩ fun h' ⟨o', ho', hd'⟩ hs => k _ _ _ (q h' o' (led_put D hj hs ho') hd' hs ⟨o, D.at j hj, .inl ⟨v₀, hd⟩⟩)
end
section
variable {c : Cx} {A : Around} {h h₀ : Heap} {L a : Addr} {m : Str → Option Value} {news : List (Addr × Obj)} {cn : Str} {cs : Scope} {ccd : Value} {cl : List (Str × Addr)}
end
theorem c_range3K {c : Cx} {A : Around} {h h₀ : Heap} {L : Addr} {m : Str → Option Value} {news : List (Addr × Obj)} {a b e : Int} {t u v : Tok} {Q : Value → Heap → Prop} (D : Led h₀ L m h news) (he : e ≠ 0) (hp : Builtin.divisionGoesByPylong (b - a) e = false) (q : ∀ r t u v h', Led h₀ L m h' ((r, rO a b e t u v) :: news) → Keep h h' → Q (.ref r) h') : wq c A (call (.type "range") [.int a t, .int b u, .int e v]) Q h :=
  wq.of fun _ _ k => call_range_3 he (k _ _ _ (q _ _ _ _ _ (led_push D _ rfl) (fun _ _ e => Heap.get?_push_of_some _ e))) (.inl hp)
theorem ints_are : ∀ {vs : List Value} {xs : List Int}, IntsAre vs xs → IntsL vs xs
  | _, _, .nil => trivial
  | _, _, .cons n t r => ⟨⟨t, rfl⟩, ints_are r⟩
theorem are_ints : ∀ {vs : List Value} {xs : List Int}, IntsL vs xs → IntsAre vs xs
  | [], [], _ => .nil
  | [], _ :: _, h => h.elim
  | _ :: _, [], h => h.elim
  | _ :: _, x :: xs, h => by obtain ⟨⟨t, rfl⟩, r⟩ := h; exact .cons x t (are_ints r)
section
variable {c : Cx} {A : Around} {h h₀ : Heap} {L : Addr} {m : Str → Option Value} {news : List (Addr × Obj)} {env : Env} {pos p : Pos}
theorem q_sliceTo {value u : Expr} {Q : Value → Heap → Prop} (D0 : Led h₀ L m h news)
    (H : wq c A (eval value env) (fun o h₁ => wq c A (eval u env) (fun vu h₂ => ∃ l vs y t, o = .ref l ∧ vu = .int y t ∧ h₂.IsList l (List.toArray vs) ∧ vs.length ≤ sizeLine ∧ Led h₀ L m h₂ news ∧
      (∀ D h', Led h₀ L m h' ((D, listOf (slicePick vs.toArray none (some y) none) 0) :: news) → Keep h₂ h' → L < D → Q (.ref D) h')) h₁) h)
    (ht : ∀ o r, letTemporaryGo value o r = pure () := by exact fun _ _ => rfl) : wq c A (eval (.Subscript value (.Slice none (some u) none p) pos) env) Q h := wq.of fun tk Q' k => by
  refine wpAny_Subscript_list_slice (H.go fun o h₁ tk₁ H₁ => ?_) ht
  refine wpAny_pure ?_
  refine H₁.go fun vu h₂ tk₂ H₂ => ?_
  obtain ⟨l, vs, y, t, rfl, rfl, hl, hz, D, q⟩ := H₂
  refine ⟨l, vs.toArray, none, some y, rfl, hl, by simpa using hz, .none, .int y t, k _ _ _ ?_⟩
  have D1 := led_push (led_tail (led_push D { cls := .type "slice", data := .fields #[.none, .int y t, .none] } rfl)) (listOf (slicePick vs.toArray none (some y) none) 0) rfl
  rw [Heap.size_push] at D1
  exact q _ _ D1 (fun _ _ e => Heap.get?_push_of_some _ (Heap.get?_push_of_some _ e)) (Nat.lt_succ_of_lt D.fr.ns.lt)
theorem t_list {l : Addr} {items : Array Value} {Q : Bool → Heap → Prop} (hl : h.IsList l items) (hz : (items.size : Int) < 2 ^ 63) (q : Q (!items.isEmpty) h) : wq c A (truthy (.ref l)) Q h := wq.of fun _ _ k => wpAny_truthy_list hl hz (k _ _ _ q)
end
section loops
variable {c : Cx} {A : Around} {h₀ : Heap} {L : Addr} {env : Env} {pos : Pos}
theorem n_listB {h : Heap} {m : Str → Option Value} {news : List (Addr × Obj)} {j i : Nat} {I t : Addr} {o : Obj} {items : Array Value} {x : Value} {Q : Option Value → Heap → Prop} (D : Led h₀ L m h news) (hi : news[j]? = some (I, o)) (hI : IsLI o t i) (ht : h.IsList t items) (hx : items[i]? = some x)
    (q : ∀ o' h', IsLI o' t (i + 1) → Led h₀ L m h' (news.set j (I, o')) → Heap.SameBut I h h' → Soft h I → Q (some x) h') : wq c A (pyNext (.ref I)) Q h :=
  wq.of fun _ _ k => wpAny_pyNext_list_item (it := I) (l := t) ⟨o, D.at j hi, hI⟩ ht hx fun h' ⟨o', ho', hI'⟩ hs => k _ _ _ (q o' _ hI' (led_put D hi hs ho') hs ⟨o, D.at j hi, .inr (.inr ⟨_, hI.2, fun s t e => by cases e⟩)⟩)
end loops
theorem led_adds {h h₀ : Heap} {L : Addr} {m : Str → Option Value} {news : List (Addr × Obj)} (D : Led h₀ L m h news) : ∀ {K : List (Addr × Obj)}, (∀ q ∈ K, h.get? q.1 = some q.2) → (K.map (·.1)).Pairwise (· > ·) → (∀ q ∈ K, L < q.1) → (∀ q ∈ K, ∀ p ∈ news, p.1 < q.1) → Led h₀ L m h (K ++ news)
  | [], _, _, _, _ => D
  | (a, o) :: K, h1, h2, h3, h4 => by
    have h2' := List.pairwise_cons.mp h2
    refine led_add (led_adds D (fun q hq => h1 q (.tail _ hq)) h2'.2 (fun q hq => h3 q (.tail _ hq)) fun q hq => h4 q (.tail _ hq)) (h1 _ (.head _)) (fun p hp => ?_) (h3 _ (.head _))
    rcases List.mem_append.mp hp with hp | hp
    · exact h2'.1 p.1 (List.mem_map_of_mem hp)
    · exact h4 _ (.head _) p hp
theorem k2_T3 (c : Cx) {b : Nat} (hb : b ∈ T3) : (K2 c).lookup b = none := by
  rcases in_T3 hb with rfl | rfl
  · rfl
  · rfl
theorem Gd.kp {c : Cx} {mg mb : Str → Option Value} {h h' : Heap} (G : Gd (K2 c) mg mb h) (k : Kp h h') : Gd (K2 c) mg mb h' :=
  ⟨fun a o e => k a o (fun q => by rw [k2_T3 c q] at e; cases e) (G.X a o e), G.g.at' fun o e => k _ o (fun q => absurd (in_T3 q) (by decide)) e, G.b.at' fun o e => k _ o (fun q => absurd (in_T3 q) (by decide)) e, G.bi, G.lim.at fun o e => k _ o (fun q => absurd (in_T3 q) (by decide)) e⟩
theorem kp_to_hid (h : Heap) : Kp h (hid h) := fun b o n e => hideAll_get _ e n
theorem Gd.hid {c : Cx} {mg mb : Str → Option Value} {h : Heap} (G : Gd (K2 c) mg mb h) : Gd (K2 c) mg mb (hid h) := G.kp (kp_to_hid h)
theorem gd_big {c : Cx} {mg mb : Str → Option Value} {h : Heap} (G : Gd (K2 c) mg mb h) : 113 < h.objs.size := Heap.lt_size (G.X 113 _ rfl)
/-- what cmp_to_key(mv) gives back -/
noncomputable def CkPost (c : Cx) (mv : Value) (h : Heap) (v : Value) (h' : Heap) : Prop := ∃ K C ns p cel f cc td', v = .ref C ∧ KeyF c K C ns p cel f cc mv ∧ (∀ q ∈ K, h'.get? q.1 = some q.2) ∧ (K.map (·.1)).Pairwise (· > ·) ∧ (∀ q ∈ K, h.objs.size ≤ q.1) ∧ Heap.ExtBut 63 h h' ∧ h'.get? 63 = some (tabObj td')
theorem n_range' (c : Cx) : nsIn (K2 c) mainGlobals (Str.ofString "range") = some none := by kernel_rfl
theorem b_range : bootBuiltins (Str.ofString "range") = some (.type "range") := boot_range
theorem x_range : Str.ofString "range" ≠ ("__name__" : Str) := by decide +kernel
end Mine
end
section
open PySem PySem.W PyProof.Rows PySem.Calls PySem.W.X
set_option Elab.async false
set_option maxRecDepth 100000
set_option maxHeartbeats 4000000
set_option linter.unusedVariables false
namespace Mine
theorem hd20' {c : Cx} {mg mb : Str → Option Value} {h : Heap} (G : Gd (K2 c) mg mb h) : CodeHd h 67 63 := ⟨_, _, _, _, _, _, _, _, _, G.X 67 _ rfl, rfl, rfl, rfl, rfl, rfl, rfl, rfl, rfl, by decide⟩
theorem led_start16 {h h₁ : Heap} {L : Addr} {m : Str → Option Value} {td : Array Value} (F : Fr h L h₁ m) (h16 : h.get? 63 = some (tabObj td)) : Led (hideAll h [63]) L m h₁ [(63, tabObj td)] := by
  refine ⟨⟨F.ns, fun b o e => F.keep b o (of_hideAll _ e), Nat.le_trans (Nat.le_of_eq (hideAll_size _ _)) F.above⟩, fun p hp => ?_, by simp⟩
  rw [List.mem_singleton.mp hp]
  exact ⟨F.keep _ _ h16, Nat.ne_of_lt (Nat.lt_of_lt_of_le (Heap.lt_size h16) F.above), hideAll_none _ (.head _)⟩
theorem kp_16 (h : Heap) : Kp h (hideAll h [63]) := fun b o n e => hideAll_get _ e fun q => n (by rw [List.mem_singleton.mp q]; exact m63)
theorem n_object (c : Cx) : nsIn (K2 c) mainGlobals (Str.ofString "object") = some none := by kernel_rfl
theorem b_object : bootBuiltins (Str.ofString "object") = some (.type "object") := by decide +kernel
theorem x_object : Str.ofString "object" ≠ ("__name__" : Str) := by decide +kernel
theorem n_name (c : Cx) : ∃ s t, nsIn (K2 c) mainGlobals (Str.ofString "__name__") = some (some (.str s t)) := ⟨_, _, by rfl⟩
theorem nsIn_of {K : Frag} {ns : Addr} {o : Obj} {l : List (Str × Value)} {x : Str} (e : K.lookup ns = some o) (N : NsO o l) : nsIn K ns x = some (lk l x) := by
  obtain ⟨hc, hs, es, n, hd, hI⟩ := N
  obtain ⟨oc, od, dt, sl⟩ := o
  dsimp only at hd
  subst hd
  unfold nsIn
  rw [e]
  dsimp only
  have e1 := isEs_find x hI
  have hany : es.toList.any (·.refKey) = false := by
    rw [List.any_eq_false]; intro e he; obtain ⟨n, t, h⟩ := isEs_str hI e he; simp [DictEntry.refKey, h]
  cases q : es.toList.find? fun e => e.key.isStr x with
  | none => rw [q] at e1; simp only [hany]; rw [← e1]; rfl
  | some e' => rw [q] at e1; rw [← e1]; rfl
theorem lookup_ord {l l' : List (Addr × Obj)} {a : Addr} {o : Obj} (ord : ((l ++ l').map (·.1)).Pairwise (· > ·)) (hm : (a, o) ∈ l) : List.lookup a l = some o := by
  rw [List.map_append] at ord
  replace ord := (List.pairwise_append.mp ord).1
  clear l'
  induction l with
  | nil => cases hm
  | cons p l ih =>
    obtain ⟨b, ob⟩ := p
    rw [List.lookup_cons]
    rcases List.mem_cons.mp hm with e | hm
    · cases e
      rw [beq_self_eq_true]
    · have : b > a := (List.pairwise_cons.mp ord).1 a (List.mem_map_of_mem (f := (·.1)) hm)
      rw [show (a == b) = false from beq_eq_false_iff_ne.mpr (Nat.ne_of_lt this)]
      exact ih hm (List.pairwise_cons.mp ord).2
theorem ck {c : Cx} {mg mb : Str → Option Value} {A : Around} {h : Heap} {mv : Value} (r : Room A 49 147) (G : Gd (K2 c) mg mb h) (B : Bm mg h) (h16 : h.get? 63 = some (tabObj #[])) : wq c A (call (.ref 68) [mv]) (CkPost c mv h) h := by
  refine q_defC (d := 48) (u := 144) (binds := [(Str.ofString "mycmp", mv)]) r (G.X 68 _ rfl) rfl G.lim ?a ?b ?c ?d ?e ?f ?_
  case a => exact codeRec_of G.X rfl
  case b => exact fun s _ => BindsTo.of_eq rfl
  case d => exact rfl
  case e => exact rfl
  case f => exact rfl
  case c =>
    intro n x hx
    rw [List.mem_singleton.mp hx]
    exact .inr ⟨rfl, rfl⟩
  intro L h₁ F hc r'
  refine wq.gen fun Q0 k0 => ?_
  have F' : Fr h L h₁ (lk []) := F
  obtain ⟨o1, eo1, d1⟩ : h₁.IsCell (L + 1) (some mv) := hc (Str.ofString "mycmp") (L + 1) rfl
  have hL : 113 < L := Nat.lt_of_lt_of_le (gd_big G) F.above
  have D := led_start16 F' h16
  have D := led_add D eo1 (fun p hp => by
    rw [List.mem_singleton.mp hp]
    exact Nat.lt_trans (Nat.lt_trans (show (63 : Nat) < 113 by decide) hL) (Nat.lt_succ_self L)) (Nat.lt_succ_self L)
  have G₀ : Gd (K2 c) mg mb (hideAll h [63]) := G.kp (kp_16 h)
  have B₀ : Bq mg (hideAll h [63]) := by
    obtain ⟨bm, o, b1, b2, b3, b4, b5⟩ := B.kp (kp_16 h)
    exact ⟨bm, o, b1, b2, b4, b5⟩
  obtain ⟨sN, tN, hnv⟩ := n_name c
  have hn := mg_of G₀.X G₀.g hnv
  refine s_cons ?_
  refine s_Class (mb := mb) rfl (G₀.b.keeps D.fr.keep) G₀.bi rfl ?_
  refine db (.type "object") D G₀ (n_object c) b_object x_object ?_
  refine q_build (j := 1) (cP := 67) (P := 63) (ps := #[]) (clos := [(Str.ofString "mycmp", L + 1)]) D (by have := r.depth; show A.depth + 1 < 955; omega) r'.handled (by have := r.units; show A.units + 3 ≤ 9760; omega) rfl (hd20' G₀) rfl rfl trivial rfl G₀.g B₀ hn G₀.lim rfl rfl rfl rfl rfl rfl rfl rfl rfl rfl (Nat.le_trans (by decide) (Nat.le_of_lt hL)) ?_
  intro bT nsA on P' cc oc T oT fr ofr t0 t1 t2 h₂ N hoc D
  refine wq.gen fun Q1 k1 => ?_
  simp only [List.set_cons_succ, List.set_cons_zero] at D
  have hne : cc ≠ P' := Nat.ne_of_gt ((List.pairwise_cons.mp (List.pairwise_cons.mp D.ord).2).1 P' (.head _))
  refine s_cons ?_
  refine sA ?_
  refine q_str fun t3 => ?_
  refine q_storeC (i := 4) D rfl N fun on h₃ N D => ?_
  simp only [List.set_cons_succ, List.set_cons_zero] at D
  have eP : tabObj #[] = tabObj #[] := rfl
  have hT : TriplesOk (#[] : Array Value).toList := trivial
  refine s_cons ?_
  refine sA ?_
  refine q_List ?_
  refine ac ?_
  refine q_str fun t4 => ?_
  refine a_nil ?_
  refine d_newList D (show 1 ≤ sizeLine by decide) fun sl h₄ D => ?_
  refine q_storeC (i := 5) D rfl N fun on h₅ N D => ?_
  simp only [List.set_cons_succ, List.set_cons_zero] at D
  refine s_cons ?_
  refine s_DefC (j := 3) (i := 2) (clos := []) D rfl eP rfl hoc hne rfl rfl G₀.g B₀ hT (by kernel_rfl) rfl (by rfl) rfl rfl rfl fun f0 of0 c0 ct0 doc0 od0 oP ps0 h₆0 ef0 eP ep0 hT D cr0 lc0 lf0 => ?_
  simp only [List.set_cons_succ, List.set_cons_zero] at D
  refine q_storeC (i := 7) D rfl N fun on h₇0 N D => ?_
  simp only [List.set_cons_succ, List.set_cons_zero] at D
  refine s_cons ?_
  refine s_DefC (j := 5) (i := 4) (clos := [(Str.ofString "mycmp", L + 1)]) D rfl eP rfl hoc hne rfl rfl G₀.g B₀ hT (by rw [ep0]; kernel_rfl) rfl (by rfl) rfl rfl rfl fun f1 of1 c1 ct1 doc1 od1 oP ps1 h₆1 ef1 eP ep1 hT D cr1 lc1 lf1 => ?_
  simp only [List.set_cons_succ, List.set_cons_zero] at D
  refine q_storeC (i := 9) D rfl N fun on h₇1 N D => ?_
  simp only [List.set_cons_succ, List.set_cons_zero] at D
  refine s_cons ?_
  refine s_DefC (j := 7) (i := 6) (clos := [(Str.ofString "mycmp", L + 1)]) D rfl eP rfl hoc hne rfl rfl G₀.g B₀ hT (by rw [ep1, ep0]; kernel_rfl) rfl (by rfl) rfl rfl rfl fun f2 of2 c2 ct2 doc2 od2 oP ps2 h₆2 ef2 eP ep2 hT D cr2 lc2 lf2 => ?_
  simp only [List.set_cons_succ, List.set_cons_zero] at D
  refine q_storeC (i := 11) D rfl N fun on h₇2 N D => ?_
  simp only [List.set_cons_succ, List.set_cons_zero] at D
  refine s_cons ?_
  refine s_DefC (j := 9) (i := 8) (clos := [(Str.ofString "mycmp", L + 1)]) D rfl eP rfl hoc hne rfl rfl G₀.g B₀ hT (by rw [ep2, ep1, ep0]; kernel_rfl) rfl (by rfl) rfl rfl rfl fun f3 of3 c3 ct3 doc3 od3 oP ps3 h₆3 ef3 eP ep3 hT D cr3 lc3 lf3 => ?_
  simp only [List.set_cons_succ, List.set_cons_zero] at D
  refine q_storeC (i := 13) D rfl N fun on h₇3 N D => ?_
  simp only [List.set_cons_succ, List.set_cons_zero] at D
  refine s_cons ?_
  refine s_DefC (j := 11) (i := 10) (clos := [(Str.ofString "mycmp", L + 1)]) D rfl eP rfl hoc hne rfl rfl G₀.g B₀ hT (by rw [ep3, ep2, ep1, ep0]; kernel_rfl) rfl (by rfl) rfl rfl rfl fun f4 of4 c4 ct4 doc4 od4 oP ps4 h₆4 ef4 eP ep4 hT D cr4 lc4 lf4 => ?_
  simp only [List.set_cons_succ, List.set_cons_zero] at D
  refine q_storeC (i := 15) D rfl N fun on h₇4 N D => ?_
  simp only [List.set_cons_succ, List.set_cons_zero] at D
  refine s_cons ?_
  refine s_DefC (j := 13) (i := 12) (clos := [(Str.ofString "mycmp", L + 1)]) D rfl eP rfl hoc hne rfl rfl G₀.g B₀ hT (by rw [ep4, ep3, ep2, ep1, ep0]; kernel_rfl) rfl (by rfl) rfl rfl rfl fun f5 of5 c5 ct5 doc5 od5 oP ps5 h₆5 ef5 eP ep5 hT D cr5 lc5 lf5 => ?_
  simp only [List.set_cons_succ, List.set_cons_zero] at D
  refine q_storeC (i := 17) D rfl N fun on h₇5 N D => ?_
  simp only [List.set_cons_succ, List.set_cons_zero] at D
  refine s_cons ?_
  refine sA ?_
  refine q_none ?_
  refine q_storeC (i := 17) D rfl N fun on h₈ N D => ?_
  simp only [List.set_cons_succ, List.set_cons_zero] at D
  refine s_nil ?_
  refine k1 _ _ ?_
  clear k1 Q1
  intro vs
  refine q_newTextTuple D fun tv h₉ D ltv => ?_
  rw [storeC_own rfl rfl (by decide +kernel)]
  refine q_localSet (i := 18) rfl D rfl N fun on h₁₀ N D => ?_
  simp only [List.set_cons_succ, List.set_cons_zero] at D
  have hop : ∀ C, Looks c.M (hideAll h [63]) (opaqueClassAbove (.ref C)) none := fun C => looks_opaque G₀.X (by kernel_rfl)
  have hns : L < nsA := by
    have := (List.pairwise_append.mp (show List.Pairwise (· > ·) (([tv, f5, c5, f4, c4, f3, c3, f2, c2, f1, c1, f0, c0, sl, fr, cc, P', T] ++ [nsA, bT, L + 1, 63]) : List Nat) from D.ord)).2.1
    exact Nat.lt_trans (Nat.lt_succ_self L) ((List.pairwise_cons.mp this).1 (L + 1) (by simp))
  refine c_typeCall (q_typeNew (ib := 19) (iN := 18) (is := 13) (tq := t1) (by have := r.depth; show A.depth + 1 ≤ 955; omega) r'.handled (by have := r.units; show A.units + 3 + 1 + 1 + 2 ≤ 9760; omega) (Nat.le_trans (by decide) (Nat.le_of_lt hL)) hop ?hv D rfl rfl N rfl hns ?hx fun C ns p t on' h₁₁ N' D lp lC lns => ?_)
  case hx => exact ⟨by kernel_rfl, by kernel_rfl, by kernel_rfl, by kernel_rfl, by kernel_rfl, by kernel_rfl, by kernel_rfl, by kernel_rfl, by kernel_rfl, by kernel_rfl, by kernel_rfl, by kernel_rfl, by kernel_rfl, Nat.le_of_ble_eq_true (by kernel_rfl)⟩
  case hv =>
    intro h' N'
    have at' : ∀ (i : Nat) {a : Addr} {o : Obj}, _ = some (a, o) → h'.get? a = some o := fun i {a o} (hm : [(tv, ({ cls := Value.type "tuple", data := Data.seq vs.toArray } : Obj)), (f5, of5), (c5, od5), (f4, of4), (c4, od4), (f3, of3), (c3, od3), (f2, of2), (c2, od2), (f1, of1), (c1, od1), (f0, of0), (c0, od0), (sl, W.listOf #[Value.str (Str.ofString "obj") t4] 0)][i]? = some (a, o)) => (N' (a, o) (List.mem_append_left _ (List.mem_of_getElem? hm))).1
    refine set_vals ?_ (.inr (.inr (.inr ⟨tv, _, _, rfl, at' 0 rfl, rfl, .inr (.inr (.inl rfl))⟩)))
    refine set_vals ?_ (.inr (.inr (.inl rfl)))
    refine set_vals ?_ (.inr (.inr (.inr ⟨f5, of5, _, rfl, at' 1 rfl, by rw [ef5], .inr (.inl rfl)⟩)))
    refine set_vals ?_ (.inr (.inr (.inr ⟨f4, of4, _, rfl, at' 3 rfl, by rw [ef4], .inr (.inl rfl)⟩)))
    refine set_vals ?_ (.inr (.inr (.inr ⟨f3, of3, _, rfl, at' 5 rfl, by rw [ef3], .inr (.inl rfl)⟩)))
    refine set_vals ?_ (.inr (.inr (.inr ⟨f2, of2, _, rfl, at' 7 rfl, by rw [ef2], .inr (.inl rfl)⟩)))
    refine set_vals ?_ (.inr (.inr (.inr ⟨f1, of1, _, rfl, at' 9 rfl, by rw [ef1], .inr (.inl rfl)⟩)))
    refine set_vals ?_ (.inr (.inr (.inr ⟨f0, of0, _, rfl, at' 11 rfl, by rw [ef0], .inr (.inl rfl)⟩)))
    refine set_vals ?_ (.inr (.inr (.inr ⟨sl, _, _, rfl, at' 13 rfl, rfl, .inl rfl⟩)))
    refine set_vals ?_ (.inl ⟨_, _, rfl⟩)
    intro q hq
    simp only [List.mem_cons, List.not_mem_nil, or_false] at hq
    rcases hq with rfl | rfl | rfl
    · exact .inl ⟨_, _, rfl⟩
    · exact .inl ⟨_, _, rfl⟩
    · exact .inr (.inl ⟨_, _, rfl⟩)
  refine ⟨C, _, rfl, D.at 1 rfl, rfl, ?_⟩
  refine ds D fun h₁₂ D => ?_
  refine s_cons ?_
  refine s_Return ?_
  refine dl D ?_
  refine k0 _ _ ?_
  show CkPost c mv h (.ref C) h₁₂
  have ord := D.ord
  have inK : ∀ (i : Nat) {a : Addr} {o : Obj}, ([(p, dscO C t), (C, (⟨.type "type", none, .cls { name := "K", bases := [.type "object"], mro := [.ref C, .type "object"], ns := ns, qualname := qK, hasDict := false, slotNames := ["obj"] }, #[some (.ref bT), none, some (.str "K" t0), some (.str qK t1), some (.builtin "object.__new__"), some (.bool false)]⟩ : Obj)), (ns, on'), (tv, { cls := Value.type "tuple", data := Data.seq vs.toArray }), (f5, of5), (c5, od5), (f4, of4), (c4, od4), (f3, of3), (c3, od3), (f2, of2), (c2, od2), (f1, of1), (c1, od1), (f0, of0), (c0, od0), (sl, W.listOf #[Value.str (Str.ofString "obj") t4] 0), (fr, ofr), (cc, oc), (P', oP), (T, oT), (nsA, on), (bT, { cls := Value.type "tuple", data := Data.seq #[Value.type "object"] }), (L + 1, o1)] : List (Addr × Obj))[i]? = some (a, o) → _ := fun i {a o} hi => lookup_ord (l' := [(63, tabObj (#[] ++ #[rawInt ↑44, rawInt ↑4, Value.ref cc]))]) ord (List.mem_of_getElem? hi)
  have e16 : h₁₂.get? 63 = some (tabObj _) := D.at 24 rfl
  refine ⟨[(p, dscO C t), (C, (⟨.type "type", none, .cls { name := "K", bases := [.type "object"], mro := [.ref C, .type "object"], ns := ns, qualname := qK, hasDict := false, slotNames := ["obj"] }, #[some (.ref bT), none, some (.str "K" t0), some (.str qK t1), some (.builtin "object.__new__"), some (.bool false)]⟩ : Obj)), (ns, on'), (tv, { cls := Value.type "tuple", data := Data.seq vs.toArray }), (f5, of5), (c5, od5), (f4, of4), (c4, od4), (f3, of3), (c3, od3), (f2, of2), (c2, od2), (f1, of1), (c1, od1), (f0, of0), (c0, od0), (sl, W.listOf #[Value.str (Str.ofString "obj") t4] 0), (fr, ofr), (cc, oc), (P', oP), (T, oT), (nsA, on), (bT, { cls := Value.type "tuple", data := Data.seq #[Value.type "object"] }), (L + 1, o1)], C, ns, p, L + 1, (fun i => match i with | 0 => f0 | 1 => f1 | 2 => f2 | 3 => f3 | 4 => f4 | _ => f5), (fun i => match i with | 0 => c0 | 1 => c1 | 2 => c2 | 3 => c3 | 4 => c4 | _ => c5), _, rfl, ⟨?cls, ?dict, ?own, ?obj, ?ga, ?gb, ?sa, ?ne, ?desc, ?cell, ?fn, ?code⟩, ?mem, ?ord, ?low, ?ext, e16⟩
  case cls => exact ⟨_, _, _, _, _, _, _, _, inK 1 rfl⟩
  case dict =>
    obtain ⟨hc', hsl', es', ep', hd', hI'⟩ := id N'
    refine ⟨on', es', ep', inK 2 rfl, hd', fun e he => isEs_str hI' e (Array.mem_toList_iff.mpr he), ?_, ?_⟩
    · show (es'.find? _).map _ = _
      rw [← Array.find?_toList]
      exact (isEs_find _ hI').trans (by kernel_rfl)
    · show (es'.find? _).map _ = _
      rw [← Array.find?_toList]
      exact (isEs_find _ hI').trans (by kernel_rfl)
  case own =>
    intro i hi
    rcases i with _ | _ | _ | _ | _ | _ | i
    · exact (nsIn_of (inK 2 rfl) N').trans (congrArg some (by kernel_rfl))
    · exact (nsIn_of (inK 2 rfl) N').trans (congrArg some (by kernel_rfl))
    · exact (nsIn_of (inK 2 rfl) N').trans (congrArg some (by kernel_rfl))
    · exact (nsIn_of (inK 2 rfl) N').trans (congrArg some (by kernel_rfl))
    · exact (nsIn_of (inK 2 rfl) N').trans (congrArg some (by kernel_rfl))
    · exact (nsIn_of (inK 2 rfl) N').trans (congrArg some (by kernel_rfl))
    · omega
  case obj => exact (nsIn_of (inK 2 rfl) N').trans (congrArg some (by kernel_rfl))
  case ga => exact (nsIn_of (inK 2 rfl) N').trans (congrArg some (by kernel_rfl))
  case gb => exact (nsIn_of (inK 2 rfl) N').trans (congrArg some (by kernel_rfl))
  case sa => exact (nsIn_of (inK 2 rfl) N').trans (congrArg some (by kernel_rfl))
  case ne => exact (nsIn_of (inK 2 rfl) N').trans (congrArg some (by kernel_rfl))
  case desc => exact ⟨t, inK 0 rfl⟩
  case cell => exact ⟨o1, inK 23 rfl, d1⟩
  case fn =>
    intro i hi
    rcases i with _ | _ | _ | _ | _ | _ | i
    · exact ⟨doc0, (mg ("__name__" : Str)).getD .none, ct0, (inK 14 rfl).trans (congrArg some (ef0.trans (by kernel_rfl)))⟩
    · exact ⟨doc1, (mg ("__name__" : Str)).getD .none, ct1, (inK 12 rfl).trans (congrArg some (ef1.trans (by kernel_rfl)))⟩
    · exact ⟨doc2, (mg ("__name__" : Str)).getD .none, ct2, (inK 10 rfl).trans (congrArg some (ef2.trans (by kernel_rfl)))⟩
    · exact ⟨doc3, (mg ("__name__" : Str)).getD .none, ct3, (inK 8 rfl).trans (congrArg some (ef3.trans (by kernel_rfl)))⟩
    · exact ⟨doc4, (mg ("__name__" : Str)).getD .none, ct4, (inK 6 rfl).trans (congrArg some (ef4.trans (by kernel_rfl)))⟩
    · exact ⟨doc5, (mg ("__name__" : Str)).getD .none, ct5, (inK 4 rfl).trans (congrArg some (ef5.trans (by kernel_rfl)))⟩
    · omega
  case code =>
    intro i hi
    rcases i with _ | _ | _ | _ | _ | _ | i
    · obtain ⟨vs', tt, e1, e2⟩ := cr0
      exact ⟨od0, vs', tt, inK 15 rfl, e1, e2.trans (congrArg some (congrArg (fun s => Value.str s tt) (by kernel_rfl)))⟩
    · obtain ⟨vs', tt, e1, e2⟩ := cr1
      exact ⟨od1, vs', tt, inK 13 rfl, e1, e2.trans (congrArg some (congrArg (fun s => Value.str s tt) (by kernel_rfl)))⟩
    · obtain ⟨vs', tt, e1, e2⟩ := cr2
      exact ⟨od2, vs', tt, inK 11 rfl, e1, e2.trans (congrArg some (congrArg (fun s => Value.str s tt) (by kernel_rfl)))⟩
    · obtain ⟨vs', tt, e1, e2⟩ := cr3
      exact ⟨od3, vs', tt, inK 9 rfl, e1, e2.trans (congrArg some (congrArg (fun s => Value.str s tt) (by kernel_rfl)))⟩
    · obtain ⟨vs', tt, e1, e2⟩ := cr4
      exact ⟨od4, vs', tt, inK 7 rfl, e1, e2.trans (congrArg some (congrArg (fun s => Value.str s tt) (by kernel_rfl)))⟩
    · obtain ⟨vs', tt, e1, e2⟩ := cr5
      exact ⟨od5, vs', tt, inK 5 rfl, e1, e2.trans (congrArg some (congrArg (fun s => Value.str s tt) (by kernel_rfl)))⟩
    · omega
  case mem => exact fun q hq => (D.nw q (List.mem_append_left [_] hq)).1
  case ord => exact (List.pairwise_append.mp (show List.Pairwise (· > ·) (([p, C, ns, tv, f5, c5, f4, c4, f3, c3, f2, c2, f1, c1, f0, c0, sl, fr, cc, P', T, nsA, bT, L + 1] ++ [63]) : List Nat) from ord)).1
  case low =>
    intro q hq
    have hlast : ∀ x ∈ ([p, C, ns, tv, f5, c5, f4, c4, f3, c3, f2, c2, f1, c1, f0, c0, sl, fr, cc, P', T, nsA, bT] : List Nat), x > L + 1 := fun x hx => (List.pairwise_append.mp (show List.Pairwise (· > ·) (([p, C, ns, tv, f5, c5, f4, c4, f3, c3, f2, c2, f1, c1, f0, c0, sl, fr, cc, P', T, nsA, bT] ++ [L + 1, 63]) : List Nat) from ord)).2.2 x hx (L + 1) (.head _)
    have hq1 : q.1 ∈ ([p, C, ns, tv, f5, c5, f4, c4, f3, c3, f2, c2, f1, c1, f0, c0, sl, fr, cc, P', T, nsA, bT] ++ [L + 1] : List Nat) := List.mem_map_of_mem (f := (·.1)) hq
    have hLL : h.objs.size ≤ L := F.above
    rcases List.mem_append.mp hq1 with h1 | h1
    · exact Nat.le_trans hLL (Nat.le_of_lt (Nat.lt_trans (Nat.lt_succ_self L) (hlast _ h1)))
    · rw [List.mem_singleton.mp h1]; exact Nat.le_trans hLL (Nat.le_succ L)
  case ext => exact fun b ob hb e => D.fr.keep b ob (hideAll_get _ e fun q => hb (List.mem_singleton.mp q))
end Mine
end
section
open PySem PySem.W PyProof.Rows PySem.Calls PySem.W.X
set_option Elab.async false
set_option maxRecDepth 100000
set_option maxHeartbeats 400000
set_option linter.unusedVariables false
namespace Mine
theorem n_list' (c : Cx) : nsIn (K2 c) mainGlobals (Str.ofString "list") = some none := by kernel_rfl
theorem b_list : bootBuiltins (Str.ofString "list") = some (.type "list") := by decide +kernel
theorem x_list : Str.ofString "list" ≠ ("__name__" : Str) := by decide +kernel
theorem n_len (c : Cx) : nsIn (K2 c) mainGlobals (Str.ofString "len") = some none := by kernel_rfl
theorem b_len : bootBuiltins (Str.ofString "len") = some (.builtin "len") := by decide +kernel
theorem x_len : Str.ofString "len" ≠ ("__name__" : Str) := by decide +kernel
theorem led_new {h h' h₀ : Heap} {L a : Addr} {m : Str → Option Value} {news : List (Addr × Obj)} {o : Obj} (D : Led h₀ L m h news) (F : Fr h₀ L h' m) (N : News h₀ L h' ((a, o) :: news)) (hl : ∀ q ∈ news, q.1 < a) : Led h₀ L m h' ((a, o) :: news) :=
  ⟨F, N, List.Pairwise.cons (fun b hb => by obtain ⟨p, hp, rfl⟩ := List.mem_map.mp hb; exact hl p hp) D.ord⟩
theorem led_size {h h₀ : Heap} {L : Addr} {m : Str → Option Value} {news : List (Addr × Obj)} (D : Led h₀ L m h news) : ∀ q ∈ news, q.1 < h.objs.size := fun q hq => Heap.lt_size (D.nw q hq).1
/-- a list's object -/
noncomputable def LsO (o : Obj) (vs : List Value) : Prop := o.cls = .type "list" ∧ ∃ e, o.data = .seq vs.toArray e
theorem lsO_listOf (vs : List Value) (e : Nat) : LsO (listOf vs.toArray e) vs := ⟨rfl, e, rfl⟩
theorem lsO_is {h : Heap} {a : Addr} {o : Obj} {vs : List Value} (x : LsO o vs) (e : h.get? a = some o) : h.IsList a vs.toArray := ⟨o, e, x.1, x.2⟩
section
variable {c : Cx} {A : Around} {h h₀ : Heap} {L : Addr} {m : Str → Option Value} {news : List (Addr × Obj)} {env : Env} {pos : Pos} {j : Nat}
theorem d_addL {l b : Addr} {vs ws : List Value} {Q : Value → Heap → Prop} (D : Led h₀ L m h news) (hl : h.IsList l vs.toArray) (hb : h.IsList b ws.toArray) (hz : vs.length + ws.length ≤ sizeLine)
    (q : ∀ M h', Led h₀ L m h' ((M, listOf (vs ++ ws).toArray 0) :: news) → Q (.ref M) h') : wq c A (binaryOp .Add (.ref l) (.ref b)) Q h :=
  wq.of fun _ _ k => add_lists (hsz := hz) D.fr D.nw hl hb fun h' F' N' => k _ _ _ (q _ h' (led_new D F' N' (led_size D)))
theorem d_copy {l : Addr} {items : Array Value} {Q : Value → Heap → Prop} (D : Led h₀ L m h news) (hl : h.IsList l items) (hz : items.size ≤ sizeLine)
    (q : ∀ M e h', Led h₀ L m h' ((M, listOf items e) :: news) → Q (.ref M) h') : wq c A (call (.type "list") [.ref l]) Q h :=
  wq.of fun _ _ k => list_copyK D.fr D.nw hl (fun M e h' F' N' hl' => k _ _ _ (q M e h' (led_new D F' N' hl'))) hz
theorem d_len {l : Addr} {items : Array Value} {Q : Value → Heap → Prop} (hl : h.IsList l items) (hf : (items.size : Int) < 2 ^ 63) (q : ∀ t, Q (.int items.size t) h) : wq c A (call (.builtin "len") [.ref l]) Q h :=
  wq.of fun _ _ k => len_list hl hf (k _ _ _ (q _))
theorem q_Tuple {elts : List Expr} {k' : Nat} {Q : Value → Heap → Prop} (H : wq c A (spliced (backTo pos (starEach elts env))) (fun vs h₁ => wq c A (newTuple vs) Q h₁) h) : wq c A (eval (.Tuple elts k' pos) env) Q h :=
  wq.of fun _ _ k => Tuple_ (H.go fun _ _ _ H₁ => H₁.go k)
/-- two stores out of a tuple display: an item and a name -/
theorem s_AssignT {e₁ e₂ value : Expr} {k' : Nat} {tp : Pos} {Q : Flow → Heap → Prop} (hh : A.handled = none) 
    (H : wq c A (eval value env) (fun v h₁ => ∃ t x y, v = .ref t ∧ h₁.IsTuple t #[x, y] ∧ (∀ h₂, Keep h₁ h₂ → wq c A (assign e₁ env x) (fun _ h₃ => wq c A (assign e₂ env y) (fun _ h₄ => Q .next h₄) h₃) h₂)) h)
    (he : assignEach [e₁, e₂] env = [(false, assign e₁ env), (false, assign e₂ env)] := by exact rfl)
    (hs : swapsWithSole [.Tuple [e₁, e₂] k' tp] value pos.line env = pure false := by exact rfl) (hw : swappedStores [.Tuple [e₁, e₂] k' tp] value env = pure none := by exact rfl) :
    wq c A (exec (.Assign [.Tuple [e₁, e₂] k' tp] value pos) env) Q h := wq.of fun tk Q' k => by
  refine Assign_Tuple (H.go fun v h₁ tk₁ H₁ => ?_) hs hw
  obtain ⟨t, x, y, rfl, ht, H₂⟩ := H₁
  refine wpAny_assign_Tuple hh ht (by rw [he]; rfl) (by rw [he]; rfl) fun h₂ hx => ?_
  rw [he]
  have H₃ := H₂ h₂ (fun b o e => hx b o (Nat.ne_of_lt (Heap.lt_size e)) e)
  show wpAny _ _ (do holding [y] (assign e₁ env x); do holding [] (assign e₂ env y); pure ()) _ _ _
  exact wpAny_bind (wpAny_holding (H₃.go fun _ h₃ tk₃ H₄ => wpAny_bind (wpAny_holding (H₄.go fun _ h₄ tk₄ q => wpAny_pure (k _ _ _ q)))))
theorem g_Sub {o i : Expr} {v : Value} {Q : Unit → Heap → Prop} (H : wq c A (eval o env) (fun ov h₁ => wq c A (eval i env) (fun iv h₂ => wq c A (setItem ov iv v) Q h₂) h₁) h) : wq c A (assign (.Subscript o i pos) env v) Q h := by
  refine wq.of fun tk Q' k => ?_
  rw [assign_Subscript]
  refine wpAny_bind (wpAny_holding (H.go fun ov h₁ tk₁ H₁ => wpAny_bind (wpAny_holding (H₁.go fun iv h₂ tk₂ H₂ => wpAny_bind (wpAny_standAt (wpAny_bind (wpAny_holding (H₂.go fun _ h₃ tk₃ q => ?_))))))))
  refine fun Γ p hΓ => ?_
  rw [Sem.wp_release]
  exact k _ _ _ q
theorem d_setItem {M : Addr} {o : Obj} {vs : List Value} {k : Nat} {n : Int} {t : Tok} {v : Value} {Q : Unit → Heap → Prop} (D : Led h₀ L m h news) (hi : news[j]? = some (M, o)) (hL : LsO o vs) (hn : n = k) (hk : k < vs.length) (hz : vs.length ≤ sizeLine)
    (q : ∀ o' h', LsO o' (vs.set k v) → Led h₀ L m h' (news.set j (M, o')) → Q () h') : wq c A (setItem (.ref M) (.int n t) v) Q h :=
  wq.of fun tk Q' kk => by
    have hs : sizeLine < 2 ^ 63 := by decide
    refine wpAny_setItem_list (lsO_is hL (D.at j hi)) (by omega) (by omega) (by simp; omega) fun h' hl hsb => kk _ _ _ ?_
    obtain ⟨o', ho', hc', e', hd'⟩ := hl
    refine q o' h' ⟨hc', e', ?_⟩ (led_put D hi hsb ho')
    rw [hd']; subst hn; simp
theorem d_item {e i : Expr} {M : Addr} {vs : List Value} {k : Nat} {n : Int} {u : Tok} {v : Value} {Q : Value → Heap → Prop} (hl : h.IsList M vs.toArray) (hn : n = k) (hz : vs.length ≤ sizeLine) (hx : vs[k]? = some v) (q : Q v h)
    (hs : subscripted i false (.ref M) (.int n u) = operate [.ref M, .int n u] (getItem (.ref M) (.int n u)) := by exact rfl) : wq c A (subscriptTail e i (.ref M) (.int n u)) Q h := by
  have hk : k < vs.length := (List.getElem?_eq_some_iff.mp hx).1
  have hs' : sizeLine < 2 ^ 63 := by decide
  exact q_itemL hs hl (by omega) (by omega) (by subst hn; simpa using hx) q
end
theorem ints_get2 {vs : List Value} {xs : List Int} (H : IntsL vs xs) {i : Nat} {x : Int} (e : xs[i]? = some x) : ∃ t, vs[i]? = some (.int x t) := by
  have hi : i < xs.length := (List.getElem?_eq_some_iff.mp e).1
  obtain ⟨t, ht⟩ := ints_at H hi
  refine ⟨t, ?_⟩
  rw [ht]
  rw [List.getD_eq_getElem?_getD, e]
  rfl
theorem ints_set : ∀ {vs : List Value} {xs : List Int} {k : Nat} {y : Int} {t : Tok}, IntsL vs xs → IntsL (vs.set k (.int y t)) (xs.set k y)
  | [], [], _, _, _, _ => trivial
  | [], _ :: _, _, _, _, h => h.elim
  | _ :: _, [], _, _, _, h => h.elim
  | v :: vs, x :: xs, 0, y, t, h => ⟨⟨t, rfl⟩, h.2⟩
  | v :: vs, x :: xs, k + 1, y, t, h => ⟨h.1, ints_set h.2⟩
theorem ints_dropLast : ∀ {vs : List Value} {xs : List Int}, IntsL vs xs → IntsL vs.dropLast xs.dropLast
  | [], [], _ => trivial
  | [], _ :: _, h => h.elim
  | _ :: _, [], h => h.elim
  | [v], [x], h => trivial
  | [v], x :: y :: xs, h => h.2.elim
  | v :: w :: vs, [x], h => h.2.elim
  | v :: w :: vs, x :: y :: xs, h => ⟨h.1, ints_dropLast h.2⟩
theorem slice_m1 {vs : List Value} (hz : vs.length ≤ 4) : slicePick vs.toArray none (some (-1)) none = vs.dropLast.toArray := by
  match vs, hz with
  | [], _ => rfl
  | [a], _ => rfl
  | [a, b], _ => kernel_rfl
  | [a, b, c], _ => kernel_rfl
  | [a, b, c, d], _ => kernel_rfl
  | a :: b :: c :: d :: e :: r, h => simp at h
theorem rs1 : ∀ b, b < 17 → ∀ a, a ≤ b → Builtin.Range.small (a : Nat) (b : Nat) 1 = true ∧ Builtin.Range.rangeSize (a : Nat) (b : Nat) 1 = ((b - a : Nat) : Int) := by decide +kernel
/-! the plain step -/
noncomputable def innP (s : List Int × Int) (k : Nat) : List Int × Int := (s.1.set k (Builtin.bitXor (s.1.getD k 0) s.2), Builtin.bitAnd (s.1.getD k 0) s.2)
noncomputable def rowP (n low : Nat) (made : List Int) (carry : Int) (j : Nat) : List Int × Int := (List.range' low j).foldl innP (made, carry)
noncomputable def carP (x : Int) (low : Nat) : Int := if (x % 17 - 8) / 2 ^ low % 2 = 1 then x % 4294967296 else 0
noncomputable def outP (x : Int) (n : Nat) (made : List Int) (i : Nat) : List Int := (List.range i).foldl (fun m low => (rowP n low m (carP x low) (n - low)).1) made
noncomputable def st0P (ps : List Int) (x : Int) : List Int := if x % 3 = 0 then 0 :: ps.dropLast else ps
noncomputable def stepP (ps : List Int) (x : Int) : List Int := outP x (st0P ps x).length (st0P ps x) (st0P ps x).length
theorem innP_len (s : List Int × Int) (k : Nat) : (innP s k).1.length = s.1.length := by simp [innP]
theorem rowP_len (n low : Nat) (made : List Int) (carry : Int) (j : Nat) : (rowP n low made carry j).1.length = made.length := by
  unfold rowP
  generalize List.range' low j = l
  induction l generalizing made carry with
  | nil => rfl
  | cons a l ih =>
    rw [List.foldl_cons]
    exact (ih _ _).trans (innP_len (made, carry) a)
theorem rowP_succ (n low : Nat) (made : List Int) (carry : Int) (j : Nat) : rowP n low made carry (j + 1) = innP (rowP n low made carry j) (low + j) := by
  unfold rowP
  rw [List.range'_1_concat, List.foldl_append]
  rfl
theorem outP_succ (x : Int) (n : Nat) (made : List Int) (i : Nat) : outP x n made (i + 1) = (rowP n i (outP x n made i) (carP x i) (n - i)).1 := by
  unfold outP
  rw [List.range_succ, List.foldl_append]
  rfl
theorem outP_len (x : Int) (n : Nat) (made : List Int) (i : Nat) : (outP x n made i).length = made.length := by
  induction i with
  | zero => rfl
  | succ i ih => rw [outP_succ, rowP_len, ih]
end Mine
end
section
open PySem PySem.W PyProof.Rows PySem.Calls PySem.W.X
set_option Elab.async false
set_option maxRecDepth 100000
set_option maxHeartbeats 400000
set_option linter.unusedVariables false
namespace Mine
/-- the invariants of the two loops -/
noncomputable abbrev OutI (M : Addr) (x : Int) (t : Tok) (made : List Int) (i : Nat) (l' : List (Str × Value)) (news : List (Addr × Obj)) : Prop := ∃ o ws, news = [(M, o)] ∧ LsO o ws ∧ IntsL ws (outP x made.length made i) ∧ lk l' (Str.ofString "made") = some (.ref M) ∧ lk l' (Str.ofString "x") = some (.int x t)
noncomputable abbrev RowI (M I : Addr) (x : Int) (t : Tok) (made : List Int) (i : Nat) (o' : Obj) (k : Nat) (l'' : List (Str × Value)) (news : List (Addr × Obj)) : Prop := ∃ o ws tc, news = [(I, o'), (M, o)] ∧ LsO o ws ∧ IntsL ws (rowP made.length i (outP x made.length made i) (carP x i) (k - i)).1 ∧ i ≤ k ∧ lk l'' (Str.ofString "made") = some (.ref M) ∧ lk l'' (Str.ofString "x") = some (.int x t) ∧ lk l'' (Str.ofString "carry") = some (.int (rowP made.length i (outP x made.length made i) (carP x i) (k - i)).2 tc)
theorem lawstep {c : Cx} {A : Around} {h : Heap} {mg mb : Str → Option Value} {l : Addr} {vs : List Value} {ps : List Int} {x : Int} {t : Tok} (r : Room A 1 3) (G : Gd (K2 c) mg mb h) (hl : h.IsList l vs.toArray) (hi : IntsL vs ps) (h1 : 1 ≤ ps.length) (h4 : ps.length ≤ 4) :
    wq c A (call (.ref 84) [.ref l, .int x t]) (fun v h' => ∃ M ws, v = .ref M ∧ h'.IsList M ws.toArray ∧ IntsL ws (stepP ps x) ∧ Keep h h') h := by
  refine q_def (d := 0) (u := 0) (binds := [(Str.ofString "planes", .ref l), (Str.ofString "x", .int x t)]) r (G.X 84 _ rfl) rfl G.lim ?a ?b ?c ?d ?e ?f ?g ?_
  case a => exact codeRec_of G.X rfl
  case b => exact fun s _ => BindsTo.of_eq rfl
  case c => decide
  case d => exact locs rfl
  case e => exact rfl
  case f => exact rfl
  case g => exact rfl
  intro L h₁ F N r'
  refine wq.gen fun Q0 k0 => ?_
  have D := led_start F
  have hlv : vs.length = ps.length := ints_len hi
  have s4 : 4 ≤ sizeLine := by decide
  refine s_cons ?_
  refine sA (wq.mono (Q := fun v h₂ => ∃ M o ws, v = .ref M ∧ LsO o ws ∧ IntsL ws (st0P ps x) ∧ Led h L (lk [(Str.ofString "planes", .ref l), (Str.ofString "x", .int x t)].reverse) h₂ [(M, o)]) ?first fun v h₂ H₂ => ?rest)
  case first =>
    refine q_IfExp ?_
    refine tC ?_
    refine q_BinOp ?_
    refine dl D ?_
    refine q_int fun t1 => ?_
    refine q_mod (by decide) (by decide) fun t2 => ?_
    refine q_int fun t3 => ?_
    refine q_eq ?_
    refine t_bool ?_
    have hl1 : h₁.IsList l vs.toArray := let ⟨o, e, r⟩ := hl; ⟨o, F.keep _ _ e, r⟩
    by_cases hx : (x % 3 == 0) = true
    · rw [if_pos hx]
      refine q_BinOp ?_
      refine q_List ?_
      refine ac ?_
      refine q_int fun t4 => ?_
      refine a_nil ?_
      refine d_newList D (show 1 ≤ sizeLine by decide) fun Z h₂ D => ?_
      refine q_sliceTo D ?_
      refine dl D ?_
      refine q_UnaryOp ?_
      refine q_int fun t5 => ?_
      refine q_neg fun t5 => ?_
      refine ⟨l, vs, -1, t5, rfl, rfl, let ⟨o, e, r⟩ := hl; ⟨o, D.fr.keep _ _ e, r⟩, by omega, D, fun S h₃ D k3 lS => ?_⟩
      rw [slice_m1 (by omega)] at D
      refine d_addL D (led_isList (i := 1) D rfl) (led_isList (i := 0) D rfl) (by simp; omega) fun M h₄ D => ⟨M, _, _, rfl, lsO_listOf _ _, ?_, led_sub D (List.Sublist.cons_cons _ (List.nil_sublist _))⟩
      have e3 : x % 3 = 0 := by simpa using hx
      unfold st0P
      rw [if_pos e3]
      exact ⟨⟨t4, rfl⟩, ints_dropLast hi⟩
    · rw [if_neg hx]
      refine q_CallN ?_
      refine db (.type "list") D G (n_list' c) b_list x_list ?_
      refine qw ?_
      refine ac ?_
      refine dl D ?_
      refine a_nil ⟨kp_type, ?_⟩
      refine d_copy D hl1 (by simp; omega) fun M e h₂ D => ⟨M, _, vs, rfl, lsO_listOf _ _, ?_, D⟩
      have e3 : ¬ x % 3 = 0 := by simpa using hx
      unfold st0P
      rw [if_neg e3]
      exact hi
  case rest =>
    obtain ⟨M, o, ws, rfl, hO, hW, D⟩ := H₂
    have hn4 : (st0P ps x).length ≤ 4 := by
      unfold st0P
      split
      · simp; omega
      · exact h4
    have hwl : ws.length = (st0P ps x).length := ints_len hW
    generalize hm : st0P ps x = made at hn4 hW hwl
    have hst : stepP ps x = outP x made.length made made.length := by unfold stepP; rw [hm]
    refine ds D fun h₃ D => ?_
    refine s_cons ?_
    refine sF ?_
    refine q_CallN ?_
    refine db (.type "range") D G (n_range' c) b_range x_range ?_
    refine qw ?_
    refine ac ?_
    refine q_CallN ?_
    refine db (.builtin "len") D G (n_len c) b_len x_len ?_
    refine qw ?_
    refine ac ?_
    refine dl D ?_
    refine a_nil ⟨kp_bi, ?_⟩
    refine d_len (lsO_is hO (D.at 0 rfl)) (by simp; omega) fun t6 => ?_
    refine a_nil ⟨kp_type, ?_⟩
    refine c_range1 D fun R t7 t8 t9 h₄ D => ?_
    have hsz : (ws.toArray.size : Int) = (made.length : Nat) := by simp [hwl]
    rw [hsz] at D
    obtain ⟨sm, rz⟩ := rs1 made.length (by omega) 0 (Nat.zero_le _)
    refine i_range (j := 0) D rfl sm rz fun I h₅ D => ?_
    have D := led_sub D (news' := [(I, rI 0 ((made.length - 0 : Nat) : Int) 1), (M, o)]) (List.Sublist.cons_cons _ (List.Sublist.cons _ (List.Sublist.refl _)))
    refine for_range (n := made.length) r'.handled (OutI M x t made) ?turn ?done made.length 0 0 _ I _ _ h₅ rfl (Nat.zero_le _) rfl rfl ⟨o, ws, rfl, hO, hW, rfl, rfl⟩ D
    case done =>
      rintro l' news h' ⟨o, ws, rfl, hO, hW, e1, e2⟩ D
      refine s_nil ?_
      show wq c _ (execs _ _) _ _
      refine s_cons ?_
      refine s_Return ?_
      refine dv D e1 ?_
      exact k0 _ _ ⟨M, ws, rfl, lsO_is hO (D.at 0 rfl), by rw [hst]; exact hW, D.fr.keep⟩
    case turn =>
      rintro i ti I o' l' news h' hi' ⟨o, ws, rfl, hO, hW, e1, e2⟩ D
      have hwl2 : ws.length = made.length := (ints_len hW).trans (outP_len _ _ _ _)
      refine ds D fun h₆ D => ?_
      refine wq.gen fun Q1 k1 => ?_
      refine s_cons ?_
      refine sA (wq.mono (Q := fun v h₇ => (∃ t, v = .int (carP x i) t) ∧ h₇ = h₆) ?car fun v h₇ H₇ => ?inner)
      case car =>
        have hi4 : i = 0 ∨ i = 1 ∨ i = 2 ∨ i = 3 := by omega
        have hp : (0 : Int) < 2 ^ (i : Int).toNat ∧ (2 : Int) ^ (i : Int).toNat < 18446744073709551616 ∧ (Builtin.Int.intBits 2 : Int) * (i : Int) ≤ 2 ^ 27 := by
          rcases hi4 with rfl | rfl | rfl | rfl <;> decide
        refine q_IfExp ?_
        refine tC ?_
        refine q_BinOp ?_
        refine q_BinOp ?_
        refine q_BinOp ?_
        refine q_BinOp ?_
        refine dv D e2 ?_
        refine q_int fun t1 => ?_
        refine q_mod (by decide) (by decide) fun t2 => ?_
        refine q_int fun t3 => ?_
        refine q_sub fun t4 => ?_
        refine q_BinOp ?_
        refine q_int fun t5 => ?_
        refine dl D ?_
        refine q_pow (Int.natCast_nonneg _) hp.2.2 fun t6 => ?_
        refine q_div hp.1 hp.2.1 fun t7 => ?_
        refine q_int fun t8 => ?_
        refine q_mod (by decide) (by decide) fun t9 => ?_
        refine q_int fun t10 => ?_
        refine q_eq ?_
        refine t_bool ?_
        by_cases hx : ((x % 17 - 8) / 2 ^ (i : Int).toNat % 2 == 1) = true
        · rw [if_pos hx]
          refine q_BinOp ?_
          refine dv D e2 ?_
          refine q_BinOp ?_
          refine q_int fun t11 => ?_
          refine q_int fun t12 => ?_
          refine q_pow (by decide) (by decide) fun t13 => ?_
          refine q_mod (by decide) (by decide) fun t14 => ?_
          have e3 : (x % 17 - 8) / 2 ^ i % 2 = 1 := by simpa using hx
          refine ⟨⟨t14, ?_⟩, rfl⟩
          unfold carP
          rw [if_pos e3]
          rfl
        · rw [if_neg hx]
          refine q_int fun t11 => ⟨⟨t11, ?_⟩, rfl⟩
          have e3 : ¬ (x % 17 - 8) / 2 ^ i % 2 = 1 := by simpa using hx
          unfold carP
          rw [if_neg e3]
      case inner =>
        obtain ⟨⟨tc, rfl⟩, rfl⟩ := H₇
        refine ds D fun h₈ D => ?_
        refine s_cons ?_
        refine sF ?_
        refine q_CallN ?_
        refine db (.type "range") D G (n_range' c) b_range x_range ?_
        refine qw ?_
        refine ac ?_
        refine dl D ?_
        refine ac ?_
        refine q_CallN ?_
        refine db (.builtin "len") D G (n_len c) b_len x_len ?_
        refine qw ?_
        refine ac ?_
        refine dv D e1 ?_
        refine a_nil ⟨kp_bi, ?_⟩
        refine d_len (lsO_is hO (D.at 1 rfl)) (by simp; omega) fun t6 => ?_
        refine a_nil ⟨kp_type, ?_⟩
        refine c_range2 D fun R t7 t8 t9 h₉ D => ?_
        have hsz : (ws.toArray.size : Int) = (made.length : Nat) := by simp [hwl2]
        rw [hsz] at D
        obtain ⟨sm, rz⟩ := rs1 made.length (by omega) i (by omega)
        refine i_range (j := 0) D rfl sm rz fun I2 h₁₀ D => ?_
        have D := led_sub D (news' := [(I2, rI (i : Nat) ((made.length - i : Nat) : Int) 1), (I, o'), (M, o)]) (List.Sublist.cons_cons _ (List.Sublist.cons _ (List.Sublist.refl _)))
        refine for_range (n := made.length) r'.handled (RowI M I x t made i o') ?turn2 ?done2 (made.length - i) i _ _ I2 ((Str.ofString "carry", .int (carP x i) tc) :: (Str.ofString "low", .int (i : Nat) ti) :: l') _ h₁₀ rfl (by omega) rfl rfl ⟨o, ws, tc, rfl, hO, by rw [Nat.sub_self]; exact hW, Nat.le_refl _, e1, e2, by rw [Nat.sub_self]; rfl⟩ D
        case done2 =>
          rintro l'' news h'' ⟨o, ws, tc, rfl, hO, hW, _, e1, e2, e3⟩ D
          refine s_nil ?_
          refine s_nil (k1 _ _ ⟨l'', _, D, o, ws, rfl, hO, by rw [outP_succ]; exact hW, e1, e2⟩)
        case turn2 =>
          rintro k tk I3 o3 l'' news h'' hk ⟨o, ws, tc, rfl, hO, hW, hik, e1, e2, e3⟩ D
          generalize hS : rowP made.length i (outP x made.length made i) (carP x i) (k - i) = S at hW e3
          have hSl : S.1.length = made.length := by rw [← hS, rowP_len, outP_len]
          have hwl3 : ws.length = made.length := (ints_len hW).trans hSl
          obtain ⟨y, hy⟩ : ∃ y, S.1[k]? = some y := ⟨S.1[k]'(by omega), by simp [hSl, hk]⟩
          obtain ⟨ty, hv⟩ := ints_get2 hW hy
          have hyD : S.1.getD k 0 = y := by rw [List.getD_eq_getElem?_getD, hy]; rfl
          refine ds D fun h₁₁ D => ?_
          refine wq.gen fun Q2 k2 => ?_
          refine s_cons ?_
          refine s_AssignT r'.handled ?_
          refine wq.gen fun Q3 k3 => ?_
          refine q_Tuple ?_
          refine ac ?_
          refine q_BinOp ?_
          refine q_Subscript ?_
          refine dv D e1 ?_
          refine dl D ?_
          refine d_item (lsO_is hO (D.at 2 rfl)) rfl (by omega) hv ?_
          refine dv D e3 ?_
          refine q_xor fun t11 => ?_
          refine ac ?_
          refine q_BinOp ?_
          refine q_Subscript ?_
          refine dv D e1 ?_
          refine dl D ?_
          refine d_item (lsO_is hO (D.at 2 rfl)) rfl (by omega) hv ?_
          refine dv D e3 ?_
          refine q_and fun t12 => ?_
          refine a_nil ?_
          refine q_newTuple D (show 2 ≤ sizeLine by decide) fun T h₁₂ D lT => k3 _ _ ⟨T, _, _, rfl, ⟨_, D.at 0 rfl, rfl, 0, rfl⟩, fun h₁₃ kp => ?_⟩
          clear k3 Q3
          have D := led_tail (led_grow D kp)
          refine g_Sub ?_
          refine dv D e1 ?_
          refine dl D ?_
          refine d_setItem (j := 2) D rfl hO rfl (by omega) (by omega) fun o₂ h₁₄ hO₂ D => ?_
          dsimp only [List.set_cons_succ, List.set_cons_zero] at D
          refine g_Name ?_
          refine ds D fun h₁₅ D => ?_
          refine s_nil (k2 _ _ ⟨_, _, D, o₂, _, t12, rfl, hO₂, ?_, by omega, e1, e2, ?_⟩)
          · have e4 : k + 1 - i = (k - i) + 1 := by omega
            rw [e4, rowP_succ, hS, show i + (k - i) = k by omega]
            unfold innP
            rw [hyD]
            exact ints_set hW
          · have e4 : k + 1 - i = (k - i) + 1 := by omega
            rw [e4, rowP_succ, hS, show i + (k - i) = k by omega]
            unfold innP
            rw [hyD]
            rfl
end Mine
end
section
open PySem PySem.W PyProof.Rows PySem.Calls PySem.W.X
set_option Elab.async false
set_option maxRecDepth 100000
set_option maxHeartbeats 400000
set_option linter.unusedVariables false
namespace Mine
/-- something to go through in a comprehension: n items, the i-th fits P i -/
noncomputable def Src (c : Cx) (A : Around) (h₁ : Heap) (xv : Value) (n : Nat) (P : Nat → Value → Prop) : Prop :=
  ∀ Q : Value → Heap → Prop, (∀ I fp wr St h₂, Walks c.prog c.w A I fp wr n P St → St 0 h₂ → (∀ b ∈ fp, b < h₂.objs.size) → Keep h₁ h₂ → (∀ b ∈ wr, h₁.get? b = none) → (∀ i h, St i h → ∀ b ∈ wr, ∃ o, h.get? b = some o) → Q (.ref I) h₂) → wq c A (pyIter xv) Q h₁
section
variable {c : Cx} {A : Around} {h h₀ : Heap} {L : Addr} {m : Str → Option Value} {news : List (Addr × Obj)} {env : Env} {pos : Pos} {j : Nat}
theorem Src.go {xv : Value} {n : Nat} {P : Nat → Value → Prop} (S : Src c A h xv n P) {Q' : Value → Shared → Prop} {E : Value → Shared → Prop} {tk : Nat} (k : ∀ I fp wr St h₂ tk', Walks c.prog c.w A I fp wr n P St → St 0 h₂ → (∀ b ∈ fp, b < h₂.objs.size) → Keep h h₂ → (∀ b ∈ wr, h.get? b = none) → Q' (.ref I) (c.st h₂ tk')) :
    wpAny c.M A (pyIter xv) Q' E (c.st h tk) := wq.go (S (fun it h₂ => ∀ tk', Q' it (c.st h₂ tk')) fun I fp wr St h₂ W st hfp hk hwr _ tk' => k I fp wr St h₂ tk' W st hfp hk hwr) fun _ _ tk' g => g tk'
theorem src_list {l : Addr} {items : Array Value} (hh : A.handled = none) (hl : h.IsList l items) : Src c A h (.ref l) items.size (fun i v => items[i]? = some v) := by
  intro Q q
  have hlt : l < h.objs.size := let ⟨o, e, _⟩ := hl; Heap.lt_size e
  refine wq.of fun tk Q' k => wpAny_pyIter_list hl (k _ _ _ ?_)
  refine q h.objs.size [h.objs.size, l] [h.objs.size] _ _ (Walks.list hh _ l (Nat.ne_of_lt hlt) items) ?_ ?_ (fun _ _ e => Heap.get?_push_of_some _ e) ?_ ?_
  · exact ⟨⟨_, Heap.get?_push_size _ rfl, rfl, rfl⟩, let ⟨o, e, r⟩ := hl; ⟨o, Heap.get?_push_of_some _ e, r⟩⟩
  · intro b hb
    rw [Heap.size_push]
    simp only [List.mem_cons, List.not_mem_nil, or_false] at hb
    rcases hb with rfl | rfl
    · exact Nat.lt_succ_self _
    · exact Nat.lt_succ_of_lt hlt
  · intro b hb
    rw [List.mem_singleton.mp hb]
    exact Heap.get?_none_of_le (Nat.le_refl _)
  · intro i h' st b hb
    rw [List.mem_singleton.mp hb]
    obtain ⟨⟨o, e, _⟩, _⟩ := st
    exact ⟨o, e⟩
theorem src_range {r : Addr} {a b e : Int} {t u v : Tok} {n : Nat} (hh : A.handled = none) (hr : h.get? r = some (rO a b e t u v)) (hsm : Builtin.Range.small a b e = true) (hn : Builtin.Range.rangeSize a b e = (n : Int)) : Src c A h (.ref r) n (fun i v => i < n ∧ ∃ t, v = .int (a + i * e) t) := by
  intro Q q
  refine wq.of fun tk Q' k => wpAny_pyIter_range hr hsm (k _ _ _ ?_)
  refine q h.objs.size [h.objs.size] [h.objs.size] _ _ (Walks.range hh _ a e n).bound (by show IsRangeIter _ _ _ _ _; rw [hn]; simpa using Heap.get?_push_size _ rfl) ?_ (fun _ _ e => Heap.get?_push_of_some _ e) ?_ ?_
  · intro b hb
    rw [Heap.size_push, List.mem_singleton.mp hb]
    exact Nat.lt_succ_self _
  · intro b hb
    rw [List.mem_singleton.mp hb]
    exact Heap.get?_none_of_le (Nat.le_refl _)
  · intro i h' st b hb
    rw [List.mem_singleton.mp hb]
    exact ⟨_, st⟩
/-- the element, at any turn -/
noncomputable def EltOk (c : Cx) (A : Around) (h₁ : Heap) (x : Str) (P : Nat → Value → Prop) (p : Value → Bool) (F : Value → Value → Prop) (elt : Expr) (env : Addr → Env) : Prop :=
  ∀ (c' : Cx), c'.prog = c.prog → c'.w = c.w → ∀ C i v h₂ m₂, P i v → p v = true → Keep h₁ h₂ → h₂.Ns C m₂ → m₂ x = some v → wq c' A (eval elt (env C)) (fun y h₃ => F v y ∧ Keep h₂ h₃) h₂
noncomputable def TestOk (c : Cx) (A : Around) (h₁ : Heap) (x : Str) (P : Nat → Value → Prop) (p : Value → Bool) (test : Expr) (env : Addr → Env) : Prop :=
  ∀ (c' : Cx), c'.prog = c.prog → c'.w = c.w → ∀ C i v h₂ m₂, P i v → Keep h₁ h₂ → h₂.Ns C m₂ → m₂ x = some v → wq c' A (isTrue test (env C) (eval test (env C))) (fun z h₃ => z = p v ∧ Keep h₂ h₃) h₂
noncomputable def TestsOk (c : Cx) (A : Around) (h₁ : Heap) (x : Str) (P : Nat → Value → Prop) (p : Value → Bool) (ifs : List Expr) (env : Addr → Env) : Prop :=
  (ifs = [] ∧ ∀ v, p v = true) ∨ ∃ t, ifs = [t] ∧ TestOk c A h₁ x P p t env
theorem quiet_of {h₁ h₂ : Heap} {scope : Scope} {cl : List (Str × Addr)} {x : Str} {ifs : List Expr} {elt : Expr} {wr : List Addr} {P : Nat → Value → Prop} {p : Value → Bool} {F : Value → Value → Prop} {s₂ : Shared} (hk : Keep h₁ h₂) (hs : s₂.heap = h₂) (hwr : ∀ b ∈ wr, h₁.get? b = none)
    (T : TestsOk c A h₁ x P p ifs fun C => compEnvC scope cl C env) (E : EltOk c A h₁ x P p F elt fun C => compEnvC scope cl C env) : QuietOnC c.prog c.w A env scope cl x ifs elt wr P p F s₂ := by
  have key : ∀ (s₃ : Shared), (∀ b o, b ∉ wr → s₂.heap.get? b = some o → s₃.heap.get? b = some o) → Keep h₁ s₃.heap := fun s₃ k b o e => k b o (fun q => by rw [hwr b q] at e; cases e) (hs ▸ hk b o e)
  refine ⟨fun C i v s₃ m₃ E' _ hP hn hm k _ => ?_, fun C i v s₃ m₃ E' _ hP hp hn hm k _ => ?_⟩
  · rcases T with ⟨rfl, hp⟩ | ⟨t, rfl, T⟩
    · rw [List.forIn_nil]
      exact wpAny_pure ⟨(hp v).symm, s₃.heap, s₃.toks, rfl, fun _ _ e => e⟩
    · rw [List.forIn_cons]
      have W := T ⟨c.prog, c.w, s₃.gens, s₃.drawn, s₃.os⟩ rfl rfl C i v s₃.heap m₃ hP (key s₃ k) hn hm
      refine wpAny_bind ?_
      rw [if_pos rfl]
      refine wpAny_bind (W.go (tk := s₃.toks) fun z h₃ tk₃ hz => wpAny_pure ?_)
      show wpAny _ _ (forIn [] z _) _ _ _
      rw [List.forIn_nil]
      exact wpAny_pure ⟨hz.1, h₃, tk₃, rfl, hz.2⟩
  · have W := E ⟨c.prog, c.w, s₃.gens, s₃.drawn, s₃.os⟩ rfl rfl C i v s₃.heap m₃ hP hp (key s₃ k) hn hm
    exact W.go (tk := s₃.toks) fun y h₃ tk₃ hy => ⟨hy.1, h₃, tk₃, rfl, hy.2⟩
/-- a comprehension -/
theorem q_compS {elt iter : Expr} {ifs : List Expr} {x : Str} {px : Pos} {scope : Scope} {cl : List (Str × Addr)} {Q : Value → Heap → Prop} {n : Nat} {P : Nat → Value → Prop} (p : Value → Bool) (F : Value → Value → Prop)
    (hclos : closureFor scope env = pure cl) (hcell : ∀ y ∈ scope.names, y.2 ≠ .cell) (hkind : scope.kind = .function) (hnames : ∀ y ∈ scope.names, y.2 = .local → scope.names.lookup y.1 = some .local) (hx : scope.names.lookup x = some .local) (hs : ∀ x, foldedSetIterable iter env x = pure x) (hz : n ≤ sizeLine)
    (H : wq c A (eval iter env) (fun xv h₁ => Src c A h₁ xv n P ∧ TestsOk c A h₁ x P p ifs (fun C => compEnvC scope cl C env) ∧ EltOk c A h₁ x P p F elt (fun C => compEnvC scope cl C env) ∧
      (∀ D ys (vs : List Value) h', Keep h₁ h' → h₁.get? D = none → h'.IsList D (List.toArray ys) → vs.length = n → (∀ (j : Nat) v, vs[j]? = some v → P j v) → Paired F (vs.filter p) ys → Q (.ref D) h')) h) :
    wq c A (eval (.ListComp elt [⟨.Name x px, iter, ifs, 0⟩] scope pos) env) Q h := wq.of fun tk Q' k => by
  refine wpAny_ListComp_free p F hclos hcell hkind hnames hx (H.go fun xv h₁ tk₁ H₁ => ?_) hs
  have S := H₁.1
  have T := H₁.2.1
  have E := H₁.2.2.1
  have q := H₁.2.2.2
  clear H₁
  refine S.go fun I fp wr St h₂ tk₂ W st hfp hk hwr => ?_
  refine ⟨I, fp, wr, n, P, St, rfl, W, hz, st, hfp, quiet_of hk rfl hwr T E, ?_⟩
  intro D h' tk ys vs hD hl _ hlen hP hF hk'
  have keep : Keep h₁ h' := fun b o e => hk' b o (fun q => by rw [hwr b q] at e; cases e) (hk b o e)
  refine k _ _ _ (q D ys.toList vs h' keep ?_ (by rw [Array.toArray_toList]; exact hl) hlen hP hF)
  cases e : h₁.get? D with
  | none => rfl
  | some o => rw [show h₂.get? D = some o from hk _ _ e] at hD; cases hD
/-- a comprehension whose list is stored under a local name at once -/
theorem s_compS {elt iter : Expr} {ifs : List Expr} {x y : Str} {px py spos : Pos} {scope : Scope} {cl : List (Str × Addr)} {cn : Str} {cs : Scope} {a : Addr} {ccd : Value} {cc : List (Str × Addr)} {l : List (Str × Value)} {Q : Flow → Heap → Prop} {n : Nat} {P : Nat → Value → Prop} (p : Value → Bool) (F : Value → Value → Prop)
    (hsw : swapsWith (.ListComp elt [⟨.Name x px, iter, ifs, 0⟩] scope pos) (some (.Name y py)) spos.line (envX cn cs L a ccd cc) = pure true)
    (hclos : closureFor scope (envX cn cs L a ccd cc) = pure cl) (hcell : ∀ y ∈ scope.names, y.2 ≠ .cell) (hkind : scope.kind = .function) (hnames : ∀ y ∈ scope.names, y.2 = .local → scope.names.lookup y.1 = some .local) (hx : scope.names.lookup x = some .local) (hs : ∀ x, foldedSetIterable iter (envX cn cs L a ccd cc) x = pure x) (hz : n ≤ sizeLine)
    (hy : (envX cn cs L a ccd cc).kindOf y = some .local) (hp : (cs.kind == .class || (cs.kind == .module && L != mainGlobals)) = false)
    (H : wq c A (eval iter (envX cn cs L a ccd cc)) (fun xv h₁ => Src c A h₁ xv n P ∧ TestsOk c A h₁ x P p ifs (fun C => compEnvC scope cl C (envX cn cs L a ccd cc)) ∧ EltOk c A h₁ x P p F elt (fun C => compEnvC scope cl C (envX cn cs L a ccd cc)) ∧
      ∃ news, Led h₀ L (lk l) h₁ news ∧
      (∀ D ys (vs : List Value) h', h₁.get? D = none → h'.IsList D (List.toArray ys) → vs.length = n → (∀ (j : Nat) v, vs[j]? = some v → P j v) → Paired F (vs.filter p) ys → Led h₀ L (lk ((y, .ref D) :: l)) h' news → (∀ b o, b ≠ L → h₁.get? b = some o → h'.get? b = some o) → Q .next h')) h) :
    wq c A (exec (.Assign [.Name y py] (.ListComp elt [⟨.Name x px, iter, ifs, 0⟩] scope pos) spos) (envX cn cs L a ccd cc)) Q h := wq.of fun tk Q' k => by
  refine wpAny_Assign_ListComp_free p F hsw hclos hcell hkind hnames hx hy hp (H.go fun xv h₁ tk₁ H₁ => ?_) hs
  have S := H₁.1
  have T := H₁.2.1
  have E := H₁.2.2.1
  refine H₁.2.2.2.elim fun news H₁ => ?_
  have D₁ := H₁.1
  have q := H₁.2
  clear H₁
  refine S.go fun I fp wr St h₂ tk₂ W st hfp hk hwr => ?_
  have hLo : ∃ o, h₁.get? L = some o := let ⟨o, es, ep, e, _⟩ := D₁.fr.ns; ⟨o, e⟩
  have D₂ := led_grow D₁ hk
  refine ⟨I, fp, wr, n, P, St, lk l, rfl, W, hz, st, hfp, fun hm => ?_, D₂.fr.ns, quiet_of hk rfl hwr T E, ?_⟩
  · obtain ⟨o, e⟩ := hLo
    rw [hwr _ hm] at e; cases e
  intro D h' tk ys vs hD hl _ hlen hP hF hns hk'
  have keep : ∀ b o, b ≠ L → h₁.get? b = some o → h'.get? b = some o := fun b o hb e => hk' b o hb (fun q => by rw [hwr b q] at e; cases e) (hk b o e)
  refine k _ _ _ (q D ys.toList vs h' ?_ (by rw [Array.toArray_toList]; exact hl) hlen hP hF ?_ keep)
  · cases e : h₁.get? D with
    | none => rfl
    | some o => rw [show h₂.get? D = some o from hk _ _ e] at hD; cases hD
  · refine ⟨⟨lk_cons y (.ref D) l ▸ hns, fun b o e => keep b o (fun q => ?_) (D₁.fr.keep b o e), D₁.fr.above⟩, fun q hq => ⟨keep _ _ (D₁.nw q hq).2.1 (D₁.nw q hq).1, (D₁.nw q hq).2⟩, D₁.ord⟩
    subst q
    have := Heap.lt_size e
    exact Nat.lt_irrefl _ (Nat.lt_of_lt_of_le this D₁.fr.above)
end
end Mine
end
section
open PySem PySem.W PyProof.Rows PySem.Calls PySem.W.X
set_option Elab.async false
set_option maxRecDepth 100000
set_option maxHeartbeats 400000
set_option linter.unusedVariables false
namespace Mine
theorem n_sum (c : Cx) : nsIn (K2 c) mainGlobals (Str.ofString "sum") = some none := by kernel_rfl
theorem b_sum : bootBuiltins (Str.ofString "sum") = some (.builtin "sum") := by decide +kernel
theorem x_sum : Str.ofString "sum" ≠ ("__name__" : Str) := by decide +kernel
section
variable {c : Cx} {A : Around} {h h₀ : Heap} {L : Addr} {m : Str → Option Value} {news : List (Addr × Obj)} {env : Env} {pos : Pos} {j : Nat} {x : Str} {v : Value} {Q : Value → Heap → Prop}
theorem e_local (hn : h.Ns env.locals m) (hv : m x = some v) (q : Q v h) (hk : env.scope.kind = .function := by exact rfl) (hx : env.kindOf x = some .local := by exact rfl) (hd : (x == ("__debug__" : Str)) = false := by exact rfl) : wq c A (eval (.Name x pos) env) Q h :=
  wq.of fun _ _ k => wpAny_Name (wpAny_loadName_local hk hx hn hv (k _ _ _ q)) hd
theorem e_cell {cA : Addr} {o : Obj} (ho : h.get? cA = some o) (hd : o.data = .cell (some v)) (q : Q v h) (hc : env.cells.lookup x = some cA := by exact rfl) (hk : env.scope.kind = .function := by exact rfl) (hx : env.kindOf x = some .cell := by exact rfl) (hb : (x == ("__debug__" : Str)) = false := by exact rfl) : wq c A (eval (.Name x pos) env) Q h :=
  wq.of fun _ _ k => wpAny_Name (wpAny_loadName_cell hk hx hc ⟨o, ho, hd⟩ (k _ _ _ q)) hb
theorem e_global {K : Frag} {mg mb : Str → Option Value} (G : Gd K mg mb h) (e : nsIn K mainGlobals x = some (some v)) (q : Q v h) (hg : env.globals = mainGlobals := by exact rfl) (hk : env.scope.kind = .function := by exact rfl) (hx : env.kindOf x = some .globalImplicit := by exact rfl) (hd : (x == ("__debug__" : Str)) = false := by exact rfl) : wq c A (eval (.Name x pos) env) Q h :=
  wq.of fun _ _ k => Name_function_global hk hx (loadGlobal_global (by rw [hg]; exact G.g) (mg_of G.X G.g e) (k _ _ _ q)) hd
theorem c_sum {l : Addr} {vs : List Value} {xs : List Int} (hh : A.handled = none) (hl : h.IsList l vs.toArray) (hi : IntsL vs xs) (q : ∀ t h', Keep h h' → Q (.int xs.sum t) h') : wq c A (call (.builtin "sum") [.ref l]) Q h := wq.of fun tk Q' k => by
  have hi' := are_ints hi
  obtain ⟨ys, e⟩ := hi'.allInts.items
  rw [e] at hl
  refine sum_intListG hh hl fun h' tk t' hk => k _ _ _ ?_
  have e2 : preSum (numAt ys) ys.size = xs.sum := by
    rw [preSum_eq, List.take_of_length_le (by simp), ← nums_intItems, ← e]
    show (numsOf vs).sum = _
    rw [hi'.numsOf]
  rw [e2]
  exact q _ _ hk
theorem q_sliceFrom {value u : Expr} {p : Pos} (D0 : Led h₀ L m h news)
    (H : wq c A (eval value env) (fun o h₁ => wq c A (eval u env) (fun vu h₂ => ∃ l vs y t, o = .ref l ∧ vu = .int y t ∧ h₂.IsList l (List.toArray vs) ∧ vs.length ≤ sizeLine ∧ Led h₀ L m h₂ news ∧
      (∀ D h', Led h₀ L m h' ((D, listOf (slicePick vs.toArray (some y) none none) 0) :: news) → Keep h₂ h' → L < D → Q (.ref D) h')) h₁) h)
    (ht : ∀ o r, letTemporaryGo value o r = pure () := by exact fun _ _ => rfl) : wq c A (eval (.Subscript value (.Slice (some u) none none p) pos) env) Q h := wq.of fun tk Q' k => by
  refine wpAny_Subscript_list_slice (H.go fun o h₁ tk₁ H₁ => ?_) ht
  refine H₁.go fun vu h₂ tk₂ H₂ => ?_
  obtain ⟨l, vs, y, t, rfl, rfl, hl, hz, D, q⟩ := H₂
  refine wpAny_pure ⟨l, vs.toArray, some y, none, rfl, hl, by simpa using hz, .int y t, .none, k _ _ _ ?_⟩
  have D1 := led_push (led_tail (led_push D { cls := .type "slice", data := .fields #[.int y t, .none, .none] } rfl)) (listOf (slicePick vs.toArray (some y) none none) 0) rfl
  rw [Heap.size_push] at D1
  exact q _ _ D1 (fun _ _ e => Heap.get?_push_of_some _ (Heap.get?_push_of_some _ e)) (Nat.lt_succ_of_lt D.fr.ns.lt)
end
theorem paired_ints {f : Int → Int} : ∀ {vs ys : List Value} {n : Nat} (k : Nat), Paired (fun v y => ∃ a t t', v = Value.int a t ∧ y = Value.int (f a) t') vs ys → (∀ (j : Nat) v, vs[j]? = some v → ∃ t, v = Value.int ((k + j : Nat) : Int) t) → vs.length = n → IntsL ys ((List.range' k n).map fun (i : Nat) => f (i : Int)) := by
  intro vs ys n k P
  induction P generalizing k n with
  | nil => intro _ hn; cases hn; exact trivial
  | cons hF r ih =>
    intro hP hn
    cases hn
    obtain ⟨a, t, t', rfl, rfl⟩ := hF
    obtain ⟨u, e⟩ := hP 0 _ rfl
    cases e
    refine ⟨⟨t', rfl⟩, ?_⟩
    exact ih (k + 1) (fun j w hj => by
      obtain ⟨u, e⟩ := hP (j + 1) w hj
      exact ⟨u, by rw [e, show k + (j + 1) = k + 1 + j by omega]⟩) rfl
noncomputable def numP (ds : List Int) : Int := ((List.range' 0 ds.length).map fun (k : Nat) => 2 ^ k * ds.getD k 0).sum
end Mine
end
section
open PySem PySem.W PyProof.Rows PySem.Calls PySem.W.X
set_option Elab.async false
set_option maxRecDepth 100000
set_option maxHeartbeats 400000
set_option linter.unusedVariables false
namespace Mine
theorem pow16 : ∀ k : Nat, k < 16 → (0 : Int) < 2 ^ k ∧ (2 : Int) ^ k < 18446744073709551616 ∧ (Builtin.Int.intBits 2 : Int) * (k : Int) ≤ 2 ^ 27 ∧ Builtin.Int.intBits (2 ^ k) ≤ 64 := by decide +kernel
theorem lawnumber {c : Cx} {A : Around} {h : Heap} {mg mb : Str → Option Value} {l : Addr} {vs : List Value} {ds : List Int} (r : Room A 1 3) (G : Gd (K2 c) mg mb h) (hl : h.IsList l vs.toArray) (hi : IntsL vs ds) (h16 : ds.length < 16) :
    wq c A (call (.ref 94) [.ref l]) (fun v h' => (∃ t, v = .int (numP ds) t) ∧ Keep h h') h := by
  refine q_defC (d := 0) (u := 0) (binds := [(Str.ofString "digits", .ref l)]) r (G.X 94 _ rfl) rfl G.lim ?a ?b ?c ?d ?e ?f ?_
  case a => exact codeRec_of G.X rfl
  case b => exact fun s _ => BindsTo.of_eq rfl
  case d => exact rfl
  case e => exact rfl
  case f => exact rfl
  case c =>
    intro n x hx
    rw [List.mem_singleton.mp hx]
    exact .inr ⟨rfl, rfl⟩
  intro L h₁ F hc r'
  refine wq.gen fun Q0 k0 => ?_
  have F' : Fr h L h₁ (lk []) := F
  obtain ⟨o1, eo1, d1⟩ : h₁.IsCell (L + 1) (some (.ref l)) := hc (Str.ofString "digits") (L + 1) rfl
  have D := led_add (led_start F') eo1 (fun p hp => nomatch hp) (Nat.lt_succ_self L)
  have hlv : vs.length = ds.length := ints_len hi
  have s16 : 16 ≤ sizeLine := by decide
  have hlk : ∀ h', Keep h h' → h'.IsList l vs.toArray := fun h' k => let ⟨o, e, r⟩ := hl; ⟨o, k _ _ e, r⟩
  refine s_cons ?_
  refine s_Return ?_
  refine q_CallN ?_
  refine db (.builtin "sum") D G (n_sum c) b_sum x_sum ?_
  refine qw ?_
  refine ac ?_
  refine q_compS (n := ds.length) (P := fun i v => i < ds.length ∧ ∃ t, v = .int ((0 : Nat) + i * 1) t) (cl := [(Str.ofString "digits", L + 1)]) (fun _ => true) (fun v y => ∃ a t t', v = .int a t ∧ y = .int (2 ^ a.toNat * ds.getD a.toNat 0) t') rfl (by decide) rfl (by decide) rfl (fun _ => rfl) (by omega) ?_
  refine q_CallN ?_
  refine db (.type "range") D G (n_range' c) b_range x_range ?_
  refine qw ?_
  refine ac ?_
  refine q_CallN ?_
  refine db (.builtin "len") D G (n_len c) b_len x_len ?_
  refine qw ?_
  refine ac ?_
  refine q_cell (cA := L + 1) rfl (D.at 0 rfl) d1 rfl rfl rfl ?_
  refine a_nil ⟨kp_bi, ?_⟩
  refine d_len (hlk _ D.fr.keep) (by simp; omega) fun t6 => ?_
  refine a_nil ⟨kp_type, ?_⟩
  refine c_range1 D fun R t7 t8 t9 h₄ D => ?_
  have hsz : (vs.toArray.size : Int) = (ds.length : Nat) := by simp [hlv]
  rw [hsz] at D
  obtain ⟨sm, rz⟩ := rs1 ds.length (by omega) 0 (Nat.zero_le _)
  refine ⟨src_range r'.handled (D.at 0 rfl) sm rz, .inl ⟨rfl, fun _ => rfl⟩, ?elt, fun M ys us h₅ kp hM hlM hlen hP hF => ?_⟩
  case elt =>
    rintro c' ec ew C i v h₂ m₂ ⟨hi16, t, rfl⟩ _ kp hns hm
    have e0 : ((0 : Nat) : Int) + (i : Int) * 1 = (i : Int) := by omega
    rw [e0] at hm ⊢
    obtain ⟨p1, p2, p3, p4⟩ := pow16 i (by omega)
    obtain ⟨y, hy⟩ : ∃ y, ds[i]? = some y := ⟨ds[i], by simp [hi16]⟩
    obtain ⟨ty, hv⟩ := ints_get2 hi hy
    have hyD : ds.getD i 0 = y := by rw [List.getD_eq_getElem?_getD, hy]; rfl
    refine q_BinOp ?_
    refine q_BinOp ?_
    refine q_int fun t1 => ?_
    refine e_local hns hm ?_
    refine q_pow (Int.natCast_nonneg _) p3 fun t2 => ?_
    refine q_Subscript ?_
    refine e_cell (cA := L + 1) (kp _ _ (D.at 1 rfl)) d1 ?_
    refine e_local hns hm ?_
    refine d_item (hlk _ (Keep.trans D.fr.keep kp)) rfl (by omega) hv ?_
    refine q_mul (IntMulOk.of_left (by simpa using p4)) fun t3 => ⟨⟨i, t, t3, rfl, ?_⟩, fun _ _ e => e⟩
    rw [Int.toNat_natCast, hyD]
  have hF' : Paired (fun v y => ∃ a t t', v = Value.int a t ∧ y = Value.int (2 ^ a.toNat * ds.getD a.toNat 0) t') us ys := by
    have e : us.filter (fun _ => true) = us := by simp
    rw [e] at hF; exact hF
  have hI := paired_ints (f := fun a => 2 ^ a.toNat * ds.getD a.toNat 0) (n := ds.length) 0 hF' (fun j v hj => by
    obtain ⟨_, t, e⟩ := hP j v hj
    exact ⟨t, by rw [e, show (((0 : Nat) : Int) + (j : Int) * 1) = ((0 + j : Nat) : Int) by omega]⟩) hlen
  refine a_nil ⟨kp_bi, ?_⟩
  refine c_sum r'.handled hlM hI fun t h₆ kp6 => k0 _ _ ⟨⟨t, ?_⟩, Keep.trans (Keep.trans D.fr.keep kp) kp6⟩
  rfl
end Mine
end
section
open PySem PySem.W PyProof.Rows PySem.Calls PySem.W.X
set_option Elab.async false
set_option maxRecDepth 100000
set_option maxHeartbeats 400000
set_option linter.unusedVariables false
namespace Mine
/-- does the sign stand in the text? -/
noncomputable def inB (y : Str) (ch : Nat) : Bool := !(Builtin.Str.occurrences y ⟨#[ch]⟩ 0 y.length 1).isEmpty
section
variable {c : Cx} {A : Around} {h h₀ : Heap} {x y : Str} {t u : Tok} {Q : Value → Heap → Prop}
theorem q_inS {ch : Nat} (q : Q (.bool (inB x ch)) h) : wq c A (compareOp .In (.str ⟨#[ch]⟩ u) (.str x t)) Q h := wq.of fun _ _ k => PyProof.Rows.in_str (k _ _ _ q)
theorem q_addS (hz : x.length + y.length ≤ sizeLine) (q : ∀ t, Q (.str (x ++ y) t) h) : wq c A (binaryOp .Add (.str x t) (.str y u)) Q h := wq.of fun _ _ k => PyProof.Rows.add_str (fun t' tk => k _ _ _ (q _)) hz
theorem d_str {e i' : Expr} {n : Int} {k ch : Nat} (hn : n = k) (hz : k < 100) (hx : x.cps[k]? = some ch) (q : ∀ t, Q (.str ⟨#[ch]⟩ t) h) (hs : subscripted i' false (.str x t) (.int n u) = operate [.str x t, .int n u] (getItem (.str x t) (.int n u)) := by exact rfl) : wq c A (subscriptTail e i' (.str x t) (.int n u)) Q h := by
  subst hn
  exact q_strItem hs (by omega) hx q
end
noncomputable def showsP (a : Nat → Nat) (r : Nat) : Bool := if r < 9 then inB "rwxst" (a (9 - r)) else inB "sStT" (a (36 - 3 * r))
theorem lawshows {c : Cx} {A : Around} {h : Heap} {mg mb : Str → Option Value} {s : Str} {ts tr : Tok} {a : Nat → Nat} {r : Nat} (rm : Room A 1 3) (G : Gd (K2 c) mg mb h) (hs : ∀ i, i < 10 → s.cps[i]? = some (a i)) (hr : r < 12) :
    wq c A (call (.ref 108) [.str s ts, .int r tr]) (fun v h' => v = .bool (showsP a r) ∧ Keep h h') h := by
  refine q_def (d := 0) (u := 0) (binds := [(Str.ofString "text", .str s ts), (Str.ofString "right", .int r tr)]) rm (G.X 108 _ rfl) rfl G.lim ?a ?b ?c ?d ?e ?f ?g ?_
  case a => exact codeRec_of G.X rfl
  case b => exact fun s _ => BindsTo.of_eq rfl
  case c => decide
  case d => exact locs rfl
  case e => exact rfl
  case f => exact rfl
  case g => exact rfl
  intro L h₁ F N r'
  have D := led_start F
  refine s_cons ?_
  refine s_If ?_
  refine tC ?_
  refine dl D ?_
  refine q_int fun t1 => ?_
  refine q_lt ?_
  refine t_bool ?_
  by_cases h9 : r < 9
  · rw [if_pos (by simp; omega)]
    refine s_cons ?_
    refine s_Return ?_
    refine qC ?_
    refine q_Subscript ?_
    refine dl D ?_
    refine q_BinOp ?_
    refine q_int fun t2 => ?_
    refine dl D ?_
    refine q_sub fun t3 => ?_
    refine d_str (k := 9 - r) (by omega) (by omega) (hs _ (by omega)) fun t4 => ?_
    refine q_str fun t5 => ?_
    refine q_inS ⟨?_, F.keep⟩
    unfold showsP
    rw [if_pos h9]
  · rw [if_neg (by simp; omega)]
    refine s_nil ?_
    show wq c _ (execs _ _) _ _
    refine s_cons ?_
    refine s_Return ?_
    refine qC ?_
    refine q_Subscript ?_
    refine dl D ?_
    refine q_BinOp ?_
    refine q_int fun t2 => ?_
    refine q_BinOp ?_
    refine q_int fun t3 => ?_
    refine dl D ?_
    refine q_mul (IntMulOk.of_left (by decide)) fun t4 => ?_
    refine q_sub fun t5 => ?_
    refine d_str (k := 36 - 3 * r) (by omega) (by omega) (hs _ (by omega)) fun t6 => ?_
    refine q_str fun t7 => ?_
    refine q_inS ⟨?_, F.keep⟩
    unfold showsP
    rw [if_neg h9]
noncomputable def kindS : List Nat := [63, 112, 99, 63, 100, 63, 98, 63, 45, 63, 108, 63, 115, 63, 63, 63]
noncomputable def rwx (bs : List Int) (k : Nat) : List Nat := [[45, 114].getD (bs.getD (8 - 3 * k) 0).toNat 0, [45, 119].getD (bs.getD (7 - 3 * k) 0).toNat 0, (if k = 2 then [45, 120, 84, 116] else [45, 120, 83, 115]).getD (bs.getD (6 - 3 * k) 0 + 2 * bs.getD (11 - k) 0).toNat 0]
noncomputable def textI (bs : List Int) (i : Nat) : List Nat := kindS.getD (numP (bs.drop 12)).toNat 0 :: (List.range i).flatMap (rwx bs)
theorem textI_succ (bs : List Int) (i : Nat) : textI bs (i + 1) = textI bs i ++ rwx bs i := by
  unfold textI
  rw [List.range_succ, List.flatMap_append]
  simp
theorem textI_len (bs : List Int) (i : Nat) : (textI bs i).length = 1 + 3 * i := by
  induction i with
  | zero => rfl
  | succ i ih => rw [textI_succ, List.length_append, ih]; simp [rwx]; omega
theorem len_cons {α : Type} {l : List α} {n : Nat} (h : l.length = n + 1) : ∃ a t, l = a :: t ∧ t.length = n := by
  cases l with
  | nil => cases h
  | cons a t => exact ⟨a, t, rfl, by simpa using h⟩
theorem slice_12 {vs : List Value} (hz : vs.length = 16) : slicePick vs.toArray (some 12) none none = (vs.drop 12).toArray := by
  have hb : sliceBounds (some 12) none none vs.toArray.size = (((12 : Nat) : Int), ((16 : Nat) : Int), 1) := by
    rw [show vs.toArray.size = 16 by simpa using hz]; decide +kernel
  rw [kmk_pick_nat _ hb]
  rw [List.take_of_length_le (by simp; omega)]
theorem ints_drop : ∀ {vs : List Value} {xs : List Int} (k : Nat), IntsL vs xs → IntsL (vs.drop k) (xs.drop k)
  | vs, xs, 0, h => h
  | [], [], k + 1, h => trivial
  | [], _ :: _, _, h => h.elim
  | _ :: _, [], _, h => h.elim
  | v :: vs, x :: xs, k + 1, h => by simpa using ints_drop k h.2
theorem numP4 (a b c d : Int) : numP [a, b, c, d] = a + 2 * b + 4 * c + 8 * d := by
  simp [numP, List.range']
  omega
theorem str_snoc (l : List Nat) (ch : Nat) : (⟨l.toArray⟩ : Str) ++ (⟨#[ch]⟩ : Str) = ⟨(l ++ [ch]).toArray⟩ := by
  show (⟨l.toArray ++ #[ch]⟩ : Str) = _
  simp
theorem n_lawnumber (c : Cx) : nsIn (K2 c) mainGlobals (Str.ofString "_law_number") = some (some (.ref 94)) := by kernel_rfl
theorem bit4 {x y : Int} (hx : x = 0 ∨ x = 1) (hy : y = 0 ∨ y = 1) : ∃ k : Nat, k < 4 ∧ x + 2 * y = k := by
  rcases hx with rfl | rfl <;> rcases hy with rfl | rfl
  · exact ⟨0, by decide, rfl⟩
  · exact ⟨2, by decide, rfl⟩
  · exact ⟨1, by decide, rfl⟩
  · exact ⟨3, by decide, rfl⟩
theorem lawtext {c : Cx} {A : Around} {h : Heap} {mg mb : Str → Option Value} {l : Addr} {vs : List Value} {bs : List Int} (r : Room A 2 6) (G : Gd (K2 c) mg mb h) (hl : h.IsList l vs.toArray) (hi : IntsL vs bs) (h16 : bs.length = 16) (hb : ∀ i, i < 16 → bs.getD i 0 = 0 ∨ bs.getD i 0 = 1) :
    wq c A (call (.ref 101) [.ref l]) (fun v h' => (∃ t, v = .str ⟨(textI bs 3).toArray⟩ t) ∧ Keep h h') h := by
  refine q_def (d := 1) (u := 3) (binds := [(Str.ofString "bits", .ref l)]) r (G.X 101 _ rfl) rfl G.lim ?a ?b ?c ?d ?e ?f ?g ?_
  case a => exact codeRec_of G.X rfl
  case b => exact fun s _ => BindsTo.of_eq rfl
  case c => decide
  case d => exact locs rfl
  case e => exact rfl
  case f => exact rfl
  case g => exact rfl
  intro L h₁ F N r'
  refine wq.gen fun Q k0 => ?_
  have D := led_start F
  have hlv : vs.length = 16 := (ints_len hi).trans h16
  have s16 : 16 ≤ sizeLine := by decide
  have hlk : ∀ h', Keep h h' → h'.IsList l vs.toArray := fun h' k => let ⟨o, e, r⟩ := hl; ⟨o, k _ _ e, r⟩
  have bit : ∀ j, j < 16 → ∃ t, vs[j]? = some (.int (bs.getD j 0) t) := fun j hj => ints_at hi (by omega)
  have hnum : ∃ n : Nat, n < 16 ∧ numP (bs.drop 12) = n := by
    have hd : (bs.drop 12).length = 4 := by simp; omega
    have hg : ∀ i, i < 4 → (bs.drop 12).getD i 0 = 0 ∨ (bs.drop 12).getD i 0 = 1 := fun i hi => by
      have := hb (12 + i) (by omega)
      rwa [List.getD_eq_getElem?_getD, ← List.getElem?_drop, ← List.getD_eq_getElem?_getD] at this
    generalize bs.drop 12 = l at hd hg
    obtain ⟨a0, l0, rfl, hd0⟩ := len_cons hd
    obtain ⟨a1, l1, rfl, hd1⟩ := len_cons hd0
    obtain ⟨a2, l2, rfl, hd2⟩ := len_cons hd1
    obtain ⟨a3, l3, rfl, hd3⟩ := len_cons hd2
    cases List.eq_nil_of_length_eq_zero hd3
    have h1 : a0 = 0 ∨ a0 = 1 := hg 0 (by decide)
    have h2 : a1 = 0 ∨ a1 = 1 := hg 1 (by decide)
    have h3 : a2 = 0 ∨ a2 = 1 := hg 2 (by decide)
    have h4 : a3 = 0 ∨ a3 = 1 := hg 3 (by decide)
    rw [numP4]
    clear hg hd hd0 hd1 hd2 hd3
    refine ⟨(a0 + 2 * a1 + 4 * a2 + 8 * a3).toNat, ?_⟩
    rcases h1 with rfl | rfl <;> rcases h2 with rfl | rfl <;> rcases h3 with rfl | rfl <;> rcases h4 with rfl | rfl <;> decide
  obtain ⟨nn, hn16, hnn⟩ := hnum
  refine s_cons ?_
  refine sA ?_
  refine wq.gen fun Q1 k1 => ?_
  refine q_Subscript ?_
  refine q_str fun t1 => ?_
  refine q_CallN ?_
  refine dg D G (n_lawnumber c) ?_
  refine qw ?_
  refine ac ?_
  refine q_sliceFrom D ?_
  refine dl D ?_
  refine q_int fun t2 => ?_
  refine ⟨l, vs, 12, t2, rfl, rfl, hlk _ D.fr.keep, by omega, D, fun S h₂ D k2 lS => ?_⟩
  rw [slice_12 hlv] at D
  refine a_nil ⟨kp_fn ((G.keeps D.fr.keep).X 94 _ rfl) rfl, ?_⟩
  refine wq.mono (lawnumber r' (G.keeps D.fr.keep) (led_isList (i := 0) D rfl) (ints_drop 12 hi) (by simp; omega)) fun v h₃ H₃ => ?_
  obtain ⟨⟨t3, rfl⟩, k3⟩ := H₃
  have D := led_tail (led_grow D k3)
  refine d_str (k := nn) (ch := kindS.getD nn 0) hnn (by omega) ?k1 fun t4 => ?_
  case k1 =>
    have : ∀ n, n < 16 → (Str.ofString "?pc?d?b?-?l?s???").cps[n]? = some (kindS.getD n 0) := by decide +kernel
    exact this nn hn16
  refine k1 _ _ ?_
  refine ds D fun h₄ D => ?_
  clear k1 Q1
  refine s_cons ?_
  refine sF ?_
  refine q_CallN ?_
  refine db (.type "range") D G (n_range' c) b_range x_range ?_
  refine qw ?_
  refine ac ?_
  refine q_int fun t5 => ?_
  refine a_nil ⟨kp_type, ?_⟩
  refine c_range1 D fun R t6 t7 t8 h₅ D => ?_
  refine i_range (j := 0) (n := 3) D rfl rfl rfl fun I h₆ D => ?_
  have D := led_sub D (news' := [(I, rI 0 3 1)]) (List.Sublist.cons_cons _ (List.nil_sublist _))
  refine for_range (n := 3) r'.handled (fun i l' news => news = [] ∧ lk l' (Str.ofString "bits") = some (.ref l) ∧ ∃ t, lk l' (Str.ofString "signs") = some (.str ⟨(textI bs i).toArray⟩ t)) ?turn ?done 3 0 0 3 I _ _ h₆ rfl (Nat.zero_le _) rfl rfl ⟨rfl, rfl, t4, ?init⟩ D
  case init =>
    show some (Value.str _ _) = some (Value.str _ _)
    unfold textI
    rw [hnn]
    rfl
  case done =>
    rintro l' news h' ⟨rfl, e1, tsg, e2⟩ D
    refine s_nil ?_
    show wq c _ (execs _ _) _ _
    refine s_cons ?_
    refine s_Return ?_
    refine dv D e2 ?_
    exact k0 _ _ ⟨⟨tsg, rfl⟩, D.fr.keep⟩
  case turn =>
    rintro i ti I o l' news h' hi3 ⟨rfl, e1, tsg, e2⟩ D
    refine ds D fun h₈ D => ?_
    refine wq.gen fun Q1 k1 => ?_
    refine s_cons ?_
    refine sA ?_
    refine wq.gen fun Q2 k2 => ?_
    refine q_BinOp ?_
    refine q_BinOp ?_
    refine dv D e2 ?_
    refine q_Subscript ?_
    refine q_str fun t10 => ?_
    refine q_Subscript ?_
    refine dv D e1 ?_
    refine q_BinOp ?_
    refine q_int fun t11 => ?_
    refine q_BinOp ?_
    refine q_int fun t12 => ?_
    refine dl D ?_
    refine q_mul (IntMulOk.of_left (by decide)) fun t13 => ?_
    refine q_sub fun t14 => ?_
    obtain ⟨u1, v1⟩ := bit (8 - 3 * i) (by omega)
    refine d_item (k := 8 - 3 * i) (hlk _ D.fr.keep) (by omega) (by omega) v1 ?_
    have b1 := hb (8 - 3 * i) (by omega)
    refine d_str (k := (bs.getD (8 - 3 * i) 0).toNat) (ch := ([45, 114] : List Nat).getD (bs.getD (8 - 3 * i) 0).toNat 0) (by omega) (by omega) ?k2 fun t15 => ?_
    case k2 => rcases b1 with e | e <;> rw [e] <;> decide +kernel
    refine q_addS (by show (textI bs i).toArray.size + 1 ≤ _; simp [textI_len]; omega) fun t16 => ?_
    rw [str_snoc]
    refine q_Subscript ?_
    refine q_str fun t20 => ?_
    refine q_Subscript ?_
    refine dv D e1 ?_
    refine q_BinOp ?_
    refine q_int fun t21 => ?_
    refine q_BinOp ?_
    refine q_int fun t22 => ?_
    refine dl D ?_
    refine q_mul (IntMulOk.of_left (by decide)) fun t23 => ?_
    refine q_sub fun t24 => ?_
    obtain ⟨u2, v2⟩ := bit (7 - 3 * i) (by omega)
    refine d_item (k := 7 - 3 * i) (hlk _ D.fr.keep) (by omega) (by omega) v2 ?_
    have b2 := hb (7 - 3 * i) (by omega)
    refine d_str (k := (bs.getD (7 - 3 * i) 0).toNat) (ch := ([45, 119] : List Nat).getD (bs.getD (7 - 3 * i) 0).toNat 0) (by omega) (by omega) ?k3 fun t25 => ?_
    case k3 => rcases b2 with e | e <;> rw [e] <;> decide +kernel
    refine q_addS (by show (textI bs i ++ [_]).toArray.size + 1 ≤ _; simp [textI_len]; omega) fun t26 => ?_
    rw [str_snoc]
    refine k2 _ _ ?_
    clear k2 Q2
    refine ds D fun h₉ D => ?_
    refine s_cons ?_
    refine sA ?_
    refine wq.gen fun Q2 k2 => ?_
    refine q_BinOp ?_
    refine dl D ?_
    refine q_Subscript ?_
    refine wq.mono (Q := fun v h' => (∃ s t, v = .str s t ∧ ∀ k, k < 4 → s.cps[k]? = some ((if i = 2 then [45, 120, 84, 116] else [45, 120, 83, 115] : List Nat).getD k 0)) ∧ h' = h₉) ?tab fun v h' H => ?_
    case tab =>
      refine q_IfExp ?_
      refine tC ?_
      refine dl D ?_
      refine q_int fun t27 => ?_
      refine q_eq ?_
      refine t_bool ?_
      by_cases h2 : i = 2
      · rw [if_pos (by simp; omega)]
        refine q_str fun t28 => ⟨⟨_, t28, rfl, ?_⟩, rfl⟩
        rw [if_pos h2]; decide +kernel
      · rw [if_neg (by simp; omega)]
        refine q_str fun t28 => ⟨⟨_, t28, rfl, ?_⟩, rfl⟩
        rw [if_neg h2]; decide +kernel
    obtain ⟨⟨s, t28, rfl, hs⟩, rfl⟩ := H
    refine q_BinOp ?_
    refine q_Subscript ?_
    refine dv D e1 ?_
    refine q_BinOp ?_
    refine q_int fun t30 => ?_
    refine q_BinOp ?_
    refine q_int fun t31 => ?_
    refine dl D ?_
    refine q_mul (IntMulOk.of_left (by decide)) fun t32 => ?_
    refine q_sub fun t33 => ?_
    obtain ⟨u3, v3⟩ := bit (6 - 3 * i) (by omega)
    refine d_item (k := 6 - 3 * i) (hlk _ D.fr.keep) (by omega) (by omega) v3 ?_
    refine q_BinOp ?_
    refine q_int fun t34 => ?_
    refine q_Subscript ?_
    refine dv D e1 ?_
    refine q_BinOp ?_
    refine q_int fun t35 => ?_
    refine dl D ?_
    refine q_sub fun t36 => ?_
    obtain ⟨u4, v4⟩ := bit (11 - i) (by omega)
    refine d_item (k := 11 - i) (hlk _ D.fr.keep) (by omega) (by omega) v4 ?_
    refine q_mul (IntMulOk.of_left (by decide)) fun t37 => ?_
    refine q_add fun t38 => ?_
    obtain ⟨kk, hk4, hkk⟩ := bit4 (hb (6 - 3 * i) (by omega)) (hb (11 - i) (by omega))
    refine d_str (k := kk) hkk (Nat.lt_trans hk4 (by decide)) (hs kk hk4) fun t39 => ?_
    refine q_addS (by show ((textI bs i ++ [_]) ++ [_]).toArray.size + 1 ≤ _; simp [textI_len]; omega) fun t40 => ?_
    rw [str_snoc]
    refine k2 _ _ ?_
    refine ds D fun h₁₂ D => ?_
    refine s_nil (k1 _ _ ⟨_, _, D, rfl, e1, t40, ?_⟩)
    show some (Value.str _ _) = some (Value.str _ _)
    rw [textI_succ]
    unfold rwx
    rw [hkk, Int.toNat_natCast]
    simp
end Mine
end
section
open PySem PySem.W PyProof.Rows PySem.Calls PySem.W.X
set_option Elab.async false
set_option maxRecDepth 100000
set_option maxHeartbeats 400000
set_option linter.unusedVariables false
namespace Mine
theorem list_soft {h h' : Heap} {a M : Addr} {its : Array Value} (x : h.IsList M its) (s : Soft h a) (hs : Heap.SameBut a h h') : h'.IsList M its := by
  obtain ⟨o, e, hc, n, hd⟩ := x
  exact ⟨o, (hs.2 _ (s.ne e (fun v q => by rw [hd] at q; cases q) (fun es n q => by rw [hd] at q; cases q) (fun vs q => by rw [hd] at q; cases q))).trans e, hc, n, hd⟩
section loops
variable {c : Cx} {A : Around} {h₀ : Heap} {L : Addr} {env : Env} {pos : Pos}
/-- «for x in l», l a standing list; the invariant speaks of the heap too -/
theorem for_listH {x : Str} {p : Pos} {t : Addr} {vs : List Value} {body orelse : List Stmt} {Q : Flow → Heap → Prop} (hh : A.handled = none) (ht : ∀ h', Keep h₀ h' → h'.IsList t vs.toArray) (Inv : Nat → List (Str × Value) → List (Addr × Obj) → Heap → Prop)
    (soft : ∀ i l news h h' a, Inv i l news h → Soft h a → Heap.SameBut a h h' → Inv i l news h')
    (turn : ∀ (i : Nat) v I o l news h, vs[i]? = some v → Inv i l news h → Led h₀ L (lk l) h ((I, o) :: news) →
      wq c A (storeName env x v) (fun _ h₂ => wq c A (execs body env) (fun f h₃ => match f with
        | .next => ∃ l' news', Led h₀ L (lk l') h₃ ((I, o) :: news') ∧ Inv (i + 1) l' news' h₃
        | .cont => ∃ l' news', Led h₀ L (lk l') h₃ ((I, o) :: news') ∧ Inv (i + 1) l' news' h₃
        | .brk => Q .next h₃
        | .ret v => Q (.ret v) h₃) h₂) h)
    (done : ∀ l news h₁ h, Inv vs.length l news h₁ → (∀ a its, h₁.IsList a its → h.IsList a its) → Led h₀ L (lk l) h news → wq c A (execs orelse env) Q h) :
    ∀ (k i : Nat) (I : Addr) (o : Obj) (l : List (Str × Value)) (news : List (Addr × Obj)) (h : Heap), k = vs.length - i → i ≤ vs.length → IsLI o t i → Inv i l news h → Led h₀ L (lk l) h ((I, o) :: news) → wqL c A (.Name x p) (.ref I) body orelse env Q h := by
  intro k
  induction k with
  | zero =>
    intro i I o l news h hk hi hI hV D
    have : i = vs.length := n_zero hk hi
    subst this
    have hIo := D.at 0 (a := I) (o := o) rfl
    refine l_turn (wq.of fun tk Q' kk => wpAny_pyNext_list_end hh (it := I) (l := t) ⟨o, hIo, hI⟩ (ht h D.fr.keep) (by simp) fun h' hs => kk _ _ _ (done l news h h' hV (fun a its x => ?_) (led_lose D (i := 0) rfl hs)))
    obtain ⟨oa, e, hc, n, hd⟩ := x
    refine ⟨oa, hs a oa (fun q => ?_) e, hc, n, hd⟩
    subst q
    rw [hIo] at e; cases e
    rw [hI.2] at hd; cases hd
  | succ k ih =>
    intro i I o l news h hk hi hI hV D
    have hil : i < vs.length := n_lt hk
    obtain ⟨v, hv⟩ : ∃ v, vs[i]? = some v := ⟨vs[i], by simp [hil]⟩
    refine l_turn (n_listB (j := 0) D rfl hI (ht h D.fr.keep) (x := v) (by simpa using hv) fun o' h' hI' D' sb so => ?_)
    refine g_own (g_Name ?_)
    refine wq.mono (turn i v I o' l news h' hv (soft _ _ _ _ _ _ hV so sb) D') fun _ h₂ H₂ => wq.mono H₂ fun f h₃ H₃ => ?_
    cases f with
    | next => obtain ⟨l', news', D₃, hV'⟩ := H₃; exact ih (i + 1) I o' l' news' h₃ (n_next hk) (n_lt hk) hI' hV' D₃
    | cont => obtain ⟨l', news', D₃, hV'⟩ := H₃; exact ih (i + 1) I o' l' news' h₃ (n_next hk) (n_lt hk) hI' hV' D₃
    | brk => exact H₃
    | ret v => exact H₃
end loops
theorem q_isR {c : Cx} {A : Around} {h : Heap} {x y : Addr} {Q : Value → Heap → Prop} (hne : x ≠ y) (ho : ∃ ox oy, h.get? x = some ox ∧ h.get? y = some oy ∧ ox.cls ≠ .type "tuple") (q : Q (.bool false) h) : wq c A (compareOp .Is (.ref x) (.ref y)) Q h := by
  obtain ⟨ox, oy, e1, e2, hc⟩ := ho
  exact wq.of fun tk Q' k => wpAny_is_ref_other hne e1 e2 hc (k _ _ _ q)
theorem n_iter (c : Cx) : nsIn (K2 c) mainGlobals (Str.ofString "iter") = some none := by kernel_rfl
theorem n_missing (c : Cx) : nsIn (K2 c) mainGlobals (Str.ofString "_initial_missing") = some (some (.ref 69)) := by kernel_rfl
theorem b_iter : bootBuiltins (Str.ofString "iter") = some (.builtin "iter") := boot_iter
theorem x_iter : Str.ofString "iter" ≠ ("__name__" : Str) := by decide +kernel
noncomputable abbrev RedI (f : Addr) (xs : List Int) (S : List Int → Int → List Int) (ps0 : List Int) (Ok : List Int → Prop) (i : Nat) (l' : List (Str × Value)) (_ : List (Addr × Obj)) (hh : Heap) : Prop := lk l' (Str.ofString "function") = some (.ref f) ∧ ∃ M ws, lk l' (Str.ofString "value") = some (.ref M) ∧ hh.IsList M (List.toArray ws) ∧ IntsL ws ((xs.take i).foldl S ps0) ∧ Ok ((xs.take i).foldl S ps0)
theorem reduceL {c : Cx} {A : Around} {h : Heap} {mg mb : Str → Option Value} {f l p0 : Addr} {vs ws0 : List Value} {xs ps0 : List Int} {S : List Int → Int → List Int} {d u : Nat} (hd : 0 < d) (r : Room A (d + 1) (u + 3)) (G : Gd (K2 c) mg mb h) (hl : h.IsList l vs.toArray) (hx : IntsL vs xs) (hp : h.IsList p0 ws0.toArray) (hp0 : IntsL ws0 ps0)
    (hfn : ∃ o fd, h.get? f = some o ∧ o.data = .func fd) (Ok : List Int → Prop) (ok0 : Ok ps0) (okS : ∀ ps x, Ok ps → Ok (S ps x))
    (hf : ∀ A' h' M ws ps x t, Room A' d u → Keep h h' → h'.IsList M (List.toArray ws) → IntsL ws ps → Ok ps → wq c A' (call (.ref f) [.ref M, .int x t]) (fun v h'' => ∃ M' ws', v = .ref M' ∧ h''.IsList M' (List.toArray ws') ∧ IntsL ws' (S ps x) ∧ Keep h' h'') h') :
    wq c A (call (.ref 77) [.ref f, .ref l, .ref p0]) (fun v h' => ∃ M ws, v = .ref M ∧ h'.IsList M (List.toArray ws) ∧ IntsL ws (xs.foldl S ps0) ∧ Keep h h') h := by
  refine q_def (d := d) (u := u) (binds := [(Str.ofString "function", .ref f), (Str.ofString "sequence", .ref l), (Str.ofString "initial", .ref p0)]) r (G.X 77 _ rfl) rfl G.lim ?a ?b ?c ?d ?e ?f ?g ?_
  case a => exact codeRec_of G.X rfl
  case b =>
    intro s hs
    have e70 := G.X 70 _ rfl
    rw [← hs] at e70
    exact BindsTo.of_defaults (T := 70) rfl e70 rfl rfl rfl
  case c => decide
  case d => exact locs rfl
  case e => exact rfl
  case f => exact rfl
  case g => exact rfl
  intro L h₁ F N r'
  refine wq.gen fun Q0 k0 => ?_
  have D := led_start F
  have hne : p0 ≠ 69 := fun q => by
    obtain ⟨o, e, hc, _⟩ := hp
    rw [q, G.X 69 _ rfl] at e
    cases e
    exact absurd hc (by decide)
  refine s_cons ?_
  refine sA ?_
  refine q_CallN ?_
  refine db (.builtin "iter") D G (n_iter c) b_iter x_iter ?_
  refine qw ?_
  refine ac ?_
  refine dl D ?_
  refine a_nil ⟨kp_bi, ?_⟩
  refine c_iter D (let ⟨o, e, r⟩ := hl; ⟨o, F.keep _ _ e, r⟩) fun I o h₂ hI D => ?_
  refine ds D fun h₃ D => ?_
  refine s_cons ?_
  refine s_If ?_
  refine tC ?_
  refine dl D ?_
  refine dg D G (n_missing c) ?_
  refine q_isR hne (let ⟨o, e, hc, _⟩ := hp; ⟨o, _, D.fr.keep _ _ e, D.fr.keep _ _ (G.X 69 _ rfl), by rw [hc]; decide⟩) ?_
  refine t_bool ?_
  rw [if_neg (by decide)]
  refine s_cons ?_
  refine sA ?_
  refine dl D ?_
  refine ds D fun h₄ D => ?_
  refine s_nil ?_
  refine s_cons ?_
  refine sF ?_
  refine dl D ?_
  refine i_listiter (j := 0) D rfl hI ?_
  have hn : vs.length = xs.length := ints_len hx
  refine for_listH (vs := vs) r'.handled (fun h' k => let ⟨o, e, r⟩ := hl; ⟨o, k _ _ e, r⟩) (RedI f xs S ps0 Ok) ?soft ?turn ?done vs.length 0 I o _ _ h₄ rfl (Nat.zero_le _) hI ⟨rfl, p0, ws0, rfl, (let ⟨o, e, r⟩ := hp; ⟨o, D.fr.keep _ _ e, r⟩), hp0, ok0⟩ D
  case soft =>
    rintro i l' news ha hb a ⟨e1, M, ws, e2, hM, hI, ok⟩ so sb
    exact ⟨e1, M, ws, e2, list_soft hM so sb, hI, ok⟩
  case done =>
    rintro l' news h₁' h' ⟨e1, M, ws, e2, hM, hI, ok⟩ kl D
    refine s_nil ?_
    show wq c _ (execs _ _) _ _
    refine s_cons ?_
    refine s_Return ?_
    refine dv D e2 ?_
    exact k0 _ _ ⟨M, ws, rfl, kl _ _ hM, by rw [hn, List.take_length] at hI; exact hI, D.fr.keep⟩
  case turn =>
    rintro i v I' o' l' news h' hv ⟨e1, M, ws, e2, hM, hI, ok⟩ D
    obtain ⟨x, tx, hxi, rfl⟩ := ints_get hx hv
    obtain ⟨fo, fd, hfo, hfd⟩ := hfn
    refine dsB D fun h₅ D sb so => ?_
    have hM := list_soft hM so sb
    refine s_cons ?_
    refine sA ?_
    refine q_CallN ?_
    refine dv D e1 ?_
    refine qw ?_
    refine ac ?_
    refine dv D e2 ?_
    refine ac ?_
    refine dl D ?_
    refine a_nil ⟨kp_fn (D.fr.keep _ _ hfo) hfd, ?_⟩
    refine wq.mono (hf _ _ _ _ _ _ _ r' D.fr.keep hM hI ok) fun w h₆ H₆ => ?_
    obtain ⟨M', ws', rfl, hM', hI', k₆⟩ := H₆
    have D := led_grow D k₆
    refine dsB D fun h₇ D sb so => ?_
    have hM' := list_soft hM' so sb
    have e4 : (xs.take (i + 1)).foldl S ps0 = S ((xs.take i).foldl S ps0) x := by
      rw [List.take_add_one, hxi]
      simp
    refine s_nil ⟨_, _, D, e1, M', ws', rfl, hM', by rw [e4]; exact hI', by rw [e4]; exact okS _ _ ok⟩
end Mine
end
section
open PySem PySem.W PyProof.Rows PySem.Calls PySem.W.X
set_option Elab.async false
set_option maxRecDepth 100000
set_option maxHeartbeats 400000
set_option linter.unusedVariables false
namespace Mine
theorem slice_rev {vs : List Value} (hz : vs.length ≤ 12) : slicePick vs.toArray none none (some (-1)) = vs.reverse.toArray := by
  match vs, hz with
  | [], _ => rfl
  | [x0], _ => kernel_rfl
  | [x0, x1], _ => kernel_rfl
  | [x0, x1, x2], _ => kernel_rfl
  | [x0, x1, x2, x3], _ => kernel_rfl
  | [x0, x1, x2, x3, x4], _ => kernel_rfl
  | [x0, x1, x2, x3, x4, x5], _ => kernel_rfl
  | [x0, x1, x2, x3, x4, x5, x6], _ => kernel_rfl
  | [x0, x1, x2, x3, x4, x5, x6, x7], _ => kernel_rfl
  | [x0, x1, x2, x3, x4, x5, x6, x7, x8], _ => kernel_rfl
  | [x0, x1, x2, x3, x4, x5, x6, x7, x8, x9], _ => kernel_rfl
  | [x0, x1, x2, x3, x4, x5, x6, x7, x8, x9, x10], _ => kernel_rfl
  | [x0, x1, x2, x3, x4, x5, x6, x7, x8, x9, x10, x11], _ => kernel_rfl
  | x0 :: x1 :: x2 :: x3 :: x4 :: x5 :: x6 :: x7 :: x8 :: x9 :: x10 :: x11 :: x12 :: r, h => simp at h
theorem ints_append : ∀ {vs ws : List Value} {xs ys : List Int}, IntsL vs xs → IntsL ws ys → IntsL (vs ++ ws) (xs ++ ys)
  | [], _, [], _, _, h => h
  | [], _, _ :: _, _, h, _ => h.elim
  | _ :: _, _, [], _, h, _ => h.elim
  | v :: vs, ws, x :: xs, ys, h, h2 => ⟨h.1, ints_append h.2 h2⟩
theorem ints_reverse : ∀ {vs : List Value} {xs : List Int}, IntsL vs xs → IntsL vs.reverse xs.reverse
  | [], [], _ => trivial
  | [], _ :: _, h => h.elim
  | _ :: _, [], h => h.elim
  | v :: vs, x :: xs, h => by
    rw [List.reverse_cons, List.reverse_cons]
    exact ints_append (ints_reverse h.2) ⟨h.1, trivial⟩
section
variable {c : Cx} {A : Around} {h h₀ : Heap} {L : Addr} {m : Str → Option Value} {news : List (Addr × Obj)} {env : Env} {pos : Pos} {j : Nat} {Q : Value → Heap → Prop}
theorem q_sliceRev {value st : Expr} {p : Pos} (D0 : Led h₀ L m h news)
    (H : wq c A (eval value env) (fun o h₁ => wq c A (eval st env) (fun vu h₂ => ∃ l vs t, o = .ref l ∧ vu = .int (-1) t ∧ h₂.IsList l (List.toArray vs) ∧ vs.length ≤ 12 ∧ Led h₀ L m h₂ news ∧
      (∀ D h', Led h₀ L m h' ((D, listOf vs.reverse.toArray 0) :: news) → Keep h₂ h' → L < D → Q (.ref D) h')) h₁) h)
    (ht : ∀ o r, letTemporaryGo value o r = pure () := by exact fun _ _ => rfl) : wq c A (eval (.Subscript value (.Slice none none (some st) p) pos) env) Q h := wq.of fun tk Q' k => by
  refine wpAny_Subscript_Slice_step (T := "list") list_getitem_lookup (H.go fun o h₁ tk₁ H₁ => wpAny_Slice ?_) ht
  refine wpAny_pure (wpAny_pure ?_)
  refine H₁.go fun vu h₂ tk₂ H₂ => ?_
  obtain ⟨l, vs, t, rfl, rfl, hl, hz, D, q⟩ := H₂
  have hz' : vs.toArray.size ≤ sizeLine := by
    have : 12 ≤ sizeLine := by decide
    simp; omega
  refine ⟨(hl.push _).typeIs, wpAny_getItem_list_slice (hl.push _) (Heap.IsSliceOf.new ..) .none .none (.int (-1) t) (by simp) (k _ _ _ ?_) hz'⟩
  have D1 := led_push (led_tail (led_push D { cls := .type "slice", data := .fields #[.none, .none, .int (-1) t] } rfl)) (listOf (slicePick vs.toArray none none (some (-1))) 0) rfl
  rw [slice_rev hz] at D1 ⊢
  rw [Heap.size_push] at D1
  rw [Heap.size_push]
  exact q _ _ D1 (fun _ _ e => Heap.get?_push_of_some _ (Heap.get?_push_of_some _ e)) (Nat.lt_succ_of_lt D.fr.ns.lt)
theorem d_mulL {l : Addr} {v : Value} {e : Nat} {n : Nat} {u : Tok} (D : Led h₀ L m h news) (hi : news[j]? = some (l, listOf #[v] e)) (hn : n ≤ 16)
    (q : ∀ M h', Led h₀ L m h' ((M, listOf (List.replicate n v).toArray 0) :: news) → Q (.ref M) h') : wq c A (binaryOp .Mult (.ref l) (.int n u)) Q h :=
  wq.of fun tk Q' k => mul_list D.fr D.nw (D.at j hi) (by omega) (by omega) (by simp; omega) fun h' F' N' => k _ _ _ (q _ h' (by
    have e : (List.foldl (fun (x1 x2 : Array Value) => x1 ++ x2) #[] (List.replicate (if (#[v] : Array Value).isEmpty = true then 0 else (n : Int).toNat) #[v])) = (List.replicate n v).toArray := by
      rw [if_neg (by simp), Int.toNat_natCast]
      have : ∀ (k : Nat) (a : List Value), List.foldl (fun (x1 x2 : Array Value) => x1 ++ x2) a.toArray (List.replicate k #[v]) = (a ++ List.replicate k v).toArray := by
        intro k
        induction k with
        | zero => intro a; simp
        | succ k ih =>
          intro a
          rw [List.replicate_succ, List.foldl_cons]
          have e2 : a.toArray ++ #[v] = (a ++ [v]).toArray := by simp
          rw [e2, ih, List.replicate_succ, List.append_assoc]
          rfl
      simpa using this n []
    rw [e] at N'
    exact led_new D F' N' (led_size D)))
end
theorem ints_replicate {t : Tok} {x : Int} : ∀ n : Nat, IntsL (List.replicate n (.int x t)) (List.replicate n x)
  | 0 => trivial
  | n + 1 => ⟨⟨t, rfl⟩, ints_replicate n⟩
end Mine
end
section
open PySem PySem.W PyProof.Rows PySem.Calls PySem.W.X
set_option Elab.async false
set_option maxRecDepth 100000
set_option maxHeartbeats 400000
set_option linter.unusedVariables false
namespace Mine
section loops
variable {c : Cx} {A : Around} {h₀ : Heap} {L : Addr} {env : Env} {pos : Pos}
/-- «for x in l», l a list of the ledger; lists outlive the end -/
theorem for_listM {x : Str} {p : Pos} {t : Addr} {vs : List Value} {e : Nat} {body orelse : List Stmt} {Q : Flow → Heap → Prop} (hh : A.handled = none) (Inv : Nat → List (Str × Value) → List (Addr × Obj) → Heap → Prop)
    (soft : ∀ i l news h h' a, Inv i l news h → Soft h a → Heap.SameBut a h h' → Inv i l news h')
    (turn : ∀ (i : Nat) v I o l news h, vs[i]? = some v → Inv i l news h → Led h₀ L (lk l) h ((I, o) :: (t, listOf vs.toArray e) :: news) →
      wq c A (storeName env x v) (fun _ h₂ => wq c A (execs body env) (fun f h₃ => match f with
        | .next => ∃ l' news', Led h₀ L (lk l') h₃ ((I, o) :: (t, listOf vs.toArray e) :: news') ∧ Inv (i + 1) l' news' h₃
        | .cont => ∃ l' news', Led h₀ L (lk l') h₃ ((I, o) :: (t, listOf vs.toArray e) :: news') ∧ Inv (i + 1) l' news' h₃
        | .brk => Q .next h₃
        | .ret v => Q (.ret v) h₃) h₂) h)
    (done : ∀ l news h₁ h, Inv vs.length l news h₁ → (∀ a its, h₁.IsList a its → h.IsList a its) → Led h₀ L (lk l) h ((t, listOf vs.toArray e) :: news) → wq c A (execs orelse env) Q h) :
    ∀ (k i : Nat) (I : Addr) (o : Obj) (l : List (Str × Value)) (news : List (Addr × Obj)) (h : Heap), k = vs.length - i → i ≤ vs.length → IsLI o t i → Inv i l news h → Led h₀ L (lk l) h ((I, o) :: (t, listOf vs.toArray e) :: news) → wqL c A (.Name x p) (.ref I) body orelse env Q h := by
  intro k
  induction k with
  | zero =>
    intro i I o l news h hk hi hI hV D
    have : i = vs.length := n_zero hk hi
    subst this
    have hIo := D.at 0 (a := I) (o := o) rfl
    refine l_turn (wq.of fun tk Q' kk => wpAny_pyNext_list_end hh (it := I) (l := t) ⟨o, hIo, hI⟩ (led_isList (i := 1) D rfl) (by simp) fun h' hs => kk _ _ _ (done l news h h' hV (fun a its x => ?_) (led_lose D (i := 0) rfl hs)))
    obtain ⟨oa, e, hc, n, hd⟩ := x
    refine ⟨oa, hs a oa (fun q => ?_) e, hc, n, hd⟩
    subst q
    rw [hIo] at e; cases e
    rw [hI.2] at hd; cases hd
  | succ k ih =>
    intro i I o l news h hk hi hI hV D
    have hil : i < vs.length := n_lt hk
    obtain ⟨v, hv⟩ : ∃ v, vs[i]? = some v := ⟨vs[i], by simp [hil]⟩
    refine l_turn (n_listB (j := 0) D rfl hI (led_isList (i := 1) D rfl) (x := v) (by simpa using hv) fun o' h' hI' D' sb so => ?_)
    refine g_own (g_Name ?_)
    refine wq.mono (turn i v I o' l news h' hv (soft _ _ _ _ _ _ hV so sb) D') fun _ h₂ H₂ => wq.mono H₂ fun f h₃ H₃ => ?_
    cases f with
    | next => obtain ⟨l', news', D₃, hV'⟩ := H₃; exact ih (i + 1) I o' l' news' h₃ (n_next hk) (n_lt hk) hI' hV' D₃
    | cont => obtain ⟨l', news', D₃, hV'⟩ := H₃; exact ih (i + 1) I o' l' news' h₃ (n_next hk) (n_lt hk) hI' hV' D₃
    | brk => exact H₃
    | ret v => exact H₃
end loops
theorem i_listK {c : Cx} {A : Around} {h h₀ : Heap} {L t : Addr} {m : Str → Option Value} {news : List (Addr × Obj)} {items : Array Value} {Q : Value → Heap → Prop} (D : Led h₀ L m h news) (ht : h.IsList t items) (q : ∀ I o h', IsLI o t 0 → Led h₀ L m h' ((I, o) :: news) → Keep h h' → Q (.ref I) h') : wq c A (pyIter (.ref t)) Q h :=
  wq.of fun _ _ k => wpAny_pyIter_list ht (k _ _ _ (q _ _ _ ⟨rfl, rfl⟩ (led_push D _ rfl) (fun _ _ e => Heap.get?_push_of_some _ e)))
theorem paired_map {f : Int → Int} : ∀ {us ys : List Value}, Paired (fun v y => ∃ a t t', v = Value.int a t ∧ y = Value.int (f a) t') us ys → ∀ {xs : List Int}, IntsL us xs → IntsL ys (xs.map f) := by
  intro us ys P
  induction P with
  | nil => intro xs hx; cases xs with
    | nil => exact trivial
    | cons => exact hx.elim
  | cons hF r ih =>
    intro xs hx
    obtain ⟨a, t, t', rfl, rfl⟩ := hF
    cases xs with
    | nil => exact hx.elim
    | cons x xs =>
      obtain ⟨⟨u, e⟩, hr⟩ := hx
      cases e
      exact ⟨⟨t', rfl⟩, ih hr⟩
theorem list_same {us ws : List Value} (hlen : us.length = ws.toArray.size) (hP : ∀ (j : Nat) v, us[j]? = some v → ws.toArray[j]? = some v) : us = ws := by
  apply List.ext_getElem?
  intro j
  cases e : us[j]? with
  | some v => have := hP j v e; simpa using this.symm
  | none =>
    have : us.length ≤ j := List.getElem?_eq_none_iff.mp e
    have h2 : ws.length ≤ j := by simp at hlen; omega
    exact (List.getElem?_eq_none h2).symm
theorem bits17 (x : Int) : Builtin.Int.intBits (x % 17 - 8) ≤ 64 := by
  have : ∀ k : Fin 17, Builtin.Int.intBits ((k.val : Int) - 8) ≤ 64 := by decide +kernel
  have h1 := Int.emod_nonneg x (show (17 : Int) ≠ 0 by decide)
  have h2 := Int.emod_lt_of_pos x (show (0 : Int) < 17 by decide)
  have := this ⟨(x % 17).toNat, by omega⟩
  rwa [show (((x % 17).toNat : Nat) : Int) = x % 17 by omega] at this
theorem bits2 (x : Int) : Builtin.Int.intBits (x % 2) ≤ 64 := by
  have : ∀ k : Fin 2, Builtin.Int.intBits (k.val : Int) ≤ 64 := by decide +kernel
  have h1 := Int.emod_nonneg x (show (2 : Int) ≠ 0 by decide)
  have h2 := Int.emod_lt_of_pos x (show (0 : Int) < 2 by decide)
  have := this ⟨(x % 2).toNat, by omega⟩
  rwa [show (((x % 2).toNat : Nat) : Int) = x % 2 by omega] at this
noncomputable def ctS (s : List Int × Int) (x : Int) : List Int × Int := ((List.range' 0 16).map fun (q : Nat) => s.1.getD q 0 + x / 2 ^ q % 2 * ((x % 17 - 8) * s.2), if x % 3 = 0 then 2 * s.2 else s.2)
noncomputable def ctF (xs : List Int) : List Int × Int := xs.foldl ctS (List.replicate 16 0, 1)
theorem ctS_len (s : List Int × Int) (x : Int) : (ctS s x).1.length = 16 := by simp [ctS]
theorem ctF_len (xs : List Int) : (ctF xs).1.length = 16 := by
  have : ∀ s : List Int × Int, s.1.length = 16 → (xs.foldl ctS s).1.length = 16 := by
    induction xs with
    | nil => intro s h; exact h
    | cons x xs ih => intro s _; exact ih _ (ctS_len s x)
  exact this _ (by simp)
noncomputable def countsP (xs : List Int) (size : Nat) : List Int := ((ctF xs.reverse).1).map (· % 2 ^ size)
/-- the invariant of the loop -/
noncomputable abbrev CntI (L : Addr) (o1 : Obj) (xs : List Int) (i : Nat) (l' : List (Str × Value)) (news : List (Addr × Obj)) (hh : Heap) : Prop := ∃ M ws o2 o3 o4 tsh, news = [(L + 4, o4), (L + 3, o3), (L + 2, o2), (L + 1, o1)] ∧ o2.data = .cell (some (.ref M)) ∧ (∃ v3, o3.data = .cell v3) ∧ (∃ v4, o4.data = .cell v4) ∧ hh.IsList M (List.toArray ws) ∧ IntsL ws (ctF (xs.reverse.take i)).1 ∧ lk l' (Str.ofString "share") = some (.int (ctF (xs.reverse.take i)).2 tsh)
theorem lawcounts {c : Cx} {A : Around} {h : Heap} {mg mb : Str → Option Value} {l : Addr} {vs : List Value} {xs : List Int} {n : Nat} {tn : Tok} (r : Room A 1 3) (G : Gd (K2 c) mg mb h) (hl : h.IsList l vs.toArray) (hi : IntsL vs xs) (h12 : xs.length ≤ 12) (hn : n ≤ 4) :
    wq c A (call (.ref 89) [.ref l, .int n tn]) (fun v h' => ∃ M ws, v = .ref M ∧ h'.IsList M (List.toArray ws) ∧ IntsL ws (countsP xs n) ∧ Keep h h') h := by
  refine q_defC (d := 0) (u := 0) (binds := [(Str.ofString "files", .ref l), (Str.ofString "size", .int n tn)]) r (G.X 89 _ rfl) rfl G.lim ?a ?b ?c ?d ?e ?f ?_
  case a => exact codeRec_of G.X rfl
  case b => exact fun s _ => BindsTo.of_eq rfl
  case d => exact rfl
  case e => exact rfl
  case f => exact rfl
  case c =>
    intro n x hx
    simp only [List.mem_cons, List.not_mem_nil, or_false] at hx
    rcases hx with rfl | rfl
    · exact .inl rfl
    · exact .inr ⟨rfl, rfl⟩
  intro L h₁ F hc r'
  refine wq.gen fun Q0 k0 => ?_
  have F' : Fr h L h₁ (lk [(Str.ofString "files", .ref l)]) := by
    rw [← lk_cons]
    exact F
  obtain ⟨o1, eo1, d1⟩ : h₁.IsCell (L + 1) (some (.int n tn)) := hc (Str.ofString "size") (L + 1) rfl
  obtain ⟨o2, eo2, d2⟩ : h₁.IsCell (L + 2) none := hc (Str.ofString "counts") (L + 2) rfl
  obtain ⟨o3, eo3, d3⟩ : h₁.IsCell (L + 3) none := hc (Str.ofString "x") (L + 3) rfl
  obtain ⟨o4, eo4, d4⟩ : h₁.IsCell (L + 4) none := hc (Str.ofString "times") (L + 4) rfl
  have up : ∀ {a : Addr} {o : Obj} {r : List (Addr × Obj)} {n : Nat}, Led h L (lk [(Str.ofString "files", .ref l)]) h₁ ((n, o) :: r) → ∀ p ∈ (n, o) :: r, p.1 < n + 1 := fun {a o r n} D p hp => by
    rcases List.mem_cons.mp hp with rfl | hp
    · exact Nat.lt_succ_self _
    · exact Nat.lt_trans ((List.pairwise_cons.mp D.ord).1 p.1 (List.mem_map_of_mem hp)) (Nat.lt_succ_self _)
  have D := led_add (led_start F') eo1 (fun p hp => nomatch hp) (Nat.lt_succ_self L)
  have D := led_add D eo2 (up (a := 0) D) (Nat.lt_add_of_pos_right (by decide))
  have D := led_add D eo3 (up (a := 0) D) (Nat.lt_add_of_pos_right (by decide))
  have D := led_add D eo4 (up (a := 0) D) (Nat.lt_add_of_pos_right (by decide))
  clear up
  have hlv : vs.length = xs.length := ints_len hi
  have s16 : 16 ≤ sizeLine := by decide
  have hlk : ∀ h', Keep h h' → h'.IsList l vs.toArray := fun h' k => let ⟨o, e, r⟩ := hl; ⟨o, k _ _ e, r⟩
  refine s_cons ?_
  refine sA ?_
  refine q_BinOp ?_
  refine q_List ?_
  refine ac ?_
  refine q_int fun t1 => ?_
  refine a_nil ?_
  refine d_newList D (show 1 ≤ sizeLine by decide) fun Z h₂ D => ?_
  refine q_int fun t2 => ?_
  refine d_mulL (j := 0) (n := 16) D rfl (by decide) fun M h₃ D => ?_
  have D := led_sub D (news' := [(M, listOf (List.replicate 16 (.int 0 t1)).toArray 0), (L + 4, o4), (L + 3, o3), (L + 2, o2), (L + 1, o1)]) (List.Sublist.cons_cons _ (List.Sublist.cons _ (List.Sublist.refl _)))
  have hM := led_isList (i := 0) D rfl
  refine dsC (j := 3) (cA := L + 2) D rfl d2 rfl fun h₄ o2' D d2' sb so => ?_
  have hM := list_soft hM so sb
  dsimp only [List.set_cons_succ, List.set_cons_zero] at D
  have D := led_tail D
  refine s_cons ?_
  refine sA ?_
  refine q_int fun t3 => ?_
  refine dsB D fun h₅ D sb so => ?_
  have hM := list_soft hM so sb
  refine s_cons ?_
  refine sF ?_
  refine q_sliceRev D ?_
  refine dl D ?_
  refine q_UnaryOp ?_
  refine q_int fun t5 => ?_
  refine q_neg fun t5 => ?_
  refine ⟨l, vs, t5, rfl, rfl, hlk _ D.fr.keep, by omega, D, fun S h₆ D k6 lS => ?_⟩
  have hM : h₆.IsList M (List.replicate 16 (.int 0 t1)).toArray := let ⟨o, e, r⟩ := hM; ⟨o, k6 _ _ e, r⟩
  refine i_listK D (led_isList (i := 0) D rfl) fun I o h₇ hI D k7 => ?_
  have hM : h₇.IsList M (List.replicate 16 (.int 0 t1)).toArray := let ⟨o, e, r⟩ := hM; ⟨o, k7 _ _ e, r⟩
  refine for_listM (vs := vs.reverse) (t := S) (e := 0) r'.handled (CntI L o1 xs) ?soft ?turn ?done vs.reverse.length 0 I o _ _ h₇ rfl (Nat.zero_le _) hI ⟨M, _, o2', o3, o4, t3, rfl, d2', ⟨_, d3⟩, ⟨_, d4⟩, hM, ints_replicate 16, rfl⟩ D
  case soft =>
    rintro i l' news ha hb a ⟨M, ws, o2, o3, o4, tsh, rfl, e2, e3, e4, hM, hI, es⟩ so sb
    exact ⟨M, ws, o2, o3, o4, tsh, rfl, e2, e3, e4, list_soft hM so sb, hI, es⟩
  case done =>
    rintro l' news h₁' h' ⟨M, ws, o2, o3, o4, tsh, rfl, e2, e3, e4, hM, hI, es⟩ kl D
    refine s_nil ?_
    show wq c _ (execs _ _) _ _
    have hM := kl _ _ hM
    refine s_cons ?_
    refine s_Return ?_
    refine q_compS (n := ws.toArray.size) (P := fun i v => ws.toArray[i]? = some v) (cl := _) (fun _ => true) (fun v y => ∃ a t t', v = .int a t ∧ y = .int (a % 2 ^ n) t') rfl (by decide) rfl (by decide) rfl (fun _ => rfl) ?_ ?_
    · have := ints_len hI
      rw [ctF_len] at this
      simp; omega
    refine q_cell (cA := L + 2) rfl (D.at 3 rfl) e2 rfl rfl rfl ?_
    refine ⟨src_list r'.handled hM, .inl ⟨rfl, fun _ => rfl⟩, ?elt, fun M' ys us h₅ kp hM' hlM hlen hP hF => ?_⟩
    case elt =>
      rintro c' ec ew C i v h₂ m₂ hv _ kp hns hm
      obtain ⟨y, ty, _, rfl⟩ := ints_get hI (i := i) (v := v) (by simpa using hv)
      obtain ⟨p1, p2, p3, p4⟩ := pow16 n (by omega)
      refine q_BinOp ?_
      refine e_local hns hm ?_
      refine q_BinOp ?_
      refine q_int fun t1 => ?_
      refine e_cell (cA := L + 1) (kp _ _ (D.at 4 rfl)) d1 ?_
      refine q_pow (Int.natCast_nonneg _) p3 fun t2 => ?_
      refine q_mod p1 p2 fun t3 => ⟨⟨y, ty, t3, rfl, rfl⟩, fun _ _ e => e⟩
    have hF' : Paired (fun v y => ∃ a t t', v = Value.int a t ∧ y = Value.int (a % 2 ^ n) t') us ys := by
      have e : us.filter (fun _ => true) = us := by simp
      rw [e] at hF; exact hF
    have hus := list_same hlen hP
    subst hus
    refine k0 _ _ ⟨M', ys, rfl, hlM, ?_, Keep.trans D.fr.keep kp⟩
    have hlr : vs.reverse.length = xs.reverse.length := by simp [hlv]
    rw [hlr, List.take_length] at hI
    exact paired_map (f := fun a => a % 2 ^ n) hF' hI
  case turn =>
    rintro i v I' o' l' news h' hv ⟨M, ws, o2, o3, o4, tsh, rfl, e2, ⟨v3, e3⟩, ⟨v4, e4⟩, hM, hI, es⟩ D
    obtain ⟨x, tx, hxi, rfl⟩ := ints_get (ints_reverse hi) hv
    generalize hS : ctF (xs.reverse.take i) = st at hI es
    have hS2 : ctF (xs.reverse.take (i + 1)) = ctS st x := by
      rw [← hS]
      unfold ctF
      rw [List.take_add_one, hxi]
      simp
    have hwl : ws.length = 16 := (ints_len hI).trans (by rw [← hS, ctF_len])
    refine dsC (j := 3) (cA := L + 3) D rfl e3 rfl fun h₈ o3' D d3' sb so => ?_
    refine wq.gen fun Q1 k1 => ?_
    have hM := list_soft hM so sb
    dsimp only [List.set_cons_succ, List.set_cons_zero] at D
    refine s_cons ?_
    refine sA ?_
    refine wq.gen fun Q2 k2 => ?_
    refine q_BinOp ?_
    refine q_BinOp ?_
    refine q_BinOp ?_
    refine q_cell (cA := L + 3) rfl (D.at 3 rfl) d3' rfl rfl rfl ?_
    refine q_int fun t6 => ?_
    refine q_mod (by decide) (by decide) fun t7 => ?_
    refine q_int fun t8 => ?_
    refine q_sub fun t9 => ?_
    refine dv D es ?_
    refine q_mul (IntMulOk.of_left (bits17 x)) fun t10 => ?_
    refine k2 _ _ ?_
    clear k2 Q2
    refine dsC (j := 2) (cA := L + 4) D rfl e4 rfl fun h₉ o4' D d4' sb so => ?_
    have hM := list_soft hM so sb
    dsimp only [List.set_cons_succ, List.set_cons_zero] at D
    refine s_cons ?_
    refine sA ?_
    refine wq.gen fun Q2 k2 => ?_
    refine q_compS (n := 16) (P := fun i v => i < 16 ∧ ∃ t, v = .int ((0 : Int) + i * 1) t) (cl := _) (fun _ => true) (fun v y => ∃ a t t', v = .int a t ∧ y = .int (st.1.getD a.toNat 0 + x / 2 ^ a.toNat % 2 * ((x % 17 - 8) * st.2)) t') rfl (by decide) rfl (by decide) rfl (fun _ => rfl) s16 ?_
    refine q_CallN ?_
    refine db (.type "range") D G (n_range' c) b_range x_range ?_
    refine qw ?_
    refine ac ?_
    refine q_int fun t11 => ?_
    refine a_nil ⟨kp_type, ?_⟩
    have k9 : Keep h h₉ := D.fr.keep
    refine wq.mono (Q := fun v h₁₀ => ∃ R t7 t8 t9, v = .ref R ∧ h₁₀.get? R = some (rO 0 16 1 t7 t8 t9) ∧ Keep h₉ h₁₀ ∧ Led h L (lk l') h₁₀ [(I', o'), (S, listOf vs.reverse.toArray 0), (L + 4, o4'), (L + 3, o3'), (L + 2, o2), (L + 1, o1)]) ?_ fun v h₁₀ H₁₀ => ?_
    · exact wq.of fun tk Q' k => call_range_1 (k _ _ _ ⟨_, _, _, _, rfl, Heap.get?_push_size _ rfl, fun _ _ e => Heap.get?_push_of_some _ e, led_tail (led_push D _ rfl)⟩)
    obtain ⟨R, t7', t8', t9', rfl, hR, k10, D⟩ := H₁₀
    have hM : h₁₀.IsList M ws.toArray := let ⟨o, e, r⟩ := hM; ⟨o, k10 _ _ e, r⟩
    refine ⟨src_range r'.handled hR (by decide +kernel) (by decide +kernel), .inl ⟨rfl, fun _ => rfl⟩, ?elt, fun M' ys us h₅ kp hM' hlM hlen hP hF => ?_⟩
    case elt =>
      rintro c' ec ew C i v h₂ m₂ ⟨hi16, t, rfl⟩ _ kp hns hm
      have e0 : (0 : Int) + (i : Int) * 1 = (i : Int) := by omega
      rw [e0] at hm ⊢
      obtain ⟨p1, p2, p3, p4⟩ := pow16 i hi16
      obtain ⟨y, hy⟩ : ∃ y, st.1[i]? = some y := ⟨st.1[i]'(by rw [← ints_len hI, hwl]; exact hi16), by simp [← ints_len hI, hwl, hi16]⟩
      obtain ⟨ty, hv⟩ := ints_get2 hI hy
      have hyD : st.1.getD i 0 = y := by rw [List.getD_eq_getElem?_getD, hy]; rfl
      refine q_BinOp ?_
      refine q_Subscript ?_
      refine e_cell (cA := L + 2) (kp _ _ (D.at 4 rfl)) e2 ?_
      refine e_local hns hm ?_
      refine d_item (let ⟨o, e, r⟩ := hM; ⟨o, kp _ _ e, r⟩) rfl (by omega) hv ?_
      refine q_BinOp ?_
      refine q_BinOp ?_
      refine q_BinOp ?_
      refine e_cell (cA := L + 3) (kp _ _ (D.at 3 rfl)) d3' ?_
      refine q_BinOp ?_
      refine q_int fun t1 => ?_
      refine e_local hns hm ?_
      refine q_pow (Int.natCast_nonneg _) p3 fun t2 => ?_
      refine q_div p1 p2 fun t3 => ?_
      refine q_int fun t4 => ?_
      refine q_mod (by decide) (by decide) fun t5 => ?_
      refine e_cell (cA := L + 4) (kp _ _ (D.at 2 rfl)) d4' ?_
      refine q_mul (IntMulOk.of_left (bits2 _)) fun t6 => ?_
      refine q_add fun t7 => ⟨⟨i, t, t7, rfl, ?_⟩, fun _ _ e => e⟩
      rw [Int.toNat_natCast, hyD]
    have hF' : Paired (fun v y => ∃ a t t', v = Value.int a t ∧ y = Value.int (st.1.getD a.toNat 0 + x / 2 ^ a.toNat % 2 * ((x % 17 - 8) * st.2)) t') us ys := by
      have e : us.filter (fun _ => true) = us := by simp
      rw [e] at hF; exact hF
    have hIy := paired_ints (f := fun a => st.1.getD a.toNat 0 + x / 2 ^ a.toNat % 2 * ((x % 17 - 8) * st.2)) (n := 16) 0 hF' (fun j v hj => by
      obtain ⟨_, t, e⟩ := hP j v hj
      exact ⟨t, by rw [e, show ((0 : Int) + (j : Int) * 1) = ((0 + j : Nat) : Int) by omega]⟩) hlen
    have hIy : IntsL ys (ctS st x).1 := hIy
    have D := led_grow D kp
    refine k2 _ _ ?_
    clear k2 Q2
    refine dsC (j := 4) (cA := L + 2) D rfl e2 rfl fun h₁₁ o2' D d2' sb so => ?_
    have hlM := list_soft hlM so sb
    dsimp only [List.set_cons_succ, List.set_cons_zero] at D
    refine s_cons ?_
    refine sA (wq.mono (Q := fun v h₁₂ => (∃ t, v = .int (ctS st x).2 t) ∧ h₁₂ = h₁₁) ?share fun v h₁₂ H₁₂ => ?last)
    case share =>
      refine q_IfExp ?_
      refine tC ?_
      refine q_BinOp ?_
      refine q_cell (cA := L + 3) rfl (D.at 3 rfl) d3' rfl rfl rfl ?_
      refine q_int fun t1 => ?_
      refine q_mod (by decide) (by decide) fun t2 => ?_
      refine q_int fun t3 => ?_
      refine q_eq ?_
      refine t_bool ?_
      by_cases hx : (x % 3 == 0) = true
      · rw [if_pos hx]
        have e3 : x % 3 = 0 := by simpa using hx
        refine q_BinOp ?_
        refine q_int fun t4 => ?_
        refine dv D es ?_
        refine q_mul (IntMulOk.of_left (by decide)) fun t5 => ⟨⟨t5, ?_⟩, rfl⟩
        unfold ctS
        rw [if_pos e3]
      · rw [if_neg hx]
        have e3 : ¬ x % 3 = 0 := by simpa using hx
        refine dv D es ⟨⟨tsh, ?_⟩, rfl⟩
        unfold ctS
        rw [if_neg e3]
    case last =>
      obtain ⟨⟨tc, rfl⟩, rfl⟩ := H₁₂
      refine dsB D fun h₁₃ D sb so => ?_
      have hlM := list_soft hlM so sb
      refine s_nil (k1 _ _ ⟨_, _, D, M', ys, o2', o3', o4', tc, rfl, d2', ⟨_, d3'⟩, ⟨_, d4'⟩, hlM, by rw [hS2]; exact hIy, by rw [hS2]; rfl⟩)
end Mine
end
section
open PySem PySem.W PyProof.Rows PySem.Calls PySem.W.X
set_option Elab.async false
set_option maxRecDepth 100000
set_option maxHeartbeats 400000
set_option linter.unusedVariables false
namespace Mine
/-! the sort's tree under a ranking gives the stable order -/
noncomputable def gt (p : Array Nat) (k : Nat) : Nat := p.getD k 0
theorem gt_of {p q : Array Nat} {k j : Nat} (h : q[k]? = p[j]?) : gt q k = gt p j := by
  unfold gt
  rw [Array.getD_eq_getD_getElem?, Array.getD_eq_getD_getElem?, h]
theorem gt_rev {p : Array Nat} {i j : Nat} (hj : j ≤ p.size) (k : Nat) : gt (kas_rev p i j) k = if i ≤ k ∧ k < j then gt p (i + j - 1 - k) else gt p k := by
  have h := getElem?_mirror_all (xs := p) (i := i) hj k
  by_cases c : i ≤ k ∧ k < j
  · rw [if_pos c] at h ⊢; exact gt_of h
  · rw [if_neg c] at h ⊢; exact gt_of h
theorem gt_bubble {p : Array Nat} {src d : Nat} (hs : src < p.size) (hd : d ≤ src) (k : Nat) : gt (bubble p src d) k = if k = src - d then gt p src else if src - d < k ∧ k ≤ src then gt p (k - 1) else gt p k := by
  have h := getElem?_bubble (xs := p) hs d hd k
  by_cases c : k = src - d
  · rw [if_pos c] at h ⊢; exact gt_of h
  · rw [if_neg c] at h ⊢
    by_cases c2 : src - d < k ∧ k ≤ src
    · rw [if_pos c2] at h ⊢; exact gt_of h
    · rw [if_neg c2] at h ⊢; exact gt_of h
section
variable (r : Nat → Int) (N : Nat)
/-- a stands ahead of b -/
noncomputable def Ahd (a b : Nat) : Prop := r a < r b ∨ (r a = r b ∧ a < b)
variable {r N}
theorem Ahd.tr {a b c : Nat} (h : Ahd r a b) (g : Ahd r b c) : Ahd r a c := by
  rcases h with h | h
  · rcases g with g | g
    · exact .inl (Int.lt_trans h g)
    · exact .inl (g.1 ▸ h)
  · rcases g with g | g
    · exact .inl (h.1 ▸ g)
    · exact .inr ⟨h.1.trans g.1, Nat.lt_trans h.2 g.2⟩
theorem Ahd.le {a b : Nat} (h : Ahd r a b) : r a ≤ r b := h.elim Int.le_of_lt fun h => Int.le_of_eq h.1
theorem Ahd.of {a b : Nat} (h : ¬ r b < r a) (g : a < b) : Ahd r a b := (Int.lt_or_eq_of_le (Int.not_lt.mp h)).elim .inl fun e => .inr ⟨e, g⟩
/-! numbers -/
theorem fuel {f N n : Nat} (h : f + 1 = N - n) : f = N - (n + 1) := by rw [Nat.sub_add_eq, ← h]; rfl
theorem fuel_lt {f N n : Nat} (h : f + 1 = N - n) : n < N := Nat.lt_of_sub_pos (h ▸ Nat.succ_pos f)
theorem eq_last {n j : Nat} (h : j < n + 1) (c : ¬ j < n) : j = n := Nat.le_antisymm (Nat.le_of_lt_succ h) (Nat.le_of_not_lt c)
theorem lt_last {n i : Nat} (h : i < n) (c : ¬ i = n - 1) : i < n - 1 := Nat.lt_of_le_of_ne (Nat.le_sub_one_of_lt h) c
theorem last_lt {n : Nat} (h : 1 ≤ n) : n - 1 < n := Nat.sub_lt h Nat.one_pos
theorem mir_lt {i n k : Nat} (h : i ≤ k ∧ k < n) : i + n - 1 - k < n := by omega
theorem mir_ge {i n k : Nat} (h : k < n) : i ≤ i + n - 1 - k := by omega
theorem mir_flip {b n i j : Nat} (h : i < j) (h2 : j < n) : b + n - 1 - j < b + n - 1 - i := by omega
variable (r N)
noncomputable def Srt (p : Array Nat) (m : Nat) : Prop := ∀ i j, i < j → j < m → Ahd r (gt p i) (gt p j)
structure Rst (p : Array Nat) (m : Nat) : Prop where
  sz : p.size = N
  le : m ≤ N
  tl : ∀ k, m ≤ k → k < N → gt p k = k
  hd : ∀ k, k < m → gt p k < m
variable {r N}
theorem Rst.lt {p : Array Nat} {m k : Nat} (R : Rst N p m) (h : k < N) : gt p k < N := by
  by_cases c : k < m
  · exact Nat.lt_of_lt_of_le (R.hd k c) R.le
  · rw [R.tl k (Nat.le_of_not_lt c) h]; exact h
theorem Rst.succ {p : Array Nat} {m : Nat} (R : Rst N p m) (h : m < N) : Rst N p (m + 1) :=
  ⟨R.sz, h, fun k h1 h2 => R.tl k (Nat.le_of_succ_le h1) h2, fun k h1 => by
    by_cases c : k < m
    · exact Nat.lt_succ_of_lt (R.hd k c)
    · have ek := eq_last h1 c
      rw [R.tl k (Nat.le_of_not_lt c) (ek ▸ h)]; exact h1⟩
theorem Rst.lts {p : Array Nat} {m : Nat} (R : Rst N p m) : m ≤ p.size := R.sz ▸ R.le
variable {cmp : Nat → Nat → (Bool → Shared → Prop) → Shared → Prop} {Inv : Shared → Prop}
  (hc : ∀ i j C s, i < N → j < N → Inv s → (∀ s', Inv s' → C (decide (r i < r j)) s') → cmp i j C s)
include hc
theorem asc_ {p : Array Nat} {Q : Nat → Shared → Prop} : ∀ (f n : Nat) (s : Shared), f = N - n → 1 ≤ n → Rst N p n → Srt r p n → Inv s →
    (∀ m s', Inv s' → n ≤ m → Rst N p m → Srt r p m → (m < N → r (gt p m) < r (gt p (m - 1))) → Q m s') → (kas_asc p f n).kasWp cmp Q s := by
  intro f
  induction f with
  | zero =>
    intro n s hf h1 R S I q
    exact q n s I (Nat.le_refl _) R S (fun h => absurd (Nat.sub_pos_of_lt h) (by rw [← hf]; exact Nat.lt_irrefl 0))
  | succ f ih =>
    intro n s hf h1 R S I q
    have hn : n < N := fuel_lt hf
    show cmp (gt p n) (gt p (n - 1)) _ s
    refine hc _ _ _ _ (R.lt hn) (R.lt (Nat.lt_of_le_of_lt (Nat.sub_le n 1) hn)) I fun s' I' => ?_
    by_cases c : r (gt p n) < r (gt p (n - 1))
    · rw [decide_eq_true c]
      exact q n s' I' (Nat.le_refl _) R S (fun _ => c)
    · rw [decide_eq_false c]
      refine ih (n + 1) s' (fuel hf) (Nat.le_add_left 1 n) (R.succ hn) ?_ I' fun m s'' I'' hm => q m s'' I'' (Nat.le_of_succ_le hm)
      have last : Ahd r (gt p (n - 1)) (gt p n) := Ahd.of c (by rw [R.tl n (Nat.le_refl _) hn]; exact R.hd (n - 1) (last_lt h1))
      intro i j hij hj
      by_cases cj : j < n
      · exact S i j hij cj
      · have ej := eq_last hj cj
        rw [ej] at hij ⊢
        by_cases ci : i = n - 1
        · rw [ci]; exact last
        · exact (S i (n - 1) (lt_last hij ci) (last_lt h1)).tr last
omit hc in
theorem rev_rst {p : Array Nat} {i n : Nat} (R : Rst N p n) : Rst N (kas_rev p i n) n := by
  refine ⟨(mirror_size _ _ _ _).trans R.sz, R.le, fun k h1 h2 => ?_, fun k h => ?_⟩
  · rw [gt_rev R.lts, if_neg (fun h => absurd h.2 (Nat.not_lt.mpr h1))]; exact R.tl k h1 h2
  · rw [gt_rev R.lts]
    by_cases c : i ≤ k ∧ k < n
    · rw [if_pos c]; exact R.hd _ (mir_lt c)
    · rw [if_neg c]; exact R.hd _ h
variable (r) in
structure Dsc (N : Nat) (r : Nat → Int) (p : Array Nat) (n b : Nat) : Prop where
  rst : Rst N p n
  bn : b < n
  d1 : ∀ i j, i < j → j < b → Ahd r (gt p j) (gt p i)
  d2 : ∀ i j, i < b → b ≤ j → j < n → r (gt p j) < r (gt p i)
  d3 : ∀ i j, b ≤ i → i < j → j < n → r (gt p i) = r (gt p j) ∧ gt p i < gt p j
omit hc in
/-- all of it downwards, once the last block is turned -/
theorem Dsc.down {p : Array Nat} {n b : Nat} (D : Dsc N r p n b) : ∀ i j, i < j → j < n → Ahd r (gt (kas_rev p b n) j) (gt (kas_rev p b n) i) := by
  intro i j hij hj
  have hi := Nat.lt_trans hij hj
  rw [gt_rev D.rst.lts, gt_rev D.rst.lts]
  by_cases ci : b ≤ i
  · have cj := Nat.le_trans ci (Nat.le_of_lt hij)
    rw [if_pos ⟨cj, hj⟩, if_pos ⟨ci, hi⟩]
    exact .inr (D.d3 (b + n - 1 - j) (b + n - 1 - i) (mir_ge hj) (mir_flip hij hj) (mir_lt ⟨ci, hi⟩))
  · rw [if_neg (show ¬ (b ≤ i ∧ i < n) from fun h => ci h.1)]
    by_cases cj : b ≤ j
    · rw [if_pos ⟨cj, hj⟩]
      exact .inl (D.d2 i _ (Nat.lt_of_not_le ci) (mir_ge hj) (mir_lt ⟨cj, hj⟩))
    · rw [if_neg (fun h => cj h.1)]
      exact D.d1 i j hij (Nat.lt_of_not_le cj)
omit hc in
theorem rev_one {p : Array Nat} {b : Nat} (hs : b + 1 ≤ p.size) (k : Nat) : gt (kas_rev p b (b + 1)) k = gt p k := by
  rw [gt_rev hs]
  by_cases c : b ≤ k ∧ k < b + 1
  · rw [if_pos c]
    rw [Nat.le_antisymm (Nat.le_of_lt_succ c.2) c.1]
    exact congrArg (gt p) (Nat.add_sub_cancel b b)
  · rw [if_neg c]
theorem desc_ {Q : Array Nat × Nat × Nat → Shared → Prop} : ∀ (f n q b : Nat) (p : Array Nat) (s : Shared), f = N - n → n = b + (q + 1) → Dsc N r p n b → Inv s →
    (∀ p' n' q' b' s', Inv s' → n' = b' + (q' + 1) → Dsc N r p' n' b' → Q (p', n', q') s') → (kas_desc f p n q).kasWp cmp Q s := by
  intro f
  induction f with
  | zero =>
    intro n q b p s hf hq D I k
    exact k p n q b s I hq D
  | succ f ih =>
    intro n q b p s hf hq D I k
    have hn : n < N := fuel_lt hf
    have h1 : 1 ≤ n := Nat.lt_of_le_of_lt (Nat.zero_le b) D.bn
    have hl : n - 1 < n := last_lt h1
    have hb : b ≤ n - 1 := Nat.le_sub_one_of_lt D.bn
    have e : gt p n = n := D.rst.tl n (Nat.le_refl _) hn
    have eb : n - (q + 1) = b := by rw [hq]; exact Nat.add_sub_cancel _ _
    show cmp (gt p n) (gt p (n - 1)) _ s
    refine hc _ _ _ _ (D.rst.lt hn) (D.rst.lt (Nat.lt_trans hl hn)) I fun s' I' => ?_
    by_cases c : r (gt p n) < r (gt p (n - 1))
    · rw [decide_eq_true c]
      show (if true = true then (if q > 0 then kas_desc f (kas_rev p (n - (q + 1)) n) (n + 1) 0 else kas_desc f p (n + 1) 0) else _ : KasT _).kasWp cmp Q s'
      rw [if_pos rfl, eb]
      have low : ∀ i, i < n → r (gt p n) < r (gt p i) := by
        intro i hi
        by_cases cb : i < b
        · exact Int.lt_trans c (D.d2 i (n - 1) cb hb hl)
        · by_cases ce : i = n - 1
          · rw [ce]; exact c
          · rw [(D.d3 i (n - 1) (Nat.le_of_not_lt cb) (lt_last hi ce) hl).1]; exact c
      have new : ∀ p' : Array Nat, Rst N p' n → (∀ i j, i < j → j < n → Ahd r (gt p' j) (gt p' i)) → (∀ i, i < n → r (gt p n) < r (gt p' i)) → gt p' n = gt p n → Dsc N r p' (n + 1) n := by
        intro p' R' a1 a2 a3
        refine ⟨R'.succ hn, Nat.lt_succ_self n, a1, fun i j h1 h2 h3 => ?_, fun i j h1 h2 h3 => absurd (Nat.lt_of_le_of_lt h1 h2) (Nat.not_lt.mpr (Nat.le_of_lt_succ h3))⟩
        cases Nat.le_antisymm (Nat.le_of_lt_succ h3) h2
        rw [a3]
        exact a2 i h1
      by_cases c0 : q > 0
      · rw [if_pos c0]
        refine ih (n + 1) 0 n _ s' (fuel hf) rfl (new _ (rev_rst D.rst) D.down (fun i hi => ?_) ?_) I' k
        · rw [gt_rev D.rst.lts]
          by_cases cc : b ≤ i ∧ i < n
          · rw [if_pos cc]; exact low _ (mir_lt cc)
          · rw [if_neg cc]; exact low _ hi
        · rw [gt_rev D.rst.lts, if_neg (fun h => Nat.lt_irrefl _ h.2)]
      · rw [if_neg c0]
        cases Nat.eq_zero_of_not_pos c0
        refine ih (n + 1) 0 n _ s' (fuel hf) rfl (new _ D.rst (fun i j h1 h2 => ?_) low rfl) I' k
        have := D.down i j h1 h2
        have hs := D.rst.lts
        rw [hq] at this hs
        rw [rev_one hs, rev_one hs] at this
        exact this
    · rw [decide_eq_false c]
      show (if false = true then _ else _ : KasT _).kasWp cmp Q s'
      rw [if_neg Bool.false_ne_true]
      show cmp (gt p (n - 1)) (gt p n) _ s'
      refine hc _ _ _ _ (D.rst.lt (Nat.lt_trans hl hn)) (D.rst.lt hn) I' fun s'' I'' => ?_
      by_cases c2 : r (gt p (n - 1)) < r (gt p n)
      · rw [decide_eq_true c2]
        show (if true = true then _ else _ : KasT _).kasWp cmp Q s''
        rw [if_pos rfl]
        exact k p n q b s'' I'' hq D
      · rw [decide_eq_false c2]
        show (if false = true then _ else _ : KasT _).kasWp cmp Q s''
        rw [if_neg Bool.false_ne_true]
        have eq : r (gt p (n - 1)) = r (gt p n) := Int.le_antisymm (Int.not_lt.mp c) (Int.not_lt.mp c2)
        refine ih (n + 1) (q + 1) b _ s'' (fuel hf) (congrArg (· + 1) hq) ⟨D.rst.succ hn, Nat.lt_succ_of_lt D.bn, D.d1, fun i j h1 h2 h3 => ?_, fun i j h1 h2 h3 => ?_⟩ I'' k
        · by_cases cj : j < n
          · exact D.d2 i j h1 h2 cj
          · rw [eq_last h3 cj, ← eq]
            exact D.d2 i (n - 1) h1 hb hl
        · by_cases cj : j < n
          · exact D.d3 i j h1 h2 cj
          · have ej := eq_last h3 cj
            have hi : i < n := ej ▸ h2
            rw [ej]
            refine ⟨?_, by rw [e]; exact D.rst.hd i hi⟩
            by_cases ce : i = n - 1
            · rw [ce]; exact eq
            · rw [← eq]; exact (D.d3 i (n - 1) h1 (lt_last hi ce) hl).1
theorem tail3_ {n : Nat} {p : Array Nat} {Q : Nat × Array Nat → Shared → Prop} {s : Shared} (h1 : 1 ≤ n) (R : Rst N p n) (dn : ∀ i j, i < j → j < n → Ahd r (gt p j) (gt p i)) (I : Inv s)
    (k : ∀ m p' s', Inv s' → 1 ≤ m → Rst N p' m → Srt r p' m → Q (m, p') s') : (kas_tail3 n N p).kasWp cmp Q s := by
  unfold kas_tail3
  rw [KasT.kasWp_bind]
  refine asc_ hc (N - n) n s rfl h1 (rev_rst R) ?_ I fun m s' I' hm R' S' _ => k m _ s' I' (Nat.le_trans h1 hm) R' S'
  intro i j hij hj
  have hi := Nat.lt_trans hij hj
  rw [gt_rev R.lts, gt_rev R.lts, if_pos ⟨Nat.zero_le _, hi⟩, if_pos ⟨Nat.zero_le _, hj⟩]
  exact dn _ _ (mir_flip hij hj) (mir_lt ⟨Nat.zero_le _, hi⟩)
theorem descPart_ {n : Nat} {p : Array Nat} {Q : Nat × Array Nat → Shared → Prop} {s : Shared} (D : Dsc N r p (n + 1) n) (I : Inv s)
    (k : ∀ m p' s', Inv s' → 1 ≤ m → Rst N p' m → Srt r p' m → Q (m, p') s') : (kas_descPart n N p).kasWp cmp Q s := by
  unfold kas_descPart
  rw [KasT.kasWp_bind]
  refine desc_ hc (N - (n + 1)) (n + 1) 0 n p s rfl rfl D I fun p' n' q' b' s' I' hq D' => ?_
  have h1 : 1 ≤ n' := Nat.lt_of_le_of_lt (Nat.zero_le b') D'.bn
  have eb : n' - (q' + 1) = b' := by rw [hq]; exact Nat.add_sub_cancel _ _
  show (if q' > 0 then kas_tail3 n' N (kas_rev p' (n' - (q' + 1)) n') else kas_tail3 n' N p' : KasT _).kasWp cmp Q s'
  by_cases c : q' > 0
  · rw [if_pos c, eb]
    exact tail3_ hc (n := n') h1 (rev_rst D'.rst) D'.down I' k
  · rw [if_neg c]
    cases Nat.eq_zero_of_not_pos c
    refine tail3_ hc (n := n') h1 D'.rst (fun i j h1 h2 => ?_) I' k
    have := D'.down i j h1 h2
    have hs := D'.rst.lts
    rw [hq] at this hs
    rw [rev_one hs, rev_one hs] at this
    exact this
omit hc in
theorem mid_in {l u : Nat} (h : ¬ l ≥ u) : (l + u) / 2 < u ∧ l ≤ (l + u) / 2 := by omega
omit hc in
theorem fuel2 {f l u m : Nat} (h : u - l ≤ f + 1) (h2 : m < u) : m - l ≤ f := by omega
omit hc in
theorem fuel3 {f l u m : Nat} (h : u - l ≤ f + 1) (h2 : l ≤ m) : u - (m + 1) ≤ f := by omega
theorem place_ {p : Array Nat} {k : Nat} {Q : Nat → Shared → Prop} (R : Rst N p k) (S : Srt r p k) (hk : k < N) : ∀ (f l u : Nat) (s : Shared), u - l ≤ f → l ≤ u → u ≤ k → (∀ i, i < l → r (gt p i) ≤ r (gt p k)) → (∀ i, u ≤ i → i < k → r (gt p k) < r (gt p i)) → Inv s →
    (∀ l s', Inv s' → l ≤ k → (∀ i, i < l → r (gt p i) ≤ r (gt p k)) → (∀ i, l ≤ i → i < k → r (gt p k) < r (gt p i)) → Q l s') → (kas_place p k f l u).kasWp cmp Q s := by
  intro f
  induction f with
  | zero =>
    intro l u s hf hl hu a b I q
    cases Nat.le_antisymm hl (Nat.sub_eq_zero_iff_le.mp (Nat.le_zero.mp hf))
    exact q l s I hu a b
  | succ f ih =>
    intro l u s hf hl hu a b I q
    show (if l ≥ u then _ else _ : KasT _).kasWp cmp Q s
    by_cases c : l ≥ u
    · rw [if_pos c]
      cases Nat.le_antisymm hl c
      exact q l s I hu a b
    · rw [if_neg c]
      obtain ⟨mid, hmid⟩ : ∃ m, m = (l + u) / 2 := ⟨_, rfl⟩
      have hm := mid_in c
      rw [← hmid] at hm ⊢
      obtain ⟨hm, hm2⟩ := hm
      have hmk := Nat.lt_of_lt_of_le hm hu
      show cmp (gt p k) (gt p mid) _ s
      refine hc _ _ _ _ (R.lt hk) (R.lt (Nat.lt_trans hmk hk)) I fun s' I' => ?_
      by_cases c2 : r (gt p k) < r (gt p mid)
      · rw [decide_eq_true c2]
        show (if true = true then _ else _ : KasT _).kasWp cmp Q s'
        rw [if_pos rfl]
        refine ih l mid s' (fuel2 hf hm) hm2 (Nat.le_of_lt hmk) a (fun i h1 h2 => ?_) I' q
        by_cases ce : i = mid
        · rw [ce]; exact c2
        · exact Int.lt_of_lt_of_le c2 (S mid i (Nat.lt_of_le_of_ne h1 (Ne.symm ce)) h2).le
      · rw [decide_eq_false c2]
        show (if false = true then _ else _ : KasT _).kasWp cmp Q s'
        rw [if_neg Bool.false_ne_true]
        refine ih (mid + 1) u s' (fuel3 hf hm2) hm hu (fun i h1 => ?_) b I' q
        by_cases ce : i = mid
        · rw [ce]; exact Int.not_lt.mp c2
        · exact Int.le_trans (S i mid (Nat.lt_of_le_of_ne (Nat.le_of_lt_succ h1) ce) hmk).le (Int.not_lt.mp c2)
theorem bin_ {Q : Array Nat → Shared → Prop} : ∀ (f k : Nat) (p : Array Nat) (s : Shared), f = N - k → Rst N p k → Srt r p k → Inv s → (∀ p' s', Inv s' → Rst N p' N → Srt r p' N → Q p' s') → (kas_bin f p k).kasWp cmp Q s := by
  intro f
  induction f with
  | zero =>
    intro k p s hf R S I q
    cases Nat.le_antisymm R.le (Nat.sub_eq_zero_iff_le.mp hf.symm)
    exact q p s I R S
  | succ f ih =>
    intro k p s hf R S I q
    have hk : k < N := fuel_lt hf
    have hs : k < p.size := by rw [R.sz]; exact hk
    have e : gt p k = k := R.tl k (Nat.le_refl _) hk
    show ((kas_place p k k 0 k).bind _).kasWp cmp Q s
    rw [KasT.kasWp_bind]
    refine place_ hc R S hk k 0 k s (Nat.le_refl _) (Nat.zero_le _) (Nat.le_refl _) (fun i h => absurd h (Nat.not_lt_zero i)) (fun i h1 h2 => absurd h2 (Nat.not_lt.mpr h1)) I fun l s' I' hl a b => ?_
    have B : ∀ x, gt (bubble p k (k - l)) x = if x = l then gt p k else if l < x ∧ x ≤ k then gt p (x - 1) else gt p x := by
      intro x
      rw [gt_bubble hs (Nat.sub_le k l), Nat.sub_sub_self hl]
    have lt1 : ∀ x, ¬ x = l → ¬ (l < x ∧ x ≤ k) → x < k + 1 → x < l := fun x h1 h2 h3 => Nat.lt_of_le_of_ne (Nat.le_of_not_lt fun h => h2 ⟨h, Nat.le_of_lt_succ h3⟩) h1
    have pr : ∀ x, l < x ∧ x ≤ k → x - 1 < k ∧ l ≤ x - 1 := fun x h => ⟨Nat.lt_of_lt_of_le (last_lt (Nat.lt_of_le_of_lt (Nat.zero_le l) h.1)) h.2, Nat.le_sub_one_of_lt h.1⟩
    refine ih (k + 1) _ s' (fuel hf) ⟨(bubble_size _ _ _).trans R.sz, hk, fun x h1 h2 => ?_, fun x h => ?_⟩ ?_ I' q
    · have hx : k < x := h1
      rw [B, if_neg (Nat.ne_of_gt (Nat.lt_of_le_of_lt hl hx)), if_neg (fun h => absurd h.2 (Nat.not_le.mpr hx))]; exact R.tl x (Nat.le_of_lt hx) h2
    · rw [B]
      by_cases c1 : x = l
      · rw [if_pos c1, e]; exact Nat.lt_succ_self k
      · rw [if_neg c1]
        by_cases c2 : l < x ∧ x ≤ k
        · rw [if_pos c2]; exact Nat.lt_succ_of_lt (R.hd (x - 1) (pr x c2).1)
        · rw [if_neg c2]; exact Nat.lt_succ_of_lt (R.hd x (Nat.lt_of_lt_of_le (lt1 x c1 c2 h) hl))
    · have up : ∀ i, i < l → Ahd r (gt p i) (gt p k) := fun i hi => Ahd.of (Int.not_lt.mpr (a i hi)) (by rw [e]; exact R.hd i (Nat.lt_of_lt_of_le hi hl))
      intro i j hij hj
      rw [B, B]
      by_cases ci : i = l
      · have cj : l < j ∧ j ≤ k := ⟨ci ▸ hij, Nat.le_of_lt_succ hj⟩
        rw [if_pos ci, if_neg (Nat.ne_of_gt cj.1), if_pos cj]
        exact .inl (b (j - 1) (pr j cj).2 (pr j cj).1)
      · rw [if_neg ci]
        by_cases ci2 : l < i ∧ i ≤ k
        · have cj : l < j ∧ j ≤ k := ⟨Nat.lt_trans ci2.1 hij, Nat.le_of_lt_succ hj⟩
          rw [if_pos ci2, if_neg (Nat.ne_of_gt cj.1), if_pos cj]
          exact S _ _ (Nat.sub_lt_sub_right (Nat.lt_of_le_of_lt (Nat.zero_le l) ci2.1) hij) (pr j cj).1
        · rw [if_neg ci2]
          have hil := lt1 i ci ci2 (Nat.lt_trans hij hj)
          by_cases cj : j = l
          · rw [if_pos cj]; exact up i hil
          · rw [if_neg cj]
            by_cases cj2 : l < j ∧ j ≤ k
            · rw [if_pos cj2]
              exact S _ _ (Nat.lt_of_lt_of_le hil (pr j cj2).2) (pr j cj2).1
            · rw [if_neg cj2]; exact S _ _ hij (Nat.lt_of_lt_of_le (lt1 j cj cj2 hj) hl)
theorem stable_ {Q : Array Nat → Shared → Prop} {s : Shared} (h1 : 1 ≤ N) (I : Inv s) (q : ∀ p' s', Inv s' → Rst N p' N → Srt r p' N → Q p' s') : (kas_sort N).kasWp cmp Q s := by
  have id : ∀ k, k < N → gt (List.range N).toArray k = k := by
    intro k hk
    unfold gt
    rw [Array.getD_eq_getD_getElem?]
    simp [hk]
  have R0 : Rst N (List.range N).toArray 1 := ⟨by simp, h1, fun k _ h => id k h, fun k h => by rw [id k (Nat.lt_of_lt_of_le h h1)]; exact h⟩
  unfold kas_sort
  rw [KasT.kasWp_bind]
  unfold kas_count
  rw [KasT.kasWp_bind]
  have fin : ∀ m p' s', Inv s' → 1 ≤ m → Rst N p' m → Srt r p' m → (if m < N then kas_bin (N - max m 1) p' (max m 1) else KasT.ret p' : KasT _).kasWp cmp Q s' := by
    intro m p' s' I' hm R S
    by_cases c : m < N
    · rw [if_pos c, Nat.max_eq_left hm]
      exact bin_ hc (N - m) m p' s' rfl R S I' q
    · rw [if_neg c]
      cases Nat.le_antisymm R.le (Nat.le_of_not_lt c)
      exact q p' s' I' R S
  refine asc_ hc (N - 1) 1 s rfl (Nat.le_refl _) R0 (fun i j h1 h2 => absurd (Nat.lt_of_le_of_lt (Nat.zero_le i) h1) (Nat.not_lt.mpr (Nat.le_of_lt_succ h2))) I fun m s' I' hm R S lt => ?_
  obtain ⟨p, hp⟩ : ∃ p, p = (List.range N).toArray := ⟨_, rfl⟩
  rw [← hp] at R S lt ⊢
  clear hp R0 id
  by_cases c : m = N
  · rw [if_pos (beq_iff_eq.mpr c)]
    exact fin m p s' I' hm R S
  · rw [if_neg (fun h => c (beq_iff_eq.mp h))]
    have hmN : m < N := Nat.lt_of_le_of_ne R.le c
    have hl := lt hmN
    have hm1 : m - 1 < m := last_lt hm
    by_cases c1 : m > 1
    · rw [if_pos c1]
      show cmp (gt p 0) (gt p (m - 1)) _ s'
      refine hc _ _ _ _ (R.lt h1) (R.lt (Nat.lt_trans hm1 hmN)) I' fun s'' I'' => ?_
      by_cases c2 : r (gt p 0) < r (gt p (m - 1))
      · rw [decide_eq_true c2]
        show (if true = true then _ else _ : KasT _).kasWp cmp _ s''
        rw [if_pos rfl]
        exact fin m p s'' I'' hm R S
      · rw [decide_eq_false c2]
        show (if false = true then _ else _ : KasT _).kasWp cmp _ s''
        rw [if_neg Bool.false_ne_true]
        have all : ∀ i, i < m → r (gt p i) = r (gt p 0) := by
          intro i hi
          have h3 : r (gt p 0) ≤ r (gt p i) := by
            by_cases ci : i = 0
            · rw [ci]; exact Int.le_refl _
            · exact (S 0 i (Nat.pos_of_ne_zero ci) hi).le
          have h4 : r (gt p i) ≤ r (gt p (m - 1)) := by
            by_cases ci : i = m - 1
            · rw [ci]; exact Int.le_refl _
            · exact (S i (m - 1) (lt_last hi ci) hm1).le
          exact Int.le_antisymm (Int.le_trans h4 (Int.not_lt.mp c2)) h3
        refine descPart_ hc ⟨(rev_rst R).succ hmN, Nat.lt_succ_self m, fun i j h1 h2 => ?_, fun i j h1 h2 h3 => ?_, fun i j h1 h2 h3 => absurd (Nat.lt_of_le_of_lt h1 h2) (Nat.not_lt.mpr (Nat.le_of_lt_succ h3))⟩ I'' fun m' p' s3 I3 h3 R3 S3 => fin m' p' s3 I3 h3 R3 S3
        · have hi := Nat.lt_trans h1 h2
          rw [gt_rev R.lts, gt_rev R.lts, if_pos ⟨Nat.zero_le _, h2⟩, if_pos ⟨Nat.zero_le _, hi⟩]
          exact S _ _ (mir_flip h1 h2) (mir_lt ⟨Nat.zero_le _, hi⟩)
        · rw [Nat.le_antisymm (Nat.le_of_lt_succ h3) h2]
          rw [gt_rev R.lts, gt_rev R.lts, if_neg (fun h => Nat.lt_irrefl _ h.2), if_pos ⟨Nat.zero_le _, h1⟩, all (0 + m - 1 - i) (mir_lt ⟨Nat.zero_le _, h1⟩)]
          rw [all (m - 1) hm1] at hl
          exact hl
    · rw [if_neg c1]
      cases Nat.le_antisymm (Nat.le_of_not_lt c1) hm
      refine descPart_ hc ⟨R.succ hmN, Nat.lt_succ_self 1, fun i j h1 h2 => absurd (Nat.lt_of_le_of_lt (Nat.zero_le i) h1) (Nat.not_lt.mpr (Nat.le_of_lt_succ h2)), fun i j h1 h2 h3 => ?_, fun i j h1 h2 h3 => absurd (Nat.lt_of_le_of_lt h1 h2) (Nat.not_lt.mpr (Nat.le_of_lt_succ h3))⟩ I' fun m' p' s3 I3 h3 R3 S3 => fin m' p' s3 I3 h3 R3 S3
      cases Nat.le_antisymm (Nat.le_of_lt_succ h3) h2
      cases Nat.lt_one_iff.mp h1
      exact hl
end
end Mine
end
section
open PySem PySem.W PyProof.Rows PySem.Calls PySem.W.X
set_option Elab.async false
set_option maxRecDepth 100000
set_option maxHeartbeats 400000
set_option linter.unusedVariables false
namespace Mine
theorem KeyO.upd {h h' : Heap} {x C a : Addr} {s : Int} {its : Array Value} {e : Nat} (y : KeyO h x C s) (ha : h.get? a = some (seqObj "list" its e)) (ha' : ∃ o, h'.get? a = some o) (sb : Heap.SameBut a h h') : KeyO h' x C s := by
  obtain ⟨dx, t, od, e1, e2⟩ := y
  have hx : x ≠ a := fun q => by
    rw [q, ha] at e1
    cases e1
  by_cases hd : dx = a
  · obtain ⟨o, ho⟩ := ha'
    exact ⟨dx, t, o, (sb.2 x hx).trans e1, by rw [hd]; exact ho⟩
  · exact ⟨dx, t, od, (sb.2 x hx).trans e1, (sb.2 dx hd).trans e2⟩
noncomputable def KeysAt (h : Heap) (C : Addr) (ks : List Value) (m : Nat) : Prop := ks.length = m ∧ ∀ i : Nat, i < m → ∃ x, ks[i]? = some (.ref x) ∧ KeyO h x C (i : Int)
theorem keyLt_own {c : Cx} {A : Around} {h : Heap} {mv : Value} {K : Frag} {C ns p cel x y : Addr} {f cc : Nat → Addr} {a : Int} {z : Bool} (hu : A.units < cLine) (Y : KeyF c K C ns p cel f cc mv) (X : K.In h) (O : KeyO h x C a)
    (H : wq c A (call (.ref (f 1)) [.ref x, .ref y]) (fun v h' => v = .bool z ∧ Keep h h') h) : wq c A (keyLt' oneType' (.ref x) (.ref y)) (fun b h' => b = z ∧ Keep h h') h := by
  obtain ⟨dx, t, od, e, ed⟩ := O
  have I : InstAt h x ⟨.ref C, some dx, .plain, #[some (.int a t)]⟩ C (some od) := ⟨e, rfl, rfl, ed⟩
  refine wq.of fun tk Q' k => ?_
  rw [keyLt'_oneType, oneLt'_eq]
  simp only [if_true]
  refine wpAny_bind (wpAny_cRoomFor hu ?_)
  refine wpAny_bind (ifBound_K X I (Y.find (Y.own 1 (by decide))) (by unfold isFn; rw [Y.fnT (i := 1) (by decide) (fnShape (by decide) _ _)]; rfl) (H.go fun v h' tk' q => ?_))
  obtain ⟨rfl, q⟩ := q
  exact wpAny_truthy_bool (k _ _ _ ⟨rfl, q⟩)
section
variable {c : Cx} {A : Around} {hK : Heap} {mv : Value} {K : Frag} {C ns p cel D kS : Addr} {f cc : Nat → Addr} {ρ : Nat → Int} {n e e1 : Nat} {ks vs : List Value}
theorem rix {n i : Nat} (h : i < n) : n - 1 - i < n := Nat.lt_of_le_of_lt (Nat.sub_le _ _) (last_lt (Nat.lt_of_le_of_lt (Nat.zero_le i) h))
noncomputable def SortOut (ρ : Nat → Int) (n : Nat) (vs : List Value) (D : Addr) (h' : Heap) : Prop := ∃ p : Array Nat, Rst n p n ∧ Srt (fun i => ρ (n - 1 - i)) p n ∧ h'.IsList D (List.toArray ((p.toList.map fun i => vs.getD (n - 1 - i) .none).reverse))
theorem endK (hu : A.units < cLine) (Y : KeyF c K C ns p cel f cc mv) (X : K.In hK) (h2 : 2 ≤ n) (h64 : n < 64) (hlen : vs.length = n) (hk : hK.get? kS = some (seqObj "list" ks.toArray e)) (hD : hK.get? D = some (seqObj "list" #[] e1)) (hne : kS ≠ D) (KA : KeysAt hK C ks n)
    (LT : ∀ h' x y (a b : Nat), a < n → b < n → Keep hK h' → KeyO h' x C (a : Int) → KeyO h' y C (b : Int) → wq c A (call (.ref (f 1)) [.ref x, .ref y]) (fun v h'' => v = .bool (decide (ρ a < ρ b)) ∧ Keep h' h'') h') :
    wq c A (ksk_end D true vs.toArray e1 (.ref kS) ks.toArray) (fun fin h' => fin = .done (.ret .none) ∧ SortOut ρ n vs D h' ∧ ∀ b o, b ≠ D → b ≠ kS → hK.get? b = some o → h'.get? b = some o) hK := wq.of fun tk Q' k => by
  have hkl : ks.length = n := KA.1
  generalize hit : (ks.toArray.zip vs.toArray).reverse = it
  have hsz : it.size = n := by rw [← hit]; simp [hkl, hlen]
  have item : ∀ i, i < n → kas_item it i = (ks.getD (n - 1 - i) .none, vs.getD (n - 1 - i) .none) := by
    intro i hi
    unfold kas_item
    rw [← hit, Array.getD_eq_getD_getElem?]
    have h1 : n - 1 - i < ks.length := hkl.symm ▸ rix hi
    have h2 : n - 1 - i < vs.length := hlen.symm ▸ rix hi
    have h3 : i < ((ks.toArray.zip vs.toArray).reverse).size := by simp [hkl, hlen, hi]
    rw [Array.getElem?_eq_getElem h3, Array.getElem_reverse]
    have h4 : (ks.toArray.zip vs.toArray).size - 1 - i = n - 1 - i := by simp [hkl, hlen]
    simp only [h4]
    rw [Array.getElem_zip]
    simp [List.getD_eq_getElem?_getD, h1, h2]
  have hc : ∀ i j C' s, i < n → j < n → (∃ h tk, s = c.st h tk ∧ Keep hK h) → (∀ s', (∃ h tk, s' = c.st h tk ∧ Keep hK h) → C' (decide (ρ (n - 1 - i) < ρ (n - 1 - j))) s') → kas_cmp c.prog c.w A oneType' it i j C' s := by
    rintro i j C' s hi hj ⟨h, tk, rfl, kp⟩ q
    unfold kas_cmp
    rw [item i hi, item j hj]
    obtain ⟨x, ex, ox⟩ := KA.2 (n - 1 - i) (rix hi)
    obtain ⟨y, ey, oy⟩ := KA.2 (n - 1 - j) (rix hj)
    have gx : ks.getD (n - 1 - i) .none = .ref x := by rw [List.getD_eq_getElem?_getD, ex]; rfl
    have gy : ks.getD (n - 1 - j) .none = .ref y := by rw [List.getD_eq_getElem?_getD, ey]; rfl
    rw [gx, gy]
    refine (keyLt_own hu Y (X.keeps kp) (ox.keeps kp) (LT h x y _ _ (rix hi) (rix hj) kp (ox.keeps kp) (oy.keeps kp))).go fun b h' tk' Hb => ?_
    obtain ⟨rfl, kp'⟩ := Hb
    exact q _ ⟨h', tk', rfl, kp.trans kp'⟩
  have step : ∀ (b : Bool) (t : Sem PySem.Fin), wpAny c.M A t Q' (fun _ _ => False) (c.st hK tk) → wpAny c.M A (if b = true then (do let _ ← rule "list.sort.reverse"; t) else t) Q' (fun _ _ => False) (c.st hK tk) := by
    intro b t ht
    split
    · exact wpAny_bind (wpAny_rule ht)
    · exact ht
  unfold ksk_end
  refine step true _ ?_
  have hn2 : ¬ vs.toArray.size < 2 := by rw [List.size_toArray, hlen]; exact Nat.not_lt.mpr h2
  rw [if_neg hn2, if_neg hn2]
  refine wpAny_bind (kas_kind (T := .ref C) (by omega) (fun v hv => ?_) rfl (beq_self_eq_true _) ?_)
  · obtain ⟨i, hi, ei⟩ := List.mem_iff_getElem.mp hv
    obtain ⟨x, ex, dx, t, od, e1, e2⟩ := KA.2 i (hkl ▸ hi)
    rw [List.getElem?_eq_getElem hi, ei] at ex
    cases ex
    have I : InstAt hK x ⟨.ref C, some dx, .plain, #[some (.int (i : Int) t)]⟩ C (some od) := ⟨e1, rfl, rfl, e2⟩
    exact I.type
  have est : SortSt.mk' oneType' (if true = true then (ks.toArray.zip vs.toArray).reverse else ks.toArray.zip vs.toArray) #[] 7 none = kas_st oneType' it (List.toArray (List.range n)) := by
    have e := kas_range it
    rw [hsz] at e
    show SortSt.mk' oneType' (ks.toArray.zip vs.toArray).reverse #[] 7 none = SortSt.mk' oneType' ((List.toArray (List.range n)).map (kas_item it)) #[] 7 none
    rw [e, hit]
  have run := kas_runs (E := fun _ _ => False) (Q := fun _ st' s' => ∃ p : Array Nat, (∃ h tk, s' = c.st h tk ∧ Keep hK h) ∧ Rst n p n ∧ Srt (fun i => ρ (n - 1 - i)) p n ∧ arrOf st' = p.map (kas_item it) ∧ failedOf st' = none)
    (G := fun p s' => (∃ h tk, s' = c.st h tk ∧ Keep hK h) ∧ Rst n p n ∧ Srt (fun i => ρ (n - 1 - i)) p n)
    h2 h64 (fun p' st' s' a1 a2 a3 a4 => ⟨p', a4.1, a4.2.1, a4.2.2, a2, a3⟩) (stable_ (N := n) (r := fun i => ρ (n - 1 - i)) (Inv := fun s => ∃ h tk, s = c.st h tk ∧ Keep hK h) hc (Nat.le_of_succ_le h2) ⟨hK, tk, rfl, Keep.refl _⟩ fun p' s' I R S => ⟨I, R, S⟩)
  rw [← est] at run
  refine wpAny_bind (wpAny_mono run ?_ fun _ _ e => e)
  rintro ⟨⟨⟩, st'⟩ s' ⟨p, ⟨h, tk', rfl, kp⟩, R, S, har, hf⟩
  have hk' := kp _ _ hk
  have hD' := kp _ _ hD
  have hout : ((arrOf st').map (·.2)).reverse = List.toArray ((p.toList.map fun i => vs.getD (n - 1 - i) .none).reverse) := by
    apply Array.toList_inj.mp
    rw [har, Array.map_map, Array.toList_reverse, Array.toList_map]
    congr 1
    apply List.map_congr_left
    intro i hi
    have : i < n := by
      obtain ⟨j, hj, ej⟩ := List.mem_iff_getElem.mp hi
      have hjn : j < n := by rw [← R.sz]; simpa using hj
      have := R.hd j hjn
      unfold gt at this
      rw [Array.getD_eq_getD_getElem?] at this
      rw [Array.getElem_toList] at ej
      have hj' : j < p.size := by simpa using hj
      rw [Array.getElem?_eq_getElem hj', ej] at this
      exact this
    show (kas_item it i).2 = _
    rw [item i this]
  have hosz : (((arrOf st').map (·.2)).reverse).size = n := by rw [hout]; simp [R.sz]
  have s1 := Heap.SameBut.update h kS (Obj.mapSeq fun _ => (#[] : Array Value))
  have na1 : (h.update kS (Obj.mapSeq fun _ => (#[] : Array Value))).get? D = some (seqObj "list" #[] e1) := (s1.2 D hne.symm).trans hD'
  have s2 := Heap.SameBut.update (h.update kS (Obj.mapSeq fun _ => (#[] : Array Value))) D (Obj.mapSeq fun _ => ((arrOf st').map (·.2)).reverse)
  have hc2 := get?_update_seq na1 fun _ => ((arrOf st').map (·.2)).reverse
  show wpAny _ _ (ksk_tail D true e1 (.ref kS) st') _ _ _
  unfold ksk_tail
  refine wpAny_bind (listUpdate_at hk' rfl ?_ (by rw [List.size_toArray, hkl, sizeLine_eq]; omega) (Nat.zero_le _))
  refine wpAny_bind (wpAny_letGo ?_)
  refine wpAny_bind (seqEpoch_at na1 rfl ?_)
  refine wpAny_bind (listUpdate_at na1 rfl ?_ (Nat.zero_le _) (Nat.le_trans (Nat.le_of_eq hosz) (by rw [sizeLine_eq]; omega)))
  rw [hf]
  simp only [bne_self_eq_false, Bool.false_eq_true, if_false]
  refine wpAny_pure (k _ _ _ ⟨rfl, ⟨p, R, S, ⟨_, hc2, rfl, _, by rw [hout]⟩⟩, fun b o n1 n2 eb => (s2.2 b n1).trans ((s1.2 b n2).trans (kp _ _ eb))⟩)
end
end Mine
end
section
open PySem PySem.W PyProof.Rows PySem.Calls PySem.W.X
set_option Elab.async false
set_option maxRecDepth 100000
set_option maxHeartbeats 400000
set_option linter.unusedVariables false
namespace Mine
section
variable {c : Cx} {A : Around} {hB h : Heap} {mv : Value} {K : Frag} {C ns p cel D kS : Addr} {f cc : Nat → Addr} {ρ : Nat → Int} {n e e1 : Nat} {vs : List Value}
theorem restK (hu : A.units < cLine) (Y : KeyF c K C ns p cel f cc mv) (X : K.In hB) (h2 : 2 ≤ n) (h64 : n < 64) (hlen : vs.length = n) (hvs : ∀ i, i < n → ∃ t, vs[i]? = some (.int (i : Int) t))
    (kB : Keep hB h) (hk : h.get? kS = some (seqObj "list" #[] e)) (hD : h.get? D = some (seqObj "list" #[] e1)) (hne : kS ≠ D) (hkB : hB.get? kS = none) (hDB : hB.get? D = none)
    (MK : ∀ h' (i : Nat) t, i < n → Keep hB h' → wq c A (call (.ref C) [.int (i : Int) t]) (fun v h'' => ∃ x, v = .ref x ∧ KeyO h'' x C (i : Int) ∧ Keep h' h'') h')
    (LT : ∀ h' x y (a b : Nat), a < n → b < n → Keep hB h' → KeyO h' x C (a : Int) → KeyO h' y C (b : Int) → wq c A (call (.ref (f 1)) [.ref x, .ref y]) (fun v h'' => v = .bool (decide (ρ a < ρ b)) ∧ Keep h' h'') h') :
    wq c A (ksk_rest D (.ref C) true vs.toArray e1 (.ref kS)) (fun fin h' => fin = .done (.ret .none) ∧ SortOut ρ n vs D h' ∧ Keep hB h') h := wq.of fun tk Q' k => by
  unfold ksk_rest
  refine wpAny_bind (wpAny_rule ?_)
  first
    | rw [List.forIn_toArray]
    | (rw [← Array.forIn_toList]; simp only [List.toList_toArray])
    | rw [← Array.forIn_toList]
  refine wpAny_bind (ksk_fold (fun i s' => ∃ h' tk ks e, s' = c.st h' tk ∧ Keep hB h' ∧ h'.get? kS = some (seqObj "list" (List.toArray ks) e) ∧ h'.get? D = some (seqObj "list" #[] e1) ∧ KeysAt h' C ks i) vs 0 (c.st h tk)
    ⟨h, tk, [], e, rfl, kB, hk, hD, rfl, fun i hi => absurd hi (Nat.not_lt_zero _)⟩ ?step ?done)
  case step =>
    rintro j x s' hx ⟨h', tk, ks, e, rfl, kp, hk, hD, KA⟩
    simp only [Nat.zero_add] at KA ⊢
    have hj : j < n := by rw [← hlen]; exact (List.getElem?_eq_some_iff.mp hx).1
    obtain ⟨t, ht⟩ := hvs j hj
    rw [hx] at ht
    cases ht
    refine wpAny_bind (wpAny_attempt ((MK h' j t hj kp).go fun v h'' tk'' H => ?_))
    obtain ⟨y, rfl, ky, kp2⟩ := H
    have hk2 := kp2 _ _ hk
    have hD2 := kp2 _ _ hD
    have hkl := KA.1
    have s1 := Heap.SameBut.update h'' kS (Obj.mapSeq (·.push (.ref y)))
    have hc2 := get?_update_seq hk2 (·.push (.ref y))
    have ep : (ks.toArray.push (Value.ref y)) = (ks ++ [Value.ref y]).toArray := by simp
    refine wpAny_bind (listUpdate_at hk2 rfl ?_ (by rw [List.size_toArray, sizeLine_eq]; omega) (by rw [Array.size_push, List.size_toArray, sizeLine_eq]; omega))
    refine wpAny_pure ⟨rfl, _, _, ks ++ [.ref y], _, rfl, fun b o eb => ?_, by rw [← ep]; exact hc2, (s1.2 D hne.symm).trans hD2, by simp [hkl], fun i hi => ?_⟩
    · have hb : b ≠ kS := fun q => by rw [q, hkB] at eb; cases eb
      exact (s1.2 b hb).trans (kp2 _ _ (kp _ _ eb))
    · by_cases ci : i < j
      · obtain ⟨x, ex, ox⟩ := KA.2 i ci
        exact ⟨x, by rw [List.getElem?_append_left (by omega)]; exact ex, (ox.keeps kp2).upd hk2 ⟨_, hc2⟩ s1⟩
      · have : i = j := by omega
        subst this
        exact ⟨y, by rw [List.getElem?_append_right (by omega), hkl, Nat.sub_self]; rfl, ky.upd hk2 ⟨_, hc2⟩ s1⟩
  case done =>
    rintro s' ⟨h', tk, ks, e, rfl, kp, hk, hD, KA⟩
    rw [Nat.zero_add, hlen] at KA
    refine wpAny_bind (listItems_at hk rfl ?_)
    refine (endK (ρ := ρ) hu Y (X.keeps kp) h2 h64 hlen hk hD hne KA (fun h'' x y a b ha hb k' => LT h'' x y a b ha hb (kp.trans k'))).go fun fin h'' tk'' H => k _ _ _ ⟨H.1, H.2.1, fun b o eb => ?_⟩
    exact H.2.2 b o (fun q => by rw [q, hDB] at eb; cases eb) (fun q => by rw [q, hkB] at eb; cases eb) (kp _ _ eb)
theorem treeK (hu : A.units < cLine) (Y : KeyF c K C ns p cel f cc mv) (X : K.In hB) (h2 : 2 ≤ n) (h64 : n < 64) (hlen : vs.length = n) (hvs : ∀ i, i < n → ∃ t, vs[i]? = some (.int (i : Int) t))
    (kB : Keep hB h) (hD : h.get? D = some (seqObj "list" vs.toArray e)) (hDB : hB.get? D = none)
    (MK : ∀ h' (i : Nat) t, i < n → Keep hB h' → wq c A (call (.ref C) [.int (i : Int) t]) (fun v h'' => ∃ x, v = .ref x ∧ KeyO h'' x C (i : Int) ∧ Keep h' h'') h')
    (LT : ∀ h' x y (a b : Nat), a < n → b < n → Keep hB h' → KeyO h' x C (a : Int) → KeyO h' y C (b : Int) → wq c A (call (.ref (f 1)) [.ref x, .ref y]) (fun v h'' => v = .bool (decide (ρ a < ρ b)) ∧ Keep h' h'') h') :
    wq c A (ksk_tree D (.ref C) true) (fun fin h' => fin = .done (.ret .none) ∧ SortOut ρ n vs D h' ∧ Keep hB h') h := wq.of fun tk Q' k => by
  have ha : D < h.objs.size := Heap.lt_size hD
  have s1 := Heap.SameBut.update h D (Obj.mapSeq fun _ => (#[] : Array Value))
  obtain ⟨e1, ho1⟩ : ∃ e1, (h.update D (Obj.mapSeq fun _ => (#[] : Array Value))).get? D = some (seqObj "list" #[] e1) := ⟨_, get?_update_seq hD fun _ => #[]⟩
  have hkS : ((h.update D (Obj.mapSeq fun _ => (#[] : Array Value))).push (seqObj "tuple" vs.toArray 0)).objs.size = h.objs.size + 1 := by rw [size_push', Heap.size_update]
  unfold ksk_tree
  refine wpAny_bind (listItems_at hD rfl ?_)
  refine wpAny_bind (listUpdate_at hD rfl ?_ (by rw [List.size_toArray, sizeLine_eq]; omega) (Nat.zero_le _))
  refine wpAny_bind (seqEpoch_at ho1 rfl ?_)
  refine wpAny_bind (wpAny_newTuple ?_ (by show vs.length ≤ _; rw [sizeLine_eq]; omega))
  refine wpAny_bind (wpAny_newList ?_ (Nat.zero_le _))
  refine wpAny_holding ?_
  refine (restK (ρ := ρ) (hB := hB) (h := ((h.update D (Obj.mapSeq fun _ => (#[] : Array Value))).push (seqObj "tuple" vs.toArray 0)).push (seqObj "list" #[] 0)) (kS := ((h.update D (Obj.mapSeq fun _ => (#[] : Array Value))).push (seqObj "tuple" vs.toArray 0)).objs.size) (e := 0)
    hu Y X h2 h64 hlen hvs (fun b o eb => ?_) (Heap.get?_push_size _ rfl) (Heap.get?_push_of_some _ (Heap.get?_push_of_some _ ho1)) (by rw [hkS]; exact Nat.ne_of_gt (Nat.lt_succ_of_lt ha)) ?_ hDB MK LT).go fun fin h' tk' H => k _ _ _ H
  · have hb : b ≠ D := fun q => by rw [q, hDB] at eb; cases eb
    exact Heap.get?_push_of_some _ (Heap.get?_push_of_some _ ((s1.2 b hb).trans (kB _ _ eb)))
  · rw [hkS]
    cases e : hB.get? (h.objs.size + 1) with
    | none => rfl
    | some o =>
      exact absurd (Heap.lt_size (kB _ _ e)) (Nat.not_lt_of_le (Nat.le_succ _))
end
end Mine
end
section
open PySem PySem.W PyProof.Rows PySem.Calls PySem.W.X
set_option Elab.async false
set_option maxRecDepth 100000
set_option maxHeartbeats 400000
set_option linter.unusedVariables false
namespace Mine
theorem collect_core {prog : Program} {w : World} {A : Around} {s : Shared} {R' : Result → Shared → Prop} {r : Addr} {a b c : Int} {t u v : Tok} {n : Nat} (hh : A.handled = none) (hr : IsRange s.heap r a b c t u v) (hsmall : Builtin.Range.small a b c = true)
    (hn : Builtin.Range.rangeSize a b c = n) (hlen : n ≤ 2 ^ 24)
    (hQ : ∀ h' tk acc c', (∀ b o, b ≠ s.heap.objs.size → s.heap.get? b = some o → h'.get? b = some o) → h'.get? s.heap.objs.size = some { cls := .type "list", dict := none, data := .seq acc c', slots := #[] } → ItemsOf (fun i v => ∃ t, v = .int (a + i * c) t) acc n → R' (.ok (.ret (.ref s.heap.objs.size))) { s with heap := h', toks := tk }) :
    codeAny (model prog w) A (.builtin "proto.collect" ⟨[.ref r], []⟩) R' s := by
  refine codeAny_builtin F.entry_proto_collect ?_
  rw [Around.under_plainId F.plain_proto_collect _]
  show wpAny _ A.in1 (newList [] >>= fun l => again (.builtin "list.__iadd__" ⟨[l, .ref r], []⟩)) _ _ s
  refine wpAny_bind (wpAny_newObj_type ?_)
  refine wpAny_pure ⟨plainId_quiet F.plain_list_iadd _, codeAny_builtin F.entry_list_iadd ?_⟩
  rw [Around.under_plainId F.plain_list_iadd _]
  have hS₁ : (s.heap.push { cls := .type "list", data := .seq ([] : List Value).toArray }).get? s.heap.objs.size = some { cls := .type "list", data := .seq ([] : List Value).toArray } := Heap.get?_push_size _ rfl
  show wpAny _ A.in1 (Builtin.List.listExtendWith (.ref s.heap.objs.size) (.ref r) (.ref s.heap.objs.size)) _ _ _
  exact wpAny_extend_range (R := R') (s := { s with heap := s.heap.push { cls := .type "list", data := .seq ([] : List Value).toArray } }) hh (Heap.get?_push_of_some _ hr) hsmall hn hlen s.heap.objs.size (.ref s.heap.objs.size) 0 hS₁ fun h' tk acc c' hk hS' hacc => hQ h' tk acc c' (fun b o hb e => hk b o hb (Heap.get?_push_of_some _ e)) hS' hacc
theorem collect_rangeW {prog : Program} {w : World} {A : Around} {E : Value → Shared → Prop} {s : Shared} {Q : List Value → Shared → Prop} {r : Addr} {a b c : Int} {t u v : Tok} {n : Nat} (hh : A.handled = none) (hr : IsRange s.heap r a b c t u v) (hsmall : Builtin.Range.small a b c = true)
    (hn : Builtin.Range.rangeSize a b c = n) (hlen : n ≤ 2 ^ 24)
    (hQ : ∀ h' tk acc, (∀ b o, s.heap.get? b = some o → h'.get? b = some o) → ItemsOf (fun i v => ∃ t, v = .int (a + i * c) t) acc n → Q acc.toList { s with heap := h', toks := tk }) :
    wpAny (model prog w) A (collect (.ref r)) Q E s := by
  unfold collect
  refine wpAny_bind (wpAny_runValue (collect_core hh hr hsmall hn hlen fun h' tk acc c' hk hS' hacc => ?_))
  show wpAny _ A (load s.heap.objs.size >>= _) _ _ _
  refine wpAny_bind (wpAny_load hS' ?_)
  exact wpAny_pure (hQ h' tk acc (fun b o e => hk b o (Nat.ne_of_lt (Heap.lt_size e)) e) hacc)
theorem sortedR {c : Cx} {A : Around} {h : Heap} {mv : Value} {K : Frag} {C ns p cel R : Addr} {f cc : Nat → Addr} {ρ : Nat → Int} {t u v : Tok} (hh : A.handled = none) (hu : A.in1.in1.units < cLine) (Y : KeyF c K C ns p cel f cc mv) (X : K.In h)
    (hr : h.get? R = some (rO 0 12 1 t u v))
    (MK : ∀ h' (i : Nat) t, i < 12 → Keep h h' → wq c A.in1.in1 (call (.ref C) [.int (i : Int) t]) (fun v h'' => ∃ x, v = .ref x ∧ KeyO h'' x C (i : Int) ∧ Keep h' h'') h')
    (LT : ∀ h' x y (a b : Nat), a < 12 → b < 12 → Keep h h' → KeyO h' x C (a : Int) → KeyO h' y C (b : Int) → wq c A.in1.in1 (call (.ref (f 1)) [.ref x, .ref y]) (fun v h'' => v = .bool (decide (ρ a < ρ b)) ∧ Keep h' h'') h') :
    wq c A (call (.builtin "sorted") [.ref R] [(Str.ofString "key", .ref C), (Str.ofString "reverse", .bool true)]) (fun v h' => ∃ D vs, v = .ref D ∧ List.length vs = 12 ∧ (∀ i, i < 12 → ∃ t, vs[i]? = some (.int (i : Int) t)) ∧ SortOut ρ 12 vs D h' ∧ Keep h h') h := wq.of fun tk Q' k => by
  refine call_function_entry_kw kind_sorted plain_sorted entry_sorted (ksk_s2 _ _ _) ?_
  unfold Builtin.«sorted»
  refine wpAny_bind (m := checkCount "sorted" 1 1 _) (wpAny_pure ?_)
  refine wpAny_bind (collect_rangeW (s := c.st h tk) (n := 12) hh hr (by decide +kernel) (by decide +kernel) (by decide) fun h₁ tk₁ acc k₁ hacc => ?_)
  have hlen : acc.toList.length = 12 := by simpa using hacc.1
  have hvs : ∀ i : Nat, i < 12 → ∃ t, acc.toList[i]? = some (.int (i : Int) t) := by
    intro i hi
    obtain ⟨w, hw⟩ : ∃ w, acc[i]? = some w := ⟨acc[i]'(by rw [hacc.1]; exact hi), by simp [hacc.1, hi]⟩
    obtain ⟨t, e⟩ := hacc.2 i w hw
    exact ⟨t, by rw [Array.getElem?_toList, hw, e, show (0 : Int) + (i : Int) * 1 = (i : Int) by omega]⟩
  refine wpAny_bind (wpAny_newList ?_ (by rw [sizeLine_eq]; omega))
  have hoL : (h₁.push (seqObj "list" acc.toList.toArray 0)).get? h₁.objs.size = some (seqObj "list" acc.toList.toArray 0) := Heap.get?_push_size _ rfl
  refine wpAny_bind (wpAny_holding (wpAny_call_entry_kw slot_list_sort ⟨_, hoL, rfl⟩ entry_list_sort ?body (ksk_l2 _ _ _)))
  case body =>
    show wpAny c.M A.in1.in1 (Builtin.«list.sort» ⟨[.ref h₁.objs.size], _⟩) _ _ (c.st (h₁.push (seqObj "list" acc.toList.toArray 0)) tk₁)
    rw [ksk_t2]
    have hDB : h.get? h₁.objs.size = none := by
      cases e : h.get? h₁.objs.size with
      | none => rfl
      | some o => exact absurd (Heap.lt_size (k₁ _ _ e)) (Nat.lt_irrefl _)
    refine (treeK (ρ := ρ) (hB := h) hu Y X (by decide) (by decide) hlen hvs (fun b o e => Heap.get?_push_of_some _ (k₁ b o e)) hoL hDB MK LT).go fun fin h' tk' H => ?_
    obtain ⟨rfl, so, kp⟩ := H
    exact ⟨_, rfl, wpAny_pure ⟨_, rfl, k _ _ _ ⟨_, _, rfl, hlen, hvs, so, kp⟩⟩⟩
end Mine
end
section
open PySem PySem.W PyProof.Rows PySem.Calls PySem.W.X
set_option Elab.async false
set_option maxRecDepth 100000
set_option maxHeartbeats 400000
set_option linter.unusedVariables false
namespace Mine
theorem KeyO.upd2 {h h' : Heap} {x C a : Addr} {s : Int} {oa : Obj} (y : KeyO h x C s) (ha : h.get? a = some oa) (hd : oa.data ≠ .plain) (ha' : ∃ o, h'.get? a = some o) (kp : ∀ b o, b ≠ a → h.get? b = some o → h'.get? b = some o) : KeyO h' x C s := by
  obtain ⟨dx, t, od, e1, e2⟩ := y
  have hx : x ≠ a := fun q => by
    rw [q, ha] at e1
    cases e1
    exact hd rfl
  by_cases hda : dx = a
  · obtain ⟨o, ho⟩ := ha'
    exact ⟨dx, t, o, kp _ _ hx e1, by rw [hda]; exact ho⟩
  · exact ⟨dx, t, od, kp _ _ hx e1, kp _ _ hda e2⟩
noncomputable def Best (ρ : Nat → Int) (i m : Nat) : Prop := ∀ j, j < m → ρ i ≥ ρ j ∧ (j < i → ρ i > ρ j)
section
variable {c : Cx} {A : Around} {hB : Heap} {C S I : Addr} {ρ : Nat → Int} {n : Nat} {R : Result → Shared → Prop}
theorem maxLoop (hh : A.handled = none) (h24 : n ≤ 2 ^ 24) (hSI : S ≠ I) (hIB : hB.get? I = none) (hSB : hB.get? S = none)
    (MK : ∀ h' (i : Nat) t, i < n → Keep hB h' → wq c A.in1 (call (.ref C) [.int (i : Int) t]) (fun v h'' => ∃ x, v = .ref x ∧ KeyO h'' x C (i : Int) ∧ Keep h' h'') h')
    (GT : ∀ h' x y (a b : Nat), a < n → b < n → Keep hB h' → KeyO h' x C (a : Int) → KeyO h' y C (b : Int) → wq c A.in1 (richCompare .Gt (.ref x) (.ref y)) (fun v h'' => v = .bool (decide (ρ a > ρ b)) ∧ Keep h' h'') h')
    (hR : ∀ (i : Nat) t h' tk', i < n → Best ρ i n → Keep hB h' → R (.ok (.ret (.int (i : Int) t))) (c.st h' tk')) :
    ∀ (r j i : Nat) (h : Heap) (tk : Nat) (tb : Tok) (x : Addr) (e : Nat), n - (j + 1) = r → j + 1 ≤ n → Keep hB h → h.get? S = some (seqObj "list" #[.int (i : Int) tb, .ref x] e) → KeyO h x C (i : Int) → IsRangeIter h I ((0 : Int) + ((j + 1 : Nat) : Int) * 1) ((n : Int) - ((j + 1 : Nat) : Int)) 1 → i ≤ j → Best ρ i (j + 1) →
      codeAny c.M A (.builtin "max.loop" ⟨[.ref I, .ref C, .ref S], []⟩) R (c.st h tk) := by
  have hname : (toString "max" ++ toString ".loop" : String) = "max.loop" := by decide
  have W := Walks.range (prog := c.prog) (w := c.w) (A := A.in1) hh I 0 1 n
  intro r
  induction r with
  | zero =>
    intro j i h tk tb x e hr hj kp hS ko hit hij hb
    have hin : j + 1 = n := n_zero hr.symm hj
    refine codeAny_builtin PySem.F.entry_max_loop ?_
    rw [Around.under_plainId PySem.F.plain_max_loop _]
    show wpAny _ A.in1 (seqItems? (.ref S) >>= _) _ _ _
    refine wpAny_bind (wpAny_seqItems hS rfl ?_)
    show wpAny _ A.in1 (tryCatch (pyNext (.ref I)) _ >>= _) _ _ _
    refine wpAny_bind (wpAny_tryCatch (W.done _ _ _ (by rw [hin] at hit; exact hit) fun h' tk' hk' => ?_))
    have hS' := hk' S _ (by simpa using hSI) hS
    have s1 := Heap.SameBut.update h' S (Obj.mapSeq fun _ => (#[] : Array Value))
    show wpAny _ A.in1 (updateSeq S (fun _ => #[]) >>= _) _ _ _
    refine wpAny_bind ?_
    refine wpAny_updateSeq hS' rfl (wpAny_bind (wpAny_letGo (wpAny_pure ?_)))
    refine hR i tb _ _ (hin ▸ Nat.lt_succ_of_le hij) (by rw [← hin]; exact hb) fun b o eb => ?_
    have n1 : b ≠ S := fun q => by rw [q, hSB] at eb; cases eb
    have n2 : b ≠ I := fun q => by rw [q, hIB] at eb; cases eb
    exact (s1.2 b n1).trans (hk' b o (by simpa using n2) (kp _ _ eb))
  | succ r ih =>
    intro j i h tk tb x e hr hj kp hS ko hit hij hb
    have hlt : j + 1 < n := n_lt hr.symm
    have hin : i < n := Nat.lt_trans (Nat.lt_succ_of_le hij) hlt
    refine codeAny_builtin PySem.F.entry_max_loop ?_
    rw [Around.under_plainId PySem.F.plain_max_loop _]
    show wpAny _ A.in1 (seqItems? (.ref S) >>= _) _ _ _
    refine wpAny_bind (wpAny_seqItems hS rfl ?_)
    show wpAny _ A.in1 (tryCatch (pyNext (.ref I)) _ >>= _) _ _ _
    refine wpAny_bind (wpAny_tryCatch (W.item (j + 1) _ _ _ hlt hit fun v h' tk' hP hst' hk' => ?_))
    obtain ⟨tv, rfl⟩ := hP
    rw [show (0 : Int) + ((j + 1 : Nat) : Int) * 1 = ((j + 1 : Nat) : Int) by rw [Int.zero_add, Int.mul_one]]
    have kp' : Keep hB h' := fun b o eb => hk' b o (by
      have n2 : b ≠ I := fun q => by rw [q, hIB] at eb; cases eb
      simpa using n2) (kp _ _ eb)
    have hS' := hk' S _ (by simpa using hSI) hS
    have ko' : KeyO h' x C (i : Int) := ko.upd2 hit (by intro q; cases q) ⟨_, hst'⟩ (fun b o n eb => hk' b o (by simpa using n) eb)
    show wpAny _ A.in1 (tryCatch (holding [.int ((j + 1 : Nat) : Int) tv] (call (.ref C) [.int ((j + 1 : Nat) : Int) tv])) _ >>= _) _ _ _
    refine wpAny_bind (wpAny_tryCatch (wpAny_holding ((MK h' (j + 1) tv hlt kp').go fun y h2 tk2 H => ?_)))
    obtain ⟨z, rfl, kz, k2⟩ := H
    show wpAny _ A.in1 (tryCatch (holding [.int ((j + 1 : Nat) : Int) tv, .ref z] (richCompare .Gt (.ref z) (.ref x) >>= _)) _ >>= _) _ _ _
    refine wpAny_bind (wpAny_tryCatch (wpAny_holding (wpAny_bind ((GT h2 z x (j + 1) i hlt hin (kp'.trans k2) kz (ko'.keeps k2)).go fun bv h3 tk3 H3 => ?_))))
    obtain ⟨rfl, k3⟩ := H3
    refine wpAny_bind (wpAny_holding (wpAny_truthy_bool ?_))
    refine wpAny_bind (wpAny_letGo (wpAny_pure ?_))
    have hS3 := k3 _ _ (k2 _ _ hS')
    have hI3 := k3 _ _ (k2 _ _ hst')
    have kp3 := (kp'.trans k2).trans k3
    by_cases hb' : ρ (j + 1) > ρ i
    · have s1 := Heap.SameBut.update h3 S (Obj.mapSeq fun _ => #[.int ((j + 1 : Nat) : Int) tv, .ref z])
      have hc2 := get?_update_seq hS3 fun _ => #[.int ((j + 1 : Nat) : Int) tv, .ref z]
      simp only [hb', decide_true, if_true]
      refine wpAny_bind ?_
      refine wpAny_updateSeq hS3 rfl (wpAny_bind (wpAny_letGo ?_))
      rw [hname]
      refine wpAny_pure ⟨plainId_quiet PySem.F.plain_max_loop _, ih (j + 1) (j + 1) _ _ tv z _ (n_next hr.symm).symm hlt (fun b o eb => ?_) hc2 ((kz.keeps k3).upd hS3 ⟨_, hc2⟩ s1) ((s1.2 I hSI.symm).trans hI3) (Nat.le_refl _) fun j' hj' => ?_⟩
      · have n1 : b ≠ S := fun q => by rw [q, hSB] at eb; cases eb
        exact (s1.2 b n1).trans (kp3 _ _ eb)
      · by_cases e : j' = j + 1
        · subst e
          exact ⟨Int.le_refl _, fun h => absurd h (Nat.lt_irrefl _)⟩
        · have hb1 := Int.lt_of_le_of_lt (hb j' (Nat.lt_of_le_of_ne (Nat.le_of_lt_succ hj') e)).1 hb'
          exact ⟨Int.le_of_lt hb1, fun _ => hb1⟩
    · simp only [hb', decide_false, Bool.false_eq_true, if_false]
      refine wpAny_bind (wpAny_letGo ?_)
      rw [hname]
      refine wpAny_pure ⟨plainId_quiet PySem.F.plain_max_loop _, ih (j + 1) i _ _ tb x e (n_next hr.symm).symm hlt kp3 hS3 ((ko'.keeps k2).keeps k3) hI3 (Nat.le_succ_of_le hij) fun j' hj' => ?_⟩
      by_cases e : j' = j + 1
      · subst e
        exact ⟨Int.not_lt.mp hb', fun h => absurd hij (Nat.not_le.mpr (Nat.lt_of_succ_lt h))⟩
      · exact hb j' (Nat.lt_of_le_of_ne (Nat.le_of_lt_succ hj') e)
end
end Mine
end
section
open PySem PySem.W PyProof.Rows PySem.Calls PySem.W.X
set_option Elab.async false
set_option maxRecDepth 100000
set_option maxHeartbeats 400000
set_option linter.unusedVariables false
namespace Mine
theorem maxR {c : Cx} {A : Around} {h : Heap} {C R : Addr} {ρ : Nat → Int} {t u v : Tok} (hh : A.handled = none) (hr : h.get? R = some (rO 0 12 1 t u v))
    (MK : ∀ h' (i : Nat) t, i < 12 → Keep h h' → wq c A.in1 (call (.ref C) [.int (i : Int) t]) (fun v h'' => ∃ x, v = .ref x ∧ KeyO h'' x C (i : Int) ∧ Keep h' h'') h')
    (GT : ∀ h' x y (a b : Nat), a < 12 → b < 12 → Keep h h' → KeyO h' x C (a : Int) → KeyO h' y C (b : Int) → wq c A.in1 (richCompare .Gt (.ref x) (.ref y)) (fun v h'' => v = .bool (decide (ρ a > ρ b)) ∧ Keep h' h'') h') :
    wq c A (call (.builtin "max") [.ref R] [(Str.ofString "key", .ref C)]) (fun v h' => ∃ (i : Nat) (t : Tok), v = .int (i : Int) t ∧ i < 12 ∧ Best ρ i 12 ∧ Keep h h') h := wq.of fun tk Q' k => by
  have hname : (toString "max" ++ toString ".loop" : String) = "max.loop" := by decide
  refine kmk_tree PySem.F.kind_max PySem.F.plain_max PySem.F.entry_max (kmk_max_key _ _) ?_
  show wpAny _ A.in1 (Builtin.Builtins.bindParams "max" ["key", "default"] 0 ⟨[], [(Str.ofString "key", .ref C)]⟩ >>= _) _ _ (c.st h tk)
  refine wpAny_bind (wpAny_of_eq (show Builtin.Builtins.bindParams "max" ["key", "default"] 0 ⟨[], [(Str.ofString "key", .ref C)]⟩ = pure [some (.ref C), none] from rfl) ?_)
  refine wpAny_bind (wpAny_pure ?_)
  refine wpAny_bind (wpAny_pyIter_range hr (by decide +kernel) ?_)
  refine wpAny_bind (wpAny_newList ?_ (Nat.zero_le _))
  rw [hname]
  generalize hio : ({ cls := .type "range_iterator", data := .fields #[rawInt 0, rawInt (Builtin.Range.rangeSize 0 12 1), rawInt 1] } : Obj) = io
  have hS : (h.push io).objs.size = h.objs.size + 1 := size_push' ..
  have hSI : (h.push io).objs.size ≠ h.objs.size := by rw [hS]; exact Nat.ne_of_gt (Nat.lt_succ_self _)
  refine wpAny_pure ⟨plainId_quiet PySem.F.plain_max_loop _, ?_⟩
  have gI : ((h.push io).push (seqObj "list" #[] 0)).get? h.objs.size = some io := Heap.get?_push_of_some _ (Heap.get?_push_size _ (by rw [← hio]; rfl))
  have gS : ((h.push io).push (seqObj "list" #[] 0)).get? (h.push io).objs.size = some (seqObj "list" #[] 0) := Heap.get?_push_size _ rfl
  have kH : Keep h ((h.push io).push (seqObj "list" #[] 0)) := fun b o e => Heap.get?_push_of_some _ (Heap.get?_push_of_some _ e)
  have nI : h.get? h.objs.size = none := Heap.get?_none_of_le (Nat.le_refl _)
  have nS : h.get? (h.push io).objs.size = none := Heap.get?_none_of_le (by rw [hS]; exact Nat.le_succ _)
  generalize (h.push io).objs.size = S at hSI gS nS
  generalize h.objs.size = I at hSI gI nI
  generalize (h.push io).push (seqObj "list" #[] 0) = h₁ at gI gS kH
  have hit : IsRangeIter h₁ I ((0 : Int) + ((0 : Nat) : Int) * 1) ((12 : Nat) - ((0 : Nat) : Int)) 1 := by
    show h₁.get? I = _
    rw [gI, ← hio]
    rfl
  have W := Walks.range (prog := c.prog) (w := c.w) (A := A.in1) hh I 0 1 12
  refine codeAny_builtin PySem.F.entry_max_loop ?_
  rw [Around.under_plainId PySem.F.plain_max_loop _]
  show wpAny _ A.in1 (seqItems? (.ref S) >>= _) _ _ _
  refine wpAny_bind (wpAny_seqItems gS rfl ?_)
  show wpAny _ A.in1 (tryCatch (pyNext (.ref I)) _ >>= _) _ _ _
  refine wpAny_bind (wpAny_tryCatch (W.item 0 _ _ _ (by decide) hit fun v h' tk' hP hst' hk' => ?_))
  obtain ⟨tv, rfl⟩ := hP
  rw [show (0 : Int) + ((0 : Nat) : Int) * 1 = ((0 : Nat) : Int) by omega]
  have kp' : Keep h h' := fun b o eb => hk' b o (by
    have n2 : b ≠ I := fun q => by rw [q, nI] at eb; cases eb
    simpa using n2) (kH _ _ eb)
  have hS' := hk' S _ (by simpa using hSI) gS
  show wpAny _ A.in1 (tryCatch (holding [.int ((0 : Nat) : Int) tv] (call (.ref C) [.int ((0 : Nat) : Int) tv])) _ >>= _) _ _ _
  refine wpAny_bind (wpAny_tryCatch (wpAny_holding ((MK h' 0 tv (by decide) kp').go fun y h2 tk2 H => ?_)))
  obtain ⟨z, rfl, kz, k2⟩ := H
  have hS2 := k2 _ _ hS'
  have hI2 := k2 _ _ hst'
  have s1 := Heap.SameBut.update h2 S (Obj.mapSeq fun _ => #[.int ((0 : Nat) : Int) tv, .ref z])
  have hc2 := get?_update_seq hS2 fun _ => #[.int ((0 : Nat) : Int) tv, .ref z]
  show wpAny _ A.in1 (updateSeq S (fun _ => #[.int ((0 : Nat) : Int) tv, .ref z]) >>= _) _ _ _
  refine wpAny_bind ?_
  refine wpAny_updateSeq hS2 rfl ?_
  rw [hname]
  refine wpAny_pure ⟨plainId_quiet PySem.F.plain_max_loop _, maxLoop (ρ := ρ) (n := 12) hh (by decide) hSI nI nS MK GT (fun i t h' tk' hi hb kp => k _ _ _ ⟨i, t, rfl, hi, hb, kp⟩) _ 0 0 _ _ tv z _ rfl (by decide) (fun b o eb => ?_) hc2 (kz.upd hS2 ⟨_, hc2⟩ s1) ((s1.2 I hSI.symm).trans hI2) (Nat.le_refl _) fun j' hj' => ?_⟩
  · have n1 : b ≠ S := fun q => by rw [q, nS] at eb; cases eb
    exact (s1.2 b n1).trans (k2 _ _ (kp' _ _ eb))
  · have e : j' = 0 := by omega
    subst e
    exact ⟨by omega, fun h => absurd h (Nat.lt_irrefl _)⟩
end Mine
end
section
open PySem PySem.W PyProof.Rows PySem.Calls PySem.W.X
open PySem.SeqAt MeetsSeq MeetsSeq2 MeetsSeq3 SeqRoads2
open AutoSeq1 (wpAny_loadPart')
set_option Elab.async false
set_option maxRecDepth 100000
set_option maxHeartbeats 400000
set_option linter.unusedVariables false
namespace Mine
noncomputable def cmpB (g : Bool) : List Bool → List Bool → Bool
  | p :: ps, q :: qs => if p = q then cmpB g ps qs else if g then p else q
  | _, _ => false
noncomputable def bools (ps : List Bool) : Array Value := (ps.map Value.bool).toArray
theorem EqAt_bools {A : Around} {s : Shared} {p q : Bool} (hne : p ≠ q) : EqAt A s (.bool p) (.bool q) false := fun prog w E Q h => by
  unfold eqBool
  refine wpAny_holding ?_
  refine wpAny_ite_split (fun hab => absurd (by have := eq_of_beq hab; injection this) hne) (fun _ => ?_)
  refine wpAny_bind (eq_bool (wpAny_truthy_bool ?_))
  cases p <;> cases q <;> first | exact absurd rfl hne | exact h


theorem lt_loop (l b : Addr) (ps qs : List Bool) (n n2 : Nat) (dd dd2 : Option Addr) (sl sl2 : Array (Option Value)) (hsz : ps.length = qs.length) (k : Nat) :
    ∀ i : Nat, ps.length - i = k → Meets (Builtin.«list.__eq__.loop» ⟨[.ref l, .ref b, rawInt i, rawInt 0], []⟩)
      (fun A R s => s.heap.get? l = some { cls := .type "list", dict := dd, data := .seq (bools ps) n, slots := sl } ∧ s.heap.get? b = some { cls := .type "list", dict := dd2, data := .seq (bools qs) n2, slots := sl2 } ∧
        R (.ok (.ret (.bool (cmpB false (ps.drop i) (qs.drop i))))) s) := by
  induction k with
  | zero =>
    intro i hk prog w A R s h
    obtain ⟨hp, g, d, tk, os⟩ := s; obtain ⟨hl, hb, h⟩ := h
    wp_walk using wpAny_loadPart' hl, wpAny_loadPart' hb
    have hi1 : (bools ps)[((i : Nat) : Int).toNat]? = none := by simp [bools]; omega
    have hi2 : (bools qs)[((i : Nat) : Int).toNat]? = none := by simp [bools]; omega
    have hd : ps.drop i = [] := by simp; omega
    rw [hd] at h
    rw [hi1, hi2]
    wp_walk using wpAny_loadPart' hl, wpAny_loadPart' hb
    have e : (bools ps).size = (bools qs).size := by simp [bools, hsz]
    show R (.ok (.ret (.bool (decide ((bools ps).size < (bools qs).size))))) _
    rw [e]
    simpa [cmpB] using h
  | succ k ih =>
    intro i hk prog w A R s h
    obtain ⟨hp, g, d, tk, os⟩ := s; obtain ⟨hl, hb, h⟩ := h
    wp_walk using wpAny_loadPart' hl, wpAny_loadPart' hb
    have hlt : i < ps.length := by omega
    have hlt2 : i < qs.length := by omega
    have hi1 : (bools ps)[((i : Nat) : Int).toNat]? = some (.bool ps[i]) := by simp [bools, hlt]
    have hi2 : (bools qs)[((i : Nat) : Int).toNat]? = some (.bool qs[i]) := by simp [bools, hlt2]
    have hc : ((i : Int) + 1) = ((i + 1 : Nat) : Int) := by push_cast; rfl
    rw [List.drop_eq_getElem_cons hlt, List.drop_eq_getElem_cons hlt2] at h
    rw [hi1, hi2]
    by_cases e : ps[i] = qs[i]
    · rw [cmpB, if_pos e] at h
      rw [e]
      refine wpAny_bind (EqAt.same (A := A.in1) _ prog w _ _ ?_)
      wp_walk
      rw [hc]
      exact ⟨plainId_quiet plain_eq_loop _, codeAny_builtin entry_eq_loop (by
        rw [Around.under_plainId plain_eq_loop _]
        exact ih (i + 1) (by omega) prog w A R _ ⟨hl, hb, h⟩)⟩
    · rw [cmpB, if_neg e] at h
      refine wpAny_bind (EqAt_bools (A := A.in1) e prog w _ _ ?_)
      wp_walk using wpAny_loadPart' hl, wpAny_loadPart' hb
      rw [hi1, hi2]
      refine wpAny_bind (lt_bool ?_)
      wp_walk
      generalize ps[i] = p at h e ⊢
      generalize qs[i] = q at h e ⊢
      cases p <;> cases q <;> first | exact absurd rfl e | exact h

theorem gt_loop (l b : Addr) (ps qs : List Bool) (n n2 : Nat) (dd dd2 : Option Addr) (sl sl2 : Array (Option Value)) (hsz : ps.length = qs.length) (k : Nat) :
    ∀ i : Nat, ps.length - i = k → Meets (Builtin.«list.__eq__.loop» ⟨[.ref l, .ref b, rawInt i, rawInt 4], []⟩)
      (fun A R s => s.heap.get? l = some { cls := .type "list", dict := dd, data := .seq (bools ps) n, slots := sl } ∧ s.heap.get? b = some { cls := .type "list", dict := dd2, data := .seq (bools qs) n2, slots := sl2 } ∧
        R (.ok (.ret (.bool (cmpB true (ps.drop i) (qs.drop i))))) s) := by
  induction k with
  | zero =>
    intro i hk prog w A R s h
    obtain ⟨hp, g, d, tk, os⟩ := s; obtain ⟨hl, hb, h⟩ := h
    wp_walk using wpAny_loadPart' hl, wpAny_loadPart' hb
    have hi1 : (bools ps)[((i : Nat) : Int).toNat]? = none := by simp [bools]; omega
    have hi2 : (bools qs)[((i : Nat) : Int).toNat]? = none := by simp [bools]; omega
    have hd : ps.drop i = [] := by simp; omega
    rw [hd] at h
    rw [hi1, hi2]
    wp_walk using wpAny_loadPart' hl, wpAny_loadPart' hb
    have e : (bools ps).size = (bools qs).size := by simp [bools, hsz]
    show R (.ok (.ret (.bool (decide ((bools ps).size > (bools qs).size))))) _
    rw [e]
    simpa [cmpB] using h
  | succ k ih =>
    intro i hk prog w A R s h
    obtain ⟨hp, g, d, tk, os⟩ := s; obtain ⟨hl, hb, h⟩ := h
    wp_walk using wpAny_loadPart' hl, wpAny_loadPart' hb
    have hlt : i < ps.length := by omega
    have hlt2 : i < qs.length := by omega
    have hi1 : (bools ps)[((i : Nat) : Int).toNat]? = some (.bool ps[i]) := by simp [bools, hlt]
    have hi2 : (bools qs)[((i : Nat) : Int).toNat]? = some (.bool qs[i]) := by simp [bools, hlt2]
    have hc : ((i : Int) + 1) = ((i + 1 : Nat) : Int) := by push_cast; rfl
    rw [List.drop_eq_getElem_cons hlt, List.drop_eq_getElem_cons hlt2] at h
    rw [hi1, hi2]
    by_cases e : ps[i] = qs[i]
    · rw [cmpB, if_pos e] at h
      rw [e]
      refine wpAny_bind (EqAt.same (A := A.in1) _ prog w _ _ ?_)
      wp_walk
      rw [hc]
      exact ⟨plainId_quiet plain_eq_loop _, codeAny_builtin entry_eq_loop (by
        rw [Around.under_plainId plain_eq_loop _]
        exact ih (i + 1) (by omega) prog w A R _ ⟨hl, hb, h⟩)⟩
    · rw [cmpB, if_neg e] at h
      refine wpAny_bind (EqAt_bools (A := A.in1) e prog w _ _ ?_)
      wp_walk using wpAny_loadPart' hl, wpAny_loadPart' hb
      rw [hi1, hi2]
      refine wpAny_bind (gt_bool ?_)
      wp_walk
      generalize ps[i] = p at h e ⊢
      generalize qs[i] = q at h e ⊢
      cases p <;> cases q <;> first | exact absurd rfl e | exact h
end Mine
end
section
open PySem PySem.W PyProof.Rows PySem.Calls PySem.W.X
open PySem.SeqAt MeetsSeq MeetsSeq2 MeetsSeq3 SeqRoads2
open AutoSeq1 (wpAny_loadPart')
set_option Elab.async false
set_option maxRecDepth 100000
set_option maxHeartbeats 400000
set_option linter.unusedVariables false
namespace Mine
theorem q_subB {c : Cx} {A : Around} {h : Heap} {p q : Bool} {Q : Value → Heap → Prop} (k : ∀ t, Q (.int (b2i p - b2i q) t) h) : wq c A (binaryOp .Sub (.bool p) (.bool q)) Q h := wq.of fun _ _ kk => sub_bool (kk _ _ _ (k _))

theorem list_ltAt (l b : Addr) (ps qs : List Bool) (n n2 : Nat) (dd dd2 : Option Addr) (sl sl2 : Array (Option Value)) (hsz : ps.length = qs.length) :
    Meets (Builtin.«list.__lt__» ⟨[.ref l, .ref b], []⟩)
      (fun A R s => s.heap.get? l = some { cls := .type "list", dict := dd, data := .seq (bools ps) n, slots := sl } ∧ s.heap.get? b = some { cls := .type "list", dict := dd2, data := .seq (bools qs) n2, slots := sl2 } ∧
        R (.ok (.ret (.bool (cmpB false ps qs)))) s) := by
  intro prog w A R s h
  obtain ⟨hp, g, d, tk, os⟩ := s; obtain ⟨hl, hb, h⟩ := h
  have f3 := AutoSeq1.sub_list_list
  wp_walk using wpAny_loadPart' hl, wpAny_loadPart' hb
  exact ⟨plainId_quiet plain_eq_loop _, codeAny_builtin entry_eq_loop (by
    rw [Around.under_plainId plain_eq_loop _]
    exact lt_loop l b ps qs n n2 dd dd2 sl sl2 hsz _ 0 rfl prog w A R _ ⟨hl, hb, by simpa using h⟩)⟩
theorem q_ltB {c : Cx} {A : Around} {h : Heap} {l b : Addr} {ps qs : List Bool} {Q : Value → Heap → Prop} (hl : h.IsList l (bools ps)) (hb : h.IsList b (bools qs)) (hsz : ps.length = qs.length) (hu : A.units < cLine) (k : Q (.bool (cmpB false ps qs)) h) : wq c A (compareOp .Lt (.ref l) (.ref b)) Q h := wq.of fun tk Q' kk => by
  obtain ⟨⟨cls, dd, data, sl⟩, ho, hc, n, hd⟩ := id hl
  obtain ⟨⟨cls2, dd2, data2, sl2⟩, ho2, hc2, n2, hd2⟩ := id hb
  simp only at hc hd hc2 hd2
  subst hc hd hc2 hd2
  exact richCompare_meets_room (op := .Lt) ⟨_, ho, rfl⟩ ⟨_, ho2, rfl⟩ F.slot_list_lt F.entry_list_lt (F.args_list_lt_2 _ _) (list_ltAt l b ps qs n n2 dd dd2 sl sl2 hsz)
    ⟨ho, ho2, show Value.bool (cmpB false ps qs) ≠ Value.notImplemented ∧ Q' (.bool (cmpB false ps qs)) (c.st h tk) from ⟨(fun x => nomatch x), kk _ _ _ k⟩⟩ hu

theorem list_gtAt (l b : Addr) (ps qs : List Bool) (n n2 : Nat) (dd dd2 : Option Addr) (sl sl2 : Array (Option Value)) (hsz : ps.length = qs.length) :
    Meets (Builtin.«list.__gt__» ⟨[.ref l, .ref b], []⟩)
      (fun A R s => s.heap.get? l = some { cls := .type "list", dict := dd, data := .seq (bools ps) n, slots := sl } ∧ s.heap.get? b = some { cls := .type "list", dict := dd2, data := .seq (bools qs) n2, slots := sl2 } ∧
        R (.ok (.ret (.bool (cmpB true ps qs)))) s) := by
  intro prog w A R s h
  obtain ⟨hp, g, d, tk, os⟩ := s; obtain ⟨hl, hb, h⟩ := h
  have f3 := AutoSeq1.sub_list_list
  wp_walk using wpAny_loadPart' hl, wpAny_loadPart' hb
  exact ⟨plainId_quiet plain_eq_loop _, codeAny_builtin entry_eq_loop (by
    rw [Around.under_plainId plain_eq_loop _]
    exact gt_loop l b ps qs n n2 dd dd2 sl sl2 hsz _ 0 rfl prog w A R _ ⟨hl, hb, by simpa using h⟩)⟩
theorem q_gtB {c : Cx} {A : Around} {h : Heap} {l b : Addr} {ps qs : List Bool} {Q : Value → Heap → Prop} (hl : h.IsList l (bools ps)) (hb : h.IsList b (bools qs)) (hsz : ps.length = qs.length) (hu : A.units < cLine) (k : Q (.bool (cmpB true ps qs)) h) : wq c A (compareOp .Gt (.ref l) (.ref b)) Q h := wq.of fun tk Q' kk => by
  obtain ⟨⟨cls, dd, data, sl⟩, ho, hc, n, hd⟩ := id hl
  obtain ⟨⟨cls2, dd2, data2, sl2⟩, ho2, hc2, n2, hd2⟩ := id hb
  simp only at hc hd hc2 hd2
  subst hc hd hc2 hd2
  exact richCompare_meets_room (op := .Gt) ⟨_, ho, rfl⟩ ⟨_, ho2, rfl⟩ F.slot_list_gt F.entry_list_gt (F.args_list_gt_2 _ _) (list_gtAt l b ps qs n n2 dd dd2 sl sl2 hsz)
    ⟨ho, ho2, show Value.bool (cmpB true ps qs) ≠ Value.notImplemented ∧ Q' (.bool (cmpB true ps qs)) (c.st h tk) from ⟨(fun x => nomatch x), kk _ _ _ k⟩⟩ hu
end Mine
end
section
open PySem PySem.W PyProof.Rows PySem.Calls PySem.W.X
set_option Elab.async false
set_option maxRecDepth 100000
set_option maxHeartbeats 400000
set_option linter.unusedVariables false
namespace Mine
noncomputable abbrev qLam : Str := Str.ofString "law.<locals>.<lambda>"
noncomputable def lamFn (c : Cx) (clos : List (Str × Addr)) (pm : Value) (c' : Addr) (ctv : Value) : Obj := match (K2 c).lookup 113 with
  | some ⟨_, _, .func fd, _⟩ => (match fd.body with
    | .stmts (_ :: _ :: _ :: _ :: _ :: _ :: _ :: s :: _) => (match s with
      | .Assign _ (.Call _ (.Lambda ps b sc _ :: _) _ _) _ => kla_obj "<lambda>" qLam ps b sc clos pm c' ctv
      | _ => default)
    | _ => default)
  | _ => default
noncomputable def b3 (ps qs : List Bool) : Int := b2i (cmpB true ps qs) - b2i (cmpB false ps qs)
/-- the shown table: a row of bools for each right -/
structure Shown (h : Heap) (SL : Addr) (B : Nat → List Bool) (m : Nat) : Prop where
  rows : ∃ rs : List Value, h.IsList SL rs.toArray ∧ rs.length = 12 ∧ ∀ i, i < 12 → ∃ a, rs[i]? = some (.ref a) ∧ h.IsList a (bools (B i))
  len : ∀ i, i < 12 → (B i).length = m
theorem Shown.keeps {h h' : Heap} {SL : Addr} {B : Nat → List Bool} {m : Nat} (x : Shown h SL B m) (k : Keep h h') : Shown h' SL B m := by
  obtain ⟨⟨rs, hl, hn, hr⟩, ln⟩ := x
  exact ⟨⟨rs, (let ⟨o, e, r⟩ := hl; ⟨o, k _ _ e, r⟩), hn, fun i hi => let ⟨a, e1, o, e, r⟩ := hr i hi; ⟨a, e1, o, k _ _ e, r⟩⟩, ln⟩
theorem lamC {c : Cx} {A : Around} {h : Heap} {mg mb : Str → Option Value} {f c' cs cz SL : Addr} {pm ctv : Value} {clos : List (Str × Addr)} {os oz : Obj} {n m : Nat} {tz t u : Tok} {B : Nat → List Bool} {a b : Nat} (r : Room A 3 9) (G : Gd (K2 c) mg mb h) (V : h.get? f = some (lamFn c clos pm c' ctv)) (rc : CodeR h c' qLam)
    (c1 : clos.lookup (Str.ofString "shown") = some cs) (c2 : clos.lookup (Str.ofString "size") = some cz) (hs : h.get? cs = some os) (ds : os.data = .cell (some (.ref SL))) (hz : h.get? cz = some oz) (dz : oz.data = .cell (some (.int (n : Int) tz))) (hn : n ≤ 4) (S : Shown h SL B m) (ha : a < 12) (hb : b < 12) :
    wq c A (call (.ref f) [.int (a : Int) t, .int (b : Int) u]) (fun v h' => (∃ t, v = .int ((n : Int) * b3 (B a) (B b)) t) ∧ Keep h h') h := by
  refine q_lam (d := 2) (u := 6) (binds := [(Str.ofString "a", .int (a : Int) t), (Str.ofString "b", .int (b : Int) u)]) r V rfl G.lim rc.code ?b ?c ?d ?e ?f ?g ?_
  case b => exact rfl
  case c => decide
  case d => exact locs rfl
  case e => exact rfl
  case f => exact rfl
  case g => exact rfl
  intro L h₁ F r'
  have D := led_start F
  have hs := F.keep _ _ hs
  have hz := F.keep _ _ hz
  obtain ⟨⟨rs, hl, hrn, hr⟩, ln⟩ := S.keeps F.keep
  obtain ⟨xa, ea, la⟩ := hr a ha
  obtain ⟨xb, eb, lb⟩ := hr b hb
  have s12 : 12 ≤ sizeLine := by decide
  have hbits : Builtin.Int.intBits (n : Int) ≤ 64 := by
    have : ∀ k : Fin 5, Builtin.Int.intBits (k.val : Int) ≤ 64 := by decide +kernel
    exact this ⟨n, by omega⟩
  refine q_BinOp ?_
  refine q_free (cA := cz) c2 hz dz rfl rfl rfl rfl ?_
  refine q_BinOp ?_
  refine q_Compare rfl ?_
  refine q_Subscript ?_
  refine q_free (cA := cs) c1 hs ds rfl rfl rfl rfl ?_
  refine dl D ?_
  refine d_item hl rfl (by omega) ea ?_
  refine q_Subscript ?_
  refine q_free (cA := cs) c1 hs ds rfl rfl rfl rfl ?_
  refine dl D ?_
  refine d_item hl rfl (by omega) eb ?_
  refine q_gtB la lb ((ln a ha).trans (ln b hb).symm) r'.cl ?_
  refine q_Compare rfl ?_
  refine q_Subscript ?_
  refine q_free (cA := cs) c1 hs ds rfl rfl rfl rfl ?_
  refine dl D ?_
  refine d_item hl rfl (by omega) ea ?_
  refine q_Subscript ?_
  refine q_free (cA := cs) c1 hs ds rfl rfl rfl rfl ?_
  refine dl D ?_
  refine d_item hl rfl (by omega) eb ?_
  refine q_ltB la lb ((ln a ha).trans (ln b hb).symm) r'.cl ?_
  refine q_subB fun t1 => ?_
  exact q_mul (IntMulOk.of_left hbits) fun t2 => ⟨⟨t2, rfl⟩, F.keep⟩
end Mine
end
section
open PySem PySem.W PyProof.Rows PySem.Calls PySem.W.X
set_option Elab.async false
set_option maxRecDepth 100000
set_option maxHeartbeats 400000
set_option linter.unusedVariables false
namespace Mine
noncomputable def numB : List Bool → Int
  | [] => 0
  | p :: ps => b2i p * 2 ^ ps.length + numB ps
theorem numB_bd : ∀ ps : List Bool, 0 ≤ numB ps ∧ numB ps < 2 ^ ps.length
  | [] => by decide
  | p :: ps => by
    have ih := numB_bd ps
    have e : (2 : Int) ^ (p :: ps).length = 2 * 2 ^ ps.length := by rw [List.length_cons, Int.pow_succ]; omega
    rw [e]
    show 0 ≤ b2i p * 2 ^ ps.length + numB ps ∧ b2i p * 2 ^ ps.length + numB ps < _
    generalize (2 : Int) ^ ps.length = w at *
    cases p
    · simp [b2i]; omega
    · simp [b2i]; omega
theorem cmpB_num : ∀ ps qs : List Bool, ps.length = qs.length → cmpB true ps qs = decide (numB ps > numB qs) ∧ cmpB false ps qs = decide (numB ps < numB qs)
  | [], [], _ => by decide
  | [], _ :: _, h => by simp at h
  | _ :: _, [], h => by simp at h
  | p :: ps, q :: qs, h => by
    have hl : ps.length = qs.length := by simpa using h
    have ih := cmpB_num ps qs hl
    have b1 := numB_bd ps
    have b2 := numB_bd qs
    rw [hl] at b1
    have e1 : numB (p :: ps) = b2i p * 2 ^ qs.length + numB ps := by rw [← hl]; rfl
    have e2 : numB (q :: qs) = b2i q * 2 ^ qs.length + numB qs := rfl
    rw [e1, e2]
    generalize (2 : Int) ^ qs.length = w at *
    generalize numB ps = x at *
    generalize numB qs = y at *
    cases p <;> cases q <;> simp [cmpB, b2i, ih] <;> omega
theorem b3_lt {ps qs : List Bool} {n : Nat} (hn : 0 < n) (h : ps.length = qs.length) : decide ((n : Int) * b3 ps qs < 0) = decide (numB ps < numB qs) := by
  obtain ⟨e1, e2⟩ := cmpB_num ps qs h
  unfold b3
  rw [e1, e2]
  by_cases c1 : numB ps < numB qs
  · have c2 : ¬ numB ps > numB qs := by omega
    simp [c1, c2, b2i]; omega
  · by_cases c2 : numB ps > numB qs
    · simp [c1, c2, b2i]
    · simp [c1, c2, b2i]
theorem b3_gt {ps qs : List Bool} {n : Nat} (hn : 0 < n) (h : ps.length = qs.length) : decide ((n : Int) * b3 ps qs > 0) = decide (numB ps > numB qs) := by
  obtain ⟨e1, e2⟩ := cmpB_num ps qs h
  unfold b3
  rw [e1, e2]
  by_cases c1 : numB ps < numB qs
  · have c2 : ¬ numB ps > numB qs := by omega
    simp [c1, c2, b2i]
  · by_cases c2 : numB ps > numB qs
    · simp [c1, c2, b2i]; omega
    · simp [c1, c2, b2i]
/-- a key's own comparison, with no frame -/
theorem keyCmp {c : Cx} {A : Around} {h : Heap} {K : Frag} {C ns p cel x y : Addr} {f cc : Nat → Addr} {mv : Value} {s₁ s₂ : Int} {z : Bool} (hu : A.units < cLine) (Y : KeyF c K C ns p cel f cc mv) (X : K.In h) (O₁ : KeyO h x C s₁) (O₂ : KeyO h y C s₂)
    (H : wq c A (call (.ref (f 2)) [.ref x, .ref y]) (fun v h' => v = .bool z ∧ Keep h h') h) : wq c A (richCompare .Gt (.ref x) (.ref y)) (fun v h' => v = .bool z ∧ Keep h h') h := by
  obtain ⟨dx, t, od, e, ed⟩ := O₁
  obtain ⟨dy, u, oy, e2, ed2⟩ := O₂
  have I : InstAt h x ⟨.ref C, some dx, .plain, #[some (.int s₁ t)]⟩ C (some od) := ⟨e, rfl, rfl, ed⟩
  have I2 : InstAt h y ⟨.ref C, some dy, .plain, #[some (.int s₂ u)]⟩ C (some oy) := ⟨e2, rfl, rfl, ed2⟩
  refine wq.of fun tk Q' k => ?_
  have one : wpAny c.M A (tryCompare (.ref x) (cmpInfo .Gt).2.1 (.ref y)) (fun r s' => ∃ v, r = some v ∧ Q' v s') (fun _ _ => False) (c.st h tk) := by
    unfold tryCompare
    refine wpAny_bind (ifBound_K X I (Y.find (Y.own 2 (by decide))) (by unfold isFn; rw [Y.fnT (i := 2) (by decide) (fnShape (by decide) _ _)]; rfl) (H.go fun v h' tk' q => ?_))
    obtain ⟨rfl, q⟩ := q
    exact wpAny_pure ⟨_, rfl, k _ _ _ ⟨rfl, q⟩⟩
  unfold richCompare
  simp only [oneThing_ref]
  refine wpAny_holding (wpAny_bind (wpAny_cRoomFor hu ?_))
  refine wpAny_bind (I.type.here (wpAny_bind (I2.type.here ?_)))
  split
  · rename_i q
    simp at q
  · refine wpAny_bind (wpAny_pure ?_)
    simp only [Bool.false_eq_true, if_false]
    refine wpAny_bind (wpAny_mono one (fun r s' z => ?_) fun _ _ e => e)
    obtain ⟨v, rfl, hq⟩ := z
    exact wpAny_pure hq
section
variable {c : Cx} {A : Around} {h : Heap} {mg mb : Str → Option Value} {K : Frag} {C ns p cel : Addr} {f cc : Nat → Addr} {lam c' cs cz SL : Addr} {pm ctv mv : Value} {clos : List (Str × Addr)} {os oz : Obj} {n m : Nat} {tz : Tok} {B : Nat → List Bool}
theorem kMK (r : Room A 3 9) (G : Gd (K2 c) mg mb h) (Kc : KeyC c h C mv) : ∀ h' (i : Nat) t, i < 12 → Keep h h' → wq c A (call (.ref C) [.int (i : Int) t]) (fun v h'' => ∃ x, v = .ref x ∧ KeyO h'' x C (i : Int) ∧ Keep h' h'') h' := by
  intro h' i t _ kp
  refine wq.mono (newKey r (G.keeps kp) (Kc.keeps kp)) fun v h'' H => ?_
  obtain ⟨x, dx, rfl, e1, e2, _, _, k⟩ := H
  exact ⟨x, rfl, ⟨dx, t, _, e1, e2⟩, k⟩
variable (G : Gd (K2 c) mg mb h) (Y : KeyF c K C ns p cel f cc (.ref lam)) (X : K.In h) (V : h.get? lam = some (lamFn c clos pm c' ctv)) (rc : CodeR h c' qLam)
    (c1 : clos.lookup (Str.ofString "shown") = some cs) (c2 : clos.lookup (Str.ofString "size") = some cz) (hs : h.get? cs = some os) (ds : os.data = .cell (some (.ref SL))) (hz : h.get? cz = some oz) (dz : oz.data = .cell (some (.int (n : Int) tz))) (h1 : 0 < n) (hn : n ≤ 4) (S : Shown h SL B m)
include G V rc c1 c2 hs ds hz dz hn S
theorem lamAll (a b : Nat) (ha : a < 12) (hb : b < 12) {h' : Heap} (kp : Keep h h') : ∀ A h'' t u, Room A 3 9 → Keep h' h'' → wq c A (call (.ref lam) [.int (a : Int) t, .int (b : Int) u]) (fun v h3 => (∃ t, v = .int ((n : Int) * b3 (B a) (B b)) t) ∧ Keep h'' h3) h'' := by
  intro A h'' t u r k2
  have k := kp.trans k2
  exact lamC r (G.keeps k) (k _ _ V) (rc.keeps (Keep.kp k)) c1 c2 (k _ _ hs) ds (k _ _ hz) dz hn (S.keeps k) ha hb
include Y X h1
theorem kLT (r : Room A 4 12) : ∀ h' x y (a b : Nat), a < 12 → b < 12 → Keep h h' → KeyO h' x C (a : Int) → KeyO h' y C (b : Int) → wq c A (call (.ref (f 1)) [.ref x, .ref y]) (fun v h'' => v = .bool (decide (numB (B a) < numB (B b))) ∧ Keep h' h'') h' := by
  intro h' x y a b ha hb kp o1 o2
  have := m_lt r (G.keeps kp) Y (X.keeps kp) o1 o2 (kp _ _ V) rfl (lamAll G V rc c1 c2 hs ds hz dz hn S a b ha hb kp)
  rw [b3_lt h1 ((S.len a ha).trans (S.len b hb).symm)] at this
  exact this
theorem kGT (r : Room A 4 12) : ∀ h' x y (a b : Nat), a < 12 → b < 12 → Keep h h' → KeyO h' x C (a : Int) → KeyO h' y C (b : Int) → wq c A (richCompare .Gt (.ref x) (.ref y)) (fun v h'' => v = .bool (decide (numB (B a) > numB (B b))) ∧ Keep h' h'') h' := by
  intro h' x y a b ha hb kp o1 o2
  have := m_gt r (G.keeps kp) Y (X.keeps kp) o1 o2 (kp _ _ V) rfl (lamAll G V rc c1 c2 hs ds hz dz hn S a b ha hb kp)
  have e : decide (0 < (n : Int) * b3 (B a) (B b)) = decide (numB (B a) > numB (B b)) := b3_gt h1 ((S.len a ha).trans (S.len b hb).symm)
  rw [e] at this
  exact keyCmp r.cl Y (X.keeps kp) o1 o2 this
end
end Mine
end
section
open PySem PySem.W PyProof.Rows PySem.Calls PySem.W.X
set_option Elab.async false
set_option maxRecDepth 100000
set_option maxHeartbeats 400000
set_option linter.unusedVariables false
namespace Mine
/-! plain: two lists in one strict order with the same members are one list -/
theorem sorted_eq {α : Type} {lt : α → α → Prop} (irr : ∀ a, ¬ lt a a) (tr : ∀ a b c, lt a b → lt b c → lt a c) : ∀ l₁ l₂ : List α, l₁.Pairwise lt → l₂.Pairwise lt → (∀ a, a ∈ l₁ ↔ a ∈ l₂) → l₁ = l₂
  | [], [], _, _, _ => rfl
  | [], b :: l₂, _, _, h => by have := (h b).mpr (.head _); cases this
  | a :: l₁, [], _, _, h => by have := (h a).mp (.head _); cases this
  | a :: l₁, b :: l₂, h₁, h₂, h => by
    have p₁ := List.pairwise_cons.mp h₁
    have p₂ := List.pairwise_cons.mp h₂
    have e : a = b := by
      rcases List.mem_cons.mp ((h a).mp (.head _)) with e | m
      · exact e
      · rcases List.mem_cons.mp ((h b).mpr (.head _)) with e | m'
        · exact e.symm
        · exact absurd (tr _ _ _ (p₁.1 b m') (p₂.1 a m)) (irr a)
    subst e
    refine congrArg _ (sorted_eq irr tr l₁ l₂ p₁.2 p₂.2 fun x => ⟨fun m => ?_, fun m => ?_⟩)
    · rcases List.mem_cons.mp ((h x).mp (.tail _ m)) with e | m'
      · rw [e] at m; exact absurd (p₁.1 a m) (irr a)
      · exact m'
    · rcases List.mem_cons.mp ((h x).mpr (.tail _ m)) with e | m'
      · rw [e] at m; exact absurd (p₂.1 a m) (irr a)
      · exact m'
/-- the law's order: the greater count ahead, like ones by their number -/
noncomputable def Due (ρ : Nat → Int) (a b : Nat) : Prop := ρ a > ρ b ∨ (ρ a = ρ b ∧ a < b)
theorem Due.irr {ρ : Nat → Int} (a : Nat) : ¬ Due ρ a a := by unfold Due; omega
theorem Due.tr {ρ : Nat → Int} (a b c : Nat) (h : Due ρ a b) (g : Due ρ b c) : Due ρ a c := by
  rcases h with h | h
  · rcases g with g | g
    · exact .inl (Int.lt_trans g h)
    · exact .inl (g.1 ▸ h)
  · rcases g with g | g
    · exact .inl (h.1 ▸ g)
    · exact .inr ⟨h.1.trans g.1, Nat.lt_trans h.2 g.2⟩
end Mine
end
section
open PySem PySem.W PyProof.Rows PySem.Calls PySem.W.X
set_option Elab.async false
set_option maxRecDepth 100000
set_option maxHeartbeats 400000
set_option linter.unusedVariables false
namespace Mine
/-- the law's due list -/
noncomputable def dueP (cs : List Int) (m : Nat) : List Nat := ((List.range m).reverse).flatMap fun (k : Nat) => (List.range 12).filter fun q => decide (cs.getD q 0 = (k : Int))
theorem mem_due {cs : List Int} {m : Nat} (hb : ∀ q, q < 12 → 0 ≤ cs.getD q 0 ∧ cs.getD q 0 < m) (a : Nat) : a ∈ dueP cs m ↔ a < 12 := by
  unfold dueP
  rw [List.mem_flatMap]
  constructor
  · rintro ⟨k, _, h⟩
    have := (List.mem_filter.mp h).1
    simpa using this
  · intro h
    have := hb a h
    refine ⟨(cs.getD a 0).toNat, ?_, ?_⟩
    · rw [List.mem_reverse, List.mem_range]; omega
    · rw [List.mem_filter]
      refine ⟨by simpa using h, ?_⟩
      simp only [decide_eq_true_eq]
      omega
theorem due_sorted {cs : List Int} : ∀ m : Nat, (dueP cs m).Pairwise (Due fun q => cs.getD q 0)
  | 0 => List.Pairwise.nil
  | m + 1 => by
    have e : dueP cs (m + 1) = ((List.range 12).filter fun q => decide (cs.getD q 0 = (m : Int))) ++ dueP cs m := by
      unfold dueP
      rw [List.range_succ (n := m), List.reverse_append]
      rfl
    rw [e, List.pairwise_append]
    refine ⟨?_, due_sorted m, fun a ha b hb => ?_⟩
    · refine List.Pairwise.imp_of_mem (R := fun a b => a < b) (fun {a b} ha hb h => ?_) (List.Pairwise.sublist List.filter_sublist List.pairwise_lt_range)
      have e1 := (List.mem_filter.mp ha).2
      have e2 := (List.mem_filter.mp hb).2
      simp only [decide_eq_true_eq] at e1 e2
      exact .inr ⟨by show cs.getD a 0 = cs.getD b 0; rw [e1, e2], h⟩
    · have e1 := (List.mem_filter.mp ha).2
      simp only [decide_eq_true_eq] at e1
      unfold dueP at hb
      obtain ⟨k, hk, h⟩ := List.mem_flatMap.mp hb
      have e2 := (List.mem_filter.mp h).2
      simp only [decide_eq_true_eq] at e2
      have : k < m := by simpa using hk
      refine .inl ?_
      show cs.getD a 0 > cs.getD b 0
      omega
end Mine
end
section
open PySem PySem.W PyProof.Rows PySem.Calls PySem.W.X
set_option Elab.async false
set_option maxRecDepth 100000
set_option maxHeartbeats 400000
set_option linter.unusedVariables false
namespace Mine
theorem len_le : ∀ (n : Nat) (l : List Nat), l.Nodup → (∀ x ∈ l, x < n) → l.length ≤ n
  | 0, [], _, _ => Nat.le_refl _
  | 0, x :: l, _, h => absurd (h x (.head _)) (Nat.not_lt_zero _)
  | n + 1, l, nd, h => by
    have ih := len_le n (l.erase n) (nd.erase n) (fun x hx => by
      have := (List.Nodup.mem_erase_iff nd).mp hx
      have := h x this.2
      omega)
    have := List.length_erase (a := n) (l := l)
    split at this <;> omega
theorem pig {n : Nat} {l : List Nat} (nd : l.Nodup) (h : ∀ x ∈ l, x < n) (hl : l.length = n) (a : Nat) (ha : a < n) : a ∈ l := by
  by_cases c : a ∈ l
  · exact c
  · have := len_le n (a :: l) (List.nodup_cons.mpr ⟨c, nd⟩) (fun x hx => by
      rcases List.mem_cons.mp hx with e | m
      · rw [e]; exact ha
      · exact h x m)
    rw [List.length_cons] at this
    omega
theorem gt_at {p : Array Nat} {i : Nat} (h : i < p.toList.length) : p.toList[i] = gt p i := by
  have h' : i < p.size := by simpa using h
  unfold gt
  rw [Array.getD_eq_getD_getElem?, Array.getElem?_eq_getElem h']
  simp
theorem out_due {p : Array Nat} {cs : List Int} {m : Nat} (hb : ∀ q, q < 12 → 0 ≤ cs.getD q 0 ∧ cs.getD q 0 < m) (R : Rst 12 p 12) (S : Srt (fun i => cs.getD (12 - 1 - i) 0) p 12) : (p.toList.map fun i => 12 - 1 - i).reverse = dueP cs m := by
  have hl : p.toList.length = 12 := by simpa using R.sz
  have bd : ∀ x ∈ p.toList, x < 12 := by
    intro x hx
    obtain ⟨i, hi, e⟩ := List.mem_iff_getElem.mp hx
    rw [← e, gt_at hi]
    exact R.hd i (by omega)
  have pw : p.toList.Pairwise (Ahd fun i => cs.getD (12 - 1 - i) 0) := by
    rw [List.pairwise_iff_getElem]
    intro i j hi hj hij
    rw [gt_at hi, gt_at hj]
    exact S i j hij (by omega)
  have pd : (p.toList.map fun i => 12 - 1 - i).reverse.Pairwise (Due fun q => cs.getD q 0) := by
    rw [List.pairwise_reverse, List.pairwise_map]
    refine List.Pairwise.imp_of_mem (fun {a b} ha hb h => ?_) pw
    have h1 := bd a ha
    have h2 := bd b hb
    unfold Ahd at h
    unfold Due
    rcases h with h | ⟨h, h'⟩
    · exact .inl h
    · exact .inr ⟨h.symm, by omega⟩
  have bo : ∀ x ∈ (p.toList.map fun i => 12 - 1 - i).reverse, x < 12 := by
    intro x hx
    rw [List.mem_reverse, List.mem_map] at hx
    obtain ⟨y, _, e⟩ := hx
    omega
  refine sorted_eq (lt := Due fun q => cs.getD q 0) Due.irr Due.tr _ _ pd (due_sorted m) fun a => ?_
  rw [mem_due hb]
  refine ⟨bo a, fun ha => pig ?_ bo (by simp [hl, R.sz]) a ha⟩
  exact List.Pairwise.imp (fun {a b} h e => by subst e; exact Due.irr a h) pd
end Mine
end
section
open PySem PySem.W PyProof.Rows PySem.Calls PySem.W.X
set_option Elab.async false
set_option maxRecDepth 100000
set_option maxHeartbeats 400000
set_option linter.unusedVariables false
namespace Mine
theorem best_due {cs : List Int} {m i : Nat} (hb : ∀ q, q < 12 → 0 ≤ cs.getD q 0 ∧ cs.getD q 0 < m) (hi : i < 12) (B : Best (fun q => cs.getD q 0) i 12) : (dueP cs m)[0]? = some i := by
  have hm := (mem_due hb i).mpr hi
  have hs := due_sorted (cs := cs) m
  have hx := fun a => mem_due (cs := cs) (m := m) hb a
  generalize dueP cs m = l at hm hs hx
  match l, hm with
  | a :: l, hm =>
    show some a = some i
    rcases List.mem_cons.mp hm with e | h
    · rw [e]
    · have h1 := (List.pairwise_cons.mp hs).1 i h
      have ha := (hx a).mp (.head _)
      have h2 := B a ha
      unfold Due at h1
      have : a = i := by
        have h3 := h2.1
        have h4 := h2.2
        simp only at h1 h3 h4
        omega
      rw [this]
end Mine
end
section
open PySem PySem.W PyProof.Rows PySem.Calls PySem.W.X
set_option Elab.async false
set_option maxRecDepth 100000
set_option maxHeartbeats 400000
set_option linter.unusedVariables false
namespace Mine
noncomputable def bt (x : Int) (q : Nat) : Int := x / 2 ^ q % 2
theorem bt_nat (n q : Nat) : bt (n : Int) q = ((n.testBit q).toNat : Nat) := by
  unfold bt
  rw [Nat.toNat_testBit]
  norm_cast
theorem bt_and {x y : Int} (hx : 0 ≤ x) (hy : 0 ≤ y) (q : Nat) : bt (Builtin.bitAnd x y) q = bt x q * bt y q := by
  obtain ⟨a, rfl⟩ := Int.eq_ofNat_of_zero_le hx
  obtain ⟨b, rfl⟩ := Int.eq_ofNat_of_zero_le hy
  rw [bitAnd_pp hx hy, bt_nat, bt_nat, bt_nat, Nat.testBit_and]
  simp only [Int.toNat_natCast]
  cases a.testBit q <;> cases b.testBit q <;> rfl
theorem nat_xor (a : Nat) : ∀ b : Nat, (a ^^^ b) + 2 * (a &&& b) = a + b := by
  induction a using Nat.strongRecOn with
  | _ a ih =>
    intro b
    by_cases h0 : a = 0
    · subst h0; simp
    · have i := ih (a / 2) (by omega) (b / 2)
      rw [← Nat.xor_div_two, ← Nat.and_div_two] at i
      have e1 : (a ^^^ b) % 2 + 2 * ((a &&& b) % 2) = a % 2 + b % 2 := by
        have x1 := Nat.xor_mod_two_eq_one (a := a) (b := b)
        have x2 := Nat.and_mod_two_eq_one (a := a) (b := b)
        have y1 := Nat.mod_two_eq_zero_or_one (a ^^^ b)
        have y2 := Nat.mod_two_eq_zero_or_one (a &&& b)
        generalize (a ^^^ b) % 2 = u at *
        generalize (a &&& b) % 2 = v at *
        rcases Nat.mod_two_eq_zero_or_one a with p | p <;> rcases Nat.mod_two_eq_zero_or_one b with r | r <;> rw [p, r] at x1 x2 ⊢ <;> rcases y1 with rfl | rfl <;> rcases y2 with rfl | rfl <;> simp at x1 x2 ⊢
      have d1 := Nat.div_add_mod a 2
      have d2 := Nat.div_add_mod b 2
      have d3 := Nat.div_add_mod (a ^^^ b) 2
      have d4 := Nat.div_add_mod (a &&& b) 2
      rw [← d3, ← d4]
      conv => rhs; rw [← d1, ← d2]
      generalize (a ^^^ b) / 2 = x at *
      generalize (a &&& b) / 2 = y at *
      generalize (a ^^^ b) % 2 = x' at *
      generalize (a &&& b) % 2 = y' at *
      clear d1 d2 d3 d4 ih h0
      generalize a / 2 = a1 at *
      generalize b / 2 = b1 at *
      generalize a % 2 = a2 at *
      generalize b % 2 = b2 at *
      omega
theorem xor_nn {x y : Int} (hx : 0 ≤ x) (hy : 0 ≤ y) : Builtin.bitXor x y = ((x.toNat ^^^ y.toNat : Nat) : Int) := by
  rw [bitXor_and, bitAnd_pp hx hy]
  have := nat_xor x.toNat y.toNat
  omega
theorem bt_xor {x y : Int} (hx : 0 ≤ x) (hy : 0 ≤ y) (q : Nat) : bt (Builtin.bitXor x y) q = (bt x q + bt y q) % 2 := by
  obtain ⟨a, rfl⟩ := Int.eq_ofNat_of_zero_le hx
  obtain ⟨b, rfl⟩ := Int.eq_ofNat_of_zero_le hy
  rw [xor_nn hx hy, bt_nat, bt_nat, bt_nat, Nat.testBit_xor]
  simp only [Int.toNat_natCast]
  cases a.testBit q <;> cases b.testBit q <;> rfl
end Mine
end
section
open PySem PySem.W PyProof.Rows PySem.Calls PySem.W.X
set_option Elab.async false
set_option maxRecDepth 100000
set_option maxHeartbeats 400000
set_option linter.unusedVariables false
namespace Mine
noncomputable def col : List Int → Nat → Int
  | [], _ => 0
  | p :: ps, q => bt p q + 2 * col ps q
noncomputable def addC : List Int → Int → List Int
  | [], _ => []
  | p :: ps, c => Builtin.bitXor p c :: addC ps (Builtin.bitAnd p c)
theorem bt_bd (x : Int) (q : Nat) : bt x q = 0 ∨ bt x q = 1 := by unfold bt; omega
theorem and_nn {x y : Int} (hx : 0 ≤ x) (hy : 0 ≤ y) : 0 ≤ Builtin.bitAnd x y := by rw [bitAnd_pp hx hy]; omega
theorem xor_nn0 {x y : Int} (hx : 0 ≤ x) (hy : 0 ≤ y) : 0 ≤ Builtin.bitXor x y := by rw [xor_nn hx hy]; omega
theorem addC_nn : ∀ (ps : List Int) (c : Int), 0 ≤ c → (∀ p ∈ ps, 0 ≤ p) → ∀ p ∈ addC ps c, 0 ≤ p
  | [], _, _, _ => fun _ h => nomatch h
  | p :: ps, c, hc, h => by
    intro x hx
    rcases List.mem_cons.mp hx with e | m
    · rw [e]; exact xor_nn0 (h p (.head _)) hc
    · exact addC_nn ps _ (and_nn (h p (.head _)) hc) (fun y hy => h y (.tail _ hy)) x m
theorem col_bd : ∀ (ps : List Int) (q : Nat), 0 ≤ col ps q ∧ col ps q < 2 ^ ps.length
  | [], _ => by simp [col]
  | p :: ps, q => by
    have ih := col_bd ps q
    have b := bt_bd p q
    have e : (2 : Int) ^ (p :: ps).length = 2 * 2 ^ ps.length := by rw [List.length_cons, Int.pow_succ]; omega
    rw [e]
    show 0 ≤ bt p q + 2 * col ps q ∧ bt p q + 2 * col ps q < _
    generalize (2 : Int) ^ ps.length = w at *
    omega
theorem col_add : ∀ (ps : List Int) (c : Int) (q : Nat), 0 ≤ c → (∀ p ∈ ps, 0 ≤ p) → ∃ k : Int, col (addC ps c) q = col ps q + bt c q - k * 2 ^ ps.length
  | [], c, q, _, _ => ⟨bt c q, by simp [addC, col]⟩
  | p :: ps, c, q, hc, h => by
    have hp := h p (.head _)
    obtain ⟨k, ih⟩ := col_add ps (Builtin.bitAnd p c) q (and_nn hp hc) (fun y hy => h y (.tail _ hy))
    refine ⟨k, ?_⟩
    show bt (Builtin.bitXor p c) q + 2 * col (addC ps (Builtin.bitAnd p c)) q = bt p q + 2 * col ps q + bt c q - k * 2 ^ (ps.length + 1)
    rw [ih, bt_and hp hc, bt_xor hp hc, Int.pow_succ, ← Int.mul_assoc]
    generalize k * 2 ^ ps.length = w
    rcases bt_bd p q with e1 | e1 <;> rcases bt_bd c q with e2 | e2 <;> rw [e1, e2] <;> omega
end Mine
end
section
open PySem PySem.W PyProof.Rows PySem.Calls PySem.W.X
set_option Elab.async false
set_option maxRecDepth 100000
set_option maxHeartbeats 400000
set_option linter.unusedVariables false
namespace Mine
theorem row_split : ∀ (b a : List Int) (carry : Int), ((List.range' a.length b.length).foldl innP (a ++ b, carry)).1 = a ++ addC b carry
  | [], a, carry => by simp [addC]
  | p :: b, a, carry => by
    rw [List.length_cons, List.range'_succ, List.foldl_cons]
    have e : innP (a ++ p :: b, carry) a.length = ((a ++ [Builtin.bitXor p carry]) ++ b, Builtin.bitAnd p carry) := by
      unfold innP
      simp
    rw [e]
    have ih := row_split b (a ++ [Builtin.bitXor p carry]) (Builtin.bitAnd p carry)
    rw [List.length_append, List.length_singleton] at ih
    rw [ih, List.append_assoc]
    rfl
theorem row_eq {made : List Int} {low : Nat} {carry : Int} (h : low ≤ made.length) : (rowP made.length low made carry (made.length - low)).1 = made.take low ++ addC (made.drop low) carry := by
  have := row_split (made.drop low) (made.take low) carry
  rw [List.take_append_drop, List.length_drop, List.length_take, Nat.min_eq_left h] at this
  exact this
theorem col_append : ∀ (a b : List Int) (q : Nat), col (a ++ b) q = col a q + 2 ^ a.length * col b q
  | [], b, q => by simp [col]
  | p :: a, b, q => by
    show bt p q + 2 * col (a ++ b) q = bt p q + 2 * col a q + 2 ^ (a.length + 1) * col b q
    rw [col_append a b q, Int.pow_succ, Int.mul_add, ← Int.mul_assoc, Int.mul_comm 2 (2 ^ a.length), Int.add_assoc]
end Mine
end
section
open PySem PySem.W PyProof.Rows PySem.Calls PySem.W.X
set_option Elab.async false
set_option maxRecDepth 100000
set_option maxHeartbeats 400000
set_option linter.unusedVariables false
namespace Mine
theorem row_col {made : List Int} {low : Nat} {carry : Int} (h : low ≤ made.length) (hc : 0 ≤ carry) (hm : ∀ p ∈ made, 0 ≤ p) (q : Nat) : ∃ k : Int, col (rowP made.length low made carry (made.length - low)).1 q = col made q + 2 ^ low * bt carry q - k * 2 ^ made.length := by
  obtain ⟨k, e⟩ := col_add (made.drop low) carry q hc (fun p hp => hm p (List.mem_of_mem_drop hp))
  refine ⟨k, ?_⟩
  have e2 := col_append (made.take low) (made.drop low) q
  rw [List.take_append_drop] at e2
  rw [row_eq h, col_append, e, e2, List.length_take, Nat.min_eq_left h, List.length_drop]
  have e3 : (2 : Int) ^ made.length = 2 ^ low * 2 ^ (made.length - low) := by rw [← Int.pow_add]; congr 1; omega
  rw [e3, Int.mul_sub, Int.mul_add]
  have e4 : (2 : Int) ^ low * (k * 2 ^ (made.length - low)) = k * (2 ^ low * 2 ^ (made.length - low)) := by
    rw [← Int.mul_assoc, Int.mul_comm (2 ^ low) k, Int.mul_assoc]
  rw [e4]
  omega
theorem row_nn {made : List Int} {low : Nat} {carry : Int} (h : low ≤ made.length) (hc : 0 ≤ carry) (hm : ∀ p ∈ made, 0 ≤ p) : ∀ p ∈ (rowP made.length low made carry (made.length - low)).1, 0 ≤ p := by
  rw [row_eq h]
  intro p hp
  rcases List.mem_append.mp hp with m | m
  · exact hm p (List.mem_of_mem_take m)
  · exact addC_nn _ _ hc (fun y hy => hm y (List.mem_of_mem_drop hy)) p m
end Mine
end
section
open PySem PySem.W PyProof.Rows PySem.Calls PySem.W.X
set_option Elab.async false
set_option maxRecDepth 100000
set_option maxHeartbeats 400000
set_option linter.unusedVariables false
namespace Mine
theorem carP_nn (x : Int) (l : Nat) : 0 ≤ carP x l := by
  unfold carP
  split
  · exact Int.emod_nonneg _ (by decide)
  · exact Int.le_refl _
theorem bt_car (x : Int) (l q : Nat) : bt (carP x l) q = ((x % 17 - 8) / 2 ^ l % 2) * bt (x % 4294967296) q := by
  unfold carP
  have h : (x % 17 - 8) / 2 ^ l % 2 = 0 ∨ (x % 17 - 8) / 2 ^ l % 2 = 1 := by omega
  rcases h with h | h
  · rw [if_neg (by omega), h]; simp [bt]
  · rw [if_pos h, h]; simp
theorem mod_step (t : Int) (i : Nat) : t % 2 ^ (i + 1) = t % 2 ^ i + 2 ^ i * (t / 2 ^ i % 2) := by
  have h0 : (0 : Int) < 2 ^ i := Int.pow_pos (by decide)
  rw [Int.pow_succ, Int.emod_def, Int.emod_def t, Int.emod_def (t / 2 ^ i), ← Int.ediv_ediv_of_nonneg (Int.le_of_lt h0), Int.mul_sub, ← Int.mul_assoc]
  generalize 2 ^ i * (t / 2 ^ i) = a
  generalize 2 ^ i * 2 * (t / 2 ^ i / 2) = b
  omega
theorem out_col {x : Int} {made : List Int} (hm : ∀ p ∈ made, 0 ≤ p) (q : Nat) : ∀ i : Nat, i ≤ made.length → (∀ p ∈ outP x made.length made i, 0 ≤ p) ∧ ∃ k : Int, col (outP x made.length made i) q = col made q + ((x % 17 - 8) % 2 ^ i) * bt (x % 4294967296) q - k * 2 ^ made.length
  | 0, _ => ⟨hm, 0, by simp [outP]⟩
  | i + 1, h => by
    obtain ⟨n1, k1, e1⟩ := out_col hm q i (by omega)
    have hl := outP_len x made.length made i
    have n2 := row_nn (made := outP x made.length made i) (low := i) (carry := carP x i) (by omega) (carP_nn x i) n1
    obtain ⟨k2, e2⟩ := row_col (made := outP x made.length made i) (low := i) (carry := carP x i) (by omega) (carP_nn x i) n1 q
    rw [hl] at n2 e2
    refine ⟨by rw [outP_succ]; exact n2, k1 + k2, ?_⟩
    rw [outP_succ, e2, e1, bt_car, mod_step, Int.add_mul, Int.add_mul, Int.mul_assoc (2 ^ i)]
    omega
end Mine
end
section
open PySem PySem.W PyProof.Rows PySem.Calls PySem.W.X
set_option Elab.async false
set_option maxRecDepth 100000
set_option maxHeartbeats 400000
set_option linter.unusedVariables false
namespace Mine
noncomputable def dbl (x : Int) : Int := if x % 3 = 0 then 2 else 1
theorem st0_col {ps : List Int} (x : Int) (h1 : 1 ≤ ps.length) (hp : ∀ p ∈ ps, 0 ≤ p) (q : Nat) : (st0P ps x).length = ps.length ∧ (∀ p ∈ st0P ps x, 0 ≤ p) ∧ ∃ k : Int, col (st0P ps x) q = dbl x * col ps q - k * 2 ^ ps.length := by
  unfold st0P dbl
  by_cases c : x % 3 = 0
  · rw [if_pos c, if_pos c]
    have hne : ps ≠ [] := fun e => by rw [e] at h1; simp at h1
    refine ⟨by simp; omega, fun p m => ?_, bt (ps.getLast hne) q, ?_⟩
    · rcases List.mem_cons.mp m with e | m
      · rw [e]; exact Int.le_refl _
      · exact hp p ((List.dropLast_sublist ps).subset m)
    · have e := col_append ps.dropLast [ps.getLast hne] q
      rw [List.dropLast_concat_getLast hne] at e
      have e2 : (2 : Int) ^ ps.length = 2 * 2 ^ ps.dropLast.length := by
        rw [List.length_dropLast, show ps.length = (ps.length - 1) + 1 by omega, Int.pow_succ, Int.mul_comm]
        simp
      rw [e, e2]
      show bt 0 q + 2 * col ps.dropLast q = _
      have e3 : bt 0 q = 0 := by simp [bt]
      have e4 : col [ps.getLast hne] q = bt (ps.getLast hne) q := by simp [col]
      rw [e3, e4]
      generalize (2 : Int) ^ ps.dropLast.length = w
      generalize bt (ps.getLast hne) q = b
      rw [Int.mul_add, ← Int.mul_assoc, Int.mul_comm b (2 * w)]
      omega
  · rw [if_neg c, if_neg c]
    exact ⟨rfl, hp, 0, by simp⟩
end Mine
end
section
open PySem PySem.W PyProof.Rows PySem.Calls PySem.W.X
set_option Elab.async false
set_option maxRecDepth 100000
set_option maxHeartbeats 400000
set_option linter.unusedVariables false
namespace Mine
theorem step_col {ps : List Int} (x : Int) (h1 : 1 ≤ ps.length) (hp : ∀ p ∈ ps, 0 ≤ p) (q : Nat) : (stepP ps x).length = ps.length ∧ (∀ p ∈ stepP ps x, 0 ≤ p) ∧ ∃ k : Int, col (stepP ps x) q = dbl x * col ps q + (x % 17 - 8) * bt (x % 4294967296) q - k * 2 ^ ps.length := by
  obtain ⟨l0, n0, k0, e0⟩ := st0_col x h1 hp q
  unfold stepP
  generalize st0P ps x = m at *
  obtain ⟨n1, k1, e1⟩ := out_col (x := x) n0 q m.length (Nat.le_refl _)
  refine ⟨(outP_len _ _ _ _).trans l0, n1, k0 + k1 + ((x % 17 - 8) / 2 ^ ps.length) * bt (x % 4294967296) q, ?_⟩
  rw [e1, e0, l0]
  have e := Int.emod_add_mul_ediv (x % 17 - 8) (2 ^ ps.length)
  generalize x % 17 - 8 = t at *
  generalize (2 : Int) ^ ps.length = w at *
  generalize bt (x % 4294967296) q = b at *
  generalize dbl x * col ps q = d at *
  have e2 : t % w = t - w * (t / w) := by omega
  rw [e2, Int.sub_mul, Int.add_mul, Int.add_mul, Int.mul_comm w (t / w), Int.mul_assoc (t / w) w b, Int.mul_assoc (t / w) b w, Int.mul_comm w b]
  omega
end Mine
end
section
open PySem PySem.W PyProof.Rows PySem.Calls PySem.W.X
set_option Elab.async false
set_option maxRecDepth 100000
set_option maxHeartbeats 400000
set_option linter.unusedVariables false
namespace Mine
noncomputable def prodD : List Int → Int
  | [] => 1
  | x :: xs => dbl x * prodD xs
noncomputable def sumT (q : Nat) : List Int → Int
  | [] => 0
  | x :: xs => sumT q xs + bt x q * ((x % 17 - 8) * prodD xs)
theorem ctF_snoc (x : Int) (xs : List Int) : ctF (xs.reverse ++ [x]) = ctS (ctF xs.reverse) x := by
  unfold ctF
  rw [List.foldl_append]
  rfl
theorem ctF_val {q : Nat} (hq : q < 16) : ∀ xs : List Int, (ctF xs.reverse).1.getD q 0 = sumT q xs ∧ (ctF xs.reverse).2 = prodD xs
  | [] => by
    refine ⟨?_, rfl⟩
    show (List.replicate 16 (0 : Int)).getD q 0 = 0
    rw [List.getD_eq_getElem?_getD, List.getElem?_replicate, if_pos hq]
    rfl
  | x :: xs => by
    obtain ⟨e1, e2⟩ := ctF_val hq xs
    rw [List.reverse_cons, ctF_snoc]
    unfold ctS
    refine ⟨?_, ?_⟩
    · rw [List.getD_eq_getElem?_getD]
      simp only [List.getElem?_map, List.getElem?_range' hq, Option.map_some, Option.getD_some, Nat.zero_add, Nat.one_mul]
      rw [e1, e2]
      rfl
    · show (if x % 3 = 0 then 2 * (ctF xs.reverse).2 else (ctF xs.reverse).2) = dbl x * prodD xs
      rw [e2]
      unfold dbl
      by_cases c : x % 3 = 0
      · rw [if_pos c, if_pos c]
      · rw [if_neg c, if_neg c, Int.one_mul]
end Mine
end
section
open PySem PySem.W PyProof.Rows PySem.Calls PySem.W.X
set_option Elab.async false
set_option maxRecDepth 100000
set_option maxHeartbeats 400000
set_option linter.unusedVariables false
namespace Mine
theorem bt_mod (x : Int) {q : Nat} (hq : q < 16) : bt (x % 4294967296) q = bt x q := by
  have h := Int.emod_add_mul_ediv x 4294967296
  have e : (4294967296 : Int) = 2 ^ q * (2 * 2 ^ (31 - q)) := by
    have e1 : (4294967296 : Int) = 2 ^ (q + (1 + (31 - q))) := by
      rw [show q + (1 + (31 - q)) = 32 by omega]; rfl
    rw [e1, Int.pow_add, Int.pow_add]; rfl
  have h0 : (2 : Int) ^ q ≠ 0 := Int.ne_of_gt (Int.pow_pos (by decide))
  generalize x % 4294967296 = r at *
  generalize x / 4294967296 = k at *
  unfold bt
  rw [← h, e, Int.mul_assoc, Int.add_mul_ediv_left _ _ h0, Int.mul_assoc, Int.add_mul_emod_self_left]
theorem fold_col {q : Nat} (hq : q < 16) : ∀ (xs ps : List Int), 1 ≤ ps.length → (∀ p ∈ ps, 0 ≤ p) → (xs.foldl stepP ps).length = ps.length ∧ (∀ p ∈ xs.foldl stepP ps, 0 ≤ p) ∧ ∃ k : Int, col (xs.foldl stepP ps) q = prodD xs * col ps q + sumT q xs - k * 2 ^ ps.length
  | [], ps, _, hp => ⟨rfl, hp, 0, by simp [prodD, sumT]⟩
  | x :: xs, ps, h1, hp => by
    obtain ⟨l1, n1, k1, e1⟩ := step_col x h1 hp q
    obtain ⟨l2, n2, k2, e2⟩ := fold_col hq xs (stepP ps x) (by omega) n1
    refine ⟨l2.trans l1, n2, prodD xs * k1 + k2, ?_⟩
    rw [List.foldl_cons, e2, e1, l1, bt_mod x hq]
    show _ = dbl x * prodD xs * col ps q + (sumT q xs + bt x q * ((x % 17 - 8) * prodD xs)) - _
    generalize prodD xs = P
    generalize (2 : Int) ^ ps.length = w
    generalize bt x q = b
    generalize x % 17 - 8 = t
    generalize dbl x = d
    generalize col ps q = c
    generalize sumT q xs = s
    rw [Int.mul_sub, Int.mul_add, Int.add_mul, ← Int.mul_assoc P d c, Int.mul_comm P d, ← Int.mul_assoc P k1 w, ← Int.mul_assoc b t P, Int.mul_comm (b * t) P, Int.mul_comm b t]
    omega
end Mine
end
section
open PySem PySem.W PyProof.Rows PySem.Calls PySem.W.X
set_option Elab.async false
set_option maxRecDepth 100000
set_option maxHeartbeats 400000
set_option linter.unusedVariables false
namespace Mine
theorem col_zero (q : Nat) : ∀ n : Nat, col (List.replicate n 0) q = 0
  | 0 => rfl
  | n + 1 => by
    show bt 0 q + 2 * col (List.replicate n 0) q = 0
    rw [col_zero q n]
    simp [bt]
noncomputable def planesP (xs : List Int) (n : Nat) : List Int := xs.foldl stepP (List.replicate n 0)
theorem planes_col {q n : Nat} (hq : q < 16) (h1 : 1 ≤ n) (xs : List Int) : (planesP xs n).length = n ∧ (∀ p ∈ planesP xs n, 0 ≤ p) ∧ col (planesP xs n) q = sumT q xs % 2 ^ n := by
  obtain ⟨l, nn, k, e⟩ := fold_col hq xs (List.replicate n 0) (by simpa using h1) (fun p hp => by rw [(List.mem_replicate.mp hp).2]; exact Int.le_refl _)
  rw [List.length_replicate] at l e
  refine ⟨l, nn, ?_⟩
  have b := col_bd (planesP xs n) q
  rw [show (planesP xs n).length = n from l] at b
  rw [col_zero, Int.mul_zero, Int.zero_add] at e
  have e' : sumT q xs = col (planesP xs n) q + 2 ^ n * k := by
    rw [Int.mul_comm (2 ^ n) k]
    have : col (planesP xs n) q = sumT q xs - k * 2 ^ n := e
    omega
  rw [e', Int.add_mul_emod_self_left]
  exact (Int.emod_eq_of_lt b.1 b.2).symm
theorem counts_at {q n : Nat} (hq : q < 16) (xs : List Int) : (countsP xs n).getD q 0 = sumT q xs % 2 ^ n := by
  obtain ⟨e, _⟩ := ctF_val hq xs
  unfold countsP
  have hl := ctF_len xs.reverse
  rw [List.getD_eq_getElem?_getD] at e ⊢
  rw [List.getElem?_map]
  rw [List.getElem?_eq_getElem (by omega : q < (ctF xs.reverse).1.length)] at e ⊢
  simp only [Option.getD_some] at e
  simp only [Option.map_some, Option.getD_some, e]
end Mine
end
section
open PySem PySem.W PyProof.Rows PySem.Calls PySem.W.X
set_option Elab.async false
set_option maxRecDepth 100000
set_option maxHeartbeats 400000
set_option linter.unusedVariables false
namespace Mine
theorem and_pow (m j : Nat) : m &&& 2 ^ j = m / 2 ^ j % 2 * 2 ^ j := by
  have hd := Nat.testBit_eq_decide_div_mod_eq (x := m) (i := j)
  have h01 : m / 2 ^ j % 2 = 0 ∨ m / 2 ^ j % 2 = 1 := by omega
  rcases h01 with h | h
  · rw [h] at hd ⊢
    apply Nat.eq_of_testBit_eq; intro i
    rw [Nat.testBit_and, Nat.testBit_two_pow]
    by_cases e : j = i
    · subst e; simp [hd]
    · simp [e]
  · rw [h] at hd ⊢
    apply Nat.eq_of_testBit_eq; intro i
    rw [Nat.one_mul, Nat.testBit_and, Nat.testBit_two_pow]
    by_cases e : j = i
    · subst e; simp [hd]
    · simp [e]
theorem bAnd (m : Int) (k : Nat) (hm : 0 ≤ m) : Builtin.bitAnd m (k : Int) = ((m.toNat &&& k : Nat) : Int) := by
  rw [PyProof.Rows.bitAnd_pp hm (by omega)]
  simp
theorem btNat (m : Int) (j : Nat) (hm : 0 ≤ m) : m.toNat / 2 ^ j % 2 = (bt m j).toNat := by
  obtain ⟨n, rfl⟩ := Int.eq_ofNat_of_zero_le hm
  unfold bt
  have : ((n : Int) / 2 ^ j % 2) = ((n / 2 ^ j % 2 : Nat) : Int) := by norm_cast
  rw [this]
  rfl
theorem one_bit (m : Int) (j : Nat) (hm : 0 ≤ m) : (Builtin.bitAnd m ((2 ^ j : Nat) : Int) == ((2 ^ j : Nat) : Int)) = (bt m j == 1) := by
  rw [bAnd m _ hm, and_pow, btNat m j hm]
  have hp : 0 < 2 ^ j := Nat.pow_pos (by decide)
  generalize 2 ^ j = P at hp
  rcases bt_bd m j with h | h
  · rw [h]; simp; omega
  · rw [h]; simp
theorem two_bits (m : Int) (i j : Nat) (hm : 0 ≤ m) : Builtin.bitAnd m ((2 ^ i ||| 2 ^ j : Nat) : Int) = (((bt m i).toNat * 2 ^ i ||| (bt m j).toNat * 2 ^ j : Nat) : Int) := by
  rw [bAnd m _ hm, Nat.and_or_distrib_left, and_pow, and_pow, btNat m i hm, btNat m j hm]
theorem t2112 (m : Int) (hm : 0 ≤ m) : (Builtin.bitAnd m 2112 == 2112) = (bt m 11 == 1 && bt m 6 == 1) := by
  have := two_bits m 11 6 hm
  rw [show ((2 ^ 11 ||| 2 ^ 6 : Nat) : Int) = 2112 from rfl] at this
  rw [this]
  rcases bt_bd m 11 with h | h <;> rcases bt_bd m 6 with h' | h' <;> rw [h, h'] <;> rfl
theorem t1032 (m : Int) (hm : 0 ≤ m) : (Builtin.bitAnd m 1032 == 1032) = (bt m 10 == 1 && bt m 3 == 1) := by
  have := two_bits m 10 3 hm
  rw [show ((2 ^ 10 ||| 2 ^ 3 : Nat) : Int) = 1032 from rfl] at this
  rw [this]
  rcases bt_bd m 10 with h | h <;> rcases bt_bd m 3 with h' | h' <;> rw [h, h'] <;> rfl
theorem t513 (m : Int) (hm : 0 ≤ m) : (Builtin.bitAnd m 513 == 513) = (bt m 9 == 1 && bt m 0 == 1) := by
  have := two_bits m 9 0 hm
  rw [show ((2 ^ 9 ||| 2 ^ 0 : Nat) : Int) = 513 from rfl] at this
  rw [this]
  rcases bt_bd m 9 with h | h <;> rcases bt_bd m 0 with h' | h' <;> rw [h, h'] <;> rfl
theorem ifmt_eq (m : Int) (hm : 0 ≤ m) : Builtin.bitAnd m 61440 = 4096 * (bt m 12 + 2 * bt m 13 + 4 * bt m 14 + 8 * bt m 15) := by
  have e : (61440 : Int) = ((2 ^ 15 ||| (2 ^ 14 ||| (2 ^ 13 ||| 2 ^ 12)) : Nat) : Int) := by decide
  rw [e, bAnd m _ hm, Nat.and_or_distrib_left, Nat.and_or_distrib_left, Nat.and_or_distrib_left, and_pow, and_pow, and_pow, and_pow, btNat m 12 hm, btNat m 13 hm, btNat m 14 hm, btNat m 15 hm]
  rcases bt_bd m 12 with a | a <;> rcases bt_bd m 13 with b | b <;> rcases bt_bd m 14 with c | c <;> rcases bt_bd m 15 with d | d <;> rw [a, b, c, d] <;> rfl
end Mine
end
section
open PySem PySem.W PyProof.Rows PySem.Calls PySem.W.X
set_option Elab.async false
set_option maxRecDepth 100000
set_option maxHeartbeats 400000
set_option linter.unusedVariables false
namespace Mine
/-- the bits of a mode -/
noncomputable def btsP (m : Int) : List Int := (List.range 16).map fun q => bt m q
theorem p1 {m : Int} {i ch : Nat} (hi : i ≠ 0) (j : Nat) (hm : 0 ≤ m) (ht : fmTab i = [(((2 ^ j : Nat) : Int), ch)]) : fmC m i = [45, ch].getD (bt m j).toNat 0 := by
  unfold fmC
  rw [ht]
  have e : fmF m i ((2 ^ j : Nat) : Int) = (bt m j == 1) := by
    unfold fmF
    rw [if_neg hi]
    exact one_bit m j hm
  show (if fmF m i ((2 ^ j : Nat) : Int) = true then ch else fmD i) = _
  rw [e]
  have d : fmD i = 45 := by unfold fmD; rw [if_neg hi]
  rw [d]
  rcases bt_bd m j with h | h <;> rw [h] <;> rfl
theorem p3 {m b : Int} {i c1 c2 c3 : Nat} (hi : i ≠ 0) (j k : Nat) (hm : 0 ≤ m) (ht : fmTab i = [(b, c1), (((2 ^ k : Nat) : Int), c2), (((2 ^ j : Nat) : Int), c3)]) (hb : (Builtin.bitAnd m b == b) = (bt m k == 1 && bt m j == 1)) : fmC m i = [45, c3, c2, c1].getD (bt m j + 2 * bt m k).toNat 0 := by
  unfold fmC
  rw [ht]
  have e : ∀ j : Nat, fmF m i ((2 ^ j : Nat) : Int) = (bt m j == 1) := fun j => by
    unfold fmF
    rw [if_neg hi]
    exact one_bit m j hm
  have eb : fmF m i b = (bt m k == 1 && bt m j == 1) := by
    unfold fmF
    rw [if_neg hi]
    exact hb
  show (if fmF m i b = true then c1 else if fmF m i ((2 ^ k : Nat) : Int) = true then c2 else if fmF m i ((2 ^ j : Nat) : Int) = true then c3 else fmD i) = _
  rw [e, e, eb]
  have d : fmD i = 45 := by unfold fmD; rw [if_neg hi]
  rw [d]
  rcases bt_bd m j with h | h <;> rcases bt_bd m k with h' | h' <;> rw [h, h'] <;> rfl
theorem p0 {m : Int} (hm : 0 ≤ m) : fmC m 0 = kindS.getD (bt m 12 + 2 * bt m 13 + 4 * bt m 14 + 8 * bt m 15).toNat 0 := by
  have e : ∀ b, fmF m 0 b = (4096 * (bt m 12 + 2 * bt m 13 + 4 * bt m 14 + 8 * bt m 15) == b) := fun b => by
    unfold fmF
    rw [if_pos rfl, ifmt_eq m hm]
  have : fmF m 0 = fun b => (4096 * (bt m 12 + 2 * bt m 13 + 4 * bt m 14 + 8 * bt m 15) == b) := funext e
  unfold fmC
  rw [this]
  rcases bt_bd m 12 with a | a <;> rcases bt_bd m 13 with b | b <;> rcases bt_bd m 14 with c | c <;> rcases bt_bd m 15 with d | d <;> rw [a, b, c, d] <;> decide +kernel
theorem fmS_bits {m : Int} (hm : 0 ≤ m) : fmS m = ⟨(textI (btsP m) 3).toArray⟩ := by
  have e0 := p0 hm
  have e1 := p1 (i := 1) (ch := 114) (by decide) 8 hm rfl
  have e2 := p1 (i := 2) (ch := 119) (by decide) 7 hm rfl
  have e3 := p3 (i := 3) (c1 := 115) (c2 := 83) (c3 := 120) (by decide) 6 11 hm rfl (t2112 m hm)
  have e4 := p1 (i := 4) (ch := 114) (by decide) 5 hm rfl
  have e5 := p1 (i := 5) (ch := 119) (by decide) 4 hm rfl
  have e6 := p3 (i := 6) (c1 := 115) (c2 := 83) (c3 := 120) (by decide) 3 10 hm rfl (t1032 m hm)
  have e7 := p1 (i := 7) (ch := 114) (by decide) 2 hm rfl
  have e8 := p1 (i := 8) (ch := 119) (by decide) 1 hm rfl
  have e9 := p3 (i := 9) (c1 := 116) (c2 := 84) (c3 := 120) (by decide) 0 9 hm rfl (t513 m hm)
  have n4 : numP ((btsP m).drop 12) = bt m 12 + 2 * bt m 13 + 4 * bt m 14 + 8 * bt m 15 := numP4 _ _ _ _
  unfold fmS
  rw [e0, e1, e2, e3, e4, e5, e6, e7, e8, e9, ← n4]
  rfl
theorem ifmt_bits {m : Int} (hm : 0 ≤ m) : Builtin.bitAnd m 61440 = 4096 * numP ((btsP m).drop 12) := by
  rw [ifmt_eq m hm]
  exact congrArg _ (numP4 _ _ _ _).symm
end Mine
end
section
open PySem PySem.W PyProof.Rows PySem.Calls PySem.W.X
set_option Elab.async false
set_option maxRecDepth 100000
set_option maxHeartbeats 400000
set_option linter.unusedVariables false
namespace Mine
/-! hard objects: neither cells, names nor counters of a walk; they outlive stores and turns -/
noncomputable def Hard (o : Obj) : Prop := (∀ v, o.data ≠ .cell v) ∧ (∀ es n, o.data ≠ .dict es n) ∧ ∀ vs, o.data = .fields vs → ∃ s t, vs[1]? = some (.str s t)
noncomputable def Hk (h h' : Heap) : Prop := ∀ b o, b ∉ T3 → Hard o → h.get? b = some o → h'.get? b = some o
theorem Hk.trans {a b c : Heap} (x : Hk a b) (y : Hk b c) : Hk a c := fun _ _ n d e => y _ _ n d (x _ _ n d e)
theorem Keep.hk {h h' : Heap} (k : Keep h h') : Hk h h' := fun _ _ _ _ e => k _ _ e
theorem Kp.hk {h h' : Heap} (k : Kp h h') : Hk h h' := fun _ _ n _ e => k _ _ n e
theorem Soft.hk {h h' : Heap} {a : Addr} (s : Soft h a) (x : Heap.ExtBut a h h') : Hk h h' := fun b o _ d e => x b o (s.ne e d.1 d.2.1 d.2.2) e
theorem Soft.hkS {h h' : Heap} {a : Addr} (s : Soft h a) (x : Heap.SameBut a h h') : Hk h h' := s.hk x.extBut
/-- a list that is no code table -/
noncomputable def LsA (h : Heap) (a : Addr) (vs : List Value) : Prop := a ∉ T3 ∧ h.IsList a vs.toArray
theorem hard_seq {o : Obj} {xs : Array Value} {n : Nat} (hd : o.data = .seq xs n) : Hard o := ⟨fun v q => (by rw [hd] at q; cases q), fun es m q => (by rw [hd] at q; cases q), fun vs q => (by rw [hd] at q; cases q)⟩
theorem list_hk {h h' : Heap} {a : Addr} {its : Array Value} (n : a ∉ T3) (x : h.IsList a its) (k : Hk h h') : h'.IsList a its := let ⟨o, e, hc, m, hd⟩ := x; ⟨o, k a o n (hard_seq hd) e, hc, m, hd⟩
theorem LsA.hk {h h' : Heap} {a : Addr} {vs : List Value} (x : LsA h a vs) (k : Hk h h') : LsA h' a vs := ⟨x.1, list_hk x.1 x.2 k⟩
theorem CodeR.hk {h h' : Heap} {c' : Addr} {q : Str} (x : CodeR h c' q) (k : Hk h h') : CodeR h' c' q := by
  refine ⟨x.above, ?_⟩
  obtain ⟨c₂, oc, vs, tq, hc, hoc, hdc, hq⟩ := x.code
  cases hc
  exact ⟨c', oc, vs, tq, rfl, k _ _ (not_T3 (Nat.lt_trans (by decide) x.above)) ⟨fun v q => (by rw [hdc] at q; cases q), fun es m q => (by rw [hdc] at q; cases q), fun vs' q => (by rw [hdc] at q; cases q; exact ⟨_, _, hq⟩)⟩ hoc, hdc, hq⟩
theorem notT {h : Heap} {D : Addr} {ta tb : Array Value} (e1 : h.get? 110 = some (tabObj ta)) (e2 : h.get? 63 = some (tabObj tb)) (hD : h.get? D = none) : D ∉ T3 := fun q => by
  rcases in_T3 q with rfl | rfl
  · rw [e2] at hD; cases hD
  · rw [e1] at hD; cases hD
noncomputable def ShownA (h : Heap) (SL : Addr) (B : Nat → List Bool) : Prop := ∃ rs : List Value, LsA h SL rs ∧ rs.length = 12 ∧ ∀ i, i < 12 → ∃ a, rs[i]? = some (.ref a) ∧ LsA h a ((B i).map Value.bool)
theorem ShownA.hk {h h' : Heap} {SL : Addr} {B : Nat → List Bool} (x : ShownA h SL B) (k : Hk h h') : ShownA h' SL B := let ⟨rs, a, b, r⟩ := x; ⟨rs, a.hk k, b, fun i hi => let ⟨a, e, l⟩ := r i hi; ⟨a, e, l.hk k⟩⟩
theorem ShownA.to {h : Heap} {SL : Addr} {B : Nat → List Bool} {m : Nat} (x : ShownA h SL B) (hm : ∀ i, i < 12 → (B i).length = m) : Shown h SL B m := let ⟨rs, a, b, r⟩ := x; ⟨⟨rs, a.2, b, fun i hi => let ⟨a, e, l⟩ := r i hi; ⟨a, e, l.2⟩⟩, hm⟩
section
variable {c : Cx} {A : Around} {h h₀ : Heap} {L : Addr} {m : Str → Option Value} {news : List (Addr × Obj)} {env : Env} {pos p : Pos} {j : Nat} {Q : Value → Heap → Prop}
theorem q_Or {e₁ e₂ : Expr} (H : wq c A (eval e₁ env) (fun v h₁ => wq c A (truthy v) (fun z h₂ => if z = true then Q v h₂ else wq c A (eval e₂ env) Q h₂) h₁) h) : wq c A (eval (.BoolOp .Or [e₁, e₂] pos) env) Q h :=
  wq.of fun _ _ k => BoolOp_or (H.go fun _ _ _ H₁ => H₁.go fun z _ _ H₂ => by cases z <;> first | exact H₂.go k | exact k _ _ _ H₂)
theorem q_And {e₁ e₂ : Expr} (H : wq c A (eval e₁ env) (fun v h₁ => wq c A (truthy v) (fun z h₂ => if z = true then wq c A (eval e₂ env) Q h₂ else Q v h₂) h₁) h) : wq c A (eval (.BoolOp .And [e₁, e₂] pos) env) Q h :=
  wq.of fun _ _ k => BoolOp_and (H.go fun _ _ _ H₁ => H₁.go fun z _ _ H₂ => by cases z <;> first | exact H₂.go k | exact k _ _ _ H₂)
theorem t_Or {e₁ e₂ : Expr} {whole : Sem Value} {Q : Bool → Heap → Prop} (H : wq c A (isTrue e₁ env (eval e₁ env)) (fun z h₁ => if z = true then Q true h₁ else wq c A (isTrue e₂ env (eval e₂ env)) Q h₁) h) : wq c A (isTrue (.BoolOp .Or [e₁, e₂] pos) env whole) Q h :=
  wq.of fun _ _ k => isTrue_or (H.go fun z _ _ H₁ => by
    cases z
    · exact isTrue_or (whole := whole) (pos := pos) (H₁.go fun z _ _ H₂ => by
        cases z
        · exact isTrue_or_nil (k _ _ _ H₂)
        · exact k _ _ _ H₂)
    · exact k _ _ _ H₁)
noncomputable def wqK (c : Cx) (A : Around) (pos : Pos) (kws : List Keyword) (env : Env) (Q : List Value → Heap → Prop) (h : Heap) : Prop := wq c A (evalAll ((backToKw pos (keywordEach kws env)).map (·.2))) Q h
theorem k_nil {Q : List Value → Heap → Prop} (q : Q [] h) : wqK c A pos [] env Q h := wq.of fun _ _ k => kws_nil (k _ _ _ q)
theorem k_cons {name : Str} {value : Expr} {kp : Pos} {rest : List Keyword} {Q : List Value → Heap → Prop} (H : wq c A (eval value env) (fun v h₁ => wqK c A pos rest env (fun vs h₂ => Q (v :: vs) h₂) h₁) h) : wqK c A pos (⟨some name, value, kp⟩ :: rest) env Q h :=
  wq.of fun _ _ k => kws_cons (H.go fun _ _ _ H₁ => wq.go H₁ fun _ _ _ q => k _ _ _ q)
theorem q_CallKw {f : Str} {id : String} {e : Expr} {rest : List Expr} {kw : Keyword} {kws : List Keyword}
    (H : wq c A (eval (.Name f p) env) (fun fv h₁ => fv = .builtin id ∧ wq c A (spliced (backTo pos (starEach (e :: rest) env))) (fun vs h₂ => wqK c A pos (kw :: kws) env (fun kvs h₃ => wq c A (call (.builtin id) vs (((backToKw pos (keywordEach (kw :: kws) env)).filterMap (·.1)).zip kvs)) Q h₃) h₂) h₁) h)
    (he : backTo pos (starEach (e :: rest) env) = (false, eval e env) :: backTo pos (starEach rest env) := by exact rfl)
    (hplain : (backTo pos (starEach (e :: rest) env)).any (·.1) = false := by exact rfl)
    (hall : (backToKw pos (keywordEach (kw :: kws) env)).all (·.1.isSome) = true := by exact rfl)
    (hkw : (backToKw pos (keywordEach (kw :: kws) env)).any (·.1.isNone) = false := by exact rfl) :
    wq c A (eval (.Call (.Name f p) (e :: rest) (kw :: kws) pos) env) Q h :=
  wq.of fun _ _ k => wpAny_Call_Name_kw (H.go fun fv h₁ tk₁ H₁ => by
    obtain ⟨rfl, H₁⟩ := H₁
    exact callWith_kw (H₁.go fun _ _ _ H₂ => wq.go H₂ fun _ _ _ H₃ => H₃.go k) he hplain hall hkw)
theorem q_eqInts {a b : Addr} {vs ws : List Value} {xs : List Int} (ha : h.IsList a vs.toArray) (hb : h.IsList b ws.toArray) (h1 : IntsL vs xs) (h2 : IntsL ws xs) (hu : A.units < cLine) (q : Q (.bool true) h) : wq c A (compareOp .Eq (.ref a) (.ref b)) Q h := wq.of fun tk Q' k => by
  refine SeqAt.eq_listAt (e := fun _ => true) ha hb (by simp [ints_len h1, ints_len h2]) hu (fun j g1 g2 => ?_) (k _ _ _ ?_)
  · have g1' : j < vs.length := by simpa using g1
    have g2' : j < ws.length := by simpa using g2
    obtain ⟨x, t, e1, e2⟩ := ints_get h1 (i := j) (v := vs[j]) (by simp [g1'])
    obtain ⟨y, u, e3, e4⟩ := ints_get h2 (i := j) (v := ws[j]) (by simp [g2'])
    rw [e1] at e3
    cases e3
    simp only [List.getElem_toArray]
    rw [e2, e4]
    have : SeqAt.EqAt A.in1 (c.st h tk) (.int x t) (.int x u) (x == x) := SeqAt.EqAt.int_int x t x u
    rw [beq_self_eq_true] at this
    exact this
  · have : (List.range vs.toArray.size).all (fun _ => true) = true := by rw [List.all_eq_true]; intro _ _; rfl
    rw [this]; exact q
theorem m_extend {D' : Addr} {its : Array Value} {n : Nat} {pl : Sem Bool} {Q : Value × List Value → Heap → Prop} (D : Led h₀ L m h news) (hi : news[j]? = some (D', listOf its n)) (q : Q (.builtin "list.extend", [.ref D']) h) : wq c A (getMethod (.ref D') "extend" pl) Q h :=
  wq.of fun _ _ k => kl_method D.nw (List.mem_of_getElem? hi) PySem.F.slot_list_extend PySem.F.type_list_extend (k _ _ _ q)
theorem c_extend {D' b : Addr} {vs ws : List Value} {n n2 : Nat} (D : Led h₀ L m h news) (hi : news[j]? = some (D', listOf vs.toArray n)) (hb : h.get? b = some (listOf ws.toArray n2)) (hz : vs.length + ws.length ≤ sizeLine)
    (q : ∀ n' h', Led h₀ L m h' (news.set j (D', listOf (vs ++ ws).toArray n')) → (∀ b, b ≠ D' → h'.get? b = h.get? b) → Q .none h') : wq c A (call (.builtin "list.extend") [.ref D', .ref b]) Q h := wq.of fun tk Q' k => by
  have hm := D.at j hi
  have hsz' : vs.toArray.size + ws.toArray.size ≤ sizeLine := by simpa using hz
  refine call_meets PySem.F.slot_list_extend ⟨_, hm, rfl⟩ PySem.F.entry_list_extend (PySem.F.args_list_extend_2 _ _) (AutoSeq1.list_extend_list_list_0 D' vs.toArray n b ws.toArray n2 (extend_door hsz') (Nat.le_trans (Nat.le_add_right _ _) hsz')) ⟨hm, hb, ?_⟩
  have e : vs.toArray ++ ws.toArray = (vs ++ ws).toArray := by simp
  have ho' : (h.update D' (Obj.mapSeq fun x => x ++ ws.toArray)).get? D' = some (listOf (vs ++ ws).toArray (if (vs.toArray ++ ws.toArray).size == vs.toArray.size then n else n + 1)) := by
    rw [Heap.get?_update_self _ hm (by rw [mapSeq_app]; rfl), mapSeq_app, e]
  have sb : Heap.SameBut D' h (h.update D' (Obj.mapSeq fun x => x ++ ws.toArray)) := Heap.SameBut.update ..
  exact k _ _ _ (q _ _ (led_put D hi sb ho') sb.2)
end
end Mine
end
section
open PySem PySem.W PyProof.Rows PySem.Calls PySem.W.X
set_option Elab.async false
set_option maxRecDepth 100000
set_option maxHeartbeats 400000
set_option linter.unusedVariables false
namespace Mine
section loops
variable {c : Cx} {A : Around} {h₀ : Heap} {L : Addr} {env : Env} {pos : Pos}
theorem soft_rI {h : Heap} {I : Addr} {b m e : Int} (hI : h.get? I = some (rI b m e)) : Soft h I := ⟨_, hI, .inr (.inr ⟨_, rfl, fun s t q => by cases q⟩)⟩
/-- «for x in range(..)»; the invariant speaks of the heap too -/
theorem for_rangeK {x : Str} {p : Pos} {n : Nat} {a e : Int} {body orelse : List Stmt} {Q : Flow → Heap → Prop} (hh : A.handled = none) (Inv : Nat → List (Str × Value) → List (Addr × Obj) → Heap → Prop)
    (soft : ∀ i l news h h', Inv i l news h → Hk h h' → Inv i l news h')
    (turn : ∀ (i : Nat) t I o l news h, i < n → Inv i l news h → Led h₀ L (lk l) h ((I, o) :: news) →
      wq c A (storeName env x (.int (a + i * e) t)) (fun _ h₂ => wq c A (execs body env) (fun f h₃ => match f with
        | .next => ∃ l' news', Led h₀ L (lk l') h₃ ((I, o) :: news') ∧ Inv (i + 1) l' news' h₃
        | .cont => ∃ l' news', Led h₀ L (lk l') h₃ ((I, o) :: news') ∧ Inv (i + 1) l' news' h₃
        | .brk => Q .next h₃
        | .ret v => Q (.ret v) h₃) h₂) h)
    (done : ∀ l news h, Inv n l news h → Led h₀ L (lk l) h news → wq c A (execs orelse env) Q h) :
    ∀ (k i : Nat) (b m : Int) (I : Addr) (l : List (Str × Value)) (news : List (Addr × Obj)) (h : Heap), k = n - i → i ≤ n → b = a + i * e → m = (n - i : Nat) → Inv i l news h → Led h₀ L (lk l) h ((I, rI b m e) :: news) → wqL c A (.Name x p) (.ref I) body orelse env Q h := by
  intro k
  induction k with
  | zero =>
    intro i b m I l news h hk hi hb hm hV D
    have : i = n := n_zero hk hi
    subst this
    have hIo := D.at 0 (a := I) (o := rI b m e) rfl
    refine l_turn (wq.of fun tk Q' kk => wpAny_pyNext_range_end hh hIo (n_none hm) fun h' hs => kk _ _ _ (done l news h' (soft _ _ _ _ _ hV ((soft_rI hIo).hk hs)) (led_lose D (i := 0) rfl hs)))
  | succ k ih =>
    intro i b m I l news h hk hi hb hm hV D
    subst hb
    have hIo := D.at 0 (a := I) (o := rI (a + i * e) m e) rfl
    have e1 : a + (i : Int) * e + e = a + ((i + 1 : Nat) : Int) * e := by
      rw [Int.natCast_add, Int.add_mul, Int.natCast_one, Int.one_mul, Int.add_assoc]
    have e2 : m - 1 = ((n - (i + 1) : Nat) : Int) := n_less hk hm
    refine l_turn (wq.of fun tk Q' kk => wpAny_pyNext_range_item hIo (n_pos hk hm) fun h' hit hs => kk _ _ _ ?_)
    rw [e1, e2] at hit
    have D' : Led h₀ L (lk l) h' ((I, rI (a + ((i + 1 : Nat) : Int) * e) ((n - (i + 1) : Nat) : Int) e) :: news) := led_put (i := 0) D rfl hs hit
    refine g_own (g_Name ?_)
    refine wq.mono (turn i _ I _ l news h' (n_lt hk) (soft _ _ _ _ _ hV ((soft_rI hIo).hkS hs)) D') fun _ h₂ H₂ => wq.mono H₂ fun f h₃ H₃ => ?_
    cases f with
    | next => obtain ⟨l', news', D₃, hV'⟩ := H₃; exact ih (i + 1) _ _ I l' news' h₃ (n_next hk) (n_lt hk) rfl rfl hV' D₃
    | cont => obtain ⟨l', news', D₃, hV'⟩ := H₃; exact ih (i + 1) _ _ I l' news' h₃ (n_next hk) (n_lt hk) rfl rfl hV' D₃
    | brk => exact H₃
    | ret v => exact H₃
end loops
section
variable {c : Cx} {A : Around} {h h₀ : Heap} {L : Addr} {m : Str → Option Value} {news : List (Addr × Obj)} {env : Env} {pos : Pos} {j : Nat}
theorem Walks.weaker {prog : Program} {w : World} {A : Around} {I : Addr} {fp wr : List Addr} {n : Nat} {P P' : Nat → Value → Prop} {St : Nat → Heap → Prop} (W : Walks prog w A I fp wr n P St) (h : ∀ i v, P i v → P' i v) : Walks prog w A I fp wr n P' St where
  sub := W.sub
  frame := W.frame
  item := fun i s Q E hi st hQ => W.item i s Q E hi st fun v h' tk hP => hQ v h' tk (h i v hP)
  done := W.done
  self := W.self
theorem Src.mono {xv : Value} {n : Nat} {P P' : Nat → Value → Prop} (S : Src c A h xv n P) (hp : ∀ i v, P i v → P' i v) : Src c A h xv n P' := fun Q q => S Q fun I fp wr St h₂ W => q I fp wr St h₂ (Walks.weaker W hp)
/-- a comprehension; its list is a plain one -/
theorem q_compP {elt iter : Expr} {ifs : List Expr} {x : Str} {px : Pos} {scope : Scope} {cl : List (Str × Addr)} {Q : Value → Heap → Prop} {n : Nat} {P : Nat → Value → Prop} (p : Value → Bool) (F : Value → Value → Prop)
    (hclos : closureFor scope env = pure cl) (hcell : ∀ y ∈ scope.names, y.2 ≠ .cell) (hkind : scope.kind = .function) (hnames : ∀ y ∈ scope.names, y.2 = .local → scope.names.lookup y.1 = some .local) (hx : scope.names.lookup x = some .local) (hs : ∀ x, foldedSetIterable iter env x = pure x) (hz : n ≤ sizeLine)
    (H : wq c A (eval iter env) (fun xv h₁ => Src c A h₁ xv n P ∧ TestsOk c A h₁ x P p ifs (fun C => compEnvC scope cl C env) ∧ EltOk c A h₁ x P p F elt (fun C => compEnvC scope cl C env) ∧
      (∀ D ys (vs : List Value) n' h', Keep h₁ h' → h₁.get? D = none → h'.get? D = some (listOf (List.toArray ys) n') → vs.length = n → (∀ (j : Nat) v, vs[j]? = some v → P j v) → Paired F (vs.filter p) ys → Q (.ref D) h')) h) :
    wq c A (eval (.ListComp elt [⟨.Name x px, iter, ifs, 0⟩] scope pos) env) Q h := wq.of fun tk Q' k => by
  refine wpAny_ListComp_free p F hclos hcell hkind hnames hx (H.go fun xv h₁ tk₁ H₁ => ?_) hs
  have S := H₁.1
  have T := H₁.2.1
  have E := H₁.2.2.1
  have q := H₁.2.2.2
  clear H₁
  refine S.go fun I fp wr St h₂ tk₂ W st hfp hk hwr => ?_
  refine ⟨I, fp, wr, n, P, St, rfl, W, hz, st, hfp, quiet_of hk rfl hwr T E, ?_⟩
  intro D h' tk ys vs hD hl hpl hlen hP hF hk'
  obtain ⟨n', hpl⟩ := hpl
  have keep : Keep h₁ h' := fun b o e => hk' b o (fun q => by rw [hwr b q] at e; cases e) (hk b o e)
  refine k _ _ _ (q D ys.toList vs n' h' keep ?_ (by rw [Array.toArray_toList]; exact hpl) hlen hP hF)
  cases e : h₁.get? D with
  | none => rfl
  | some o => rw [show h₂.get? D = some o from hk _ _ e] at hD; cases hD
end
theorem wpAny_newEnvCell {M : Model} {A : Around} {E : Value → Shared → Prop} {s : Shared} {scope : Scope} {x d0 fr : Str} {g : Addr} {cl : List (Str × Addr)} {q : Str} {env : Env} {Q : Env → Shared → Prop} (hsc : scope.names = [(d0, .local), (x, .cell), (fr, .free)])
    (hQ : Q { scope := scope, locals := s.heap.objs.size, globals := g, cells := (x, (s.heap.push { cls := .type "dict", data := .dict #[] }).objs.size) :: cl, qual := q, func := none, code := env.code, frame := env.frame, builtins := env.builtins } { s with heap := (s.heap.push { cls := .type "dict", data := .dict #[] }).push { cls := .type "cell", data := .cell none } }) :
    wpAny M A (newFunctionEnv scope g cl [] q none .none (some env)) Q E s := by
  simp only [newFunctionEnv, Option.isSome_some, if_true]
  refine wpAny_bind (wpAny_alloc ?_)
  rw [hsc]
  simp only [List.forIn_cons, List.forIn_nil]
  refine wpAny_bind (wpAny_bind (wpAny_pure ?_))
  refine wpAny_bind (wpAny_bind (wpAny_alloc (wpAny_pure ?_)))
  refine wpAny_bind (wpAny_pure ?_)
  refine wpAny_pure ?_
  exact wpAny_bind (wpAny_pure (wpAny_pure hQ))
end Mine
end
section
open PySem PySem.W PyProof.Rows PySem.Calls PySem.W.X
set_option Elab.async false
set_option maxRecDepth 100000
set_option maxHeartbeats 400000
set_option linter.unusedVariables false
namespace Mine
theorem none_keep {h h' : Heap} {a : Addr} (k : Keep h h') (e : h'.get? a = none) : h.get? a = none := by
  cases q : h.get? a with
  | none => rfl
  | some o => rw [k _ _ q] at e; cases e
/-- the invariant of the loop -/
noncomputable abbrev CcI (c : Cx) (h₁ : Heap) (I : Nat) (n : Nat) (rows : Nat → List Value) (k : Nat) (s' : Shared) : Prop := ∃ h' tk i ys v0, s' = c.st h' tk ∧ i ≤ n ∧ k = n + 1 - i ∧ Keep h₁ h' ∧ IsRangeIter h' I (0 + ((i : Nat) : Int) * 1) ((n : Int) - ((i : Nat) : Int)) 1 ∧ h'.PlainList (I + 1) (List.toArray ys) ∧ h'.Ns (I + 2) (fun _ => none) ∧ h'.IsCell (I + 3) v0 ∧ List.length ys = i ∧ ∀ j, j < i → ∃ a, ys[j]? = some (.ref a) ∧ a ≠ I + 1 ∧ h₁.get? a = none ∧ h'.IsList a (rows j).toArray
theorem cc_loop {c : Cx} {A : Around} {h₁ H4 : Heap} {I : Nat} {elt iter : Expr} {x : Str} {px pos : Pos} {scope : Scope} {envC : Env} {n : Nat} {rows : Nat → List Value} {R : Result → Shared → Prop} (hkind : envC.scope.kind = .function) (hxk : envC.kindOf x = some .cell) (hlk : envC.cells.lookup x = some (I + 3)) (hz : n ≤ sizeLine)
    (W : Walks c.prog c.w A I [I] [I] n (fun i v => ∃ t, v = .int ((0 : Int) + i * 1) t) (fun i h => IsRangeIter h I ((0 : Int) + i * 1) ((n : Int) - i) 1)) (fr1 : ∀ a : Nat, I ≤ a → h₁.get? a = none)
    (helt : ∀ (i : Nat) t h₂, i < n → Keep h₁ h₂ → h₂.IsCell (I + 3) (some (.int i t)) → wq c A (eval elt envC) (fun y h₃ => ∃ a, y = .ref a ∧ h₂.get? a = none ∧ h₃.IsList a (rows i).toArray ∧ Keep h₂ h₃) h₂)
    (kA : Keep h₁ H4) (gI : IsRangeIter H4 I (0 + ((0 : Nat) : Int) * 1) ((n : Int) - ((0 : Nat) : Int)) 1) (gD : H4.PlainList (I + 1) #[]) (gC : H4.Ns (I + 2) (fun _ => none)) (gK : H4.IsCell (I + 3) none)
    (fin : ∀ (ys : List Value) h'' tk, Keep h₁ h'' → h''.Ns (I + 2) (fun _ => none) → h''.PlainList (I + 1) ys.toArray → ys.length = n → (∀ i, i < n → ∃ a, ys[i]? = some (.ref a) ∧ h₁.get? a = none ∧ h''.IsList a (rows i).toArray) → R (.ok .next) (c.st h'' tk)) :
    ∀ tkk, codeAny c.M A (.compLoop (.ListComp elt [⟨.Name x px, iter, [], 0⟩] scope pos) 0 (.ref I) (.ref (I + 1)) envC) R (c.st H4 tkk) := by
  have d10 : I + 1 ≠ I := Nat.succ_ne_self I
  have d13 : I + 1 ≠ I + 3 := Nat.ne_of_lt (Nat.add_lt_add_left (by decide : 1 < 3) I)
  have d03 : I ≠ I + 3 := Nat.ne_of_lt (Nat.lt_add_of_pos_right (by decide))
  have d01 : I ≠ I + 1 := Nat.ne_of_lt (Nat.lt_succ_self _)
  have d21 : I + 2 ≠ I + 1 := Nat.ne_of_gt (Nat.lt_succ_self _)
  have d23 : I + 2 ≠ I + 3 := Nat.ne_of_lt (Nat.lt_succ_self _)
  have d20 : I + 2 ≠ I := Nat.ne_of_gt (Nat.lt_add_of_pos_right (by decide))
  have d31 : I + 3 ≠ I + 1 := d13.symm
  have d12 : I + 1 ≠ I + 2 := d21.symm
  have d30 : I + 3 ≠ I := d03.symm
  intro tkk
  refine codeAny_compLoop_tests
    (CcI c h₁ I n rows) ?_ (n + 1)
    ⟨H4, tkk, 0, [], none, rfl, Nat.zero_le _, rfl, kA, gI, gD, gC, gK, rfl, fun j hj => absurd hj (Nat.not_lt_zero _)⟩
  rintro kk s' ⟨h', tk', i, ys, v0, rfl, hi, rfl, kp, it, pd, ns, kc, hl, hrows⟩
  have listI : ∀ {h' h'' : Heap} {a : Addr} {its : Array Value}, IsRangeIter h' I (0 + ((i : Nat) : Int) * 1) ((n : Int) - ((i : Nat) : Int)) 1 → (∀ b o, b ≠ I → h'.get? b = some o → h''.get? b = some o) → h'.IsList a its → h''.IsList a its := by
    rintro h' h'' a its it nI ⟨o, e, hc, m, hd⟩
    exact ⟨o, nI a o (ne_of_data it e (by rw [hd]; exact fun q => by cases q)) e, hc, m, hd⟩
  by_cases hlt : i < n
  · refine W.item i _ _ _ hlt it fun v h'' tk'' hP st' hk' => ?_
    obtain ⟨tv, rfl⟩ := hP
    have ev : (0 : Int) + (i : Int) * 1 = (i : Int) := by omega
    rw [ev]
    have nI : ∀ b o, b ≠ I → h'.get? b = some o → h''.get? b = some o := fun b o hb e => hk' b o (by simpa using hb) e
    have kc2 : h''.IsCell (I + 3) v0 := by obtain ⟨o, e, d⟩ := kc; exact ⟨o, nI _ _ d30 e, d⟩
    refine wpAny_assign_Name (wpAny_storeName_cell (c := I + 3) hkind hxk hlk kc2 fun h3 hc3 hs3 => ?_)
    refine wpAny_tests_nil ?_
    rw [if_pos rfl]
    have kp3 : Keep h₁ h3 := fun b o e => hs3.extBut b o (fun q => by rw [q, fr1 _ (by omega)] at e; cases e) (nI b o (fun q => by rw [q, fr1 _ (Nat.le_refl _)] at e; cases e) (kp b o e))
    have pd3 : h3.PlainList (I + 1) ys.toArray := pd.at fun o e => hs3.extBut _ o d13 (nI _ o d10 e)
    refine (helt i tv h3 hlt kp3 hc3).go fun y h4 tk4 H4' => ?_
    obtain ⟨a, rfl, ha, hla, k4⟩ := H4'
    have pd4 : h4.PlainList (I + 1) ys.toArray := pd3.at fun o e => k4 _ o e
    have aD : a ≠ I + 1 := fun q => by obtain ⟨n', e⟩ := pd3; rw [q, e] at ha; cases ha
    refine wpAny_list_append_plain (hsz := by simp; omega) pd4 fun h5 hl5 hs5 => ?_
    have up : ∀ b o, b ≠ I + 1 → h3.get? b = some o → h5.get? b = some o := fun b o hb e => hs5.extBut b o hb (k4 b o e)
    refine ⟨n + 1 - (i + 1), by omega, h5, tk4, i + 1, ys ++ [.ref a], some (.int i tv), rfl, hlt, rfl, ?_, ?_, ?_, ?_, ?_, by simp [hl], ?_⟩
    · exact fun b o e => up b o (fun q => by rw [q, fr1 _ (by omega)] at e; cases e) (kp3 b o e)
    · exact up _ _ d01 (hs3.extBut _ _ d03 st')
    · have : (ys ++ [Value.ref a]).toArray = ys.toArray.push (.ref a) := by simp
      rw [this]; exact hl5
    · exact ns.at' fun o e => up _ o d21 (hs3.extBut _ o d23 (nI _ o d20 e))
    · obtain ⟨o, e, d⟩ := hc3
      exact ⟨o, up _ _ d31 e, d⟩
    · intro j hj
      rcases Nat.lt_succ_iff_lt_or_eq.mp hj with hj | rfl
      · obtain ⟨b, eb, bD, bn, lb⟩ := hrows j hj
        refine ⟨b, by rw [List.getElem?_append_left (by omega)]; exact eb, bD, bn, ?_⟩
        obtain ⟨o, e, hc, m, hd⟩ := listI it nI lb
        have bK : b ≠ I + 3 := by obtain ⟨oc, ec, dc⟩ := kc2; exact ne_of_data ec e (by rw [hd, dc]; exact fun q => by cases q)
        exact ⟨o, up _ _ bD (hs3.extBut _ _ bK e), hc, m, hd⟩
      · refine ⟨a, by rw [List.getElem?_append_right (by omega), hl, Nat.sub_self]; rfl, aD, none_keep kp3 ha, ?_⟩
        obtain ⟨o, e, r⟩ := hla
        exact ⟨o, hs5.extBut _ _ aD e, r⟩
  · have hin : i = n := by omega
    subst hin
    refine W.done _ _ _ it fun h'' tk'' hk' => ?_
    have nI : ∀ b o, b ≠ I → h'.get? b = some o → h''.get? b = some o := fun b o hb e => hk' b o (by simpa using hb) e
    refine fin ys h'' _ ?_ (ns.at' fun o e => nI _ o d20 e) (pd.at fun o e => nI _ o d10 e) hl ?_
    · exact fun b o e => nI b o (fun q => by rw [q, fr1 _ (Nat.le_refl _)] at e; cases e) (kp b o e)
    · intro j hj
      obtain ⟨b, eb, bD, bn, lb⟩ := hrows j hj
      exact ⟨b, eb, bn, listI it nI lb⟩
/-- a comprehension over a range, its name a cell (a comprehension within sees it); its items are new lists -/
theorem comp_cell {c : Cx} {A : Around} {h : Heap} {elt iter : Expr} {x d0 fr : Str} {px pos : Pos} {scope : Scope} {cl : List (Str × Addr)} {env : Env} {n : Nat} {rows : Nat → List Value} {Q : Value → Heap → Prop} (hh : A.handled = none)
    (hsc : scope.names = [(d0, .local), (x, .cell), (fr, .free)]) (hnames : ∀ y ∈ scope.names, y.2 = .local → scope.names.lookup y.1 = some .local) (hkind : scope.kind = .function) (hxk : (relabel scope env).names.lookup x = some .cell)
    (hclos : closureFor scope env = pure cl) (hs : ∀ x, foldedSetIterable iter env x = pure x) (hsm : Builtin.Range.small 0 n 1 = true) (hn : Builtin.Range.rangeSize 0 n 1 = (n : Int)) (hz : n ≤ sizeLine)
    (H : wq c A (eval iter env) (fun xv h₁ => ∃ R t u v, xv = .ref R ∧ h₁.get? R = some (rO 0 n 1 t u v) ∧
      (∀ C K (i : Nat) t h₂, i < n → Keep h₁ h₂ → h₂.IsCell K (some (.int i t)) → wq c A (eval elt (compEnvC scope ((x, K) :: cl) C env)) (fun y h₃ => ∃ a, y = .ref a ∧ h₂.get? a = none ∧ h₃.IsList a (rows i).toArray ∧ Keep h₂ h₃) h₂) ∧
      (∀ D (ys : List Value) h', Keep h₁ h' → h₁.get? D = none → h'.IsList D ys.toArray → ys.length = n → (∀ i, i < n → ∃ a, ys[i]? = some (.ref a) ∧ h₁.get? a = none ∧ h'.IsList a (rows i).toArray) → Q (.ref D) h')) h) :
    wq c A (eval (.ListComp elt [⟨.Name x px, iter, [], 0⟩] scope pos) env) Q h := wq.of fun tk Q' k => by
  rw [eval_ListComp]
  refine wpAny_comprehension_free (use := none) rfl hs hclos hkind hnames (H.go fun xv h₁ tk₁ H₁ => ?_)
  obtain ⟨R, t, u, v, rfl, hR, helt, q⟩ := H₁
  refine wpAny_pyIter_range hR hsm ?_
  refine wpAny_newList ?_ (Nat.zero_le _)
  refine wpAny_newEnvCell hsc ?_
  dsimp only
  rw [hn]
  -- names for the four new objects
  have W := Walks.range (prog := c.prog) (w := c.w) (A := A) hh h₁.objs.size 0 1 n
  obtain ⟨I, hI⟩ : ∃ I, I = h₁.objs.size := ⟨_, rfl⟩
  rw [← hI] at W ⊢
  generalize e1 : h₁.push { cls := .type "range_iterator", data := .fields #[rawInt 0, rawInt n, rawInt 1] } = H1
  have s1 : H1.objs.size = I + 1 := by rw [← e1, Heap.size_push, hI]
  generalize e2 : H1.push { cls := .type "list", data := .seq ([] : List Value).toArray } = H2
  have s2 : H2.objs.size = I + 2 := by rw [← e2, Heap.size_push, s1]
  generalize e3 : H2.push { cls := .type "dict", data := .dict #[] } = H3
  have s3 : H3.objs.size = I + 3 := by rw [← e3, Heap.size_push, s2]
  generalize e4 : H3.push { cls := .type "cell", data := .cell none } = H4
  have k1 : Keep h₁ H1 := fun _ _ e => e1 ▸ Heap.get?_push_of_some _ e
  have k2 : Keep H1 H2 := fun _ _ e => e2 ▸ Heap.get?_push_of_some _ e
  have k3 : Keep H2 H3 := fun _ _ e => e3 ▸ Heap.get?_push_of_some _ e
  have k4 : Keep H3 H4 := fun _ _ e => e4 ▸ Heap.get?_push_of_some _ e
  have gI : IsRangeIter H4 I (0 + ((0 : Nat) : Int) * 1) ((n : Int) - ((0 : Nat) : Int)) 1 := by
    have : H1.get? I = some { cls := .type "range_iterator", data := .fields #[rawInt 0, rawInt n, rawInt 1] } := by rw [← e1, hI]; exact Heap.get?_push_size _ rfl
    have := k4 _ _ (k3 _ _ (k2 _ _ this))
    show H4.get? I = _
    rw [this]
    simp
  have gD : H4.PlainList H1.objs.size #[] := ⟨0, k4 _ _ (k3 _ _ (by rw [← e2]; exact Heap.get?_push_size _ rfl))⟩
  have gC : H4.Ns H2.objs.size (fun _ => none) := by
    have := Heap.Ns.new H2 (.type "dict")
    exact (show H3.Ns H2.objs.size _ from e3 ▸ this).keeps k4
  have gK : H4.IsCell H3.objs.size none := ⟨_, by rw [← e4]; exact Heap.get?_push_size _ rfl, rfl⟩
  have kA : Keep h₁ H4 := Keep.trans k1 (Keep.trans k2 (Keep.trans k3 k4))
  have fr1 : ∀ a, I ≤ a → h₁.get? a = none := fun a ha => Heap.get?_none_of_le (hI ▸ ha)
  rw [s1, s2, s3]
  rw [s1] at gD
  rw [s2] at gC
  rw [s3] at gK
  clear e1 e2 e3 e4 k1 k2 k3 k4 s1 s2 s3
  clear H1 H2 H3
  have loop := cc_loop (c := c) (A := A) (elt := elt) (iter := iter) (px := px) (pos := pos) (scope := scope) (envC := compEnvC scope ((x, I + 3) :: cl) (I + 2) env) (R := compPost c.M A (fun _ _ => False) none Q' (.ref (I + 1)) (I + 2)) hkind hxk (by simp [compEnvC]) hz W fr1 (fun i t h₂ => helt (I + 2) (I + 3) i t h₂) kA gI gD gC gK fun ys h'' tk kp ns pd hl hrows => ?_
  · exact codeAny_compStart_list (loop _) (W.self 0 _ _ _ gI (loop _))
  refine ⟨_, ns, fun h3 hs3 => k _ _ _ (q (I + 1) ys h3 ?_ (fr1 _ (Nat.le_succ I)) ?_ hl ?_)⟩
  · exact fun b o e => hs3.extBut b o (fun q => by rw [q, fr1 _ (Nat.le_add_right I 2)] at e; cases e) (kp b o e)
  · obtain ⟨m, e⟩ := pd
    exact ⟨_, hs3.extBut _ _ (Nat.ne_of_lt (Nat.lt_succ_self _)) e, rfl, m, rfl⟩
  · intro j hj
    obtain ⟨b, eb, bn, o, e, hc, m, hd⟩ := hrows j hj
    have bC : b ≠ I + 2 := by
      obtain ⟨oc, es, ep, ec, dc, _⟩ := ns
      exact ne_of_data ec e (by rw [hd, dc]; exact fun q => by cases q)
    exact ⟨b, eb, bn, o, hs3.extBut _ _ bC e, hc, m, hd⟩
end Mine
end
section
open PySem PySem.W PyProof.Rows PySem.Calls PySem.W.X
set_option Elab.async false
set_option maxRecDepth 100000
set_option maxHeartbeats 400000
set_option linter.unusedVariables false
namespace Mine
noncomputable def lawB (c : Cx) : List Stmt := match (K2 c).lookup 113 with
  | some ⟨_, _, .func fd, _⟩ => (match fd.body with
    | .stmts b => b
    | _ => [])
  | _ => []
noncomputable def lawE (c : Cx) (L : Addr) : Env := match (K2 c).lookup 113 with
  | some ⟨_, _, .func { qualname := q, scope := sc, code := cd, .. }, _⟩ => envX q sc L 113 cd (cellsFrom (L + 1) sc.names [])
  | _ => envX (Str.ofString "") ⟨.function, [], false, false, []⟩ L 113 .none []
theorem n_sorted (c : Cx) : nsIn (K2 c) mainGlobals (Str.ofString "sorted") = some none := by kernel_rfl
theorem b_sorted : bootBuiltins (Str.ofString "sorted") = some (.builtin "sorted") := by decide +kernel
theorem x_sorted : Str.ofString "sorted" ≠ ("__name__" : Str) := by decide +kernel
theorem n_max (c : Cx) : nsIn (K2 c) mainGlobals (Str.ofString "max") = some none := by kernel_rfl
theorem b_max : bootBuiltins (Str.ofString "max") = some (.builtin "max") := by decide +kernel
theorem x_max : Str.ofString "max" ≠ ("__name__" : Str) := by decide +kernel
/-- the key class, the comparison under it and all that it reads -/
structure Kit (c : Cx) (h : Heap) (C : Addr) (B : Nat → List Bool) (n m : Nat) (K : Frag) (ns p cel : Addr) (f cc : Nat → Addr) (lam : Addr) (pm : Value) (c' : Addr) (ctv : Value) (clos : List (Str × Addr)) (cs cz SL : Addr) (os oz : Obj) (tz : Tok) : Prop where
  Y : KeyF c K C ns p cel f cc (.ref lam)
  X : K.In h
  V : h.get? lam = some (lamFn c clos pm c' ctv)
  rc : CodeR h c' qLam
  c1 : clos.lookup (Str.ofString "shown") = some cs
  c2 : clos.lookup (Str.ofString "size") = some cz
  hs : h.get? cs = some os
  ds : os.data = .cell (some (.ref SL))
  hz : h.get? cz = some oz
  dz : oz.data = .cell (some (.int (n : Int) tz))
  S : Shown h SL B m
theorem Kit.keeps {c : Cx} {h h' : Heap} {C : Addr} {B : Nat → List Bool} {n m : Nat} {K : Frag} {ns p cel : Addr} {f cc : Nat → Addr} {lam : Addr} {pm : Value} {c' : Addr} {ctv : Value} {clos : List (Str × Addr)} {cs cz SL : Addr} {os oz : Obj} {tz : Tok} (x : Kit c h C B n m K ns p cel f cc lam pm c' ctv clos cs cz SL os oz tz) (k : Keep h h') : Kit c h' C B n m K ns p cel f cc lam pm c' ctv clos cs cz SL os oz tz :=
  ⟨x.Y, x.X.keeps k, k _ _ x.V, x.rc.keeps (Keep.kp k), x.c1, x.c2, k _ _ x.hs, x.ds, k _ _ x.hz, x.dz, x.S.keeps k⟩
theorem ints_pick {vs : List Value} (hvs : ∀ i, i < 12 → ∃ t, vs[i]? = some (.int (i : Int) t)) : ∀ q : List Nat, IntsL (q.map fun i => vs.getD (12 - 1 - i) .none) ((q.map fun i => 12 - 1 - i).map fun (i : Nat) => (i : Int))
  | [] => trivial
  | i :: q => by
    obtain ⟨t, e⟩ := hvs (12 - 1 - i) (by omega)
    refine ⟨⟨t, ?_⟩, ints_pick hvs q⟩
    show vs.getD (12 - 1 - i) .none = _
    rw [List.getD_eq_getElem?_getD, e]
    rfl
theorem tailRet {c : Cx} {A : Around} {h h₀ : Heap} {L C DU : Addr} {mg mb : Str → Option Value} {l : List (Str × Value)} {news : List (Addr × Obj)} {Q : Flow → Heap → Prop} {B : Nat → List Bool} {n m : Nat} {K : Frag} {ns p cel : Addr} {f cc : Nat → Addr} {lam : Addr} {pm : Value} {c' : Addr} {ctv : Value} {clos : List (Str × Addr)} {cs cz SL : Addr} {os oz : Obj} {tz : Tok} {ds : List Value} {ct : List Int} {w : Nat}
    (r : Room A 10 30) (G : Gd (K2 c) mg mb h₀) (D : Led h₀ L (lk l) h news) (hk : lk l (Str.ofString "key") = some (.ref C)) (hd : lk l (Str.ofString "due") = some (.ref DU)) (T : Kit c h C B n m K ns p cel f cc lam pm c' ctv clos cs cz SL os oz tz) (h1 : 0 < n) (h4 : n ≤ 4)
    (hdu : h.IsList DU ds.toArray) (hdi : IntsL ds ((dueP ct w).map fun (i : Nat) => (i : Int))) (PB : ∀ q, q < 12 → numB (B q) = ct.getD q 0) (PC : ∀ q, q < 12 → 0 ≤ ct.getD q 0 ∧ ct.getD q 0 < w)
    (q : ∀ h', Keep h h' → Q (.ret (.bool true)) h') :
    wq c A (execs ((lawB c).drop 10) (lawE c L)) Q h := by
  have s12 : 12 ≤ sizeLine := by decide
  show wq c A (execs (_ :: _) (envX _ _ L 113 _ _)) _ _
  refine s_cons ?_
  refine s_Return ?_
  refine q_And ?_
  refine qC ?_
  refine q_CallKw (id := "sorted") ?_
  refine db (.builtin "sorted") D G (n_sorted c) b_sorted x_sorted ⟨rfl, ?_⟩
  refine ac ?_
  refine q_CallN ?_
  refine db (.type "range") D G (n_range' c) b_range x_range ?_
  refine qw ?_
  refine ac ?_
  refine q_int fun t1 => ?_
  refine a_nil ⟨kp_type, ?_⟩
  refine wq.mono (Q := fun v h₁ => ∃ R t7 t8 t9, v = .ref R ∧ h₁.get? R = some (rO 0 12 1 t7 t8 t9) ∧ Keep h h₁) ?_ fun v h₁ H₁ => ?_
  · exact wq.of fun tk Q' k => call_range_1 (k _ _ _ ⟨_, _, _, _, rfl, Heap.get?_push_size _ rfl, fun _ _ e => Heap.get?_push_of_some _ e⟩)
  obtain ⟨R, t7, t8, t9, rfl, hR, k1⟩ := H₁
  have D := led_grow D k1
  have T1 := T.keeps k1
  have G1 := G.keeps D.fr.keep
  refine a_nil ?_
  refine k_cons ?_
  refine dv D hk ?_
  refine k_cons ?_
  refine q_bool ?_
  refine k_nil ?_
  refine wq.mono (sortedR (ρ := fun a => numB (B a)) r.handled ?cl T1.Y T1.X hR (kMK (r.le (d' := 3) (u' := 11) (by decide) (by decide)).in1.in1 G1 ⟨_, _, _, _, _, _, T1.Y, T1.X⟩) (kLT G1 T1.Y T1.X T1.V T1.rc T1.c1 T1.c2 T1.hs T1.ds T1.hz T1.dz h1 h4 T1.S (r.le (d' := 4) (u' := 14) (by decide) (by decide)).in1.in1)) fun v h₂ H₂ => ?_
  case cl => exact (r.le (d' := 3) (u' := 11) (by decide) (by decide)).in1.in1.cl
  obtain ⟨SD, vs, rfl, hvl, hvs, ⟨pp, Rp, Sp, hSD⟩, k2⟩ := H₂
  have D := led_grow D k2
  have eρ : (fun i => numB (B (12 - 1 - i))) = fun i => ct.getD (12 - 1 - i) 0 := funext fun i => PB _ (by omega)
  have Sp : Srt (fun i => ct.getD (12 - 1 - i) 0) pp 12 := eρ ▸ Sp
  have hout := out_due PC Rp Sp
  have hw : (dueP ct w).length = 12 := by rw [← hout]; simpa using Rp.sz
  have hdl : ds.length = 12 := by rw [ints_len hdi, List.length_map, hw]
  have hIs : IntsL ((pp.toList.map fun i => vs.getD (12 - 1 - i) .none).reverse) ((dueP ct w).map fun (i : Nat) => (i : Int)) := by
    have := ints_reverse (ints_pick hvs pp.toList)
    rw [← List.map_reverse (f := fun (i : Nat) => (i : Int)), hout] at this
    exact this
  have k02 := k1.trans k2
  have hdu2 : h₂.IsList DU ds.toArray := let ⟨o, e, r⟩ := hdu; ⟨o, k02 _ _ e, r⟩
  refine dv D hd ?_
  refine q_eqInts hSD hdu2 hIs hdi r.cl ?_
  refine t_bool ?_
  rw [if_pos rfl]
  refine qC ?_
  refine q_CallKw (id := "max") ?_
  refine db (.builtin "max") D G (n_max c) b_max x_max ⟨rfl, ?_⟩
  refine ac ?_
  refine q_CallN ?_
  refine db (.type "range") D G (n_range' c) b_range x_range ?_
  refine qw ?_
  refine ac ?_
  refine q_int fun t1 => ?_
  refine a_nil ⟨kp_type, ?_⟩
  refine wq.mono (Q := fun v h₁ => ∃ R t7 t8 t9, v = .ref R ∧ h₁.get? R = some (rO 0 12 1 t7 t8 t9) ∧ Keep h₂ h₁) ?_ fun v h₃ H₃ => ?_
  · exact wq.of fun tk Q' k => call_range_1 (k _ _ _ ⟨_, _, _, _, rfl, Heap.get?_push_size _ rfl, fun _ _ e => Heap.get?_push_of_some _ e⟩)
  obtain ⟨R, t7, t8, t9, rfl, hR, k3⟩ := H₃
  have D := led_grow D k3
  have T3' := T.keeps (k02.trans k3)
  have G3 := G.keeps D.fr.keep
  refine a_nil ?_
  refine k_cons ?_
  refine dv D hk ?_
  refine k_nil ?_
  refine wq.mono (maxR (ρ := fun a => numB (B a)) r.handled hR (kMK (r.le (d' := 3) (u' := 10) (by decide) (by decide)).in1 G3 ⟨_, _, _, _, _, _, T3'.Y, T3'.X⟩) (kGT G3 T3'.Y T3'.X T3'.V T3'.rc T3'.c1 T3'.c2 T3'.hs T3'.ds T3'.hz T3'.dz h1 h4 T3'.S (r.le (d' := 4) (u' := 13) (by decide) (by decide)).in1)) fun v h₄ H₄ => ?_
  obtain ⟨i, ti, rfl, hi, hB, k4⟩ := H₄
  have D := led_grow D k4
  have hB' : Best (fun q => ct.getD q 0) i 12 := fun j hj => by
    have := hB j hj
    simp only [PB i hi, PB j hj] at this
    exact this
  have h0 := best_due PC hi hB'
  have k04 := (k02.trans k3).trans k4
  have hdu4 : h₄.IsList DU ds.toArray := let ⟨o, e, r⟩ := hdu; ⟨o, k04 _ _ e, r⟩
  obtain ⟨td, hd0⟩ := ints_get2 hdi (i := 0) (x := (i : Int)) (by rw [List.getElem?_map, h0]; rfl)
  refine q_Subscript ?_
  refine dv D hd ?_
  refine q_int fun t2 => ?_
  refine d_item (k := 0) hdu4 rfl (by omega) hd0 ?_
  refine q_eq ?_
  rw [beq_self_eq_true]
  exact q _ k04
end Mine
end
section
open PySem PySem.W PyProof.Rows PySem.Calls PySem.W.X
set_option Elab.async false
set_option maxRecDepth 100000
set_option maxHeartbeats 400000
set_option linter.unusedVariables false
namespace Mine
section
variable {c : Cx} {A : Around} {h h₀ : Heap} {L a : Addr} {m : Str → Option Value} {l : List (Str × Value)} {news X R : List (Addr × Obj)} {cn : Str} {cs : Scope} {ccd : Value} {cl : List (Str × Addr)} {x : Str} {v : Value} {j : Nat}
/-- a store into a cell that lies behind others in the ledger -/
theorem dsCK {Q : Unit → Heap → Prop} {cA : Addr} {o : Obj} {v₀ : Option Value} (D : Led h₀ L m h (X ++ R)) (hj : R[j]? = some (cA, o)) (hd : o.data = .cell v₀) (hc : cl.lookup x = some cA)
    (q : ∀ h' o', Led h₀ L m h' (X ++ R.set j (cA, o')) → o'.data = .cell (some v) → Hk h h' → Q () h') (hk : cs.kind = .function := by exact rfl) (hx : (envX cn cs L a ccd cl).kindOf x = some .cell := by exact rfl) :
    wq c A (storeName (envX cn cs L a ccd cl) x v) Q h := by
  have hj' : (X ++ R)[X.length + j]? = some (cA, o) := by rw [List.getElem?_append_right (Nat.le_add_right _ _), Nat.add_sub_cancel_left]; exact hj
  refine dsC (j := X.length + j) D hj' hd hc (fun h' o' D' hd' sb so => q h' o' ?_ hd' (so.hkS sb)) hk hx
  have e : (X ++ R).set (X.length + j) (cA, o') = X ++ R.set j (cA, o') := by
    rw [List.set_append_right _ _ (Nat.le_add_right _ _), Nat.add_sub_cancel_left]
  rw [← e]; exact D'
theorem d_newListN {Q : Value → Heap → Prop} {vs : List Value} (D : Led h₀ L m h news) (hsz : vs.length ≤ sizeLine) (q : ∀ l' h', Led h₀ L m h' ((l', listOf vs.toArray 0) :: news) → Keep h h' → h.get? l' = none → Q (.ref l') h') : wq c A (newList vs) Q h :=
  wq.of fun _ _ k => wpAny_newList (k _ _ _ (q _ _ (led_push D _ rfl) (fun _ _ e => Heap.get?_push_of_some _ e) (Heap.get?_none_of_le (Nat.le_refl _)))) hsz
theorem i_rangeK {r : Addr} {a b e : Int} {t u v : Tok} {n : Int} {Q : Value → Heap → Prop} (D : Led h₀ L m h news) (hi : news[j]? = some (r, rO a b e t u v)) (hs : Builtin.Range.small a b e = true) (hn : Builtin.Range.rangeSize a b e = n)
    (q : ∀ I h', Led h₀ L m h' ((I, rI a n e) :: news) → Keep h h' → Q (.ref I) h') : wq c A (pyIter (.ref r)) Q h :=
  wq.of fun _ _ k => wpAny_pyIter_range (t := t) (u := u) (v := v) (D.at j hi) hs (k _ _ _ (q _ _ (by rw [hn]; exact led_push D _ rfl) (fun _ _ e => Heap.get?_push_of_some _ e)))
theorem c_range1K {n : Int} {t : Tok} {Q : Value → Heap → Prop} (D : Led h₀ L m h news) (q : ∀ r t u v h', Led h₀ L m h' ((r, rO 0 n 1 t u v) :: news) → Keep h h' → Q (.ref r) h') : wq c A (call (.type "range") [.int n t]) Q h :=
  wq.of fun _ _ k => call_range_1 (k _ _ _ (q _ _ _ _ _ (led_push D _ rfl) (fun _ _ e => Heap.get?_push_of_some _ e)))
theorem dsH {Q : Unit → Heap → Prop} (D : Led h₀ L (lk l) h news) (q : ∀ h', Led h₀ L (lk ((x, v) :: l)) h' news → Hk h h' → Q () h') (hk : cs.kind = .function := by exact rfl) (hx : (envX cn cs L a ccd cl).kindOf x = some .local := by exact rfl) :
    wq c A (storeName (envX cn cs L a ccd cl) x v) Q h := dsB D (fun h' D' sb so => q h' D' (so.hkS sb)) hk hx
end
theorem rsD : ∀ n : Nat, n < 5 → Builtin.Range.small ((2 : Int) ^ n - 1) (-1) (-1) = true ∧ Builtin.Range.rangeSize ((2 : Int) ^ n - 1) (-1) (-1) = ((2 ^ n : Nat) : Int) ∧ Builtin.divisionGoesByPylong (-1 - ((2 : Int) ^ n - 1)) (-1) = false ∧ 2 ^ n ≤ 16 ∧ ((2 : Int) ^ n) = ((2 ^ n : Nat) : Int) ∧ (Builtin.Int.intBits 2 : Int) * (n : Int) ≤ 2 ^ 27 := by decide +kernel
noncomputable def dueG (ct : List Int) (k : Nat) : List Nat := (List.range 12).filter fun q => decide (ct.getD q 0 = (k : Int))
noncomputable def dueI (ct : List Int) (w i : Nat) : List Nat := ((List.range w).reverse.take i).flatMap (dueG ct)
theorem dueI_all (ct : List Int) (w : Nat) : dueI ct w w = dueP ct w := by
  unfold dueI dueP
  rw [List.take_of_length_le (by simp)]
  rfl
theorem dueI_succ {ct : List Int} {w i : Nat} (h : i < w) : dueI ct w (i + 1) = dueI ct w i ++ dueG ct (w - 1 - i) := by
  unfold dueI
  have e : (List.range w).reverse[i]? = some (w - 1 - i) := by
    rw [List.getElem?_reverse (by simpa using h), List.length_range]
    exact List.getElem?_range (by omega : w - 1 - i < w)
  rw [List.take_add_one, e, List.flatMap_append]
  simp
theorem dueI_len {ct : List Int} {w : Nat} : ∀ i, i ≤ w → (dueI ct w i).length ≤ 12 * i
  | 0, _ => by simp [dueI]
  | i + 1, h => by
    have := dueI_len (ct := ct) (w := w) i (by omega)
    have e : (dueG ct (w - 1 - i)).length ≤ 12 := by
      unfold dueG
      exact Nat.le_trans (List.length_filter_le _ _) (by simp)
    rw [dueI_succ (w := w) (i := i) (by omega), List.length_append]
    omega
theorem paired_id : ∀ {us ys : List Value}, Paired (fun v y => y = v) us ys → ys = us := by
  intro us ys P
  induction P with
  | nil => rfl
  | cons hF r ih => rw [hF, ih]
noncomputable def isCnt (ct : List Int) (k : Int) : Value → Bool
  | .int a _ => decide (ct.getD a.toNat 0 = k)
  | _ => false
theorem ints_filter {ct : List Int} {k : Int} : ∀ {us : List Value} {qs : List Nat}, IntsL us (qs.map fun (i : Nat) => (i : Int)) → IntsL (us.filter (isCnt ct k)) ((qs.filter fun q => decide (ct.getD q 0 = k)).map fun (i : Nat) => (i : Int))
  | [], [], _ => trivial
  | [], _ :: _, h => h.elim
  | _ :: _, [], h => h.elim
  | u :: us, q :: qs, h => by
    obtain ⟨⟨t, rfl⟩, r⟩ := h
    have e : isCnt ct k (.int (q : Int) t) = decide (ct.getD q 0 = k) := rfl
    rw [List.filter_cons, List.filter_cons, e]
    by_cases c : decide (ct.getD q 0 = k) = true
    · rw [if_pos c, if_pos c]; exact ⟨⟨t, rfl⟩, ints_filter r⟩
    · rw [if_neg c, if_neg c]; exact ints_filter r
theorem ints_of_at : ∀ {us : List Value} {n : Nat} (k : Nat), us.length = n → (∀ (j : Nat) v, us[j]? = some v → ∃ t, v = Value.int ((k + j : Nat) : Int) t) → IntsL us ((List.range' k n).map fun (i : Nat) => (i : Int))
  | [], 0, _, _, _ => trivial
  | [], n + 1, _, h, _ => by cases h
  | u :: us, 0, _, h, _ => by cases h
  | u :: us, n + 1, k, h, hP => by
    obtain ⟨t, e⟩ := hP 0 u rfl
    refine ⟨⟨t, e⟩, ints_of_at (k + 1) (by simpa using h) fun j w hj => ?_⟩
    obtain ⟨t, e⟩ := hP (j + 1) w hj
    exact ⟨t, by rw [e, show k + (j + 1) = k + 1 + j by omega]⟩
/-- the ledger behind the key class -/
noncomputable abbrev cellsN (L : Addr) (o1 o2 o3 o4 o5 o6 : Obj) (ta tb : Array Value) : List (Addr × Obj) := (L + 6, o6) :: (L + 5, o5) :: (L + 4, o4) :: (L + 3, o3) :: (L + 2, o2) :: (L + 1, o1) :: tabN ta tb
/-- the invariant of the due loop -/
noncomputable abbrev DueInv (h : Heap) (DU C : Addr) (K : Frag) (L : Addr) (lo : Addr × Obj) (o1 o2 o3 o5 o6 : Obj) (ta tb : Array Value) (ct : List Int) (n : Nat) (i : Nat) (l' : List (Str × Value)) (news : List (Addr × Obj)) (hh : Heap) : Prop := ∃ ds e o4 v4, news = (DU, listOf (List.toArray ds) e) :: (K ++ lo :: cellsN L o1 o2 o3 o4 o5 o6 ta tb) ∧ o4.data = .cell v4 ∧ IntsL ds ((dueI ct (2 ^ n) i).map fun (i : Nat) => (i : Int)) ∧ lk l' (Str.ofString "due") = some (.ref DU) ∧ lk l' (Str.ofString "key") = some (.ref C) ∧ Hk h hh
theorem tailLoop {c : Cx} {A : Around} {h h₀ : Heap} {L C : Addr} {mg mb : Str → Option Value} {l : List (Str × Value)} {Q : Flow → Heap → Prop} {B : Nat → List Bool} {n m : Nat} {K : Frag} {ns p cel : Addr} {f cc : Nat → Addr} {lam : Addr} {pm : Value} {c' : Addr} {ctv : Value} {clos : List (Str × Addr)} {CL SL : Addr} {o1 o2 o3 o4 o5 o6 : Obj} {v4 : Option Value} {tz : Tok} {cv : List Value} {ct : List Int} {ta tb : Array Value}
    (r : Room A 10 30) (G : Gd (K2 c) mg mb h₀) (D : Led h₀ L (lk l) h (K ++ (lam, lamFn c clos pm c' ctv) :: cellsN L o1 o2 o3 o4 o5 o6 ta tb)) (hk : lk l (Str.ofString "key") = some (.ref C))
    (Y : KeyF c K C ns p cel f cc (.ref lam)) (rc : CodeR h c' qLam) (c1 : clos.lookup (Str.ofString "shown") = some (L + 5)) (c2 : clos.lookup (Str.ofString "size") = some (L + 6))
    (d5 : o5.data = .cell (some (.ref SL))) (d6 : o6.data = .cell (some (.int (n : Int) tz))) (d4 : o4.data = .cell v4) (d2 : o2.data = .cell (some (.ref CL))) (S : ShownA h SL B) (hm : ∀ i, i < 12 → (B i).length = m)
    (h1 : 0 < n) (h4 : n ≤ 4) (hcl : LsA h CL cv) (hci : IntsL cv ct) (hcn : ct.length = 16)
    (PB : ∀ q, q < 12 → numB (B q) = ct.getD q 0) (PC : ∀ q, q < 12 → 0 ≤ ct.getD q 0 ∧ ct.getD q 0 < ((2 ^ n : Nat) : Int))
    (q : ∀ h', Keep h₀ h' → h'.get? 110 = some (tabObj ta) → h'.get? 63 = some (tabObj tb) → Q (.ret (.bool true)) h') :
    wq c A (execs ((lawB c).drop 8) (lawE c L)) Q h := by
  have s192 : 208 ≤ sizeLine := by decide
  obtain ⟨sm, rz, nd, w16, wp, ib⟩ := rsD n (by omega)
  have hcv : cv.length = 16 := (ints_len hci).trans hcn
  show wq c A (execs (_ :: _) (envX _ _ L 113 _ _)) _ _
  refine s_cons ?_
  refine sA ?_
  refine q_List ?_
  refine a_nil ?_
  refine d_newListN D (show 0 ≤ sizeLine from Nat.zero_le _) fun DU h₁ D k1 nDU => ?_
  refine dsH D fun h₂ D hk2 => ?_
  have H2 : Hk h h₂ := k1.hk.trans hk2
  refine s_cons ?_
  refine sF ?_
  refine q_CallN ?_
  refine db (.type "range") D G (n_range' c) b_range x_range ?_
  refine qw ?_
  refine ac ?_
  refine q_BinOp ?_
  refine q_BinOp ?_
  refine q_int fun t1 => ?_
  refine q_cell (cA := L + 6) rfl (D.nw (L + 6, o6) (.tail _ (List.mem_append_right _ (.tail _ (.head _))))).1 d6 rfl rfl rfl ?_
  refine q_pow (Int.natCast_nonneg _) ib fun t2 => ?_
  refine q_int fun t3 => ?_
  refine q_sub fun t4 => ?_
  refine ac ?_
  refine q_UnaryOp ?_
  refine q_int fun t5 => ?_
  refine q_neg fun t6 => ?_
  refine ac ?_
  refine q_UnaryOp ?_
  refine q_int fun t7 => ?_
  refine q_neg fun t8 => ?_
  refine a_nil ⟨kp_type, ?_⟩
  have e0 : (2 : Int) ^ (n : Int).toNat - 1 = 2 ^ n - 1 := rfl
  rw [e0]
  refine c_range3K D (by decide) nd fun R t9 t10 t11 h₃ D k3 => ?_
  refine i_rangeK (j := 0) D rfl sm rz fun I h₄ D k4 => ?_
  have D := led_sub D (news' := (I, rI (2 ^ n - 1) ((2 ^ n : Nat) : Int) (-1)) :: (DU, listOf ([] : List Value).toArray 0) :: (K ++ (lam, lamFn c clos pm c' ctv) :: cellsN L o1 o2 o3 o4 o5 o6 ta tb)) (List.Sublist.cons_cons _ (List.Sublist.cons _ (List.Sublist.refl _)))
  refine for_rangeK (n := 2 ^ n) (a := 2 ^ n - 1) (e := -1) r.handled (DueInv h DU C K L (lam, lamFn c clos pm c' ctv) o1 o2 o3 o5 o6 ta tb ct n) ?soft ?turn ?done (2 ^ n) 0 (2 ^ n - 1) ((2 ^ n : Nat) : Int) I ((Str.ofString "due", .ref DU) :: l) _ h₄ rfl (Nat.zero_le _) (by simp) rfl ⟨[], 0, o4, v4, rfl, d4, trivial, rfl, hk, (H2.trans k3.hk).trans k4.hk⟩ D
  case soft =>
    rintro i l' news ha hb ⟨ds, e, o4, v4, rfl, d4, hds, eD, eK, H⟩ hk'
    exact ⟨ds, e, o4, v4, rfl, d4, hds, eD, eK, H.trans hk'⟩
  case done =>
    rintro l' news hh ⟨ds, e, o4, v4, rfl, d4, hds, eD, eK, H⟩ D
    refine s_nil ?_
    show wq c _ (execs _ _) _ _
    rw [dueI_all] at hds
    exact tailRet (ct := ct) (w := 2 ^ n) r G D eK eD ⟨Y, fun a o e => (D.nw (a, o) (.tail _ (List.mem_append_left _ (mem_of_lookupK e)))).1, (D.nw (lam, lamFn c clos pm c' ctv) (.tail _ (List.mem_append_right _ (.head _)))).1, rc.hk H, c1, c2, (D.nw (L + 5, o5) (.tail _ (List.mem_append_right _ (.tail _ (.tail _ (.head _)))))).1, d5, (D.nw (L + 6, o6) (.tail _ (List.mem_append_right _ (.tail _ (.head _))))).1, d6, (S.hk H).to hm⟩ h1 h4 (led_isList (i := 0) D rfl) hds PB PC
      fun h' k' => q h' (Keep.trans D.fr.keep k') (k' _ _ (D.nw (110, tabObj ta) (.tail _ (List.mem_append_right _ (.tail _ (.tail _ (.tail _ (.tail _ (.tail _ (.tail _ (.tail _ (.head _))))))))))).1) (k' _ _ (D.nw (63, tabObj tb) (.tail _ (List.mem_append_right _ (.tail _ (.tail _ (.tail _ (.tail _ (.tail _ (.tail _ (.tail _ (.tail _ (.head _)))))))))))).1)
  case turn =>
    rintro i ti I' o' l' news hh hi ⟨ds, e, o4, v4, rfl, d4, hds, eD, eK, H⟩ D
    have hdl : ds.length ≤ 192 := by
      have e1 := ints_len hds
      rw [List.length_map] at e1
      have e2 := dueI_len (ct := ct) (w := 2 ^ n) i (by omega)
      omega
    have D : Led h₀ L (lk l') hh (((I', o') :: (DU, listOf ds.toArray e) :: K) ++ ((lam, lamFn c clos pm c' ctv) :: cellsN L o1 o2 o3 o4 o5 o6 ta tb)) := D
    refine dsCK (j := 3) (cA := L + 4) D rfl d4 rfl fun h₅ o4' D d4' hk5 => ?_
    refine wq.gen fun Q1 k1 => ?_
    have D : Led h₀ L (lk l') h₅ ((I', o') :: (DU, listOf ds.toArray e) :: (K ++ (lam, lamFn c clos pm c' ctv) :: cellsN L o1 o2 o3 o4' o5 o6 ta tb)) := D
    have H5 := H.trans hk5
    refine s_cons ?_
    refine s_Expr rfl rfl ?_
    refine wq.gen fun Q2 k2 => ?_
    refine q_Method rfl ?_
    refine dv D eD ?_
    refine m_extend (j := 1) D rfl ?_
    refine qw ?_
    refine ac ?_
    refine q_compP (n := 12) (P := fun i v => i < 12 ∧ ∃ t, v = .int ((0 : Int) + i * 1) t) (cl := _) (isCnt ct (2 ^ n - 1 + (i : Int) * -1)) (fun v y => y = v) rfl (by decide) rfl (by decide) rfl (fun _ => rfl) (by omega) ?_
    refine q_CallN ?_
    refine db (.type "range") D G (n_range' c) b_range x_range ?_
    refine qw ?_
    refine ac ?_
    refine q_int fun t11 => ?_
    refine a_nil ⟨kp_type, ?_⟩
    refine c_range1K D fun R t7 t8 t9 h₆ D k6 => ?_
    have H6 := H5.trans k6.hk
    refine ⟨src_range r.handled (D.at 0 rfl) (by decide +kernel) (by decide +kernel), .inr ⟨_, rfl, ?test⟩, ?elt, fun M' ys us n' h₇ kp hM' hlM hlen hP hF => ?_⟩
    case test =>
      rintro c2' ec ew C2 i2 v h₂ m₂ ⟨hi12, t, rfl⟩ kp hns hm2
      have e0 : (0 : Int) + (i2 : Int) * 1 = (i2 : Int) := by omega
      rw [e0] at hm2 ⊢
      obtain ⟨y, hy⟩ : ∃ y, ct[i2]? = some y := ⟨ct[i2]'(by omega), by simp [hcn, show i2 < 16 by omega]⟩
      obtain ⟨ty, hv⟩ := ints_get2 hci hy
      have hyD : ct.getD i2 0 = y := by rw [List.getD_eq_getElem?_getD, hy]; rfl
      refine tC ?_
      refine q_Subscript ?_
      refine e_cell (cA := L + 2) (kp _ _ (D.nw (L + 2, o2) (.tail _ (.tail _ (.tail _ (List.mem_append_right _ (.tail _ (.tail _ (.tail _ (.tail _ (.tail _ (.head _))))))))))).1) d2 ?_
      refine e_local hns hm2 ?_
      refine d_item (hcl.hk (H6.trans kp.hk)).2 rfl (by omega) hv ?_
      refine e_cell (cA := L + 4) (kp _ _ (D.nw (L + 4, o4') (.tail _ (.tail _ (.tail _ (List.mem_append_right _ (.tail _ (.tail _ (.tail _ (.head _))))))))).1) d4' ?_
      refine q_eq ?_
      refine t_bool ?_
      refine ⟨?_, fun _ _ e => e⟩
      show (y == _) = decide (ct.getD i2 0 = _)
      rw [hyD]
      exact Bool.beq_eq_decide_eq ..
    case elt =>
      rintro c2' ec ew C2 i2 v h₂ m₂ ⟨hi12, t, rfl⟩ hp kp hns hm2
      exact e_local hns hm2 ⟨rfl, fun _ _ e => e⟩
    have hys := paired_id hF
    subst hys
    have hus := ints_of_at (us := us) (n := 12) 0 hlen fun j v hj => by
      obtain ⟨_, t, e⟩ := hP j v hj
      exact ⟨t, by rw [e, show ((0 : Int) + (j : Int) * 1) = ((0 + j : Nat) : Int) by omega]⟩
    have hfl := ints_filter (ct := ct) (k := 2 ^ n - 1 + (i : Int) * -1) hus
    have ev : (2 : Int) ^ n - 1 + (i : Int) * -1 = ((2 ^ n - 1 - i : Nat) : Int) := by rw [wp]; omega
    have D := led_tail (led_grow D kp)
    refine a_nil ⟨kp_bi, ?_⟩
    have hfn : (us.filter (isCnt ct (2 ^ n - 1 + (i : Int) * -1))).length ≤ 12 := Nat.le_trans (List.length_filter_le _ _) (Nat.le_of_eq hlen)
    refine c_extend (j := 1) D rfl hlM (by omega) fun n3 h₈ D sb => k2 _ _ ⟨rfl, ?_⟩
    dsimp only [List.set_cons_succ, List.set_cons_zero] at D
    refine s_nil (k1 _ _ ⟨_, _, D, _, _, o4', _, rfl, d4', ?_, eD, eK, ?_⟩)
    · rw [dueI_succ hi, List.map_append]
      refine ints_append hds ?_
      rw [ev] at hfl ⊢
      exact hfl
    · intro b o nb hd eb
      have : b ≠ DU := fun q => by rw [q, nDU] at eb; cases eb
      rw [sb b this]
      exact (H6.trans kp.hk) b o nb hd eb
end Mine
end
section
open PySem PySem.W PyProof.Rows PySem.Calls PySem.W.X
set_option Elab.async false
set_option maxRecDepth 100000
set_option maxHeartbeats 400000
set_option linter.unusedVariables false
namespace Mine
theorem hd112 {c : Cx} {mg mb : Str → Option Value} {h : Heap} (G : Gd (K2 c) mg mb h) : CodeHd h 112 110 := ⟨_, _, _, _, _, _, _, _, _, G.X 112 _ rfl, rfl, rfl, rfl, rfl, rfl, rfl, rfl, rfl, by decide⟩
theorem n_ctk (c : Cx) : nsIn (K2 c) mainGlobals (Str.ofString "cmp_to_key") = some (some (.ref 68)) := by kernel_rfl
theorem tailKey {c : Cx} {A : Around} {h h₀ : Heap} {L : Addr} {mg mb : Str → Option Value} {l : List (Str × Value)} {Q : Flow → Heap → Prop} {B : Nat → List Bool} {n m : Nat} {CL SL : Addr} {o1 o2 o3 o4 o5 o6 : Obj} {v4 : Option Value} {tz : Tok} {cv : List Value} {ct : List Int}
    (r : Room A 49 147) (hL : 113 < L) (G : Gd (K2 c) mg mb h₀) (Bm₀ : Bm mg h₀) (D : Led h₀ L (lk l) h (cellsN L o1 o2 o3 o4 o5 o6 #[] #[]))
    (d5 : o5.data = .cell (some (.ref SL))) (d6 : o6.data = .cell (some (.int (n : Int) tz))) (d4 : o4.data = .cell v4) (d2 : o2.data = .cell (some (.ref CL))) (S : ShownA h SL B) (hm : ∀ i, i < 12 → (B i).length = m)
    (h1 : 0 < n) (h4 : n ≤ 4) (hcl : LsA h CL cv) (hci : IntsL cv ct) (hcn : ct.length = 16)
    (PB : ∀ q, q < 12 → numB (B q) = ct.getD q 0) (PC : ∀ q, q < 12 → 0 ≤ ct.getD q 0 ∧ ct.getD q 0 < ((2 ^ n : Nat) : Int))
    (q : ∀ h' ta tb, Keep h₀ h' → h'.get? 110 = some (tabObj ta) → h'.get? 63 = some (tabObj tb) → Q (.ret (.bool true)) h') :
    wq c A (execs ((lawB c).drop 7) (lawE c L)) Q h := by
  have G1 := G.keeps D.fr.keep
  show wq c A (execs (_ :: _) (envX _ _ L 113 _ _)) _ _
  refine s_cons ?_
  refine sA ?_
  refine q_CallN ?_
  refine dg D G (n_ctk c) ?_
  refine qw ?_
  refine ac ?_
  refine q_Lambda (j := 6) (P := 110) (ps := #[]) (qual := qLam) (clos := [(Str.ofString "size", L + 6), (Str.ofString "shown", L + 5)]) D hL rfl m110 G1.g (Bm₀.keeps D.fr.keep) rfl (hd112 G1) (TabOk.nil _ _) rfl rfl rfl fun lam c' ctv h₁ ta D rc T k1 lL => ?_
  have D : Led h₀ L (lk l) h₁ ((lam, lamFn c [(Str.ofString "size", L + 6), (Str.ofString "shown", L + 5)] ((mg "__name__").getD .none) c' ctv) :: cellsN L o1 o2 o3 o4 o5 o6 ta #[]) := D
  refine a_nil ⟨kp_fn ((G.keeps D.fr.keep).X 68 _ rfl) rfl, ?_⟩
  refine wq.mono (ck r (G.keeps D.fr.keep) (Bm₀.keeps D.fr.keep) (D.at 8 rfl)) fun v h₂ H₂ => ?_
  obtain ⟨K, C, ns, p, cel, f, cc, td, rfl, Y, hK, hKo, hKl, kx, e63⟩ := H₂
  have kp2 : Kp h₁ h₂ := kp_of_ext m63 kx
  have hsz := led_size D
  have hsz2 : ∀ a ∈ [lam, L + 6, L + 5, L + 4, L + 3, L + 2, L + 1, 110, 63], a < h₁.objs.size := fun a ha => by
    have ha : a ∈ ((lam, lamFn c [(Str.ofString "size", L + 6), (Str.ofString "shown", L + 5)] ((mg "__name__").getD .none) c' ctv) :: cellsN L o1 o2 o3 o4 o5 o6 ta #[]).map (fun (x : Addr × Obj) => x.1) := ha
    obtain ⟨p, hp, rfl⟩ := List.mem_map.mp ha
    exact hsz p hp
  have hLs := D.fr.ns.lt
  have D := led_kp (xs := (lam, lamFn c [(Str.ofString "size", L + 6), (Str.ofString "shown", L + 5)] ((mg "__name__").getD .none) c' ctv) :: (L + 6, o6) :: (L + 5, o5) :: (L + 4, o4) :: (L + 3, o3) :: (L + 2, o2) :: (L + 1, o1) :: []) D hL kp2 (kx _ _ (by decide) (D.at 7 rfl)) e63
  have D := led_adds D hK hKo (fun q hq => Nat.lt_of_lt_of_le hLs (hKl q hq)) (fun q hq p hp => by
    exact Nat.lt_of_lt_of_le (hsz2 p.1 (List.mem_map_of_mem (f := fun (x : Addr × Obj) => x.1) hp)) (hKl q hq))
  have D : Led h₀ L (lk l) h₂ (K ++ (lam, lamFn c [(Str.ofString "size", L + 6), (Str.ofString "shown", L + 5)] ((mg "__name__").getD .none) c' ctv) :: cellsN L o1 o2 o3 o4 o5 o6 ta td) := D
  refine dsH D fun h₃ D hk3 => ?_
  have H3 : Hk h h₃ := (k1.hk.trans kp2.hk).trans hk3
  exact tailLoop (r.le (by decide) (by decide)) G D rfl Y (rc.hk (kp2.hk.trans hk3)) rfl rfl d5 d6 d4 d2 (S.hk H3) hm h1 h4 (hcl.hk H3) hci hcn PB PC fun h' k e1 e2 => q h' ta td k e1 e2
end Mine
end
section
open PySem PySem.W PyProof.Rows PySem.Calls PySem.W.X
set_option Elab.async false
set_option maxRecDepth 100000
set_option maxHeartbeats 400000
set_option linter.unusedVariables false
namespace Mine
theorem n_shows (c : Cx) : nsIn (K2 c) mainGlobals (Str.ofString "_law_shows") = some (some (.ref 108)) := by kernel_rfl
noncomputable def TextsL : List Value → List Int → Prop
  | [], [] => True
  | v :: vs, p :: ps => (∃ t, v = .str (fmS p) t) ∧ TextsL vs ps
  | _, _ => False
theorem texts_len : ∀ {vs : List Value} {ps : List Int}, TextsL vs ps → vs.length = ps.length
  | [], [], _ => rfl
  | [], _ :: _, h => h.elim
  | _ :: _, [], h => h.elim
  | v :: vs, x :: xs, h => by simp [texts_len h.2]
theorem texts_append : ∀ {vs ws : List Value} {xs ys : List Int}, TextsL vs xs → TextsL ws ys → TextsL (vs ++ ws) (xs ++ ys)
  | [], _, [], _, _, h => h
  | [], _, _ :: _, _, h, _ => h.elim
  | _ :: _, _, [], _, h, _ => h.elim
  | v :: vs, ws, x :: xs, ys, h, h2 => ⟨h.1, texts_append h.2 h2⟩
theorem texts_reverse : ∀ {vs : List Value} {xs : List Int}, TextsL vs xs → TextsL vs.reverse xs.reverse
  | [], [], _ => trivial
  | [], _ :: _, h => h.elim
  | _ :: _, [], h => h.elim
  | v :: vs, x :: xs, h => by
    rw [List.reverse_cons, List.reverse_cons]
    exact texts_append (texts_reverse h.2) ⟨h.1, trivial⟩
theorem texts_get : ∀ {vs : List Value} {ps : List Int}, TextsL vs ps → ∀ {i : Nat} {v : Value}, vs[i]? = some v → ∃ p t, ps[i]? = some p ∧ v = .str (fmS p) t
  | [], [], _, _, _, e => by simp at e
  | [], _ :: _, h, _, _, _ => h.elim
  | _ :: _, [], h, _, _, _ => h.elim
  | v :: vs, x :: xs, h, 0, w, e => by
    obtain ⟨t, rfl⟩ := h.1
    simp at e
    exact ⟨x, t, rfl, e.symm⟩
  | v :: vs, x :: xs, h, i + 1, w, e => by
    obtain ⟨y, t, e1, e2⟩ := texts_get h.2 (i := i) (v := w) (by simpa using e)
    exact ⟨y, t, by simpa using e1, e2⟩
theorem texts_at {vs : List Value} {ps : List Int} (H : TextsL vs ps) {i : Nat} {p : Int} (e : ps[i]? = some p) : ∃ t, vs[i]? = some (.str (fmS p) t) := by
  have hi : i < ps.length := (List.getElem?_eq_some_iff.mp e).1
  have hl := texts_len H
  obtain ⟨v, hv⟩ : ∃ v, vs[i]? = some v := ⟨vs[i]'(by omega), by simp [show i < vs.length by omega]⟩
  obtain ⟨p', t, e1, e2⟩ := texts_get H hv
  rw [e] at e1
  cases e1
  exact ⟨t, by rw [hv, e2]⟩
noncomputable def sgn (s : Str) (i : Nat) : Nat := s.cps.getD i 0
noncomputable def shV (i : Nat) : Value → Value
  | .str s _ => .bool (showsP (sgn s) i)
  | _ => .none
theorem fmS_at (m : Int) : ∀ i, i < 10 → (fmS m).cps[i]? = some (sgn (fmS m) i)
  | 0, _ => rfl
  | 1, _ => rfl
  | 2, _ => rfl
  | 3, _ => rfl
  | 4, _ => rfl
  | 5, _ => rfl
  | 6, _ => rfl
  | 7, _ => rfl
  | 8, _ => rfl
  | 9, _ => rfl
  | n + 10, h => absurd h (by omega)
theorem paired_shows {i : Nat} : ∀ {us ys : List Value}, Paired (fun v y => y = shV i v) us ys → ∀ {ps : List Int}, TextsL us ps → ys = (ps.map fun p => showsP (sgn (fmS p)) i).map Value.bool := by
  intro us ys P
  induction P with
  | nil => intro ps hx; cases ps with
    | nil => rfl
    | cons => exact hx.elim
  | cons hF r ih =>
    intro ps hx
    cases ps with
    | nil => exact hx.elim
    | cons p ps =>
      obtain ⟨⟨t, rfl⟩, hr⟩ := hx
      rw [hF, ih hr]
      rfl
/-- the rows of the shown table -/
noncomputable def rowB (ps : List Int) (i : Nat) : List Bool := ps.reverse.map fun p => showsP (sgn (fmS p)) i
theorem tailShown {c : Cx} {A : Around} {h h₀ : Heap} {L : Addr} {mg mb : Str → Option Value} {l : List (Str × Value)} {Q : Flow → Heap → Prop} {n : Nat} {CL TL : Addr} {o1 o2 o3 o4 o5 o6 : Obj} {v4 v5 : Option Value} {tz : Tok} {tv cv : List Value} {ps ct : List Int}
    (r : Room A 49 147) (hL : 113 < L) (G : Gd (K2 c) mg mb h₀) (Bm₀ : Bm mg h₀) (D : Led h₀ L (lk l) h (cellsN L o1 o2 o3 o4 o5 o6 #[] #[]))
    (d1 : o1.data = .cell (some (.ref TL))) (d5 : o5.data = .cell v5) (d6 : o6.data = .cell (some (.int (n : Int) tz))) (d4 : o4.data = .cell v4) (d2 : o2.data = .cell (some (.ref CL)))
    (hps : ps.length = n) (htl : LsA h TL tv) (hti : TextsL tv ps)
    (h1 : 0 < n) (h4 : n ≤ 4) (hcl : LsA h CL cv) (hci : IntsL cv ct) (hcn : ct.length = 16)
    (PB : ∀ q, q < 12 → numB (rowB ps q) = ct.getD q 0) (PC : ∀ q, q < 12 → 0 ≤ ct.getD q 0 ∧ ct.getD q 0 < ((2 ^ n : Nat) : Int))
    (q : ∀ h' ta tb, Keep h₀ h' → h'.get? 110 = some (tabObj ta) → h'.get? 63 = some (tabObj tb) → Q (.ret (.bool true)) h') :
    wq c A (execs ((lawB c).drop 6) (lawE c L)) Q h := by
  have s12 : 12 ≤ sizeLine := by decide
  have htv : tv.length = n := (texts_len hti).trans hps
  show wq c A (execs (_ :: _) (envX _ _ L 113 _ _)) _ _
  refine s_cons ?_
  refine sA ?_
  refine comp_cell (n := 12) (rows := fun i => (rowB ps i).map Value.bool) (cl := [(Str.ofString "told", L + 1)]) r.handled rfl (by decide) rfl rfl rfl (fun _ => rfl) (by decide +kernel) (by decide +kernel) s12 ?_
  refine q_CallN ?_
  refine db (.type "range") D G (n_range' c) b_range x_range ?_
  refine qw ?_
  refine ac ?_
  refine q_int fun t11 => ?_
  refine a_nil ⟨kp_type, ?_⟩
  refine c_range1K D fun R t7 t8 t9 h₁ D k1 => ⟨R, _, _, _, rfl, D.at 0 rfl, ?elt, ?post⟩
  case post =>
    intro SL ys h₂ k2 nSL lSL hyl hrows
    have e110 := D.at 7 rfl
    have e63 := D.at 8 rfl
    have SA : ShownA h₂ SL (rowB ps) := ⟨ys, ⟨notT e110 e63 nSL, lSL⟩, hyl, fun i hi => let ⟨a, e, na, la⟩ := hrows i hi; ⟨a, e, notT e110 e63 na, la⟩⟩
    have D := led_tail (led_grow D k2)
    refine dsCK (X := []) (j := 1) (cA := L + 5) D rfl d5 rfl fun h₃ o5' D d5' hk3 => ?_
    have D : Led h₀ L (lk l) h₃ (cellsN L o1 o2 o3 o4 o5' o6 #[] #[]) := D
    have H3 : Hk h h₃ := (k1.hk.trans k2.hk).trans hk3
    exact tailKey (m := n) r hL G Bm₀ D d5' d6 d4 d2 (SA.hk hk3) (fun i _ => by simp [rowB, hps]) h1 h4 (hcl.hk H3) hci hcn PB PC q
  case elt =>
    intro C K i t h₂ hi kp hcell
    have D2 := led_grow D kp
    have htl2 := htl.hk (k1.hk.trans kp.hk)
    refine q_compS (n := tv.reverse.toArray.size) (P := fun j v => tv.reverse.toArray[j]? = some v) (cl := [(Str.ofString "right", K)]) (fun _ => true) (fun v y => y = shV i v) rfl (by decide) rfl (by decide) rfl (fun _ => rfl) (by simp; omega) ?_
    refine q_sliceRev D2 ?_
    refine e_cell (cA := L + 1) (D2.at 6 rfl) d1 ?_
    refine q_UnaryOp ?_
    refine q_int fun t5 => ?_
    refine q_neg fun t5 => ?_
    refine ⟨TL, tv, t5, rfl, rfl, htl2.2, by omega, D2, fun S h₃ D k3 lS => ?_⟩
    refine ⟨src_list r.handled (led_isList (i := 0) D rfl), .inl ⟨rfl, fun _ => rfl⟩, ?elt2, fun M ys us h₄ kp4 hM hlM hlen hP hF => ⟨M, rfl, none_keep k3 hM, ?_, Keep.trans k3 kp4⟩⟩
    case elt2 =>
      rintro c2 ec ew C2 j v h₅ m₂ hv _ kp5 hns hm
      obtain ⟨p, tp, _, rfl⟩ := texts_get (texts_reverse hti) (i := j) (v := v) (by simpa using hv)
      have eK : K2 c2 = K2 c := by show hd.heap_39 c2.w.params = hd.heap_39 c.w.params; rw [ew]
      have G2 : Gd (K2 c2) mg mb h₅ := eK ▸ (G.keeps (Keep.trans D.fr.keep kp5))
      have hc5 : h₅.IsCell K (some (.int (i : Int) t)) := hcell.keeps (Keep.trans k3 kp5)
      obtain ⟨oc, eoc, doc⟩ := hc5
      refine q_CallN ?_
      refine e_global G2 (n_shows c2) ?_
      refine qw ?_
      refine ac ?_
      refine e_local hns hm ?_
      refine ac ?_
      refine e_cell (cA := K) eoc doc ?_
      refine a_nil ⟨kp_fn (G2.X 108 _ rfl) rfl, ?_⟩
      exact wq.mono (lawshows (r.le (by decide) (by decide)) G2 (fmS_at p) hi) fun w h₆ H₆ => ⟨H₆.1, H₆.2⟩
    have hF' : Paired (fun v y => y = shV i v) us ys := by
      have e : us.filter (fun _ => true) = us := by simp
      rw [e] at hF; exact hF
    have hus := list_same hlen hP
    subst hus
    rw [paired_shows hF' (texts_reverse hti)] at hlM
    exact hlM
end Mine
end
section
open PySem PySem.W PyProof.Rows PySem.Calls PySem.W.X
set_option Elab.async false
set_option maxRecDepth 100000
set_option maxHeartbeats 400000
set_option linter.unusedVariables false
namespace Mine
theorem in1 {ch : Nat} (h : ch = 114 ∨ ch = 119) (x : Int) (hx : x = 0 ∨ x = 1) : inB "rwxst" ([45, ch].getD x.toNat 0) = (x == 1) := by
  rcases h with rfl | rfl <;> rcases hx with rfl | rfl <;> decide +kernel
theorem in3 (x y : Int) (hx : x = 0 ∨ x = 1) (hy : y = 0 ∨ y = 1) : inB "rwxst" ([45, 120, 83, 115].getD (x + 2 * y).toNat 0) = (x == 1) ∧ inB "rwxst" ([45, 120, 84, 116].getD (x + 2 * y).toNat 0) = (x == 1) ∧ inB "sStT" ([45, 120, 83, 115].getD (x + 2 * y).toNat 0) = (y == 1) ∧ inB "sStT" ([45, 120, 84, 116].getD (x + 2 * y).toNat 0) = (y == 1) := by
  rcases hx with rfl | rfl <;> rcases hy with rfl | rfl <;> decide +kernel
theorem shows_bit {m : Int} (hm : 0 ≤ m) : ∀ i, i < 12 → showsP (sgn (fmS m)) i = (bt m i == 1)
  | 0, _ => by
    show inB "rwxst" (fmC m 9) = _
    rw [p3 (i := 9) (c1 := 116) (c2 := 84) (c3 := 120) (by decide) 0 9 hm rfl (t513 m hm)]
    exact (in3 _ _ (bt_bd m 0) (bt_bd m 9)).2.1
  | 1, _ => by
    show inB "rwxst" (fmC m 8) = _
    rw [p1 (i := 8) (ch := 119) (by decide) 1 hm rfl]
    exact in1 (.inr rfl) _ (bt_bd m 1)
  | 2, _ => by
    show inB "rwxst" (fmC m 7) = _
    rw [p1 (i := 7) (ch := 114) (by decide) 2 hm rfl]
    exact in1 (.inl rfl) _ (bt_bd m 2)
  | 3, _ => by
    show inB "rwxst" (fmC m 6) = _
    rw [p3 (i := 6) (c1 := 115) (c2 := 83) (c3 := 120) (by decide) 3 10 hm rfl (t1032 m hm)]
    exact (in3 _ _ (bt_bd m 3) (bt_bd m 10)).1
  | 4, _ => by
    show inB "rwxst" (fmC m 5) = _
    rw [p1 (i := 5) (ch := 119) (by decide) 4 hm rfl]
    exact in1 (.inr rfl) _ (bt_bd m 4)
  | 5, _ => by
    show inB "rwxst" (fmC m 4) = _
    rw [p1 (i := 4) (ch := 114) (by decide) 5 hm rfl]
    exact in1 (.inl rfl) _ (bt_bd m 5)
  | 6, _ => by
    show inB "rwxst" (fmC m 3) = _
    rw [p3 (i := 3) (c1 := 115) (c2 := 83) (c3 := 120) (by decide) 6 11 hm rfl (t2112 m hm)]
    exact (in3 _ _ (bt_bd m 6) (bt_bd m 11)).1
  | 7, _ => by
    show inB "rwxst" (fmC m 2) = _
    rw [p1 (i := 2) (ch := 119) (by decide) 7 hm rfl]
    exact in1 (.inr rfl) _ (bt_bd m 7)
  | 8, _ => by
    show inB "rwxst" (fmC m 1) = _
    rw [p1 (i := 1) (ch := 114) (by decide) 8 hm rfl]
    exact in1 (.inl rfl) _ (bt_bd m 8)
  | 9, _ => by
    show inB "sStT" (fmC m 9) = _
    rw [p3 (i := 9) (c1 := 116) (c2 := 84) (c3 := 120) (by decide) 0 9 hm rfl (t513 m hm)]
    exact (in3 _ _ (bt_bd m 0) (bt_bd m 9)).2.2.2
  | 10, _ => by
    show inB "sStT" (fmC m 6) = _
    rw [p3 (i := 6) (c1 := 115) (c2 := 83) (c3 := 120) (by decide) 3 10 hm rfl (t1032 m hm)]
    exact (in3 _ _ (bt_bd m 3) (bt_bd m 10)).2.2.1
  | 11, _ => by
    show inB "sStT" (fmC m 3) = _
    rw [p3 (i := 3) (c1 := 115) (c2 := 83) (c3 := 120) (by decide) 6 11 hm rfl (t2112 m hm)]
    exact (in3 _ _ (bt_bd m 6) (bt_bd m 11)).2.2.1
  | n + 12, h => absurd h (by omega)
theorem numB_snoc (b : Bool) : ∀ l : List Bool, numB (l ++ [b]) = 2 * numB l + b2i b
  | [] => by simp [numB]
  | p :: l => by
    have ih := numB_snoc b l
    show b2i p * 2 ^ (l ++ [b]).length + numB (l ++ [b]) = 2 * (b2i p * 2 ^ l.length + numB l) + b2i b
    rw [ih, List.length_append, List.length_singleton, Int.pow_succ, ← Int.mul_assoc, Int.mul_comm _ 2, Int.mul_add]
    omega
theorem numB_col {f : Int → Bool} {q : Nat} : ∀ {ps : List Int}, (∀ p ∈ ps, b2i (f p) = bt p q) → numB (ps.reverse.map f) = col ps q
  | [], _ => rfl
  | p :: ps, h => by
    rw [List.reverse_cons, List.map_append]
    show numB (ps.reverse.map f ++ [f p]) = _
    rw [numB_snoc, numB_col fun x hx => h x (.tail _ hx), h p (.head _)]
    show _ = bt p q + 2 * col ps q
    omega
theorem row_val {ps : List Int} (hp : ∀ p ∈ ps, 0 ≤ p) {q : Nat} (hq : q < 12) : numB (rowB ps q) = col ps q := by
  unfold rowB
  refine numB_col fun p m => ?_
  rw [shows_bit (hp p m) q hq]
  rcases bt_bd p q with e | e <;> rw [e] <;> rfl
theorem half {a : Int} (k : Nat) : a / 2 ^ (k + 1) = a / 2 / 2 ^ k := by
  rw [Int.pow_succ, Int.mul_comm, Int.ediv_ediv, if_neg (fun h => absurd h.1 (by decide)), Int.sub_zero]
theorem col_bit : ∀ {ps : List Int} {k : Nat} {p : Int}, ps[k]? = some p → ∀ q, col ps q / 2 ^ k % 2 = bt p q
  | [], _, _, e, _ => by simp at e
  | x :: ps, 0, p, e, q => by
    have e : x = p := by simpa using e
    subst e
    show (bt x q + 2 * col ps q) / 1 % 2 = bt x q
    rw [Int.ediv_one, Int.add_mul_emod_self_left]
    rcases bt_bd x q with e | e <;> rw [e] <;> rfl
  | x :: ps, k + 1, p, e, q => by
    have ih := col_bit (ps := ps) (k := k) (p := p) (by simpa using e) q
    rw [half]
    show (bt x q + 2 * col ps q) / 2 / 2 ^ k % 2 = bt p q
    have e2 : (bt x q + 2 * col ps q) / 2 = col ps q := by
      rw [Int.add_mul_ediv_left _ _ (by decide)]
      rcases bt_bd x q with e | e <;> rw [e] <;> exact Int.zero_add _
    rw [e2, ih]
noncomputable def bitsOf (ct : List Int) (k : Nat) : List Int := ct.map fun c => c / 2 ^ k % 2
theorem counts_len (xs : List Int) (n : Nat) : (countsP xs n).length = 16 := by
  unfold countsP
  rw [List.length_map, ctF_len]
theorem plane_bits {xs : List Int} {n k : Nat} {p : Int} (h1 : 1 ≤ n) (e : (planesP xs n)[k]? = some p) : btsP p = bitsOf (countsP xs n) k := by
  have hl := counts_len xs n
  refine List.ext_getElem (by simp [btsP, bitsOf, hl]) fun q g1 g2 => ?_
  have hq : q < 16 := by simpa [btsP] using g1
  have c := counts_at (n := n) hq xs
  obtain ⟨_, _, pc⟩ := planes_col (n := n) hq h1 xs
  have cb := col_bit e q
  rw [pc, ← c] at cb
  rw [List.getD_eq_getElem?_getD, List.getElem?_eq_getElem (by omega : q < (countsP xs n).length)] at cb
  simp only [Option.getD_some] at cb
  simp only [btsP, bitsOf, List.getElem_map, List.getElem_range]
  exact cb.symm
structure PlainF (ps ct : List Int) (n : Nat) : Prop where
  len : ps.length = n
  ctl : ct.length = 16
  txt : ∀ k p, ps[k]? = some p → fmS p = ⟨(textI (bitsOf ct k) 3).toArray⟩ ∧ Builtin.bitAnd p 61440 = 4096 * numP ((bitsOf ct k).drop 12)
  PB : ∀ q, q < 12 → numB (rowB ps q) = ct.getD q 0
  PC : ∀ q, q < 12 → 0 ≤ ct.getD q 0 ∧ ct.getD q 0 < ((2 ^ n : Nat) : Int)
theorem plain {xs : List Int} {n : Nat} (h1 : 1 ≤ n) : PlainF (planesP xs n) (countsP xs n) n := by
  obtain ⟨l, nn, _⟩ := planes_col (q := 0) (by decide) h1 xs
  refine ⟨l, counts_len xs n, fun k p e => ?_, fun q hq => ?_, fun q hq => ?_⟩
  · have hp : 0 ≤ p := nn p (List.mem_of_getElem? e)
    rw [← plane_bits h1 e]
    exact ⟨fmS_bits hp, ifmt_bits hp⟩
  · rw [row_val nn hq, (planes_col (by omega) h1 xs).2.2, counts_at (by omega)]
  · rw [counts_at (by omega)]
    have h0 : (0 : Int) < 2 ^ n := Int.pow_pos (by decide)
    have e : ((2 ^ n : Nat) : Int) = 2 ^ n := by norm_cast
    rw [e]
    exact ⟨Int.emod_nonneg _ (Int.ne_of_gt h0), Int.emod_lt_of_pos _ h0⟩
end Mine
end
section
open PySem PySem.W PyProof.Rows PySem.Calls PySem.W.X
set_option Elab.async false
set_option maxRecDepth 100000
set_option maxHeartbeats 400000
set_option linter.unusedVariables false
namespace Mine
theorem n_lawtext (c : Cx) : nsIn (K2 c) mainGlobals (Str.ofString "_law_text") = some (some (.ref 101)) := by kernel_rfl
/-- a walk that leaves all but the frame's names keeps what is hard -/
theorem hk_but {h h₁ h₂ : Heap} {L : Addr} {m : Str → Option Value} {news : List (Addr × Obj)} (D : Led h L m h₁ news) (k : ∀ b o, b ≠ L → h₁.get? b = some o → h₂.get? b = some o) : Hk h₁ h₂ := fun b o _ d e => k b o (fun q => by
  obtain ⟨oc, es, ep, ec, dc, _⟩ := D.fr.ns
  rw [q, ec] at e
  cases e
  exact d.2.1 _ _ dc) e
theorem bits01 (ct : List Int) (k : Nat) (hl : ct.length = 16) : ∀ i, i < 16 → (bitsOf ct k).getD i 0 = 0 ∨ (bitsOf ct k).getD i 0 = 1 := by
  intro i hi
  unfold bitsOf
  rw [List.getD_eq_getElem?_getD, List.getElem?_map, List.getElem?_eq_getElem (by omega : i < ct.length)]
  simp only [Option.map_some, Option.getD_some]
  generalize ct[i] / 2 ^ k = y
  omega
/-- the invariant of the check loop -/
noncomputable abbrev ChkInv (h : Heap) (L PL : Addr) (o1 o2 o4 o5 o6 : Obj) (i : Nat) (l' : List (Str × Value)) (news : List (Addr × Obj)) (hh : Heap) : Prop := ∃ o3 v3, news = cellsN L o1 o2 o3 o4 o5 o6 #[] #[] ∧ o3.data = .cell v3 ∧ lk l' (Str.ofString "planes") = some (.ref PL) ∧ Hk h hh
theorem tailCheck {c : Cx} {A : Around} {h h₀ : Heap} {L : Addr} {mg mb : Str → Option Value} {l : List (Str × Value)} {Q : Flow → Heap → Prop} {n : Nat} {CL TL PL : Addr} {o1 o2 o3 o4 o5 o6 : Obj} {v3 v4 v5 : Option Value} {tz : Tok} {tv cv pv : List Value} {ps ct : List Int}
    (r : Room A 49 147) (hL : 113 < L) (G : Gd (K2 c) mg mb h₀) (Bm₀ : Bm mg h₀) (D : Led h₀ L (lk l) h (cellsN L o1 o2 o3 o4 o5 o6 #[] #[]))
    (hpn : lk l (Str.ofString "planes") = some (.ref PL))
    (d1 : o1.data = .cell (some (.ref TL))) (d3 : o3.data = .cell v3) (d5 : o5.data = .cell v5) (d6 : o6.data = .cell (some (.int (n : Int) tz))) (d4 : o4.data = .cell v4) (d2 : o2.data = .cell (some (.ref CL)))
    (hpl : LsA h PL pv) (hpi : IntsL pv ps) (htl : LsA h TL tv) (hti : TextsL tv ps)
    (h1 : 0 < n) (h4 : n ≤ 4) (hcl : LsA h CL cv) (hci : IntsL cv ct) (P : PlainF ps ct n)
    (q : ∀ h' ta tb, Keep h₀ h' → h'.get? 110 = some (tabObj ta) → h'.get? 63 = some (tabObj tb) → Q (.ret (.bool true)) h') :
    wq c A (execs ((lawB c).drop 5) (lawE c L)) Q h := by
  have s16 : 16 ≤ sizeLine := by decide
  have hcv : cv.length = 16 := (ints_len hci).trans P.ctl
  have hpv : pv.length = n := (ints_len hpi).trans P.len
  have htv : tv.length = n := (texts_len hti).trans P.len
  obtain ⟨sm, rz⟩ := rs1 n (by omega) 0 (Nat.zero_le _)
  show wq c A (execs (_ :: _) (envX _ _ L 113 _ _)) _ _
  refine s_cons ?_
  refine sF ?_
  refine q_CallN ?_
  refine db (.type "range") D G (n_range' c) b_range x_range ?_
  refine qw ?_
  refine ac ?_
  refine q_cell (cA := L + 6) rfl (D.at 0 rfl) d6 rfl rfl rfl ?_
  refine a_nil ⟨kp_type, ?_⟩
  refine c_range1K D fun R t7 t8 t9 h₁ D k1 => ?_
  refine i_rangeK (j := 0) D rfl sm rz fun I h₂ D k2 => ?_
  have D := led_sub D (news' := (I, rI 0 ((n - 0 : Nat) : Int) 1) :: cellsN L o1 o2 o3 o4 o5 o6 #[] #[]) (List.Sublist.cons_cons _ (List.Sublist.cons _ (List.Sublist.refl _)))
  refine for_rangeK (n := n) (a := 0) (e := 1) r.handled (ChkInv h L PL o1 o2 o4 o5 o6) ?soft ?turn ?done n 0 0 ((n - 0 : Nat) : Int) I l _ h₂ rfl (Nat.zero_le _) rfl rfl ⟨o3, v3, rfl, d3, hpn, k1.hk.trans k2.hk⟩ D
  case soft =>
    rintro i l' news ha hb ⟨o3, v3, rfl, d3, e1, H⟩ hk'
    exact ⟨o3, v3, rfl, d3, e1, H.trans hk'⟩
  case done =>
    rintro l' news hh ⟨o3, v3, rfl, d3, e1, H⟩ D
    refine s_nil ?_
    show wq c _ (execs _ _) _ _
    exact tailShown r hL G Bm₀ D d1 d5 d6 d4 d2 P.len (htl.hk H) hti h1 h4 (hcl.hk H) hci P.ctl P.PB P.PC q
  case turn =>
    rintro i ti I' o' l' news hh hi ⟨o3, v3, rfl, d3, e1, H⟩ D
    have e0 : (0 : Int) + (i : Int) * 1 = (i : Int) := by omega
    rw [e0]
    obtain ⟨p1, p2, p3, p4⟩ := pow16 i (by omega)
    obtain ⟨p, hp⟩ : ∃ p, ps[i]? = some p := ⟨ps[i]'(by rw [P.len]; exact hi), by simp [P.len, hi]⟩
    obtain ⟨Pt, Pi⟩ := P.txt i p hp
    have D : Led h₀ L (lk l') hh ([(I', o')] ++ cellsN L o1 o2 o3 o4 o5 o6 #[] #[]) := D
    refine dsCK (j := 3) (cA := L + 3) D rfl d3 rfl fun h₃ o3' D d3' hk3 => ?_
    have D : Led h₀ L (lk l') h₃ ((I', o') :: cellsN L o1 o2 o3' o4 o5 o6 #[] #[]) := D
    have H3 := H.trans hk3
    refine wq.gen fun Q1 k1 => ?_
    refine s_cons ?_
    refine s_compS (l := l') (h₀ := h₀) (n := cv.toArray.size) (P := fun j v => cv.toArray[j]? = some v) (cl := [(Str.ofString "k", L + 3)]) (fun _ => true) (fun v y => ∃ a t t', v = .int a t ∧ y = .int (a / 2 ^ i % 2) t') rfl rfl (by decide) rfl (by decide) rfl (fun _ => rfl) (by simp; omega) rfl rfl ?_
    refine q_cell (cA := L + 2) rfl (D.at 5 rfl) d2 rfl rfl rfl ?_
    refine ⟨src_list r.handled (hcl.hk H3).2, .inl ⟨rfl, fun _ => rfl⟩, ?elt, _, D, fun M ys us h₅ nM hlM hlen hP hF D₅ kb => ?_⟩
    case elt =>
      rintro c' ec ew C j v h₂ m₂ hv _ kp hns hm
      obtain ⟨y, ty, _, rfl⟩ := ints_get hci (i := j) (v := v) (by simpa using hv)
      refine q_BinOp ?_
      refine q_BinOp ?_
      refine e_local hns hm ?_
      refine q_BinOp ?_
      refine q_int fun t1 => ?_
      refine e_cell (cA := L + 3) (kp _ _ (D.at 4 rfl)) d3' ?_
      refine q_pow (Int.natCast_nonneg _) p3 fun t2 => ?_
      refine q_div p1 p2 fun t3 => ?_
      refine q_int fun t4 => ?_
      refine q_mod (by decide) (by decide) fun t5 => ⟨⟨y, ty, t5, rfl, rfl⟩, fun _ _ e => e⟩
    have H5 := H3.trans (hk_but D kb)
    have lM : LsA h₅ M ys := ⟨notT (D.at 7 rfl) (D.at 8 rfl) nM, hlM⟩
    have D := D₅
    clear D₅ kb nM hlM
    have hF' : Paired (fun v y => ∃ a t t', v = Value.int a t ∧ y = Value.int (a / 2 ^ i % 2) t') us ys := by
      have e : us.filter (fun _ => true) = us := by simp
      rw [e] at hF; exact hF
    have hus := list_same hlen hP
    subst hus
    have hbi : IntsL ys (bitsOf ct i) := paired_map (f := fun a => a / 2 ^ i % 2) hF' hci
    have hbl : (bitsOf ct i).length = 16 := by simp [bitsOf, P.ctl]
    have hyl : ys.length = 16 := (ints_len hbi).trans hbl
    refine s_cons ?_
    refine wq.gen fun Q2 k2 => ?_
    refine s_If ?_
    refine t_Or ?_
    refine wq.gen fun Q3 k3 => ?_
    refine tC ?_
    refine q_Subscript ?_
    refine q_cell (cA := L + 1) rfl (D.at 6 rfl) d1 rfl rfl rfl ?_
    refine q_cell (cA := L + 3) rfl (D.at 4 rfl) d3' rfl rfl rfl ?_
    obtain ⟨tt, hv⟩ := texts_at hti hp
    refine d_item (htl.hk H5).2 rfl (by omega) hv ?_
    refine q_CallN ?_
    refine dg D G (n_lawtext c) ?_
    refine qw ?_
    refine ac ?_
    refine dl D ?_
    refine a_nil ⟨kp_fn ((G.keeps D.fr.keep).X 101 _ rfl) rfl, ?_⟩
    refine wq.mono (lawtext (r.le (by decide) (by decide)) (G.keeps D.fr.keep) lM.2 hbi hbl (bits01 ct i P.ctl)) fun w h₆ H₆ => ?_
    obtain ⟨⟨t6, rfl⟩, k6⟩ := H₆
    have D := led_grow D k6
    have H6 := H5.trans k6.hk
    refine q_neStr ?_
    refine t_bool ?_
    refine k3 _ _ ?_
    clear k3 Q3
    rw [Pt]
    rw [if_neg (by simp)]
    refine wq.gen fun Q3 k3 => ?_
    refine tC ?_
    refine q_CallN ?_
    refine dg D G (n_ifmt c) ?_
    refine qw ?_
    refine ac ?_
    refine q_Subscript ?_
    refine dv D e1 ?_
    refine q_cell (cA := L + 3) rfl (D.at 4 rfl) d3' rfl rfl rfl ?_
    obtain ⟨tq, hv⟩ := ints_get2 hpi hp
    refine d_item (hpl.hk H6).2 rfl (by omega) hv ?_
    refine a_nil ⟨kp_fn ((G.keeps D.fr.keep).X 21 _ rfl) rfl, ?_⟩
    refine wq.mono (ifmt (r.le (by decide) (by decide)) (G.keeps D.fr.keep)) fun w h₇ H₇ => ?_
    obtain ⟨⟨t7, rfl⟩, k7⟩ := H₇
    have D := led_grow D k7
    have H7 := H6.trans k7.hk
    refine q_BinOp ?_
    refine q_int fun t8 => ?_
    refine q_CallN ?_
    refine dg D G (n_lawnumber c) ?_
    refine qw ?_
    refine ac ?_
    refine q_sliceFrom D ?_
    refine dl D ?_
    refine q_int fun t9 => ?_
    refine ⟨M, ys, 12, t9, rfl, rfl, (lM.hk (k6.hk.trans k7.hk)).2, by omega, D, fun S h₈ D k8 lS => ?_⟩
    rw [slice_12 hyl] at D
    refine a_nil ⟨kp_fn ((G.keeps D.fr.keep).X 94 _ rfl) rfl, ?_⟩
    refine wq.mono (lawnumber (r.le (by decide) (by decide)) (G.keeps D.fr.keep) (led_isList (i := 0) D rfl) (ints_drop 12 hbi) (by simp; omega)) fun w h₉ H₉ => ?_
    obtain ⟨⟨t10, rfl⟩, k9⟩ := H₉
    have D := led_tail (led_grow D k9)
    have H9 := (H7.trans k8.hk).trans k9.hk
    refine q_mul (IntMulOk.of_left (by decide)) fun t11 => ?_
    refine q_ne ?_
    refine t_bool ?_
    refine k3 _ _ ?_
    rw [Pi]
    rw [if_neg (by simp)]
    refine s_nil (k2 _ _ (s_nil (k1 _ _ ⟨_, _, D, o3', _, rfl, d3', e1, H9⟩)))
end Mine
end
section
open PySem PySem.W PyProof.Rows PySem.Calls PySem.W.X
set_option Elab.async false
set_option maxRecDepth 100000
set_option maxHeartbeats 400000
set_option linter.unusedVariables false
namespace Mine
theorem n_filemode (c : Cx) : nsIn (K2 c) mainGlobals (Str.ofString "filemode") = some (some (.ref 61)) := by kernel_rfl
theorem n_reduce (c : Cx) : nsIn (K2 c) mainGlobals (Str.ofString "reduce") = some (some (.ref 77)) := by kernel_rfl
theorem n_lawstep (c : Cx) : nsIn (K2 c) mainGlobals (Str.ofString "_law_step") = some (some (.ref 84)) := by kernel_rfl
theorem n_lawcounts (c : Cx) : nsIn (K2 c) mainGlobals (Str.ofString "_law_counts") = some (some (.ref 89)) := by kernel_rfl
noncomputable def startI (xs : List Int) : List Int := if (xs.take 12).isEmpty then [35273, 9895, 41469, 1012] else xs.take 12
noncomputable def filesI (xs : List Int) : List Int := (startI xs).map (· % (51 * 2 ^ 32))
theorem start_len (xs : List Int) : (startI xs).length ≤ 12 := by
  unfold startI
  split
  · decide
  · exact List.length_take_le ..
theorem files_len (xs : List Int) : (filesI xs).length ≤ 12 := by
  unfold filesI
  rw [List.length_map]
  exact start_len xs
theorem ints_of_get : ∀ {us : List Value} {xs : List Int}, us.length = xs.length → (∀ (j : Nat) v, us[j]? = some v → ∃ x t, xs[j]? = some x ∧ v = Value.int x t) → IntsL us xs
  | [], [], _, _ => trivial
  | [], _ :: _, h, _ => by cases h
  | _ :: _, [], h, _ => by cases h
  | u :: us, x :: xs, h, hP => by
    obtain ⟨y, t, e1, e2⟩ := hP 0 u rfl
    cases e1
    exact ⟨⟨t, e2⟩, ints_of_get (by simpa using h) fun j v hj => hP (j + 1) v hj⟩
theorem paired_texts : ∀ {us ys : List Value}, Paired (fun v y => ∃ a t t', v = Value.int a t ∧ y = Value.str (fmS a) t') us ys → ∀ {xs : List Int}, IntsL us xs → TextsL ys xs := by
  intro us ys P
  induction P with
  | nil => intro xs hx; cases xs with
    | nil => exact trivial
    | cons => exact hx.elim
  | cons hF r ih =>
    intro xs hx
    obtain ⟨a, t, t', rfl, rfl⟩ := hF
    cases xs with
    | nil => exact hx.elim
    | cons x xs =>
      obtain ⟨⟨u, e⟩, hr⟩ := hx
      cases e
      exact ⟨⟨t', rfl⟩, ih hr⟩
theorem list_notT {h : Heap} {M : Addr} {its ta tb : Array Value} (x : h.IsList M its) (e1 : h.get? 110 = some (tabObj ta)) (e2 : h.get? 63 = some (tabObj tb)) : M ∉ T3 := fun q => by
  obtain ⟨o, e, hc, _⟩ := x
  rcases in_T3 q with rfl | rfl
  · rw [e2] at e; cases e; cases hc
  · rw [e1] at e; cases e; cases hc
theorem empty_same {l : List Int} {a : Array Value} (h : a.size = l.length) : l.isEmpty = a.isEmpty := by
  cases l with
  | nil => simp [Array.isEmpty, show a.size = 0 from h]
  | cons x l =>
    have : a.size ≠ 0 := by rw [h]; exact Nat.succ_ne_zero _
    simp [Array.isEmpty, this]
/-- [v] * n; a list made before stays -/
theorem d_mulLF {c : Cx} {A : Around} {h h₀ : Heap} {L FL : Addr} {its : Array Value} {m : Str → Option Value} {news : List (Addr × Obj)} {j : Nat} {Q : Value → Heap → Prop} {l : Addr} {v : Value} {e : Nat} {n : Nat} {u : Tok} (D : Led h₀ L m h news) (hi : news[j]? = some (l, listOf #[v] e)) (hn : n ≤ 16) (hF : h.IsList FL its) (nF : h₀.get? FL = none)
    (q : ∀ M h', Led h₀ L m h' ((M, listOf (List.replicate n v).toArray 0) :: news) → h'.IsList FL its → Q (.ref M) h') : wq c A (binaryOp .Mult (.ref l) (.int n u)) Q h :=
  wq.of fun tk Q' k => by
    obtain ⟨oF, eF, rF⟩ := hF
    have hFL : FL ≠ L := fun q => by
      obtain ⟨oc, es, ep, ec, dc, _⟩ := D.fr.ns
      rw [q, ec] at eF
      cases eF
      obtain ⟨_, _, hd⟩ := rF
      rw [dc] at hd; cases hd
    have N : News h₀ L h ((FL, oF) :: news) := fun p hp => by
      rcases List.mem_cons.mp hp with rfl | hp
      · exact ⟨eF, hFL, nF⟩
      · exact D.nw p hp
    refine mul_list D.fr N (D.at j hi) (by omega) (by omega) (by simp; omega) fun h' F' N' => k _ _ _ ?_
    have e : (List.foldl (fun (x1 x2 : Array Value) => x1 ++ x2) #[] (List.replicate (if (#[v] : Array Value).isEmpty = true then 0 else (n : Int).toNat) #[v])) = (List.replicate n v).toArray := by
      rw [if_neg (by simp), Int.toNat_natCast]
      have : ∀ (k : Nat) (a : List Value), List.foldl (fun (x1 x2 : Array Value) => x1 ++ x2) a.toArray (List.replicate k #[v]) = (a ++ List.replicate k v).toArray := by
        intro k
        induction k with
        | zero => intro a; simp
        | succ k ih =>
          intro a
          rw [List.replicate_succ, List.foldl_cons]
          have e2 : a.toArray ++ #[v] = (a ++ [v]).toArray := by simp
          rw [e2, ih, List.replicate_succ, List.append_assoc]
          rfl
      simpa using this n []
    rw [e] at N'
    refine q _ h' (led_new D F' (fun p hp => N' p ?_) (led_size D)) ⟨oF, (N' (FL, oF) (by simp)).1, rF⟩
    rcases List.mem_cons.mp hp with rfl | hp
    · exact .head _
    · exact .tail _ (.tail _ hp)
theorem stepP_len {ps : List Int} (x : Int) (h : 1 ≤ ps.length) : (stepP ps x).length = ps.length := by
  unfold stepP
  rw [outP_len]
  unfold st0P
  split
  · simp; omega
  · rfl
theorem lawRun {c : Cx} {A : Around} {h : Heap} {mg mb : Str → Option Value} {s : Addr} {vs : List Value} {xs : List Int} (r : Room A 50 150) (G : Gd (K2 c) mg mb h) (B : Bm mg h) (T110 : h.get? 110 = some (tabObj #[])) (T63 : h.get? 63 = some (tabObj #[])) (hs : h.IsList s vs.toArray) (hxs : IntsL vs xs) (hz : vs.length ≤ sizeLine) :
    wq c A (call (.ref 113) [.ref s]) (fun v h' => v = .bool true ∧ Kp h h' ∧ GrownAt 63 h' ∧ GrownAt 110 h') h := by
  refine q_defC (d := 49) (u := 147) (binds := [(Str.ofString "script", .ref s)]) r (G.X 113 _ rfl) rfl G.lim ?a ?b ?c ?d ?e ?f ?_
  case a => exact codeRec_of G.X rfl
  case b => exact fun s _ => BindsTo.of_eq rfl
  case d => exact rfl
  case e => exact rfl
  case f => exact rfl
  case c =>
    intro n x hx
    rw [List.mem_singleton.mp hx]
    exact .inl rfl
  intro L h₁ F hc r'
  refine wq.gen fun Q0 k0 => ?_
  have F' : Fr h L h₁ (lk [(Str.ofString "script", .ref s)]) := by
    rw [← lk_cons]
    exact F
  have hL : 113 < L := Nat.lt_of_lt_of_le (gd_big G) F'.above
  obtain ⟨o1, eo1, d1⟩ : h₁.IsCell (L + 1) none := hc (Str.ofString "told") (L + 1) rfl
  obtain ⟨o2, eo2, d2⟩ : h₁.IsCell (L + 2) none := hc (Str.ofString "counts") (L + 2) rfl
  obtain ⟨o3, eo3, d3⟩ : h₁.IsCell (L + 3) none := hc (Str.ofString "k") (L + 3) rfl
  obtain ⟨o4, eo4, d4⟩ : h₁.IsCell (L + 4) none := hc (Str.ofString "count") (L + 4) rfl
  obtain ⟨o5, eo5, d5⟩ : h₁.IsCell (L + 5) none := hc (Str.ofString "shown") (L + 5) rfl
  obtain ⟨o6, eo6, d6⟩ : h₁.IsCell (L + 6) none := hc (Str.ofString "size") (L + 6) rfl
  clear hc F
  have up : ∀ {a : Addr} {o : Obj} {r : List (Addr × Obj)} {n : Nat}, Led (hid h) L (lk [(Str.ofString "script", .ref s)]) h₁ ((n, o) :: r) → ∀ p ∈ (n, o) :: r, p.1 < n + 1 := fun {a o r n} D p hp => by
    rcases List.mem_cons.mp hp with rfl | hp
    · exact Nat.lt_succ_self _
    · exact Nat.lt_trans ((List.pairwise_cons.mp D.ord).1 p.1 (List.mem_map_of_mem hp)) (Nat.lt_succ_self _)
  have D := led_startT F' T110 T63
  have D := led_add D eo1 (fun p hp => by
    simp only [tabN, List.mem_cons, List.not_mem_nil, or_false] at hp
    rcases hp with rfl | rfl
    · exact Nat.lt_trans (Nat.lt_trans (show (110 : Nat) < 113 by decide) hL) (Nat.lt_succ_self _)
    · exact Nat.lt_trans (Nat.lt_trans (show (63 : Nat) < 113 by decide) hL) (Nat.lt_succ_self _)) (Nat.lt_succ_self L)
  have D := led_add D eo2 (up (a := 0) D) (Nat.lt_add_of_pos_right (by decide))
  have D := led_add D eo3 (up (a := 0) D) (Nat.lt_add_of_pos_right (by decide))
  have D := led_add D eo4 (up (a := 0) D) (Nat.lt_add_of_pos_right (by decide))
  have D := led_add D eo5 (up (a := 0) D) (Nat.lt_add_of_pos_right (by decide))
  have D := led_add D eo6 (up (a := 0) D) (Nat.lt_add_of_pos_right (by decide))
  have D : Led (hid h) L (lk [(Str.ofString "script", .ref s)]) h₁ (cellsN L o1 o2 o3 o4 o5 o6 #[] #[]) := D
  clear up
  have hs' : (hid h).IsList s vs.toArray := by
    obtain ⟨o, ho, hc, n, hd⟩ := hs
    refine ⟨o, hideAll_get _ ho (fun q => ?_), hc, n, hd⟩
    rcases in_T3 q with rfl | rfl
    · rw [T63] at ho; cases ho; cases hc
    · rw [T110] at ho; cases ho; cases hc
  have G₀ := G.hid
  have B₀ := B.kp (kp_to_hid h)
  have s12 : 12 ≤ sizeLine := by decide
  have hfl := files_len xs
  have hsl := start_len xs
  -- files
  refine s_cons ?_
  refine s_compS (l := [(Str.ofString "script", .ref s)]) (h₀ := hid h) (n := (startI xs).length) (P := fun j v => ∃ x t, (startI xs)[j]? = some x ∧ v = .int x t) (cl := []) (fun _ => true) (fun v y => ∃ a t t', v = .int a t ∧ y = .int (a % (51 * 2 ^ 32)) t') rfl rfl (by decide) rfl (by decide) rfl (fun _ => rfl) (by omega) rfl rfl ?_
  refine wq.mono (Q := fun v h₂ => ∃ t ws, v = .ref t ∧ h₂.IsList t (List.toArray ws) ∧ IntsL ws (startI xs) ∧ Led (hid h) L (lk [(Str.ofString "script", .ref s)]) h₂ (cellsN L o1 o2 o3 o4 o5 o6 #[] #[])) ?it fun v h₂ H₂ => ?rest
  case it =>
    refine q_Or ?_
    refine q_sliceTo D ?_
    refine dl D ?_
    refine q_int fun t1 => ?_
    refine ⟨s, vs, 12, t1, rfl, rfl, let ⟨o, e, r⟩ := hs'; ⟨o, D.fr.keep _ _ e, r⟩, hz, D, fun Dl h₂ D k4 lD => ?_⟩
    have hsl : IntsL (slicePick vs.toArray none (some 12) none).toList (xs.take 12) := ints_are (kmk_upto (are_ints hxs) (by decide))
    have hln : (slicePick vs.toArray none (some 12) none).size = (xs.take 12).length := by
      have := ints_len hsl
      rwa [Array.length_toList] at this
    have hsz : (slicePick vs.toArray none (some 12) none).size < 13 := by
      have := List.length_take_le 12 xs
      omega
    refine t_list (led_isList (i := 0) D rfl) (by omega) ?_
    have hst : startI xs = if (slicePick vs.toArray none (some 12) none).isEmpty = true then [35273, 9895, 41469, 1012] else xs.take 12 := by
      unfold startI
      rw [empty_same hln]
    by_cases he : (!(slicePick vs.toArray none (some 12) none).isEmpty) = true
    · rw [if_pos he]
      rw [if_neg (by simpa using he)] at hst
      exact ⟨Dl, _, rfl, by rw [Array.toArray_toList]; exact led_isList (i := 0) D rfl, by rw [hst]; exact hsl, led_tail D⟩
    · rw [if_neg he]
      rw [if_pos (by simpa using he)] at hst
      have D := led_tail D
      refine q_List ?_
      refine ac ?_
      refine q_int fun t2 => ?_
      refine ac ?_
      refine q_int fun t3 => ?_
      refine ac ?_
      refine q_int fun t4 => ?_
      refine ac ?_
      refine q_int fun t5 => ?_
      refine a_nil ?_
      refine d_newList D (show 4 ≤ sizeLine by decide) fun Dn h₅ D => ⟨Dn, _, rfl, led_isList (i := 0) D rfl, by rw [hst]; exact ⟨⟨t2, rfl⟩, ⟨t3, rfl⟩, ⟨t4, rfl⟩, ⟨t5, rfl⟩, trivial⟩, led_tail D⟩
  obtain ⟨t, ws, rfl, hT, hws, D⟩ := H₂
  have hwl := ints_len hws
  have S0 := src_list (c := c) r'.handled hT
  rw [show ws.toArray.size = (startI xs).length by simp [hwl]] at S0
  refine ⟨S0.mono fun i v e => ?_, .inl ⟨rfl, fun _ => rfl⟩, ?elt, _, D, fun FL fv us h₃ nF hFl hlen hP hF D₃ kb => ?_⟩
  · obtain ⟨x, tx, e1, e2⟩ := ints_get hws (i := i) (v := v) (by simpa using e)
    exact ⟨x, tx, e1, e2⟩
  case elt =>
    rintro c' ec ew C j v h₂ m₂ ⟨x, tx, hx, rfl⟩ _ kp hns hm
    refine q_BinOp ?_
    refine e_local hns hm ?_
    refine q_BinOp ?_
    refine q_int fun t1 => ?_
    refine q_BinOp ?_
    refine q_int fun t2 => ?_
    refine q_int fun t3 => ?_
    refine q_pow (by decide) (by decide) fun t4 => ?_
    refine q_mul (IntMulOk.of_left (by decide)) fun t5 => ?_
    refine q_mod (by decide) (by decide) fun t6 => ⟨⟨x, tx, t6, rfl, rfl⟩, fun _ _ e => e⟩
  have hfi : IntsL fv (filesI xs) := by
    have e : us.filter (fun _ => true) = us := by simp
    rw [e] at hF
    exact paired_map (f := fun a => a % (51 * 2 ^ 32)) hF (ints_of_get hlen hP)
  have nF0 : (hid h).get? FL = none := none_keep D.fr.keep nF
  have lF : LsA h₃ FL fv := ⟨notT (D.at 6 rfl) (D.at 7 rfl) nF, hFl⟩
  have D := D₃
  clear D₃ kb hFl hF hP hlen nF S0 hws hT hwl us
  obtain ⟨n, hn⟩ : ∃ n, n = 2 + (filesI xs).length % 3 := ⟨_, rfl⟩
  have h1 : 1 ≤ n := by omega
  have h4 : n ≤ 4 := by omega
  have hfvl : fv.length = (filesI xs).length := ints_len hfi
  -- size
  refine s_cons ?_
  refine sA ?_
  refine q_BinOp ?_
  refine q_int fun t1 => ?_
  refine q_BinOp ?_
  refine q_CallN ?_
  refine db (.builtin "len") D G₀ (n_len c) b_len x_len ?_
  refine qw ?_
  refine ac ?_
  refine dl D ?_
  refine a_nil ⟨kp_bi, ?_⟩
  refine d_len lF.2 (by simp; omega) fun t2 => ?_
  refine q_int fun t3 => ?_
  refine q_mod (by decide) (by decide) fun t4 => ?_
  refine q_add fun t5 => ?_
  have en : (2 : Int) + (fv.toArray.size : Int) % 3 = ((n : Nat) : Int) := by simp [hfvl, hn]
  rw [en]
  refine dsCK (X := []) (j := 0) (cA := L + 6) D rfl d6 rfl fun h₄ o6' D d6' hk4 => ?_
  have D : Led (hid h) L (lk [(Str.ofString "files", .ref FL), (Str.ofString "script", .ref s)]) h₄ (cellsN L o1 o2 o3 o4 o5 o6' #[] #[]) := D
  have lF := lF.hk hk4
  -- planes
  refine s_cons ?_
  refine sA ?_
  refine wq.gen fun Q1 k1 => ?_
  refine q_CallN ?_
  refine dg D G₀ (n_reduce c) ?_
  refine qw ?_
  refine ac ?_
  refine dg D G₀ (n_lawstep c) ?_
  refine ac ?_
  refine dl D ?_
  refine ac ?_
  refine q_BinOp ?_
  refine q_List ?_
  refine ac ?_
  refine q_int fun t6 => ?_
  refine a_nil ?_
  refine d_newListN D (show 1 ≤ sizeLine by decide) fun Z h₅ D k5 nZ => ?_
  have lF := lF.hk k5.hk
  refine q_cell (cA := L + 6) rfl (D.at 1 rfl) d6' rfl rfl rfl ?_
  refine d_mulLF (j := 0) (n := n) D rfl (by omega) lF.2 nF0 fun M h₆ D lF6 => ?_
  have lF : LsA h₆ FL fv := ⟨lF.1, lF6⟩
  clear lF6
  refine a_nil ⟨kp_fn ((G₀.keeps D.fr.keep).X 77 _ rfl) rfl, ?_⟩
  refine wq.mono (reduceL (d := 1) (u := 3) (S := stepP) (xs := filesI xs) (ps0 := List.replicate n 0) (by decide) (r'.le (by decide) (by decide)) (G₀.keeps D.fr.keep) lF.2 hfi (led_isList (i := 0) D rfl) (ints_replicate n) ⟨_, _, (G₀.keeps D.fr.keep).X 84 _ rfl, rfl⟩ (fun ps => ps.length = n) (by simp) (fun ps x hps => (stepP_len x (by omega)).trans hps) fun A' h' M' ws' ps x t' r1 k hM hI ok => lawstep r1 ((G₀.keeps D.fr.keep).keeps k) hM hI (by omega) (by omega)) fun w h₇ H₇ => ?_
  obtain ⟨PL, pv, rfl, hPl, hpi, k7⟩ := H₇
  have D := led_tail (led_tail (led_grow D k7))
  have lF := lF.hk k7.hk
  have P := plain (xs := filesI xs) (n := n) h1
  have hpi : IntsL pv (planesP (filesI xs) n) := hpi
  have lP : LsA h₇ PL pv := ⟨list_notT hPl (D.at 6 rfl) (D.at 7 rfl), hPl⟩
  have hpv : pv.length = n := (ints_len hpi).trans P.len
  clear hPl
  refine k1 _ _ ?_
  clear k1 Q1
  refine dsH D fun h₈ D hk8 => ?_
  have lF := lF.hk hk8
  have lP := lP.hk hk8
  -- told
  refine s_cons ?_
  refine sA ?_
  refine q_compS (n := pv.toArray.size) (P := fun j v => pv.toArray[j]? = some v) (cl := []) (fun _ => true) (fun v y => ∃ a t t', v = .int a t ∧ y = .str (fmS a) t') rfl (by decide) rfl (by decide) rfl (fun _ => rfl) (by simp; omega) ?_
  refine dl D ?_
  refine ⟨src_list r'.handled lP.2, .inl ⟨rfl, fun _ => rfl⟩, ?elt3, fun TL tv us h₉ kp9 nT hTl hlen hP hF => ?_⟩
  case elt3 =>
    rintro c2 ec ew C j v h₂ m₂ hv _ kp hns hm
    obtain ⟨y, ty, _, rfl⟩ := ints_get hpi (i := j) (v := v) (by simpa using hv)
    have eK : K2 c2 = K2 c := by show hd.heap_39 c2.w.params = hd.heap_39 c.w.params; rw [ew]
    have G2 : Gd (K2 c2) mg mb h₂ := eK ▸ (G₀.keeps (Keep.trans D.fr.keep kp))
    refine q_CallN ?_
    refine e_global G2 (n_filemode c2) ?_
    refine qw ?_
    refine ac ?_
    refine e_local hns hm ?_
    refine a_nil ⟨kp_fn (G2.X 61 _ rfl) rfl, ?_⟩
    refine wq.mono (filemode (r'.le (by decide) (by decide)) G2) fun w h₃ H₃ => ?_
    obtain ⟨⟨t1, rfl⟩, k3⟩ := H₃
    exact ⟨⟨y, ty, t1, rfl, rfl⟩, k3⟩
  have lT : LsA h₉ TL tv := ⟨notT (D.at 6 rfl) (D.at 7 rfl) nT, hTl⟩
  have hti : TextsL tv (planesP (filesI xs) n) := by
    have e : us.filter (fun _ => true) = us := by simp
    rw [e] at hF
    have hus := list_same hlen hP
    subst hus
    exact paired_texts hF hpi
  have D := led_grow D kp9
  have lF := lF.hk kp9.hk
  have lP := lP.hk kp9.hk
  clear hTl hF hP hlen nT us
  refine dsCK (X := []) (j := 5) (cA := L + 1) D rfl d1 rfl fun h₁₀ o1' D d1' hk10 => ?_
  have D : Led (hid h) L (lk [(Str.ofString "planes", .ref PL), (Str.ofString "files", .ref FL), (Str.ofString "script", .ref s)]) h₁₀ (cellsN L o1' o2 o3 o4 o5 o6' #[] #[]) := D
  have lF := lF.hk hk10
  have lP := lP.hk hk10
  have lT := lT.hk hk10
  -- counts
  refine s_cons ?_
  refine sA ?_
  refine q_CallN ?_
  refine dg D G₀ (n_lawcounts c) ?_
  refine qw ?_
  refine ac ?_
  refine dl D ?_
  refine ac ?_
  refine q_cell (cA := L + 6) rfl (D.at 0 rfl) d6' rfl rfl rfl ?_
  refine a_nil ⟨kp_fn ((G₀.keeps D.fr.keep).X 89 _ rfl) rfl, ?_⟩
  refine wq.mono (lawcounts (r'.le (by decide) (by decide)) (G₀.keeps D.fr.keep) lF.2 hfi hfl h4) fun w h₁₁ H₁₁ => ?_
  obtain ⟨CL, cv, rfl, hCl, hci, k11⟩ := H₁₁
  have D := led_grow D k11
  have lP := lP.hk k11.hk
  have lT := lT.hk k11.hk
  have lC : LsA h₁₁ CL cv := ⟨list_notT hCl (D.at 6 rfl) (D.at 7 rfl), hCl⟩
  refine dsCK (X := []) (j := 4) (cA := L + 2) D rfl d2 rfl fun h₁₂ o2' D d2' hk12 => ?_
  have D : Led (hid h) L (lk [(Str.ofString "planes", .ref PL), (Str.ofString "files", .ref FL), (Str.ofString "script", .ref s)]) h₁₂ (cellsN L o1' o2' o3 o4 o5 o6' #[] #[]) := D
  show wq c _ (execs _ _) _ _
  exact tailCheck r' hL G₀ B₀ D rfl d1' d3 d5 d6' d4 d2' (lP.hk hk12) hpi (lT.hk hk12) hti (by omega) h4 (lC.hk hk12) hci P fun h' ta tb kk e1 e2 => k0 _ _ ⟨rfl, kp_of_hid kk, ⟨_, e2⟩, ⟨_, e1⟩⟩
end Mine
end
section
open PySem PySem.W PyProof.Rows PySem.Calls PySem.W.X
set_option Elab.async false
set_option maxRecDepth 100000
set_option maxHeartbeats 1000000
namespace Mine
theorem n_law (c : Cx) : nsIn (K2 c) mainGlobals (Str.ofString "law") = some (some (.ref 113)) := by kernel_rfl
theorem hd67 {c : Cx} {mg mb : Str → Option Value} {h : Heap} (G : Gd (K2 c) mg mb h) : CodeHd h 67 63 := ⟨_, _, _, _, _, _, _, _, _, G.X 67 _ rfl, rfl, rfl, rfl, rfl, rfl, rfl, rfl, rfl, by decide⟩
theorem old_of {c : Cx} {mg mb : Str → Option Value} {h h' : Heap} (G : Gd (K2 c) mg mb h) (hT : ∀ P ∈ T3, h.get? P = some (tabObj #[])) (k : Kp h h') (g1 : GrownAt 63 h') (g2 : GrownAt 110 h') : OldK h h' := by
  have key : ∀ P ∈ T3, isCodeTable h P ∧ GrownAt P h' := fun P hP => by
    rcases in_T3 hP with rfl | rfl
    · exact ⟨((hd67 G).tab (hT _ m63)).isCodeTable, g1⟩
    · exact ⟨((hd112 G).tab (hT _ m110)).isCodeTable, g2⟩
  refine ⟨fun b o e => ?_, fun b o e => ?_⟩
  · by_cases hb : b ∈ T3
    · obtain ⟨t, ps, hP⟩ := key b hb
      have e2 := hT b hb
      rw [e] at e2
      cases e2
      exact .inr (.inl ⟨t, rfl, #[], ps, rfl, by rw [Array.empty_append]; exact hP⟩)
    · exact .inl (k b o hb e)
  · by_cases hb : b ∈ T3
    · obtain ⟨_, ps, hP⟩ := key b hb
      exact ⟨_, hP⟩
    · exact ⟨o, k b o hb e⟩
theorem J : PySem.Challenge.rw_mr0176_01.Holds := by
  refine hd ?_
  k_fill
  intro w s₀ s₁ mg mb G Y fa o pm cd doc dV kV ho hd hcd hD hmg hg args vals as hpre hlay hrd hwl hlo
  have KX := km_in_of Y
  have hT := km_tabs_of Y
  refine Ground.open G ?_
  intro T B D TE TW
  clear ho hd hcd hD TE TW B D Y
  wrow_args hpre hlay hrd hwl hlo
  rename_i xs _ _ _ _ _ _ _ sA vs _ hL _ _ _ hI _ hlen _
  have hT' : ∀ P ∈ T3, s₁.heap.get? P = some (tabObj #[]) := fun P hP => hT P (by
    rcases in_T3 hP with rfl | rfl
    · decide
    · decide)
  let c : Cx := ⟨PySem.Challenge.rw_mr0176_01.row.prog, w, s₁.gens, s₁.drawn, s₁.os⟩
  have G' : Gd (K2 c) mg mb s₁.heap := ⟨KX, T.g, T.b, T.builtins, T.nolimit⟩
  have hfa : mg (Str.ofString "law") = some (.ref 113) := mg_of G'.X T.g (n_law c)
  have hfa2 : mg (Str.ofString "law") = some (.ref fa) := hmg
  rw [hfa] at hfa2
  cases hfa2
  have B' : Bm mg s₁.heap := by
    obtain ⟨bm, ob, b1, b2, b3, b4, b5, b6⟩ := T.bmain
    refine ⟨bm, ob, b1, b2, fun q => ?_, b3, b4, b5, b6⟩
    rw [hT' bm q] at b3; cases b3; cases b4
  have rm : Room callerA 50 150 := ⟨rfl, by decide, by decide⟩
  have hlen2 : vs.length ≤ sizeLine := by
    have e1 : vs.length = xs.length := hI.length
    have e2 : (63 : Nat) ≤ sizeLine := by decide
    omega
  have run := lawRun rm G' B' (hT' _ m110) (hT' _ m63) hL (ints_are hI) hlen2
  refine wq.go (c := c) (h := s₁.heap) (tk := s₁.toks) run fun v h' tk' hv => ?_
  obtain ⟨rfl, kp, g1, g2⟩ := hv
  refine ⟨.inl ⟨_, _, [], rfl, fun _ => rfl, ReadsW.bool true, ?post, fun _ => ⟨List.nodup_nil, fun _ hm => (nomatch hm)⟩⟩, old_of G' hT' kp g1 g2, rfl, .of_eq hg⟩
  first | rfl | wrow_post
end Mine
end
set_option Elab.async false
set_option maxRecDepth 100000
set_option maxHeartbeats 4000000
theorem PySem.Challenge.cw_mr0176_01_holds : PySem.Challenge.rw_mr0176_01.Holds := by
  exact Mine.J
