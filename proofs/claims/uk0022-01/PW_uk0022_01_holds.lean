import PyProof.Rows.All
import Wide.All
import OpenK.AllK
import Wide.FinOn
import PySem.Challenge.RW_uk0022_01
set_option Elab.async false
set_option genSizeOf false
set_option genSizeOfSpec false
set_option genInjectivity false
section
open PySem PySem.W PySem.Calls PyProof.Rows
set_option Elab.async false
set_option maxRecDepth 100000
namespace Mine

abbrev Loc := Str → Option Value
abbrev Led := List (Addr × Obj)

/-- the state of an activation: its frame, the objects that it knows, their addresses all different -/
structure Okk (h₀ : Heap) (L : Addr) (h : Heap) (m : Loc) (l : Led) : Prop where
  fr : Fr h₀ L h m
  nw : News h₀ L h l
  nd : (l.map (·.1)).Nodup

structure Cx where
  prog : Program
  w : World
  A : Around
  h₀ : Heap
  L : Addr

def T (C : Cx) {α : Type} (t : Sem α) (m : Loc) (l : Led) (Q : α → Loc → Led → Prop) : Prop :=
  ∀ (s : Shared) (P : α → Shared → Prop) (E : Value → Shared → Prop), Okk C.h₀ C.L s.heap m l →
    (∀ a h' tk m' l', Q a m' l' → Okk C.h₀ C.L h' m' l' → P a { s with heap := h', toks := tk }) →
    wpAny (model C.prog C.w) C.A t P E s

variable {C : Cx} {α β : Type} {m : Loc} {l : Led}

theorem T.mono {t : Sem α} {Q Q' : α → Loc → Led → Prop} (h : T C t m l Q) (k : ∀ a m' l', Q a m' l' → Q' a m' l') : T C t m l Q' :=
  fun s P E O c => h s P E O fun a h' tk m' l' q O' => c a h' tk m' l' (k a m' l' q) O'

theorem T.pure {a : α} {Q : α → Loc → Led → Prop} (h : Q a m l) : T C (pure a : Sem α) m l Q :=
  fun s _ _ O c => wpAny_pure (c a s.heap s.toks m l h O)

theorem T.bind {t : Sem α} {f : α → Sem β} {Q : β → Loc → Led → Prop} (h : T C t m l fun a m' l' => T C (f a) m' l' Q) : T C (t >>= f) m l Q :=
  fun s P E O c => wpAny_bind (h s _ E O fun _ _ _ _ _ q O' => q _ P E O' fun b h'' tk'' m'' l'' q' O'' => c b h'' tk'' m'' l'' q' O'')

theorem T.holding {vs : List Value} {t : Sem α} {Q : α → Loc → Led → Prop} (h : T C t m l Q) : T C (holding vs t) m l Q :=
  fun s P E O c => wpAny_holding (h s P E O c)
theorem T.standAt {p : Pos} {Q : Unit → Loc → Led → Prop} (h : Q () m l) : T C (standAt p) m l Q :=
  fun s _ _ O c => wpAny_standAt (c () s.heap s.toks m l h O)
theorem T.point {Q : Unit → Loc → Led → Prop} (h : Q () m l) : T C point m l Q :=
  fun s _ _ O c => wpAny_point (c () s.heap s.toks m l h O)
theorem T.rule {tag : String} {Q : Unit → Loc → Led → Prop} (h : Q () m l) : T C (rule tag) m l Q :=
  fun s _ _ O c => wpAny_rule (c () s.heap s.toks m l h O)
theorem T.fresh {Q : Tok → Loc → Led → Prop} (h : ∀ t, Q t m l) : T C fresh m l Q :=
  fun s _ _ O c => wpAny_fresh (c s.toks s.heap (s.toks + 1) m l (h _) O)

/-- fewer objects known -/
theorem Okk.sub {h₀ h : Heap} {L : Addr} {m : Loc} {l l' : Led} (O : Okk h₀ L h m l) (hs : l'.Sublist l) : Okk h₀ L h m l' :=
  ⟨O.fr, fun p hp => O.nw p (hs.subset hp), O.nd.sublist (hs.map _)⟩
theorem T.weaken {t : Sem α} {l' : Led} {Q : α → Loc → Led → Prop} (h : T C t m l' Q) (hs : l'.Sublist l) : T C t m l Q :=
  fun s P E O c => h s P E (O.sub hs) c
theorem T.post_sub {t : Sem α} {Q Q' : α → Loc → Led → Prop} (h : T C t m l Q) (k : ∀ a m' l', Q a m' l' → ∃ l'', l''.Sublist l' ∧ Q' a m' l'') : T C t m l Q' :=
  fun s P E O c => h s P E O fun a h' tk m' l' q O' => by
    obtain ⟨l'', hs, q'⟩ := k a m' l' q
    exact c a h' tk m' l'' q' (O'.sub hs)
/-- the order of the objects known is free -/
theorem T.perm {t : Sem α} {l' : Led} {Q : α → Loc → Led → Prop} (h : T C t m l' Q) (hs : l'.Perm l) : T C t m l Q :=
  fun s P E O c => h s P E ⟨O.fr, fun p hp => O.nw p (hs.subset hp), ((hs.map (·.1)).nodup_iff).mpr O.nd⟩ c

/-- the locals with one more -/
def up (m : Loc) (x : Str) (v : Value) : Loc := fun y => if y = x then some v else m y
theorem up_same (m : Loc) (x : Str) (v : Value) : up m x v x = some v := by simp [up]
theorem up_ne {m : Loc} {x y : Str} {v : Value} (h : y ≠ x) : up m x v y = m y := by simp [up, h]
theorem ofString_inj {a b : String} : (Str.ofString a = Str.ofString b) ↔ a = b := by
  refine ⟨fun h => ?_, fun h => by rw [h]⟩
  rw [Str.ofString_eq_toList, Str.ofString_eq_toList] at h
  injection h with h
  have h2 : a.toList.map Char.toNat = b.toList.map Char.toNat := by simpa using congrArg Array.toList h
  have inj : ∀ l l' : List Char, l.map Char.toNat = l'.map Char.toNat → l = l' := by
    intro l
    induction l with
    | nil => intro l' e; cases l' with
      | nil => rfl
      | cons => cases e
    | cons c r ih => intro l' e; cases l' with
      | nil => cases e
      | cons c' r' =>
        simp only [List.map_cons, List.cons.injEq] at e
        rw [ih r' e.2, Char.toNat_inj.mp e.1]
  have h3 := inj _ _ h2
  rw [← String.ofList_toList (s := a), h3, String.ofList_toList]
theorem up_lit_ne {m : Loc} {x y : String} {v : Value} (h : y ≠ x) : up m (Str.ofString x) v (Str.ofString y) = m (Str.ofString y) :=
  up_ne fun e => h (ofString_inj.mp e)

end Mine
end

section
open PySem PySem.W PySem.Calls PyProof.Rows
set_option Elab.async false
set_option maxRecDepth 100000
namespace Mine
variable {C : Cx} {α β : Type} {m : Loc} {l : Led}

theorem T.operate {vs : List Value} {t : Sem Value} {Q : Value → Loc → Led → Prop} (h : T C t m l Q) : T C (operate vs t) m l Q :=
  fun s P E O c Γ p hΓ => by rw [Sem.wp_operate]; exact h s P E O c Γ p hΓ

/-- static facts: the globals, the built-in names -/
structure Stat (mg mb : Loc) (h : Heap) : Prop where
  g : h.Ns mainGlobals mg
  b : h.Ns builtinsNs mb
  nolimit : h.NoLimit
  bm : ∃ bm ob, mg "__builtins__" = some (.ref bm) ∧ bm ≠ builtinsNs ∧ bm ≠ mainGlobals ∧ h.get? bm = some ob ∧ ob.cls = .type "module" ∧ ob.dict = some builtinsNs ∧ ob.data = .plain
theorem Stat.keeps {mg mb : Loc} {h h' : Heap} (S : Stat mg mb h) (k : ∀ b o, h.get? b = some o → h'.get? b = some o) : Stat mg mb h' :=
  ⟨S.g.keeps k, S.b.keeps k, S.nolimit.keeps k, let ⟨bm, ob, a1, a2, a3, a4, r⟩ := S.bm; ⟨bm, ob, a1, a2, a3, k _ _ a4, r⟩⟩

section names
variable {cn : Str} {cs : Scope} {a : Addr} {cd : Value} {cl : List (Str × Addr)} {x : Str} {pos : Pos} {v : Value} {Q : Value → Loc → Led → Prop} {mg mb : Loc}

theorem T_local (hv : m x = some v) (h : Q v m l) (hk : cs.kind = .function := by rfl) (hx : (envX cn cs C.L a cd cl).kindOf x = some .local := by rfl) (hd : (x == ("__debug__" : Str)) = false := by decide) :
    T C (eval (.Name x pos) (envX cn cs C.L a cd cl)) m l Q :=
  fun s _ _ O c => nameX_L O.fr hv (c v s.heap s.toks m l h O) hk hx hd
theorem T_cell {d : Addr} {o : Obj} (hc : cl.lookup x = some d) (hm : (d, o) ∈ l) (hd : o.data = .cell (some v)) (h : Q v m l)
    (hk : cs.kind = .function := by rfl) (hx : (envX cn cs C.L a cd cl).kindOf x = some .cell := by rfl) (hb : (x == ("__debug__" : Str)) = false := by decide) :
    T C (eval (.Name x pos) (envX cn cs C.L a cd cl)) m l Q :=
  fun s _ _ O c => nameX_C O.nw hc hm hd (c v s.heap s.toks m l h O) hk hx hb
theorem T_free {d : Addr} {o : Obj} (hc : cl.lookup x = some d) (hm : (d, o) ∈ l) (hd : o.data = .cell (some v)) (h : Q v m l)
    (hk : cs.kind = .function := by rfl) (hx : (envX cn cs C.L a cd cl).kindOf x = some .free := by rfl) (hb : (x == ("__debug__" : Str)) = false := by decide) (hn : (x == ("__classdict__" : Str)) = false := by decide) :
    T C (eval (.Name x pos) (envX cn cs C.L a cd cl)) m l Q :=
  fun s _ _ O c => nameX_F O.nw hc hm hd (c v s.heap s.toks m l h O) hk hx hb hn
theorem T_global (S : Stat mg mb C.h₀) (e : mg x = some v) (h : Q v m l)
    (hk : cs.kind = .function := by rfl) (hx : (envX cn cs C.L a cd cl).kindOf x = some .globalImplicit := by rfl) (hd : (x == ("__debug__" : Str)) = false := by decide) :
    T C (eval (.Name x pos) (envX cn cs C.L a cd cl)) m l Q :=
  fun s _ _ O c => Name_function_global hk hx (loadGlobal_global (env := envX cn cs C.L a cd cl) (S.g.keeps O.fr.keep) e (c v s.heap s.toks m l h O)) hd
theorem T_builtin (S : Stat mg mb C.h₀) (e : mg x = none) (hv : mb x = some v) (h : Q v m l)
    (hk : cs.kind = .function := by rfl) (hx : (envX cn cs C.L a cd cl).kindOf x = some .globalImplicit := by rfl) (hd : (x == ("__debug__" : Str)) = false := by decide) :
    T C (eval (.Name x pos) (envX cn cs C.L a cd cl)) m l Q :=
  fun s _ _ O c => Name_function_global hk hx (loadGlobal_builtin (env := envX cn cs C.L a cd cl) (S.g.keeps O.fr.keep) e (S.b.keeps O.fr.keep) hv (c v s.heap s.toks m l h O)) hd
end names

section consts
variable {env : Env} {k : Nat} {pos : Pos} {Q : Value → Loc → Led → Prop}
theorem T_int {i : Int} (h : ∀ t, Q (.int i t) m l) : T C (eval (.Constant (.int i) k pos) env) m l Q :=
  fun s _ _ O c => wpAny_Constant_int (c _ s.heap (s.toks + 1) m l (h _) O)
theorem T_str {x : Str} (h : ∀ t, Q (.str x t) m l) : T C (eval (.Constant (.str x) k pos) env) m l Q :=
  fun s _ _ O c => wpAny_mkText (c _ s.heap (s.toks + 1) m l (h _) O)
theorem T_none (h : Q .none m l) : T C (eval (.Constant .none k pos) env) m l Q := T.pure h
theorem T_bool {b : Bool} (h : Q (.bool b) m l) : T C (eval (.Constant (.bool b) k pos) env) m l Q := T.pure h
end consts

section exprs
variable {env : Env} {pos : Pos} {Q : Value → Loc → Led → Prop}
theorem T_BinOp {e1 e2 : Expr} {op : Operator} (h : T C (eval e1 env) m l fun a m1 l1 => T C (eval e2 env) m1 l1 fun b m2 l2 => T C (binaryOp op a b) m2 l2 Q) :
    T C (eval (.BinOp e1 op e2 pos) env) m l Q := by
  rw [arm_eval_BinOp]
  exact T.bind (h.mono fun a m1 l1 h1 => T.bind (T.holding (h1.mono fun b m2 l2 h2 => T.bind (T.standAt (T.operate h2)))))
theorem T_Compare1 {e1 e2 : Expr} {op : CmpOp} (h : T C (eval e1 env) m l fun a m1 l1 => T C (eval e2 env) m1 l1 fun b m2 l2 => T C (compareOp op a b) m2 l2 Q)
    (hm : behindInMarks op e2 = false := by with_unfolding_all rfl) :
    T C (eval (.Compare e1 [op] [e2] pos) env) m l Q := by
  rw [eval_Compare1, markedBehindIn_of_false hm]
  exact T.bind (h.mono fun a m1 l1 h1 => T.bind (T.holding (h1.mono fun b m2 l2 h2 => T.bind (T.standAt (T.operate h2)))))
theorem T_isTrue_Compare1 {e1 e2 : Expr} {op : CmpOp} {whole : Sem Value} {Q : Bool → Loc → Led → Prop}
    (h : T C (eval e1 env) m l fun a m1 l1 => T C (eval e2 env) m1 l1 fun b m2 l2 => T C (compareOp op a b) m2 l2 fun c m3 l3 => T C (truthy c) m3 l3 Q)
    (hm : behindInMarks op e2 = false := by with_unfolding_all rfl) :
    T C (isTrue (.Compare e1 [op] [e2] pos) env whole) m l Q := by
  rw [isTrue_Compare1, markedBehindIn_of_false hm]
  exact T.bind (h.mono fun a m1 l1 h1 => T.bind (T.holding (h1.mono fun b m2 l2 h2 => T.bind (T.standAt (T.bind (T.operate (h2.mono fun c m3 l3 h3 => T.holding h3)))))))
theorem T_isTrue_plain {e : Expr} {whole : Sem Value} {Q : Bool → Loc → Led → Prop} (h : T C whole m l fun v m1 l1 => T C (truthy v) m1 l1 Q)
    (he : isTrue e env whole = (do let v ← whole; standAt e.pos; holding [v] (truthy v)) := by rfl) : T C (isTrue e env whole) m l Q := by
  rw [he]
  exact T.bind (h.mono fun v m1 l1 h1 => T.bind (T.standAt (T.holding h1)))
theorem T_truthy_bool {b : Bool} {Q : Bool → Loc → Led → Prop} (h : Q b m l) : T C (truthy (.bool b)) m l Q := fun s _ _ O c => wpAny_truthy_bool (c b s.heap s.toks m l h O)
theorem T_truthy_none {Q : Bool → Loc → Led → Prop} (h : Q false m l) : T C (truthy .none) m l Q := fun s _ _ O c => truthy_none (c _ s.heap s.toks m l h O)
theorem T_Subscript {value slice : Expr} (h : T C (eval value env) m l fun o m1 l1 => T C (eval slice env) m1 l1 fun i m2 l2 => T C (subscriptTail value slice o i) m2 l2 Q) :
    T C (eval (.Subscript value slice pos) env) m l Q :=
  fun s P E O c => Subscript_ (h s _ E O fun o h' tk m1 l1 h1 O1 => h1 _ _ E O1 fun i h'' tk' m2 l2 h2 O2 => h2 _ _ E O2 fun r h3 tk3 m3 l3 q O3 => c r h3 tk3 m3 l3 q O3)
def notSlice : Expr → Bool
  | .Slice .. => false
  | _ => true
theorem T_SubscriptP {value slice : Expr} (hn : notSlice slice = true) (h : T C (eval value env) m l fun o m1 l1 => T C (eval slice env) m1 l1 fun i m2 l2 => T C (subscriptTail value slice o i) m2 l2 Q) :
    T C (eval (.Subscript value slice pos) env) m l Q := T_Subscript h
end exprs

section stmts
variable {env : Env} {pos : Pos} {Q : Flow → Loc → Led → Prop}
theorem T_nil (h : Q .next m l) : T C (execs [] env) m l Q := T.pure h
def nextOr (C : Cx) (rest : List Stmt) (env : Env) (Q : Flow → Loc → Led → Prop) : Flow → Loc → Led → Prop
  | .next => fun m l => T C (execs rest env) m l Q
  | f => Q f
theorem T_cons {st : Stmt} {rest : List Stmt} (h : T C (exec st env) m l (nextOr C rest env Q)) : T C (execs (st :: rest) env) m l Q := by
  rw [execs_cons]
  refine T.bind (h.mono fun f m1 l1 h1 => ?_)
  cases f with
  | next => exact h1
  | brk => exact T.pure h1
  | cont => exact T.pure h1
  | ret v => exact T.pure h1
def iteT (C : Cx) (body orelse : List Stmt) (env : Env) (Q : Flow → Loc → Led → Prop) : Bool → Loc → Led → Prop
  | true => fun m l => T C (execs body env) m l Q
  | false => fun m l => T C (execs orelse env) m l Q
theorem T_If {test : Expr} {body orelse : List Stmt} (h : T C (isTrue test env (eval test env)) m l (iteT C body orelse env Q)) : T C (exec (.If test body orelse pos) env) m l Q := by
  rw [exec_If]
  refine T.bind (T.standAt (T.bind (h.mono fun b m1 l1 h1 => ?_)))
  cases b <;> exact h1
theorem T_Return {e : Expr} (h : T C (eval e env) m l fun v => Q (.ret v)) : T C (exec (.Return (some e) pos) env) m l Q := by
  rw [exec_Return_some]
  exact T.bind (T.standAt (T.bind (h.mono fun v m1 l1 h1 => T.pure h1)))
theorem T_bindName {x : Str} {v : Value} {Q : Unit → Loc → Led → Prop} (h : T C (storeName env x v) m l Q) : T C (bindName env x v) m l Q :=
  fun s P E O c => wpAny_bindName (h s P E O c)
theorem T_Assign {x : Str} {pos' : Pos} {value : Expr} (h : T C (eval value env) m l fun v m1 l1 => T C (storeName env x v) m1 l1 fun _ => Q .next)
    (hs : swapsWith value (some (.Name x pos')) pos.line env = pure false := by rfl) : T C (exec (.Assign [.Name x pos'] value pos) env) m l Q := by
  rw [exec_Assign_Name env x pos' value pos hs]
  exact T.bind (T.standAt (T.bind (h.mono fun v m1 l1 h1 => T.bind (T.standAt (T.bind (T_bindName (h1.mono fun _ m2 l2 h2 => T.pure h2)))))))
theorem T_ExprStmt {e : Expr} (h : T C (eval e env) m l fun v m1 l1 => v = .none ∧ Q .next m1 l1) (hi : interactive env = false := by rfl) (hs : swapsWith e none pos.line env = pure false := by rfl) :
    T C (exec (.Expr e pos) env) m l Q := by
  rw [exec_Expr env e pos hi hs]
  refine T.bind (T.standAt (T.bind (h.mono fun v m1 l1 h1 => ?_)))
  obtain ⟨rfl, h1⟩ := h1
  rw [dropValue_plain (fun a e => by cases e)]
  exact T.pure h1
end stmts

section stores
variable {cn : Str} {cs : Scope} {a : Addr} {cd : Value} {cl : List (Str × Addr)} {x : Str} {v : Value} {Q : Unit → Loc → Led → Prop}
theorem Okk.setL {h₀ h h' : Heap} {L : Addr} {m m' : Loc} {l : Led} (O : Okk h₀ L h m l) (F : Fr h₀ L h' m') (N : News h₀ L h' l) : Okk h₀ L h' m' l := ⟨F, N, O.nd⟩
theorem T_store (h : Q () (up m x v) l) (hk : cs.kind = .function := by rfl) (hx : (envX cn cs C.L a cd cl).kindOf x = some .local := by rfl) :
    T C (storeName (envX cn cs C.L a cd cl) x v) m l Q :=
  fun s _ _ O c => storeX_L O.fr O.nw (fun h' F' N' => c () h' (s.toks + 1) _ l h (O.setL F' N')) hk hx
end stores
end Mine
end

section
open PySem PySem.W PySem.Calls PyProof.Rows
set_option Elab.async false
set_option maxRecDepth 100000
set_option linter.unusedVariables false
namespace Mine
variable {C : Cx} {α β : Type} {m : Loc} {l : Led} {mg mb : Loc}

/-- the activation stands in the frames as it must -/
structure Act (C : Cx) (env : Env) (outer : List Env) (r : Nat) : Prop where
  below : ∃ A₀ base, Below A₀ base outer C.h₀
  frames : C.A.frames = some (env :: outer)
  frame : env.frame = some C.L
  kind : env.scope.kind = .function
  hand : C.A.handled = none
  depth : C.A.depth + r ≤ 900
  units : C.A.units + 3 * r ≤ 5000

abbrev Cx.deep (C : Cx) (e : Env) (g : Heap) (L : Addr) : Cx := ⟨C.prog, C.w, C.A.deeper e, g, L⟩

theorem Act.deep {env : Env} {outer : List Env} {r : Nat} (K : Act C env outer (r + 1)) {g : Heap} {L' : Addr} {A₀ : Around} {base : Heap} {e : Env} (B : Below A₀ base (env :: outer) g) (hf : e.frame = some L') (hk : e.scope.kind = .function) : Act (C.deep e g L') e (env :: outer) r :=
  ⟨⟨A₀, base, B⟩, by show (C.A.frames.map (e :: ·)) = _; rw [K.frames]; rfl, hf, hk, K.hand, by show C.A.depth + 1 + r ≤ 900; have := K.depth; omega, by show C.A.units + 3 + 3 * r ≤ 5000; have := K.units; omega⟩

abbrev retOf : Flow → Value
  | .ret v => v
  | _ => .none

section call
variable {env : Env} {outer : List Env} {name qual : Str} {params : Arguments} {body : List Stmt} {scope : Scope} {cl : List (Str × Addr)} {dV kV doc pm cdv ct : Value} {an : Option Addr} {fo : Obj} {f : Addr} {pos : List Value} {kw : List (Str × Value)}
  {binds : List (Str × Value)}

theorem T_call_plain {r : Nat} (K : Act C env outer (r + 1)) (S : Stat mg mb C.h₀) {Q : Value → Loc → Led → Prop}
    (ho : C.h₀.get? f = some fo ∨ (f, fo) ∈ l) (hd : fo.data = .func (fnX name qual params body scope cl dV kV doc pm an cdv ct)) (hcd : ∀ h : Heap, (∀ b o, C.h₀.get? b = some o → h.get? b = some o) → (∀ p ∈ l, h.get? p.1 = some p.2) → h.CodeRec cdv qual)
    (hbind : ∀ s : Shared, (∀ b o, C.h₀.get? b = some o → s.heap.get? b = some o) → BindsTo s (fnX name qual params body scope cl dV kV doc pm an cdv ct) ⟨pos, kw⟩ binds)
    (h : ∀ (g : Heap) L', (∀ b o, C.h₀.get? b = some o → g.get? b = some o) → Stat mg mb g → Act (C.deep (envX qual scope L' f cdv cl) g L') (envX qual scope L' f cdv cl) (env :: outer) r →
      T (C.deep (envX qual scope L' f cdv cl) g L') (execs body (envX qual scope L' f cdv cl)) (fun y => binds.reverse.lookup y) l (fun fl _ l' => Q (retOf fl) m l'))
    (hloc : ∀ y ∈ binds, scope.names.lookup y.1 = some .local) (hcell : ∀ x ∈ scope.names, x.2 ≠ .cell)
    (hco : scope.isCoroutine = false := by rfl) (hgen : scope.isGenerator = false := by rfl) (hk : scope.kind = .function := by rfl) :
    T C (call (.ref f) pos kw) m l Q := by
  intro s P E O c
  obtain ⟨A₀, base, B⟩ := K.below
  have ho' : s.heap.get? f = some fo := ho.elim (O.fr.keep _ _) fun q => (O.nw _ q).1
  refine wpAny_call (callX_plain B O.fr O.nw S.nolimit K.frames K.frame K.kind ho' hd (hcd _ O.fr.keep fun p hp => (O.nw p hp).1) (by show C.A.depth < 1000; have := K.depth; omega) (hbind s O.fr.keep) hloc ?_ hcell hco hgen hk)
  intro g L' h₁ FG F' N' B' st lt
  have K' : Act (C.deep (envX qual scope L' f cdv cl) g L') (envX qual scope L' f cdv cl) (env :: outer) r := K.deep B' rfl hk
  refine h g L' st (S.keeps st) K' _ _ _ ⟨F', N', O.nd⟩ ?_
  intro fl h' tk m' l' q O'
  exact ⟨L', m', l', O'.fr, O'.nw, fun F N => c _ h' tk m l' q ⟨F, N, O'.nd⟩⟩

theorem cells_map {cm : Str → Option Value} : ∀ {cs : List (Str × Addr)} {cells : List (Addr × Obj)}, CellsAre cm cs cells → cells.map (·.1) = cs.map (·.2)
  | _, _, .nil => rfl
  | _, _, .cons _ r => by simp only [List.map_cons]; rw [cells_map r]

theorem cellsFrom_addrs : ∀ (names : List (Str × NameKind)) (n : Nat) (acc : List (Str × Addr)), (acc.map (·.2)).Nodup → (∀ p ∈ acc, p.2 < n) →
    ((cellsFrom n names acc).map (·.2)).Nodup ∧ ∀ p ∈ cellsFrom n names acc, p ∈ acc ∨ n ≤ p.2
  | [], n, acc, h1, h2 => ⟨h1, fun p hp => .inl hp⟩
  | (x, k) :: r, n, acc, h1, h2 => by
    unfold cellsFrom
    split
    · have := cellsFrom_addrs r (n + 1) ((x, n) :: acc) (by
        simp only [List.map_cons, List.nodup_cons]
        refine ⟨fun hm => ?_, h1⟩
        obtain ⟨p, hp, e⟩ := List.mem_map.mp hm
        exact absurd (h2 p hp) (by rw [e]; exact Nat.lt_irrefl _)) (fun p hp => by
        rcases List.mem_cons.mp hp with rfl | hp
        · exact Nat.lt_succ_self _
        · exact Nat.lt_succ_of_lt (h2 p hp))
      refine ⟨this.1, fun p hp => ?_⟩
      rcases this.2 p hp with h | h
      · rcases List.mem_cons.mp h with rfl | h
        · exact .inr (Nat.le_refl _)
        · exact .inl h
      · exact .inr (Nat.le_of_succ_le h)
    · exact cellsFrom_addrs r n acc h1 h2

theorem T_call_cells {r : Nat} (K : Act C env outer (r + 1)) (S : Stat mg mb C.h₀) {Q : Value → Loc → Led → Prop}
    (ho : C.h₀.get? f = some fo) (hd : fo.data = .func (fnX name qual params body scope [] dV kV doc pm an cdv ct)) (hcd : C.h₀.CodeRec cdv qual)
    (hbind : ∀ s : Shared, (∀ b o, C.h₀.get? b = some o → s.heap.get? b = some o) → BindsTo s (fnX name qual params body scope [] dV kV doc pm an cdv ct) ⟨pos, kw⟩ binds)
    (hkind : (binds.all fun y => scope.names.lookup y.1 == some .local || scope.names.lookup y.1 == some .cell) = true)
    (hnd : ((cellsFrom 0 scope.names []).map (·.1)).Nodup)
    (h : ∀ (g : Heap) L' cells, (∀ b o, C.h₀.get? b = some o → g.get? b = some o) → Stat mg mb g → Act (C.deep (envOfC qual scope L' f cdv) g L') (envOfC qual scope L' f cdv) (env :: outer) r →
      CellsAre (bindC (envOfC qual scope L' f cdv).kindOf binds fun _ => none) (cellsFrom (L' + 1) scope.names []) cells →
      T (C.deep (envOfC qual scope L' f cdv) g L') (execs body (envOfC qual scope L' f cdv)) (bindL (envOfC qual scope L' f cdv).kindOf binds fun _ => none) (cells ++ l) (fun fl _ l' => Q (retOf fl) m l'))
    (hco : scope.isCoroutine = false := by rfl) (hgen : scope.isGenerator = false := by rfl) (hk : scope.kind = .function := by rfl) :
    T C (call (.ref f) pos kw) m l Q := by
  intro s P E O c
  obtain ⟨A₀, base, B⟩ := K.below
  refine wpAny_call (callX_cells B O.fr O.nw S.nolimit K.frames K.frame K.kind (O.fr.keep _ _ ho) hd (hcd.keeps O.fr.keep) (by show C.A.depth < 1000; have := K.depth; omega) (hbind s O.fr.keep) (kindsX hkind) hnd ?_ hco hgen hk)
  intro g L' h₁ tk cells FG F' N' Y B' st lt
  have K' : Act (C.deep (envOfC qual scope L' f cdv) g L') (envOfC qual scope L' f cdv) (env :: outer) r := K.deep B' rfl hk
  refine h g L' cells st (S.keeps st) K' Y _ _ _ ⟨F', N', ?_⟩ ?_
  · have ca := cellsFrom_addrs scope.names (L' + 1) [] List.nodup_nil (fun _ h => nomatch h)
    rw [List.map_append, cells_map Y]
    refine List.nodup_append.mpr ⟨ca.1, O.nd, fun a ha b hb e => ?_⟩
    obtain ⟨p, hp, rfl⟩ := List.mem_map.mp ha
    obtain ⟨q, hq, rfl⟩ := List.mem_map.mp hb
    have h1 := (ca.2 p hp).resolve_left List.not_mem_nil
    have h2 : q.1 < L' := lt q hq
    have e' : p.2 = q.1 := e
    rw [← e'] at h2
    exact absurd (Nat.lt_of_lt_of_le h2 (Nat.le_of_succ_le h1)) (Nat.lt_irrefl _)
  · intro fl h' tk' m' l' q O'
    exact ⟨L', m', l', O'.fr, O'.nw, fun F N => c _ h' tk' m l' q ⟨F, N, O'.nd⟩⟩
end call
end Mine
end

section
open PySem PySem.W PySem.Calls PyProof.Rows
set_option Elab.async false
set_option maxRecDepth 100000
set_option linter.unusedVariables false
namespace Mine
variable {C : Cx} {α β : Type} {m : Loc} {l : Led} {mg mb : Loc}

/-- one list of objects is the rest of another: taken from it in any order -/
def Sub (l' l : Led) : Prop := ∃ l₁ : Led, l₁.Perm l' ∧ l₁.Sublist l
theorem Sub.refl (l : Led) : Sub l l := ⟨l, .refl l, .refl l⟩
theorem Sub.drop {l' l : Led} {p : Addr × Obj} (h : Sub l' l) : Sub l' (p :: l) := let ⟨a, b, c⟩ := h; ⟨a, b, c.cons p⟩
theorem Sub.nil {l : Led} : Sub [] l := ⟨[], .refl _, List.nil_sublist l⟩
/-- an object stands in a list, and what is left without it -/
def Pick (p : Addr × Obj) (l r : Led) : Prop := ∃ a b, l = a ++ p :: b ∧ r = a ++ b
theorem Pick.here {p : Addr × Obj} {l : Led} : Pick p (p :: l) l := ⟨[], l, rfl, rfl⟩
theorem Pick.there {p q : Addr × Obj} {l r : Led} (h : Pick p l r) : Pick p (q :: l) (q :: r) := by
  obtain ⟨a, b, rfl, rfl⟩ := h
  exact ⟨q :: a, b, rfl, rfl⟩
theorem Pick.perm {p : Addr × Obj} {l r : Led} (h : Pick p l r) : (p :: r).Perm l := by
  obtain ⟨a, b, rfl, rfl⟩ := h
  exact List.perm_middle.symm
theorem Pick.of_mem {p : Addr × Obj} {l : Led} (h : p ∈ l) : ∃ r, Pick p l r := by
  obtain ⟨a, b, e⟩ := List.append_of_mem h
  exact ⟨a ++ b, a, b, e, rfl⟩
theorem Sub.ofSublist {l' l : Led} (h : l'.Sublist l) : Sub l' l := ⟨l', .refl _, h⟩
theorem Sub.ofPerm {l' l : Led} (h : l'.Perm l) : Sub l' l := ⟨l, h.symm, .refl _⟩
theorem Sub.take {p : Addr × Obj} {l' l r : Led} (hp : Pick p l r) (h : Sub l' r) : Sub (p :: l') l := by
  obtain ⟨a, b, rfl, rfl⟩ := hp
  obtain ⟨l₁, hperm, hs⟩ := h
  obtain ⟨x, y, rfl, hx, hy⟩ := List.sublist_append_iff.mp hs
  exact ⟨x ++ p :: y, List.perm_middle.trans (hperm.cons p), hx.append (hy.cons_cons p)⟩
theorem Sub.consP {p : Addr × Obj} {l' l : Led} (h : Sub l' l) : Sub (p :: l') (p :: l) := Sub.take Pick.here h
theorem Sub.mem {l' l : Led} (h : Sub l' l) {p : Addr × Obj} (hp : p ∈ l') : p ∈ l := let ⟨_, a, b⟩ := h; b.subset (a.mem_iff.mpr hp)

theorem Okk.less {h₀ h : Heap} {L : Addr} {m : Loc} {l l' : Led} (O : Okk h₀ L h m l) (hs : Sub l' l) : Okk h₀ L h m l' := by
  obtain ⟨l₁, hp, hs⟩ := hs
  have O' := O.sub hs
  exact ⟨O'.fr, fun p hq => O'.nw p (hp.mem_iff.mpr hq), ((hp.map (·.1)).nodup_iff).mp O'.nd⟩
theorem T.less {t : Sem α} {l' : Led} {Q : α → Loc → Led → Prop} (h : T C t m l' Q) (hs : Sub l' l) : T C t m l Q :=
  fun s P E O c => h s P E (O.less hs) c
theorem T.post {t : Sem α} {Q Q' : α → Loc → Led → Prop} (h : T C t m l Q) (k : ∀ a m' l', Q a m' l' → ∃ l'', Sub l'' l' ∧ Q' a m' l'') : T C t m l Q' :=
  fun s P E O c => h s P E O fun a h' tk m' l' q O' => by
    obtain ⟨l'', hs, q'⟩ := k a m' l' q
    exact c a h' tk m' l'' q' (O'.less hs)

/-- an object is known: of the base, or of the ledger -/
def Seen (C : Cx) (l : Led) (a : Addr) (o : Obj) : Prop := C.h₀.get? a = some o ∨ (a, o) ∈ l
theorem Seen.get {a : Addr} {o : Obj} (x : Seen C l a o) {h : Heap} (O : Okk C.h₀ C.L h m l) : h.get? a = some o :=
  x.elim (O.fr.keep _ _) fun q => (O.nw _ q).1
theorem Seen.sub {a : Addr} {o : Obj} {l' : Led} (x : Seen C l a o) (h : ∀ p ∈ l, p ∈ l') : Seen C l' a o := x.imp id (h _)

/-- one object of the ledger may change -/
def Rep (l : Led) (a : Addr) (o : Obj) (g : Obj → Led) : Prop := ∃ pre post, l = pre ++ (a, o) :: post ∧ ∀ o', g o' = pre ++ (a, o') :: post
theorem Rep.here {l : Led} {a : Addr} {o : Obj} : Rep ((a, o) :: l) a o fun o' => (a, o') :: l := ⟨[], l, rfl, fun _ => rfl⟩
theorem Rep.there {l : Led} {a : Addr} {o : Obj} {p : Addr × Obj} {g : Obj → Led} (h : Rep l a o g) : Rep (p :: l) a o fun o' => p :: g o' := by
  obtain ⟨pre, post, rfl, e⟩ := h
  exact ⟨p :: pre, post, rfl, fun o' => by show p :: g o' = _; rw [e]; rfl⟩
theorem Rep.mem {l : Led} {a : Addr} {o : Obj} {g : Obj → Led} (h : Rep l a o g) : (a, o) ∈ l := by
  obtain ⟨pre, post, rfl, e⟩ := h
  simp
theorem Rep.same {l : Led} {a : Addr} {o : Obj} {g : Obj → Led} (h : Rep l a o g) : g o = l := by
  obtain ⟨pre, post, rfl, e⟩ := h
  exact e o

theorem Okk.push {h₀ h : Heap} {L : Addr} {m : Loc} {l : Led} (O : Okk h₀ L h m l) (o : Obj) (hfree : o.isFreed = false := by rfl) : Okk h₀ L (h.push o) m ((h.objs.size, o) :: l) :=
  ⟨O.fr.push o, News.push O.fr O.nw o hfree, by
    simp only [List.map_cons, List.nodup_cons]
    refine ⟨fun hm => ?_, O.nd⟩
    obtain ⟨p, hp, e⟩ := List.mem_map.mp hm
    exact Nat.lt_irrefl _ (e ▸ Heap.lt_size (O.nw p hp).1)⟩

theorem Okk.grown {h₀ h h' : Heap} {L : Addr} {m : Loc} {l : Led} (O : Okk h₀ L h m l) (k : ∀ b o, h.get? b = some o → h'.get? b = some o) : Okk h₀ L h' m l :=
  ⟨⟨O.fr.ns.keeps k, fun b o e => k _ _ (O.fr.keep b o e), O.fr.above⟩, O.nw.grown k, O.nd⟩
/-- one object of the ledger has changed, or is lost -/
theorem Okk.same {h₀ h h' : Heap} {L a : Addr} {m : Loc} {l : Led} {o o' : Obj} {g : Obj → Led} (O : Okk h₀ L h m l) (r : Rep l a o g) (hs : Heap.ExtBut a h h') (ho : h'.get? a = some o') : Okk h₀ L h' m (g o') := by
  obtain ⟨pre, post, rfl, e⟩ := r
  rw [e]
  have hm : (a, o) ∈ pre ++ (a, o) :: post := by simp
  have ha := O.nw _ hm
  have nd := O.nd
  simp only [List.map_append, List.map_cons, List.nodup_append, List.nodup_cons, List.mem_cons] at nd
  refine ⟨⟨O.fr.ns.at' fun o e => hs _ _ (Ne.symm ha.2.1) e, fun b o e => hs _ _ (fun q => by rw [q, ha.2.2] at e; cases e) (O.fr.keep _ _ e), O.fr.above⟩, fun p hp => ?_, ?_⟩
  · rcases List.mem_append.mp hp with hp | hp
    · have hp' := O.nw p (List.mem_append_left _ hp)
      exact ⟨hs _ _ (nd.2.2 p.1 (List.mem_map_of_mem hp) a (.inl rfl)) hp'.1, hp'.2⟩
    · rcases List.mem_cons.mp hp with rfl | hp
      · exact ⟨ho, ha.2⟩
      · have hp' := O.nw p (List.mem_append_right _ (List.mem_cons_of_mem _ hp))
        refine ⟨hs _ _ (fun q => ?_) hp'.1, hp'.2⟩
        exact nd.2.1.1 (q ▸ List.mem_map_of_mem hp)
  · simpa only [List.map_append, List.map_cons, List.nodup_append, List.nodup_cons, List.mem_cons] using nd
theorem Okk.lost {h₀ h h' : Heap} {L a : Addr} {m : Loc} {l : Led} {o : Obj} (O : Okk h₀ L h m ((a, o) :: l)) (hs : Heap.ExtBut a h h') : Okk h₀ L h' m l := by
  have ha := O.nw _ List.mem_cons_self
  have nd := O.nd
  simp only [List.map_cons, List.nodup_cons] at nd
  refine ⟨⟨O.fr.ns.at' fun o e => hs _ _ (Ne.symm ha.2.1) e, fun b o e => hs _ _ (fun q => by rw [q, ha.2.2] at e; cases e) (O.fr.keep _ _ e), O.fr.above⟩, fun p hp => ?_, nd.2⟩
  have hp' := O.nw p (List.mem_cons_of_mem _ hp)
  exact ⟨hs _ _ (fun q => nd.1 (q ▸ List.mem_map_of_mem hp)) hp'.1, hp'.2⟩

abbrev lo (vs : List Value) (n : Nat := 0) : Obj := { cls := .type "list", data := .seq vs.toArray n }
abbrev tup (vs : List Value) : Obj := { cls := .type "tuple", data := .seq vs.toArray }
theorem Seen.isList {a : Addr} {vs : List Value} {n : Nat} (x : Seen C l a (lo vs n)) {h : Heap} (O : Okk C.h₀ C.L h m l) : h.IsList a vs.toArray := ⟨_, x.get O, rfl, n, rfl⟩

section ops
variable {a b : Int} {t u : Tok} {x y : Str} {Q : Value → Loc → Led → Prop}
theorem T_add_int (h : ∀ t, Q (.int (a + b) t) m l) : T C (binaryOp .Add (.int a t) (.int b u)) m l Q := fun s _ _ O c => add_int (c _ s.heap _ m l (h _) O)
theorem T_sub_int (h : ∀ t, Q (.int (a - b) t) m l) : T C (binaryOp .Sub (.int a t) (.int b u)) m l Q := fun s _ _ O c => sub_int (c _ s.heap _ m l (h _) O)
theorem T_mul_int (h : ∀ t, Q (.int (a * b) t) m l) (hs : IntMulOk a b) : T C (binaryOp .Mult (.int a t) (.int b u)) m l Q := fun s _ _ O c => mul_int (c _ s.heap _ m l (h _) O) hs
theorem T_mod_int (hh : C.A.handled = none) (hb : b ≠ 0) (h : ∀ t, Q (.int (Int.fmod a b) t) m l) : T C (binaryOp .Mod (.int a t) (.int b u)) m l Q :=
  fun s _ _ O c => mod_int_or hh (fun e => absurd e hb) fun _ => c _ s.heap _ m l (h _) O
theorem T_fdiv_int (hh : C.A.handled = none) (hb : b ≠ 0) (h : ∀ t, Q (.int (Int.fdiv a b) t) m l) (hl : Builtin.divisionGoesByPylong a b = false) : T C (binaryOp .FloorDiv (.int a t) (.int b u)) m l Q :=
  fun s _ _ O c => floordiv_int_or hh (fun e => absurd e hb) (fun _ => c _ s.heap _ m l (h _) O) fun _ => .inl hl
theorem T_add_str (hs : x.length + y.length ≤ sizeLine) (h : ∀ t, Q (.str (x ++ y) t) m l) : T C (binaryOp .Add (.str x t) (.str y u)) m l Q :=
  fun s _ _ O c => add_str (fun _ _ => c _ s.heap _ m l (h _) O) hs
theorem T_eq_int (h : Q (.bool (a == b)) m l) : T C (compareOp .Eq (.int a t) (.int b u)) m l Q := fun s _ _ O c => eq_int (c _ s.heap s.toks m l h O)
theorem T_ne_int (h : Q (.bool (a != b)) m l) : T C (compareOp .NotEq (.int a t) (.int b u)) m l Q := fun s _ _ O c => ne_int (c _ s.heap s.toks m l h O)
theorem T_lt_int (h : Q (.bool (decide (a < b))) m l) : T C (compareOp .Lt (.int a t) (.int b u)) m l Q := fun s _ _ O c => lt_int (c _ s.heap s.toks m l h O)
theorem T_gt_int (h : Q (.bool (decide (b < a))) m l) : T C (compareOp .Gt (.int a t) (.int b u)) m l Q := fun s _ _ O c => gt_int (c _ s.heap s.toks m l h O)
theorem T_ge_int (h : Q (.bool (decide (b ≤ a))) m l) : T C (compareOp .GtE (.int a t) (.int b u)) m l Q := fun s _ _ O c => ge_int (c _ s.heap s.toks m l h O)
theorem T_eq_str (h : Q (.bool (x == y)) m l) : T C (compareOp .Eq (.str x t) (.str y u)) m l Q := fun s _ _ O c => eq_str (c _ s.heap s.toks m l h O)
theorem T_ne_str (h : Q (.bool (x != y)) m l) : T C (compareOp .NotEq (.str x t) (.str y u)) m l Q := fun s _ _ O c => ne_str (c _ s.heap s.toks m l h O)
theorem T_lt_str (h : Q (.bool (decide (x.cps.toList < y.cps.toList))) m l) : T C (compareOp .Lt (.str x t) (.str y u)) m l Q := fun s _ _ O c => lt_str (c _ s.heap s.toks m l h O)
theorem T_in_str (h : Q (.bool (!(Builtin.Str.occurrences x y 0 x.length 1).isEmpty)) m l) : T C (compareOp .In (.str y u) (.str x t)) m l Q := fun s _ _ O c => in_str (c _ s.heap s.toks m l h O)
theorem T_lt_bool {p q : Bool} (h : Q (.bool (decide (b2i p < b2i q))) m l) : T C (compareOp .Lt (.bool p) (.bool q)) m l Q := fun s _ _ O c => lt_bool (c _ s.heap s.toks m l h O)
theorem T_is_none {v : Value} (h : Q (.bool (v == .none)) m l) : T C (compareOp .Is v .none) m l Q := fun s _ _ O c => is_none_gen (c _ s.heap s.toks m l h O)
theorem T_isNot_none {v : Value} (h : Q (.bool (!v == .none)) m l) : T C (compareOp .IsNot v .none) m l Q := fun s _ _ O c => isNot_none (c _ s.heap s.toks m l h O)
theorem T_isNot_plain {v v' : Value} (hp : PySem.plainIs v v' = true) (h : Q (.bool (!v == v')) m l) : T C (compareOp .IsNot v v') m l Q := fun s _ _ O c => wpAny_isNot_plain hp (c _ s.heap s.toks m l h O)
end ops

section lists
variable {a : Addr} {vs : List Value} {n : Nat} {k : Int} {u : Tok} {Q : Value → Loc → Led → Prop}
theorem T_newList (hs : vs.length ≤ sizeLine) (h : ∀ d, Q (.ref d) m ((d, lo vs) :: l)) : T C (newList vs) m l Q :=
  fun s _ _ O c => newList_N O.fr O.nw (fun h' F N => c _ h' s.toks m _ (h _) ⟨F, N, (O.push (lo vs)).nd⟩) hs
theorem T_len_list (hl : Seen C l a (lo vs n)) (hs : vs.length < 2 ^ 63) (h : ∀ t, Q (.int vs.length t) m l) : T C (call (.builtin "len") [.ref a]) m l Q :=
  fun s _ _ O c => len_list (hl.isList O) (by rw [List.size_toArray]; exact_mod_cast hs) (by rw [List.size_toArray]; exact c _ s.heap _ m l (h _) O)
theorem T_item_list {value slice : Expr} {x : Value} (hl : Seen C l a (lo vs n)) (h0 : 0 ≤ k) (h1 : k < 2 ^ 63) (hx : vs[k.toNat]? = some x) (h : Q x m l)
    (hs : subscripted slice false (.ref a) (.int k u) = operate [.ref a, .int k u] (getItem (.ref a) (.int k u)) := by with_unfolding_all rfl) (ht : ∀ r, letTemporaryGo value (.ref a) r = pure () := by intro _; with_unfolding_all rfl) :
    T C (subscriptTail value slice (.ref a) (.int k u)) m l Q :=
  fun s _ _ O c => item_listL (hl.isList O) h0 h1 hx (c _ s.heap s.toks m l h O) hs ht
theorem T_append {x : Value} {g : Obj → Led} (r : Rep l a (lo vs n) g) (hs : vs.length ≤ sizeLine) (h : Q .none m (g (lo (vs ++ [x]) (n + 1)))) : T C (call (.builtin "list.append") [.ref a, x]) m l Q := by
  intro s P E O c
  have ho := (O.nw _ r.mem).1
  refine wpAny_call_entry slot_list_append ⟨_, ho, rfl⟩ entry_list_append ?_ (args_list_append _ _)
  show wpAny _ _ (updateSeq a (·.push x) >>= fun _ => ret .none) _ _ s
  refine wpAny_bind ?_
  have e : Obj.mapSeq (·.push x) (lo vs n) = lo (vs ++ [x]) (n + 1) := by rw [lo, Obj.mapSeq_push_plain]; simp
  refine wpAny_updateSeq ho rfl (wpAny_pure ⟨.none, rfl, c _ _ s.toks m _ h (O.same r (Heap.SameBut.update ..).extBut ?_)⟩) (hz := by simpa using hs) (_hz' := by simp; omega)
  rw [Heap.get?_update_self _ ho (by rw [e]; rfl), e]
end lists
end Mine
end

section
open PySem PySem.W PySem.Calls PyProof.Rows
set_option Elab.async false
set_option maxRecDepth 100000
set_option linter.unusedVariables false
namespace Mine
variable {C : Cx} {α β : Type} {m : Loc} {l : Led} {mg mb : Loc}

section calls
variable {env : Env} {pos : Pos} {Q : Value → Loc → Led → Prop}
theorem T_args_nil {Q : List Value → Loc → Led → Prop} (h : Q [] m l) : T C (spliced (backTo pos (starEach [] env))) m l Q := fun s _ _ O c => args_nil (c [] s.heap s.toks m l h O)
theorem T_args_cons {e : Expr} {rest : List Expr} {Q : List Value → Loc → Led → Prop}
    (h : T C (eval e env) m l fun v m1 l1 => T C (spliced (backTo pos (starEach rest env))) m1 l1 fun vs => Q (v :: vs))
    (he : starEach (e :: rest) env = (false, eval e env) :: starEach rest env := by rfl) : T C (spliced (backTo pos (starEach (e :: rest) env))) m l Q :=
  fun s P E O c => args_cons (h s _ E O fun v h' tk m1 l1 h1 O1 => h1 _ _ E O1 fun vs h2 tk2 m2 l2 q O2 => c (v :: vs) h2 tk2 m2 l2 q O2) he
theorem T_Call {func : Expr} {args : List Expr} (h : T C (eval func env) m l fun f m1 l1 => T C (callWith pos f [] (backTo pos (starEach args env)) []) m1 l1 Q)
    (he : eval (.Call func args [] pos) env = (do callWith pos (← eval func env) [] (backTo pos (starEach args env)) (backToKw pos (keywordEach [] env))) := by rfl) : T C (eval (.Call func args [] pos) env) m l Q :=
  fun s P E O c => Call_ (h s _ E O fun v h' tk m1 l1 h1 O1 => h1 _ P E O1 fun vs h2 tk2 m2 l2 q O2 => c vs h2 tk2 m2 l2 q O2) he
theorem T_callWith_builtin {id : String} {first : List Value} {e : Expr} {rest : List Expr}
    (h : T C (spliced (backTo pos (starEach (e :: rest) env))) m l fun vs m1 l1 => T C (call (.builtin id) (first ++ vs)) m1 l1 Q)
    (he : starEach (e :: rest) env = (false, eval e env) :: starEach rest env := by rfl) (hplain : (backTo pos (starEach rest env)).any (·.1) = false := by rfl) :
    T C (callWith pos (.builtin id) first (backTo pos (starEach (e :: rest) env)) []) m l Q :=
  fun s P E O c => callWith_method1 (h s _ E O fun v h' tk m1 l1 h1 O1 => h1 _ P E O1 fun vs h2 tk2 m2 l2 q O2 => c vs h2 tk2 m2 l2 q O2) he hplain
theorem T_callWith_builtin0 {id : String} {first : List Value} (h : T C (call (.builtin id) first) m l Q) :
    T C (callWith pos (.builtin id) first (backTo pos (starEach [] env)) []) m l Q := fun s P E O c => callWith_method0 (h s P E O c)
theorem T_callWith_type {ty : String} {e : Expr} {rest : List Expr}
    (h : T C (spliced (backTo pos (starEach (e :: rest) env))) m l fun vs m1 l1 => T C (call (.type ty) vs) m1 l1 Q)
    (he : starEach (e :: rest) env = (false, eval e env) :: starEach rest env := by rfl) (hplain : (backTo pos (starEach rest env)).any (·.1) = false := by rfl) :
    T C (callWith pos (.type ty) [] (backTo pos (starEach (e :: rest) env)) []) m l Q :=
  fun s P E O c => callWith_type1 (h s _ E O fun v h' tk m1 l1 h1 O1 => h1 _ P E O1 fun vs h2 tk2 m2 l2 q O2 => c vs h2 tk2 m2 l2 q O2) he hplain
theorem T_callWith_def {f : Addr} {fo : Obj} {fd : FuncData} {e : Expr} {rest : List Expr} (hd : fo.data = .func fd)
    (h : T C (spliced (backTo pos (starEach (e :: rest) env))) m l fun vs m1 l1 => Seen C l1 f fo ∧ T C (call (.ref f) vs) m1 l1 Q)
    (he : starEach (e :: rest) env = (false, eval e env) :: starEach rest env := by rfl) :
    T C (callWith pos (.ref f) [] (backTo pos (starEach (e :: rest) env)) []) m l Q :=
  fun s P E O c => callWith_def (o := fo) hd (h s _ E O fun v h' tk m1 l1 h1 O1 => ⟨h1.1.get O1, h1.2 _ P E O1 fun vs h2 tk2 m2 l2 q O2 => c vs h2 tk2 m2 l2 q O2⟩) he
theorem T_Call_kw {id : Str} {p : Pos} {args : List Expr} {kws : List Keyword}
    (h : T C (eval (.Name id p) env) m l fun f m1 l1 => T C (callWith pos f [] (backTo pos (starEach args env)) (backToKw pos (keywordEach kws env))) m1 l1 Q) : T C (eval (.Call (.Name id p) args kws pos) env) m l Q :=
  fun s P E O c => wpAny_Call_Name_kw (h s _ E O fun v h' tk m1 l1 h1 O1 => h1 _ P E O1 fun vs h2 tk2 m2 l2 q O2 => c vs h2 tk2 m2 l2 q O2)
theorem T_kw1 {p : Pos} {name : Str} {value : Expr} {Q : List Value → Loc → Led → Prop} (h : T C (eval value env) m l fun v => Q [v]) :
    T C (evalAll ((backToKw pos (keywordEach [⟨some name, value, p⟩] env)).map (·.2))) m l Q :=
  fun s P E O c => kwAll_cons (h s _ E O fun v h' tk m1 l1 h1 O1 => wpAny_pure (c [v] h' tk m1 l1 h1 O1))
theorem T_callWith_def_kw1 {f : Addr} {fo : Obj} {fd : FuncData} {e : Expr} {rest : List Expr} {name : Str} {value : Expr} {p : Pos} (hd : fo.data = .func fd)
    (h : T C (spliced (backTo pos (starEach (e :: rest) env))) m l fun vs m1 l1 => T C (eval value env) m1 l1 fun v m2 l2 => Seen C l2 f fo ∧ T C (call (.ref f) vs [(name, v)]) m2 l2 Q)
    (he : starEach (e :: rest) env = (false, eval e env) :: starEach rest env := by rfl) :
    T C (callWith pos (.ref f) [] (backTo pos (starEach (e :: rest) env)) (backToKw pos (keywordEach [⟨some name, value, p⟩] env))) m l Q := by
  intro s P E O c
  refine callWith_def_kw (o := fo) hd ?_
  have h' := h s
  rw [he] at h' ⊢
  refine evalArgs_kwB rfl (h' _ E O fun vs h1 tk1 m1 l1 k1 O1 => ?_)
  refine T_kw1 (Q := fun vs' m2 l2 => ∃ v, vs' = [v] ∧ Seen C l2 f fo ∧ T C (call (.ref f) vs [(name, v)]) m2 l2 Q) (k1.mono fun v m2 l2 k => ⟨v, rfl, k⟩) _ _ E O1 ?_
  rintro _ h2 tk2 m2 l2 ⟨v, rfl, k2⟩ O2
  exact ⟨k2.1.get O2, k2.2 _ P E O2 fun r h3 tk3 m3 l3 q O3 => c r h3 tk3 m3 l3 q O3⟩
theorem T_MethodCall {o : Expr} {name : Str} {apos : Pos} {args : List Expr} {pl : Sem Bool}
    (h : T C (eval o env) m l fun ov m1 l1 => T C (getMethod ov name pl) m1 l1 fun fx m2 l2 => T C (callWith pos fx.1 fx.2 (backTo pos (starEach args env)) []) m2 l2 Q)
    (he : eval (.Call (.Attribute o name apos) args [] pos) env = (do
        let ov ← eval o env
        standAt (Pos.atName apos)
        let __x ← holding [ov] (getMethod ov name pl)
        match __x with
          | (f, first) => callWith pos f first (backTo pos (starEach args env)) []) := by rfl) : T C (eval (.Call (.Attribute o name apos) args [] pos) env) m l Q :=
  fun s P E O c => MethodCall_ (pl := pl) (h s _ E O fun v h' tk m1 l1 h1 O1 => h1 _ _ E O1 fun fx h2 tk2 m2 l2 h2' O2 => h2' _ P E O2 fun r h3 tk3 m3 l3 q O3 => c r h3 tk3 m3 l3 q O3) he
theorem T_method_list {name : Str} {id : String} {pl : Sem Bool} {a : Addr} {vs : List Value} {n : Nat} {Q : Value × List Value → Loc → Led → Prop} (hs : Slot "list" name id) (ht : typeOf (.builtin id) = pure (.type "method_descriptor"))
    (hl : Seen C l a (lo vs n)) (h : Q (.builtin id, [.ref a]) m l) : T C (getMethod (.ref a) name pl) m l Q :=
  fun s _ _ O c => getMethod_list_of hs ht (hl.isList O) ⟨_, hl.get O, rfl⟩ (c _ s.heap s.toks m l h O)
theorem T_method_str {name : Str} {id : String} {pl : Sem Bool} {x : Str} {t : Tok} {Q : Value × List Value → Loc → Led → Prop} (hs : Slot "str" name id) (ht : typeOf (.builtin id) = pure (.type "method_descriptor"))
    (hp : PlainAttrs "str") (h : Q (.builtin id, [.str x t]) m l) : T C (getMethod (.str x t) name pl) m l Q :=
  fun s _ _ O c => getMethod_builtin (typeIs_str s x t) hp hs ht (fun a e => by cases e) (c _ s.heap s.toks m l h O)
end calls

section loops
variable {env : Env} {pos : Pos} {Q : Flow → Loc → Led → Prop}
/-- a loop's turn ends: the next turn with the invariant below, or the loop's end -/
def turnEnd (Inv : Nat → Loc → Led → Prop) (k : Nat) (Q : Flow → Loc → Led → Prop) : Flow → Loc → Led → Prop
  | .next => fun m l => ∃ k', k' < k ∧ ∃ l', Sub l' l ∧ Inv k' m l'
  | .cont => fun m l => ∃ k', k' < k ∧ ∃ l', Sub l' l ∧ Inv k' m l'
  | .brk => Q .next
  | .ret v => Q (.ret v)
theorem T_While {test : Expr} {body : List Stmt} (Inv : Nat → Loc → Led → Prop)
    (step : ∀ k m l, Inv k m l → T C (isTrue test env (eval test env)) m l fun b m1 l1 => match b with
      | true => T C (execs body env) m1 l1 (turnEnd Inv k Q)
      | false => Q .next m1 l1) (k : Nat) (h : Inv k m l) : T C (exec (.While test body [] pos) env) m l Q := by
  intro s P E O c
  refine wpAny_While (codeAny_whileLoop (fun n s' => ∃ h' tk m' l', s' = { s with heap := h', toks := tk } ∧ Okk C.h₀ C.L h' m' l' ∧ Inv n m' l') ?_ k ⟨s.heap, s.toks, m, l, rfl, O, h⟩)
  rintro n s' ⟨h', tk, m', l', rfl, O', hI⟩
  refine step n m' l' hI _ _ _ O' fun b h1 tk1 m1 l1 k1 O1 => ?_
  cases b with
  | false => exact wpAny_execs_nil (c .next h1 tk1 m1 l1 k1 O1)
  | true =>
    refine k1 _ _ _ O1 fun f h2 tk2 m2 l2 k2 O2 => ?_
    cases f with
    | next => obtain ⟨k', hk, l'', hs, hI'⟩ := k2; exact ⟨k', hk, h2, tk2, m2, l'', rfl, O2.less hs, hI'⟩
    | cont => obtain ⟨k', hk, l'', hs, hI'⟩ := k2; exact ⟨k', hk, h2, tk2, m2, l'', rfl, O2.less hs, hI'⟩
    | brk => exact c .next h2 tk2 m2 l2 k2 O2
    | ret v => exact c (.ret v) h2 tk2 m2 l2 k2 O2

/-- what an iterator gives, turn after turn, while the ledger has what it needs -/
structure Iter (C : Cx) (I : Addr) (n : Nat) (P : Nat → Value → Prop) (St : Nat → Obj → Prop) (Need : Led → Prop) : Prop where
  item : ∀ k o l m (Q : Option Value → Loc → Led → Prop), k < n → St k o → Need l → (∀ v o', P k v → St (k + 1) o' → Q (some v) m ((I, o') :: l)) → T C (pyNext (.ref I)) m ((I, o) :: l) Q
  done : ∀ o l m (Q : Option Value → Loc → Led → Prop), St n o → Need l → Q none m l → T C (pyNext (.ref I)) m ((I, o) :: l) Q
  more : ∀ p l, Need l → Need (p :: l)
  self : ∀ k o l m (Q : Value → Loc → Led → Prop), St k o → Q (.ref I) m ((I, o) :: l) → T C (pyIter (.ref I)) m ((I, o) :: l) Q

/-- the turn of a for loop ends -/
def forEnd (I : Addr) (o : Obj) (Inv : Loc → Led → Prop) (Q : Flow → Loc → Led → Prop) : Flow → Loc → Led → Prop
  | .next => fun m l => ∃ l', Sub ((I, o) :: l') l ∧ Inv m l'
  | .cont => fun m l => ∃ l', Sub ((I, o) :: l') l ∧ Inv m l'
  | .brk => Q .next
  | .ret v => Q (.ret v)
def ForAt (C : Cx) (env : Env) (target : Expr) (body : List Stmt) (Q : Flow → Loc → Led → Prop) (it : Value) (m : Loc) (l : Led) : Prop :=
  ∃ (I : Addr) (n : Nat) (P : Nat → Value → Prop) (St : Nat → Obj → Prop) (Need : Led → Prop) (o : Obj) (l' : Led) (Inv : Nat → Loc → Led → Prop),
    it = .ref I ∧ Iter C I n P St Need ∧ St 0 o ∧ l = (I, o) :: l' ∧ Inv 0 m l' ∧ (∀ k m l, Inv k m l → Need l) ∧
    (∀ k v o' m l, k < n → P k v → Inv k m l → T C (assign target env v) m ((I, o') :: l) fun _ m1 l1 => T C (execs body env) m1 l1 (forEnd I o' (Inv (k + 1)) Q)) ∧
    ∀ m l, Inv n m l → Q .next m l
theorem T_For {target iter : Expr} {body : List Stmt}
    (h : T C (eval iter env) m l fun x m1 l1 => T C (pyIter x) m1 l1 (ForAt C env target body Q))
    (hs : ∀ x, foldedSetIterable iter env x = pure x := by intro _; rfl) (ht : ∀ it v, letOwnedTupleGo target it v = pure () := by intro _ _; rfl) : T C (exec (.For target iter body [] pos) env) m l Q := by
  intro s P E O c
  refine wpAny_For (h s _ E O fun x h1 tk1 m1 l1 k1 O1 => k1 _ _ E O1 fun it h2 tk2 m2 l2 k2 O2 => ?_) hs
  obtain ⟨I, n, Pv, St, Need, o, l', Inv, rfl, W, hst, rfl, h0, hneed, step, fin⟩ := k2
  refine codeAny_forLoop (fun k s' => ∃ i h' tk m' l' o, s' = { s with heap := h', toks := tk } ∧ i ≤ n ∧ k = n - i ∧ St i o ∧ Okk C.h₀ C.L h' m' ((I, o) :: l') ∧ Inv i m' l') ?_ n
    ⟨0, h2, tk2, m2, l', o, rfl, Nat.zero_le _, rfl, hst, O2, h0⟩ (ht _)
  rintro k s' ⟨i, h', tk, m', l'', o', rfl, hi, rfl, hst', O', hI⟩
  by_cases hlt : i < n
  · refine W.item i o' l'' m' (fun r m3 l3 => match r with
      | none => False
      | some v => ∃ o'', Pv i v ∧ St (i + 1) o'' ∧ m3 = m' ∧ l3 = (I, o'') :: l'') hlt hst' (hneed _ _ _ hI) (fun v o'' hP hs => ⟨o'', hP, hs, rfl, rfl⟩) _ _ _ O' fun r h3 tk3 m3 l3 k3 O3 => ?_
    cases r with
    | none => exact k3.elim
    | some v =>
      obtain ⟨o'', hP, hst3, rfl, rfl⟩ := k3
      refine step i v o'' m3 l'' hlt hP hI _ _ _ O3 fun _ h4 tk4 m4 l4 k4 O4 => k4 _ _ _ O4 fun f h5 tk5 m5 l5 k5 O5 => ?_
      cases f with
      | next => obtain ⟨l6, hs6, hI6⟩ := k5; exact ⟨n - (i + 1), by omega, i + 1, h5, tk5, m5, l6, o'', rfl, hlt, rfl, hst3, O5.less hs6, hI6⟩
      | cont => obtain ⟨l6, hs6, hI6⟩ := k5; exact ⟨n - (i + 1), by omega, i + 1, h5, tk5, m5, l6, o'', rfl, hlt, rfl, hst3, O5.less hs6, hI6⟩
      | brk => exact c .next h5 tk5 m5 l5 k5 O5
      | ret v => exact c (.ret v) h5 tk5 m5 l5 k5 O5
  · have : i = n := by omega
    subst this
    refine W.done o' l'' m' (fun r m3 l3 => r = none ∧ m3 = m' ∧ l3 = l'') hst' (hneed _ _ _ hI) ⟨rfl, rfl, rfl⟩ _ _ _ O' fun r h3 tk3 m3 l3 k3 O3 => ?_
    obtain ⟨rfl, rfl, rfl⟩ := k3
    exact wpAny_execs_nil (c .next h3 tk3 m3 l3 (fin _ _ hI) O3)
end loops
end Mine
end

section
open PySem PySem.W PySem.Calls PyProof.Rows
set_option Elab.async false
set_option maxRecDepth 100000
set_option linter.unusedVariables false
namespace Mine
variable {C : Cx} {α β : Type} {m : Loc} {l : Led} {mg mb : Loc}

theorem Seen.cons {a : Addr} {o : Obj} {p : Addr × Obj} (x : Seen C l a o) : Seen C (p :: l) a o := x.imp id (List.mem_cons_of_mem _)

section iters
variable {Q : Value → Loc → Led → Prop} {a : Addr} {vs : List Value} {n : Nat}
def LIt (a : Addr) (i : Nat) (o : Obj) : Prop := o.cls = .type "list_iterator" ∧ o.data = .fields #[.ref a, .int i 0]
theorem Iter.list (hh : C.A.handled = none) (I a : Addr) (vs : List Value) (n : Nat) : Iter C I vs.length (fun i v => vs[i]? = some v) (LIt a) (fun l => Seen C l a (lo vs n)) where
  item := fun k o l m Q hk st need h s P E O c => by
    have hit : s.heap.IsListIter I a k := ⟨o, (O.nw _ List.mem_cons_self).1, st.1, st.2⟩
    refine wpAny_pyNext_list_item hit (need.cons.isList O) (x := vs[k]) (by simp [hk]) fun h' hit' hs' => ?_
    obtain ⟨o', ho', hc', hd'⟩ := hit'
    exact c _ h' s.toks m _ (h vs[k] o' (by simp [hk]) ⟨hc', hd'⟩) (O.same Rep.here hs'.extBut ho')
  done := fun o l m Q st need h s P E O c => by
    have hit : s.heap.IsListIter I a vs.length := ⟨o, (O.nw _ List.mem_cons_self).1, st.1, st.2⟩
    exact wpAny_pyNext_list_end hh hit (need.cons.isList O) (by simp) fun h' he' => c _ h' s.toks m _ h (O.lost he')
  more := fun p l h => h.cons
  self := fun k o l m Q st h s P E O c => wpAny_pyIter_listiter (i := k) (l := a) ⟨o, (O.nw _ List.mem_cons_self).1, st.1, st.2⟩ (c _ s.heap s.toks m _ h O)
theorem T_iter_list (hl : Seen C l a (lo vs n)) (h : ∀ I o, LIt a 0 o → Q (.ref I) m ((I, o) :: l)) : T C (pyIter (.ref a)) m l Q :=
  fun s P E O c => wpAny_pyIter_list (hl.isList O) (c _ _ s.toks m _ (h _ _ ⟨rfl, rfl⟩) (O.push _))

abbrev rng (a b c : Int) (t u v : Tok) : Obj := { cls := .type "range", dict := none, data := .fields #[.int a t, .int b u, .int c v], slots := #[] }
def RIt (a : Int) (n : Nat) (i : Nat) (o : Obj) : Prop := o = { cls := .type "range_iterator", dict := none, data := .fields #[rawInt (a + i), rawInt ((n : Int) - i), rawInt 1], slots := #[] }
theorem Iter.range (hh : C.A.handled = none) (I : Addr) (a : Int) (n : Nat) : Iter C I n (fun i v => ∃ t, v = .int (a + i) t) (RIt a n) (fun _ => True) where
  item := fun k o l m Q hk st need h s P E O c => by
    subst st
    have hit := (O.nw _ List.mem_cons_self).1
    refine wpAny_pyNext_range_item (it := I) (x := a + k) (left := (n : Int) - k) (step := 1) hit (by omega) fun h' hit' hs' => ?_
    refine c _ h' _ m _ (h _ _ ⟨_, rfl⟩ (by
      show _ = _
      rw [show a + ((k + 1 : Nat) : Int) = a + k + 1 by push_cast; omega, show (n : Int) - ((k + 1 : Nat) : Int) = (n : Int) - k - 1 by push_cast; omega])) (O.same Rep.here hs'.extBut hit')
  done := fun o l m Q st need h s P E O c => by
    subst st
    have hit := (O.nw _ List.mem_cons_self).1
    exact wpAny_pyNext_range_end hh (it := I) (x := a + n) (left := (n : Int) - n) (step := 1) hit (by omega) fun h' he' => c _ h' s.toks m _ h (O.lost he')
  more := fun _ _ _ => trivial
  self := fun k o l m Q st h s P E O c => by
    subst st
    have hit := (O.nw _ List.mem_cons_self).1
    exact wpAny_pyIter_rangeiter (it := I) (x := a + k) (left := (n : Int) - k) (step := 1) hit (c _ s.heap s.toks m _ h O)
theorem range_small {a b : Int} (ha : -1000000 ≤ a) (ha' : a ≤ 1000000) (hb : -1000000 ≤ b) (hb' : b ≤ 1000000) : Builtin.Range.small a b 1 = true ∧ Builtin.Range.rangeSize a b 1 = ((b - a).toNat : Int) := by
  have e : Builtin.Range.rangeSize a b 1 = ((b - a).toNat : Int) := by
    unfold Builtin.Range.rangeSize
    split <;> omega
  refine ⟨?_, e⟩
  unfold Builtin.Range.small
  rw [e]
  simp only [Builtin.Range.rangeFitsLong, Bool.and_eq_true, Bool.or_eq_true, decide_eq_true_eq, beq_iff_eq]
  have : (2 : Int) ^ 63 = 9223372036854775808 := by decide
  refine ⟨⟨⟨⟨?_, ?_⟩, ?_⟩, ?_⟩, .inr ?_⟩ <;> (try rw [if_pos (by decide)]) <;> (try simp only [decide_eq_true_eq, Bool.and_eq_true]) <;> omega
theorem T_iter_range {r : Addr} {a b : Int} {t u v : Tok} (hr : Seen C l r (rng a b 1 t u v)) (hs : Builtin.Range.small a b 1 = true) (h : ∀ I o, RIt a (b - a).toNat 0 o → Q (.ref I) m ((I, o) :: l))
    (hz : Builtin.Range.rangeSize a b 1 = ((b - a).toNat : Int)) : T C (pyIter (.ref r)) m l Q :=
  fun s P E O c => wpAny_pyIter_range (hr.get O) hs (c _ _ s.toks m _ (h _ _ (by show _ = _; rw [hz]; simp)) (O.push _))

def SIt (x : Str) (t : Tok) (i : Nat) (o : Obj) : Prop := o.cls = .type (if x.cps.all (· < 128) then "str_ascii_iterator" else "str_iterator") ∧ o.data = .fields #[.str x t, .int i 0]
theorem Iter.str (hh : C.A.handled = none) (I : Addr) (x : Str) (t : Tok) : Iter C I x.cps.size (SignAt x) (SIt x t) (fun _ => True) where
  item := fun k o l m Q hk st need h s P E O c => by
    have hg := (O.nw _ List.mem_cons_self).1
    obtain ⟨h1, h2⟩ := st
    by_cases ha : x.cps.all (· < 128) = true
    · rw [if_pos ha] at h1
      refine wpAny_pyNext_ascii_item (it := I) (x := x) (t := t) (i := k) ⟨o, hg, h1, h2⟩ (c := x.cps[k]) (by simp [hk]) fun h' hit' hs' => ?_
      obtain ⟨o', ho', hc', hd'⟩ := hit'
      exact c _ h' _ m _ (h _ o' ⟨_, _, by simp [hk], rfl⟩ ⟨by rw [if_pos ha]; exact hc', hd'⟩) (O.same Rep.here hs'.extBut ho')
    · rw [if_neg ha] at h1
      refine wpAny_pyNext_wide_item (it := I) (x := x) (t := t) (i := k) ⟨o, hg, h1, h2⟩ (c := x.cps[k]) (by simp [hk]) fun h' hit' hs' => ?_
      obtain ⟨o', ho', hc', hd'⟩ := hit'
      exact c _ h' _ m _ (h _ o' ⟨_, _, by simp [hk], rfl⟩ ⟨by rw [if_neg ha]; exact hc', hd'⟩) (O.same Rep.here hs'.extBut ho')
  done := fun o l m Q st need h s P E O c => by
    have hg := (O.nw _ List.mem_cons_self).1
    obtain ⟨h1, h2⟩ := st
    by_cases ha : x.cps.all (· < 128) = true
    · rw [if_pos ha] at h1
      exact wpAny_pyNext_ascii_end hh (it := I) (x := x) (t := t) (i := x.cps.size) ⟨o, hg, h1, h2⟩ (by simp) fun h' he' => c _ h' s.toks m _ h (O.lost he')
    · rw [if_neg ha] at h1
      exact wpAny_pyNext_wide_end hh (it := I) (x := x) (t := t) (i := x.cps.size) ⟨o, hg, h1, h2⟩ (by simp) fun h' he' => c _ h' s.toks m _ h (O.lost he')
  more := fun _ _ _ => trivial
  self := fun k o l m Q st h s P E O c => by
    have hg := (O.nw _ List.mem_cons_self).1
    obtain ⟨h1, h2⟩ := st
    by_cases ha : x.cps.all (· < 128) = true
    · rw [if_pos ha] at h1
      exact wpAny_pyIter_striter_ascii (it := I) (x := x) (t := t) (i := k) ⟨o, hg, h1, h2⟩ (c _ s.heap s.toks m _ h O)
    · rw [if_neg ha] at h1
      exact wpAny_pyIter_striter_wide (it := I) (x := x) (t := t) (i := k) ⟨o, hg, h1, h2⟩ (c _ s.heap s.toks m _ h O)
theorem T_iter_str {x : Str} {t : Tok} (h : ∀ I o, SIt x t 0 o → Q (.ref I) m ((I, o) :: l)) : T C (pyIter (.str x t)) m l Q := fun s P E O c => by
  cases ha : x.cps.all (· < 128)
  · exact wpAny_pyIter_wide ha (c _ _ s.toks m _ (h _ _ ⟨by rw [ha]; rfl, rfl⟩) (O.push _))
  · exact wpAny_pyIter_ascii ha (c _ _ s.toks m _ (h _ _ ⟨by rw [ha]; rfl, rfl⟩) (O.push _))
end iters

/-- an object that is a namespace -/
def NsO (o : Obj) (m : Loc) : Prop := ∃ es ep, o.data = .dict es ep ∧ StrKeys es ∧ ∀ name, nsFind es name = m name
theorem NsO.ns {o : Obj} {m : Loc} (x : NsO o m) {h : Heap} {a : Addr} (e : h.get? a = some o) : h.Ns a m := let ⟨es, ep, r⟩ := x; ⟨o, es, ep, e, r⟩
theorem nsO_of {h : Heap} {a : Addr} {m : Loc} (x : h.Ns a m) : ∃ o, h.get? a = some o ∧ NsO o m := let ⟨o, es, ep, e, r⟩ := x; ⟨o, e, es, ep, r⟩

section comps
variable {env : Env} {scope : Scope} {cl : List (Str × Addr)} {pos : Pos}
/-- names inside a comprehension -/
theorem T_compLocal {x : Str} {p : Pos} {D : Addr} {oD : Obj} {mD : Loc} {v : Value} {Q : Value → Loc → Led → Prop} (hm : (D, oD) ∈ l) (hD : NsO oD mD) (hv : mD x = some v) (h : Q v m l)
    (hk : scope.kind = .function := by rfl) (hx : (compEnvC scope cl D env).kindOf x = some .local := by rfl) (hd : (x == ("__debug__" : Str)) = false := by decide) :
    T C (eval (.Name x p) (compEnvC scope cl D env)) m l Q :=
  fun s _ _ O c => wpAny_Name (wpAny_loadName_local hk hx (hD.ns (O.nw _ hm).1) hv (c v s.heap s.toks m l h O)) hd
theorem T_compCell {x : Str} {p : Pos} {D d : Addr} {o : Obj} {v : Value} {Q : Value → Loc → Led → Prop} (hc : cl.lookup x = some d) (hm : (d, o) ∈ l) (hd : o.data = .cell (some v)) (h : Q v m l)
    (hk : scope.kind = .function := by rfl) (hx : (compEnvC scope cl D env).kindOf x = some .cell := by rfl) (hb : (x == ("__debug__" : Str)) = false := by decide) :
    T C (eval (.Name x p) (compEnvC scope cl D env)) m l Q :=
  fun s _ _ O c => wpAny_Name (wpAny_loadName_cell hk hx hc ⟨o, (O.nw _ hm).1, hd⟩ (c v s.heap s.toks m l h O)) hb
theorem T_compFree {x : Str} {p : Pos} {D d : Addr} {o : Obj} {v : Value} {Q : Value → Loc → Led → Prop} (hc : cl.lookup x = some d) (hm : (d, o) ∈ l) (hd : o.data = .cell (some v)) (h : Q v m l)
    (hk : scope.kind = .function := by rfl) (hx : (compEnvC scope cl D env).kindOf x = some .free := by rfl) (hb : (x == ("__debug__" : Str)) = false := by decide) (hn : (x == ("__classdict__" : Str)) = false := by decide) :
    T C (eval (.Name x p) (compEnvC scope cl D env)) m l Q :=
  fun s _ _ O c => wpAny_Name (wpAny_loadName_free hk hx hc ⟨o, (O.nw _ hm).1, hd⟩ (c v s.heap s.toks m l h O) hn) hb
theorem T_compGlobal {x : Str} {p : Pos} {D : Addr} {v : Value} {Q : Value → Loc → Led → Prop} (S : Stat mg mb C.h₀) (e : mg x = some v) (hg : env.globals = mainGlobals) (h : Q v m l)
    (hk : scope.kind = .function := by rfl) (hx : (compEnvC scope cl D env).kindOf x = some .globalImplicit := by rfl) (hd : (x == ("__debug__" : Str)) = false := by decide) :
    T C (eval (.Name x p) (compEnvC scope cl D env)) m l Q :=
  fun s _ _ O c => Name_function_global hk hx (loadGlobal_global (env := compEnvC scope cl D env) (by show s.heap.Ns env.globals mg; rw [hg]; exact S.g.keeps O.fr.keep) e (c v s.heap s.toks m l h O)) hd
theorem T_compBuiltin {x : Str} {p : Pos} {D : Addr} {v : Value} {Q : Value → Loc → Led → Prop} (S : Stat mg mb C.h₀) (e : mg x = none) (hv : mb x = some v) (hg : env.globals = mainGlobals) (hbn : env.builtins = builtinsNs) (h : Q v m l)
    (hk : scope.kind = .function := by rfl) (hx : (compEnvC scope cl D env).kindOf x = some .globalImplicit := by rfl) (hd : (x == ("__debug__" : Str)) = false := by decide) :
    T C (eval (.Name x p) (compEnvC scope cl D env)) m l Q :=
  fun s _ _ O c => Name_function_global hk hx (loadGlobal_builtin (env := compEnvC scope cl D env) (by show s.heap.Ns env.globals mg; rw [hg]; exact S.g.keeps O.fr.keep) e (by show s.heap.Ns env.builtins mb; rw [hbn]; exact S.b.keeps O.fr.keep) hv (c v s.heap s.toks m l h O)) hd
/-- the variable of a comprehension is bound -/
theorem T_compStore {x : Str} {D : Addr} {oD : Obj} {mD : Loc} {v : Value} {g : Obj → Led} {Q : Unit → Loc → Led → Prop} (r : Rep l D oD g) (hD : NsO oD mD) (h : ∀ o', NsO o' (up mD x v) → Q () m (g o'))
    (hk : scope.kind = .function := by rfl) (hx : (compEnvC scope cl D env).kindOf x = some .local := by rfl) :
    T C (storeName (compEnvC scope cl D env) x v) m l Q := by
  intro s P E O c
  refine wpAny_storeName_local hx (hD.ns (O.nw _ r.mem).1) (fun h' hn hs => ?_) (by show (scope.kind == .class || (scope.kind == .module && _)) = false; rw [hk]; rfl)
  obtain ⟨o', ho', hno'⟩ := nsO_of hn
  exact c () h' _ m _ (h o' hno') (O.same r hs.extBut ho')
theorem T_assign_Name {x : Str} {p : Pos} {v : Value} {Q : Unit → Loc → Led → Prop} (h : T C (storeName env x v) m l Q) : T C (assign (.Name x p) env v) m l Q := by
  intro s P E O c
  exact wpAny_assign_Name (h s P E O c)

/-- the tests of a clause -/
def tests (ifs : List Expr) (env : Env) : Sem Bool := forIn ifs true fun c r => if r = true then do let ok ← isTrue c env (eval c env); pure (ForInStep.yield ok) else pure (ForInStep.yield r)
theorem T_tests_nil {Q : Bool → Loc → Led → Prop} (h : Q true m l) : T C (tests [] env) m l Q := T.pure h
theorem T_tests_one {e : Expr} {Q : Bool → Loc → Led → Prop} (h : T C (isTrue e env (eval e env)) m l Q) : T C (tests [e] env) m l Q := by
  intro s P E O c
  unfold tests
  rw [List.forIn_cons]
  refine wpAny_bind ?_
  simp only [if_true]
  refine wpAny_bind (h s _ E O fun b h1 tk1 m1 l1 k1 O1 => wpAny_pure ?_)
  show wpAny _ _ (forIn [] b _) _ _ _
  rw [List.forIn_nil]
  exact wpAny_pure (c b h1 tk1 m1 l1 k1 O1)

/-- the frame of a comprehension: its dict, the list that it fills, its iterator, the rest -/
def InComp (D acc I : Addr) (oi : Obj) (ys : List Value) (na : Nat) (Inv : Loc → Led → Prop) (m : Loc) (l : Led) : Prop :=
  ∃ oD mD l', NsO oD mD ∧ Sub ((D, oD) :: (acc, lo ys na) :: (I, oi) :: l') l ∧ Inv m l'
def CompAt (C : Cx) (env : Env) (scope : Scope) (cl : List (Str × Addr)) (elt target : Expr) (ifs : List Expr) (fin : List Value → Loc → Led → Prop) (it : Value) (m : Loc) (l : Led) : Prop :=
  ∃ (I : Addr) (n : Nat) (P : Nat → Value → Prop) (St : Nat → Obj → Prop) (Need : Led → Prop) (o : Obj) (l' : Led) (Inv : Nat → List Value → Loc → Led → Prop),
    it = .ref I ∧ Iter C I n P St Need ∧ St 0 o ∧ l = (I, o) :: l' ∧ Inv 0 [] m l' ∧ (∀ k ys m l, Inv k ys m l → Need l ∧ ys.length ≤ k) ∧ n ≤ 1000000 ∧
    (∀ k v o' D oD mD acc na ys m l, k < n → P k v → Inv k ys m l → NsO oD mD → St (k + 1) o' →
      T C (letOwnedTupleGo target (.ref I) v) m ((D, oD) :: (acc, lo ys na) :: (I, o') :: l) fun _ m0 l0 => T C (assign target (compEnvC scope cl D env) v) m0 l0 fun _ m1 l1 =>
      T C (tests ifs (compEnvC scope cl D env)) m1 l1 fun ok m2 l2 => match ok with
        | true => T C (eval elt (compEnvC scope cl D env)) m2 l2 fun y => InComp D acc I o' ys na (Inv (k + 1) (ys ++ [y]))
        | false => InComp D acc I o' ys na (Inv (k + 1) ys) m2 l2) ∧
    ∀ ys m l, Inv n ys m l → fin ys m l

theorem codeAny_compLoop_go {prog : Program} {w : World} {A : Around} {R : Result → Shared → Prop} {s : Shared} {elt target iter : Expr} {ifs : List Expr} {it acc : Value} {env : Env} (I : Nat → Shared → Prop)
    (turn : ∀ n s, I n s → wpAny (model prog w) A (pyNext it) (fun r s₁ => match r with
      | none => R (.ok .next) s₁
      | some v => wpAny (model prog w) A (letOwnedTupleGo target it v) (fun _ s₁' => wpAny (model prog w) A (assign target env v) (fun _ s₂ =>
          wpAny (model prog w) A (tests ifs env) (fun ok s₃ =>
            if ok = true then wpAny (model prog w) A (eval elt env) (fun x s₄ =>
              wpAny (model prog w) A (call (.builtin "list.append") [acc, x]) (fun _ s₅ => ∃ m, m < n ∧ I m s₅) (notedBy (model prog w) A env fun e s' => R (.error e) s') s₄) (notedBy (model prog w) A env fun e s' => R (.error e) s') s₃
            else ∃ m, m < n ∧ I m s₃) (notedBy (model prog w) A env fun e s' => R (.error e) s') s₂) (notedBy (model prog w) A env fun e s' => R (.error e) s') s₁') (notedBy (model prog w) A env fun e s' => R (.error e) s') s₁) (notedBy (model prog w) A env fun e s' => R (.error e) s') s)
    (n : Nat) (h : I n s) :
    codeAny (model prog w) A (.compLoop (.ListComp elt [⟨target, iter, ifs, 0⟩] scope pos) 0 it acc env) R s := by
  refine codeAny_loop rfl I (fun n s hI => ?_) n h
  show wpAny _ A ((compTurn (.ListComp elt [⟨target, iter, ifs, 0⟩] scope pos) 0 it acc env).onRaise (fun x => do noteFrame x env; theTreesLotGoes x)) _ _ s
  refine wpAny_noted ?_
  rw [compTurn_list]
  refine wpAny_bind (wpAny_standAt (wpAny_bind (wpAny_mono (turn n s hI) (fun r s₁ h₁ => ?_) fun _ _ h' => h')))
  cases r with
  | none => exact wpAny_pure h₁
  | some v =>
    refine wpAny_bind (wpAny_mono h₁ (fun _ s₁' h₁' => wpAny_bind (wpAny_mono h₁' (fun _ s₂ h₂ => wpAny_bind (wpAny_mono h₂ (fun ok s₃ h₃ => ?_) fun _ _ h' => h')) fun _ _ h' => h')) fun _ _ h' => h')
    cases ok with
    | false => exact wpAny_pure ⟨rfl, h₃⟩
    | true =>
      exact wpAny_bind (wpAny_bind (wpAny_mono h₃ (fun x s₄ h₄ => wpAny_bind (wpAny_mono h₄ (fun _ s₅ h₅ => wpAny_pure (wpAny_pure ⟨rfl, h₅⟩)) fun _ _ h' => h')) fun _ _ h' => h'))

theorem T_go_name {x : Str} {p : Pos} {it v : Value} {Q : Unit → Loc → Led → Prop} (h : Q () m l) : T C (letOwnedTupleGo (.Name x p) it v) m l Q := T.pure h
theorem T_go_list {elts : List Expr} {x1 : Nat} {p : Pos} {I a T : Addr} {k : Nat} {o : Obj} {Q : Unit → Loc → Led → Prop} (hm : (I, o) ∈ l) (st : LIt a k o) (h : Q () m l) : Mine.T C (letOwnedTupleGo (.Tuple elts x1 p) (.ref I) (.ref T)) m l Q :=
  fun s _ _ O c => wpAny_letOwnedTupleGo_listiter (l := a) (i := k) ⟨o, (O.nw _ hm).1, st.1, st.2⟩ (c () s.heap s.toks m l h O)

theorem comp_block {elt target iter : Expr} {ifs : List Expr} {R : Value → Addr → Result → Shared → Prop} {fin : List Value → Loc → Led → Prop} {it : Value} {s : Shared} {E : Value → Shared → Prop}
    (hcell : ∀ y ∈ scope.names, y.2 ≠ .cell) (hkind : scope.kind = .function) (O : Okk C.h₀ C.L s.heap m l) (h : CompAt C env scope cl elt target ifs fin it m l)
    (hR : ∀ D oD mD acc na ys m l h' tk, NsO oD mD → ys.length ≤ 1000000 → Okk C.h₀ C.L h' m ((D, oD) :: (acc, lo ys na) :: l) → fin ys m l → R (.ref acc) D (.ok .next) { s with heap := h', toks := tk }) :
    wpAny (model C.prog C.w) C.A (newList []) (fun acc s₃ => wpAny (model C.prog C.w) C.A (newFunctionEnv scope env.globals cl [] env.qual none .none (some env)) (fun cenv s₄ =>
      codeAny (model C.prog C.w) C.A (.compStart (.ListComp elt [⟨target, iter, ifs, 0⟩] scope pos) 0 it acc { cenv with scope := relabel scope env }) (R acc cenv.locals) s₄) E s₃) E s := by
  obtain ⟨I, n, P, St, Need, o, l', Inv, rfl, W, hst, rfl, h0, hneed, hn, step, hfin⟩ := h
  refine T_newList (C := C) (vs := []) (Q := fun v m' l'' => m' = m ∧ ∃ d, v = .ref d ∧ l'' = (d, lo []) :: (I, o) :: l') (Nat.zero_le _) (fun d => ⟨rfl, d, rfl, rfl⟩) _ _ _ O ?_
  rintro _ h1 tk1 m1 _ ⟨rfl, acc, rfl, rfl⟩ O1
  refine wpAny_newFunctionEnv hcell (by intro y hy; simp at hy) (fun h2 hns hsb => ?_) hkind
  obtain ⟨oD, hoD, hD⟩ := nsO_of hns
  dsimp only at hsb hoD hns ⊢
  have O2 : Okk C.h₀ C.L h2 m1 ((h1.objs.size, oD) :: (acc, lo []) :: (I, o) :: l') := (O1.push { cls := .type "dict", data := .dict #[] }).same Rep.here hsb.extBut hoD
  have loop : ∀ (h2 : Heap) tk2, Okk C.h₀ C.L h2 m1 ((h1.objs.size, oD) :: (acc, lo []) :: (I, o) :: l') → 
      codeAny (model C.prog C.w) C.A (.compLoop (.ListComp elt [⟨target, iter, ifs, 0⟩] scope pos) 0 (.ref I) (.ref acc) (compEnvC scope cl h1.objs.size env)) (R (.ref acc) h1.objs.size) { s with heap := h2, toks := tk2 } := by
    intro h2 tk2 O2
    refine codeAny_compLoop_go (fun k s' => ∃ i ys h' tk m' l'' o oD mD na, s' = { s with heap := h', toks := tk } ∧ i ≤ n ∧ k = n - i ∧ St i o ∧ NsO oD mD ∧ Inv i ys m' l'' ∧
      Okk C.h₀ C.L h' m' ((h1.objs.size, oD) :: (acc, lo ys na) :: (I, o) :: l'')) ?_ n ⟨0, [], h2, _, m1, l', o, oD, _, 0, rfl, Nat.zero_le _, rfl, hst, hD, h0, O2⟩
    rintro k s' ⟨i, ys, h', tk, m', l'', o', oD', mD', na, rfl, hi, rfl, hst', hD', hI, O'⟩
    have hN := hneed _ _ _ _ hI
    have O'' : Okk C.h₀ C.L h' m' ((I, o') :: (h1.objs.size, oD') :: (acc, lo ys na) :: l'') := O'.less (.take (.there (.there .here)) (.refl _))
    by_cases hlt : i < n
    · refine W.item i o' _ m' (fun r m3 l3 => match r with
        | none => False
        | some v => ∃ o'', P i v ∧ St (i + 1) o'' ∧ m3 = m' ∧ l3 = (I, o'') :: (h1.objs.size, oD') :: (acc, lo ys na) :: l'') hlt hst' (W.more _ _ (W.more _ _ hN.1)) (fun v o'' hP hs => ⟨o'', hP, hs, rfl, rfl⟩) { s with heap := h', toks := tk } _ _ O'' fun r h3 tk3 m3 l3 k3 O3 => ?_
      cases r with
      | none => exact k3.elim
      | some v =>
        obtain ⟨o'', hP, hst3, rfl, rfl⟩ := k3
        have O3' : Okk C.h₀ C.L h3 m3 ((h1.objs.size, oD') :: (acc, lo ys na) :: (I, o'') :: l'') := O3.less (.take (.there .here) (.take (.there .here) (.refl _)))
        have next : ∀ (ys' : List Value) (hy : ys'.length ≤ i + 1) h6 tk6 m6 l6, InComp h1.objs.size acc I o'' ys' na (Inv (i + 1) ys') m6 l6 → Okk C.h₀ C.L h6 m6 l6 →
            (∃ m_1, m_1 < n - i ∧ ∃ i ys h' tk m' l'' o oD mD na, ({ s with heap := h6, toks := tk6 } : Shared) = { s with heap := h', toks := tk } ∧ i ≤ n ∧ m_1 = n - i ∧ St i o ∧ NsO oD mD ∧ Inv i ys m' l'' ∧
              Okk C.h₀ C.L h' m' ((h1.objs.size, oD) :: (acc, lo ys na) :: (I, o) :: l'')) := by
          rintro ys' hy h6 tk6 m6 l6 ⟨oD6, mD6, l7, hD6, hs6, hI6⟩ O6
          exact ⟨n - (i + 1), by omega, i + 1, ys', h6, tk6, m6, l7, o'', oD6, mD6, na, rfl, hlt, rfl, hst3, hD6, hI6, O6.less hs6⟩
        refine step i v o'' _ oD' mD' acc na ys m3 l'' hlt hP hI hD' hst3 _ _ _ O3' fun _ h4 tk4 m4 l4 k4 O4 => k4 _ _ _ O4 fun _ h5 tk5 m5 l5 k5 O5 => k5 _ _ _ O5 fun ok h6 tk6 m6 l6 k6 O6 => ?_
        cases ok with
        | false => rw [if_neg Bool.false_ne_true]; exact next ys (Nat.le_succ_of_le hN.2) h6 tk6 m6 l6 k6 O6
        | true =>
          rw [if_pos rfl]
          refine k6 _ _ _ O6 fun y h7 tk7 m7 l7 k7 O7 => ?_
          obtain ⟨oD7, mD7, l8, hD7, hs7, hI7⟩ := k7
          refine T_append (C := C) (l := (h1.objs.size, oD7) :: (acc, lo ys na) :: (I, o'') :: l8) (Q := fun _ m9 l9 => m9 = m7 ∧ l9 = (h1.objs.size, oD7) :: (acc, lo (ys ++ [y]) (na + 1)) :: (I, o'') :: l8) (Rep.there Rep.here) (by rw [sizeLine_eq]; omega) ⟨rfl, rfl⟩ _ _ _ (O7.less hs7) ?_
          rintro _ h9 tk9 m9 _ ⟨rfl, rfl⟩ O9
          exact ⟨n - (i + 1), by omega, i + 1, ys ++ [y], h9, tk9, m9, l8, o'', oD7, mD7, na + 1, rfl, hlt, rfl, hst3, hD7, hI7, O9⟩
    · have : i = n := by omega
      subst this
      refine W.done o' _ m' (fun r m3 l3 => r = none ∧ m3 = m' ∧ l3 = (h1.objs.size, oD') :: (acc, lo ys na) :: l'') hst' (W.more _ _ (W.more _ _ hN.1)) ⟨rfl, rfl, rfl⟩ { s with heap := h', toks := tk } _ _ O'' fun r h3 tk3 m3 l3 k3 O3 => ?_
      obtain ⟨rfl, rfl, rfl⟩ := k3
      exact hR _ oD' mD' acc na ys _ _ h3 tk3 hD' (Nat.le_trans hN.2 hn) O3 (hfin _ _ _ hI)
  refine codeAny_compStart_list (loop _ _ O2) ?_
  refine W.self 0 o ((h1.objs.size, oD) :: (acc, lo []) :: l') m1 (fun v m3 l3 => v = .ref I ∧ m3 = m1 ∧ l3 = (I, o) :: (h1.objs.size, oD) :: (acc, lo []) :: l') hst ⟨rfl, rfl, rfl⟩ _ _ _ (O2.less (.take (.there (.there .here)) (.refl _))) ?_
  rintro _ h3 tk3 m3 _ ⟨rfl, rfl, rfl⟩ O3
  exact loop _ _ (O3.less (.take (.there .here) (.take (.there .here) (.take .here (.refl _)))))

theorem T_ListComp {elt target iter : Expr} {ifs : List Expr} {Q : Value → Loc → Led → Prop}
    (hclos : closureFor scope env = pure cl) (hcell : ∀ y ∈ scope.names, y.2 ≠ .cell) (hkind : scope.kind = .function) (hnames : ∀ y ∈ scope.names, y.2 = .local → scope.names.lookup y.1 = some .local)
    (h : T C (eval iter env) m l fun x m1 l1 => T C (pyIter x) m1 l1 (CompAt C env scope cl elt target ifs fun ys m l => ∀ acc na, Q (.ref acc) m ((acc, lo ys na) :: l)))
    (hs : ∀ x, foldedSetIterable iter env x = pure x := by intro _; rfl) : T C (eval (.ListComp elt [⟨target, iter, ifs, 0⟩] scope pos) env) m l Q := by
  intro s P E O c
  rw [eval_ListComp]
  refine wpAny_comprehension_free (use := none) rfl hs hclos hkind hnames (h s _ E O fun x h1 tk1 m1 l1 k1 O1 => k1 _ _ E O1 fun it h2 tk2 m2 l2 k2 O2 => ?_)
  refine comp_block (R := fun acc D => compPost (model C.prog C.w) C.A E none P acc D) hcell hkind O2 k2 ?_
  intro D oD mD acc na ys m l h' tk hD hy O' hf
  refine ⟨mD, hD.ns (O'.nw _ List.mem_cons_self).1, fun h'' hs'' => ?_⟩
  exact c _ h'' tk m _ (hf acc na) (O'.lost hs''.extBut)

theorem T_Assign_comp {elt target iter : Expr} {ifs : List Expr} {y : Str} {py spos : Pos} {Q : Flow → Loc → Led → Prop}
    (hsw : swapsWith (.ListComp elt [⟨target, iter, ifs, 0⟩] scope pos) (some (.Name y py)) spos.line env = pure true)
    (hclos : closureFor scope env = pure cl) (hcell : ∀ y ∈ scope.names, y.2 ≠ .cell) (hkind : scope.kind = .function) (hnames : ∀ y ∈ scope.names, y.2 = .local → scope.names.lookup y.1 = some .local)
    (hy : env.kindOf y = some .local) (hL : env.locals = C.L) (hp : (env.scope.kind == .class || (env.scope.kind == .module && env.locals != env.globals)) = false)
    (h : T C (eval iter env) m l fun x m1 l1 => T C (pyIter x) m1 l1 (CompAt C env scope cl elt target ifs fun ys m l => ∀ acc na, Q .next (up m y (.ref acc)) ((acc, lo ys na) :: l)))
    (hs : ∀ x, foldedSetIterable iter env x = pure x := by intro _; rfl) : T C (exec (.Assign [.Name y py] (.ListComp elt [⟨target, iter, ifs, 0⟩] scope pos) spos) env) m l Q := by
  intro s P E O c
  rw [exec_Assign_Name_used _ _ _ _ hsw]
  refine wpAny_bind (wpAny_standAt (wpAny_bind ?_))
  show wpAny _ _ (do let _ ← comprehension (.ListComp elt [⟨target, iter, ifs, 0⟩] scope pos) scope env _ (newList []) false (eval iter env) (some (assign (.Name y py) env))) _ _ s
  refine wpAny_bind (wpAny_mono (wpAny_comprehension_free (use := some (assign (.Name y py) env)) (Q := fun _ s' => P .next s') rfl hs hclos hkind hnames
    (h s _ E O fun x h1 tk1 m1 l1 k1 O1 => k1 _ _ E O1 fun it h2 tk2 m2 l2 k2 O2 => ?_)) (fun _ s' hq => wpAny_pure (wpAny_pure hq)) fun _ _ e => e)
  refine comp_block (R := fun acc D => compPost (model C.prog C.w) C.A E (some (assign (.Name y py) env)) (fun _ s' => P .next s') acc D) hcell hkind O2 k2 ?_
  intro D oD mD acc na ys m l h' tk hD hy' O' hf
  show wpAny _ _ (assign (.Name y py) env (.ref acc)) _ _ _
  refine wpAny_assign_Name (wpAny_storeName_local hy (hL ▸ O'.fr.ns) (fun h3 hn3 hs3 => ?_) hp)
  rw [hL] at hs3 hn3
  have O3 : Okk C.h₀ C.L h3 (up m y (.ref acc)) ((D, oD) :: (acc, lo ys na) :: l) := ⟨O'.fr.set hn3 hs3, O'.nw.set hs3, O'.nd⟩
  refine ⟨mD, hD.ns (O3.nw _ List.mem_cons_self).1, fun h'' hs'' => ?_⟩
  exact c _ h'' _ _ _ (hf acc na) (O3.lost hs''.extBut)
end comps
end Mine
end

section
open PySem PySem.W PySem.Calls PyProof.Rows
set_option Elab.async false
set_option maxRecDepth 100000
set_option linter.unusedVariables false
namespace Mine
variable {C : Cx} {α β : Type} {m : Loc} {l : Led} {mg mb : Loc}

abbrev pw := PySem.Challenge.pw_uk0022_01
def stm (i : Nat) : Stmt := pw.main.body.getD i (.Pass ⟨0, 0, 0, 0⟩)
def fParams (i : Nat) : Arguments := match stm i with | .FunctionDef _ a .. => a | _ => ⟨[], [], none, [], [], none, []⟩
def fBody (i : Nat) : List Stmt := match stm i with | .FunctionDef _ _ b .. => b | _ => []
def fScope (i : Nat) : Scope := match stm i with | .FunctionDef _ _ _ _ _ _ s _ _ _ => s | _ => default

/-- a function of the program stands in the base -/
structure Def (h : Heap) (mg : Loc) (i : Nat) (name : Str) (dV kV : Value) where
  f : Addr
  fo : Obj
  doc : Value
  pm : Value
  an : Option Addr
  cdv : Value
  ct : Value
  g : mg name = some (.ref f)
  get : h.get? f = some fo
  data : fo.data = .func (fnX name name (fParams i) (fBody i) (fScope i) [] dV kV doc pm an cdv ct)
  code : h.CodeRec cdv name
abbrev Def.keeps {h h' : Heap} {mg : Loc} {i : Nat} {name : Str} {dV kV : Value} (d : Def h mg i name dV kV) (k : ∀ b o, h.get? b = some o → h'.get? b = some o) : Def h' mg i name dV kV :=
  { d with get := k _ _ d.get, code := d.code.keeps k }

theorem T.gen {t : Sem α} {Q : α → Loc → Led → Prop} (h : ∀ m0, m0 = m → T C t m0 l Q) : T C t m l Q := h m rfl
section go
variable {rest body orelse : List Stmt} {env : Env} {Q : Flow → Loc → Led → Prop} {Inv : Nat → Loc → Led → Prop} {k : Nat} {I : Addr} {o : Obj} {Inv' : Loc → Led → Prop}
theorem go_next (h : T C (execs rest env) m l Q) : nextOr C rest env Q .next m l := h
theorem go_ret {v : Value} (h : Q (.ret v) m l) : nextOr C rest env Q (.ret v) m l := h
theorem go_true {b : Bool} (hb : b = true) (h : T C (execs body env) m l Q) : iteT C body orelse env Q b m l := by subst hb; exact h
theorem go_false {b : Bool} (hb : b = false) (h : T C (execs orelse env) m l Q) : iteT C body orelse env Q b m l := by subst hb; exact h
theorem go_turn (h : ∃ k', k' < k ∧ ∃ l', Sub l' l ∧ Inv k' m l') : turnEnd Inv k Q .next m l := h
theorem go_turn_ret {v : Value} (h : Q (.ret v) m l) : turnEnd Inv k Q (.ret v) m l := h
theorem go_for (h : ∃ l', Sub ((I, o) :: l') l ∧ Inv' m l') : forEnd I o Inv' Q .next m l := h
theorem go_for_ret {v : Value} (h : Q (.ret v) m l) : forEnd I o Inv' Q (.ret v) m l := h
end go
structure Nms (mg mb : Loc) : Prop where
  len : mg "len" = none ∧ mb "len" = some (.builtin "len")
  range : mg "range" = none ∧ mb "range" = some (.type "range")
  max : mg "max" = none ∧ mb "max" = some (.builtin "max")
  min : mg "min" = none ∧ mb "min" = some (.builtin "min")
  sum : mg "sum" = none ∧ mb "sum" = some (.builtin "sum")
  chr : mg "chr" = none ∧ mb "chr" = some (.builtin "chr")
  ord : mg "ord" = none ∧ mb "ord" = some (.builtin "ord")
  list : mg "list" = none ∧ mb "list" = some (.type "list")
theorem T_builtinN {cn : Str} {cs : Scope} {a : Addr} {cd : Value} {cl : List (Str × Addr)} {x : Str} {pos : Pos} {v : Value} {Q : Value → Loc → Led → Prop} (S : Stat mg mb C.h₀) (e : mg x = none ∧ mb x = some v) (h : Q v m l)
    (hk : cs.kind = .function := by rfl) (hx : (envX cn cs C.L a cd cl).kindOf x = some .globalImplicit := by rfl) (hd : (x == ("__debug__" : Str)) = false := by decide) :
    T C (eval (.Name x pos) (envX cn cs C.L a cd cl)) m l Q := T_builtin S e.1 e.2 h hk hx hd
end Mine
end

section
open PySem PySem.W PySem.Calls PyProof.Rows
set_option Elab.async false
set_option maxRecDepth 100000
set_option linter.unusedVariables false
namespace Mine
variable {C : Cx} {α β : Type} {m : Loc} {l : Led} {mg mb : Loc}

theorem T_List {env : Env} {elts : List Expr} {pos : Pos} {Q : Value → Loc → Led → Prop} (h : T C (spliced (backTo pos (starEach elts env))) m l fun vs m1 l1 => T C (newList vs) m1 l1 Q) : T C (eval (.List elts pos) env) m l Q :=
  fun s P E O k => List_ (h s _ E O fun vs h' tk m1 l1 h1 O1 => h1 _ P E O1 fun r h2 tk2 m2 l2 q O2 => k r h2 tk2 m2 l2 q O2)
theorem T_Assign_Tuple {env : Env} {elts : List Expr} {k : Nat} {tpos pos : Pos} {value : Expr} {Q : Flow → Loc → Led → Prop}
    (h : T C (eval value env) m l fun v m1 l1 => T C (assign (.Tuple elts k tpos) env v) m1 l1 fun _ => Q .next)
    (hs : swapsWithSole [.Tuple elts k tpos] value pos.line env = pure false) (hw : swappedStores [.Tuple elts k tpos] value env = pure none) :
    T C (exec (.Assign [.Tuple elts k tpos] value pos) env) m l Q :=
  fun s P E O c => Assign_Tuple (h s _ E O fun v h1 tk1 m1 l1 k1 O1 => k1 _ _ E O1 fun _ h2 tk2 m2 l2 k2 O2 => c _ h2 tk2 m2 l2 k2 O2) hs hw
theorem T_Tuple {env : Env} {elts : List Expr} {x1 : Nat} {pos : Pos} {Q : Value → Loc → Led → Prop}
    (h : T C (spliced (backTo pos (starEach elts env))) m l fun vs m1 l1 => T C (newTuple vs) m1 l1 Q) : T C (eval (.Tuple elts x1 pos) env) m l Q := by
  rw [arm_eval_Tuple]
  exact T.bind (T.standAt (T.bind h))
theorem T_callWith_builtinN {env : Env} {pos : Pos} {Q : Value → Loc → Led → Prop} {id : String} {e : Expr} {rest : List Expr}
    (h : T C (spliced (backTo pos (starEach (e :: rest) env))) m l fun vs m1 l1 => T C (call (.builtin id) vs) m1 l1 Q)
    (he : starEach (e :: rest) env = (false, eval e env) :: starEach rest env := by rfl) (hplain : (backTo pos (starEach rest env)).any (·.1) = false := by rfl) :
    T C (callWith pos (.builtin id) [] (backTo pos (starEach (e :: rest) env)) []) m l Q := T_callWith_builtin h he hplain

end Mine
end

section
open PySem PySem.W PySem.Calls PyProof.Rows
open Mine
local macro_rules | `(tactic| walk_at "take") => `(tactic| first | (with_reducible refine Sub.take Pick.here ?_) | (with_reducible refine Sub.take (Pick.there Pick.here) ?_) | (with_reducible refine Sub.take (Pick.there (Pick.there Pick.here)) ?_) | (with_reducible refine Sub.take (Pick.there (Pick.there (Pick.there Pick.here))) ?_) | (with_reducible refine Sub.take (Pick.there (Pick.there (Pick.there (Pick.there Pick.here)))) ?_) | (with_reducible refine Sub.take (Pick.there (Pick.there (Pick.there (Pick.there (Pick.there Pick.here))))) ?_) | (with_reducible refine Sub.take (Pick.there (Pick.there (Pick.there (Pick.there (Pick.there (Pick.there Pick.here)))))) ?_))
local macro_rules | `(tactic| walk_at "subd") => `(tactic| first | assumption | (with_reducible exact Sub.refl _) | ((with_reducible refine Sub.drop ?_); walk_at "subd"))
local macro_rules | `(tactic| walk_at "sub") => `(tactic| ((repeat walk_at "take"); walk_at "subd"))
local macro_rules | `(tactic| walk_at "mem") => `(tactic| first | assumption | (with_reducible exact List.mem_cons_self) | ((with_reducible refine List.mem_cons_of_mem _ ?_); walk_at "mem"))
local macro_rules | `(tactic| walk_at "loc") => `(tactic| first | assumption | exact up_same _ _ _ | (refine (up_lit_ne (by decide)).trans ?_; walk_at "loc") | rfl)
local macro_rules | `(tactic| walk_at "t") => `(tactic| first
  | ((with_reducible refine' T_local ?hv ?_ ?hk ?hx ?hd); (case hv => walk_at "loc"); (case hk => rfl); (case hx => rfl); (case hd => decide))
  | ((with_reducible refine' T_cell ?hc ?hm ?hd ?_ ?hk ?hx ?hb); (case hc => rfl); (case hm => walk_at "mem"); (case hd => assumption); (case hk => rfl); (case hx => rfl); (case hb => decide))
  | ((with_reducible refine' T_free ?hc ?hm ?hd ?_ ?hk ?hx ?hb ?hn); (case hc => rfl); (case hm => walk_at "mem"); (case hd => assumption); (case hk => rfl); (case hx => rfl); (case hb => decide); (case hn => decide))
  | ((with_reducible refine' T_compLocal ?hm ?hD ?hv ?_ ?hk ?hx ?hd); (case hm => walk_at "mem"); (case hD => assumption); (case hv => walk_at "loc"); (case hk => rfl); (case hx => rfl); (case hd => decide))
  | ((with_reducible refine' T_compCell ?hc ?hm ?hd ?_ ?hk ?hx ?hb); (case hc => rfl); (case hm => walk_at "mem"); (case hd => assumption); (case hk => rfl); (case hx => rfl); (case hb => decide))
  | ((with_reducible refine' T_compFree ?hc ?hm ?hd ?_ ?hk ?hx ?hb ?hn); (case hc => rfl); (case hm => walk_at "mem"); (case hd => assumption); (case hk => rfl); (case hx => rfl); (case hb => decide); (case hn => decide))
  | (with_reducible refine' T_cons ?_) | (with_reducible refine' T_nil ?_) | (with_reducible refine' T_If ?_) | (with_reducible refine' T_Return ?_)
  | ((with_reducible refine' T_Assign ?_ ?hs); (case hs => rfl))
  | ((with_reducible refine' T_store ?_ ?hk ?hx); (case hk => rfl); (case hx => rfl))
  | ((with_reducible refine' T_isTrue_Compare1 ?_ ?hm); (case hm => with_unfolding_all rfl))
  | ((with_reducible refine' T_Compare1 ?_ ?hm); (case hm => with_unfolding_all rfl))
  | (with_reducible refine' T_BinOp ?_) | ((with_reducible refine' T_SubscriptP ?hns ?_); (case hns => rfl))
  | ((with_reducible refine' T_Call ?_ ?he); (case he => rfl))
  | ((with_reducible refine' T_int ?_); intro _) | ((with_reducible refine' T_str ?_); intro _) | (with_reducible refine' T_bool ?_) | (with_reducible refine' T_none ?_)
  | (with_reducible refine' T_lt_int ?_) | (with_reducible refine' T_is_none ?_) | (with_reducible refine' T_truthy_bool ?_) | (with_reducible refine' T_isNot_none ?_) | (with_reducible refine' T_eq_int ?_) | ((with_reducible refine' T_sub_int ?_); intro _) | (with_reducible refine' T_gt_int ?_) | (with_reducible refine' T_ge_int ?_) | ((with_reducible refine' T_callWith_builtin0 ?_)) | ((with_reducible refine' T_add_int ?_); intro _)
  | ((with_reducible refine' T_args_cons ?_ ?he); (case he => rfl)) | (with_reducible refine' T_args_nil ?_)
  | ((with_reducible refine' T_callWith_type ?_ ?he ?hp); (case he => rfl); (case hp => rfl))
  | ((with_reducible refine' T_callWith_builtinN ?_ ?he ?hp); (case he => rfl); (case hp => rfl))
  | ((with_reducible refine' T_callWith_builtin ?_ ?he ?hp); (case he => rfl); (case hp => rfl))
  | ((with_reducible refine' T_fdiv_int ?hh ?hb ?_ ?hl); (case hh => first | rfl | assumption | exact Act.hand (by assumption)); (case hb => decide); (case hl => exact PyProof.noPylong_small (by decide)); intro _)
  | ((with_reducible refine' T_mod_int ?hh ?hb ?_); (case hh => first | rfl | assumption | exact Act.hand (by assumption)); (case hb => decide); intro _)
  | ((with_reducible refine' T_global ?S ?e ?_ ?hk ?hx ?hd); (case S => assumption); (case e => assumption); (case hk => rfl); (case hx => rfl); (case hd => decide))
  | ((with_reducible refine' T_Call_kw ?_))
  | ((with_reducible refine' T_Assign_Tuple ?_ ?hs ?hw); (case hs => rfl); (case hw => rfl))
  | ((with_reducible refine' T_ExprStmt ?_ ?hi ?hs); (case hi => rfl); (case hs => rfl))
  | ((with_reducible refine' T_MethodCall ?_ ?he); (case he => rfl))
  | ((with_reducible refine' T_builtinN ?S ?e ?_ ?hk ?hx ?hd); (case S => assumption); (case e => first | exact Nms.len (by assumption) | exact Nms.range (by assumption) | exact Nms.max (by assumption) | exact Nms.min (by assumption) | exact Nms.sum (by assumption) | exact Nms.chr (by assumption) | exact Nms.ord (by assumption) | exact Nms.list (by assumption)); (case hk => rfl); (case hx => rfl); (case hd => decide))
  | (with_reducible refine' T_List ?_) | (with_reducible refine' T_Tuple ?_)
  | (with_reducible refine' go_next ?_) | (with_reducible refine' go_ret ?_)
  | ((with_reducible refine' go_false ?hb ?_); (case hb => first | rfl | assumption | (simp; done)))
  | ((with_reducible refine' go_true ?hb ?_); (case hb => first | rfl | assumption | (simp; done)))
  | (dsimp only [List.nil_append, List.cons_append, Nat.cast_zero]))
section
open PySem PySem.W PySem.Calls PyProof.Rows
set_option Elab.async false
set_option maxRecDepth 100000
set_option linter.unusedVariables false
namespace Mine
variable {C : Cx} {α β : Type} {m : Loc} {l : Led} {mg mb : Loc}
/-- a later context: of the same program, with a larger base -/
structure Later (C C' : Cx) : Prop where
  prog : C'.prog = C.prog
  w : C'.w = C.w
  keep : ∀ b o, C.h₀.get? b = some o → C'.h₀.get? b = some o

/-- what can be asked for its length and its places -/
structure SeqOk (C : Cx) (l : Led) (av : Value) (n : Nat) (item : Nat → Value → Prop) : Prop where
  len : ∀ C' m (Q : Value → Loc → Led → Prop), Later C C' → (∀ t, Q (.int n t) m l) → T C' (call (.builtin "len") [av]) m l Q
  item : ∀ C' m (Q : Value → Loc → Led → Prop) x y p q i u, Later C C' → C'.A.handled = none → i < n → (∀ v, item i v → Q v m l) → T C' (subscriptTail (.Name x p) (.Name y q) av (.int i u)) m l Q

/-- a key: it gives of each place something that the search then compares -/
structure KeyOk (C : Cx) (l : Led) (kf : Addr) (ko : Obj) (kd : FuncData) (n : Nat) (item res : Nat → Value → Prop) (r : Nat) : Prop where
  seen : Seen C l kf ko
  data : ko.data = .func kd
  call : ∀ C' env outer m (Q : Value → Loc → Led → Prop) i v, Later C C' → Act C' env outer r → i < n → item i v → (∀ v', res i v' → Q v' m l) → T C' (call (.ref kf) [v]) m l Q


theorem binds_keyL {s : Shared} {T1 K1 : Addr} {t0 : Tok} {mk : Loc} {a x : Value} {name qual : Str} {body : List Stmt} {scope : Scope} {doc pm cdv ct : Value} {an : Option Addr} (hT : s.heap.get? T1 = some (tup [.int 0 t0, .none])) (hK : s.heap.Ns K1 mk) (hmk : mk "key" = some .none) :
    BindsTo s (fnX name qual (fParams 3) body scope [] (.ref T1) (.ref K1) doc pm an cdv ct) ⟨[a, x], []⟩ [("a", a), ("x", x), ("lo", .int 0 t0), ("hi", .none), ("key", .none)] := by
  intro M A E Q hq
  show wpAny M A (seqItems? (.ref T1) >>= _) Q E s
  refine wpAny_bind (wpAny_seqItems hT rfl ?_)
  show wpAny M A (((nsGet K1 "key" >>= _) >>= _) >>= _) Q E s
  refine wpAny_bind (wpAny_bind (wpAny_bind (wpAny_nsGet hK ?_)))
  rw [hmk]
  exact wpAny_pure (wpAny_pure (wpAny_pure hq))

theorem binds_keyR {s : Shared} {T1 K1 : Addr} {t0 : Tok} {mk : Loc} {a x : Value} {name qual : Str} {body : List Stmt} {scope : Scope} {doc pm cdv ct : Value} {an : Option Addr} (hT : s.heap.get? T1 = some (tup [.int 0 t0, .none])) (hK : s.heap.Ns K1 mk) (hmk : mk "key" = some .none) :
    BindsTo s (fnX name qual (fParams 1) body scope [] (.ref T1) (.ref K1) doc pm an cdv ct) ⟨[a, x], []⟩ [("a", a), ("x", x), ("lo", .int 0 t0), ("hi", .none), ("key", .none)] := by
  intro M A E Q hq
  show wpAny M A (seqItems? (.ref T1) >>= _) Q E s
  refine wpAny_bind (wpAny_seqItems hT rfl ?_)
  show wpAny M A (((nsGet K1 "key" >>= _) >>= _) >>= _) Q E s
  refine wpAny_bind (wpAny_bind (wpAny_bind (wpAny_nsGet hK ?_)))
  rw [hmk]
  exact wpAny_pure (wpAny_pure (wpAny_pure hq))

theorem bisect_left_keyG {env : Env} {outer : List Env} {r : Nat} (K : Act C env outer (r + 1)) (S : Stat mg mb C.h₀) {T1 K1 : Addr} (d : Def C.h₀ mg 3 "bisect_left" (.ref T1) (.ref K1)) (N : Nms mg mb)
    {t0 : Tok} {pos : List Value} {kw : List (Str × Value)}
    {av xv : Value} {n j : Nat} {item res : Nat → Value → Prop} {kf : Addr} {ko : Obj} {kd : FuncData} (hn : n ≤ 1000000) (sq : SeqOk C l av n item) (ky : KeyOk C l kf ko kd n item res r)
    (hc : ∀ C' m (Q : Value → Loc → Led → Prop) i v, i < n → res i v → Q (.bool (decide (i < j))) m l → T C' (compareOp .Lt v xv) m l Q) (hj : j ≤ n)
    (hb : ∀ s : Shared, (∀ b o, C.h₀.get? b = some o → s.heap.get? b = some o) → BindsTo s (fnX "bisect_left" "bisect_left" (fParams 3) (fBody 3) (fScope 3) [] (.ref T1) (.ref K1) d.doc d.pm d.an d.cdv d.ct) ⟨pos, kw⟩ [("a", av), ("x", xv), ("lo", .int 0 t0), ("hi", .none), ("key", .ref kf)])
    {Q : Value → Loc → Led → Prop} (h : ∀ t, Q (.int j t) m l) : T C (call (.ref d.f) pos kw) m l Q := by
  refine T_call_plain (binds := [("a", av), ("x", xv), ("lo", .int 0 t0), ("hi", .none), ("key", .ref kf)]) K S (.inl d.get) d.data (fun h k _ => d.code.keeps k) (fun s k => hb s k) (fun g L' kg Sg Kg => ?_) ?_ ?_ rfl rfl rfl
  · refine T.gen fun m0 hm0 => ?_
    have ha : m0 "a" = some av := by rw [hm0]; rfl
    have hx : m0 "x" = some xv := by rw [hm0]; rfl
    have hlo : m0 "lo" = some (.int 0 t0) := by rw [hm0]; rfl
    have hhi : m0 "hi" = some .none := by rw [hm0]; rfl
    have hk : m0 "key" = some (.ref kf) := by rw [hm0]; rfl
    clear hm0
    refine T_cons ?_
    repeat walk_at "t"
    refine sq.len _ _ _ ⟨rfl, rfl, kg⟩ fun t => ?_
    repeat walk_at "t"
    refine T_While (fun k m' l' => ∃ lo hi tl th, m' "lo" = some (.int lo tl) ∧ m' "hi" = some (.int hi th) ∧ m' "a" = some av ∧ m' "x" = some xv ∧ m' "key" = some (.ref kf) ∧ l' = l ∧ 0 ≤ lo ∧ lo ≤ j ∧ j ≤ hi ∧ hi ≤ n ∧ (k : Int) = hi - lo) ?_ n ?_
    · rintro k m' l' ⟨lo, hi, tl, th, hlo, hhi, ha, hx, hk, rfl, h1, h2, h3, h4, h5⟩
      repeat walk_at "t"
      by_cases hb : lo < hi
      · rw [decide_eq_true hb]
        dsimp only
        repeat walk_at "t"
        refine T_callWith_def ky.data ?_
        repeat walk_at "t"
        obtain ⟨i, ei, hi1, hi2⟩ : ∃ i : Nat, (lo + hi).fdiv 2 = i ∧ lo ≤ i ∧ (i : Int) < hi := ⟨((lo + hi) / 2).toNat, by rw [Int.fdiv_eq_ediv_of_nonneg _ (by decide)]; omega, by omega, by omega⟩
        rw [ei]
        refine sq.item _ _ _ _ _ _ _ _ _ ⟨rfl, rfl, kg⟩ Kg.hand (by omega) fun v hv => ?_
        repeat walk_at "t"
        refine ⟨ky.seen.imp (kg _ _) id, ?_⟩
        refine ky.call _ _ _ _ _ i v ⟨rfl, rfl, kg⟩ Kg (by omega) hv fun v' hv' => ?_
        repeat walk_at "t"
        refine hc _ _ _ i v' (by omega) hv' ?_
        repeat walk_at "t"
        by_cases hij : i < j
        · refine go_true (by simpa using hij) ?_
          repeat walk_at "t"
          exact go_turn ⟨(hi - (i + 1)).toNat, by omega, l', .refl _, (i : Int) + 1, hi, _, th, by walk_at "loc", by walk_at "loc", by walk_at "loc", by walk_at "loc", by walk_at "loc", rfl, by omega, by omega, by omega, by omega, by omega⟩
        · refine go_false (by simpa using hij) ?_
          repeat walk_at "t"
          exact go_turn ⟨(i - lo).toNat, by omega, l', .refl _, lo, i, tl, _, by walk_at "loc", by walk_at "loc", by walk_at "loc", by walk_at "loc", by walk_at "loc", rfl, by omega, by omega, by omega, by omega, by omega⟩
      · rw [decide_eq_false hb]
        dsimp only
        repeat walk_at "t"
        obtain rfl : lo = j := by omega
        exact h _
    · exact ⟨0, n, t0, t, by walk_at "loc", by walk_at "loc", by walk_at "loc", by walk_at "loc", by walk_at "loc", rfl, by omega, by omega, by omega, by omega, by omega⟩
  · intro y hy
    simp only [List.mem_cons, List.not_mem_nil, or_false] at hy
    rcases hy with rfl | rfl | rfl | rfl | rfl <;> rfl
  · decide
theorem bisect_left_key {env : Env} {outer : List Env} {r : Nat} (K : Act C env outer (r + 1)) (S : Stat mg mb C.h₀) {T1 K1 : Addr} (d : Def C.h₀ mg 3 "bisect_left" (.ref T1) (.ref K1)) (N : Nms mg mb)
    {t0 : Tok} (hT1 : C.h₀.get? T1 = some (tup [.int 0 t0, .none]))
    {av xv : Value} {n j : Nat} {item res : Nat → Value → Prop} {kf : Addr} {ko : Obj} {kd : FuncData} (hn : n ≤ 1000000) (sq : SeqOk C l av n item) (ky : KeyOk C l kf ko kd n item res r)
    (hc : ∀ C' m (Q : Value → Loc → Led → Prop) i v, i < n → res i v → Q (.bool (decide (i < j))) m l → T C' (compareOp .Lt v xv) m l Q) (hj : j ≤ n)
    {Q : Value → Loc → Led → Prop} (h : ∀ t, Q (.int j t) m l) : T C (call (.ref d.f) [av, xv] [("key", .ref kf)]) m l Q :=
  bisect_left_keyG (t0 := t0) K S d N hn sq ky hc hj (fun s k => BindsTo.of_defaults (T := T1) rfl (k _ _ hT1) rfl rfl rfl) h
theorem bisect_right_key {env : Env} {outer : List Env} {r : Nat} (K : Act C env outer (r + 1)) (S : Stat mg mb C.h₀) {T1 K1 : Addr} (d : Def C.h₀ mg 1 "bisect_right" (.ref T1) (.ref K1)) (N : Nms mg mb)
    {t0 : Tok} (hT1 : C.h₀.get? T1 = some (tup [.int 0 t0, .none]))
    {av xv : Value} {n j : Nat} {item res : Nat → Value → Prop} {kf : Addr} {ko : Obj} {kd : FuncData} (hn : n ≤ 1000000) (sq : SeqOk C l av n item) (ky : KeyOk C l kf ko kd n item res r)
    (hc : ∀ C' m (Q : Value → Loc → Led → Prop) i v, i < n → res i v → Q (.bool (decide (j ≤ i))) m l → T C' (compareOp .Lt xv v) m l Q) (hj : j ≤ n)
    {Q : Value → Loc → Led → Prop} (h : ∀ t, Q (.int j t) m l) : T C (call (.ref d.f) [av, xv] [("key", .ref kf)]) m l Q := by
  refine T_call_plain (binds := [("a", av), ("x", xv), ("lo", .int 0 t0), ("hi", .none), ("key", .ref kf)]) K S (.inl d.get) d.data (fun h k _ => d.code.keeps k) (fun s k => ?_) (fun g L' kg Sg Kg => ?_) ?_ ?_ rfl rfl rfl
  · exact BindsTo.of_defaults (T := T1) rfl (k _ _ hT1) rfl rfl rfl
  · refine T.gen fun m0 hm0 => ?_
    have ha : m0 "a" = some av := by rw [hm0]; rfl
    have hx : m0 "x" = some xv := by rw [hm0]; rfl
    have hlo : m0 "lo" = some (.int 0 t0) := by rw [hm0]; rfl
    have hhi : m0 "hi" = some .none := by rw [hm0]; rfl
    have hk : m0 "key" = some (.ref kf) := by rw [hm0]; rfl
    clear hm0
    refine T_cons ?_
    repeat walk_at "t"
    refine sq.len _ _ _ ⟨rfl, rfl, kg⟩ fun t => ?_
    repeat walk_at "t"
    refine T_While (fun k m' l' => ∃ lo hi tl th, m' "lo" = some (.int lo tl) ∧ m' "hi" = some (.int hi th) ∧ m' "a" = some av ∧ m' "x" = some xv ∧ m' "key" = some (.ref kf) ∧ l' = l ∧ 0 ≤ lo ∧ lo ≤ j ∧ j ≤ hi ∧ hi ≤ n ∧ (k : Int) = hi - lo) ?_ n ?_
    · rintro k m' l' ⟨lo, hi, tl, th, hlo, hhi, ha, hx, hk, rfl, h1, h2, h3, h4, h5⟩
      repeat walk_at "t"
      by_cases hb : lo < hi
      · rw [decide_eq_true hb]
        dsimp only
        repeat walk_at "t"
        refine T_callWith_def ky.data ?_
        repeat walk_at "t"
        obtain ⟨i, ei, hi1, hi2⟩ : ∃ i : Nat, (lo + hi).fdiv 2 = i ∧ lo ≤ i ∧ (i : Int) < hi := ⟨((lo + hi) / 2).toNat, by rw [Int.fdiv_eq_ediv_of_nonneg _ (by decide)]; omega, by omega, by omega⟩
        rw [ei]
        refine sq.item _ _ _ _ _ _ _ _ _ ⟨rfl, rfl, kg⟩ Kg.hand (by omega) fun v hv => ?_
        repeat walk_at "t"
        refine ⟨ky.seen.imp (kg _ _) id, ?_⟩
        refine ky.call _ _ _ _ _ i v ⟨rfl, rfl, kg⟩ Kg (by omega) hv fun v' hv' => ?_
        repeat walk_at "t"
        refine hc _ _ _ i v' (by omega) hv' ?_
        repeat walk_at "t"
        by_cases hij : j ≤ i
        · refine go_true (by simpa using hij) ?_
          repeat walk_at "t"
          exact go_turn ⟨(i - lo).toNat, by omega, l', .refl _, lo, i, tl, _, by walk_at "loc", by walk_at "loc", by walk_at "loc", by walk_at "loc", by walk_at "loc", rfl, by omega, by omega, by omega, by omega, by omega⟩
        · refine go_false (by simpa using hij) ?_
          repeat walk_at "t"
          exact go_turn ⟨(hi - (i + 1)).toNat, by omega, l', .refl _, (i : Int) + 1, hi, _, th, by walk_at "loc", by walk_at "loc", by walk_at "loc", by walk_at "loc", by walk_at "loc", rfl, by omega, by omega, by omega, by omega, by omega⟩
      · rw [decide_eq_false hb]
        dsimp only
        repeat walk_at "t"
        obtain rfl : lo = j := by omega
        exact h _
    · exact ⟨0, n, t0, t, by walk_at "loc", by walk_at "loc", by walk_at "loc", by walk_at "loc", by walk_at "loc", rfl, by omega, by omega, by omega, by omega, by omega⟩
  · intro y hy
    simp only [List.mem_cons, List.not_mem_nil, or_false] at hy
    rcases hy with rfl | rfl | rfl | rfl | rfl <;> rfl
  · decide
theorem bisect_left_plain {env : Env} {outer : List Env} {r : Nat} (K : Act C env outer (r + 1)) (S : Stat mg mb C.h₀) {T1 K1 : Addr} (d : Def C.h₀ mg 3 "bisect_left" (.ref T1) (.ref K1)) (N : Nms mg mb)
    {t0 : Tok} (hT1 : C.h₀.get? T1 = some (tup [.int 0 t0, .none])) {mk : Loc} (hK1 : C.h₀.Ns K1 mk) (hmk : mk "key" = some .none)
    {av xv : Value} {n j : Nat} {item : Nat → Value → Prop} (hn : n ≤ 1000000) (sq : SeqOk C l av n item)
    (hc : ∀ C' m (Q : Value → Loc → Led → Prop) i v, i < n → item i v → Q (.bool (decide (i < j))) m l → T C' (compareOp .Lt v xv) m l Q) (hj : j ≤ n)
    {Q : Value → Loc → Led → Prop} (h : ∀ t, Q (.int j t) m l) : T C (call (.ref d.f) [av, xv] []) m l Q := by
  refine T_call_plain (binds := [("a", av), ("x", xv), ("lo", .int 0 t0), ("hi", .none), ("key", .none)]) K S (.inl d.get) d.data (fun h k _ => d.code.keeps k) (fun s k => ?_) (fun g L' kg Sg Kg => ?_) ?_ ?_ rfl rfl rfl
  · exact binds_keyL (k _ _ hT1) (hK1.keeps k) hmk
  · refine T.gen fun m0 hm0 => ?_
    have ha : m0 "a" = some av := by rw [hm0]; rfl
    have hx : m0 "x" = some xv := by rw [hm0]; rfl
    have hlo : m0 "lo" = some (.int 0 t0) := by rw [hm0]; rfl
    have hhi : m0 "hi" = some .none := by rw [hm0]; rfl
    have hk : m0 "key" = some .none := by rw [hm0]; rfl
    clear hm0
    refine T_cons ?_
    repeat walk_at "t"
    refine sq.len _ _ _ ⟨rfl, rfl, kg⟩ fun t => ?_
    repeat walk_at "t"
    refine T_While (fun k m' l' => ∃ lo hi tl th, m' "lo" = some (.int lo tl) ∧ m' "hi" = some (.int hi th) ∧ m' "a" = some av ∧ m' "x" = some xv ∧ m' "key" = some .none ∧ l' = l ∧ 0 ≤ lo ∧ lo ≤ j ∧ j ≤ hi ∧ hi ≤ n ∧ (k : Int) = hi - lo) ?_ n ?_
    · rintro k m' l' ⟨lo, hi, tl, th, hlo, hhi, ha, hx, hk, rfl, h1, h2, h3, h4, h5⟩
      repeat walk_at "t"
      by_cases hb : lo < hi
      · rw [decide_eq_true hb]
        dsimp only
        repeat walk_at "t"
        obtain ⟨i, ei, hi1, hi2⟩ : ∃ i : Nat, (lo + hi).fdiv 2 = i ∧ lo ≤ i ∧ (i : Int) < hi := ⟨((lo + hi) / 2).toNat, by rw [Int.fdiv_eq_ediv_of_nonneg _ (by decide)]; omega, by omega, by omega⟩
        rw [ei]
        refine sq.item _ _ _ _ _ _ _ _ _ ⟨rfl, rfl, kg⟩ Kg.hand (by omega) fun v hv => ?_
        repeat walk_at "t"
        refine hc _ _ _ i v (by omega) hv ?_
        repeat walk_at "t"
        by_cases hij : i < j
        · refine go_true (by simpa using hij) ?_
          repeat walk_at "t"
          exact go_turn ⟨(hi - (i + 1)).toNat, by omega, l', .refl _, (i : Int) + 1, hi, _, th, by walk_at "loc", by walk_at "loc", by walk_at "loc", by walk_at "loc", by walk_at "loc", rfl, by omega, by omega, by omega, by omega, by omega⟩
        · refine go_false (by simpa using hij) ?_
          repeat walk_at "t"
          exact go_turn ⟨(i - lo).toNat, by omega, l', .refl _, lo, i, tl, _, by walk_at "loc", by walk_at "loc", by walk_at "loc", by walk_at "loc", by walk_at "loc", rfl, by omega, by omega, by omega, by omega, by omega⟩
      · rw [decide_eq_false hb]
        dsimp only
        repeat walk_at "t"
        obtain rfl : lo = j := by omega
        exact h _
    · exact ⟨0, n, t0, t, by walk_at "loc", by walk_at "loc", by walk_at "loc", by walk_at "loc", by walk_at "loc", rfl, by omega, by omega, by omega, by omega, by omega⟩
  · intro y hy
    simp only [List.mem_cons, List.not_mem_nil, or_false] at hy
    rcases hy with rfl | rfl | rfl | rfl | rfl <;> rfl
  · decide
theorem bisect_right_plain {env : Env} {outer : List Env} {r : Nat} (K : Act C env outer (r + 1)) (S : Stat mg mb C.h₀) {T1 K1 : Addr} (d : Def C.h₀ mg 1 "bisect_right" (.ref T1) (.ref K1)) (N : Nms mg mb)
    {t0 : Tok} (hT1 : C.h₀.get? T1 = some (tup [.int 0 t0, .none])) {mk : Loc} (hK1 : C.h₀.Ns K1 mk) (hmk : mk "key" = some .none)
    {av xv : Value} {n j : Nat} {item : Nat → Value → Prop} (hn : n ≤ 1000000) (sq : SeqOk C l av n item)
    (hc : ∀ C' m (Q : Value → Loc → Led → Prop) i v, i < n → item i v → Q (.bool (decide (j ≤ i))) m l → T C' (compareOp .Lt xv v) m l Q) (hj : j ≤ n)
    {Q : Value → Loc → Led → Prop} (h : ∀ t, Q (.int j t) m l) : T C (call (.ref d.f) [av, xv] []) m l Q := by
  refine T_call_plain (binds := [("a", av), ("x", xv), ("lo", .int 0 t0), ("hi", .none), ("key", .none)]) K S (.inl d.get) d.data (fun h k _ => d.code.keeps k) (fun s k => ?_) (fun g L' kg Sg Kg => ?_) ?_ ?_ rfl rfl rfl
  · exact binds_keyR (k _ _ hT1) (hK1.keeps k) hmk
  · refine T.gen fun m0 hm0 => ?_
    have ha : m0 "a" = some av := by rw [hm0]; rfl
    have hx : m0 "x" = some xv := by rw [hm0]; rfl
    have hlo : m0 "lo" = some (.int 0 t0) := by rw [hm0]; rfl
    have hhi : m0 "hi" = some .none := by rw [hm0]; rfl
    have hk : m0 "key" = some .none := by rw [hm0]; rfl
    clear hm0
    refine T_cons ?_
    repeat walk_at "t"
    refine sq.len _ _ _ ⟨rfl, rfl, kg⟩ fun t => ?_
    repeat walk_at "t"
    refine T_While (fun k m' l' => ∃ lo hi tl th, m' "lo" = some (.int lo tl) ∧ m' "hi" = some (.int hi th) ∧ m' "a" = some av ∧ m' "x" = some xv ∧ m' "key" = some .none ∧ l' = l ∧ 0 ≤ lo ∧ lo ≤ j ∧ j ≤ hi ∧ hi ≤ n ∧ (k : Int) = hi - lo) ?_ n ?_
    · rintro k m' l' ⟨lo, hi, tl, th, hlo, hhi, ha, hx, hk, rfl, h1, h2, h3, h4, h5⟩
      repeat walk_at "t"
      by_cases hb : lo < hi
      · rw [decide_eq_true hb]
        dsimp only
        repeat walk_at "t"
        obtain ⟨i, ei, hi1, hi2⟩ : ∃ i : Nat, (lo + hi).fdiv 2 = i ∧ lo ≤ i ∧ (i : Int) < hi := ⟨((lo + hi) / 2).toNat, by rw [Int.fdiv_eq_ediv_of_nonneg _ (by decide)]; omega, by omega, by omega⟩
        rw [ei]
        refine sq.item _ _ _ _ _ _ _ _ _ ⟨rfl, rfl, kg⟩ Kg.hand (by omega) fun v hv => ?_
        repeat walk_at "t"
        refine hc _ _ _ i v (by omega) hv ?_
        repeat walk_at "t"
        by_cases hij : j ≤ i
        · refine go_true (by simpa using hij) ?_
          repeat walk_at "t"
          exact go_turn ⟨(i - lo).toNat, by omega, l', .refl _, lo, i, tl, _, by walk_at "loc", by walk_at "loc", by walk_at "loc", by walk_at "loc", by walk_at "loc", rfl, by omega, by omega, by omega, by omega, by omega⟩
        · refine go_false (by simpa using hij) ?_
          repeat walk_at "t"
          exact go_turn ⟨(hi - (i + 1)).toNat, by omega, l', .refl _, (i : Int) + 1, hi, _, th, by walk_at "loc", by walk_at "loc", by walk_at "loc", by walk_at "loc", by walk_at "loc", rfl, by omega, by omega, by omega, by omega, by omega⟩
      · rw [decide_eq_false hb]
        dsimp only
        repeat walk_at "t"
        obtain rfl : lo = j := by omega
        exact h _
    · exact ⟨0, n, t0, t, by walk_at "loc", by walk_at "loc", by walk_at "loc", by walk_at "loc", by walk_at "loc", rfl, by omega, by omega, by omega, by omega, by omega⟩
  · intro y hy
    simp only [List.mem_cons, List.not_mem_nil, or_false] at hy
    rcases hy with rfl | rfl | rfl | rfl | rfl <;> rfl
  · decide
end Mine
end

section
open PySem PySem.W PySem.Calls PyProof.Rows
set_option Elab.async false
set_option maxRecDepth 100000
set_option linter.unusedVariables false
namespace Mine
variable {C : Cx} {α β : Type} {m : Loc} {l : Led} {mg mb : Loc}
theorem bisect_left_key4 {env : Env} {outer : List Env} {r : Nat} (K : Act C env outer (r + 1)) (S : Stat mg mb C.h₀) {T1 K1 : Addr} (d : Def C.h₀ mg 3 "bisect_left" (.ref T1) (.ref K1)) (N : Nms mg mb)
    {t0 t1 : Tok} (hT1 : C.h₀.get? T1 = some (tup [.int 0 t0, .none]))
    {av xv : Value} {n j : Nat} {item res : Nat → Value → Prop} {kf : Addr} {ko : Obj} {kd : FuncData} (hn : n ≤ 1000000) (sq : SeqOk C l av n item) (ky : KeyOk C l kf ko kd n item res r)
    (hc : ∀ C' m (Q : Value → Loc → Led → Prop) i v, i < n → res i v → Q (.bool (decide (i < j))) m l → T C' (compareOp .Lt v xv) m l Q) (hj : j ≤ n)
    {Q : Value → Loc → Led → Prop} (h : ∀ t, Q (.int j t) m l) : T C (call (.ref d.f) [av, xv, .int 0 t1, .none] [("key", .ref kf)]) m l Q :=
  bisect_left_keyG (t0 := t1) K S d N hn sq ky hc hj (fun s k => BindsTo.of_defaults (T := T1) rfl (k _ _ hT1) rfl rfl rfl) h

theorem mapSeq_lo {f : Array Value → Array Value} {vs vs' : List Value} {n : Nat} (hf : f vs.toArray = vs'.toArray) (hl : vs'.length ≠ vs.length) : Obj.mapSeq f (lo vs n) = lo vs' (n + 1) := by
  have h4 : ((f vs.toArray).size == vs.toArray.size) = false := by rw [hf]; simpa using hl
  show (⟨_, _, .seq (f vs.toArray) (if (f vs.toArray).size == vs.toArray.size then n else n + 1), _⟩ : Obj) = _
  rw [h4, hf]
  rfl
theorem fits_small {i : Nat} (h : i ≤ 1000000) : Builtin.List.listFitsIndex (i : Int) = true := by
  have : (2 : Int) ^ 63 = 9223372036854775808 := by decide
  simp only [Builtin.List.listFitsIndex, Bool.and_eq_true, decide_eq_true_eq]
  omega
theorem T_insert {a : Addr} {vs : List Value} {n : Nat} {i : Nat} {u : Tok} {y : Value} {g : Obj → Led} {Q : Value → Loc → Led → Prop} (r : Rep l a (lo vs n) g) (hi : i ≤ vs.length) (hs : vs.length ≤ 1000000)
    (h : Q .none m (g (lo (vs.take i ++ y :: vs.drop i) (n + 1)))) : T C (call (.builtin "list.insert") [.ref a, .int i u, y]) m l Q := by
  intro s P E O c
  have ho := (O.nw _ r.mem).1
  have e : Obj.mapSeq (fun xs => let k := if (i : Int) < 0 then ((i : Int) + (xs.size : Int)).toNat else min (i : Int).toNat xs.size; (xs.extract 0 k).push y ++ xs.extract k) (lo vs n) = lo (vs.take i ++ y :: vs.drop i) (n + 1) := by
    refine mapSeq_lo ?_ (by simp; omega)
    have h1 : ¬ ((i : Int) < 0) := by omega
    have h2 : min (i : Int).toNat vs.toArray.size = i := by simp; omega
    simp only [h1, if_false, h2]
    apply Array.toList_inj.mp
    simp [List.take_of_length_le]
  have hc0 : ¬ (!Builtin.List.listFitsIndex (i : Int)) = true := by rw [fits_small (Nat.le_trans hi hs)]; exact Bool.false_ne_true
  have hz : vs.toArray.size ≤ sizeLine := by rw [List.size_toArray, sizeLine_eq]; omega
  have hM := @PySem.AutoListH.list_insert_list_int_val_1 a vs.toArray n (i : Int) u y hc0 hz
  have hT : s.TypeIs (.ref a) "list" := ⟨_, ho, rfl⟩
  with_reducible refine call_meets F.slot_list_insert hT F.entry_list_insert (F.args_list_insert_3 _ _ _) hM ?_
  refine ⟨ho, ?_⟩
  refine c _ _ s.toks m _ h (O.same r (Heap.SameBut.update ..).extBut ?_)
  exact (Heap.get?_update_self _ ho (by rw [e]; rfl)).trans (congrArg some e)
theorem T_pop {a : Addr} {vs : List Value} {n : Nat} {i : Nat} {u : Tok} {y : Value} {g : Obj → Led} {Q : Value → Loc → Led → Prop} (r : Rep l a (lo vs n) g) (hi : vs[i]? = some y) (hs : vs.length ≤ 1000000)
    (h : Q y m (g (lo (vs.eraseIdx i) (n + 1)))) : T C (call (.builtin "list.pop") [.ref a, .int i u]) m l Q := by
  intro s P E O c
  have ho := (O.nw _ r.mem).1
  have hlt : i < vs.length := by
    rw [List.getElem?_eq_some_iff] at hi
    exact hi.1
  have e : Obj.mapSeq (fun xs => xs.eraseIdxIfInBounds i) (lo vs n) = lo (vs.eraseIdx i) (n + 1) := by
    refine mapSeq_lo ?_ (by rw [List.length_eraseIdx, if_pos hlt]; omega)
    apply Array.toList_inj.mp
    rw [Array.eraseIdxIfInBounds]
    simp [hlt]
  have hz : vs.toArray.size ≤ sizeLine := by rw [List.size_toArray, sizeLine_eq]; omega
  have hM := @PySem.MeetsSeq.list_pop_at a vs.toArray n (i : Int) u i y (fits_small (by omega)) (by unfold seqIndex?; simp; omega) (by simpa using hi) hz
  have hT : s.TypeIs (.ref a) "list" := ⟨_, ho, rfl⟩
  with_reducible refine call_meets F.slot_list_pop hT F.entry_list_pop (F.args_list_pop_2 _ _) hM ?_
  refine ⟨ho, ?_⟩
  refine c _ _ s.toks m _ h (O.same r (Heap.SameBut.update ..).extBut ?_)
  exact (Heap.get?_update_self _ ho (by rw [e]; rfl)).trans (congrArg some e)

theorem Seen.led {a : Addr} {o : Obj} (h : (a, o) ∈ l) : Seen C l a o := .inr h
theorem Seen.base {a : Addr} {o : Obj} (h : C.h₀.get? a = some o) : Seen C l a o := .inl h
theorem SeqOk.list {row : Addr} {vs : List Value} {n : Nat} (hl : Seen C l row (lo vs n)) (hs : vs.length ≤ 1000000) : SeqOk C l (.ref row) vs.length (fun i v => vs[i]? = some v) where
  len := fun C' m Q L h => T_len_list (n := n) (hl.imp (L.keep _ _) id) (by omega) h
  item := fun C' m Q x y p q i u L hh hi h => T_item_list (n := n) (hl.imp (L.keep _ _) id) (by omega) (by omega) (by show vs[(i : Int).toNat]? = some vs[i]; simp [hi]) (h _ (by simp [hi]))
theorem SeqOk.later {C C' : Cx} {av : Value} {n : Nat} {item : Nat → Value → Prop} (s : SeqOk C l av n item) (L : Later C C') : SeqOk C' l av n item :=
  ⟨fun C'' m Q L' h => s.len C'' m Q ⟨L'.prog.trans L.prog, L'.w.trans L.w, fun b o e => L'.keep _ _ (L.keep _ _ e)⟩ h, fun C'' m Q x y p q i u L' hh hi h => s.item C'' m Q x y p q i u ⟨L'.prog.trans L.prog, L'.w.trans L.w, fun b o e => L'.keep _ _ (L.keep _ _ e)⟩ hh hi h⟩
theorem Later.trans {C C' C'' : Cx} (h : Later C C') (k : Later C' C'') : Later C C'' := ⟨k.prog.trans h.prog, k.w.trans h.w, fun b o e => k.keep _ _ (h.keep _ _ e)⟩
theorem KeyOk.later {C C' : Cx} {kf : Addr} {ko : Obj} {kd : FuncData} {n : Nat} {item res : Nat → Value → Prop} {r : Nat} (k : KeyOk C l kf ko kd n item res r) (L : Later C C') : KeyOk C' l kf ko kd n item res r :=
  ⟨k.seen.imp (L.keep _ _) id, k.data, fun C'' env outer m Q i v L' A hi hv h => k.call C'' env outer m Q i v (L.trans L') A hi hv h⟩

theorem insort_left_key {env : Env} {outer : List Env} {r : Nat} (K : Act C env outer (r + 2)) (S : Stat mg mb C.h₀) {T1 K1 T2 K2 : Addr} (d : Def C.h₀ mg 3 "bisect_left" (.ref T1) (.ref K1)) (d2 : Def C.h₀ mg 2 "insort_left" (.ref T2) (.ref K2)) (N : Nms mg mb)
    {t0 t2 : Tok} (hT1 : C.h₀.get? T1 = some (tup [.int 0 t0, .none])) (hT2 : C.h₀.get? T2 = some (tup [.int 0 t2, .none]))
    {row : Addr} {vs : List Value} {k : Nat} {g : Obj → Led} (rp : Rep l row (lo vs k) g) {x : Value} {j : Nat} {res : Nat → Value → Prop} {resx : Value → Prop} {kf : Addr} {ko : Obj} {kd : FuncData} (hn : vs.length ≤ 1000000) (ky : KeyOk C l kf ko kd vs.length (fun i v => vs[i]? = some v) res r)
    (kx : ∀ C' env outer m (Q : Value → Loc → Led → Prop), Later C C' → Act C' env outer (r + 1) → (∀ v', resx v' → Q v' m l) → T C' (call (.ref kf) [x]) m l Q)
    (hc : ∀ C' m (Q : Value → Loc → Led → Prop) i v xv, i < vs.length → res i v → resx xv → Q (.bool (decide (i < j))) m l → T C' (compareOp .Lt v xv) m l Q) (hj : j ≤ vs.length)
    {Q : Value → Loc → Led → Prop} (h : Q .none m (g (lo (vs.take j ++ x :: vs.drop j) (k + 1)))) : T C (call (.ref d2.f) [.ref row, x] [("key", .ref kf)]) m l Q := by
  refine T_call_plain (binds := [("a", .ref row), ("x", x), ("lo", .int 0 t2), ("hi", .none), ("key", .ref kf)]) K S (.inl d2.get) d2.data (fun h k _ => d2.code.keeps k) (fun s k => ?_) (fun gh L' kg Sg Kg => ?_) ?_ ?_ rfl rfl rfl
  · exact BindsTo.of_defaults (T := T2) rfl (k _ _ hT2) rfl rfl rfl
  · refine T.gen fun m0 hm0 => ?_
    have ha : m0 "a" = some (.ref row) := by rw [hm0]; rfl
    have hx : m0 "x" = some x := by rw [hm0]; rfl
    have hlo : m0 "lo" = some (.int 0 t2) := by rw [hm0]; rfl
    have hhi : m0 "hi" = some .none := by rw [hm0]; rfl
    have hk : m0 "key" = some (.ref kf) := by rw [hm0]; rfl
    have hg := d.g
    clear hm0
    refine T_cons ?_
    repeat walk_at "t"
    with_reducible refine T_callWith_def_kw1 d.data ?_ ?he
    case he => rfl
    repeat walk_at "t"
    refine T_callWith_def ky.data ?_
    repeat walk_at "t"
    refine ⟨ky.seen.imp (kg _ _) id, kx _ _ _ _ _ ⟨rfl, rfl, kg⟩ Kg fun xv hxv => ?_⟩
    repeat walk_at "t"
    refine ⟨.inl (kg _ _ d.get), ?_⟩
    with_reducible refine bisect_left_key4 (item := fun i v => vs[i]? = some v) (res := res) (j := j) Kg Sg (d.keeps kg) N (kg _ _ hT1) hn (SeqOk.list (Seen.led rp.mem) hn) (ky.later ⟨rfl, rfl, kg⟩) ?_ hj ?_
    · exact fun C' m Q i v hi hv hq => hc C' m Q i v xv hi hv hxv hq
    intro tj
    repeat walk_at "t"
    with_reducible refine T_method_list F.slot_list_insert ?ht (Seen.led rp.mem) ?_
    case ht => rfl
    repeat walk_at "t"
    refine T_insert rp hj hn ?_
    refine ⟨rfl, ?_⟩
    repeat walk_at "t"
    exact h
  · intro y hy
    simp only [List.mem_cons, List.not_mem_nil, or_false] at hy
    rcases hy with rfl | rfl | rfl | rfl | rfl <;> rfl
  · decide
end Mine
end

section
open PySem PySem.W PySem.Calls PyProof.Rows
set_option Elab.async false
set_option maxRecDepth 100000
set_option linter.unusedVariables false
namespace Mine

section bigdict
variable {prog : Program} {w : World} {A : Around} {E : Value → Shared → Prop} {s : Shared}
abbrev ik (prog : Program) (w : World) := intKind prog w

theorem dictPut_pairs {d : Addr} {kvs : List (Int × Value)} {k : Int} {key v : Value} {Q : Unit → Shared → Prop} (hkey : (ik prog w).is k key = true) (hm : s.heap.DictOf (ik prog w) d kvs)
    (hQ : ∀ h', h'.DictOf (ik prog w) d (stored kvs k v) → Heap.SameBut d s.heap h' → Q () { s with heap := h' })
    (hsz : kvs.length ≤ sizeLine) :
    wpAny (model prog w) A (dictPut d ((ik prog w).hash k) key v) Q E s := by
  obtain ⟨o, es, ep, ho, hc, hd, hk, hp, hn⟩ := hm
  have hes : es.size ≤ sizeLine := by
    have e1 := hp.length
    have e2 : es.toList.length = es.size := by simp
    omega
  unfold dictPut
  refine wpAny_bind (wpAny_dictFind_of hkey ho hd hk ?_)
  have hidx : (es.findIdx? fun e => (ik prog w).is k e.key) = kvs.findIdx? fun kv => decide (kv.1 = k) := by
    rw [← hp.findIdx k]; obtain ⟨l⟩ := es; simp
  cases hi : es.findIdx? fun e => (ik prog w).is k e.key with
  | some i =>
    refine wpAny_updateDict ho hd (hQ _ ⟨_, _, ep, Heap.get?_update_self _ ho (Obj.isFreed_of_dict (Obj.data_mapDict hd _)),
      hc.mapDict _, Obj.data_mapDict hd _, hk.modify _ _, ?_, ?_⟩ (Heap.SameBut.update ..))
    · rw [stored, if_pos (any_of_findIdx_some (hidx ▸ hi))]
      have hl : (es.toList.findIdx? fun e => (ik prog w).is k e.key) = some i := by rw [← hi]; obtain ⟨l⟩ := es; simp
      have := hp.modify hn hl v
      obtain ⟨l⟩ := es
      simpa using this
    · rw [stored, if_pos (any_of_findIdx_some (hidx ▸ hi)), keys_map_store]; exact hn
  | none =>
    have hnot : k ∉ kvs.map (·.1) := not_mem_of_findIdx_none (hidx ▸ hi)
    have hany : ¬ (kvs.any fun kv => decide (kv.1 = k)) = true := by
      rw [List.any_eq_true]; rintro ⟨kv, hkv, he⟩
      exact hnot (List.mem_map.mpr ⟨kv, hkv, of_decide_eq_true he⟩)
    refine wpAny_updateDictKeys (hz := hes) ho hd (hQ _ ⟨_, _, ep + 1, Heap.get?_update_self _ ho (Obj.isFreed_of_dict (Obj.data_mapDictKeys hd _)),
      hc.mapDictKeys _, Obj.data_mapDictKeys hd _, hk.push hkey _, ?_, ?_⟩ (Heap.SameBut.update ..))
    · rw [stored, if_neg hany]
      have := hp.append hkey ((ik prog w).hash k) v
      obtain ⟨l⟩ := es
      simpa using this
    · rw [stored, if_neg hany, List.map_append, List.nodup_append]
      refine ⟨hn, by simp, ?_⟩
      intro a ha b hb
      simp only [List.map_cons, List.map_nil, List.mem_singleton] at hb
      subst hb
      exact fun e => hnot (e ▸ ha)

theorem mergeMapping_dict {d o : Addr} {kvs more : List (Int × Value)} {Q : Unit → Shared → Prop} (hdo : d ≠ o) (hoS : (o == sysModules) = false) (hne : kvs ≠ [])
    (hd : s.heap.DictOf (ik prog w) d kvs) (ho : s.heap.DictOf (ik prog w) o more)
    (hQ : ∀ h', h'.DictOf (ik prog w) d (merged kvs more) → Heap.SameBut d s.heap h' → Q () { s with heap := h' })
    (hsz : kvs.length + more.length ≤ sizeLine) :
    wpAny (model prog w) A (mergeMapping d (.ref o) false) Q E s := by
  have hT := ho.typeIs
  obtain ⟨od, esd, epd, hod, hcd, hdd, hkd, hpd, hnd⟩ := id hd
  obtain ⟨oo, eso, epo, hoo, hco, hdo', hko, hpo, hno⟩ := id ho
  have hlen : more.length = eso.size := by rw [← hpo.length]; simp
  have hesd : esd.isEmpty = false := by
    have := hpd.length
    cases kvs with
    | nil => exact absurd rfl hne
    | cons _ _ =>
      rw [Array.isEmpty_eq_false_iff]
      intro e
      rw [e] at this
      simp at this
  unfold mergeMapping
  refine wpAny_bind (wpAny_isInstance hT (U := "dict") (b := true) (by rw [isSubtype_type]; kernel_rfl) ?_)
  simp only [if_true]
  refine wpAny_bind (wpAny_specialOf hT F.slot_dict_iter.lookup (wpAny_bind (wpAny_pure ?_)))
  rw [show ((some (Value.builtin "dict.__iter__")) == some (.builtin "dict.__iter__")) = true from by decide]
  dsimp only
  rw [if_neg (by rw [hoS]; exact Bool.false_ne_true)]
  refine wpAny_bind (wpAny_dictEntries hod hdd ?_)
  rw [hesd]
  simp only [Bool.false_eq_true, if_false]
  refine wpAny_bind (wpAny_dictEntries hoo hdo' ?_)
  refine wpAny_bind (wpAny_dictEpoch hoo hdo' ?_)
  refine wpAny_bind (wpAny_forIn_list _
      (fun rest _ s' => ∃ h' i, s' = { s with heap := h' } ∧ rest = List.range' i (eso.size - i) ∧ i ≤ eso.size ∧ h'.DictOf (ik prog w) d (merged kvs (more.take i)) ∧ h'.get? o = some oo ∧ Heap.SameBut d s.heap h')
      _ ?_ ?_ _ _ ⟨s.heap, 0, rfl, by rw [List.range_eq_range']; simp, Nat.zero_le _, by simpa [merged] using hd, hoo, Heap.SameBut.refl _ _⟩)
  · rintro x rest b s' ⟨h', i, rfl, hr, hi, hd', hoo', hs'⟩
    have hlt : i < eso.size := by
      rcases Nat.lt_or_ge i eso.size with h | h
      · exact h
      · rw [Nat.sub_eq_zero_of_le h] at hr; simp at hr
    obtain ⟨rfl, hrest⟩ : x = i ∧ rest = List.range' (i + 1) (eso.size - (i + 1)) := by
      have e : eso.size - i = (eso.size - (i + 1)) + 1 := by omega
      rw [e, List.range'_succ] at hr
      injection hr with h1 h2
      exact ⟨h1, h2⟩
    refine wpAny_bind (wpAny_dictEntries hoo' hdo' ?_)
    rw [Array.getElem?_eq_getElem hlt]
    obtain ⟨kv, hkv⟩ : ∃ kv, more[x]? = some kv := ⟨more[x]'(by rw [hlen]; exact hlt), List.getElem?_eq_getElem _⟩
    obtain ⟨k, v⟩ := kv
    obtain ⟨hkey, hval⟩ := hpo.get? (e := eso[x]) (by simp [hlt]) hkv
    obtain ⟨k', hkey', hhash⟩ := hko eso[x] (Array.getElem_mem hlt)
    obtain rfl : k' = k := (ik prog w).inj _ _ _ hkey' hkey
    show wpAny _ _ (holding [eso[x].key, eso[x].val] (dictPut d eso[x].hash eso[x].key eso[x].val) >>= _) _ _ _
    rw [hhash, hval]
    have hmx : (merged kvs (more.take x)).length ≤ sizeLine := by
      have e1 := merged_length_le kvs (more.take x)
      have e2 : (more.take x).length ≤ more.length := by rw [List.length_take]; omega
      omega
    refine wpAny_bind (wpAny_holding (dictPut_pairs (hsz := hmx) hkey hd' fun h'' hd'' hs'' => ?_))
    have hoo'' : h''.get? o = some oo := (hs''.2 o (Ne.symm hdo)).trans hoo'
    refine wpAny_bind (wpAny_dictEpoch hoo'' hdo' ?_)
    rw [if_neg (by simp)]
    exact wpAny_pure ⟨h'', x + 1, rfl, hrest, hlt, by rw [merged_take_succ kvs more x (k', v) hkv]; exact hd'', hoo'', hs'.trans hs''⟩
  · rintro b s' ⟨h', i, rfl, hr, hi, hd', hoo', hs'⟩
    have hin : i = eso.size := by
      rcases Nat.lt_or_ge i eso.size with h | h
      · have e : eso.size - i = (eso.size - (i + 1)) + 1 := by omega
        rw [e, List.range'_succ] at hr; exact nomatch hr
      · exact Nat.le_antisymm hi h
    refine wpAny_pure (hQ h' ?_ hs')
    rw [hin, ← hlen, List.take_length] at hd'; exact hd'

/-- a written pair: an int for a key, a str for a value -/
structure IsLit (prog : Program) (w : World) (A : Around) (p : Sem Value × Sem Value) (q : Int × Str) : Prop where
  key : ∀ (s : Shared) (Q : Value → Shared → Prop) (E : Value → Shared → Prop), (∀ tk t, Q (.int q.1 t) { s with toks := tk }) → wpAny (model prog w) A p.1 Q E s
  val : ∀ (s : Shared) (Q : Value → Shared → Prop) (E : Value → Shared → Prop), (∀ tk t, Q (.str q.2 t) { s with toks := tk }) → wpAny (model prog w) A p.2 Q E s
inductive AreLit (prog : Program) (w : World) (A : Around) : List (Sem Value × Sem Value) → List (Int × Str) → Prop
  | nil : AreLit prog w A [] []
  | cons {p q ps qs} : IsLit prog w A p q → AreLit prog w A ps qs → AreLit prog w A (p :: ps) (q :: qs)
theorem AreLit.snoc {ps : List (Sem Value × Sem Value)} {qs : List (Int × Str)} {p q} (h : AreLit prog w A ps qs) (x : IsLit prog w A p q) : AreLit prog w A (ps ++ [p]) (qs ++ [q]) := by
  induction h with
  | nil => exact .cons x .nil
  | cons a _ ih => exact .cons a ih
theorem AreLit.length {ps : List (Sem Value × Sem Value)} {qs : List (Int × Str)} (h : AreLit prog w A ps qs) : ps.length = qs.length := by
  induction h with
  | nil => rfl
  | cons a _ ih => simp [ih]
/-- the pairs of a dict as they were written -/
inductive Fits : List (Int × Value) → List (Int × Str) → Prop
  | nil : Fits [] []
  | cons {k x t kvs qs} : Fits kvs qs → Fits ((k, .str x t) :: kvs) ((k, x) :: qs)
theorem Fits.append {a : List (Int × Value)} {b : List (Int × Value)} {p q : List (Int × Str)} (h : Fits a p) (k : Fits b q) : Fits (a ++ b) (p ++ q) := by
  induction h with
  | nil => exact k
  | cons _ ih => exact .cons ih
theorem Fits.keys {a : List (Int × Value)} {p : List (Int × Str)} (h : Fits a p) : a.map (·.1) = p.map (·.1) := by
  induction h with
  | nil => rfl
  | cons _ ih => simp [ih]
theorem Fits.length {a : List (Int × Value)} {p : List (Int × Str)} (h : Fits a p) : a.length = p.length := by
  induction h with
  | nil => rfl
  | cons _ ih => simp [ih]
theorem Fits.value {a : List (Int × Value)} {p : List (Int × Str)} (h : Fits a p) (k : Int) : (valueAt a k = none ∧ p.find? (fun q => decide (q.1 = k)) = none) ∨ ∃ x t, valueAt a k = some (.str x t) ∧ ∃ q, p.find? (fun q => decide (q.1 = k)) = some q ∧ q.2 = x := by
  induction h with
  | nil => exact .inl ⟨rfl, rfl⟩
  | @cons k' x t kvs qs _ ih =>
    unfold valueAt at ih ⊢
    simp only [List.find?_cons]
    by_cases e : k' = k
    · simp [e]
    · simpa [e] using ih

theorem stored_fresh {kvs : List (Int × Value)} {k : Int} {v : Value} (h : k ∉ kvs.map (·.1)) : stored kvs k v = kvs ++ [(k, v)] := by
  unfold stored
  rw [if_neg]
  rw [List.any_eq_true]
  rintro ⟨kv, hkv, he⟩
  exact h (List.mem_map.mpr ⟨kv, hkv, of_decide_eq_true he⟩)

theorem evalPairs_lits' : ∀ (ps : List (Sem Value × Sem Value)) (qs : List (Int × Str)) (s : Shared) (Q : List (Value × Value) → Shared → Prop), AreLit prog w A ps qs →
    (∀ vs kvs tk, Carries (ik prog w) vs kvs → Fits kvs qs → Q vs { s with toks := tk }) → wpAny (model prog w) A (evalPairs ps) Q E s
  | _, _, s, Q, .nil, h => evalPairs_nil (h [] [] s.toks trivial .nil)
  | _, _, s, Q, .cons (p := p) (q := q) (ps := ps) (qs := qs) a r, h => by
    refine evalPairs_cons (a.key _ _ _ fun tk t => a.val _ _ _ fun tk' t' => ?_)
    refine evalPairs_lits' ps qs _ _ r fun vs kvs tk'' hc hf => ?_
    exact h _ ((q.1, .str q.2 t') :: kvs) tk'' ⟨by simp [ik, intKind, Value.isInt], rfl, hc⟩ (.cons hf)

theorem subDict_lits (ps : List (Sem Value × Sem Value)) (qs : List (Int × Str)) (s : Shared) (Q : Addr → Shared → Prop) (hl : AreLit prog w A ps qs) (hn : (qs.map (·.1)).Nodup) (hlen : ps.length ≤ 17)
    (h : ∀ kvs h' tk, Fits kvs qs → h'.DictOf (ik prog w) s.heap.objs.size kvs → Heap.SameBut s.heap.objs.size (s.heap.push { cls := .type "dict", data := .dict #[] }) h' → Q s.heap.objs.size { s with heap := h', toks := tk }) :
    wpAny (model prog w) A (subDict ps) Q E s := by
  unfold subDict
  refine wpAny_bind (wpAny_alloc ?_)
  refine wpAny_bind (wpAny_holding ?_)
  have hD : (s.heap.push { cls := .type "dict", data := .dict #[] }).DictOf (ik prog w) s.heap.objs.size [] := Heap.DictOf.new _
  by_cases h15 : ps.length ≤ 15
  · rw [if_pos h15]
    refine wpAny_bind (evalPairs_lits' ps qs _ _ hl fun vs kvs tk hc hf => ?_)
    refine wpAny_holding (wpAny_bind (wpAny_storeAll (knd := ik prog w) vs kvs [] _ _ hc hD (by rw [hf.length, sizeLine_eq, List.length_nil, ← hl.length]; omega) fun h' hm' hs' => wpAny_pure (wpAny_pure ?_)))
    refine h kvs h' _ hf ?_ hs'
    rwa [merged_nil_of_nodup _ (by rw [hf.keys]; exact hn)] at hm'
  · rw [if_neg h15]
    refine wpAny_bind (wpAny_rule ?_)
    have loop : ∀ (ps : List (Sem Value × Sem Value)) (qs done : List (Int × Str)) (kvs : List (Int × Value)) (s' : Shared), AreLit prog w A ps qs → ((done ++ qs).map (·.1)).Nodup → (done ++ qs).length ≤ 17 → Fits kvs done →
        s'.heap.DictOf (ik prog w) s.heap.objs.size kvs → ∀ (Q : PUnit → Shared → Prop) (E : Value → Shared → Prop),
        (∀ kvs' h' tk, Fits kvs' (done ++ qs) → h'.DictOf (ik prog w) s.heap.objs.size kvs' → Heap.SameBut s.heap.objs.size s'.heap h' → Q PUnit.unit { s' with heap := h', toks := tk }) →
        wpAny (model prog w) A (forIn ps PUnit.unit fun (x : Sem Value × Sem Value) (_ : PUnit) => (do
          let kv ← x.1
          let vv ← holding [kv] x.2
          holding [kv, vv] (dictSet s.heap.objs.size kv vv)
          pure (ForInStep.yield PUnit.unit) : Sem (ForInStep PUnit))) Q E s' := by
      intro ps
      induction ps with
      | nil =>
        intro qs done kvs s' hl hn hlen hf hd Q E hQ
        cases hl
        rw [List.forIn_nil]
        exact wpAny_pure (hQ kvs s'.heap s'.toks (by simpa using hf) hd (.refl _ _))
      | cons p ps ih =>
        intro qs done kvs s' hl hn hlen hf hd Q E hQ
        obtain _ | ⟨a, r⟩ := hl
        rename_i q qs
        rw [List.forIn_cons]
        have hk : q.1 ∉ kvs.map (·.1) := by
          rw [hf.keys]
          rw [List.map_append, List.nodup_append] at hn
          exact fun hm => hn.2.2 q.1 hm q.1 (by simp) rfl
        refine wpAny_bind (wpAny_bind (a.key _ _ _ fun tk t => wpAny_bind (wpAny_holding (a.val _ _ _ fun tk' t' => wpAny_bind (wpAny_holding ?_)))))
        refine wpAny_dictSet_pairs (knd := ik prog w) (k := q.1) (hsz := by rw [hf.length]; rw [List.length_append] at hlen; rw [sizeLine_eq]; omega) (by simp [ik, intKind, Value.isInt]) hd fun h₁ hm₁ hs₁ => wpAny_pure ?_
        rw [stored_fresh hk] at hm₁
        refine ih qs (done ++ [q]) _ _ r (by simpa using hn) (by simpa using hlen) (hf.append (.cons (k := q.1) (x := q.2) (t := t') .nil)) hm₁ _ _ fun kvs' h' tk'' hf' hd' hs' => ?_
        exact hQ kvs' h' tk'' (by simpa using hf') hd' (hs₁.trans hs')
    exact wpAny_bind (loop ps qs [] [] _ hl (by simpa using hn) (by simpa [← hl.length] using hlen) .nil hD _ _ fun kvs' h' tk hf' hd' hs' => wpAny_pure (wpAny_pure (h kvs' h' tk (by simpa using hf') hd' hs')))

def ddFlush (run : List (Sem Value × Sem Value)) (main : Option Addr) : Sem (Option Addr) := do
    if run.isEmpty then return main
    match main with
    | none => return some (← subDict run)
    | some d =>
      let sub ← holding [.ref d] (subDict run)
      (holding [.ref d, .ref sub] (mergeMapping d (.ref sub) false)).onRaise fun x => do let _ ← holding [.ref d, x] (runValue (.builtin "proto.let_go" {}))
      return some d

/-- the dict that is filled, if there is one yet -/
def MainOk (prog : Program) (w : World) (base : Heap) (main : Option Addr) (h : Heap) (D : List (Int × Str)) : Prop :=
  (main = none ∧ D = []) ∨ ∃ d kvs, main = some d ∧ base.get? d = none ∧ (d == sysModules) = false ∧ kvs ≠ [] ∧ Fits kvs D ∧ h.DictOf (ik prog w) d kvs

theorem ddFlush_ok {base : Heap} {run : List (Sem Value × Sem Value)} {main : Option Addr} {D R : List (Int × Str)} {Q : Option Addr → Shared → Prop} (hbase : ∃ o, base.get? sysModules = some o)
    (hl : AreLit prog w A run R) (hr : run ≠ []) (h17 : run.length ≤ 17) (hn : ((D ++ R).map (·.1)).Nodup) (hz : (D ++ R).length ≤ 100000) (hk : ∀ b o, base.get? b = some o → s.heap.get? b = some o) (hm : MainOk prog w base main s.heap D)
    (h : ∀ main' h' tk, MainOk prog w base main' h' (D ++ R) → main' ≠ none → (∀ b o, base.get? b = some o → h'.get? b = some o) → Q main' { s with heap := h', toks := tk }) :
    wpAny (model prog w) A (ddFlush run main) Q E s := by
  unfold ddFlush
  have hre : run.isEmpty = false := by cases run <;> simp_all
  rw [hre]
  simp only [Bool.false_eq_true, if_false]
  have hfresh : base.get? s.heap.objs.size = none := by
    cases e : base.get? s.heap.objs.size with
    | none => rfl
    | some o => exact absurd (Heap.lt_size (hk _ _ e)) (Nat.lt_irrefl _)
  have hsys : (s.heap.objs.size == sysModules) = false := by
    obtain ⟨o, ho⟩ := hbase
    have := Heap.lt_size (hk _ _ ho)
    simp only [beq_eq_false_iff_ne]
    exact Ne.symm (Nat.ne_of_lt this)
  have hnR : (R.map (·.1)).Nodup := by rw [List.map_append, List.nodup_append] at hn; exact hn.2.1
  rcases hm with ⟨rfl, rfl⟩ | ⟨d, kvs, rfl, hdb, hds, hne, hf, hd⟩
  · dsimp only
    refine wpAny_bind (subDict_lits run R s _ hl hnR h17 fun kvs h' tk hf hd hs => wpAny_pure ?_)
    refine h _ h' tk (.inr ⟨_, kvs, rfl, hfresh, hsys, ?_, by simpa using hf, hd⟩) (by simp) fun b o e => hs.extBut _ _ (fun q => by rw [q, hfresh] at e; cases e) (Heap.get?_push_of_some _ (hk _ _ e))
    intro e
    subst e
    have := hf.length
    rw [← hl.length] at this
    exact hr (List.eq_nil_of_length_eq_zero this.symm)
  · dsimp only
    refine wpAny_bind (wpAny_holding (subDict_lits run R s _ hl hnR h17 fun kvs' h' tk hf' hd' hs => ?_))
    have hlt : d < s.heap.objs.size := by obtain ⟨o, _, _, ho, _⟩ := hd; exact Heap.lt_size ho
    have hdd : d ≠ s.heap.objs.size := Nat.ne_of_lt hlt
    refine wpAny_bind (wpAny_onRaise (wpAny_holding (mergeMapping_dict (kvs := kvs) (more := kvs') hdd hsys hne ((hd.push _).sameBut hs hdd) hd' (fun h'' hd'' hs'' => wpAny_pure ?_) ?_)))
    · refine h _ h'' tk (.inr ⟨d, kvs ++ kvs', rfl, hdb, hds, by simp [hne], hf.append hf', ?_⟩) (by simp) fun b o e => ?_
      · rwa [merged_append_of_fresh kvs kvs' (by rw [(hf.append hf').keys]; exact hn)] at hd''
      · refine hs''.extBut _ _ (fun q => by rw [q, hdb] at e; cases e) (hs.extBut _ _ (fun q => by rw [q, hfresh] at e; cases e) (Heap.get?_push_of_some _ (hk _ _ e)))
    · rw [hf.length, hf'.length, sizeLine_eq]; rw [List.length_append] at hz; omega

theorem dd_loop {base : Heap} (hbase : ∃ o, base.get? sysModules = some o) (f : (Option (Sem Value) × Sem Value) → (Option Addr × List (Sem Value × Sem Value)) → Sem (ForInStep (Option Addr × List (Sem Value × Sem Value))))
    (hf : ∀ (p : Sem Value × Sem Value) main (run : List (Sem Value × Sem Value)), f (some p.1, p.2) (main, run) = if (run ++ [(p.1, p.2)]).length == 17 then (do let main' ← ddFlush (run ++ [(p.1, p.2)]) main; pure (.yield (main', []))) else pure (.yield (main, run ++ [(p.1, p.2)]))) :
    ∀ (items run : List (Sem Value × Sem Value)) (main : Option Addr) (D R I : List (Int × Str)) (s : Shared) (Q : Option Addr × List (Sem Value × Sem Value) → Shared → Prop), AreLit prog w A items I → AreLit prog w A run R → run.length < 17 →
      ((D ++ R ++ I).map (·.1)).Nodup → (D ++ R ++ I).length ≤ 100000 → (∀ b o, base.get? b = some o → s.heap.get? b = some o) → MainOk prog w base main s.heap D →
      (∀ main' run' D' R' h' tk, AreLit prog w A run' R' → run'.length < 17 → D' ++ R' = D ++ R ++ I → (∀ b o, base.get? b = some o → h'.get? b = some o) → MainOk prog w base main' h' D' → Q (main', run') { s with heap := h', toks := tk }) →
      wpAny (model prog w) A (forIn (items.map fun p => (some p.1, p.2)) (main, run) f) Q E s := by
  intro items
  induction items with
  | nil =>
    intro run main D R I s Q hi hr h17 hn hz hk hm hQ
    cases hi
    rw [List.map_nil, List.forIn_nil]
    exact wpAny_pure (hQ main run D R s.heap s.toks hr h17 (by simp) hk hm)
  | cons p items ih =>
    intro run main D R I s Q hi hr h17 hn hz hk hm hQ
    obtain _ | ⟨a, r⟩ := hi
    rename_i q qs
    rw [List.map_cons, List.forIn_cons, hf p main run]
    by_cases e17 : (run ++ [(p.1, p.2)]).length = 17
    · rw [if_pos (by simpa using e17)]
      refine wpAny_bind (wpAny_bind (ddFlush_ok (base := base) hbase (hr.snoc a) (by simp) (Nat.le_of_eq e17) ?_ ?_ hk hm fun main' h' tk hm' hne hk' => wpAny_pure ?_))
      · rw [show D ++ R ++ q :: qs = (D ++ (R ++ [q])) ++ qs by simp, List.map_append, List.nodup_append] at hn
        exact hn.1
      · simp only [List.length_append, List.length_cons, List.length_nil] at hz ⊢; omega
      refine ih [] main' (D ++ (R ++ [q])) [] qs _ _ r .nil (by decide) (by simpa using hn) (by simpa using hz) hk' hm' fun main'' run' D' R' h'' tk' a1 a2 a3 a4 a5 => ?_
      exact hQ main'' run' D' R' h'' tk' a1 a2 (by simpa using a3) a4 a5
    · rw [if_neg (by simpa using e17)]
      refine wpAny_bind (wpAny_pure ?_)
      refine ih (run ++ [(p.1, p.2)]) main D (R ++ [q]) qs _ _ r (hr.snoc a) (by simp only [List.length_append, List.length_cons, List.length_nil] at e17 ⊢; omega) (by simpa using hn) (by simpa using hz) hk hm fun main'' run' D' R' h'' tk' a1 a2 a3 a4 a5 => ?_
      exact hQ main'' run' D' R' h'' tk' a1 a2 (by simpa using a3) a4 a5

theorem dictDisplay_lits {base : Heap} (hbase : ∃ o, base.get? sysModules = some o) {items : List (Sem Value × Sem Value)} {I : List (Int × Str)} {Q : Value → Shared → Prop} (hi : AreLit prog w A items I) (hne : items ≠ [])
    (hn : (I.map (·.1)).Nodup) (hz : I.length ≤ 100000) (hk : ∀ b o, base.get? b = some o → s.heap.get? b = some o)
    (h : ∀ d kvs h' tk, base.get? d = none → Fits kvs I → h'.DictOf (ik prog w) d kvs → (∀ b o, base.get? b = some o → h'.get? b = some o) → Q (.ref d) { s with heap := h', toks := tk }) :
    wpAny (model prog w) A (dictDisplay (items.map fun p => (some p.1, p.2))) Q E s := by
  unfold dictDisplay
  dsimp only
  refine wpAny_bind (dd_loop (base := base) hbase _ (fun p main run => ?_) items [] none [] [] I s _ hi .nil (by decide) (by simpa using hn) (by simpa using hz) hk (.inl ⟨rfl, rfl⟩) fun main' run' D' R' h' tk hr h17 e hk' hm => ?_)
  · rfl
  · simp only [List.nil_append] at e
    show wpAny _ _ (ddFlush run' main' >>= _) _ _ _
    cases run' with
    | nil =>
      cases hr
      refine wpAny_bind (wpAny_pure ?_)
      rcases hm with ⟨rfl, rfl⟩ | ⟨d, kvs, rfl, hdb, hds, hne', hf, hd⟩
      · exfalso
        rw [List.append_nil] at e
        rw [← e] at hi
        cases hi
        exact hne rfl
      · rw [List.append_nil] at e
        exact wpAny_pure (h d kvs h' tk hdb (e ▸ hf) hd hk')
    | cons p r =>
      refine wpAny_bind (ddFlush_ok (base := base) (D := D') hbase hr (by simp) (Nat.le_of_lt h17) (by rw [e]; exact hn) (by rw [e]; exact hz) hk' hm fun main'' h'' tk' hm' hne' hk'' => ?_)
      rcases hm' with ⟨rfl, _⟩ | ⟨d, kvs, rfl, hdb, hds, _, hf, hd⟩
      · exact absurd rfl hne'
      · exact wpAny_pure (h d kvs h'' tk' hdb (e ▸ hf) hd hk'')
end bigdict
end Mine
end

section
open PySem PySem.W PySem.Calls PyProof.Rows
set_option Elab.async false
set_option maxRecDepth 100000
set_option linter.unusedVariables false
namespace Mine
variable {C : Cx} {α β : Type} {m : Loc} {l : Led} {mg mb : Loc}

/-- new objects, one changed, and the frame's names -/
theorem Okk.more {h₀ h h' : Heap} {L Pl : Addr} {m m' : Loc} {l : Led} {oP oP' : Obj} {g : Obj → Led} (O : Okk h₀ L h m l) (r : Rep l Pl oP g) (hns : h'.Ns L m')
    (hk : ∀ b o, b ≠ Pl → b ≠ L → h.get? b = some o → h'.get? b = some o) (hP : h'.get? Pl = some oP') (news : Led) (hn : ∀ p ∈ news, h'.get? p.1 = some p.2 ∧ h.objs.size ≤ p.1) (hnd : (news.map (·.1)).Nodup) :
    Okk h₀ L h' m' (g oP' ++ news) := by
  obtain ⟨pre, post, rfl, e⟩ := r
  rw [e]
  have hm : (Pl, oP) ∈ pre ++ (Pl, oP) :: post := by simp
  have ha := O.nw _ hm
  have nd := O.nd
  have hLlt : L < h.objs.size := O.fr.ns.lt
  have base : ∀ b o, h₀.get? b = some o → h'.get? b = some o := fun b o e' => hk b o (fun q => by rw [q, ha.2.2] at e'; cases e') (Nat.ne_of_lt (Nat.lt_of_lt_of_le (Heap.lt_size e') O.fr.above)) (O.fr.keep _ _ e')
  have old : ∀ p ∈ pre ++ (Pl, oP') :: post, h'.get? p.1 = some p.2 ∧ p.1 ≠ L ∧ h₀.get? p.1 = none := by
    intro p hp
    simp only [List.map_append, List.map_cons, List.nodup_append, List.nodup_cons, List.mem_cons] at nd
    rcases List.mem_append.mp hp with hp | hp
    · have hp' := O.nw p (List.mem_append_left _ hp)
      exact ⟨hk _ _ (nd.2.2 p.1 (List.mem_map_of_mem hp) Pl (.inl rfl)) hp'.2.1 hp'.1, hp'.2⟩
    · rcases List.mem_cons.mp hp with rfl | hp
      · exact ⟨hP, ha.2⟩
      · have hp' := O.nw p (List.mem_append_right _ (List.mem_cons_of_mem _ hp))
        exact ⟨hk _ _ (fun q => nd.2.1.1 (q ▸ List.mem_map_of_mem hp)) hp'.2.1 hp'.1, hp'.2⟩
  refine ⟨⟨hns, base, O.fr.above⟩, fun p hp => ?_, ?_⟩
  · rcases List.mem_append.mp hp with hp | hp
    · exact old p hp
    · refine ⟨(hn p hp).1, Nat.ne_of_gt (Nat.lt_of_lt_of_le hLlt (hn p hp).2), ?_⟩
      cases q : h₀.get? p.1 with
      | none => rfl
      | some o => exact absurd (Nat.lt_of_lt_of_le (Heap.lt_size (O.fr.keep _ _ q)) (hn p hp).2) (Nat.lt_irrefl _)
  · rw [List.map_append]
    refine List.nodup_append.mpr ⟨by simpa using nd, hnd, fun a ha' b hb e' => ?_⟩
    obtain ⟨p, hp, rfl⟩ := List.mem_map.mp ha'
    obtain ⟨q, hq, rfl⟩ := List.mem_map.mp hb
    have h1 : p.1 < h.objs.size := by
      rcases List.mem_append.mp hp with hp | hp
      · exact Heap.lt_size (O.nw p (List.mem_append_left _ hp)).1
      · rcases List.mem_cons.mp hp with rfl | hp
        · exact Heap.lt_size ha.1
        · exact Heap.lt_size (O.nw p (List.mem_append_right _ (List.mem_cons_of_mem _ hp))).1
    have e'' : p.1 = q.1 := e'
    have h2 := (hn q hq).2
    rw [← e''] at h2
    exact absurd (Nat.lt_of_lt_of_le h1 h2) (Nat.lt_irrefl _)

/-- a code object and its table, as objects -/
def CodeO (c P : Addr) (ps : Array Value) (oc oP : Obj) : Prop := ∀ h : Heap, h.get? c = some oc → h.get? P = some oP → h.IsCode c P ps
theorem codeO_of {h : Heap} {c P : Addr} {ps : Array Value} (x : h.IsCode c P ps) : ∃ oc oP, h.get? c = some oc ∧ h.get? P = some oP ∧ CodeO c P ps oc oP ∧ (∃ vs, oc.data = .fields vs) ∧ (∃ vs, oP.data = .fields vs) ∧ c ≠ P := by
  obtain ⟨o, vs, file, tf, flags, tg, inF, text, tt, op, a, r1, r2, r3, r4, r5, r6, b, r7, r8, r9⟩ := x
  exact ⟨o, op, a, b, fun h' a' b' => ⟨o, vs, file, tf, flags, tg, inF, text, tt, op, a', r1, r2, r3, r4, r5, r6, b', r7, r8, r9⟩, ⟨_, r1⟩, ⟨_, r7⟩, r9⟩
def TabO (c P : Addr) (ps : Array Value) (oc oP : Obj) : Prop := ∀ h : Heap, h.get? c = some oc → h.get? P = some oP → h.TableAt c P ps
theorem tabO_of {h : Heap} {c P : Addr} {ps : Array Value} {oc oP : Obj} (x : h.TableAt c P ps) (hc : h.get? c = some oc) (hP : h.get? P = some oP) : TabO c P ps oc oP := by
  obtain ⟨⟨o, vs, a, b, d, e⟩, f⟩ := x
  rw [hc] at a; cases a
  rw [hP] at f; cases f
  exact fun h' a' b' => ⟨⟨_, vs, a', b, d, e⟩, b'⟩
def RecO (c : Addr) (q : Str) (oc : Obj) : Prop := ∀ h : Heap, h.get? c = some oc → h.CodeRec (.ref c) q
theorem recO_of {h : Heap} {c : Addr} {q : Str} {oc : Obj} (x : h.CodeRec (.ref c) q) (hc : h.get? c = some oc) : RecO c q oc := by
  obtain ⟨c', o, vs, t, e, g, r1, r2⟩ := x
  cases e
  rw [hc] at g; cases g
  exact fun h' a' => ⟨_, _, vs, t, rfl, a', r1, r2⟩

noncomputable def tri : List (Nat × Nat × Addr) → List Value
  | [] => []
  | (a, b, c) :: r => rawInt a :: rawInt b :: .ref c :: tri r
theorem tri_append : ∀ (a b : List (Nat × Nat × Addr)), tri (a ++ b) = tri a ++ tri b
  | [], b => rfl
  | (x, y, z) :: r, b => by simp only [List.cons_append, tri, tri_append r b]
theorem codeAmong_tri {p : Pos} : ∀ (ts : List (Nat × Nat × Addr)), (∀ t ∈ ts, t.1 ≠ p.line ∨ t.2.1 ≠ p.col) → codeAmong p (tri ts) = none
  | [], _ => rfl
  | (a, b, c) :: r, h => by
    show (if ((a : Int) == p.line && (b : Int) == p.col) = true then _ else codeAmong p (tri r)) = none
    rw [if_neg, codeAmong_tri r fun t ht => h t (List.mem_cons_of_mem _ ht)]
    have := h (a, b, c) List.mem_cons_self
    dsimp only at this
    simp only [Bool.and_eq_true, beq_iff_eq]
    omega

/-- the built-in names' module, as the globals name it -/
def BmO (C : Cx) (m : Loc) (l : Led) : Prop := ∃ bm o, m "__builtins__" = some (.ref bm) ∧ bm ≠ builtinsNs ∧ (bm, o) ∈ l ∧ o.cls = .type "module" ∧ o.dict = some builtinsNs ∧ o.data = .plain

theorem T_def0 {c Pl F : Addr} {oc oP : Obj} {ts : List (Nat × Nat × Addr)} {name : Str} {params : Arguments} {body : List Stmt} {scope : Scope} {pos : Pos} {Q : Flow → Loc → Led → Prop} (hL : C.L = mainGlobals)
    (hlow : mainGlobals < c ∧ mainGlobals < Pl) (hcode : CodeO c Pl (tri ts).toArray oc oP) (hpos : ∀ t ∈ ts, t.1 < pos.line) (hb : BmO C m l)
    (h : ∀ a fo c' oc' P' oP' oPl' doc, fo = { cls := .type "function", data := .func (fnX name name params body scope [] .none .none doc ((m "__name__").getD .none) none (.ref c') .none) } → RecO c' name oc' → CodeO c' P' #[] oc' oP' → TabO c' P' #[] oc' oP' →
      CodeO c Pl (tri (ts ++ [(pos.line, pos.col, c')])).toArray oc oPl' → BmO C (up m name (.ref a)) ((a, fo) :: (c', oc') :: (P', oP') :: l) →
      Q .next (up m name (.ref a)) ((Pl, oPl') :: (c, oc) :: (a, fo) :: (c', oc') :: (P', oP') :: l))
    (hkw : params.kwonlyargs = []) (hkd : params.kw_defaults = []) (hdf : params.defaults = []) (hann0 : annTrees params none (mainEnv pw c F) = [])
    (hfree : ∀ x ∈ scope.names, x.2 ≠ .free) (hloc : pw.main.scope.names.lookup name = some .local)
    (hq : qualnameIn { scope := pw.main.scope, locals := mainGlobals, globals := mainGlobals, cells := [] } name name = name)
    (hnb : name ≠ "__builtins__") (hmod : pw.main.scope.kind = .module) :
    T C (exec (.FunctionDef name params body [] none [] scope none name pos) (mainEnv pw c F)) m ((Pl, oP) :: (c, oc) :: l) Q := by
  intro s P E O k
  have hPl := O.nw _ List.mem_cons_self
  have hc := O.nw _ (List.mem_cons_of_mem _ List.mem_cons_self)
  obtain ⟨bm, ob, b1, b2, b3, b4, b5, b6⟩ := hb
  have hbm := O.nw _ (List.mem_cons_of_mem _ (List.mem_cons_of_mem _ b3))
  have nd := O.nd
  simp only [List.map_cons, List.nodup_cons, List.mem_cons] at nd
  have hbP : bm ≠ Pl := fun e => nd.1 (.inr (e ▸ List.mem_map_of_mem (f := (·.1)) b3))
  rw [hL] at hPl hc hbm
  have hm : s.heap.Main m c Pl (tri ts).toArray := ⟨hL ▸ O.fr.ns, hcode _ hc.1 hPl.1, hlow, ⟨bm, ob, b1, b2, hbm.2.1, hbP, hbm.1, b4, b5, b6⟩⟩
  refine wpAny_defStmt0N hkw hkd (by rw [hdf]; simp) hann0 hfree hloc hq hm (fun a c' doc dV vs h' tk ha hM hget hvs hdef hrec htab keep => ?_) hnb hmod (codeAmong_tri ts fun t ht => .inl (Nat.ne_of_lt (hpos t ht)))
  obtain ⟨P', hP', hcd', htb'⟩ := htab
  obtain ⟨oc', oP', e1, e2, X', ⟨_, dc'⟩, ⟨_, dP'⟩, hne'⟩ := codeO_of hcd'
  obtain ⟨oc2, oPl', e3, e4, XP, _, _, hneP⟩ := codeO_of hM.code
  have hvs0 : vs = [] := by rw [hdf] at hvs; cases vs with
    | nil => rfl
    | cons _ _ => exact hvs.elim
  subst hvs0
  obtain rfl : dV = .none := by
    rcases hdef with ⟨_, e⟩ | ⟨e, _⟩
    · exact e
    · exact absurd rfl e
  have hcc : c ≠ Pl := fun e => nd.1 (.inl e.symm)
  have hcs : h'.get? c = some oc := keep _ _ hcc hc.2.1 hc.1
  rw [hcs] at e3
  obtain rfl : oc = oc2 := Option.some.inj e3
  have epa : ((tri ts).toArray ++ #[rawInt pos.line, rawInt pos.col, .ref c']) = (tri (ts ++ [(pos.line, pos.col, c')])).toArray := by simp [tri_append, tri]
  rw [epa] at XP
  have hac : a ≠ c' := fun e => by
    rw [e, e1] at hget
    rw [Option.some.inj hget] at dc'
    cases dc'
  have haP : a ≠ P' := fun e => by
    rw [e, e2] at hget
    rw [Option.some.inj hget] at dP'
    cases dP'
  have O' : Okk C.h₀ C.L h' (up m name (.ref a)) (((Pl, oPl') :: (c, oc) :: l) ++ [(a, _), (c', oc'), (P', oP')]) := O.more Rep.here (hL ▸ hM.g) (fun b o e1 e2 e3 => keep b o e1 (hL ▸ e2) e3) e4 [(a, _), (c', oc'), (P', oP')]
    (fun p hp => by
      simp only [List.mem_cons, List.not_mem_nil, or_false] at hp
      rcases hp with rfl | rfl | rfl
      · exact ⟨hget, ha⟩
      · exact ⟨e1, hrec.1⟩
      · exact ⟨e2, hP'⟩)
    (by simp only [List.map_cons, List.map_nil, List.nodup_cons, List.mem_cons, List.not_mem_nil, or_false, not_false_eq_true, List.nodup_nil, and_true]; exact ⟨by rintro (e | e); exact hac e; exact haP e, hne'⟩)
  refine k _ h' tk _ _ (h a _ c' oc' P' oP' oPl' doc rfl (recO_of hrec.2 e1) X' (tabO_of htb' e1 e2) XP ⟨bm, ob, ?_, b2, ?_, b4, b5, b6⟩) (O'.less (.consP (.consP ?_)))
  · rw [up_ne (Ne.symm hnb)]; exact b1
  · exact List.mem_cons_of_mem _ (List.mem_cons_of_mem _ (List.mem_cons_of_mem _ b3))
  · exact ⟨l ++ [(a, _), (c', oc'), (P', oP')], List.perm_append_comm, .refl _⟩

theorem T_defK {c Pl F : Addr} {oc oP : Obj} {ts : List (Nat × Nat × Addr)} {name : Str} {params : Arguments} {body : List Stmt} {scope : Scope} {pos : Pos} {Q : Flow → Loc → Led → Prop} (hL : C.L = mainGlobals)
    (hlow : mainGlobals < c ∧ mainGlobals < Pl) (hcode : CodeO c Pl (tri ts).toArray oc oP) (hpos : ∀ t ∈ ts, t.1 < pos.line) (hb : BmO C m l)
    (h : ∀ a fo c' oc' P' oP' oPl' doc T1 t0 K1 oK mk, fo = { cls := .type "function", data := .func (fnX name name params body scope [] (.ref T1) (.ref K1) doc ((m "__name__").getD .none) none (.ref c') .none) } → RecO c' name oc' → CodeO c' P' #[] oc' oP' → TabO c' P' #[] oc' oP' →
      CodeO c Pl (tri (ts ++ [(pos.line, pos.col, c')])).toArray oc oPl' → NsO oK mk → mk "key" = some .none → BmO C (up m name (.ref a)) ((a, fo) :: (c', oc') :: (P', oP') :: (T1, tup [.int 0 t0, .none]) :: (K1, oK) :: l) →
      Q .next (up m name (.ref a)) ((Pl, oPl') :: (c, oc) :: (a, fo) :: (c', oc') :: (P', oP') :: (T1, tup [.int 0 t0, .none]) :: (K1, oK) :: l))
    {k1 k2 k3 : Nat} {p1 p2 p3 p4 : Pos} (hkw : params.kwonlyargs = [⟨"key", none, p4⟩]) (hkd : params.kw_defaults = [some (.Constant .none k3 p3)]) (hdf : params.defaults = [.Constant (.int 0) k1 p1, .Constant .none k2 p2]) (hann0 : annTrees params none (mainEnv pw c F) = [])
    (hfree : ∀ x ∈ scope.names, x.2 ≠ .free) (hloc : pw.main.scope.names.lookup name = some .local)
    (hq : qualnameIn { scope := pw.main.scope, locals := mainGlobals, globals := mainGlobals, cells := [] } name name = name)
    (hnb : name ≠ "__builtins__") (hmod : pw.main.scope.kind = .module) :
    T C (exec (.FunctionDef name params body [] none [] scope none name pos) (mainEnv pw c F)) m ((Pl, oP) :: (c, oc) :: l) Q := by
  intro s P E O k
  have hPl := O.nw _ List.mem_cons_self
  have hc := O.nw _ (List.mem_cons_of_mem _ List.mem_cons_self)
  obtain ⟨bm, ob, b1, b2, b3, b4, b5, b6⟩ := hb
  have hbm := O.nw _ (List.mem_cons_of_mem _ (List.mem_cons_of_mem _ b3))
  have nd := O.nd
  simp only [List.map_cons, List.nodup_cons, List.mem_cons] at nd
  have hbP : bm ≠ Pl := fun e => nd.1 (.inr (e ▸ List.mem_map_of_mem (f := (·.1)) b3))
  rw [hL] at hPl hc hbm
  have hG : s.heap.Ns mainGlobals m := hL ▸ O.fr.ns
  have hC : s.heap.IsCode c Pl (tri ts).toArray := hcode _ hc.1 hPl.1
  have hB : s.heap.BuiltinsAt m Pl := ⟨bm, ob, b1, b2, hbm.2.1, hbP, hbm.1, b4, b5, b6⟩
  have hq' : qualnameIn (mainEnv pw c F) name name = name := hq
  rw [exec_def, hq', defaultsOf_eq, hkd, hann0, hdf]
  refine wpAny_bind (wpAny_standAt (wpAny_bind (wpAny_holding ?_)))
  refine wpAny_bind (wpAny_bind (wpAny_Constant_int (wpAny_bind (wpAny_holding (wpAny_bind (wpAny_pure (wpAny_bind (wpAny_holding (wpAny_pure (wpAny_pure (wpAny_pure ?_))))))))))) 
  refine wpAny_bind (wpAny_holding (wpAny_bind (wpAny_pure (wpAny_bind (wpAny_holding (wpAny_pure (wpAny_pure ?_)))))))
  refine wpAny_holding ?_
  refine wpAny_bind (wpAny_pure ?_)
  rw [makeFunction_eq, hkw]
  refine wpAny_bind (wpAny_newTextTuple ?_)
  generalize hH1 : (s.heap.push { cls := .type "tuple", data := .seq [Value.int 0 s.toks, .none].toArray }) = H1
  refine wpAny_bind (wpAny_alloc ?_)
  show wpAny _ _ (forIn [(("key" : Str), Value.none)] PUnit.unit _ >>= _) _ _ _
  refine wpAny_bind (wpAny_forIn_nsSet H1.objs.size _ id (fun ⟨_, _⟩ _ => rfl) [("key", Value.none)] (fun _ => none) (Heap.Ns.new H1 (.type "dict")) _
        fun h₂ hn₂ hsb₂ => wpAny_bind (wpAny_pure ?_))
  refine wpAny_bind (wpAny_pure ?_)
  have k1 : ∀ b o, s.heap.get? b = some o → H1.get? b = some o := fun b o e => hH1 ▸ Heap.get?_push_of_some _ e
  have z1 : H1.objs.size = s.heap.objs.size + 1 := by rw [← hH1, Heap.size_push]
  have t1 : H1.get? s.heap.objs.size = some (tup [.int 0 s.toks, .none]) := by rw [← hH1]; exact Heap.get?_push_size _ rfl
  have k2 : ∀ b o, H1.get? b = some o → h₂.get? b = some o := fun b o e => hsb₂.extBut _ _ (Nat.ne_of_lt (Heap.lt_size e)) (Heap.get?_push_of_some _ e)
  have z2 : h₂.objs.size = H1.objs.size + 1 := by have := hsb₂.1; simpa [Heap.size_push] using this
  obtain ⟨oK, hoK, hNK⟩ := nsO_of hn₂
  refine wpAny_makeTail_fromN (s := s) (env := mainEnv pw c F) (c := c) (Pl := Pl) hfree hG rfl hC (codeAmong_tri ts fun t ht => .inl (Nat.ne_of_lt (hpos t ht))) (Nat.ne_of_lt hlow.2) hB (fun b o e => k2 _ _ (k1 _ _ e)) (by omega)
    fun c' doc h₃ tk hx hge hlt hok hrec htb => wpAny_bind (wpAny_standAt (wpAny_bind (wpAny_bindName (wpAny_storeName_local (env := mainEnv pw c F) hloc
      (((hG.keeps fun b o e => k2 _ _ (k1 _ _ e)).extBut hx (Nat.ne_of_lt hlow.2)).push _) (fun h' hg' hs' => wpAny_pure ?_) (by show (pw.main.scope.kind == .class || (pw.main.scope.kind == .module && mainGlobals != mainGlobals)) = false; rw [hmod]; rfl)))))
  dsimp only at hg' hs' ⊢
  obtain ⟨P', hP', hcd', htb'⟩ := htb
  obtain ⟨oc', oP', e1, e2, X', ⟨_, dc'⟩, ⟨_, dP'⟩, hne'⟩ := codeO_of hcd'
  obtain ⟨oc2, oPl', e3, e4, XP, _, _, hneP⟩ := codeO_of hok
  have hcc : c ≠ Pl := fun e => nd.1 (.inl e.symm)
  have hcs : h₃.get? c = some oc := hx _ _ hcc (k2 _ _ (k1 _ _ hc.1))
  rw [hcs] at e3
  obtain rfl : oc = oc2 := Option.some.inj e3
  have epa : ((tri ts).toArray ++ #[rawInt pos.line, rawInt pos.col, .ref c']) = (tri (ts ++ [(pos.line, pos.col, c')])).toArray := by simp [tri_append, tri]
  rw [epa] at XP
  have hPs : @LT.lt Nat instLTNat Pl s.heap.objs.size := Heap.lt_size hPl.1
  have hGs : @LT.lt Nat instLTNat mainGlobals s.heap.objs.size := hG.lt
  have hge' : @LE.le Nat instLENat s.heap.objs.size c' := hge
  have hP2 : @LE.le Nat instLENat s.heap.objs.size P' := hP'
  have eT : h₃.get? s.heap.objs.size = some (tup [.int 0 s.toks, .none]) := hx _ _ (Nat.ne_of_gt hPs) (k2 _ _ t1)
  have eK : h₃.get? H1.objs.size = some oK := hx _ _ (Nat.ne_of_gt (by rw [z1]; exact Nat.lt_succ_of_lt hPs)) hoK
  have up3 : ∀ b o, b ≠ mainGlobals → h₃.get? b = some o → h'.get? b = some o := fun b o hb e => (hs'.2 _ hb).trans (Heap.get?_push_of_some _ e)
  have ea : h'.get? h₃.objs.size = some { cls := .type "function", data := .func (defFd name name params body scope mainGlobals (.ref s.heap.objs.size) (.ref H1.objs.size) none ((m "__name__").getD .none) (.ref c') doc) } :=
    (hs'.2 _ (Nat.ne_of_gt (Nat.lt_of_lt_of_le hGs (Nat.le_trans hge' (Nat.le_of_lt (Heap.lt_size e1)))))).trans (Heap.get?_push_size _ rfl)
  have lc := Heap.lt_size e1
  have lP := Heap.lt_size e2
  have lT := Heap.lt_size eT
  have lK := Heap.lt_size eK
  obtain ⟨esK, epK, dK, _⟩ := id hNK
  have n1 : c' ≠ s.heap.objs.size := fun e => by rw [e, eT] at e1; rw [← Option.some.inj e1] at dc'; cases dc'
  have n2 : c' ≠ H1.objs.size := fun e => by rw [e, eK] at e1; rw [← Option.some.inj e1, dK] at dc'; cases dc'
  have n3 : P' ≠ s.heap.objs.size := fun e => by rw [e, eT] at e2; rw [← Option.some.inj e2] at dP'; cases dP'
  have n4 : P' ≠ H1.objs.size := fun e => by rw [e, eK] at e2; rw [← Option.some.inj e2, dK] at dP'; cases dP'
  have O' : Okk C.h₀ C.L h' (up m name (.ref h₃.objs.size)) (((Pl, oPl') :: (c, oc) :: l) ++ [(h₃.objs.size, _), (c', oc'), (P', oP'), (s.heap.objs.size, tup [.int 0 s.toks, .none]), (H1.objs.size, oK)]) :=
    O.more Rep.here (hL ▸ hg') (fun b o e1 e2 e3 => up3 b o (hL ▸ e2) (hx _ _ e1 (k2 _ _ (k1 _ _ e3)))) (up3 _ _ hPl.2.1 e4) [(h₃.objs.size, _), (c', oc'), (P', oP'), (s.heap.objs.size, tup [.int 0 s.toks, .none]), (H1.objs.size, oK)]
    (fun p hp => by
      simp only [List.mem_cons, List.not_mem_nil, or_false] at hp
      rcases hp with rfl | rfl | rfl | rfl | rfl
      · exact ⟨ea, Nat.le_trans hge' (Nat.le_of_lt lc)⟩
      · exact ⟨up3 _ _ (Nat.ne_of_gt (Nat.lt_of_lt_of_le hGs hge')) e1, hge⟩
      · exact ⟨up3 _ _ (Nat.ne_of_gt (Nat.lt_of_lt_of_le hGs hP2)) e2, hP'⟩
      · exact ⟨up3 _ _ (Nat.ne_of_gt hGs) eT, Nat.le_refl _⟩
      · exact ⟨up3 _ _ (Nat.ne_of_gt (by rw [z1]; exact Nat.lt_succ_of_lt hGs)) eK, by rw [z1]; exact Nat.le_succ _⟩)
    (by
      simp only [List.map_cons, List.map_nil, List.nodup_cons, List.mem_cons, List.not_mem_nil, or_false, not_false_eq_true, List.nodup_nil, and_true, not_or]
      exact ⟨⟨Nat.ne_of_gt lc, Nat.ne_of_gt lP, Nat.ne_of_gt lT, Nat.ne_of_gt lK⟩, ⟨hne', n1, n2⟩, ⟨n3, n4⟩, by rw [z1]; exact Nat.ne_of_lt (Nat.lt_succ_self _)⟩)
  refine k _ h' _ _ _ (h h₃.objs.size _ c' oc' P' oP' oPl' doc s.heap.objs.size s.toks H1.objs.size oK _ rfl (recO_of hrec e1) X' (tabO_of htb' e1 e2) XP hNK rfl ⟨bm, ob, ?_, b2, ?_, b4, b5, b6⟩) (O'.less (.consP (.consP ?_)))
  · rw [up_ne (Ne.symm hnb)]; exact b1
  · exact List.mem_cons_of_mem _ (List.mem_cons_of_mem _ (List.mem_cons_of_mem _ (List.mem_cons_of_mem _ (List.mem_cons_of_mem _ b3))))
  · exact ⟨l ++ [_, _, _, _, _], List.perm_append_comm, .refl _⟩
end Mine
end

section
open PySem PySem.W PySem.Calls PyProof.Rows
set_option Elab.async false
set_option maxRecDepth 100000
set_option linter.unusedVariables false
namespace Mine
variable {C : Cx} {α β : Type} {m : Loc} {l : Led} {mg mb : Loc}

theorem Okk.add {h₀ h h' : Heap} {L a : Addr} {m : Loc} {l : Led} {o : Obj} (O : Okk h₀ L h m l) (k : ∀ b o, h.get? b = some o → h'.get? b = some o) (ha : h.objs.size ≤ a) (ho : h'.get? a = some o) : Okk h₀ L h' m ((a, o) :: l) := by
  have O' := O.grown k
  refine ⟨O'.fr, fun p hp => ?_, ?_⟩
  · rcases List.mem_cons.mp hp with rfl | hp
    · refine ⟨ho, Nat.ne_of_gt (Nat.lt_of_lt_of_le O.fr.ns.lt ha), ?_⟩
      cases q : h₀.get? a with
      | none => rfl
      | some o' => exact absurd (Nat.lt_of_lt_of_le (Heap.lt_size (O.fr.keep _ _ q)) ha) (Nat.lt_irrefl _)
    · exact O'.nw p hp
  · simp only [List.map_cons, List.nodup_cons]
    refine ⟨fun hm => ?_, O.nd⟩
    obtain ⟨p, hp, e⟩ := List.mem_map.mp hm
    exact absurd (Nat.lt_of_lt_of_le (Heap.lt_size (O.nw p hp).1) (e ▸ ha)) (Nat.lt_irrefl _)

section more
variable {a b : Int} {t u : Tok} {Q : Value → Loc → Led → Prop}
theorem T_range2 (h : ∀ r t3, Q (.ref r) m ((r, rng a b 1 t u t3) :: l)) : T C (call (.type "range") [.int a t, .int b u]) m l Q :=
  fun s P E O c => call_range_2 (c _ _ _ m _ (h _ _) (O.push _))
theorem T_range1 (h : ∀ r t1 t3, Q (.ref r) m ((r, rng 0 a 1 t1 t t3) :: l)) : T C (call (.type "range") [.int a t]) m l Q :=
  fun s P E O c => call_range_1 (c _ _ _ m _ (h _ _ _) (O.push _))
theorem T_list_range {r : Addr} {t3 : Tok} {n : Nat} (hh : C.A.handled = none) (hr : Seen C l r (rng a b 1 t u t3)) (hs : Builtin.Range.small a b 1 = true) (hz : Builtin.Range.rangeSize a b 1 = n) (hn : n ≤ 2 ^ 24)
    (h : ∀ d ys k, IntsAre ys (rangeInts a 1 n) → Q (.ref d) m ((d, lo ys k) :: l)) : T C (call (.type "list") [.ref r]) m l Q := by
  intro s P E O c
  refine list_rangeD hh O.fr O.nw (hr.get O) hs hz hn fun h' tk ys F N k _ _ hp hc => ?_
  obtain ⟨⟨n', hg⟩, _⟩ := hp
  exact c _ h' tk m _ (h _ ys n' (IntsAre.ofCarried hc)) (O.add k (Nat.le_refl _) hg)
theorem T_add_list {x y : Addr} {vs us : List Value} {n n' : Nat} (hx : Seen C l x (lo vs n)) (hy : Seen C l y (lo us n')) (hs : vs.length + us.length ≤ sizeLine) (h : ∀ d, Q (.ref d) m ((d, lo (vs ++ us)) :: l)) :
    T C (binaryOp .Add (.ref x) (.ref y)) m l Q :=
  fun s P E O c => add_arrays O.fr O.nw (hx.isList O) (hy.isList O) (fun h' F N => c _ h' s.toks m _ (h _) ⟨F, N, (O.push (lo (vs ++ us))).nd⟩) (by simpa using hs)
theorem T_set_list {x : Addr} {vs : List Value} {ns : List Int} {n : Nat} (hh : C.A.handled = none) (hx : Seen C l x (lo vs n)) (hi : IntsAre vs ns) (hb : vs.length + 1 < 4096)
    (h : ∀ d o, o.SetObjOf (intKind C.prog C.w) (fun k' => (firstMet (fun i => ns.getD i 0) vs.length).any (· == k')) (firstMet (fun i => ns.getD i 0) vs.length).length → Q (.ref d) m ((d, o) :: l)) : T C (call (.type "set") [.ref x]) m l Q := by
  intro s P E O c
  refine call_set_list (items := vs.toArray) (ns := ns) hh (hx.isList O) hi (by simpa [scanBound] using hb) fun h' tk hS k => ?_
  obtain ⟨o, ho, hso⟩ := hS.objOf
  have e : vs.toArray.size = vs.length := by simp
  rw [e] at hso
  exact c _ h' tk m _ (h _ o hso) (O.add (fun b o e => k b o (Heap.lt_size e) e) (Nat.le_refl _) ho)
end more

section top
variable {c F : Addr} {x : Str} {pos : Pos} {v : Value}
theorem T_mstore {Q : Unit → Loc → Led → Prop} (hL : C.L = mainGlobals) (h : Q () (up m x v) l) (hx : (mainEnv pw c F).kindOf x = some .local := by rfl) : T C (storeName (mainEnv pw c F) x v) m l Q := by
  intro s P E O k
  refine wpAny_storeName_local hx (by show s.heap.Ns mainGlobals m; exact hL ▸ O.fr.ns) (fun h' hn hs => ?_) rfl
  have hn' : h'.Ns C.L (up m x v) := by rw [hL]; exact hn
  have hs' : Heap.SameBut C.L s.heap h' := by rw [hL]; exact hs
  exact k () h' _ _ l h ⟨O.fr.set hn' hs', O.nw.set hs', O.nd⟩
theorem T_mbuiltin {Q : Value → Loc → Led → Prop} (hL : C.L = mainGlobals) (hb : C.h₀.Ns builtinsNs mb) (e : m x = none) (hv : mb x = some v) (h : Q v m l)
    (hd : (x == ("__debug__" : Str)) = false := by decide) : T C (eval (.Name x pos) (mainEnv pw c F)) m l Q := by
  intro s P E O k
  exact Name_module rfl rfl (loadGlobal_builtin (env := mainEnv pw c F) (by show s.heap.Ns mainGlobals m; exact hL ▸ O.fr.ns) e (hb.keeps O.fr.keep) hv (k v s.heap s.toks m l h O)) hd
end top
end Mine
end

section
open PySem PySem.W PySem.Calls PyProof.Rows
set_option Elab.async false
set_option maxRecDepth 100000
set_option linter.unusedVariables false
namespace Mine
variable {C : Cx} {α β : Type} {m : Loc} {l : Led} {mg mb : Loc}

theorem Okk.addF {h₀ h h' : Heap} {L a : Addr} {m : Loc} {l : Led} {o : Obj} (O : Okk h₀ L h m l) (k : ∀ b o, h.get? b = some o → h'.get? b = some o) (ha : h.get? a = none) (ho : h'.get? a = some o) : Okk h₀ L h' m ((a, o) :: l) := by
  have O' := O.grown k
  refine ⟨O'.fr, fun p hp => ?_, ?_⟩
  · rcases List.mem_cons.mp hp with rfl | hp
    · refine ⟨ho, fun e => ?_, ?_⟩
      · obtain ⟨oL, _, _, hL, _⟩ := O.fr.ns
        have e' : a = L := e
        rw [e', hL] at ha; cases ha
      · cases q : h₀.get? a with
        | none => rfl
        | some o' => have := O.fr.keep _ _ q; rw [ha] at this; cases this
    · exact O'.nw p hp
  · simp only [List.map_cons, List.nodup_cons]
    refine ⟨fun hm => ?_, O.nd⟩
    obtain ⟨p, hp, e⟩ := List.mem_map.mp hm
    have := (O.nw p hp).1
    rw [e, ha] at this; cases this

def intLit : Expr → Option Int
  | .Constant c _ _ => match c with | .int k => some k | _ => none
  | _ => none
def strLit : Expr → Option Str
  | .Constant c _ _ => match c with | .str x => some x | _ => none
  | _ => none
theorem intLit_eq {e : Expr} {k : Int} (h : intLit e = some k) : ∃ a b, e = .Constant (.int k) a b := by
  cases e with
  | Constant c a b =>
    cases c with
    | int i => exact ⟨a, b, by rw [show i = k from Option.some.inj h]⟩
    | _ => cases h
  | _ => cases h
theorem strLit_eq {e : Expr} {x : Str} (h : strLit e = some x) : ∃ a b, e = .Constant (.str x) a b := by
  cases e with
  | Constant c a b =>
    cases c with
    | str i => exact ⟨a, b, by rw [show i = x from Option.some.inj h]⟩
    | _ => cases h
  | _ => cases h
noncomputable def litD : List (Option Expr) → List Expr → Option (List (Int × Str))
  | [], vs => match vs with | [] => some [] | _ :: _ => none
  | k :: ks, vs => match k, vs with
    | some k, v :: vs => (intLit k).bind fun i => (strLit v).bind fun x => (litD ks vs).map ((i, x) :: ·)
    | _, _ => none
theorem lits_of {A : Around} {prog : Program} {w : World} {env : Env} {pos : Pos} : ∀ (keys : List (Option Expr)) (values : List Expr) (D : List (Int × Str)), litD keys values = some D →
    ∃ items : List (Sem Value × Sem Value), (evalEachOpt keys env).zip ((evalEach values env).map fun v => do let x ← v; standAt pos; pure x) = items.map (fun p => (some p.1, p.2)) ∧ AreLit prog w A items D := by
  intro keys
  induction keys with
  | nil =>
    intro values D h
    cases values with
    | nil =>
      obtain rfl : [] = D := Option.some.inj h
      exact ⟨[], rfl, .nil⟩
    | cons v vs => cases h
  | cons k ks ih =>
    intro values D h
    cases k with
    | none => cases h
    | some k =>
      cases values with
      | nil => cases h
      | cons v vs =>
        have h : ((intLit k).bind fun i => (strLit v).bind fun x => (litD ks vs).map ((i, x) :: ·)) = some D := h
        obtain ⟨i, hk, h⟩ := Option.bind_eq_some_iff.mp h
        obtain ⟨x, hv, h⟩ := Option.bind_eq_some_iff.mp h
        obtain ⟨D', h', rfl⟩ := Option.map_eq_some_iff.mp h
        obtain ⟨a, b, rfl⟩ := intLit_eq hk
        obtain ⟨a', b', rfl⟩ := strLit_eq hv
        obtain ⟨items, e, hl⟩ := ih vs D' h'
        refine ⟨(eval (.Constant (.int i) a b) env, do let x ← eval (.Constant (.str x) a' b') env; standAt pos; pure x) :: items, ?_, .cons ⟨fun s Q E h => wpAny_Constant_int (env := env) (k := a) (pos := b) (h _ _), fun s Q E h => ?_⟩ hl⟩
        · rw [evalEachOpt, evalEach, List.map_cons, List.map_cons, List.zip_cons_cons, e]
          rfl
        · exact wpAny_bind (wpAny_mkText (wpAny_bind (wpAny_standAt (wpAny_pure (h _ _)))))
noncomputable def incr : List Int → Bool
  | [] => true
  | [_] => true
  | a :: b :: r => decide (a < b) && incr (b :: r)
theorem incr_lt : ∀ (a : Int) (l : List Int), incr (a :: l) = true → ∀ b ∈ l, a < b
  | a, [], _, b, hb => by cases hb
  | a, c :: r, h, b, hb => by
    simp only [incr, Bool.and_eq_true, decide_eq_true_eq] at h
    rcases List.mem_cons.mp hb with rfl | hb
    · exact h.1
    · exact Int.lt_trans h.1 (incr_lt c r h.2 b hb)
theorem incr_nodup : ∀ (l : List Int), incr l = true → l.Nodup
  | [], _ => List.nodup_nil
  | a :: r, h => by
    rw [List.nodup_cons]
    refine ⟨fun hm => absurd (incr_lt a r h a hm) (Int.lt_irrefl a), incr_nodup r ?_⟩
    cases r with
    | nil => rfl
    | cons b r => simp only [incr, Bool.and_eq_true] at h; exact h.2

def DictO (prog : Program) (w : World) (o : Obj) (kvs : List (Int × Value)) : Prop := ∀ (h : Heap) a, h.get? a = some o → h.DictOf (intKind prog w) a kvs
theorem T_Dict {env : Env} {keys : List (Option Expr)} {values : List Expr} {pos : Pos} {D : List (Int × Str)} {Q : Value → Loc → Led → Prop} (hs : ∃ o, C.h₀.get? sysModules = some o) (hD : litD keys values = some D) (hi : incr (D.map (·.1)) = true) (hne : D ≠ []) (hz : D.length ≤ 100000)
    (h : ∀ d o kvs, Fits kvs D → DictO C.prog C.w o kvs → Q (.ref d) m ((d, o) :: l)) : T C (eval (.Dict keys values pos) env) m l Q := by
  intro s P E O c
  rw [arm_eval_Dict]
  obtain ⟨items, e, hl⟩ := lits_of (A := C.A) (prog := C.prog) (w := C.w) (env := env) (pos := pos) keys values D hD
  rw [e]
  refine wpAny_bind (wpAny_standAt ?_)
  refine dictDisplay_lits (base := s.heap) (by obtain ⟨o, ho⟩ := hs; exact ⟨o, O.fr.keep _ _ ho⟩) hl (by rintro rfl; cases hl; exact hne rfl) (incr_nodup _ hi) hz (fun _ _ e => e) fun d kvs h' tk hd hf hdo k => ?_
  obtain ⟨o, es, ep, ho, r⟩ := hdo
  exact c _ h' tk m _ (h d o kvs hf fun h'' a e => ⟨o, es, ep, e, r⟩) (O.addF k hd ho)

/-! the text's statements -/
def sName (i : Nat) : Str := match stm i with
  | .FunctionDef n .. => n
  | .Assign [.Name n _] .. => n
  | _ => "?"
def sPos (i : Nat) : Pos := match stm i with
  | .FunctionDef _ _ _ _ _ _ _ _ _ p => p
  | .Assign _ _ p => p
  | _ => ⟨0, 0, 0, 0⟩
def sVal (i : Nat) : Expr := match stm i with
  | .Assign _ v _ => v
  | _ => .Constant .none 0 ⟨0, 0, 0, 0⟩
def nameStm (i : Nat) : Bool := i == 0 || i == 4 || i == 9 || i == 16
theorem names_apart : ∀ i < 27, ∀ j < 27, i = j ∨ sName i ≠ sName j ∨ nameStm i = true := by decide +kernel
theorem body_is : pw.main.body = [stm 0, stm 1, stm 2, stm 3, stm 4, stm 5, stm 6, stm 7, stm 8, stm 9, stm 10, stm 11, stm 12, stm 13, stm 14, stm 15, stm 16, stm 17, stm 18, stm 19, stm 20, stm 21, stm 22, stm 23, stm 24, stm 25, stm 26] := rfl
def dKeys : List (Option Expr) := match sVal 7 with | .Dict k _ _ => k | _ => []
def dVals : List Expr := match sVal 7 with | .Dict _ v _ => v | _ => []
noncomputable def b3D : List (Int × Str) := (litD dKeys dVals).getD []
theorem b3D_is : litD dKeys dVals = some b3D := by
  have h : (litD dKeys dVals).isSome = true := by decide +kernel
  unfold b3D
  cases e : litD dKeys dVals with
  | none => rw [e] at h; cases h
  | some D => rfl
theorem b3D_incr : incr (b3D.map (·.1)) = true := by decide +kernel
theorem b3D_len : b3D.length = 650 := by decide +kernel
end Mine
end

section
open PySem PySem.W PySem.Calls PyProof.Rows
set_option Elab.async false
set_option maxRecDepth 100000
set_option linter.unusedVariables false
namespace Mine
variable {C : Cx} {α β : Type} {m : Loc} {l : Led} {mg mb : Loc}

def FnAny (m : Loc) (l : Led) (i : Nat) (dK : Led → Value → Value → Prop) : Prop :=
  ∃ a fo c' oc' P' oP' doc pm dV kV, m (sName i) = some (.ref a) ∧ (a, fo) ∈ l ∧ fo = { cls := .type "function", data := .func (fnX (sName i) (sName i) (fParams i) (fBody i) (fScope i) [] dV kV doc pm none (.ref c') .none) } ∧
    (c', oc') ∈ l ∧ RecO c' (sName i) oc' ∧ (P', oP') ∈ l ∧ CodeO c' P' #[] oc' oP' ∧ TabO c' P' #[] oc' oP' ∧ dK l dV kV
def noD (_ : Led) (dV kV : Value) : Prop := dV = .none ∧ kV = .none
def keyD (l : Led) (dV kV : Value) : Prop := ∃ T1 t0 K1 oK mk, dV = .ref T1 ∧ kV = .ref K1 ∧ (T1, tup [.int 0 t0, .none]) ∈ l ∧ (K1, oK) ∈ l ∧ NsO oK mk ∧ mk "key" = some .none
def b1L : List Int := [173, 847, 6150, 6155, 6156, 6157, 8203, 8204, 8205, 8288, 65279] ++ rangeInts 65024 1 16
def b1S (k : Int) : Bool := (firstMet (fun i => b1L.getD i 0) 27).any (· == k)
def SetF (prog : Program) (w : World) (m : Loc) (l : Led) : Prop := ∃ d o n, m "b1_set" = some (.ref d) ∧ (d, o) ∈ l ∧ n < 4096 ∧ o.SetObjOf (intKind prog w) b1S n
def DictF (prog : Program) (w : World) (m : Loc) (l : Led) : Prop := ∃ d o kvs, m "b3_exceptions" = some (.ref d) ∧ (d, o) ∈ l ∧ Fits kvs b3D ∧ DictO prog w o kvs
def Fact (prog : Program) (w : World) (m : Loc) (l : Led) (i : Nat) : Prop :=
  if nameStm i then True else if i = 5 then SetF prog w m l else if i = 7 then DictF prog w m l else if i ≤ 3 then FnAny m l i keyD else FnAny m l i noD
theorem FnAny.mono {m' : Loc} {l' : Led} {i : Nat} {dK} (h : FnAny m l i dK) (hm : m' (sName i) = m (sName i)) (hl : ∀ p ∈ l, p ∈ l') (hd : ∀ dV kV, dK l dV kV → dK l' dV kV) : FnAny m' l' i dK := by
  obtain ⟨a, fo, c', oc', P', oP', doc, pm, dV, kV, h1, h2, h3, h4, h5, h6, h7, h8, h9⟩ := h
  exact ⟨a, fo, c', oc', P', oP', doc, pm, dV, kV, hm.trans h1, hl _ h2, h3, hl _ h4, h5, hl _ h6, h7, h8, hd _ _ h9⟩
theorem sName5 : sName 5 = "b1_set" := rfl
theorem sName7 : sName 7 = "b3_exceptions" := rfl
theorem Fact.mono {prog : Program} {w : World} {m' : Loc} {l' : Led} {i : Nat} (h : Fact prog w m l i) (hm : nameStm i = true ∨ m' (sName i) = m (sName i)) (hl : ∀ p ∈ l, p ∈ l') : Fact prog w m' l' i := by
  unfold Fact at h ⊢
  split
  · trivial
  · rename_i hn
    rw [if_neg hn] at h
    have hm := hm.resolve_left hn
    split
    · rename_i h5
      rw [if_pos h5] at h
      obtain ⟨d, o, n, h1, h2, r⟩ := h
      subst h5
      exact ⟨d, o, n, by rw [← sName5, hm, sName5]; exact h1, hl _ h2, r⟩
    · rename_i h5
      rw [if_neg h5] at h
      split
      · rename_i h7
        rw [if_pos h7] at h
        obtain ⟨d, o, n, h1, h2, r⟩ := h
        subst h7
        exact ⟨d, o, n, by rw [← sName7, hm, sName7]; exact h1, hl _ h2, r⟩
      · rename_i h7
        rw [if_neg h7] at h
        split
        · rename_i h3
          rw [if_pos h3] at h
          exact h.mono hm hl fun dV kV ⟨T1, t0, K1, oK, mk, a, b, c, d, r⟩ => ⟨T1, t0, K1, oK, mk, a, b, hl _ c, hl _ d, r⟩
        · rename_i h3
          rw [if_neg h3] at h
          exact h.mono hm hl fun _ _ x => x

/-- the state at the top, ahead of a statement -/
structure TopSt (C : Cx) (boots : Led) (m₀ : Loc) (Pl c : Addr) (oc : Obj) (k : Nat) (m : Loc) (oP : Obj) (ts : List (Nat × Nat × Addr)) (l : Led) : Prop where
  code : CodeO c Pl (tri ts).toArray oc oP
  lines : ∀ t ∈ ts, ∃ i, i < k ∧ t.1 = (sPos i).line
  bm : BmO C m l
  facts : ∀ i < k, Fact C.prog C.w m l i
  boot : ∀ p ∈ boots, p ∈ l
  names : ∀ x, (∀ i < 27, x ≠ sName i) → m x = m₀ x
  bound : ∀ x v, m x = some v → m₀ x = some v ∨ ∃ i < 27, x = sName i
  sep : 23 ≤ k → ∃ X Y, l = X ++ Y ∧ FnAny m Y 21 noD ∧ FnAny m X 22 noD
theorem fact_fn {prog : Program} {w : World} {m : Loc} {l : Led} {i : Nat} (h : Fact prog w m l i) (hi : (nameStm i || i == 5 || i == 7 || decide (i ≤ 3)) = false) : FnAny m l i noD := by
  unfold Fact at h
  simp only [Bool.or_eq_false_iff, beq_eq_false_iff_ne, decide_eq_false_iff_not] at hi
  rw [if_neg (by rw [hi.1.1.1]; exact Bool.false_ne_true), if_neg hi.1.1.2, if_neg hi.1.2, if_neg hi.2] at h
  exact h
theorem lines_up : ∀ i < 27, ∀ j < 27, i < j → (sPos i).line < (sPos j).line := by decide +kernel
theorem no_bi : ∀ i < 27, sName i ≠ "__builtins__" := by decide +kernel

theorem TopSt.step {boots : Led} {m₀ : Loc} {Pl c : Addr} {oc oP oP' : Obj} {k : Nat} {ts ts' : List (Nat × Nat × Addr)} {v : Value} {l' : Led} (H : TopSt C boots m₀ Pl c oc k m oP ts l) (hk : k < 27)
    (code : CodeO c Pl (tri ts').toArray oc oP') (hts : ts' = ts ∨ ∃ a, ts' = ts ++ [((sPos k).line, (sPos k).col, a)]) (hl : ∀ p ∈ l, p ∈ l') (hf : Fact C.prog C.w (up m (sName k) v) l' k) (hX : ∃ X, l' = X ++ l ∧ (k = 22 → FnAny (up m (sName k) v) X 22 noD)) :
    TopSt C boots m₀ Pl c oc (k + 1) (up m (sName k) v) oP' ts' l' := by
  refine ⟨code, fun t ht => ?_, ?_, fun i hi => ?_, fun p hp => hl _ (H.boot p hp), fun x hx => ?_, fun x v' hv => ?_, fun h23 => ?_⟩
  · rcases hts with rfl | ⟨a, rfl⟩
    · obtain ⟨i, hi, e⟩ := H.lines t ht
      exact ⟨i, Nat.lt_succ_of_lt hi, e⟩
    · rcases List.mem_append.mp ht with ht | ht
      · obtain ⟨i, hi, e⟩ := H.lines t ht
        exact ⟨i, Nat.lt_succ_of_lt hi, e⟩
      · simp only [List.mem_cons, List.not_mem_nil, or_false] at ht
        subst ht
        exact ⟨k, Nat.lt_succ_self _, rfl⟩
  · obtain ⟨bm, o, b1, b2, b3, r⟩ := H.bm
    exact ⟨bm, o, by rw [up_ne (Ne.symm (no_bi k hk))]; exact b1, b2, hl _ b3, r⟩
  · rcases Nat.lt_or_eq_of_le (Nat.le_of_lt_succ hi) with hi | rfl
    · refine (H.facts i hi).mono ?_ hl
      rcases names_apart i (Nat.lt_trans hi hk) k hk with e | e | e
      · exact absurd e (Nat.ne_of_lt hi)
      · exact .inr (up_ne e)
      · exact .inl e
    · exact hf
  · rw [up_ne (hx k hk)]; exact H.names x hx
  · by_cases e : x = sName k
    · exact .inr ⟨k, hk, e⟩
    · rw [up_ne e] at hv; exact H.bound x v' hv
  · obtain ⟨X, rfl, hX⟩ := hX
    have ap : ∀ i, i = 21 ∨ i = 22 → i ≠ k → up m (sName k) v (sName i) = m (sName i) := by
      intro i hi hne
      refine up_ne ?_
      rcases names_apart i (by omega) k hk with e | e | e
      · exact absurd e hne
      · exact e
      · rcases hi with rfl | rfl
        · exact absurd e (by decide)
        · exact absurd e (by decide)
    by_cases h22 : k = 22
    · exact ⟨X, l, rfl, (fact_fn (H.facts 21 (by omega)) (by decide)).mono (ap 21 (.inl rfl) (by omega)) (fun _ h => h) (fun _ _ h => h), hX h22⟩
    · obtain ⟨X0, Y0, rfl, f1, f2⟩ := H.sep (by omega)
      exact ⟨X ++ X0, Y0, by rw [List.append_assoc], f1.mono (ap 21 (.inl rfl) (by omega)) (fun _ h => h) (fun _ _ h => h), f2.mono (ap 22 (.inr rfl) (by omega)) (fun _ h => List.mem_append_right _ h) (fun _ _ h => h)⟩

/-- after a statement of the top -/
def TopQ (C : Cx) (boots : Led) (m₀ : Loc) (Pl c : Addr) (oc : Obj) (k : Nat) (fl : Flow) (m : Loc) (l : Led) : Prop :=
  fl = .next ∧ ∃ oP ts l', Sub ((Pl, oP) :: (c, oc) :: l') l ∧ TopSt C boots m₀ Pl c oc k m oP ts l'

theorem top_def {boots : Led} {m₀ : Loc} {Pl c F : Addr} {oc oP : Obj} {k : Nat} {ts : List (Nat × Nat × Addr)} (H : TopSt C boots m₀ Pl c oc k m oP ts l) (hk : k < 27) (hL : C.L = mainGlobals) (hlow : mainGlobals < c ∧ mainGlobals < Pl)
    (e : stm k = .FunctionDef (sName k) (fParams k) (fBody k) [] none [] (fScope k) none (sName k) (sPos k))
    (h3 : (nameStm k || k == 5 || k == 7 || decide (k ≤ 3)) = false)
    (hkw : (fParams k).kwonlyargs = []) (hkd : (fParams k).kw_defaults = []) (hdf : (fParams k).defaults = []) (hann0 : annTrees (fParams k) none (mainEnv pw c F) = [])
    (hfree : ∀ x ∈ (fScope k).names, x.2 ≠ .free) (hloc : pw.main.scope.names.lookup (sName k) = some .local)
    (hq : qualnameIn { scope := pw.main.scope, locals := mainGlobals, globals := mainGlobals, cells := [] } (sName k) (sName k) = (sName k)) (hmod : pw.main.scope.kind = .module) :
    T C (exec (stm k) (mainEnv pw c F)) m ((Pl, oP) :: (c, oc) :: l) (TopQ C boots m₀ Pl c oc (k + 1)) := by
  rw [e]
  refine T_def0 hL hlow H.code (fun t ht => ?_) H.bm (fun a fo c' oc' P' oP' oPl' doc hfo hr hc' ht' hcode _ => ?_) hkw hkd hdf hann0 hfree hloc hq (no_bi k hk) hmod
  · obtain ⟨i, hi, e⟩ := H.lines t ht
    rw [e]
    exact lines_up i (Nat.lt_trans hi hk) k hk hi
  · refine ⟨rfl, oPl', _, _, .refl _, H.step hk hcode (.inr ⟨c', rfl⟩) (fun p hp => List.mem_cons_of_mem _ (List.mem_cons_of_mem _ (List.mem_cons_of_mem _ hp))) ?_ ⟨[(a, fo), (c', oc'), (P', oP')], rfl, fun e => by
      subst e
      exact ⟨a, fo, c', oc', P', oP', doc, _, .none, .none, up_same _ _ _, List.mem_cons_self, hfo, List.mem_cons_of_mem _ List.mem_cons_self, hr, List.mem_cons_of_mem _ (List.mem_cons_of_mem _ List.mem_cons_self), hc', ht', rfl, rfl⟩⟩⟩
    unfold Fact
    simp only [Bool.or_eq_false_iff, beq_eq_false_iff_ne, decide_eq_false_iff_not] at h3
    rw [if_neg (by rw [h3.1.1.1]; exact Bool.false_ne_true), if_neg h3.1.1.2, if_neg h3.1.2, if_neg h3.2]
    exact ⟨a, fo, c', oc', P', oP', doc, _, .none, .none, up_same _ _ _, List.mem_cons_self, hfo, List.mem_cons_of_mem _ List.mem_cons_self, hr, List.mem_cons_of_mem _ (List.mem_cons_of_mem _ List.mem_cons_self), hc', ht', rfl, rfl⟩

theorem top_defK {boots : Led} {m₀ : Loc} {Pl c F : Addr} {oc oP : Obj} {k : Nat} {ts : List (Nat × Nat × Addr)} (H : TopSt C boots m₀ Pl c oc k m oP ts l) (hk : k < 27) (hL : C.L = mainGlobals) (hlow : mainGlobals < c ∧ mainGlobals < Pl)
    (e : stm k = .FunctionDef (sName k) (fParams k) (fBody k) [] none [] (fScope k) none (sName k) (sPos k))
    (h3 : (!nameStm k && !(k == 5) && !(k == 7) && decide (k ≤ 3)) = true)
    {k1 k2 k3 : Nat} {p1 p2 p3 p4 : Pos} (hkw : (fParams k).kwonlyargs = [⟨"key", none, p4⟩]) (hkd : (fParams k).kw_defaults = [some (.Constant .none k3 p3)]) (hdf : (fParams k).defaults = [.Constant (.int 0) k1 p1, .Constant .none k2 p2]) (hann0 : annTrees (fParams k) none (mainEnv pw c F) = [])
    (hfree : ∀ x ∈ (fScope k).names, x.2 ≠ .free) (hloc : pw.main.scope.names.lookup (sName k) = some .local)
    (hq : qualnameIn { scope := pw.main.scope, locals := mainGlobals, globals := mainGlobals, cells := [] } (sName k) (sName k) = (sName k)) (hmod : pw.main.scope.kind = .module) :
    T C (exec (stm k) (mainEnv pw c F)) m ((Pl, oP) :: (c, oc) :: l) (TopQ C boots m₀ Pl c oc (k + 1)) := by
  rw [e]
  refine T_defK hL hlow H.code (fun t ht => ?_) H.bm (fun a fo c' oc' P' oP' oPl' doc T1 t0 K1 oK mk hfo hr hc' ht' hcode hNK hmk _ => ?_) hkw hkd hdf hann0 hfree hloc hq (no_bi k hk) hmod
  · obtain ⟨i, hi, e⟩ := H.lines t ht
    rw [e]
    exact lines_up i (Nat.lt_trans hi hk) k hk hi
  · refine ⟨rfl, oPl', _, _, .refl _, H.step hk hcode (.inr ⟨c', rfl⟩) (fun p hp => List.mem_cons_of_mem _ (List.mem_cons_of_mem _ (List.mem_cons_of_mem _ (List.mem_cons_of_mem _ (List.mem_cons_of_mem _ hp))))) ?_ ⟨[_, _, _, _, _], rfl, fun e => by subst e; exact absurd h3 (by decide)⟩⟩
    unfold Fact
    simp only [Bool.and_eq_true, Bool.not_eq_true', beq_eq_false_iff_ne, decide_eq_true_eq] at h3
    rw [if_neg (by rw [h3.1.1.1]; exact Bool.false_ne_true), if_neg h3.1.1.2, if_neg h3.1.2, if_pos h3.2]
    exact ⟨a, fo, c', oc', P', oP', doc, _, .ref T1, .ref K1, up_same _ _ _, List.mem_cons_self, hfo, List.mem_cons_of_mem _ List.mem_cons_self, hr, List.mem_cons_of_mem _ (List.mem_cons_of_mem _ List.mem_cons_self), hc', ht',
      T1, t0, K1, oK, mk, rfl, rfl, List.mem_cons_of_mem _ (List.mem_cons_of_mem _ (List.mem_cons_of_mem _ List.mem_cons_self)), List.mem_cons_of_mem _ (List.mem_cons_of_mem _ (List.mem_cons_of_mem _ (List.mem_cons_of_mem _ List.mem_cons_self))), hNK, hmk⟩
end Mine
end

section
open PySem PySem.W PySem.Calls PyProof.Rows
set_option Elab.async false
set_option maxRecDepth 100000
set_option linter.unusedVariables false
namespace Mine
variable {C : Cx} {α β : Type} {m : Loc} {l : Led} {mg mb : Loc}

theorem top_local : ∀ i < 27, pw.main.scope.names.lookup (sName i) = some .local := by decide +kernel

theorem top_name {boots : Led} {m₀ : Loc} {Pl c F : Addr} {oc oP : Obj} {k : Nat} {ts : List (Nat × Nat × Addr)} (H : TopSt C boots m₀ Pl c oc k m oP ts l) (hk : k < 27) (hL : C.L = mainGlobals)
    {p0 p1 p2 : Pos} {x : Str} {j : Nat} (e : stm k = .Assign [.Name (sName k) p0] (.Constant (.str x) j p1) p2) (h3 : nameStm k = true) (hx : (mainEnv pw c F).kindOf (sName k) = some .local) :
    T C (exec (stm k) (mainEnv pw c F)) m ((Pl, oP) :: (c, oc) :: l) (TopQ C boots m₀ Pl c oc (k + 1)) := by
  rw [e]
  refine T_Assign (T_str fun t => T_mstore hL ⟨rfl, oP, ts, l, .refl _, H.step hk H.code (.inl rfl) (fun p hp => hp) ?_ ⟨[], rfl, fun e => by subst e; exact absurd h3 (by decide)⟩⟩ hx) rfl
  unfold Fact
  rw [if_pos h3]
  trivial

theorem top_dict {boots : Led} {m₀ : Loc} {Pl c F : Addr} {oc oP : Obj} {ts : List (Nat × Nat × Addr)} (H : TopSt C boots m₀ Pl c oc 7 m oP ts l) (hL : C.L = mainGlobals) (hs : ∃ o, C.h₀.get? sysModules = some o) :
    T C (exec (stm 7) (mainEnv pw c F)) m ((Pl, oP) :: (c, oc) :: l) (TopQ C boots m₀ Pl c oc 8) := by
  have e : ∃ p0 p1 p2, stm 7 = .Assign [.Name (sName 7) p0] (.Dict dKeys dVals p1) p2 := ⟨_, _, _, rfl⟩
  obtain ⟨p0, p1, p2, e⟩ := e
  rw [e]
  with_reducible refine' T_Assign ?_ ?hs
  case hs => rfl
  with_reducible refine T_Dict hs b3D_is b3D_incr ?hn ?hz ?_
  case hn =>
    intro h0
    have := b3D_len
    rw [h0] at this
    cases this
  case hz => rw [b3D_len]; decide
  intro d o kvs hf ho
  with_reducible refine T_mstore hL ?_ ?hx
  case hx => exact top_local 7 (by decide)
  refine ⟨rfl, oP, ts, (d, o) :: l, .take (.there .here) (.take (.there .here) (.refl _)), ?_⟩
  refine H.step (by decide) H.code (.inl rfl) (fun p hp => List.mem_cons_of_mem _ hp) ?_ ⟨[(d, o)], rfl, fun e => absurd e (by decide)⟩
  unfold Fact
  rw [if_neg (by decide), if_neg (by decide), if_pos rfl]
  exact ⟨d, o, kvs, up_same _ _ _, List.mem_cons_self, hf, ho⟩

theorem top_set {boots : Led} {m₀ : Loc} {Pl c F : Addr} {oc oP : Obj} {ts : List (Nat × Nat × Addr)} (H : TopSt C boots m₀ Pl c oc 5 m oP ts l) (hL : C.L = mainGlobals) (hh : C.A.handled = none) (hb : C.h₀.Ns builtinsNs mb)
    (n1 : m₀ "set" = none) (n2 : m₀ "list" = none) (n3 : m₀ "range" = none) (b1 : mb "set" = some (.type "set")) (b2 : mb "list" = some (.type "list")) (b3 : mb "range" = some (.type "range")) :
    T C (exec (stm 5) (mainEnv pw c F)) m ((Pl, oP) :: (c, oc) :: l) (TopQ C boots m₀ Pl c oc 6) := by
  have m1 : m "set" = none := (H.names _ (by decide +kernel)).trans n1
  have m2 : m "list" = none := (H.names _ (by decide +kernel)).trans n2
  have m3 : m "range" = none := (H.names _ (by decide +kernel)).trans n3
  refine T_Assign ?_ rfl
  refine T_Call ?_
  refine T_mbuiltin hL hb m1 b1 ?_
  refine T_callWith_type ?_
  refine T_args_cons ?_
  with_reducible refine T_BinOp ?_
  with_reducible refine T_List ?_
  repeat (first | ((with_reducible refine' T_args_cons ?_ ?he); (case he => rfl)) | ((with_reducible refine' T_int ?_); intro _) | (with_reducible refine' T_args_nil ?_))
  refine T_newList (by rw [sizeLine_eq]; simp) fun d1 => ?_
  with_reducible refine T_Call ?_ ?he
  case he => rfl
  with_reducible refine T_mbuiltin hL hb m2 b2 ?_
  with_reducible refine T_callWith_type ?_ ?he ?hp
  case he => rfl
  case hp => rfl
  with_reducible refine T_args_cons ?_ ?he
  case he => rfl
  with_reducible refine T_Call ?_ ?he
  case he => rfl
  with_reducible refine T_mbuiltin hL hb m3 b3 ?_
  with_reducible refine T_callWith_type ?_ ?he ?hp
  case he => rfl
  case hp => rfl
  repeat (first | ((with_reducible refine' T_args_cons ?_ ?he); (case he => rfl)) | ((with_reducible refine' T_int ?_); intro _) | (with_reducible refine' T_args_nil ?_))
  refine T_range2 fun r t3 => ?_
  refine T_args_nil ?_
  have hr := range_small (a := 65024) (b := 65040) (by decide) (by decide) (by decide) (by decide)
  refine T_list_range hh (.inr List.mem_cons_self) hr.1 hr.2 (by decide) fun d2 ys k hys => ?_
  refine T_add_list (.inr (.tail _ (.tail _ (.head _)))) (.inr (.head _)) ?_ fun d3 => ?_
  · rw [hys.length, rangeInts_length, sizeLine_eq]; simp
  refine T_args_nil ?_
  have h27 : b1L.length = 27 := by decide
  have hi : ∀ vs, IntsAre vs [173, 847, 6150, 6155, 6156, 6157, 8203, 8204, 8205, 8288, 65279] → IntsAre (vs ++ ys) b1L := fun vs hv => IntsAre.append hv hys
  have hl : ∀ vs, IntsAre vs [173, 847, 6150, 6155, 6156, 6157, 8203, 8204, 8205, 8288, 65279] → (vs ++ ys).length = 27 := fun vs hv => by rw [(hi vs hv).length, h27]
  have hv : ∀ t1 t2 t3 t4 t5 t6 t7 t8 t9 t10 t11, IntsAre [.int 173 t1, .int 847 t2, .int 6150 t3, .int 6155 t4, .int 6156 t5, .int 6157 t6, .int 8203 t7, .int 8204 t8, .int 8205 t9, .int 8288 t10, .int 65279 t11] [173, 847, 6150, 6155, 6156, 6157, 8203, 8204, 8205, 8288, 65279] := by
    intros; repeat constructor
  refine T_set_list hh (.inr (.head _)) (hi _ (hv ..)) (by rw [hl _ (hv ..)]; decide) fun d4 o ho => ?_
  rw [hl _ (hv ..)] at ho
  refine T_mstore hL ⟨rfl, oP, ts, (d4, o) :: l, .take (.there (.there (.there (.there (.there .here))))) (.take (.there (.there (.there (.there (.there .here))))) (.consP (.drop (.drop (.drop (.drop (.refl _))))))), H.step (by decide) H.code (.inl rfl) (fun p hp => List.mem_cons_of_mem _ hp) ?_ ⟨[(d4, o)], rfl, fun e => absurd e (by decide)⟩⟩ (top_local 5 (by decide))
  unfold Fact
  rw [if_neg (by decide), if_pos rfl]
  exact ⟨d4, o, _, up_same _ _ _, List.mem_cons_self, by decide +kernel, ho⟩
end Mine
end

section
open PySem PySem.W PySem.Calls PyProof.Rows
set_option Elab.async false
set_option maxRecDepth 100000
set_option linter.unusedVariables false
namespace Mine
variable {C : Cx} {α β : Type} {m : Loc} {l : Led} {mg mb : Loc}

theorem top_cons {env : Env} {st : Stmt} {rest : List Stmt} {boots : Led} {m₀ : Loc} {Pl c : Addr} {oc : Obj} {k : Nat} {Q : Flow → Loc → Led → Prop} (h : T C (exec st env) m l (TopQ C boots m₀ Pl c oc k))
    (next : ∀ m' oP ts l', TopSt C boots m₀ Pl c oc k m' oP ts l' → T C (execs rest env) m' ((Pl, oP) :: (c, oc) :: l') Q) : T C (execs (st :: rest) env) m l Q := by
  refine T_cons (h.mono fun fl m' l' hq => ?_)
  obtain ⟨rfl, oP, ts, l'', hs, H⟩ := hq
  exact (next m' oP ts l'' H).less hs

theorem q_ok : ∀ i < 27, nameStm i = true ∨ i = 5 ∨ i = 7 ∨ qualnameIn { scope := pw.main.scope, locals := mainGlobals, globals := mainGlobals, cells := [] } (sName i) (sName i) = (sName i) := by decide +kernel
theorem free_ok : ∀ i < 27, ((fScope i).names.all fun x => x.2 != .free) = true := by decide +kernel
theorem free_ok' (i : Nat) (h : i < 27) : ∀ x ∈ (fScope i).names, x.2 ≠ .free := fun x hx => by
  have := List.all_eq_true.mp (free_ok i h) x hx
  simpa using this

theorem top_def' {rest : List Stmt} {boots : Led} {m₀ : Loc} {Pl c F : Addr} {oc oP : Obj} {k : Nat} {ts : List (Nat × Nat × Addr)} {Q : Flow → Loc → Led → Prop} (H : TopSt C boots m₀ Pl c oc k m oP ts l) (hk : k < 27) (hL : C.L = mainGlobals) (hlow : mainGlobals < c ∧ mainGlobals < Pl)
    (e : stm k = .FunctionDef (sName k) (fParams k) (fBody k) [] none [] (fScope k) none (sName k) (sPos k))
    (h3 : (nameStm k || k == 5 || k == 7 || decide (k ≤ 3)) = false)
    (hkw : (fParams k).kwonlyargs = []) (hkd : (fParams k).kw_defaults = []) (hdf : (fParams k).defaults = []) (hann0 : annTrees (fParams k) none (mainEnv pw c F) = [])
    (next : ∀ m' oP ts l', TopSt C boots m₀ Pl c oc (k + 1) m' oP ts l' → T C (execs rest (mainEnv pw c F)) m' ((Pl, oP) :: (c, oc) :: l') Q) : T C (execs (stm k :: rest) (mainEnv pw c F)) m ((Pl, oP) :: (c, oc) :: l) Q :=
  top_cons (top_def H hk hL hlow e h3 hkw hkd hdf hann0 (free_ok' k hk) (top_local k hk) (by
    simp only [Bool.or_eq_false_iff, beq_eq_false_iff_ne] at h3
    rcases q_ok k hk with q | q | q | q
    · rw [q] at h3; exact absurd h3.1.1.1 (by decide)
    · exact absurd q h3.1.1.2
    · exact absurd q h3.1.2
    · exact q) rfl) next

theorem top_all {boots : Led} {m₀ : Loc} {Pl c F : Addr} {oc oP : Obj} {ts : List (Nat × Nat × Addr)} (H : TopSt C boots m₀ Pl c oc 0 m oP ts l) (hL : C.L = mainGlobals) (hlow : mainGlobals < c ∧ mainGlobals < Pl) (hh : C.A.handled = none) (hb : C.h₀.Ns builtinsNs mb)
    (n1 : m₀ "set" = none) (n2 : m₀ "list" = none) (n3 : m₀ "range" = none) (b1 : mb "set" = some (.type "set")) (b2 : mb "list" = some (.type "list")) (b3 : mb "range" = some (.type "range")) (hs : ∃ o, C.h₀.get? sysModules = some o) :
    T C (execs pw.main.body (mainEnv pw c F)) m ((Pl, oP) :: (c, oc) :: l) (TopQ C boots m₀ Pl c oc 27) := by
  rw [body_is]
  with_reducible refine top_cons (boots := boots) (m₀ := m₀) (Pl := Pl) (c := c) (oc := oc) (k := 1) (?st0) ?_
  case st0 => exact top_name (k := 0) H (by decide) hL rfl rfl (top_local 0 (by decide))
  intro m oP ts l H
  with_reducible refine top_cons (boots := boots) (m₀ := m₀) (Pl := Pl) (c := c) (oc := oc) (k := 2) (?st1) ?_
  case st1 => exact top_defK (k := 1) H (by decide) hL hlow rfl rfl rfl rfl rfl rfl (free_ok' _ (by decide)) (top_local _ (by decide)) (((q_ok 1 (by decide)).resolve_left (by decide)).elim (fun h => absurd h (by decide)) fun h => h.elim (fun h => absurd h (by decide)) id) rfl
  intro m oP ts l H
  with_reducible refine top_cons (boots := boots) (m₀ := m₀) (Pl := Pl) (c := c) (oc := oc) (k := 3) (?st2) ?_
  case st2 => exact top_defK (k := 2) H (by decide) hL hlow rfl rfl rfl rfl rfl rfl (free_ok' _ (by decide)) (top_local _ (by decide)) (((q_ok 2 (by decide)).resolve_left (by decide)).elim (fun h => absurd h (by decide)) fun h => h.elim (fun h => absurd h (by decide)) id) rfl
  intro m oP ts l H
  with_reducible refine top_cons (boots := boots) (m₀ := m₀) (Pl := Pl) (c := c) (oc := oc) (k := 4) (?st3) ?_
  case st3 => exact top_defK (k := 3) H (by decide) hL hlow rfl rfl rfl rfl rfl rfl (free_ok' _ (by decide)) (top_local _ (by decide)) (((q_ok 3 (by decide)).resolve_left (by decide)).elim (fun h => absurd h (by decide)) fun h => h.elim (fun h => absurd h (by decide)) id) rfl
  intro m oP ts l H
  with_reducible refine top_cons (boots := boots) (m₀ := m₀) (Pl := Pl) (c := c) (oc := oc) (k := 5) (?st4) ?_
  case st4 => exact top_name (k := 4) H (by decide) hL rfl rfl (top_local 4 (by decide))
  intro m oP ts l H
  with_reducible refine top_cons (boots := boots) (m₀ := m₀) (Pl := Pl) (c := c) (oc := oc) (k := 6) (?st5) ?_
  case st5 => exact top_set H hL hh hb n1 n2 n3 b1 b2 b3
  intro m oP ts l H
  with_reducible refine top_def' (k := 6) H ?a1 hL hlow ?a2 ?a3 ?a4 ?a5 ?a6 ?a7 ?_
  case a1 => decide
  case a2 => rfl
  case a3 => rfl
  case a4 => rfl
  case a5 => rfl
  case a6 => rfl
  case a7 => rfl
  intro m oP ts l H
  have H7 : TopSt C boots m₀ Pl c oc 7 m oP ts l := H
  have h7 : T C (exec (stm 7) (mainEnv pw c F)) m ((Pl, oP) :: (c, oc) :: l) (TopQ C boots m₀ Pl c oc 8) := by with_reducible exact top_dict H7 hL hs
  with_reducible refine top_cons h7 ?_
  intro m oP ts l H
  with_reducible refine top_def' (k := 8) H ?a1 hL hlow ?a2 ?a3 ?a4 ?a5 ?a6 ?a7 ?_
  case a1 => decide
  case a2 => rfl
  case a3 => rfl
  case a4 => rfl
  case a5 => rfl
  case a6 => rfl
  case a7 => rfl
  intro m oP ts l H
  with_reducible refine top_cons (boots := boots) (m₀ := m₀) (Pl := Pl) (c := c) (oc := oc) (k := 10) (?st9) ?_
  case st9 => exact top_name (k := 9) H (by decide) hL rfl rfl (top_local 9 (by decide))
  intro m oP ts l H
  with_reducible refine top_def' (k := 10) H ?a1 hL hlow ?a2 ?a3 ?a4 ?a5 ?a6 ?a7 ?_
  case a1 => decide
  case a2 => rfl
  case a3 => rfl
  case a4 => rfl
  case a5 => rfl
  case a6 => rfl
  case a7 => rfl
  intro m oP ts l H
  with_reducible refine top_def' (k := 11) H ?a1 hL hlow ?a2 ?a3 ?a4 ?a5 ?a6 ?a7 ?_
  case a1 => decide
  case a2 => rfl
  case a3 => rfl
  case a4 => rfl
  case a5 => rfl
  case a6 => rfl
  case a7 => rfl
  intro m oP ts l H
  with_reducible refine top_def' (k := 12) H ?a1 hL hlow ?a2 ?a3 ?a4 ?a5 ?a6 ?a7 ?_
  case a1 => decide
  case a2 => rfl
  case a3 => rfl
  case a4 => rfl
  case a5 => rfl
  case a6 => rfl
  case a7 => rfl
  intro m oP ts l H
  with_reducible refine top_def' (k := 13) H ?a1 hL hlow ?a2 ?a3 ?a4 ?a5 ?a6 ?a7 ?_
  case a1 => decide
  case a2 => rfl
  case a3 => rfl
  case a4 => rfl
  case a5 => rfl
  case a6 => rfl
  case a7 => rfl
  intro m oP ts l H
  with_reducible refine top_def' (k := 14) H ?a1 hL hlow ?a2 ?a3 ?a4 ?a5 ?a6 ?a7 ?_
  case a1 => decide
  case a2 => rfl
  case a3 => rfl
  case a4 => rfl
  case a5 => rfl
  case a6 => rfl
  case a7 => rfl
  intro m oP ts l H
  with_reducible refine top_def' (k := 15) H ?a1 hL hlow ?a2 ?a3 ?a4 ?a5 ?a6 ?a7 ?_
  case a1 => decide
  case a2 => rfl
  case a3 => rfl
  case a4 => rfl
  case a5 => rfl
  case a6 => rfl
  case a7 => rfl
  intro m oP ts l H
  with_reducible refine top_cons (boots := boots) (m₀ := m₀) (Pl := Pl) (c := c) (oc := oc) (k := 17) (?st16) ?_
  case st16 => exact top_name (k := 16) H (by decide) hL rfl rfl (top_local 16 (by decide))
  intro m oP ts l H
  with_reducible refine top_def' (k := 17) H ?a1 hL hlow ?a2 ?a3 ?a4 ?a5 ?a6 ?a7 ?_
  case a1 => decide
  case a2 => rfl
  case a3 => rfl
  case a4 => rfl
  case a5 => rfl
  case a6 => rfl
  case a7 => rfl
  intro m oP ts l H
  with_reducible refine top_def' (k := 18) H ?a1 hL hlow ?a2 ?a3 ?a4 ?a5 ?a6 ?a7 ?_
  case a1 => decide
  case a2 => rfl
  case a3 => rfl
  case a4 => rfl
  case a5 => rfl
  case a6 => rfl
  case a7 => rfl
  intro m oP ts l H
  with_reducible refine top_def' (k := 19) H ?a1 hL hlow ?a2 ?a3 ?a4 ?a5 ?a6 ?a7 ?_
  case a1 => decide
  case a2 => rfl
  case a3 => rfl
  case a4 => rfl
  case a5 => rfl
  case a6 => rfl
  case a7 => rfl
  intro m oP ts l H
  with_reducible refine top_def' (k := 20) H ?a1 hL hlow ?a2 ?a3 ?a4 ?a5 ?a6 ?a7 ?_
  case a1 => decide
  case a2 => rfl
  case a3 => rfl
  case a4 => rfl
  case a5 => rfl
  case a6 => rfl
  case a7 => rfl
  intro m oP ts l H
  with_reducible refine top_def' (k := 21) H ?a1 hL hlow ?a2 ?a3 ?a4 ?a5 ?a6 ?a7 ?_
  case a1 => decide
  case a2 => rfl
  case a3 => rfl
  case a4 => rfl
  case a5 => rfl
  case a6 => rfl
  case a7 => rfl
  intro m oP ts l H
  with_reducible refine top_def' (k := 22) H ?a1 hL hlow ?a2 ?a3 ?a4 ?a5 ?a6 ?a7 ?_
  case a1 => decide
  case a2 => rfl
  case a3 => rfl
  case a4 => rfl
  case a5 => rfl
  case a6 => rfl
  case a7 => rfl
  intro m oP ts l H
  with_reducible refine top_def' (k := 23) H ?a1 hL hlow ?a2 ?a3 ?a4 ?a5 ?a6 ?a7 ?_
  case a1 => decide
  case a2 => rfl
  case a3 => rfl
  case a4 => rfl
  case a5 => rfl
  case a6 => rfl
  case a7 => rfl
  intro m oP ts l H
  with_reducible refine top_def' (k := 24) H ?a1 hL hlow ?a2 ?a3 ?a4 ?a5 ?a6 ?a7 ?_
  case a1 => decide
  case a2 => rfl
  case a3 => rfl
  case a4 => rfl
  case a5 => rfl
  case a6 => rfl
  case a7 => rfl
  intro m oP ts l H
  with_reducible refine top_def' (k := 25) H ?a1 hL hlow ?a2 ?a3 ?a4 ?a5 ?a6 ?a7 ?_
  case a1 => decide
  case a2 => rfl
  case a3 => rfl
  case a4 => rfl
  case a5 => rfl
  case a6 => rfl
  case a7 => rfl
  intro m oP ts l H
  with_reducible refine top_def' (k := 26) H ?a1 hL hlow ?a2 ?a3 ?a4 ?a5 ?a6 ?a7 ?_
  case a1 => decide
  case a2 => rfl
  case a3 => rfl
  case a4 => rfl
  case a5 => rfl
  case a6 => rfl
  case a7 => rfl
  intro m oP ts l H
  exact T_nil ⟨rfl, oP, ts, l, .refl _, H⟩
end Mine
end

section
open PySem PySem.W PySem.Calls PyProof.Rows
set_option Elab.async false
set_option maxRecDepth 100000
set_option linter.unusedVariables false
namespace Mine

theorem step_done {den : Code → Sem Fin} {p : Program} {w : World} {s s' : Shared} {t : Thread} {f : Flow} (h : step den p w s t = .halt (.done f) s') : through t = true ∧ s' = s := by
  obtain ⟨heap, gens, drawn, toks, os⟩ := s
  obtain ⟨cur, code, pos, stack⟩ := t
  cases cur with
  | pure fin =>
    cases fin with
    | again c => cases h
    | done f' =>
      cases stack with
      | nil =>
        have h : finish (.done f') ⟨heap, gens, drawn, toks, os⟩ = .halt (.done f) s' := h
        unfold finish at h
        split at h
        · cases h
        · cases h
          exact ⟨rfl, rfl⟩
      | cons fr rest => cases fr <;> cases h
  | raise e =>
    cases stack with
    | nil =>
      have h : finish (.uncaught e) ⟨heap, gens, drawn, toks, os⟩ = .halt (.done f) s' := h
      unfold finish at h
      split at h <;> cases h
    | cons fr rest => cases fr <;> cases h
  | _ => first | (cases h; done) | (unfold step at h; dsimp only at h; split at h <;> cases h) | (unfold step at h; dsimp only at h; (repeat' split at h) <;> cases h)

theorem runs_through {den : Code → Sem Fin} {p : Program} {w : World} {f : Flow} {s'' : Shared} : ∀ (n : Nat) (s : Shared) (t : Thread), s.asleep → PySem.runN den p w n s t = .halted (.done f) s'' → (∀ k s₁ t₁, PySem.runN den p w k s t = .running s₁ t₁ → t₁.calm = true) →
    ∃ m t₁, schedN den p w m (.single s t) = .running (.single s'' t₁) ∧ through t₁ = true
  | 0, s, t, _, h, _ => by simp [PySem.runN] at h
  | n + 1, s, t, hs, h, hc => by
    unfold PySem.runN at h
    cases hk : step den p w s t with
    | halt o s' =>
      rw [hk] at h
      injection h with e1 e2
      subst e1 e2
      obtain ⟨h1, h2⟩ := step_done hk
      subst h2
      exact ⟨0, t, rfl, h1⟩
    | go s' t' =>
      rw [hk] at h
      have hl := step_life den p w s s' t t' hk
      have hcalm : t.calm = true := hc 0 s t rfl
      obtain ⟨m, t₁, hm, ht⟩ := runs_through n s' t' (Shared.asleep_of_life hl hs) h fun k s₁ t₁ e => hc (k + 1) s₁ t₁ (by simp only [PySem.runN, hk]; exact e)
      have e : sstep den p w (.single s t) = .go (.single s' t') := by
        rcases sstep_single den p w s t hcalm hs with e | e
        · rw [e, hk]; rfl
        · rw [hk] at e; cases e
      exact ⟨m + 1, t₁, by simp only [schedN, e]; exact hm, ht⟩

theorem thread_through {prog : Program} {w : World} {t : Sem Fin} {s : Shared} {R : Shared → Prop} (hs : s.asleep)
    (h : wpAny (model prog w) callerA t (fun fin s' => ∃ f, fin = .done f ∧ R s' ∧ leftWithCleanup s'.gens = false) (fun _ _ => False) s) :
    ∃ s' s'', (∃ m t₁, schedN (denote table) prog w m (.single s ⟨t, .builtin "claim.caller" {}, default, []⟩) = .running (.single s' t₁) ∧ through t₁ = true) ∧ s'.heap.life = s.heap.life ∧ s'.forget = s''.forget ∧ R s'' := by
  have h1 := wp_of_wpAny_done (R := fun r s' => ((∃ f, r = .ok f) ∧ R s') ∧ leftWithCleanup s'.gens = false) caller_in (wpAny_mono h (by
    rintro fin s' ⟨f, e, h1, h2⟩
    exact ⟨f, e, ⟨⟨f, rfl⟩, h1⟩, h2⟩) (fun _ _ h => h.elim)) (default : Pos)
  obtain ⟨n, r, s', hn, ⟨f, rfl⟩, hR⟩ := (wp_iff_halts (M := model prog w) t (fun r s' => (∃ f, r = .ok f) ∧ R s') default s).mp h1
  obtain ⟨s'', hr, hf, hc⟩ := runNI_real (model prog w).den (model prog w).prog (model prog w).w hn (outcomeOf_ends _)
  obtain ⟨m, t₁, hm, ht⟩ := runs_through n s _ hs hr hc
  exact ⟨s'', s', ⟨m, t₁, hm, ht⟩, runN_life _ _ _ hr, hf, hR⟩
end Mine
end

section
open PySem PySem.W PySem.Calls PyProof.Rows
set_option Elab.async false
set_option maxRecDepth 100000
set_option linter.unusedVariables false
namespace Mine

noncomputable def boots (P : Params) : Led := [(4, boot_o_4 P), (5, boot_o_5 P), (6, boot_o_6 P), (7, boot_o_7 P), (8, boot_o_8 P), (9, boot_o_9 P), (10, boot_o_10 P)]
noncomputable def base0 (P : Params) : Heap := ⟨#[boot_o_0 P, boot_o_1 P, boot_o_2 P], (boot_heap P).life⟩
noncomputable def m00 (P : Params) : Loc := (boot_heap P).nsMap mainGlobals
noncomputable def mb0 (P : Params) : Loc := (base0 P).nsMap builtinsNs
theorem isNs3 (P : Params) : (boot_heap P).isNs mainGlobals = true := by kernel_rfl
theorem isNs0 (P : Params) : (base0 P).isNs builtinsNs = true := by kernel_rfl
theorem base_keeps (P : Params) : ∀ b o, (base0 P).get? b = some o → (boot_heap P).get? b = some o
  | 0, o, h => h
  | 1, o, h => h
  | 2, o, h => h
  | b + 3, o, h => by
    have : (base0 P).get? (b + 3) = none := Heap.get?_none_of_le (Nat.le_add_left 3 b)
    rw [this] at h; cases h
theorem okk0 (P : Params) : Okk (base0 P) mainGlobals (boot_heap P) (m00 P) (boots P) := by
  refine ⟨⟨.of_isNs (isNs3 P), base_keeps P, Nat.le_refl 3⟩, fun p hp => ?_, by show [4, 5, 6, 7, 8, 9, 10].Nodup; decide⟩
  simp only [boots, List.mem_cons, List.not_mem_nil, or_false] at hp
  rcases hp with rfl | rfl | rfl | rfl | rfl | rfl | rfl
  · exact ⟨rfl, (by decide : (4 : Nat) ≠ 3), rfl⟩
  · exact ⟨rfl, (by decide : (5 : Nat) ≠ 3), rfl⟩
  · exact ⟨rfl, (by decide : (6 : Nat) ≠ 3), rfl⟩
  · exact ⟨rfl, (by decide : (7 : Nat) ≠ 3), rfl⟩
  · exact ⟨rfl, (by decide : (8 : Nat) ≠ 3), rfl⟩
  · exact ⟨rfl, (by decide : (9 : Nat) ≠ 3), rfl⟩
  · exact ⟨rfl, (by decide : (10 : Nat) ≠ 3), rfl⟩

/-- what the top leaves -/
structure Left (w : World) (s₀ s' : Shared) : Prop where
  gens : s'.gens = s₀.gens
  os : s'.os = s₀.os
  st : ∃ m l, Okk (base0 w.params) mainGlobals s'.heap m l ∧ (∀ i < 27, Fact pw w m l i) ∧ (∀ p ∈ boots w.params, p ∈ l) ∧ BmO ⟨pw, w, callerA, base0 w.params, mainGlobals⟩ m l ∧
    (∀ x, (∀ i < 27, x ≠ sName i) → m x = m00 w.params x) ∧ (∀ x v, m x = some v → m00 w.params x = some v ∨ ∃ i < 27, x = sName i) ∧ (∃ X Y, l = X ++ Y ∧ FnAny m Y 21 noD ∧ FnAny m X 22 noD)

theorem wpAny_moduleCode' {M : Model} {A : Around} {E : Value → Shared → Prop} {s : Shared} {m : Module} {Q : Value → Shared → Prop}
    (hQ : ∀ c P h' tk, (∀ b o, s.heap.get? b = some o → h'.get? b = some o) → s.heap.objs.size ≤ c → s.heap.objs.size ≤ P → h'.IsCode c P #[] → Q (.ref c) { s with heap := h', toks := tk }) : wpAny M A (moduleCode m) Q E s := wpAny_moduleCode hQ

theorem m00_bm (P : Params) : m00 P "__builtins__" = some (.ref 4) := rfl
theorem m00_set (P : Params) : m00 P "set" = none := by kernel_rfl
theorem m00_list (P : Params) : m00 P "list" = none := by kernel_rfl
theorem m00_range (P : Params) : m00 P "range" = none := by kernel_rfl
theorem mb0_set (P : Params) : mb0 P "set" = some (.type "set") := by kernel_rfl
theorem mb0_list (P : Params) : mb0 P "list" = some (.type "list") := by kernel_rfl
theorem mb0_range (P : Params) : mb0 P "range" = some (.type "range") := by kernel_rfl
theorem behind_is : behindTheImports pw = pw.main.body := rfl
theorem topStub_is : topStub pw = ⟨do let code ← moduleCode pw.main
                                      let frame ← newBodyFrame code mainNs mainNs
                                      let _ ← run (.body pw.main.body { scope := pw.main.scope, locals := mainNs, globals := mainNs, cells := [], code, frame := some frame })
                                      ret .none, .builtin "claim.caller" {}, default, []⟩ := rfl

theorem top_wp (w : World) (s₀ : Shared) (hh : s₀.heap = boot_heap w.params) (hg : s₀.gens = #[]) :
    wpAny (model pw w) callerA (topStub pw).cur (fun fin s' => ∃ f, fin = .done f ∧ Left w s₀ s' ∧ leftWithCleanup s'.gens = false) (fun _ _ => False) s₀ := by
  rw [topStub_is]
  dsimp only
  have O0 : Okk (base0 w.params) mainGlobals s₀.heap (m00 w.params) (boots w.params) := hh ▸ okk0 w.params
  refine wpAny_bind (wpAny_moduleCode' fun c Pl h1 tk1 hk hc hPl hcode => ?_)
  obtain ⟨oc, oP, e1, e2, X, ⟨_, d1⟩, ⟨_, d2⟩, hne⟩ := codeO_of hcode
  have O1 : Okk (base0 w.params) mainGlobals h1 (m00 w.params) (((4, boot_o_4 w.params) :: (boots w.params).tail) ++ [(Pl, oP), (c, oc)]) := by
    refine Okk.more (oP' := boot_o_4 w.params) O0 (Rep.here (a := 4) (o := boot_o_4 w.params) (l := (boots w.params).tail)) (O0.fr.ns.keeps hk) (fun b o _ _ e => hk b o e) (hk _ _ (O0.nw (4, boot_o_4 w.params) List.mem_cons_self).1) _ (fun p hp => ?_) ?_
    · simp only [List.mem_cons, List.not_mem_nil, or_false] at hp
      rcases hp with rfl | rfl
      · exact ⟨e2, hPl⟩
      · exact ⟨e1, hc⟩
    · simpa using Ne.symm hne
  have O2 : Okk (base0 w.params) mainGlobals h1 (m00 w.params) ((Pl, oP) :: (c, oc) :: boots w.params) := O1.less ⟨_, List.perm_append_comm, .refl _⟩
  have hlow : mainGlobals < c ∧ mainGlobals < Pl := ⟨Nat.lt_of_lt_of_le O0.fr.ns.lt hc, Nat.lt_of_lt_of_le O0.fr.ns.lt hPl⟩
  unfold newBodyFrame
  refine wpAny_bind (wpAny_bind (wpAny_nsGet (a := mainGlobals) O2.fr.ns (wpAny_alloc ?_)))
  refine wpAny_bind (wpAny_run (codeAny_body rfl rfl ?_))
  have O3 := (O2.grown (h' := h1.push { cls := .type "frame", slots := #[some (.ref c), some (.ref mainGlobals), some (.ref mainGlobals), none, some ((m00 w.params "__name__").getD .none), none, some (.ref builtinsNs)] }) fun _ _ e => Heap.get?_push_of_some _ e)
  have TS : TopSt ⟨pw, w, (callerA.mark none).deeper (mainEnv pw c h1.objs.size), base0 w.params, mainGlobals⟩ (boots w.params) (m00 w.params) Pl c oc 0 (m00 w.params) oP [] (boots w.params) := by
    refine ⟨X, fun t ht => ?_, ⟨4, boot_o_4 w.params, m00_bm _, (by decide : (4 : Nat) ≠ 0), List.mem_cons_self, rfl, rfl, rfl⟩, fun i hi => absurd hi (Nat.not_lt_zero _), fun p hp => hp, fun _ _ => rfl, fun x v h => .inl h, fun h => absurd h (by decide)⟩
    cases ht
  have key : T ⟨pw, w, (callerA.mark none).deeper (mainEnv pw c h1.objs.size), base0 w.params, mainGlobals⟩ (execs pw.main.body (mainEnv pw c h1.objs.size)) (m00 w.params) ((Pl, oP) :: (c, oc) :: boots w.params) (TopQ ⟨pw, w, (callerA.mark none).deeper (mainEnv pw c h1.objs.size), base0 w.params, mainGlobals⟩ (boots w.params) (m00 w.params) Pl c oc 27) := by
    with_reducible refine top_all (mb := mb0 w.params) TS ?a1 hlow ?a2 (Heap.Ns.of_isNs (isNs0 _)) ?a3 ?a4 ?a5 ?a6 ?a7 ?a8 ?a9
    case a1 => rfl
    case a2 => rfl
    case a3 => exact m00_set _
    case a4 => exact m00_list _
    case a5 => exact m00_range _
    case a6 => exact mb0_set _
    case a7 => exact mb0_list _
    case a8 => exact mb0_range _
    case a9 => exact ⟨_, rfl⟩
  refine key _ _ _ O3 ?_
  rintro fl h2 tk2 m2 l2 ⟨rfl, oP', ts', l3, hs, H⟩ O4
  refine wpAny_pure ⟨_, rfl, ⟨rfl, rfl, m2, l3, (O4.less hs).sub ((List.sublist_cons_self _ _).trans (List.sublist_cons_self _ _)), H.facts, H.boot, H.bm, H.names, H.bound, H.sep (by decide)⟩, ?_⟩
  show leftWithCleanup s₀.gens = false
  rw [hg]
  kernel_rfl

theorem opening_is : opening pw = plainProg pw.main.scope.names := rfl
theorem fence_is (s : Shared) : fenceModules? pw s = some s := rfl

/-- the whole top -/
theorem head (w : World) : (∃ s, AfterRun (opening pw) w s) ∧ ∀ s, AfterRun (opening pw) w s → ∃ s₀, fenceModules? pw s = some s₀ ∧ s₀.gens = #[] ∧ s₀.heap = boot_heap w.params ∧ s₀.asleep ∧
    ∃ s₁ s₂, (∃ n t, schedN (denote table) pw w n (.single s₀ (topStub pw)) = .running (.single s₁ t) ∧ through t = true) ∧ s₁.heap.life = s₀.heap.life ∧ s₁.forget = s₂.forget ∧ Left w s₀ s₂ := by
  have b := boot_open (p := pw) (N := 600) opening_is rfl fence_is w
  rw [← table_eq_tree] at b
  obtain ⟨s₀, h1, e⟩ := Option.map_eq_some_iff.mp b
  obtain ⟨s, h4, h5⟩ := Option.bind_eq_some_iff.mp h1
  have A := AfterImport.of_importEnds h4
  refine ⟨⟨s, A⟩, fun s' hs' => ?_⟩
  obtain rfl : s' = s := AfterImport.unique hs' A
  have z : s₀.asleep := Shared.asleep_of_life (fence_lifeW h5) A.life
  obtain ⟨e1, e2⟩ := Prod.mk.inj e
  obtain ⟨e2, e3⟩ := Prod.mk.inj e2
  obtain ⟨s₁, s₂, hrun, hl, hf, hL⟩ := thread_through (prog := pw) (w := w) (R := Left w s₀) z (top_wp w s₀ e1 e2)
  exact ⟨s₀, h5, e2, e1, z, s₁, s₂, hrun, hl, hf, hL⟩
end Mine
end

section
open PySem PySem.W PySem.Calls PyProof.Rows
set_option Elab.async false
set_option maxRecDepth 100000
set_option linter.unusedVariables false
namespace Mine

theorem bltOk (P : Params) : (base0 P).bltView = bltViewBooted := by kernel_rfl
theorem keys3 (P : Params) : ((boot_heap P).nsKeys mainGlobals).all (fun k => startupNames.contains k) = true := by kernel_rfl
theorem names_bound : ∀ i < 27, pw.boundNames.contains (sName i) = true := by decide +kernel
theorem laid_apart : ∀ x ∈ laidNames, ∀ i < 27, x ≠ sName i := by decide +kernel
theorem imported_is : importedModules pw.main.body = [] := rfl
theorem boot_none (P : Params) (b : Nat) (h : 11 ≤ b) : (boot_heap P).get? b = none := Heap.get?_none_of_le h

theorem topRan {w : World} {s₀ s₁ s₂ : Shared} (hh : s₀.heap = boot_heap w.params) (hg : s₀.gens = #[]) (run : ∃ n t, schedN (denote table) pw w n (.single s₀ (topStub pw)) = .running (.single s₁ t) ∧ through t = true) (hl : s₁.heap.life = s₀.heap.life)
    (hf : s₁.forget = s₂.forget) (L : Left w s₀ s₂) : TopRan pw w s₀ s₁ ∧ Left w s₀ s₁ := by
  obtain rfl : s₁ = s₂ := Shared.eq_of_forget_eq hf (L.gens.trans hg)
  have L' := L
  refine ⟨?_, L'⟩
  obtain ⟨m, l, O, facts, hb, hbm, hn, hbd, _⟩ := L'.st
  have g2 : s₁.heap.get? cStatics = some (boot_o_2 w.params) := O.fr.keep 2 _ rfl
  have st1 : ∀ k, staticOf s₁.heap k = none := fun k => by unfold staticOf; rw [g2]; rfl
  have st0 : ∀ k, staticOf s₀.heap k = none := fun k => by rw [hh]; rfl
  have ns1 : ∀ x, globalOf s₁.heap x = m x := fun x => PySem.Claim2Try.globalOf_of_ns O.fr.ns x
  have ns0 : ∀ x, globalOf s₀.heap x = m00 w.params x := fun x => by rw [hh]; exact PySem.Claim2Try.globalOf_of_ns (.of_isNs (isNs3 _)) x
  refine ⟨run, hl, Shared.rest_eq L'.os, ?_, ?_, ?_, ?_, ?_, ?_, ?_, ?_, ?_⟩
  · intro b o e hn
    rw [hh] at e
    match b, e, hn with
    | 0, e, _ => exact O.fr.keep 0 o e
    | 1, e, _ => exact O.fr.keep 1 o e
    | 2, e, _ => exact O.fr.keep 2 o e
    | 3, e, hn => exact absurd (.inl rfl) hn
    | 4, e, _ => exact (Option.some.inj e) ▸ (O.nw _ (hb (4, boot_o_4 w.params) (by simp [boots]))).1
    | 5, e, _ => exact (Option.some.inj e) ▸ (O.nw _ (hb (5, boot_o_5 w.params) (by simp [boots]))).1
    | 6, e, _ => exact (Option.some.inj e) ▸ (O.nw _ (hb (6, boot_o_6 w.params) (by simp [boots]))).1
    | 7, e, _ => exact (Option.some.inj e) ▸ (O.nw _ (hb (7, boot_o_7 w.params) (by simp [boots]))).1
    | 8, e, _ => exact (Option.some.inj e) ▸ (O.nw _ (hb (8, boot_o_8 w.params) (by simp [boots]))).1
    | 9, e, _ => exact (Option.some.inj e) ▸ (O.nw _ (hb (9, boot_o_9 w.params) (by simp [boots]))).1
    | 10, e, _ => exact (Option.some.inj e) ▸ (O.nw _ (hb (10, boot_o_10 w.params) (by simp [boots]))).1
    | b + 11, e, _ => rw [boot_none _ _ (Nat.le_add_left 11 b)] at e; cases e
  · intro k v hv; rw [st1] at hv; cases hv
  · intro k; exact .inl ((st1 k).trans (st0 k).symm)
  · obtain ⟨o, es, ep, ho, hd, hk, _⟩ := O.fr.ns
    exact ⟨o, es, ep, ho, hd, fun e he => let ⟨n, t, h⟩ := hk e he; ⟨n, t, h⟩⟩
  · intro x hx
    have e0 : s₁.heap.get? builtinsNs = (base0 w.params).get? builtinsNs := O.fr.keep 0 _ rfl
    have e1 : builtinOf s₁.heap x = builtinOf (base0 w.params) x := by unfold builtinOf; rw [e0]
    rw [e1]
    exact (Pin.builtinOf_eq (isNs0 _) x).trans (Heap.of_bltView (isNs0 _) (bltOk _) x hx)
  · obtain ⟨bm, ob, b1, _, b3, b4, b5, _⟩ := hbm
    exact ⟨bm, ob, (ns1 _).trans b1, (O.nw _ b3).1, b4, b5⟩
  · intro g hgm
    rw [L'.gens, hg] at hgm
    simp at hgm
  · intro x v hv
    rw [ns1] at hv
    rcases hbd x v hv with h | ⟨i, hi, rfl⟩
    · left
      by_cases hk : x ∈ (boot_heap w.params).nsKeys mainGlobals
      · exact List.contains_iff_mem.mp (List.all_eq_true.mp (keys3 w.params) x hk)
      · have : m00 w.params x = none := Heap.nsMap_none hk
        rw [this] at h; cases h
    · exact .inr (List.contains_iff_mem.mp (names_bound i hi))
  · intro x hx
    rw [ns1, ns0]
    exact hn x (laid_apart x hx)
end Mine
end

section
open PySem PySem.W PySem.Calls PyProof.Rows
set_option Elab.async false
set_option maxRecDepth 100000
set_option linter.unusedVariables false
namespace Mine
variable {C : Cx} {α β : Type} {m : Loc} {l : Led} {mg mb : Loc}

def repL (c : Nat) (z : List Nat) (x : List Nat) : List Nat := x.flatMap fun k => if k = c then z else [k]
theorem repL_free (c : Nat) (z : List Nat) : ∀ x : List Nat, c ∉ x → repL c z x = x
  | [], _ => rfl
  | k :: r, h => by
    have h1 : ¬ k = c := fun e => h (e ▸ List.mem_cons_self ..)
    have ih := repL_free c z r fun m => h (List.mem_cons_of_mem _ m)
    unfold repL at ih ⊢
    rw [List.flatMap_cons, if_neg h1, ih]
    rfl
theorem repL_append (c : Nat) (z a b : List Nat) : repL c z (a ++ b) = repL c z a ++ repL c z b := List.flatMap_append
theorem rep_join (c : Nat) (z : Str) : ∀ parts : List Str, (∀ p ∈ parts, c ∉ p.cps.toList) → repL c z.cps.toList (Str.join ⟨#[c]⟩ parts).cps.toList = (Str.join z parts).cps.toList
  | [], _ => rfl
  | [p], h => repL_free c _ _ (h p (List.mem_singleton.mpr rfl))
  | p :: q :: r, h => by
    have ih := rep_join c z (q :: r) fun a ha => h a (List.mem_cons_of_mem _ ha)
    show repL c z.cps.toList (p ++ ⟨#[c]⟩ ++ Str.join ⟨#[c]⟩ (q :: r)).cps.toList = (p ++ z ++ Str.join z (q :: r)).cps.toList
    simp only [Str.cps_append, Array.toList_append]
    rw [repL_append, repL_append, ih, repL_free c _ _ (h p (List.mem_cons_self ..))]
    simp [repL]
theorem replace_rep (x z : Str) (c : Nat) : (Txt.replace x ⟨#[c]⟩ z).cps.toList = repL c z.cps.toList x.cps.toList := by
  rw [StrLaws.replace_one, ← rep_join c z _ (StrLaws.split_free x c), StrLaws.join_split]
abbrev ofL (x : List Nat) : Str := ⟨x.toArray⟩
theorem ofL_toList (x : Str) : ofL x.cps.toList = x := by cases x; simp [ofL]
theorem replace_ofL (x : List Nat) (z : Str) (c : Nat) : Txt.replace (ofL x) ⟨#[c]⟩ z = ofL (repL c z.cps.toList x) := by
  rw [← ofL_toList (Txt.replace _ _ _), replace_rep]

theorem T_Try {env : Env} {body : List Stmt} {h₀ : ExceptHandler} {hs : List ExceptHandler} {pos : Pos} {Q : Flow → Loc → Led → Prop} (h : T C (execs body env) m l (nextOr C [] env Q)) : T C (exec (.Try body (h₀ :: hs) [] [] pos) env) m l Q := by
  intro s P E O c
  refine wpAny_Try_except (h s _ _ O fun f h1 tk1 m1 l1 k1 O1 => ?_)
  cases f with
  | next => exact (show T C (execs [] env) m1 l1 Q from k1) _ P E O1 c
  | brk => exact c .brk h1 tk1 m1 l1 k1 O1
  | cont => exact c .cont h1 tk1 m1 l1 k1 O1
  | ret v => exact c (.ret v) h1 tk1 m1 l1 k1 O1

/-- if a sign stands in the text, it is replaced -/
theorem T_escIf {cn : Str} {cs : Scope} {a : Addr} {cd : Value} {cl : List (Str × Addr)} {y : Str} {p1 p2 p3 p4 p5 p6 p7 p8 p9 p10 p11 : Pos} {k1 k2 k3 : Nat} {x : List Nat} {t : Tok} {c : Nat} {q z : Str} {Q : Flow → Loc → Led → Prop} (hq : q = ⟨#[c]⟩)
    (hv : m y = some (.str (ofL x) t)) (hx : x.length ≤ 1000) (hz : z.length ≤ 14) (hcz : ((⟨#[c]⟩ : Str) == z) = false)
    (h : ∀ m' t', m' y = some (.str (ofL (repL c z.cps.toList x)) t') → (∀ w, w ≠ y → m' w = m w) → Q .next m' l)
    (hk : cs.kind = .function) (hxk : (envX cn cs C.L a cd cl).kindOf y = some .local) (hd : (y == ("__debug__" : Str)) = false) {pl : Sem Bool}
    (he : eval (.Call (.Attribute (.Name y p5) "replace" p6) [.Constant (.str q) k2 p7, .Constant (.str z) k3 p8] [] p9) (envX cn cs C.L a cd cl) = (do
        let ov ← eval (.Name y p5) (envX cn cs C.L a cd cl)
        standAt (Pos.atName p6)
        let __x ← holding [ov] (getMethod ov "replace" pl)
        match __x with
          | (f, first) => callWith p9 f first (backTo p9 (starEach [.Constant (.str q) k2 p7, .Constant (.str z) k3 p8] (envX cn cs C.L a cd cl))) [])) :
    T C (exec (.If (.Compare (.Constant (.str q) k1 p1) [.In] [.Name y p2] p3) [.Assign [.Name y p4] (.Call (.Attribute (.Name y p5) "replace" p6) [.Constant (.str q) k2 p7, .Constant (.str z) k3 p8] [] p9) p11] [] p10) (envX cn cs C.L a cd cl)) m l Q := by
  subst hq
  intro s P E O k
  rw [exec_If]
  refine wpAny_bind (wpAny_standAt (wpAny_bind ?_))
  rw [isTrue_Compare1, markedBehindIn_of_false (by with_unfolding_all rfl)]
  refine wpAny_bind (wpAny_Constant_str (wpAny_bind (wpAny_holding ?_)))
  refine nameX_L O.fr hv ?_ hk hxk hd
  refine wpAny_bind (wpAny_standAt (wpAny_bind ?_))
  intro Γ p hΓ
  rw [Sem.wp_operate]
  refine in_str ?_ Γ p hΓ
  refine wpAny_holding (wpAny_truthy_bool ?_)
  rw [StrLaws.found_one]
  by_cases hc : c ∈ x
  · rw [decide_eq_true (by simpa using hc)]
    show wpAny _ _ (execs [_] (envX cn cs C.L a cd cl)) _ _ _
    rw [execs_cons]
    refine wpAny_bind ?_
    rw [exec_Assign_Name _ _ _ _ _ rfl]
    refine wpAny_bind (wpAny_standAt (wpAny_bind ?_))
    refine MethodCall_ (nameX_L O.fr hv ?_ hk hxk hd) he
    refine GM.of _ (typeIs_str _ _ _) F.slot_str_replace F.type_str_replace (fun _ e => nomatch e) ?_
    refine callWith_method1 (args_cons (wpAny_Constant_str (args_cons (wpAny_Constant_str (args_nil ?_)))))
    refine SC.replaceW (Nat.succ_ne_zero _) (Nat.succ_ne_zero _) (by intro e; exact absurd e (by simp)) hcz (by show x.toArray.size ≤ 1048576; simp; omega) hz fun t' tk' => ?_
    refine wpAny_bind (wpAny_standAt (wpAny_bind (wpAny_bindName ?_)))
    refine storeX_L O.fr O.nw (fun h' F' N' => ?_) hk hxk
    refine wpAny_pure (wpAny_execs_nil (env := envX cn cs C.L a cd cl) ?_)
    refine k .next _ _ _ l (h (up m y _) t' ?_ fun w hw => up_ne hw) (O.setL F' N')
    rw [up_same, replace_ofL]
  · rw [decide_eq_false (by simpa using hc)]
    refine wpAny_execs_nil (env := envX cn cs C.L a cd cl) ?_
    exact k .next _ _ m l (h m t (by rw [repL_free c _ x hc]; exact hv) fun _ _ => rfl) O

def escP (tb : List (Nat × Str)) (x : List Nat) : List Nat := tb.foldl (fun x p => repL p.1 p.2.cps.toList x) x
theorem escP_append : ∀ (tb : List (Nat × Str)) (a b : List Nat), escP tb (a ++ b) = escP tb a ++ escP tb b
  | [], _, _ => rfl
  | p :: r, a, b => by
    show escP r (repL p.1 p.2.cps.toList (a ++ b)) = escP r (repL p.1 p.2.cps.toList a) ++ escP r (repL p.1 p.2.cps.toList b)
    rw [repL_append, escP_append r]
theorem escP_nil : ∀ (tb : List (Nat × Str)), escP tb [] = []
  | [] => rfl
  | p :: r => escP_nil r
theorem escP_flat (tb : List (Nat × Str)) : ∀ x : List Nat, escP tb x = x.flatMap fun k => escP tb [k]
  | [] => escP_nil tb
  | k :: r => by
    rw [List.flatMap_cons, ← escP_flat tb r, ← escP_append]
    rfl
theorem escP_other : ∀ (tb : List (Nat × Str)) (k : Nat), (∀ p ∈ tb, p.1 ≠ k) → escP tb [k] = [k]
  | [], _, _ => rfl
  | p :: r, k, h => by
    show escP r (repL p.1 p.2.cps.toList [k]) = [k]
    rw [repL_free _ _ _ (by simpa using h p List.mem_cons_self)]
    exact escP_other r k fun q hq => h q (List.mem_cons_of_mem _ hq)
def escTabs : List (List (Nat × Str)) := [[(38, "&amp;"), (60, "&lt;"), (62, "&gt;")], [(38, "&amp;"), (60, "&lt;"), (62, "&gt;"), (34, "&quot;"), (13, "&#13;"), (10, "&#10;"), (9, "&#09;")], [(38, "&amp;"), (62, "&gt;"), (34, "&quot;")],
  [(38, "&amp;"), (60, "&lt;"), (62, "&gt;"), (13, "&#xD;")], [(38, "&amp;"), (60, "&lt;"), (34, "&quot;"), (9, "&#x9;"), (10, "&#xA;"), (13, "&#xD;")]]
def escT (i : Nat) : List (Nat × Str) := escTabs.getD i []
theorem esc_short : ∀ i < 5, ∀ j ≤ 7, ∀ k ∈ [38, 60, 62, 34, 13, 10, 9], (escP ((escT i).take j) [k]).length ≤ 6 := by decide +kernel
theorem esc_keys : ∀ i < 5, ∀ p ∈ escT i, p.1 ∈ [38, 60, 62, 34, 13, 10, 9] := by decide +kernel
theorem esc_len (i j : Nat) (hi : i < 5) (hj : j ≤ 7) (x : List Nat) : (escP ((escT i).take j) x).length ≤ 6 * x.length := by
  rw [escP_flat]
  induction x with
  | nil => simp
  | cons k r ih =>
    rw [List.flatMap_cons, List.length_append, List.length_cons]
    have h1 : (escP ((escT i).take j) [k]).length ≤ 6 := by
      by_cases hk : k ∈ [38, 60, 62, 34, 13, 10, 9]
      · exact esc_short i hi j hj k hk
      · rw [escP_other]
        · exact Nat.succ_le_succ (Nat.zero_le 5)
        · exact fun p hp e => hk (e ▸ esc_keys i hi p (List.mem_of_mem_take hp))
    omega
theorem escP_snoc (i j : Nat) (c : Nat) (z : Str) (x : List Nat) (h : (escT i)[j]? = some (c, z)) : repL c z.cps.toList (escP ((escT i).take j) x) = escP ((escT i).take (j + 1)) x := by
  rw [List.take_add_one, h]
  simp [escP, List.foldl_append]

theorem esc_0 {env : Env} {outer : List Env} {r : Nat} (K : Act C env outer (r + 1)) (S : Stat mg mb C.h₀) (d : Def C.h₀ mg 11 "_escape_cdata" .none .none) {x : List Nat} {t : Tok} (hx : x.length ≤ 100) {Q : Value → Loc → Led → Prop}
    (h : ∀ t', Q (.str (ofL (escP (escT 0) x)) t') m l) : T C (call (.ref d.f) [.str (ofL x) t]) m l Q := by
  refine T_call_plain (binds := [("text", .str (ofL x) t)]) K S (.inl d.get) d.data (fun h k _ => d.code.keeps k) (fun s k => BindsTo.of_eq rfl) (fun g L' kg Sg Kg => ?_) ?_ ?_ rfl rfl rfl
  · refine T.gen fun m0 hm0 => ?_
    have h0 : m0 "text" = some (.str (ofL (escP ((escT 0).take 0) x)) t) := by rw [hm0]; rfl
    clear hm0
    refine T_cons ?_
    with_reducible refine T_Try ?_
    with_reducible refine T_cons ?_
    with_reducible refine' T_escIf (c := 38) ?hq0 h0 ?hx0 ?hz0 ?hcz0 ?nx0 ?hk0 ?hxk0 ?hd0 ?he0
    case hq0 => rfl
    case hx0 => exact Nat.le_trans (esc_len 0 0 (by decide) (by decide) x) (by omega)
    case hz0 => decide
    case hcz0 => decide
    case hk0 => rfl
    case hxk0 => rfl
    case hd0 => decide
    case he0 => rfl
    intro m1 t1 h1 _
    rw [escP_snoc 0 0 _ _ _ rfl] at h1
    with_reducible refine go_next ?_
    with_reducible refine T_cons ?_
    with_reducible refine' T_escIf (c := 60) ?hq1 h1 ?hx1 ?hz1 ?hcz1 ?nx1 ?hk1 ?hxk1 ?hd1 ?he1
    case hq1 => rfl
    case hx1 => exact Nat.le_trans (esc_len 0 1 (by decide) (by decide) x) (by omega)
    case hz1 => decide
    case hcz1 => decide
    case hk1 => rfl
    case hxk1 => rfl
    case hd1 => decide
    case he1 => rfl
    intro m2 t2 h2 _
    rw [escP_snoc 0 1 _ _ _ rfl] at h2
    with_reducible refine go_next ?_
    with_reducible refine T_cons ?_
    with_reducible refine' T_escIf (c := 62) ?hq2 h2 ?hx2 ?hz2 ?hcz2 ?nx2 ?hk2 ?hxk2 ?hd2 ?he2
    case hq2 => rfl
    case hx2 => exact Nat.le_trans (esc_len 0 2 (by decide) (by decide) x) (by omega)
    case hz2 => decide
    case hcz2 => decide
    case hk2 => rfl
    case hxk2 => rfl
    case hd2 => decide
    case he2 => rfl
    intro m3 t3 h3 _
    rw [escP_snoc 0 2 _ _ _ rfl] at h3
    with_reducible refine go_next ?_
    repeat walk_at "t"
    exact h _
  · intro y hy
    simp only [List.mem_cons, List.not_mem_nil, or_false] at hy
    rcases hy with rfl
    rfl
  · decide

theorem esc_1 {env : Env} {outer : List Env} {r : Nat} (K : Act C env outer (r + 1)) (S : Stat mg mb C.h₀) (d : Def C.h₀ mg 12 "_escape_attrib" .none .none) {x : List Nat} {t : Tok} (hx : x.length ≤ 100) {Q : Value → Loc → Led → Prop}
    (h : ∀ t', Q (.str (ofL (escP (escT 1) x)) t') m l) : T C (call (.ref d.f) [.str (ofL x) t]) m l Q := by
  refine T_call_plain (binds := [("text", .str (ofL x) t)]) K S (.inl d.get) d.data (fun h k _ => d.code.keeps k) (fun s k => BindsTo.of_eq rfl) (fun g L' kg Sg Kg => ?_) ?_ ?_ rfl rfl rfl
  · refine T.gen fun m0 hm0 => ?_
    have h0 : m0 "text" = some (.str (ofL (escP ((escT 1).take 0) x)) t) := by rw [hm0]; rfl
    clear hm0
    refine T_cons ?_
    with_reducible refine T_Try ?_
    with_reducible refine T_cons ?_
    with_reducible refine' T_escIf (c := 38) ?hq3 h0 ?hx3 ?hz3 ?hcz3 ?nx3 ?hk3 ?hxk3 ?hd3 ?he3
    case hq3 => rfl
    case hx3 => exact Nat.le_trans (esc_len 1 0 (by decide) (by decide) x) (by omega)
    case hz3 => decide
    case hcz3 => decide
    case hk3 => rfl
    case hxk3 => rfl
    case hd3 => decide
    case he3 => rfl
    intro m1 t1 h1 _
    rw [escP_snoc 1 0 _ _ _ rfl] at h1
    with_reducible refine go_next ?_
    with_reducible refine T_cons ?_
    with_reducible refine' T_escIf (c := 60) ?hq4 h1 ?hx4 ?hz4 ?hcz4 ?nx4 ?hk4 ?hxk4 ?hd4 ?he4
    case hq4 => rfl
    case hx4 => exact Nat.le_trans (esc_len 1 1 (by decide) (by decide) x) (by omega)
    case hz4 => decide
    case hcz4 => decide
    case hk4 => rfl
    case hxk4 => rfl
    case hd4 => decide
    case he4 => rfl
    intro m2 t2 h2 _
    rw [escP_snoc 1 1 _ _ _ rfl] at h2
    with_reducible refine go_next ?_
    with_reducible refine T_cons ?_
    with_reducible refine' T_escIf (c := 62) ?hq5 h2 ?hx5 ?hz5 ?hcz5 ?nx5 ?hk5 ?hxk5 ?hd5 ?he5
    case hq5 => rfl
    case hx5 => exact Nat.le_trans (esc_len 1 2 (by decide) (by decide) x) (by omega)
    case hz5 => decide
    case hcz5 => decide
    case hk5 => rfl
    case hxk5 => rfl
    case hd5 => decide
    case he5 => rfl
    intro m3 t3 h3 _
    rw [escP_snoc 1 2 _ _ _ rfl] at h3
    with_reducible refine go_next ?_
    with_reducible refine T_cons ?_
    with_reducible refine' T_escIf (c := 34) ?hq6 h3 ?hx6 ?hz6 ?hcz6 ?nx6 ?hk6 ?hxk6 ?hd6 ?he6
    case hq6 => rfl
    case hx6 => exact Nat.le_trans (esc_len 1 3 (by decide) (by decide) x) (by omega)
    case hz6 => decide
    case hcz6 => decide
    case hk6 => rfl
    case hxk6 => rfl
    case hd6 => decide
    case he6 => rfl
    intro m4 t4 h4 _
    rw [escP_snoc 1 3 _ _ _ rfl] at h4
    with_reducible refine go_next ?_
    with_reducible refine T_cons ?_
    with_reducible refine' T_escIf (c := 13) ?hq7 h4 ?hx7 ?hz7 ?hcz7 ?nx7 ?hk7 ?hxk7 ?hd7 ?he7
    case hq7 => rfl
    case hx7 => exact Nat.le_trans (esc_len 1 4 (by decide) (by decide) x) (by omega)
    case hz7 => decide
    case hcz7 => decide
    case hk7 => rfl
    case hxk7 => rfl
    case hd7 => decide
    case he7 => rfl
    intro m5 t5 h5 _
    rw [escP_snoc 1 4 _ _ _ rfl] at h5
    with_reducible refine go_next ?_
    with_reducible refine T_cons ?_
    with_reducible refine' T_escIf (c := 10) ?hq8 h5 ?hx8 ?hz8 ?hcz8 ?nx8 ?hk8 ?hxk8 ?hd8 ?he8
    case hq8 => rfl
    case hx8 => exact Nat.le_trans (esc_len 1 5 (by decide) (by decide) x) (by omega)
    case hz8 => decide
    case hcz8 => decide
    case hk8 => rfl
    case hxk8 => rfl
    case hd8 => decide
    case he8 => rfl
    intro m6 t6 h6 _
    rw [escP_snoc 1 5 _ _ _ rfl] at h6
    with_reducible refine go_next ?_
    with_reducible refine T_cons ?_
    with_reducible refine' T_escIf (c := 9) ?hq9 h6 ?hx9 ?hz9 ?hcz9 ?nx9 ?hk9 ?hxk9 ?hd9 ?he9
    case hq9 => rfl
    case hx9 => exact Nat.le_trans (esc_len 1 6 (by decide) (by decide) x) (by omega)
    case hz9 => decide
    case hcz9 => decide
    case hk9 => rfl
    case hxk9 => rfl
    case hd9 => decide
    case he9 => rfl
    intro m7 t7 h7 _
    rw [escP_snoc 1 6 _ _ _ rfl] at h7
    with_reducible refine go_next ?_
    repeat walk_at "t"
    exact h _
  · intro y hy
    simp only [List.mem_cons, List.not_mem_nil, or_false] at hy
    rcases hy with rfl
    rfl
  · decide

theorem esc_2 {env : Env} {outer : List Env} {r : Nat} (K : Act C env outer (r + 1)) (S : Stat mg mb C.h₀) (d : Def C.h₀ mg 13 "_escape_attrib_html" .none .none) {x : List Nat} {t : Tok} (hx : x.length ≤ 100) {Q : Value → Loc → Led → Prop}
    (h : ∀ t', Q (.str (ofL (escP (escT 2) x)) t') m l) : T C (call (.ref d.f) [.str (ofL x) t]) m l Q := by
  refine T_call_plain (binds := [("text", .str (ofL x) t)]) K S (.inl d.get) d.data (fun h k _ => d.code.keeps k) (fun s k => BindsTo.of_eq rfl) (fun g L' kg Sg Kg => ?_) ?_ ?_ rfl rfl rfl
  · refine T.gen fun m0 hm0 => ?_
    have h0 : m0 "text" = some (.str (ofL (escP ((escT 2).take 0) x)) t) := by rw [hm0]; rfl
    clear hm0
    refine T_cons ?_
    with_reducible refine T_Try ?_
    with_reducible refine T_cons ?_
    with_reducible refine' T_escIf (c := 38) ?hq10 h0 ?hx10 ?hz10 ?hcz10 ?nx10 ?hk10 ?hxk10 ?hd10 ?he10
    case hq10 => rfl
    case hx10 => exact Nat.le_trans (esc_len 2 0 (by decide) (by decide) x) (by omega)
    case hz10 => decide
    case hcz10 => decide
    case hk10 => rfl
    case hxk10 => rfl
    case hd10 => decide
    case he10 => rfl
    intro m1 t1 h1 _
    rw [escP_snoc 2 0 _ _ _ rfl] at h1
    with_reducible refine go_next ?_
    with_reducible refine T_cons ?_
    with_reducible refine' T_escIf (c := 62) ?hq11 h1 ?hx11 ?hz11 ?hcz11 ?nx11 ?hk11 ?hxk11 ?hd11 ?he11
    case hq11 => rfl
    case hx11 => exact Nat.le_trans (esc_len 2 1 (by decide) (by decide) x) (by omega)
    case hz11 => decide
    case hcz11 => decide
    case hk11 => rfl
    case hxk11 => rfl
    case hd11 => decide
    case he11 => rfl
    intro m2 t2 h2 _
    rw [escP_snoc 2 1 _ _ _ rfl] at h2
    with_reducible refine go_next ?_
    with_reducible refine T_cons ?_
    with_reducible refine' T_escIf (c := 34) ?hq12 h2 ?hx12 ?hz12 ?hcz12 ?nx12 ?hk12 ?hxk12 ?hd12 ?he12
    case hq12 => rfl
    case hx12 => exact Nat.le_trans (esc_len 2 2 (by decide) (by decide) x) (by omega)
    case hz12 => decide
    case hcz12 => decide
    case hk12 => rfl
    case hxk12 => rfl
    case hd12 => decide
    case he12 => rfl
    intro m3 t3 h3 _
    rw [escP_snoc 2 2 _ _ _ rfl] at h3
    with_reducible refine go_next ?_
    repeat walk_at "t"
    exact h _
  · intro y hy
    simp only [List.mem_cons, List.not_mem_nil, or_false] at hy
    rcases hy with rfl
    rfl
  · decide

theorem esc_3 {env : Env} {outer : List Env} {r : Nat} (K : Act C env outer (r + 1)) (S : Stat mg mb C.h₀) (d : Def C.h₀ mg 14 "_escape_cdata_c14n" .none .none) {x : List Nat} {t : Tok} (hx : x.length ≤ 100) {Q : Value → Loc → Led → Prop}
    (h : ∀ t', Q (.str (ofL (escP (escT 3) x)) t') m l) : T C (call (.ref d.f) [.str (ofL x) t]) m l Q := by
  refine T_call_plain (binds := [("text", .str (ofL x) t)]) K S (.inl d.get) d.data (fun h k _ => d.code.keeps k) (fun s k => BindsTo.of_eq rfl) (fun g L' kg Sg Kg => ?_) ?_ ?_ rfl rfl rfl
  · refine T.gen fun m0 hm0 => ?_
    have h0 : m0 "text" = some (.str (ofL (escP ((escT 3).take 0) x)) t) := by rw [hm0]; rfl
    clear hm0
    refine T_cons ?_
    with_reducible refine T_Try ?_
    with_reducible refine T_cons ?_
    with_reducible refine' T_escIf (c := 38) ?hq13 h0 ?hx13 ?hz13 ?hcz13 ?nx13 ?hk13 ?hxk13 ?hd13 ?he13
    case hq13 => rfl
    case hx13 => exact Nat.le_trans (esc_len 3 0 (by decide) (by decide) x) (by omega)
    case hz13 => decide
    case hcz13 => decide
    case hk13 => rfl
    case hxk13 => rfl
    case hd13 => decide
    case he13 => rfl
    intro m1 t1 h1 _
    rw [escP_snoc 3 0 _ _ _ rfl] at h1
    with_reducible refine go_next ?_
    with_reducible refine T_cons ?_
    with_reducible refine' T_escIf (c := 60) ?hq14 h1 ?hx14 ?hz14 ?hcz14 ?nx14 ?hk14 ?hxk14 ?hd14 ?he14
    case hq14 => rfl
    case hx14 => exact Nat.le_trans (esc_len 3 1 (by decide) (by decide) x) (by omega)
    case hz14 => decide
    case hcz14 => decide
    case hk14 => rfl
    case hxk14 => rfl
    case hd14 => decide
    case he14 => rfl
    intro m2 t2 h2 _
    rw [escP_snoc 3 1 _ _ _ rfl] at h2
    with_reducible refine go_next ?_
    with_reducible refine T_cons ?_
    with_reducible refine' T_escIf (c := 62) ?hq15 h2 ?hx15 ?hz15 ?hcz15 ?nx15 ?hk15 ?hxk15 ?hd15 ?he15
    case hq15 => rfl
    case hx15 => exact Nat.le_trans (esc_len 3 2 (by decide) (by decide) x) (by omega)
    case hz15 => decide
    case hcz15 => decide
    case hk15 => rfl
    case hxk15 => rfl
    case hd15 => decide
    case he15 => rfl
    intro m3 t3 h3 _
    rw [escP_snoc 3 2 _ _ _ rfl] at h3
    with_reducible refine go_next ?_
    with_reducible refine T_cons ?_
    with_reducible refine' T_escIf (c := 13) ?hq16 h3 ?hx16 ?hz16 ?hcz16 ?nx16 ?hk16 ?hxk16 ?hd16 ?he16
    case hq16 => rfl
    case hx16 => exact Nat.le_trans (esc_len 3 3 (by decide) (by decide) x) (by omega)
    case hz16 => decide
    case hcz16 => decide
    case hk16 => rfl
    case hxk16 => rfl
    case hd16 => decide
    case he16 => rfl
    intro m4 t4 h4 _
    rw [escP_snoc 3 3 _ _ _ rfl] at h4
    with_reducible refine go_next ?_
    repeat walk_at "t"
    exact h _
  · intro y hy
    simp only [List.mem_cons, List.not_mem_nil, or_false] at hy
    rcases hy with rfl
    rfl
  · decide

theorem esc_4 {env : Env} {outer : List Env} {r : Nat} (K : Act C env outer (r + 1)) (S : Stat mg mb C.h₀) (d : Def C.h₀ mg 15 "_escape_attrib_c14n" .none .none) {x : List Nat} {t : Tok} (hx : x.length ≤ 100) {Q : Value → Loc → Led → Prop}
    (h : ∀ t', Q (.str (ofL (escP (escT 4) x)) t') m l) : T C (call (.ref d.f) [.str (ofL x) t]) m l Q := by
  refine T_call_plain (binds := [("text", .str (ofL x) t)]) K S (.inl d.get) d.data (fun h k _ => d.code.keeps k) (fun s k => BindsTo.of_eq rfl) (fun g L' kg Sg Kg => ?_) ?_ ?_ rfl rfl rfl
  · refine T.gen fun m0 hm0 => ?_
    have h0 : m0 "text" = some (.str (ofL (escP ((escT 4).take 0) x)) t) := by rw [hm0]; rfl
    clear hm0
    refine T_cons ?_
    with_reducible refine T_Try ?_
    with_reducible refine T_cons ?_
    with_reducible refine' T_escIf (c := 38) ?hq17 h0 ?hx17 ?hz17 ?hcz17 ?nx17 ?hk17 ?hxk17 ?hd17 ?he17
    case hq17 => rfl
    case hx17 => exact Nat.le_trans (esc_len 4 0 (by decide) (by decide) x) (by omega)
    case hz17 => decide
    case hcz17 => decide
    case hk17 => rfl
    case hxk17 => rfl
    case hd17 => decide
    case he17 => rfl
    intro m1 t1 h1 _
    rw [escP_snoc 4 0 _ _ _ rfl] at h1
    with_reducible refine go_next ?_
    with_reducible refine T_cons ?_
    with_reducible refine' T_escIf (c := 60) ?hq18 h1 ?hx18 ?hz18 ?hcz18 ?nx18 ?hk18 ?hxk18 ?hd18 ?he18
    case hq18 => rfl
    case hx18 => exact Nat.le_trans (esc_len 4 1 (by decide) (by decide) x) (by omega)
    case hz18 => decide
    case hcz18 => decide
    case hk18 => rfl
    case hxk18 => rfl
    case hd18 => decide
    case he18 => rfl
    intro m2 t2 h2 _
    rw [escP_snoc 4 1 _ _ _ rfl] at h2
    with_reducible refine go_next ?_
    with_reducible refine T_cons ?_
    with_reducible refine' T_escIf (c := 34) ?hq19 h2 ?hx19 ?hz19 ?hcz19 ?nx19 ?hk19 ?hxk19 ?hd19 ?he19
    case hq19 => rfl
    case hx19 => exact Nat.le_trans (esc_len 4 2 (by decide) (by decide) x) (by omega)
    case hz19 => decide
    case hcz19 => decide
    case hk19 => rfl
    case hxk19 => rfl
    case hd19 => decide
    case he19 => rfl
    intro m3 t3 h3 _
    rw [escP_snoc 4 2 _ _ _ rfl] at h3
    with_reducible refine go_next ?_
    with_reducible refine T_cons ?_
    with_reducible refine' T_escIf (c := 9) ?hq20 h3 ?hx20 ?hz20 ?hcz20 ?nx20 ?hk20 ?hxk20 ?hd20 ?he20
    case hq20 => rfl
    case hx20 => exact Nat.le_trans (esc_len 4 3 (by decide) (by decide) x) (by omega)
    case hz20 => decide
    case hcz20 => decide
    case hk20 => rfl
    case hxk20 => rfl
    case hd20 => decide
    case he20 => rfl
    intro m4 t4 h4 _
    rw [escP_snoc 4 3 _ _ _ rfl] at h4
    with_reducible refine go_next ?_
    with_reducible refine T_cons ?_
    with_reducible refine' T_escIf (c := 10) ?hq21 h4 ?hx21 ?hz21 ?hcz21 ?nx21 ?hk21 ?hxk21 ?hd21 ?he21
    case hq21 => rfl
    case hx21 => exact Nat.le_trans (esc_len 4 4 (by decide) (by decide) x) (by omega)
    case hz21 => decide
    case hcz21 => decide
    case hk21 => rfl
    case hxk21 => rfl
    case hd21 => decide
    case he21 => rfl
    intro m5 t5 h5 _
    rw [escP_snoc 4 4 _ _ _ rfl] at h5
    with_reducible refine go_next ?_
    with_reducible refine T_cons ?_
    with_reducible refine' T_escIf (c := 13) ?hq22 h5 ?hx22 ?hz22 ?hcz22 ?nx22 ?hk22 ?hxk22 ?hd22 ?he22
    case hq22 => rfl
    case hx22 => exact Nat.le_trans (esc_len 4 5 (by decide) (by decide) x) (by omega)
    case hz22 => decide
    case hcz22 => decide
    case hk22 => rfl
    case hxk22 => rfl
    case hd22 => decide
    case he22 => rfl
    intro m6 t6 h6 _
    rw [escP_snoc 4 5 _ _ _ rfl] at h6
    with_reducible refine go_next ?_
    repeat walk_at "t"
    exact h _
  · intro y hy
    simp only [List.mem_cons, List.not_mem_nil, or_false] at hy
    rcases hy with rfl
    rfl
  · decide
end Mine
end

section
open PySem PySem.W PySem.Calls PyProof.Rows
set_option Elab.async false
set_option maxRecDepth 100000
set_option linter.unusedVariables false
namespace Mine
variable {C : Cx} {α β : Type} {m : Loc} {l : Led} {mg mb : Loc}

def SetB (prog : Program) (w : World) (h : Heap) (mg : Loc) : Prop := ∃ d o n, mg "b1_set" = some (.ref d) ∧ h.get? d = some o ∧ n < 4096 ∧ o.SetObjOf (intKind prog w) b1S n
def DictB (prog : Program) (w : World) (h : Heap) (mg : Loc) : Prop := ∃ d o kvs, mg "b3_exceptions" = some (.ref d) ∧ h.get? d = some o ∧ (d == sysModules) = false ∧ Fits kvs b3D ∧ DictO prog w o kvs
theorem SetB.keeps {prog : Program} {w : World} {h h' : Heap} (x : SetB prog w h mg) (k : ∀ b o, h.get? b = some o → h'.get? b = some o) : SetB prog w h' mg := let ⟨d, o, n, a, b, r⟩ := x; ⟨d, o, n, a, k _ _ b, r⟩
theorem DictB.keeps {prog : Program} {w : World} {h h' : Heap} (x : DictB prog w h mg) (k : ∀ b o, h.get? b = some o → h'.get? b = some o) : DictB prog w h' mg := let ⟨d, o, n, a, b, r⟩ := x; ⟨d, o, n, a, k _ _ b, r⟩

section ops
variable {Q : Value → Loc → Led → Prop}
theorem T_ord {c : Nat} {t : Tok} (h : ∀ t, Q (.int c t) m l) : T C (call (.builtin "ord") [.str (ofL [c]) t]) m l Q :=
  fun s P E O k => ord_of_one rfl (k _ s.heap _ m l (h _) O)
theorem T_chr {i : Int} {t : Tok} (h0 : 0 ≤ i) (h1 : i ≤ 1114111) (h : ∀ t, Q (.str (ofL [i.toNat]) t) m l) : T C (call (.builtin "chr") [.int i t]) m l Q :=
  fun s P E O k => chr_of_range h0 h1 (k _ s.heap _ m l (h _) O)
theorem T_in_set {d : Addr} {o : Obj} {n : Nat} {S : Int → Bool} {k : Int} {t : Tok} (ho : C.h₀.get? d = some o) (hso : o.SetObjOf (intKind C.prog C.w) S n) (hb : n < 4096) (h : Q (.bool (S k)) m l) : T C (compareOp .In (.int k t) (.ref d)) m l Q :=
  fun s P E O c => in_argsetI O.fr hso ho hb (c _ s.heap _ m l h O)
theorem T_dict_get {d : Addr} {o : Obj} {kvs : List (Int × Value)} {k : Int} {t : Tok} (ho : Seen C l d o) (hd : (d == sysModules) = false) (hk : DictO C.prog C.w o kvs) (h : Q ((valueAt kvs k).getD .none) m l) : T C (call (.builtin "dict.get") [.ref d, .int k t]) m l Q := by
  intro s P E O c
  have hm := (hk s.heap d (ho.get O)).mapOf
  have hkey : (intKind C.prog C.w).is k (.int k t) = true := by simp [intKind, Value.isInt]
  have hM : MeetsIn C.prog C.w (Builtin.«dict.get» ⟨[.ref d, .int k t], []⟩) (fun _ R s => ∃ f, s.heap.MapOf (intKind C.prog C.w) d f ∧ R (.ok (.ret ((f k).getD .none))) { s with toks := s.toks + 1 }) := by with_reducible exact meets_dict_get _ _ hkey hd
  with_reducible refine call_meetsIn F.slot_dict_get hm.typeIs F.entry_dict_get (F.args_dict_get_2 _ _) hM ?_
  exact ⟨_, hm, c _ s.heap _ m l h O⟩
theorem T_method_dict {name : Str} {id : String} {pl : Sem Bool} {d : Addr} {o : Obj} {kvs : List (Int × Value)} {Q : Value × List Value → Loc → Led → Prop} (hs : Slot "dict" name id) (ht : typeOf (.builtin id) = pure (.type "method_descriptor"))
    (ho : Seen C l d o) (hk : DictO C.prog C.w o kvs) (h : Q (.builtin id, [.ref d]) m l) : T C (getMethod (.ref d) name pl) m l Q := by
  intro s P E O c
  have hm := (hk s.heap d (ho.get O)).mapOf
  exact getMethod_builtin hm.typeIs F.plainAttrs_dict hs ht hm.noDict (c _ s.heap s.toks m l h O)
theorem T_method_str' {name : Str} {id : String} {pl : Sem Bool} {x : Str} {t : Tok} {Q : Value × List Value → Loc → Led → Prop} (hs : Slot "str" name id) (ht : typeOf (.builtin id) = pure (.type "method_descriptor"))
    (h : Q (.builtin id, [.str x t]) m l) : T C (getMethod (.str x t) name pl) m l Q := T_method_str hs ht F.plainAttrs_str h
theorem T_lower {x : Str} {t : Tok} (hf : x.length ≤ 1000) (h : ∀ t, Q (.str (Txt.lower x) t) m l) : T C (call (.builtin "str.lower") [.str x t]) m l Q :=
  fun s P E O c => SC.lower (fit_lower (by omega)) (c _ s.heap _ m l (h _) O)
end ops

noncomputable def b3f (c : Nat) : Str := match b3D.find? (fun q => decide (q.1 = (c : Int))) with | some q => q.2 | none => Txt.lower (ofL [c])

theorem in_table {env : Env} {outer : List Env} {r : Nat} (K : Act C env outer (r + 1)) (S : Stat mg mb C.h₀) (N : Nms mg mb) (d : Def C.h₀ mg 6 "in_table_b1" .none .none) (B : SetB C.prog C.w C.h₀ mg) {c : Nat} {t : Tok} {Q : Value → Loc → Led → Prop}
    (h : Q (.bool (b1S c)) m l) : T C (call (.ref d.f) [.str (ofL [c]) t]) m l Q := by
  refine T_call_plain (binds := [("code", .str (ofL [c]) t)]) K S (.inl d.get) d.data (fun h k _ => d.code.keeps k) (fun s k => BindsTo.of_eq rfl) (fun g L' kg Sg Kg => ?_) ?_ ?_ rfl rfl rfl
  · refine T.gen fun m0 hm0 => ?_
    have h0 : m0 "code" = some (.str (ofL [c]) t) := by rw [hm0]; rfl
    clear hm0
    obtain ⟨ds, o, n, hg, ho, hn, hso⟩ := B
    refine T_cons ?_
    repeat walk_at "t"
    refine T_ord fun t => ?_
    repeat walk_at "t"
    refine T_in_set (kg _ _ ho) hso hn ?_
    exact h
  · intro y hy
    simp only [List.mem_cons, List.not_mem_nil, or_false] at hy
    rcases hy with rfl
    rfl
  · decide

theorem map_table {env : Env} {outer : List Env} {r : Nat} (K : Act C env outer (r + 1)) (S : Stat mg mb C.h₀) (N : Nms mg mb) (d : Def C.h₀ mg 8 "map_table_b3" .none .none) (B : DictB C.prog C.w C.h₀ mg) {c : Nat} {t : Tok} {Q : Value → Loc → Led → Prop}
    (h : ∀ t', Q (.str (b3f c) t') m l) : T C (call (.ref d.f) [.str (ofL [c]) t]) m l Q := by
  refine T_call_plain (binds := [("code", .str (ofL [c]) t)]) K S (.inl d.get) d.data (fun h k _ => d.code.keeps k) (fun s k => BindsTo.of_eq rfl) (fun g L' kg Sg Kg => ?_) ?_ ?_ rfl rfl rfl
  · refine T.gen fun m0 hm0 => ?_
    have h0 : m0 "code" = some (.str (ofL [c]) t) := by rw [hm0]; rfl
    clear hm0
    obtain ⟨ds, o, kvs, hg, ho, hsys, hf, hk⟩ := B
    refine T_cons ?_
    repeat walk_at "t"
    with_reducible refine T_method_dict F.slot_dict_get F.type_dict_get (Seen.base (kg _ _ ho)) hk ?_
    repeat walk_at "t"
    refine T_ord fun t => ?_
    repeat walk_at "t"
    refine T_dict_get (Seen.base (kg _ _ ho)) hsys hk ?_
    rcases hf.value c with ⟨h1, h2⟩ | ⟨x, t', h1, q, h2, rfl⟩
    · rw [h1]
      repeat walk_at "t"
      with_reducible refine T_method_str' F.slot_str_lower F.type_str_lower ?_
      repeat walk_at "t"
      refine T_lower (by show 1 ≤ 1000; decide) fun t => ?_
      have := h t
      unfold b3f at this
      rw [h2] at this
      exact this
    · rw [h1]
      repeat walk_at "t"
      have := h t'
      unfold b3f at this
      rw [h2] at this
      exact this
  · intro y hy
    simp only [List.mem_cons, List.not_mem_nil, or_false] at hy
    rcases hy with rfl
    rfl
  · decide
end Mine
end

section
open PySem PySem.W PySem.Calls PyProof.Rows
set_option Elab.async false
set_option maxRecDepth 100000
set_option linter.unusedVariables false
namespace Mine
variable {C : Cx} {α β : Type} {m : Loc} {l : Led} {mg mb : Loc}

/-- a search of the program, with its defaults -/
structure DefK (h : Heap) (mg : Loc) (i : Nat) (name : Str) where
  T : Addr
  K : Addr
  t : Tok
  mK : Loc
  d : Def h mg i name (.ref T) (.ref K)
  hT : h.get? T = some (tup [.int 0 t, .none])
  hK : h.Ns K mK
  hk : mK "key" = some .none
abbrev DefK.keeps {h h' : Heap} {i : Nat} {name : Str} (x : DefK h mg i name) (k : ∀ b o, h.get? b = some o → h'.get? b = some o) : DefK h' mg i name :=
  { T := x.T, K := x.K, t := x.t, mK := x.mK, d := x.d.keeps k, hT := k _ _ x.hT, hK := x.hK.keeps k, hk := x.hk }

/-- all that the program's functions lean on -/
structure Lib (prog : Program) (w : World) (h : Heap) (mg mb : Loc) where
  S : Stat mg mb h
  N : Nms mg mb
  dR : DefK h mg 1 "bisect_right"
  dI : DefK h mg 2 "insort_left"
  dL : DefK h mg 3 "bisect_left"
  d6 : Def h mg 6 "in_table_b1" .none .none
  d8 : Def h mg 8 "map_table_b3" .none .none
  d11 : Def h mg 11 "_escape_cdata" .none .none
  d12 : Def h mg 12 "_escape_attrib" .none .none
  d13 : Def h mg 13 "_escape_attrib_html" .none .none
  d14 : Def h mg 14 "_escape_cdata_c14n" .none .none
  d15 : Def h mg 15 "_escape_attrib_c14n" .none .none
  d17 : Def h mg 17 "_law_typed" .none .none
  d18 : Def h mg 18 "_law_prepared" .none .none
  d19 : Def h mg 19 "_law_written" .none .none
  d20 : Def h mg 20 "_law_spelled" .none .none
  d21 : Def h mg 21 "_law_both" .none .none
  d22 : Def h mg 22 "_law_neighbours" .none .none
  d23 : Def h mg 23 "_law_longest" .none .none
  d24 : Def h mg 24 "_law_fewest" .none .none
  d25 : Def h mg 25 "_law_pieces" .none .none
  d26 : Def h mg 26 "law" .none .none
  B1 : SetB prog w h mg
  B3 : DictB prog w h mg
abbrev Lib.keeps {prog : Program} {w : World} {h h' : Heap} (B : Lib prog w h mg mb) (k : ∀ b o, h.get? b = some o → h'.get? b = some o) (S' : Stat mg mb h') : Lib prog w h' mg mb :=
  { S := S', N := B.N, dR := B.dR.keeps k, dI := B.dI.keeps k, dL := B.dL.keeps k, d6 := B.d6.keeps k, d8 := B.d8.keeps k, d11 := B.d11.keeps k, d12 := B.d12.keeps k, d13 := B.d13.keeps k, d14 := B.d14.keeps k, d15 := B.d15.keeps k,
    d17 := B.d17.keeps k, d18 := B.d18.keeps k, d19 := B.d19.keeps k, d20 := B.d20.keeps k, d21 := B.d21.keeps k, d22 := B.d22.keeps k, d23 := B.d23.keeps k, d24 := B.d24.keeps k, d25 := B.d25.keeps k, d26 := B.d26.keeps k, B1 := B.B1.keeps k, B3 := B.B3.keeps k }

noncomputable def prepL (x : List Nat) : List Nat := x.flatMap fun (c : Nat) => if b1S (c : Int) then [] else (b3f c).cps.toList
theorem b3_len : ∀ p ∈ b3D, p.2.length ≤ 5 := by decide +kernel
theorem b3f_len (c : Nat) : (b3f c).length ≤ 5 := by
  unfold b3f
  split
  · rename_i q hq
    exact b3_len q (List.mem_of_find?_eq_some hq)
  · exact Nat.le_trans (len_lower _) (by show 3 * 1 ≤ 5; decide)
theorem prepL_snoc (x : List Nat) (c : Nat) : prepL (x ++ [c]) = prepL x ++ (if b1S c then [] else (b3f c).cps.toList) := by simp [prepL]
theorem prepL_len (x : List Nat) : (prepL x).length ≤ 5 * x.length := by
  induction x with
  | nil => simp [prepL]
  | cons c r ih =>
    have h1 : prepL (c :: r) = (if b1S c then [] else (b3f c).cps.toList) ++ prepL r := by simp [prepL]
    rw [h1, List.length_append, List.length_cons]
    have h2 := b3f_len c
    have h3 : (b3f c).cps.toList.length = (b3f c).length := by simp [Str.length]
    split
    · simp; omega
    · omega
theorem ofL_append (a b : List Nat) : ofL a ++ ofL b = ofL (a ++ b) := by
  show Str.mk _ = _
  simp [ofL]

theorem T_is_bool {a b : Bool} {Q : Value → Loc → Led → Prop} (h : Q (.bool (a == b)) m l) : T C (compareOp .Is (.bool a) (.bool b)) m l Q := fun s P E O c => wpAny_is_plain rfl (by
  have e : ((Value.bool a == Value.bool b) : Bool) = (a == b) := by cases a <;> cases b <;> rfl
  rw [e]; exact c _ s.heap s.toks m l h O)
theorem T_isNot_bool {a b : Bool} {Q : Value → Loc → Led → Prop} (h : Q (.bool (!(a == b))) m l) : T C (compareOp .IsNot (.bool a) (.bool b)) m l Q := T_isNot_plain rfl (by
  have e : ((Value.bool a == Value.bool b) : Bool) = (a == b) := by cases a <;> cases b <;> rfl
  rw [e]; exact h)

theorem prepared {env : Env} {outer : List Env} {r : Nat} (K : Act C env outer (r + 2)) (B : Lib C.prog C.w C.h₀ mg mb) {x : List Nat} {t : Tok} (hx : x.length ≤ 100) {Q : Value → Loc → Led → Prop}
    (h : ∀ t', Q (.str (ofL (prepL x)) t') m l) : T C (call (.ref B.d18.f) [.str (ofL x) t]) m l Q := by
  refine T_call_plain (binds := [("typed", .str (ofL x) t)]) K B.S (.inl B.d18.get) B.d18.data (fun h k _ => B.d18.code.keeps k) (fun s k => BindsTo.of_eq rfl) (fun g L' kg Sg Kg => ?_) ?_ ?_ rfl rfl rfl
  · refine T.gen fun m0 hm0 => ?_
    have h0 : m0 "typed" = some (.str (ofL x) t) := by rw [hm0]; rfl
    clear hm0
    have hg6 := B.d6.g
    have hg8 := B.d8.g
    refine T_cons ?_
    repeat walk_at "t"
    with_reducible refine T_For ?_ ?hs ?ht
    case hs => intro _; rfl
    case ht => intro _ _; rfl
    repeat walk_at "t"
    refine T_iter_str fun I o hst => ?_
    refine ⟨I, _, _, _, _, o, l, fun k m' l' => (∃ tw, m' "word" = some (.str (ofL (prepL (x.take k))) tw)) ∧ l' = l, rfl, Iter.str Kg.hand I _ _, hst, rfl, ⟨⟨_, by walk_at "loc"⟩, rfl⟩, fun _ _ _ _ => trivial, ?_, ?_⟩
    · rintro k v o' m' l' hk ⟨c, u, hc, rfl⟩ ⟨⟨tw, hw⟩, rfl⟩
      have hsz : (ofL x).cps.size = x.length := by simp [ofL]
      have hxc : x[k]? = some c := by simpa [ofL] using hc
      with_reducible refine T_assign_Name ?_
      repeat walk_at "t"
      with_reducible refine T_callWith_def B.d6.data ?_ ?he
      case he => rfl
      repeat walk_at "t"
      refine ⟨Seen.base (kg _ _ B.d6.get), ?_⟩
      with_reducible refine in_table (d := B.d6.keeps kg) Kg Sg B.N (B.B1.keeps kg) ?_
      repeat walk_at "t"
      refine T_is_bool ?_
      repeat walk_at "t"
      cases hb : b1S (c : Int) with
      | false =>
        repeat walk_at "t"
        with_reducible refine T_callWith_def B.d8.data ?_ ?he
        case he => rfl
        repeat walk_at "t"
        refine ⟨Seen.base (kg _ _ B.d8.get), ?_⟩
        with_reducible refine map_table (d := B.d8.keeps kg) Kg Sg B.N (B.B3.keeps kg) ?_
        intro t'
        repeat walk_at "t"
        refine T_add_str ?_ fun t' => ?_
        · rw [sizeLine_eq]
          have h1 := prepL_len (x.take k)
          have h2 := b3f_len c
          have h3 : (ofL (prepL (x.take k))).length = (prepL (x.take k)).length := by simp [ofL, Str.length]
          have h4 : (x.take k).length ≤ x.length := by rw [List.length_take]; omega
          omega
        repeat walk_at "t"
        refine go_for ⟨l', .refl _, ⟨t', ?_⟩, rfl⟩
        rw [up_same]
        have e : x.take (k + 1) = x.take k ++ [c] := by rw [List.take_add_one, hxc]; rfl
        rw [e, prepL_snoc, hb]
        simp only [Bool.false_eq_true, if_false]
        rw [← ofL_append, ofL_toList]
      | true =>
        repeat walk_at "t"
        refine T_isNot_bool ?_
        repeat walk_at "t"
        refine go_for ⟨l', .refl _, ⟨tw, ?_⟩, rfl⟩
        have e : x.take (k + 1) = x.take k ++ [c] := by rw [List.take_add_one, hxc]; rfl
        rw [e, prepL_snoc, hb]
        simp only [if_true, List.append_nil]
        walk_at "loc"
    · rintro m' l' ⟨⟨tw, hw⟩, rfl⟩
      repeat walk_at "t"
      have hsz : (ofL x).cps.size = x.length := by simp [ofL]
      rw [hsz, List.take_length]
      exact h _
  · intro y hy
    simp only [List.mem_cons, List.not_mem_nil, or_false] at hy
    rcases hy with rfl
    rfl
  · decide

theorem written {env : Env} {outer : List Env} {r : Nat} (K : Act C env outer (r + 2)) (B : Lib C.prog C.w C.h₀ mg mb) {hand : Nat} (hh : hand < 5) {x : List Nat} {t th : Tok} (hx : x.length ≤ 100) {Q : Value → Loc → Led → Prop}
    (h : ∀ t', Q (.str (ofL (escP (escT hand) x)) t') m l) : T C (call (.ref B.d19.f) [.int hand th, .str (ofL x) t]) m l Q := by
  refine T_call_plain (binds := [("hand", .int hand th), ("part", .str (ofL x) t)]) K B.S (.inl B.d19.get) B.d19.data (fun h k _ => B.d19.code.keeps k) (fun s k => BindsTo.of_eq rfl) (fun g L' kg Sg Kg => ?_) ?_ ?_ rfl rfl rfl
  · refine T.gen fun m0 hm0 => ?_
    have h0 : m0 "hand" = some (.int hand th) := by rw [hm0]; rfl
    have h1 : m0 "part" = some (.str (ofL x) t) := by rw [hm0]; rfl
    clear hm0
    have hg11 := B.d11.g
    have hg12 := B.d12.g
    have hg13 := B.d13.g
    have hg14 := B.d14.g
    have hg15 := B.d15.g
    refine T_cons ?_
    obtain rfl | rfl | rfl | rfl | rfl : hand = 0 ∨ hand = 1 ∨ hand = 2 ∨ hand = 3 ∨ hand = 4 := by omega
    · repeat walk_at "t"
      with_reducible refine T_callWith_def B.d11.data ?_ ?he
      case he => rfl
      repeat walk_at "t"
      refine ⟨Seen.base (kg _ _ B.d11.get), ?_⟩
      with_reducible refine esc_0 (d := B.d11.keeps kg) Kg Sg hx ?_
      intro t'
      repeat walk_at "t"
      exact h t'
    · repeat walk_at "t"
      with_reducible refine T_callWith_def B.d12.data ?_ ?he
      case he => rfl
      repeat walk_at "t"
      refine ⟨Seen.base (kg _ _ B.d12.get), ?_⟩
      with_reducible refine esc_1 (d := B.d12.keeps kg) Kg Sg hx ?_
      intro t'
      repeat walk_at "t"
      exact h t'
    · repeat walk_at "t"
      with_reducible refine T_callWith_def B.d13.data ?_ ?he
      case he => rfl
      repeat walk_at "t"
      refine ⟨Seen.base (kg _ _ B.d13.get), ?_⟩
      with_reducible refine esc_2 (d := B.d13.keeps kg) Kg Sg hx ?_
      intro t'
      repeat walk_at "t"
      exact h t'
    · repeat walk_at "t"
      with_reducible refine T_callWith_def B.d14.data ?_ ?he
      case he => rfl
      repeat walk_at "t"
      refine ⟨Seen.base (kg _ _ B.d14.get), ?_⟩
      with_reducible refine esc_3 (d := B.d14.keeps kg) Kg Sg hx ?_
      intro t'
      repeat walk_at "t"
      exact h t'
    · repeat walk_at "t"
      with_reducible refine T_callWith_def B.d15.data ?_ ?he
      case he => rfl
      repeat walk_at "t"
      refine ⟨Seen.base (kg _ _ B.d15.get), ?_⟩
      with_reducible refine esc_4 (d := B.d15.keeps kg) Kg Sg hx ?_
      intro t'
      repeat walk_at "t"
      exact h t'
  · intro y hy
    simp only [List.mem_cons, List.not_mem_nil, or_false] at hy
    rcases hy with rfl | rfl <;> rfl
  · decide
end Mine
end

section
open PySem PySem.W PySem.Calls PyProof.Rows
set_option Elab.async false
set_option maxRecDepth 100000
set_option linter.unusedVariables false
set_option linter.unusedSimpArgs false
namespace Mine
variable {C : Cx} {α β : Type} {m : Loc} {l : Led} {mg mb : Loc}

section slices
variable {env : Env} {value e1 e2 e3 : Expr} {p pos : Pos} {Q : Value → Loc → Led → Prop}
theorem T_slice_sn (h : T C (eval value env) m l fun o m1 l1 => T C (eval e1 env) m1 l1 fun a m2 l2 => ∃ x t i u, o = .str x t ∧ a = .int i u ∧ x.length ≤ 1000000 ∧ ∀ t', Q (.str (Txt.slice x (some i) none) t') m2 l2)
    (ht : ∀ o r, letTemporaryGo value o r = pure ()) : T C (eval (.Subscript value (.Slice (some e1) none none p) pos) env) m l Q := by
  intro s P E O c
  refine Subscript_ (h s _ E O fun o h1 tk1 m1 l1 k1 O1 => wpAny_Slice ?_)
  refine k1 _ _ E O1 fun a h2 tk2 m2 l2 k2 O2 => ?_
  obtain ⟨x, t, i, u, rfl, rfl, hx, hq⟩ := k2
  refine wpAny_pure (wpAny_pure ?_)
  exact slice_strN_sn O2.fr O2.nw (fun h' t' k F N => c _ h' k m2 l2 (hq t') ⟨F, N, O2.nd⟩) rfl (ht _) (by rw [sizeLine_eq]; omega)
theorem T_slice_ns (h : T C (eval value env) m l fun o m1 l1 => T C (eval e1 env) m1 l1 fun a m2 l2 => ∃ x t i u, o = .str x t ∧ a = .int i u ∧ x.length ≤ 1000000 ∧ ∀ t', Q (.str (Txt.slice x none (some i)) t') m2 l2)
    (ht : ∀ o r, letTemporaryGo value o r = pure ()) : T C (eval (.Subscript value (.Slice none (some e1) none p) pos) env) m l Q := by
  intro s P E O c
  refine Subscript_ (h s _ E O fun o h1 tk1 m1 l1 k1 O1 => wpAny_Slice (wpAny_pure ?_))
  refine k1 _ _ E O1 fun a h2 tk2 m2 l2 k2 O2 => ?_
  obtain ⟨x, t, i, u, rfl, rfl, hx, hq⟩ := k2
  refine wpAny_pure ?_
  exact slice_strN_ns O2.fr O2.nw (fun h' t' k F N => c _ h' k m2 l2 (hq t') ⟨F, N, O2.nd⟩) rfl (ht _) (by rw [sizeLine_eq]; omega)
theorem T_slice_ss (h : T C (eval value env) m l fun o m1 l1 => T C (eval e1 env) m1 l1 fun a m2 l2 => T C (eval e2 env) m2 l2 fun b m3 l3 => ∃ x t i u j v, o = .str x t ∧ a = .int i u ∧ b = .int j v ∧ x.length ≤ 1000000 ∧ ∀ t', Q (.str (Txt.slice x (some i) (some j)) t') m3 l3)
    (ht : ∀ o r, letTemporaryGo value o r = pure ()) : T C (eval (.Subscript value (.Slice (some e1) (some e2) none p) pos) env) m l Q := by
  intro s P E O c
  refine Subscript_ (h s _ E O fun o h1 tk1 m1 l1 k1 O1 => wpAny_Slice ?_)
  refine k1 _ _ E O1 fun a h2 tk2 m2 l2 k2 O2 => k2 _ _ E O2 fun b h3 tk3 m3 l3 k3 O3 => ?_
  obtain ⟨x, t, i, u, j, v, rfl, rfl, rfl, hx, hq⟩ := k3
  refine wpAny_pure ?_
  exact slice_strN_ss O3.fr O3.nw (fun h' t' k F N => c _ h' k m3 l3 (hq t') ⟨F, N, O3.nd⟩) rfl (ht _) (by rw [sizeLine_eq]; omega)
/-- a slice of a list, with a start and an end -/
theorem T_slice_list (h : T C (eval value env) m l fun o m1 l1 => T C (eval e1 env) m1 l1 fun a m2 l2 => T C (eval e2 env) m2 l2 fun b m3 l3 => ∃ d vs n i u j v, o = .ref d ∧ Seen C l3 d (lo vs n) ∧ a = .int i u ∧ b = .int j v ∧ vs.length ≤ 1000000 ∧
      ∀ d', Q (.ref d') m3 ((d', lo (slicePick vs.toArray (some i) (some j) none).toList) :: l3))
    (ht : ∀ o r, letTemporaryGo value o r = pure ()) : T C (eval (.Subscript value (.Slice (some e1) (some e2) none p) pos) env) m l Q := by
  intro s P E O c
  refine Subscript_ (h s _ E O fun o h1 tk1 m1 l1 k1 O1 => wpAny_Slice ?_)
  refine k1 _ _ E O1 fun a h2 tk2 m2 l2 k2 O2 => k2 _ _ E O2 fun b h3 tk3 m3 l3 k3 O3 => ?_
  obtain ⟨d, vs, n, i, u, j, v, rfl, hs, rfl, rfl, hx, hq⟩ := k3
  refine wpAny_pure ?_
  refine slice_list3 (lo := some i) (hi := some j) (st := none) O3.fr O3.nw (hs.isList O3) (by constructor) (by constructor) (by constructor) (by decide) (fun h' F N => c _ h' _ m3 _ (hq _) ⟨F, ?_, ?_⟩) rfl (ht _) (by rw [sizeLine_eq, List.size_toArray]; omega)
  · simpa using N
  · have := ((O3.push { cls := .type "slice", data := .fields #[.int i u, .int j v, .none] }).push (lo (slicePick vs.toArray (some i) (some j) none).toList)).nd
    simp only [List.map_cons, List.nodup_cons, List.mem_cons, not_or, Heap.size_push] at this ⊢
    exact ⟨this.1.2, this.2.2⟩
/-- a slice of a list, with a start and a step -/
theorem T_slice_step (h : T C (eval value env) m l fun o m1 l1 => T C (eval e1 env) m1 l1 fun a m2 l2 => T C (eval e3 env) m2 l2 fun b m3 l3 => ∃ d vs n i u j v, o = .ref d ∧ Seen C l3 d (lo vs n) ∧ a = .int i u ∧ b = .int j v ∧ j ≠ 0 ∧ vs.length ≤ 1000000 ∧
      ∀ d', Q (.ref d') m3 ((d', lo (slicePick vs.toArray (some i) none (some j)).toList) :: l3))
    (ht : ∀ o r, letTemporaryGo value o r = pure ()) (hsub : ∀ o i, subscripted (.Slice (some e1) none (some e3) p) false o i = operate [o, i] (getItem o i)) : T C (eval (.Subscript value (.Slice (some e1) none (some e3) p) pos) env) m l Q := by
  intro s P E O c
  refine Subscript_ (h s _ E O fun o h1 tk1 m1 l1 k1 O1 => wpAny_Slice ?_)
  refine k1 _ _ E O1 fun a h2 tk2 m2 l2 k2 O2 => wpAny_pure (k2 _ _ E O2 fun b h3 tk3 m3 l3 k3 O3 => ?_)
  obtain ⟨d, vs, n, i, u, j, v, rfl, hs, rfl, rfl, hj, hx, hq⟩ := k3
  refine slice_list3 (lo := some i) (hi := none) (st := some j) O3.fr O3.nw (hs.isList O3) (by constructor) (by constructor) (by constructor) (by simpa using hj) (fun h' F N => c _ h' _ m3 _ (hq _) ⟨F, ?_, ?_⟩) (hsub _ _) (ht _) (by rw [sizeLine_eq, List.size_toArray]; omega)
  · simpa using N
  · have := ((O3.push { cls := .type "slice", data := .fields #[.int i u, .none, .int j v] }).push (lo (slicePick vs.toArray (some i) none (some j)).toList)).nd
    simp only [List.map_cons, List.nodup_cons, List.mem_cons, not_or, Heap.size_push] at this ⊢
    exact ⟨this.1.2, this.2.2⟩
theorem T_item_str {slice : Expr} {x : List Nat} {t u : Tok} {k : Nat} {c : Nat} (hx : x[k]? = some c) (hl : x.length ≤ 1000000) (h : ∀ t', Q (.str (ofL [c]) t') m l)
    (hs : subscripted slice false (.str (ofL x) t) (.int k u) = operate [.str (ofL x) t, .int k u] (getItem (.str (ofL x) t) (.int k u)) := by with_unfolding_all rfl) (ht : ∀ r, letTemporaryGo value (.str (ofL x) t) r = pure () := by intro _; with_unfolding_all rfl) :
    T C (subscriptTail value slice (.str (ofL x) t) (.int k u)) m l Q := by
  intro s P E O kk
  have hk : k < x.length := by rw [List.getElem?_eq_some_iff] at hx; exact hx.1
  have hlen : (ofL x).length = x.length := by simp [ofL, Str.length]
  refine item_str (by
    have : (2 : Int) ^ 63 = 9223372036854775808 := by decide
    simp [fitsSsize]; omega) (by rw [hlen]; omega) (by rw [hlen]; omega) (fun _ => ?_) hs ht
  have e : Txt.item (ofL x) (k : Int) = ofL [c] := by
    rw [item_meets (n := c) (by omega) (by simpa [ofL] using hx)]
  rw [e]
  exact kk _ s.heap _ m l (h _) O
theorem T_len_str {x : List Nat} {t : Tok} (hl : x.length ≤ 1000000) (h : ∀ t', Q (.int x.length t') m l) : T C (call (.builtin "len") [.str (ofL x) t]) m l Q := by
  intro s P E O c
  have hlen : (ofL x).length = x.length := by simp [ofL, Str.length]
  have : (2 : Int) ^ 63 = 9223372036854775808 := by decide
  exact len_str (by rw [hlen]; omega) (by rw [hlen]; exact c _ s.heap _ m l (h _) O)
end slices
end Mine
end

section
open PySem PySem.W PySem.Calls PyProof.Rows
set_option Elab.async false
set_option maxRecDepth 100000
set_option linter.unusedVariables false
set_option linter.unusedSimpArgs false
namespace Mine
variable {C : Cx} {α β : Type} {m : Loc} {l : Led} {mg mb : Loc}

theorem T_assign_tuple2 {env : Env} {e1 e2 : Expr} {k : Nat} {tpos : Pos} {t : Addr} {va vb : Value} {Q : Unit → Loc → Led → Prop} (hh : C.A.handled = none) (ht : Seen C l t (tup [va, vb]))
    (h : T C (assign e1 env va) m l fun _ m1 l1 => T C (assign e2 env vb) m1 l1 Q)
    (he : assignEach [e1, e2] env = [(false, assign e1 env), (false, assign e2 env)] := by rfl) : T C (assign (.Tuple [e1, e2] k tpos) env (.ref t)) m l Q := by
  intro s P E O c
  refine wpAny_assign_Tuple (items := #[va, vb]) hh ⟨_, ht.get O, rfl, 0, rfl⟩ (by rw [he]; rfl) (by rw [he]; rfl) fun h' hx => ?_
  rw [he]
  have O' : Okk C.h₀ C.L h' m l := O.grown fun b o e => hx b o (Nat.ne_of_lt (Heap.lt_size e)) e
  refine assignInOrder_cons (h _ _ E O' fun _ h1 tk1 m1 l1 k1 O1 => assignInOrder_cons (k1 _ _ E O1 fun _ h2 tk2 m2 l2 k2 O2 => assignInOrder_nil (c () h2 tk2 m2 l2 k2 O2)))

theorem Seen.deep {C' : Cx} {a : Addr} {o : Obj} (h : Seen C l a o) (kg : ∀ b o, C.h₀.get? b = some o → C'.h₀.get? b = some o) : Seen C' l a o := h.imp (kg _ _) id
theorem ite_mid {body orelse rest : List Stmt} {env : Env} {Q : Flow → Loc → Led → Prop} {b : Bool} (Mid : Loc → Led → Prop) (h : iteT C body orelse env (fun fl m l => fl = .next ∧ Mid m l) b m l) (k : ∀ m l, Mid m l → T C (execs rest env) m l Q) :
    iteT C body orelse env (nextOr C rest env Q) b m l := by
  cases b with
  | true => exact T.mono h fun fl m' l' ⟨e, hm⟩ => by subst e; exact k m' l' hm
  | false => exact T.mono h fun fl m' l' ⟨e, hm⟩ => by subst e; exact k m' l' hm
/-- a list of strs -/
theorem strs_append {vs us : List Value} {xs ys : List Str} (h : StrsAre vs xs) (k : StrsAre us ys) : StrsAre (vs ++ us) (xs ++ ys) := by
  induction h with
  | nil => exact k
  | cons _ _ _ ih => exact .cons _ _ ih
theorem strs_get {vs : List Value} {xs : List Str} (h : StrsAre vs xs) : ∀ (i : Nat) (x : Str), xs[i]? = some x → ∃ t, vs[i]? = some (.str x t) := by
  induction h with
  | nil => intro i x e; simp at e
  | cons y t _ ih =>
    intro i x e
    cases i with
    | zero => simp at e; subst e; exact ⟨t, rfl⟩
    | succ i => simp at e ⊢; exact ih i x e
theorem strs_len {vs : List Value} {xs : List Str} (h : StrsAre vs xs) : vs.length = xs.length := by
  induction h with
  | nil => rfl
  | cons _ _ _ ih => simp [ih]

/-- what each place of the text is told -/
def ToldAt (C : Cx) (l : Led) (tv : List Value) (sz src : Nat → Nat) : Prop := ∀ i < tv.length, ∃ ti t1 t2, tv[i]? = some (.ref ti) ∧ Seen C l ti (tup [.int (sz i) t1, .int (src i) t2])
theorem ToldAt.cons {tv : List Value} {sz src : Nat → Nat} {p : Addr × Obj} (h : ToldAt C l tv sz src) : ToldAt C (p :: l) tv sz src := fun i hi => let ⟨a, b, c, d, e⟩ := h i hi; ⟨a, b, c, d, e.cons⟩

/-- the pieces lead from place to place, and each is a stretch that stands earlier -/
structure PiecesOk (word : List Nat) (sz src : Nat → Nat) (starts : List Nat) : Prop where
  first : ∀ s, starts[0]? = some s → s = 0
  ne : starts ≠ []
  step : ∀ i s, starts[i]? = some s → s < word.length ∧ s + max 1 (sz s) = starts.getD (i + 1) word.length ∧ ∀ k < sz s, src s + k < s + k ∧ word[src s + k]? = word[s + k]? ∧ s + k < word.length

def esc1 (hand : Nat) (c : Nat) : Str := ofL (escP (escT hand) [c])

theorem pieces {env : Env} {outer : List Env} {r : Nat} (K : Act C env outer (r + 3)) (B : Lib C.prog C.w C.h₀ mg mb) {word : List Nat} {tw : Tok} (hw : word.length ≤ 100) {ta sa : Addr} {tv sv : List Value} {nt ns : Nat} {sz src : Nat → Nat} {starts : List Nat}
    (hta : Seen C l ta (lo tv nt)) (htl : tv.length = word.length) (htold : ToldAt C l tv sz src) (hsa : Seen C l sa (lo sv ns)) (hsv : IntsAre sv (starts.map Int.ofNat)) (hp : PiecesOk word sz src starts) {hand : Nat} (hh : hand < 5) {th : Tok} {Q : Value → Loc → Led → Prop}
    (h : ∀ d ys k, StrsAre ys (word.map (esc1 hand)) → Q (.ref d) m ((d, lo ys k) :: l)) : T C (call (.ref B.d25.f) [.str (ofL word) tw, .ref ta, .ref sa, .int hand th]) m l Q := by
  refine T_call_plain (binds := [("word", .str (ofL word) tw), ("told", .ref ta), ("starts", .ref sa), ("hand", .int hand th)]) K B.S (.inl B.d25.get) B.d25.data (fun h k _ => B.d25.code.keeps k) (fun s k => BindsTo.of_eq rfl) (fun g L' kg Sg Kg => ?_) ?_ ?_ rfl rfl rfl
  · refine T.gen fun m0 hm0 => ?_
    have h0 : m0 "word" = some (.str (ofL word) tw) := by rw [hm0]; rfl
    have h1 : m0 "told" = some (.ref ta) := by rw [hm0]; rfl
    have h2 : m0 "starts" = some (.ref sa) := by rw [hm0]; rfl
    have h3 : m0 "hand" = some (.int hand th) := by rw [hm0]; rfl
    clear hm0
    have hg19 := B.d19.g
    have hN := B.N
    have sta : Seen (C.deep (envX "_law_pieces" (fScope 25) L' B.d25.f B.d25.cdv []) g L') l ta (lo tv nt) := hta.imp (kg _ _) id
    have ssa : Seen (C.deep (envX "_law_pieces" (fScope 25) L' B.d25.f B.d25.cdv []) g L') l sa (lo sv ns) := hsa.imp (kg _ _) id
    refine T_cons ?_
    repeat walk_at "t"
    refine T_newList (by decide) fun d => ?_
    repeat walk_at "t"
    with_reducible refine T_For ?_ ?hs ?ht
    case hs => intro _; rfl
    case ht => intro _ _; rfl
    repeat walk_at "t"
    refine T_iter_list ssa.cons fun I o hst => ?_
    have hsl : sv.length = starts.length := by rw [hsv.length, List.length_map]
    refine ⟨I, _, _, _, _, o, _, fun k m' l' => m' "word" = some (.str (ofL word) tw) ∧ m' "told" = some (.ref ta) ∧ m' "hand" = some (.int hand th) ∧ m' "spelled" = some (.ref d) ∧
      ∃ ys n, StrsAre ys ((word.take (starts.getD k word.length)).map (esc1 hand)) ∧ l' = (d, lo ys n) :: l, rfl, Iter.list Kg.hand I sa sv ns, hst, rfl, ?_, ?_, ?_, ?_⟩
    · refine ⟨by walk_at "loc", by walk_at "loc", by walk_at "loc", by walk_at "loc", [], 0, ?_, rfl⟩
      have e : starts.getD 0 word.length = 0 := by
        cases hs : starts with
        | nil => exact absurd hs hp.ne
        | cons s r => exact hp.first s (by rw [hs]; rfl)
      rw [e]
      exact .nil
    · rintro k m' l' ⟨_, _, _, _, ys, n, _, rfl⟩
      exact ssa.cons
    · rintro k v o' m' l' hk hv ⟨q1, q2, q3, q4, ys, n, hys, rfl⟩
      with_reducible refine T_assign_Name ?_
      repeat walk_at "t"
      have hks : k < starts.length := hsl ▸ hk
      obtain ⟨ts, hts⟩ := hsv.get k ((starts[k] : Nat) : Int) (by simp [hks])
      rw [hts] at hv
      obtain rfl := Option.some.inj hv
      generalize hS : starts[k] = S at *
      have hS' : starts[k]? = some S := by rw [← hS]; simp [hks]
      obtain ⟨hSl, hnx, hcp⟩ := hp.step k S hS'
      obtain ⟨ti, t1, t2, hti, hsi⟩ := htold S (by omega)
      repeat walk_at "t"
      refine T_item_list (x := .ref ti) (n := nt) (vs := tv) (sta.cons.cons) (by omega) (by omega) (by simpa using hti) ?_
      with_reducible refine T_assign_tuple2 Kg.hand (Seen.cons (Seen.cons (Seen.deep hsi kg))) ?_ ?he
      case he => rfl
      with_reducible refine T_assign_Name ?_
      repeat walk_at "t"
      with_reducible refine T_assign_Name ?_
      repeat walk_at "t"
      have eS : starts.getD k word.length = S := by rw [List.getD_eq_getElem?_getD, hS']; rfl
      rw [eS] at hys
      have hys' := strs_len hys
      rw [List.length_map, List.length_take, Nat.min_eq_left (Nat.le_of_lt hSl)] at hys'
      refine ite_mid (fun m2 l2 => m2 "word" = some (.str (ofL word) tw) ∧ m2 "told" = some (.ref ta) ∧ m2 "hand" = some (.int hand th) ∧ m2 "spelled" = some (.ref d) ∧ m2 "size" = some (.int (sz S) t1) ∧ m2 "source" = some (.int (src S) t2) ∧
        ∃ ys2 n2, StrsAre ys2 ((word.take (S + (if sz S = 0 then 1 else 0))).map (esc1 hand)) ∧ l2 = (I, o') :: (d, lo ys2 n2) :: l) ?_ ?_
      · by_cases hz : sz S = 0
        · refine go_true (by simp [hz]) ?_
          refine T_cons ?_
          repeat walk_at "t"
          with_reducible refine T_method_list slot_list_append ?ht1 (Seen.led (List.Mem.tail _ (List.Mem.head _))) ?_
          case ht1 => rfl
          repeat walk_at "t"
          with_reducible refine T_callWith_def B.d19.data ?_ ?he
          case he => rfl
          repeat walk_at "t"
          have hWS : word[S]? = some word[S] := by simp [hSl]
          refine T_item_str hWS (by omega) fun tc => ?_
          repeat walk_at "t"
          refine ⟨Seen.base (kg _ _ B.d19.get), ?_⟩
          with_reducible refine written Kg (B.keeps kg Sg) hh ?hx1 ?_
          case hx1 => show 1 ≤ 100; decide
          intro te
          repeat walk_at "t"
          refine T_append (Rep.there Rep.here) (by rw [sizeLine_eq]; omega) ⟨rfl, ?_⟩
          repeat walk_at "t"
          refine ⟨rfl, by walk_at "loc", by walk_at "loc", by walk_at "loc", by walk_at "loc", by walk_at "loc", by walk_at "loc", ys ++ [.str (esc1 hand word[S]) te], n + 1, ?_, rfl⟩
          rw [if_pos hz, List.take_add_one, hWS, List.map_append]
          exact strs_append hys (.cons _ _ .nil)
        · refine go_false (by simpa using hz) ?_
          repeat walk_at "t"
          exact ⟨rfl, by walk_at "loc", by walk_at "loc", by walk_at "loc", by walk_at "loc", by walk_at "loc", by walk_at "loc", ys, n, by simpa [hz] using hys, rfl⟩
      · rintro m2 l2 ⟨r1, r2, r3, r4, r5, r6, ys2, n2, hy2, rfl⟩
        refine T_cons ?_
        with_reducible refine T_For ?_ ?hs1 ?ht1
        case hs1 => intro _; rfl
        case ht1 => intro _ _; rfl
        repeat walk_at "t"
        refine T_range1 fun rr u1 u3 => ?_
        have hszl : sz S ≤ 100 := by
          by_cases hz : sz S = 0
          · omega
          · have := (hcp (sz S - 1) (by omega)).2.2
            omega
        have hrs := range_small (a := 0) (b := (sz S : Int)) (by omega) (by omega) (by omega) (by omega)
        refine T_iter_range (Seen.led (List.Mem.head _)) hrs.1 (fun I2 o2 hst2 => ?_) hrs.2
        have hzn : ((sz S : Int) - 0).toNat = sz S := by omega
        rw [hzn] at hst2
        refine ⟨I2, _, _, _, _, o2, _, fun j m3 l3 => m3 "word" = some (.str (ofL word) tw) ∧ m3 "told" = some (.ref ta) ∧ m3 "hand" = some (.int hand th) ∧ m3 "spelled" = some (.ref d) ∧ m3 "source" = some (.int (src S) t2) ∧
          ∃ ys2 n2, StrsAre ys2 ((word.take (S + (if sz S = 0 then 1 else 0) + j)).map (esc1 hand)) ∧ l3 = (rr, rng 0 (sz S) 1 u1 t1 u3) :: (I, o') :: (d, lo ys2 n2) :: l, rfl, Iter.range Kg.hand I2 0 (sz S), hst2, rfl, ?_, fun _ _ _ _ => trivial, ?_, ?_⟩
        · exact ⟨r1, r2, r3, r4, r6, ys2, n2, hy2, rfl⟩
        · rintro j v o3 m3 l3 hj ⟨tv3, rfl⟩ ⟨s1, s2, s3, s4, s6, ys3, n3, hy3, rfl⟩
          with_reducible refine T_assign_Name ?_
          have hz0 : ¬ sz S = 0 := by omega
          rw [if_neg hz0] at hy3
          obtain ⟨c1, c2, c3⟩ := hcp j hj
          have hl3 := strs_len hy3
          rw [List.length_map, List.length_take, Nat.min_eq_left (by omega)] at hl3
          repeat walk_at "t"
          with_reducible refine T_method_list slot_list_append ?ht2 (Seen.led (List.Mem.tail _ (List.Mem.tail _ (List.Mem.tail _ (List.Mem.head _))))) ?_
          case ht2 => rfl
          repeat walk_at "t"
          have hsrc : src S + j < ys3.length := by omega
          have hWj : word[S + j]? = some word[S + j] := by simp [c3]
          have hW2 : ((word.take (S + 0 + j)).map (esc1 hand))[src S + j]? = some (esc1 hand word[S + j]) := by
            rw [List.getElem?_map, List.getElem?_take, if_pos (by omega), c2, hWj]; rfl
          obtain ⟨t9, hy9⟩ := strs_get hy3 _ _ hW2
          refine T_item_list (x := .str (esc1 hand word[S + j]) t9) (n := n3) (vs := ys3) (Seen.led (List.Mem.tail _ (List.Mem.tail _ (List.Mem.tail _ (List.Mem.head _))))) (by omega) (by omega) ?_ ?_
          · have e9 : ((src S : Int) + (0 + (j : Int))).toNat = src S + j := by omega
            rw [e9]; exact hy9
          repeat walk_at "t"
          refine T_append (Rep.there (Rep.there (Rep.there Rep.here))) (by rw [sizeLine_eq]; omega) ⟨rfl, ?_⟩
          repeat walk_at "t"
          refine go_for ⟨_, .refl _, by walk_at "loc", by walk_at "loc", by walk_at "loc", by walk_at "loc", by walk_at "loc", ys3 ++ [.str (esc1 hand word[S + j]) t9], n3 + 1, ?_, rfl⟩
          rw [if_neg hz0, show S + 0 + (j + 1) = (S + 0 + j) + 1 by omega, List.take_add_one, show S + 0 + j = S + j by omega, hWj, List.map_append]
          exact strs_append hy3 (.cons _ _ .nil)
        · rintro m3 l3 ⟨s1, s2, s3, s4, s6, ys3, n3, hy3, rfl⟩
          repeat walk_at "t"
          refine go_for ⟨_, .drop (.refl _), s1, s2, s3, s4, ys3, n3, ?_, rfl⟩
          rw [← hnx]
          by_cases hz : sz S = 0
          · rw [if_pos hz, hz] at hy3; rw [hz]; exact hy3
          · rw [if_neg hz] at hy3; rw [Nat.max_eq_right (by omega)]; exact hy3
    · rintro m' l' ⟨q1, q2, q3, q4, ys, n, hys, rfl⟩
      repeat walk_at "t"
      refine h d ys n ?_
      have e : starts.getD sv.length word.length = word.length := by
        rw [List.getD_eq_getElem?_getD, List.getElem?_eq_none (by omega)]; rfl
      rw [e, List.take_length] at hys
      exact hys
  · intro y hy
    simp only [List.mem_cons, List.not_mem_nil, or_false] at hy
    rcases hy with rfl | rfl | rfl | rfl <;> rfl
  · decide
end Mine
end

section
open PySem PySem.W PySem.Calls PyProof.Rows
set_option Elab.async false
set_option maxRecDepth 100000
set_option linter.unusedVariables false
set_option linter.unusedSimpArgs false
namespace Mine
variable {C : Cx} {α β : Type} {m : Loc} {l : Led} {mg mb : Loc}

/-- a store into a cell -/
theorem T_storeC {cn : Str} {cs : Scope} {a : Addr} {cd : Value} {cl : List (Str × Addr)} {x : Str} {v : Value} {d : Addr} {o : Obj} {v₀ : Option Value} {g : Obj → Led} {Q : Unit → Loc → Led → Prop} (hc : cl.lookup x = some d) (r : Rep l d o g) (hd : o.data = .cell v₀)
    (h : ∀ o', o'.data = .cell (some v) → Q () m (g o')) (hk : cs.kind = .function := by rfl) (hx : (envX cn cs C.L a cd cl).kindOf x = some .cell := by rfl) : T C (storeName (envX cn cs C.L a cd cl) x v) m l Q := by
  intro s P E O k
  refine wpAny_storeName_cell hk hx hc ⟨o, (O.nw _ r.mem).1, hd⟩ fun h' hv hs => ?_
  obtain ⟨o', ho', hd'⟩ := hv
  exact k () h' s.toks m _ (h o' hd') (O.same r hs.extBut ho')

section lam
variable {cn : Str} {cs : Scope} {a c P : Addr} {cl clos : List (Str × Addr)} {params : Arguments} {body : Expr} {scope : Scope} {ps : Array Value} {pos : Pos} {Q : Value → Loc → Led → Prop}
theorem Stat.bAt {h₀ h : Heap} (S : Stat mg mb h₀) (k : ∀ b o, h₀.get? b = some o → h.get? b = some o) {P : Addr} (hP : h₀.get? P = none) : h.BuiltinsAt mg P := by
  obtain ⟨bm, ob, b1, b2, b3, b4, b5, b6, b7⟩ := S.bm
  exact ⟨bm, ob, b1, b2, b3, (fun q => by rw [q, hP] at b4; cases b4), k _ _ b4, b5, b6, b7⟩
theorem Stat.neP {h₀ : Heap} (S : Stat mg mb h₀) {P : Addr} (hP : h₀.get? P = none) : mainGlobals ≠ P := fun q => by
  obtain ⟨o, es, ep, e, hd, _⟩ := S.g
  rw [q, hP] at e; cases e
/-- a lambda is made for the first time: its code is laid into the table -/
theorem T_lamNew {g : Obj → Led} (S : Stat mg mb C.h₀) (CH : CodeHd C.h₀ c P) (r : Rep l P (tabObj ps) g) (ht : TriplesOk ps.toList) (hnf : codeAmong pos ps.toList = none) (hdef : defaultsOf params (envX cn cs C.L a (.ref c) cl) = ([], []))
    (hcl : closureFor scope (envX cn cs C.L a (.ref c) cl) = pure clos)
    (h : ∀ f c' oc ctv, RecO c' ((envX cn cs C.L a (.ref c) cl).qual ++ "<lambda>") oc →
      Q (.ref f) m ((f, kla_obj "<lambda>" ((envX cn cs C.L a (.ref c) cl).qual ++ "<lambda>") params body scope clos ((mg "__name__").getD .none) c' ctv) :: (c', oc) :: g (tabObj (ps ++ #[rawInt pos.line, rawInt pos.col, .ref c'])))) :
    T C (eval (.Lambda params body scope pos) (envX cn cs C.L a (.ref c) cl)) m l Q := by
  intro s P' E O k
  have hm := O.nw _ r.mem
  refine kla_eval hdef ?_
  refine kla_makeFunction (mg := mg) hcl rfl (S.g.keeps O.fr.keep) rfl (CH.keeps O.fr.keep) hm.1 ht hnf (S.neP hm.2.2) (S.bAt O.fr.keep hm.2.2) fun c' ctv h' tk hx hge hlt hrec htb => ?_
  obtain ⟨c₂, oc, vs, t, e2, hoc, hd, hv⟩ := id hrec
  cases e2
  have O1 : Okk C.h₀ C.L h' m (g (tabObj (ps ++ #[rawInt pos.line, rawInt pos.col, .ref c']))) := O.same r hx htb
  have hPc : c' ≠ P := fun q => by
    have := Heap.lt_size hm.1
    rw [q] at hge
    exact absurd (Nat.lt_of_lt_of_le this hge) (Nat.lt_irrefl _)
  have O2 : Okk C.h₀ C.L h' m ((c', oc) :: g (tabObj (ps ++ #[rawInt pos.line, rawInt pos.col, .ref c']))) := by
    refine ⟨O1.fr, fun p hp => ?_, ?_⟩
    · rcases List.mem_cons.mp hp with rfl | hp
      · refine ⟨hoc, Nat.ne_of_gt (Nat.lt_of_lt_of_le O.fr.ns.lt hge), ?_⟩
        cases q : C.h₀.get? c' with
        | none => rfl
        | some o' => exact absurd (Nat.lt_of_lt_of_le (Heap.lt_size (O.fr.keep _ _ q)) hge) (Nat.lt_irrefl _)
      · exact O1.nw p hp
    · simp only [List.map_cons, List.nodup_cons]
      refine ⟨fun hq => ?_, O1.nd⟩
      obtain ⟨p, hp, e⟩ := List.mem_map.mp hq
      obtain ⟨pre, post, rfl, eg⟩ := r
      rw [eg] at hp
      have hold : ∀ q ∈ pre ++ (P, tabObj ps) :: post, q.1 < s.heap.objs.size := fun q hq => Heap.lt_size (O.nw q hq).1
      have : p.1 < s.heap.objs.size := by
        rcases List.mem_append.mp hp with hp | hp
        · exact hold p (List.mem_append_left _ hp)
        · rcases List.mem_cons.mp hp with rfl | hp
          · exact Heap.lt_size hm.1
          · exact hold p (List.mem_append_right _ (List.mem_cons_of_mem _ hp))
      rw [e] at this
      exact absurd (Nat.lt_of_lt_of_le this hge) (Nat.lt_irrefl _)
  exact k _ _ tk m _ (h h'.objs.size c' oc ctv (recO_of hrec hoc)) (O2.push _)
/-- a lambda is made again -/
theorem T_lamHit {c' : Addr} (S : Stat mg mb C.h₀) (CH : CodeHd C.h₀ c P) (hmem : (P, tabObj ps) ∈ l) (ht : TriplesOk ps.toList) (hf : codeAmong pos ps.toList = some (.ref c')) (hdef : defaultsOf params (envX cn cs C.L a (.ref c) cl) = ([], []))
    (hcl : closureFor scope (envX cn cs C.L a (.ref c) cl) = pure clos)
    (h : ∀ f ctv, Q (.ref f) m ((f, kla_obj "<lambda>" ((envX cn cs C.L a (.ref c) cl).qual ++ "<lambda>") params body scope clos ((mg "__name__").getD .none) c' ctv) :: l)) :
    T C (eval (.Lambda params body scope pos) (envX cn cs C.L a (.ref c) cl)) m l Q := by
  intro s P' E O k
  have hm := O.nw _ hmem
  refine kla_eval hdef ?_
  refine kla_makeFunctionHit (mg := mg) hcl rfl (S.g.keeps O.fr.keep) rfl (CH.keeps O.fr.keep) hm.1 ht hf (S.bAt O.fr.keep hm.2.2) fun ctv h' tk hk hsz => ?_
  exact k _ _ tk m _ (h h'.objs.size ctv) ((O.grown hk).push _)
end lam

/-- a lambda is called -/
theorem T_call_lam {env : Env} {outer : List Env} {r : Nat} (K : Act C env outer (r + 1)) (S : Stat mg mb C.h₀) {name qual : Str} {params : Arguments} {body : Expr} {scope : Scope} {cl : List (Str × Addr)} {pm ctv : Value} {c' f : Addr} {oc : Obj} {pos : List Value} {binds : List (Str × Value)} {Q : Value → Loc → Led → Prop}
    (ho : (f, kla_obj name qual params body scope cl pm c' ctv) ∈ l) (hc : (c', oc) ∈ l) (hrec : RecO c' qual oc) (hbind : bindArgs (kla_fn name qual params body scope cl pm (.ref c') ctv) ⟨pos, []⟩ = pure binds) (hloc : ∀ y ∈ binds, scope.names.lookup y.1 = some .local)
    (h : ∀ (g : Heap) L', (∀ b o, C.h₀.get? b = some o → g.get? b = some o) → Stat mg mb g → Act (C.deep (envX qual scope L' f (.ref c') cl) g L') (envX qual scope L' f (.ref c') cl) (env :: outer) r →
      T (C.deep (envX qual scope L' f (.ref c') cl) g L') (eval body (envX qual scope L' f (.ref c') cl)) (fun y => binds.reverse.lookup y) l (fun v _ l' => Q v m l'))
    (hcell : ∀ x ∈ scope.names, x.2 ≠ .cell) (hco : scope.isCoroutine = false := by rfl) (hgen : scope.isGenerator = false := by rfl) (hk : scope.kind = .function := by rfl) :
    T C (call (.ref f) pos []) m l Q := by
  intro s P E O c
  obtain ⟨A₀, base, B⟩ := K.below
  refine wpAny_call ?_
  obtain ⟨FG, BG, st, lv⟩ := groundX (R := fun r s' => match r with | .ok (.ret v) => P v s' | .ok _ => False | .error e => E e s') B O.fr O.nw K.frames K.frame K.kind
  refine kla_callFunE (by show C.A.depth < 1000; have := K.depth; omega) (O.nw _ ho).1 rfl hco hgen rfl (hrec _ (O.nw _ hc).1) ?_
  rw [hbind]
  refine wpAny_pure (wpAny_newFunctionEnv hcell hloc (fun h₁ hns hsb => ⟨(S.nolimit.keeps O.fr.keep).fresh _ hsb, ?_⟩) hk)
  show codeAny _ _ (.expr body (envX qual scope s.heap.objs.size f (.ref c') cl)) _ _
  have hk₁ : ∀ b o, s.heap.get? b = some o → h₁.get? b = some o := fun b o e => hsb.extBut b o (Nat.ne_of_lt (Heap.lt_size e)) (Heap.get?_push_of_some _ e)
  have K' : Act (C.deep (envX qual scope s.heap.objs.size f (.ref c') cl) (hideAll s.heap (l.map (·.1))) s.heap.objs.size) (envX qual scope s.heap.objs.size f (.ref c') cl) (env :: outer) r := K.deep BG rfl hk
  refine kla_codeExpr (h _ s.heap.objs.size st (S.keeps st) K' _ _ _ ⟨⟨hns, fun b o e => hk₁ b o (of_hideAll _ e), Nat.le_of_eq (hideAll_size _ _)⟩,
    fun p hp => ⟨hk₁ _ _ (O.nw p hp).1, Nat.ne_of_lt (Heap.lt_size (O.nw p hp).1), hideAll_none _ (List.mem_map_of_mem hp)⟩, O.nd⟩ fun v h' tk m' l' q O' => ?_)
  exact lv v _ ⟨_, m', l', O'.fr, O'.nw, fun F N => c _ h' tk m l' q ⟨F, N, O'.nd⟩⟩
end Mine
end

section
open PySem PySem.W PySem.Calls PyProof.Rows
set_option Elab.async false
set_option maxRecDepth 100000
set_option linter.unusedVariables false
set_option linter.unusedSimpArgs false
namespace Mine
variable {C : Cx} {α β : Type} {m : Loc} {l : Led} {mg mb : Loc}

theorem T_newTuple {vs : List Value} (hs : vs.length ≤ sizeLine) {Q : Value → Loc → Led → Prop} (h : ∀ d, Q (.ref d) m ((d, tup vs) :: l)) : T C (newTuple vs) m l Q := by
  intro s P E O c
  refine wpAny_newTuple ?_ hs
  exact c _ _ s.toks m _ (h _) (O.push (tup vs))

theorem T_max2 {a b : Int} {t u : Tok} {Q : Value → Loc → Led → Prop} (hh : C.A.handled = none) (h : ∀ t', Q (.int (max a b) t') m l) : T C (call (.builtin "max") [.int a t, .int b u]) m l Q := by
  intro s P E O c
  refine max_two_ints hh fun h' tk hk => ?_
  by_cases hab : b > a
  · rw [if_pos hab]
    have e : max a b = b := by omega
    exact c _ h' tk m l (by have := h u; rw [e] at this; exact this) (O.grown hk)
  · rw [if_neg hab]
    have e : max a b = a := by omega
    exact c _ h' tk m l (by have := h t; rw [e] at this; exact this) (O.grown hk)

theorem intItems_at' {xs : Array (Int × Tok)} {vs : List Value} {ns : List Int} (hx : vs.toArray = intItems xs) (hi : IntsAre vs ns) : ns = xs.toList.map (·.1) := by
  rw [← nums_intItems, ← hx]
  exact (show numsOf vs.toArray.toList = ns from hi.numsOf).symm
theorem T_maxL {a : Addr} {vs : List Value} {n : Nat} {ns : List Int} (hh : C.A.handled = none) (hl : Seen C l a (lo vs n)) (hi : IntsAre vs ns) (hne : ns ≠ []) {Q : Value → Loc → Led → Prop} (h : ∀ x t, x ∈ ns → (∀ y ∈ ns, y ≤ x) → Q (.int x t) m l) :
    T C (call (.builtin "max") [.ref a]) m l Q := by
  intro s P E O c
  obtain ⟨xs, hx⟩ := hi.allInts.items
  have en := intItems_at' hx hi
  have hsz : xs.size = ns.length := by rw [en]; simp
  have h0 : 0 < xs.size := by rw [hsz]; exact List.length_pos_iff.mpr hne
  refine max_intList hh (hx ▸ hl.isList O : s.heap.IsList a (intItems xs)) h0 fun v h' tk hv hk => ?_
  obtain ⟨b1, b2⟩ := argBest_gt (numAt xs) (xs.size - 1)
  generalize argBest (fun i j => decide (numAt xs i > numAt xs j)) (xs.size - 1) = k at *
  have hk' : k < xs.size := by omega
  have ev : v = .int (numAt xs k) (xs[k]).2 := by
    have e1 : (intItems xs)[k]? = some (.int (xs[k]).1 (xs[k]).2) := by simp [intItems, hk']
    rw [e1] at hv
    have := Option.some.inj hv
    rw [← this]
    simp [numAt, hk']
  subst ev
  refine c _ h' tk m l (h _ _ ?_ ?_) (O.grown hk)
  · rw [en, numAt_eq, List.getD_eq_getElem?_getD, List.getElem?_eq_getElem (by simpa using hk')]
    exact List.getElem_mem _
  · intro y hy
    obtain ⟨j, hj, rfl⟩ := List.mem_iff_getElem.mp hy
    have := b2 j (by omega)
    rw [numAt_eq, ← en, List.getD_eq_getElem?_getD, List.getElem?_eq_getElem hj] at this
    exact this
theorem T_minL {a : Addr} {vs : List Value} {n : Nat} {ns : List Int} (hh : C.A.handled = none) (hl : Seen C l a (lo vs n)) (hi : IntsAre vs ns) (hne : ns ≠ []) {Q : Value → Loc → Led → Prop} (h : ∀ x t, x ∈ ns → (∀ y ∈ ns, x ≤ y) → Q (.int x t) m l) :
    T C (call (.builtin "min") [.ref a]) m l Q := by
  intro s P E O c
  obtain ⟨xs, hx⟩ := hi.allInts.items
  have en := intItems_at' hx hi
  have hsz : xs.size = ns.length := by rw [en]; simp
  have h0 : 0 < xs.size := by rw [hsz]; exact List.length_pos_iff.mpr hne
  refine min_intList hh (hx ▸ hl.isList O : s.heap.IsList a (intItems xs)) h0 fun v h' tk hv hk => ?_
  obtain ⟨b1, b2⟩ := argBest_lt (numAt xs) (xs.size - 1)
  generalize argBest (fun i j => decide (numAt xs i < numAt xs j)) (xs.size - 1) = k at *
  have hk' : k < xs.size := by omega
  have ev : v = .int (numAt xs k) (xs[k]).2 := by
    have e1 : (intItems xs)[k]? = some (.int (xs[k]).1 (xs[k]).2) := by simp [intItems, hk']
    rw [e1] at hv
    have := Option.some.inj hv
    rw [← this]
    simp [numAt, hk']
  subst ev
  refine c _ h' tk m l (h _ _ ?_ ?_) (O.grown hk)
  · rw [en, numAt_eq, List.getD_eq_getElem?_getD, List.getElem?_eq_getElem (by simpa using hk')]
    exact List.getElem_mem _
  · intro y hy
    obtain ⟨j, hj, rfl⟩ := List.mem_iff_getElem.mp hy
    have := b2 j (by omega)
    rw [numAt_eq (j := j), ← en, List.getD_eq_getElem?_getD, List.getElem?_eq_getElem hj] at this
    exact this
theorem T_sumL {a : Addr} {vs : List Value} {n : Nat} {ns : List Int} (hh : C.A.handled = none) (hl : Seen C l a (lo vs n)) (hi : IntsAre vs ns) {Q : Value → Loc → Led → Prop} (h : ∀ t, Q (.int ns.sum t) m l) :
    T C (call (.builtin "sum") [.ref a]) m l Q := by
  intro s P E O c
  exact LSm.sum_ints O.fr O.nw hh (hl.isList O) hi fun h' tk t' F N => c _ h' tk m l (h t') ⟨F, N, O.nd⟩

theorem T_find {x y : Str} {t u : Tok} {Q : Value → Loc → Led → Prop} (h : ∀ t', Q (.int (Txt.find x y) t') m l) : T C (call (.builtin "str.find") [.str x t, .str y u]) m l Q :=
  fun s P E O c => SC.find (c _ s.heap _ m l (h _) O)
theorem T_join {x : Str} {t : Tok} {a : Addr} {vs : List Value} {n : Nat} {ys : List Str} {Q : Value → Loc → Led → Prop} (hl : Seen C l a (lo vs n)) (hi : StrsAre vs ys) (hsep : x.length ≤ 16) (hw : (ys.map (·.length)).sum + ys.length ≤ 1048576)
    (h : ∀ t', Q (.str (Txt.join x ys) t') m l) : T C (call (.builtin "str.join") [.str x t, .ref a]) m l Q :=
  fun s P E O c => join_listW (items := vs.toArray) (hl.isList O) (by simpa using hi) hsep hw fun t' k => c _ s.heap k m l (h t') O

theorem room_act {env : Env} {outer : List Env} {r : Nat} (K : Act C env outer r) : C.A.units + 64 < cLine := by
  have := K.units
  show C.A.units + 64 < 9900
  omega
theorem T_ne_data {a b : Addr} {vs us : List Value} {n k : Nat} {ds es : List PyData} {Q : Value → Loc → Led → Prop} {env : Env} {outer : List Env} {r : Nat} (K : Act C env outer r) (hl : Seen C l a (lo vs n)) (hl' : Seen C l b (lo us k)) (hv : CarriedAll vs ds) (hu : CarriedAll us es)
    (hs : SeqAt.shaped (.list ds) = true) (hs' : SeqAt.shaped (.list es) = true) (h : Q (.bool (!PyData.eqv (.list ds) (.list es))) m l) : T C (compareOp .NotEq (.ref a) (.ref b)) m l Q :=
  fun s P E O c => ne_dataH (reads_newData (hl.isList O) hv) (reads_newData (hl'.isList O) hu) hs hs' (room_act K) (c _ s.heap s.toks m l h O)
theorem T_eq_data {a b : Addr} {vs us : List Value} {n k : Nat} {ds es : List PyData} {Q : Value → Loc → Led → Prop} {env : Env} {outer : List Env} {r : Nat} (K : Act C env outer r) (hl : Seen C l a (lo vs n)) (hl' : Seen C l b (lo us k)) (hv : CarriedAll vs ds) (hu : CarriedAll us es)
    (hs : SeqAt.shaped (.list ds) = true) (hs' : SeqAt.shaped (.list es) = true) (h : Q (.bool (PyData.eqv (.list ds) (.list es))) m l) : T C (compareOp .Eq (.ref a) (.ref b)) m l Q :=
  fun s P E O c => eq_dataH (reads_newData (hl.isList O) hv) (reads_newData (hl'.isList O) hu) hs hs' (room_act K) (c _ s.heap s.toks m l h O)
theorem eqv_self {ds : List PyData} (hs : SeqAt.shaped (.list ds) = true) : PyData.eqv (.list ds) (.list ds) = true := SeqAt.eqv_refl _ (SeqAt.canLay_of_shaped hs)

theorem T_len_range {r : Addr} {a b : Int} {t u v : Tok} (hr : Seen C l r (rng a b 1 t u v)) (ha : -1000000 ≤ a) (ha' : a ≤ 1000000) (hb : -1000000 ≤ b) (hb' : b ≤ 1000000) {Q : Value → Loc → Led → Prop} (h : ∀ t, Q (.int (b - a).toNat t) m l) :
    T C (call (.builtin "len") [.ref r]) m l Q :=
  fun s P E O c => call_len_range (hr.get O) (range_small ha ha' hb hb').2 (by omega) (c _ s.heap _ m l (h _) O)
open PySem.AutoSeq1 (wpAny_loadPart') in
theorem call_getitem_range {prog : Program} {w : World} {A : Around} {E : Value → Shared → Prop} {s : Shared} {r : Addr} {a b : Int} {t u v ti : Tok} {i : Int} {Q : Value → Shared → Prop} (hr : IsRange s.heap r a b 1 t u v) (h0 : 0 ≤ i) (h1 : i < Builtin.Range.rangeSize a b 1)
    (h : ∀ t' tk, Q (.int (a + i) t') { s with toks := tk }) : wpAny (model prog w) A (call (.builtin "range.__getitem__") [.ref r, .int i ti]) Q E s := by
  have hT : s.TypeIs (.ref r) "range" := ⟨_, hr, rfl⟩
  refine wpAny_call_entry F.slot_range_getitem hT F.entry_range_getitem ?_ (F.args_range_getitem_2 _ _)
  obtain ⟨hp, g, d, tk, os⟩ := s
  wp_walk using wpAny_loadPart' hr
  refine wpAny_of_eq F.slot_int_index.lookup ?_
  wp_walk
  rw [if_neg (show ¬ i < 0 by omega), Int.mul_one, if_neg (by simp; omega)]
  show wpAny _ _ (retInt (a + i)) _ _ _
  wp_walk
  exact ⟨_, rfl, h _ _⟩
theorem T_item_range {value slice : Expr} {r : Addr} {a b i : Int} {t u v ti : Tok} (hr : Seen C l r (rng a b 1 t u v)) (h0 : 0 ≤ i) (h1 : i < Builtin.Range.rangeSize a b 1) {Q : Value → Loc → Led → Prop} (h : ∀ t, Q (.int (a + i) t) m l)
    (hs : subscripted slice false (.ref r) (.int i ti) = operate [.ref r, .int i ti] (getItem (.ref r) (.int i ti)) := by with_unfolding_all rfl) (ht : ∀ x, letTemporaryGo value (.ref r) x = pure () := by intro _; with_unfolding_all rfl) : T C (subscriptTail value slice (.ref r) (.int i ti)) m l Q := by
  intro s P E O c
  have hT : s.TypeIs (.ref r) "range" := ⟨_, hr.get O, rfl⟩
  refine subscriptTail_ops hT F.slot_range_getitem.lookup (getItem_slot hT (by decide) F.slot_range_getitem ?_) hs ht
  exact call_getitem_range (hr.get O) h0 h1 fun t' tk => c _ _ tk m l (h t') O
theorem SeqOk.range {r : Addr} {b : Nat} {t u v : Tok} (hr : Seen C l r (rng 0 b 1 t u v)) (hb : b ≤ 1000000) : SeqOk C l (.ref r) b (fun i x => ∃ t, x = .int i t) where
  len := fun C' m Q L h => T_len_range (hr.imp (L.keep _ _) id) (by omega) (by omega) (by omega) (by omega) (by simpa using h)
  item := fun C' m Q x y p q i u L hh hi h => by
    refine T_item_range (C := C') (hr.imp (L.keep _ _) id) (by omega) ?_ (fun t => ?_)
    · have := (range_small (a := 0) (b := (b : Int)) (by omega) (by omega) (by omega) (by omega)).2
      rw [this]; omega
    · exact h _ ⟨t, by rw [Int.zero_add]⟩
end Mine
end

section
open PySem PySem.W PySem.Calls PyProof.Rows
set_option Elab.async false
set_option maxRecDepth 100000
set_option linter.unusedVariables false
set_option linter.unusedSimpArgs false
namespace Mine
variable {C : Cx} {α β : Type} {m : Loc} {l : Led} {mg mb : Loc}

theorem T_call_cellsX {env : Env} {outer : List Env} {name qual : Str} {params : Arguments} {body : List Stmt} {scope : Scope} {dV kV doc pm cdv ct : Value} {an : Option Addr} {fo : Obj} {f : Addr} {pos : List Value} {kw : List (Str × Value)}
  {binds : List (Str × Value)} {r : Nat} (K : Act C env outer (r + 1)) (S : Stat mg mb C.h₀) {Q : Value → Loc → Led → Prop}
    (ho : C.h₀.get? f = some fo) (hd : fo.data = .func (fnX name qual params body scope [] dV kV doc pm an cdv ct)) (hcd : C.h₀.CodeRec cdv qual)
    (hbind : ∀ s : Shared, (∀ b o, C.h₀.get? b = some o → s.heap.get? b = some o) → BindsTo s (fnX name qual params body scope [] dV kV doc pm an cdv ct) ⟨pos, kw⟩ binds)
    (hkind : (binds.all fun y => scope.names.lookup y.1 == some .local || scope.names.lookup y.1 == some .cell) = true)
    (hnd : ((cellsFrom 0 scope.names []).map (·.1)).Nodup)
    (h : ∀ (g : Heap) L' cl cells, (∀ b o, C.h₀.get? b = some o → g.get? b = some o) → Stat mg mb g → cl = cellsFrom (L' + 1) scope.names [] → Act (C.deep (envX qual scope L' f cdv cl) g L') (envX qual scope L' f cdv cl) (env :: outer) r →
      CellsAre (bindC (fun x => scope.names.lookup x) binds fun _ => none) cl cells →
      T (C.deep (envX qual scope L' f cdv cl) g L') (execs body (envX qual scope L' f cdv cl)) (bindL (fun x => scope.names.lookup x) binds fun _ => none) (cells ++ l) (fun fl _ l' => Q (retOf fl) m l'))
    (hco : scope.isCoroutine = false := by rfl) (hgen : scope.isGenerator = false := by rfl) (hk : scope.kind = .function := by rfl) :
    T C (call (.ref f) pos kw) m l Q :=
  T_call_cells K S ho hd hcd hbind hkind hnd (fun g L' cells kg Sg Kg Y => h g L' _ cells kg Sg rfl Kg Y) hco hgen hk

theorem T.genL {t : Sem α} {Q : α → Loc → Led → Prop} (h : ∀ l0, l0 = l → T C t m l0 Q) : T C t m l Q := h l rfl

theorem T.drop {t : Sem Flow} {m' mq : Loc} {l' lq : Led} {Q : Value → Loc → Led → Prop} (h : T C t m' l' fun fl _ l1 => Sub lq l1 ∧ Q (retOf fl) mq lq) : T C t m' l' (fun fl _ l1 => Q (retOf fl) mq l1) :=
  T.post h fun a m1 l1 ⟨hs, q⟩ => ⟨lq, hs, q⟩

abbrev FindOk (word : List Nat) (p k : Nat) : Prop := Txt.find (ofL word) (Txt.slice (ofL word) (some (p : Int)) (some ((p : Int) + k))) < p
def IsLong (word : List Nat) (p n : Nat) : Prop := (n = 0 ∨ (1 ≤ n ∧ p + n ≤ word.length ∧ FindOk word p n)) ∧ ∀ k, 1 ≤ k → p + k ≤ word.length → FindOk word p k → k ≤ n

theorem longest {env : Env} {outer : List Env} {r : Nat} (K : Act C env outer (r + 1)) (B : Lib C.prog C.w C.h₀ mg mb) {word : List Nat} {p : Nat} {tw tp : Tok} (hw : word.length ≤ 100) (hp : p ≤ word.length) {Q : Value → Loc → Led → Prop}
    (h : ∀ n t, IsLong word p n → Q (.int (n : Nat) t) m l) : T C (call (.ref B.d23.f) [.str (ofL word) tw, .int p tp]) m l Q := by
  refine T_call_cellsX (binds := [("word", .str (ofL word) tw), ("place", .int p tp)]) K B.S B.d23.get B.d23.data B.d23.code (fun s k => BindsTo.of_eq rfl) ?_ ?_ (fun g L' cl cells kg Sg hcl Kg Y => ?_) rfl rfl rfl
  · rfl
  · decide
  · obtain rfl : cl = [(("place" : Str), L' + 1 + 1), (("word" : Str), L' + 1)] := by rw [hcl]; rfl
    clear hcl
    refine T.gen fun m0 hm0 => ?_
    clear hm0
    generalize L' + 1 + 1 = cp at *
    generalize L' + 1 = cw at *
    obtain ⟨op, ow, rfl, hop, how⟩ := Y.two
    have hop : op.data = .cell (some (.int p tp)) := hop
    have how : ow.data = .cell (some (.str (ofL word) tw)) := how
    have hN := B.N
    with_reducible refine T.drop (lq := l) ?_
    rw [List.cons_append, List.cons_append, List.nil_append]
    refine T_cons ?_
    repeat walk_at "t"
    refine T_len_str (by omega) fun t => ?_
    repeat walk_at "t"
    refine T_range2 fun r1 t3 => ?_
    repeat walk_at "t"
    refine T_newList (by rw [sizeLine_eq]; simp) fun d0 => ?_
    with_reducible refine T_ListComp (cl := [("word", cw), ("place", cp)]) ?hclos ?hcell ?hkind ?hnames ?_ ?hs
    case hclos => rfl
    case hcell => decide
    case hkind => rfl
    case hnames => decide
    case hs => intro _; rfl
    repeat walk_at "t"
    have hrs := range_small (a := 1) (b := (word.length : Int) - p + 1) (by omega) (by omega) (by omega) (by omega)
    refine T_iter_range (Seen.led (List.Mem.tail _ (List.Mem.head _))) hrs.1 (fun I2 o2 hst2 => ?_) hrs.2
    have hzn : ((word.length : Int) - p + 1 - 1).toNat = word.length - p := by omega
    rw [hzn] at hst2
    generalize hl0 : (d0, lo [Value.int 0 _]) :: _ = l0
    obtain ⟨t00, ht0⟩ : ∃ t, (d0, lo [Value.int 0 t]) ∈ l0 := ⟨_, by rw [← hl0]; walk_at "mem"⟩
    have mw : (cw, ow) ∈ l0 := by rw [← hl0]; walk_at "mem"
    have mp : (cp, op) ∈ l0 := by rw [← hl0]; walk_at "mem"
    have sb : Sub l l0 := by rw [← hl0]; walk_at "sub"
    refine ⟨I2, _, _, _, _, o2, _, fun k ys m3 l3 => m3 = up m0 "sizes" (.ref r1) ∧ IntsAre ys ((((List.range k).map (· + 1)).filter fun n => decide (FindOk word p n)).map Int.ofNat) ∧ ys.length ≤ k ∧ l3 = l0, rfl, Iter.range Kg.hand I2 1 (word.length - p), hst2, rfl, ⟨rfl, .nil, Nat.zero_le _, rfl⟩, fun k ys m l h => ⟨trivial, h.2.2.1⟩, by omega, ?_, ?_⟩
    · rintro k v o' D oD mD acc na ys m l hk ⟨tv, rfl⟩ ⟨rfl, hi, hyl, rfl⟩ hD hst3
      with_reducible refine T_go_name ?_
      with_reducible refine T_assign_Name ?_
      with_reducible refine T_compStore Rep.here hD ?_ ?hk ?hx
      case hk => rfl
      case hx => rfl
      intro oD' hD'
      with_reducible refine T_tests_one ?_
      repeat walk_at "t"
      with_reducible refine T_method_str' F.slot_str_find F.type_str_find ?_
      repeat walk_at "t"
      with_reducible refine T_slice_ss ?_ ?hts
      case hts => intro _ _; rfl
      repeat walk_at "t"
      refine ⟨_, _, _, _, _, _, rfl, rfl, rfl, by show (ofL word).length ≤ _; simp [ofL, Str.length]; omega, fun ts => ?_⟩
      repeat walk_at "t"
      refine T_find fun tf => ?_
      repeat walk_at "t"
      have e : decide (Txt.find (ofL word) (Txt.slice (ofL word) (some (p : Int)) (some ((p : Int) + (1 + (k : Int))))) < (p : Int)) = decide (FindOk word p (k + 1)) := by
        unfold FindOk
        rw [show (1 + (k : Int)) = ((k + 1 : Nat) : Int) by push_cast; omega]
      rw [e]
      have hrange : ((List.range (k + 1)).map (· + 1)).filter (fun n => decide (FindOk word p n)) = ((List.range k).map (· + 1)).filter (fun n => decide (FindOk word p n)) ++ if FindOk word p (k + 1) then [k + 1] else [] := by
        rw [List.range_succ, List.map_append, List.filter_append]
        congr 1
        by_cases hf : FindOk word p (k + 1)
        · rw [if_pos hf, List.map_singleton, List.filter_cons_of_pos (p := fun n => decide (FindOk word p n)) (decide_eq_true hf)]; rfl
        · rw [if_neg hf, List.map_singleton, List.filter_cons_of_neg (p := fun n => decide (FindOk word p n)) (by show ¬ decide (FindOk word p (k + 1)) = true; rw [decide_eq_false hf]; exact Bool.false_ne_true)]; rfl
      by_cases hf : FindOk word p (k + 1)
      · rw [decide_eq_true hf]
        dsimp only
        repeat walk_at "t"
        refine ⟨oD', _, l, hD', .refl _, rfl, ?_, by simp; omega, rfl⟩
        rw [hrange, if_pos hf, List.map_append]
        refine hi.append ?_
        have e1 : ((1 : Int) + (k : Int)) = Int.ofNat (k + 1) := by show _ = ((k + 1 : Nat) : Int); push_cast; omega
        rw [e1]
        exact .cons _ _ .nil
      · rw [decide_eq_false hf]
        dsimp only
        refine ⟨oD', _, l, hD', .refl _, rfl, ?_, by omega, rfl⟩
        rw [hrange, if_neg hf, List.append_nil]
        exact hi
    · rintro ys m3 l3 ⟨rfl, hi, hyl, rfl⟩ acc na
      refine T_add_list (Seen.led (List.mem_cons_of_mem _ ht0)) (Seen.led List.mem_cons_self) (by rw [sizeLine_eq]; simp; omega) fun ds => ?_
      repeat walk_at "t"
      have hi2 : IntsAre ([Value.int 0 t00] ++ ys) ([0] ++ (((List.range (word.length - p)).map (· + 1)).filter fun n => decide (FindOk word p n)).map Int.ofNat) := IntsAre.append (.cons _ _ .nil) hi
      with_reducible refine T_maxL Kg.hand (Seen.led List.mem_cons_self) hi2 (by simp) ?_
      intro x tx hx hmax
      repeat walk_at "t"
      have hx2 : ∃ n : Nat, x = n ∧ (n = 0 ∨ (1 ≤ n ∧ p + n ≤ word.length ∧ FindOk word p n)) := by
        rcases List.mem_append.mp hx with hx | hx
        · exact ⟨0, by simpa using hx, .inl rfl⟩
        · obtain ⟨n, hn, rfl⟩ := List.mem_map.mp hx
          obtain ⟨h1, h2⟩ := List.mem_filter.mp hn
          obtain ⟨j, hj, rfl⟩ := List.mem_map.mp h1
          have := List.mem_range.mp hj
          exact ⟨j + 1, rfl, .inr ⟨by omega, by omega, by simpa using h2⟩⟩
      obtain ⟨n, rfl, hn⟩ := hx2
      refine ⟨by walk_at "sub", h n tx ⟨hn, fun k hk1 hk2 hk3 => ?_⟩⟩
      have := hmax k (List.mem_append_right _ (List.mem_map.mpr ⟨k, List.mem_filter.mpr ⟨List.mem_map.mpr ⟨k - 1, List.mem_range.mpr (by omega), by omega⟩, by simpa using hk3⟩, rfl⟩))
      omega
  --
end Mine
end

section
open PySem PySem.W PySem.Calls PyProof.Rows
set_option Elab.async false
set_option maxRecDepth 100000
set_option linter.unusedVariables false
set_option linter.unusedSimpArgs false
namespace Mine
variable {C : Cx} {α β : Type} {m : Loc} {l : Led} {mg mb : Loc}

theorem CellsAre.three {cm : Str → Option Value} {n n' n'' : Str} {c c' c'' : Addr} {cells : List (Addr × Obj)} (x : CellsAre cm [(n, c), (n', c'), (n'', c'')] cells) :
    ∃ o o' o'', cells = [(c, o), (c', o'), (c'', o'')] ∧ o.data = .cell (cm n) ∧ o'.data = .cell (cm n') ∧ o''.data = .cell (cm n'') := by
  cases x with | cons h r => obtain ⟨o', o'', rfl, h', h''⟩ := r.two; exact ⟨_, o', o'', rfl, h, h', h''⟩

theorem T.dropE {t : Sem Flow} {m' mq : Loc} {l' : Led} {Q : Value → Loc → Led → Prop} (h : T C t m' l' fun fl _ l1 => ∃ lq, Sub lq l1 ∧ Q (retOf fl) mq lq) : T C t m' l' (fun fl _ l1 => Q (retOf fl) mq l1) :=
  T.post h fun a m1 l1 ⟨lq, hs, q⟩ => ⟨lq, hs, q⟩
theorem ints_get {vs : List Value} {ns : List Nat} (h : IntsAre vs (ns.map Int.ofNat)) {i n : Nat} (e : ns[i]? = some n) : ∃ t, vs[i]? = some (.int n t) :=
  h.get i n (by rw [List.getElem?_map, e]; rfl)

def FewOk (rs fs : List Nat) : Prop := fs[0]? = some 0 ∧ ∀ e v, 1 ≤ e → fs[e]? = some v → (∃ i u, i < e ∧ e ≤ rs.getD i 0 ∧ fs[i]? = some u ∧ v = 1 + u) ∧ ∀ i u, i < e → e ≤ rs.getD i 0 → fs[i]? = some u → v ≤ 1 + u

theorem FewOk.snoc {rs fs : List Nat} (h : FewOk rs fs) (hl : 0 < fs.length) {v : Nat} (h1 : ∃ i u, i < fs.length ∧ fs.length ≤ rs.getD i 0 ∧ fs[i]? = some u ∧ v = 1 + u) (h2 : ∀ i u, i < fs.length → fs.length ≤ rs.getD i 0 → fs[i]? = some u → v ≤ 1 + u) :
    FewOk rs (fs ++ [v]) := by
  have old : ∀ i, i < fs.length → (fs ++ [v])[i]? = fs[i]? := fun i hi => List.getElem?_append_left hi
  refine ⟨by rw [old 0 hl]; exact h.1, fun e v' he hv => ?_⟩
  by_cases hlt : e < fs.length
  · rw [old e hlt] at hv
    obtain ⟨⟨i, u, a1, a2, a3, a4⟩, b⟩ := h.2 e v' he hv
    exact ⟨⟨i, u, a1, a2, by rw [old i (by omega)]; exact a3, a4⟩, fun i u c1 c2 c3 => b i u c1 c2 (by rw [old i (by omega)] at c3; exact c3)⟩
  · have hel : e < (fs ++ [v]).length := (List.getElem?_eq_some_iff.mp hv).1
    rw [List.length_append, List.length_singleton] at hel
    obtain rfl : e = fs.length := by omega
    rw [List.getElem?_append_right (Nat.le_refl _), Nat.sub_self] at hv
    obtain rfl : v = v' := by simpa using hv
    obtain ⟨i, u, a1, a2, a3, a4⟩ := h1
    exact ⟨⟨i, u, a1, a2, by rw [old i a1]; exact a3, a4⟩, fun i u c1 c2 c3 => h2 i u c1 c2 (by rw [old i c1] at c3; exact c3)⟩

theorem fewestT {env : Env} {outer : List Env} {r : Nat} (K : Act C env outer (r + 1)) (B : Lib C.prog C.w C.h₀ mg mb) {rs : List Nat} {rv : List Value} {ra : Addr} {nr : Nat} (hs : Seen C l ra (lo rv nr)) (hi : IntsAre rv (rs.map Int.ofNat)) (hl : rs.length ≤ 100) (hr : ∀ i < rs.length, i + 1 ≤ rs.getD i 0) {Q : Value → Loc → Led → Prop}
    (h : ∀ d fv fs k, IntsAre fv (fs.map Int.ofNat) → fs.length = rs.length + 1 → FewOk rs fs → Q (.ref d) m ((d, lo fv k) :: l)) : T C (call (.ref B.d24.f) [.ref ra]) m l Q := by
  refine T_call_cellsX (binds := [("reaches", .ref ra)]) K B.S B.d24.get B.d24.data B.d24.code (fun s k => BindsTo.of_eq rfl) ?_ ?_ (fun g L' cl cells kg Sg hcl Kg Y => ?_) rfl rfl rfl
  · rfl
  · decide
  · obtain rfl : cl = [(("end" : Str), L' + 1 + 1 + 1), (("fewest" : Str), L' + 1 + 1), (("reaches" : Str), L' + 1)] := by rw [hcl]; rfl
    clear hcl
    refine T.gen fun m0 hm0 => ?_
    clear hm0
    generalize L' + 1 + 1 + 1 = ce at *
    generalize L' + 1 + 1 = cf at *
    generalize L' + 1 = cr at *
    obtain ⟨oe, of, or, rfl, hoe, hof, hor⟩ := CellsAre.three Y
    have hor : or.data = .cell (some (.ref ra)) := hor
    have hN := B.N
    have hrvl : rv.length = rs.length := by have := hi.length; simpa using this
    with_reducible refine T.dropE ?_
    rw [List.cons_append, List.cons_append, List.cons_append, List.nil_append]
    refine T_cons ?_
    repeat walk_at "t"
    refine T_newList (by rw [sizeLine_eq]; simp) fun df => ?_
    with_reducible refine T_storeC (d := cf) ?hc1 (Rep.there (Rep.there Rep.here)) hof ?_ ?hk1 ?hx1
    case hc1 => rfl
    case hk1 => rfl
    case hx1 => rfl
    intro of' hof'
    repeat walk_at "t"
    with_reducible refine T_For ?_ ?hs ?ht
    case hs => intro _; rfl
    case ht => intro _ _; rfl
    repeat walk_at "t"
    refine T_len_list (hs.deep kg).cons.cons.cons.cons (by rw [hrvl]; omega) fun t1 => ?_
    rw [hrvl]
    repeat walk_at "t"
    refine T_range2 fun rr t3 => ?_
    have hrs := range_small (a := 1) (b := (rs.length : Int) + 1) (by omega) (by omega) (by omega) (by omega)
    refine T_iter_range (Seen.led List.mem_cons_self) hrs.1 (fun I2 o2 hst2 => ?_) hrs.2
    have hzn : ((rs.length : Int) + 1 - 1).toNat = rs.length := by omega
    rw [hzn] at hst2
    generalize rng 1 _ 1 _ _ t3 = orr
    obtain ⟨Inv, hInv⟩ : ∃ I : Nat → Loc → Led → Prop, I = (fun k m3 l3 => ∃ fv fs nf oe, m3 = m0 ∧ IntsAre fv (fs.map Int.ofNat) ∧ fs.length = k + 1 ∧ FewOk rs fs ∧ (∃ ve, oe.data = .cell ve) ∧ l3 = (rr, orr) :: (df, lo fv nf) :: (ce, oe) :: (cf, of') :: (cr, or) :: l) := ⟨_, rfl⟩
    refine ⟨I2, _, _, _, _, o2, _, Inv, rfl, Iter.range Kg.hand I2 1 rs.length, hst2, rfl, ?_, fun _ _ _ _ => trivial, ?_, ?_⟩
    · rw [hInv]
      exact ⟨_, [0], _, _, rfl, .cons 0 _ .nil, rfl, ⟨rfl, fun e v he hv => by cases e with | zero => omega | succ e => simp at hv⟩, ⟨_, hoe⟩, rfl⟩
    · rintro k v o' m3 l3 hk ⟨tv, rfl⟩ hI
      rw [hInv] at hI
      obtain ⟨fv, fs, nf, oe, rfl, hfv, hfl, hfo, ⟨ve, hoe⟩, rfl⟩ := hI
      with_reducible refine T_assign_Name ?_
      with_reducible refine T_storeC (d := ce) ?hc2 (Rep.there (Rep.there (Rep.there Rep.here))) hoe ?_ ?hk2 ?hx2
      case hc2 => rfl
      case hk2 => rfl
      case hx2 => rfl
      intro oe' hoe'
      have hfvl : fv.length = fs.length := by have := hfv.length; simpa using this
      refine T_cons ?_
      repeat walk_at "t"
      with_reducible refine T_method_list slot_list_append ?ht1 (Seen.led (by walk_at "mem")) ?_
      case ht1 => rfl
      repeat walk_at "t"
      with_reducible refine T_ListComp (cl := [("reaches", cr), ("fewest", cf), ("end", ce)]) ?hclos ?hcell ?hkind ?hnames ?_ ?hs2
      case hclos => rfl
      case hcell => decide
      case hkind => rfl
      case hnames => decide
      case hs2 => intro _; rfl
      repeat walk_at "t"
      refine T_range1 fun r2 u1 u3 => ?_
      have hrs2 := range_small (a := 0) (b := 1 + (k : Int)) (by omega) (by omega) (by omega) (by omega)
      refine T_iter_range (Seen.led List.mem_cons_self) hrs2.1 (fun I3 o3 hst3 => ?_) hrs2.2
      have hzn2 : (1 + (k : Int) - 0).toNat = k + 1 := by omega
      rw [hzn2] at hst3
      generalize rng 0 _ 1 _ _ u3 = or2
      generalize hl0 : (r2, or2) :: _ = l0
      have me : (ce, oe') ∈ l0 := by rw [← hl0]; walk_at "mem"
      have mf : (cf, of') ∈ l0 := by rw [← hl0]; walk_at "mem"
      have mr : (cr, or) ∈ l0 := by rw [← hl0]; walk_at "mem"
      have mdf : (df, lo fv nf) ∈ l0 := by rw [← hl0]; walk_at "mem"
      have sra : Seen (C.deep (envX "_law_fewest" (fScope 24) L' B.d24.f B.d24.cdv [(("end" : Str), ce), (("fewest" : Str), cf), (("reaches" : Str), cr)]) g L') l0 ra (lo rv nr) := by
        rw [← hl0]; exact (hs.deep kg).cons.cons.cons.cons.cons.cons.cons
      refine ⟨I3, _, _, _, _, o3, _, fun j ys m4 l4 => m4 = m3 ∧ IntsAre ys (((List.range j).filter fun i => decide (k + 1 ≤ rs.getD i 0)).map fun i => Int.ofNat (fs.getD i 0)) ∧ ys.length ≤ j ∧ l4 = l0, rfl, Iter.range Kg.hand I3 0 (k + 1), hst3, rfl, ⟨rfl, .nil, Nat.zero_le _, rfl⟩, fun j ys m l h => ⟨trivial, h.2.2.1⟩, by omega, ?_, ?_⟩
      · rintro j v o4 D oD mD acc na ys m4 l4 hj ⟨tj, rfl⟩ ⟨rfl, hyi, hyl, rfl⟩ hD hst4
        rw [Int.zero_add]
        with_reducible refine T_go_name ?_
        with_reducible refine T_assign_Name ?_
        with_reducible refine T_compStore Rep.here hD ?_ ?hk4 ?hx4
        case hk4 => rfl
        case hx4 => rfl
        intro oD' hD'
        have hjf : j < fs.length := by omega
        have hjr : j < rs.length := by omega
        obtain ⟨tr, htr⟩ := ints_get hi (i := j) (n := rs[j]) (by simp [hjr])
        obtain ⟨tf, htf⟩ := ints_get hfv (i := j) (n := fs[j]) (by simp [hjf])
        with_reducible refine T_tests_one ?_
        repeat walk_at "t"
        refine T_item_list (x := .int (rs[j] : Nat) tr) sra.cons.cons.cons (by omega) (by omega) (by simpa using htr) ?_
        repeat walk_at "t"
        have erj : rs.getD j 0 = rs[j] := by rw [List.getD_eq_getElem?_getD, List.getElem?_eq_getElem hjr]; rfl
        have efj : fs.getD j 0 = fs[j] := by rw [List.getD_eq_getElem?_getD, List.getElem?_eq_getElem hjf]; rfl
        have e : decide ((1 : Int) + (k : Int) ≤ ((rs[j] : Nat) : Int)) = decide (k + 1 ≤ rs.getD j 0) := by rw [erj]; exact decide_eq_decide.mpr (by omega)
        rw [e]
        have hrange : ((List.range (j + 1)).filter fun i => decide (k + 1 ≤ rs.getD i 0)) = ((List.range j).filter fun i => decide (k + 1 ≤ rs.getD i 0)) ++ if k + 1 ≤ rs.getD j 0 then [j] else [] := by
          rw [List.range_succ, List.filter_append]
          congr 1
          by_cases hf : k + 1 ≤ rs.getD j 0
          · rw [if_pos hf]; simp only [List.filter_cons, List.filter_nil]; rw [decide_eq_true hf]; rfl
          · rw [if_neg hf]; simp only [List.filter_cons, List.filter_nil]; rw [decide_eq_false hf]; rfl
        by_cases hf : k + 1 ≤ rs.getD j 0
        · rw [decide_eq_true hf]
          dsimp only
          repeat walk_at "t"
          refine T_item_list (x := .int (fs[j] : Nat) tf) (n := nf) (vs := fv) (Seen.led (by walk_at "mem")) (by omega) (by omega) (by simpa using htf) ?_
          refine ⟨oD', _, l4, hD', .refl _, rfl, ?_, by simp; omega, rfl⟩
          rw [hrange, if_pos hf, List.map_append]
          refine hyi.append ?_
          show IntsAre _ [Int.ofNat (fs.getD j 0)]
          rw [efj]
          exact .cons _ _ .nil
        · rw [decide_eq_false hf]
          dsimp only
          refine ⟨oD', _, l4, hD', .refl _, rfl, ?_, by omega, rfl⟩
          rw [hrange, if_neg hf, List.append_nil]
          exact hyi
      · rintro ys m4 l4 ⟨rfl, hyi, hyl, rfl⟩ acc na
        repeat walk_at "t"
        with_reducible refine T_minL Kg.hand (Seen.led List.mem_cons_self) hyi ?hne ?_
        case hne =>
          intro e
          have : k ∈ ((List.range (k + 1)).filter fun i => decide (k + 1 ≤ rs.getD i 0)) := List.mem_filter.mpr ⟨List.mem_range.mpr (by omega), by simpa using hr k hk⟩
          rw [List.map_eq_nil_iff.mp e] at this
          cases this
        intro x tx hx hmin
        repeat walk_at "t"
        rw [← hl0]
        obtain ⟨i, hif, rfl⟩ := List.mem_map.mp hx
        obtain ⟨hir, hid⟩ := List.mem_filter.mp hif
        have hir := List.mem_range.mp hir
        have hid := of_decide_eq_true hid
        have efi : fs[i]? = some (fs.getD i 0) := by rw [List.getD_eq_getElem?_getD, List.getElem?_eq_getElem (by omega)]; rfl
        refine T_append (vs := fv) (n := nf) (Rep.there (Rep.there (Rep.there (Rep.there Rep.here)))) (by rw [sizeLine_eq]; omega) ⟨rfl, ?_⟩
        repeat walk_at "t"
        refine go_for ⟨(rr, orr) :: (df, lo (fv ++ [.int (1 + Int.ofNat (fs.getD i 0)) _]) (nf + 1)) :: (ce, oe') :: (cf, of') :: (cr, or) :: l, .drop (.drop (.refl _)), ?_⟩
        rw [hInv]
        refine ⟨fv ++ [.int (1 + Int.ofNat (fs.getD i 0)) _], fs ++ [1 + fs.getD i 0], nf + 1, oe', rfl, ?_, by simp [hfl], ?_, ⟨_, hoe'⟩, rfl⟩
        · rw [List.map_append]
          refine hfv.append ?_
          have e1 : (1 : Int) + Int.ofNat (fs.getD i 0) = Int.ofNat (1 + fs.getD i 0) := by show (1 : Int) + ((fs.getD i 0 : Nat) : Int) = ((1 + fs.getD i 0 : Nat) : Int); omega
          rw [e1]
          exact .cons _ _ .nil
        · refine hfo.snoc (by omega) ⟨i, fs.getD i 0, by omega, by omega, efi, rfl⟩ fun i' u a1 a2 a3 => ?_
          have hm2 := hmin (Int.ofNat (fs.getD i' 0)) (List.mem_map.mpr ⟨i', List.mem_filter.mpr ⟨List.mem_range.mpr (by omega), by simpa using (by omega : k + 1 ≤ rs.getD i' 0)⟩, rfl⟩)
          have eu : fs.getD i' 0 = u := by rw [List.getD_eq_getElem?_getD, a3]; rfl
          rw [eu] at hm2
          have : ((fs.getD i 0 : Nat) : Int) ≤ ((u : Nat) : Int) := hm2
          omega
    · intro m3 l3 hI
      rw [hInv] at hI
      obtain ⟨fv, fs, nf, oe, rfl, hfv, hfl, hfo, _, rfl⟩ := hI
      repeat walk_at "t"
      exact ⟨(df, lo fv nf) :: l, .drop (.consP (.drop (.drop (.drop (.refl _))))), h df fv fs nf hfv (by omega) hfo⟩
  --
end Mine
end

section
set_option Elab.async false
set_option linter.unusedVariables false
namespace Mine

/-- how far two texts agree -/
noncomputable def lcp : List Nat → List Nat → Nat
  | [], _ => 0
  | _, [] => 0
  | x :: a, y :: b => if x = y then lcp a b + 1 else 0
theorem lcp_nil_right (a : List Nat) : lcp a [] = 0 := by cases a <;> rfl
theorem lcp_le_left : ∀ a b : List Nat, lcp a b ≤ a.length
  | [], _ => by simp [lcp]
  | _ :: _, [] => by simp [lcp]
  | x :: a, y :: b => by
    have := lcp_le_left a b
    unfold lcp
    split <;> simp <;> omega
theorem lcp_get : ∀ (a b : List Nat) (k : Nat), k < lcp a b → a[k]? = b[k]? ∧ k < a.length ∧ k < b.length
  | [], _, k, h => by simp [lcp] at h
  | _ :: _, [], k, h => by simp [lcp] at h
  | x :: a, y :: b, k, h => by
    unfold lcp at h
    split at h
    · rename_i e
      subst e
      cases k with
      | zero => simp
      | succ k =>
        have := lcp_get a b k (by omega)
        simp; exact this
    · omega
theorem lcp_take : ∀ (a b : List Nat) (k : Nat), (a.take k = b.take k ∧ k ≤ a.length) ↔ (k ≤ lcp a b)
  | _, _, 0 => by simp
  | [], b, k + 1 => by simp [lcp]
  | x :: a, [], k + 1 => by simp [lcp]
  | x :: a, y :: b, k + 1 => by
    have ih := lcp_take a b k
    unfold lcp
    by_cases e : x = y
    · subst e
      simp only [List.take_succ_cons, List.cons.injEq, true_and, List.length_cons, if_true]
      rw [Nat.add_le_add_iff_right, Nat.add_le_add_iff_right, ih]
    · simp [e]
theorem lcp_mid_lo : ∀ a b c : List Nat, (a < b ∨ a = b) → b < c → lcp c a ≤ lcp c b
  | [], b, c, _, _ => by rw [lcp_nil_right]; exact Nat.zero_le _
  | x :: a, [], c, h, _ => by rcases h with h | h <;> simp at h
  | x :: a, y :: b, [], _, h => by simp at h
  | x :: a, y :: b, z :: c, h, k => by
    rw [List.cons_lt_cons_iff] at k
    have h' : x < y ∨ x = y ∧ (a < b ∨ a = b) := by
      rcases h with h | h
      · rw [List.cons_lt_cons_iff] at h
        rcases h with h | ⟨h1, h2⟩
        · exact .inl h
        · exact .inr ⟨h1, .inl h2⟩
      · injection h with h1 h2
        exact .inr ⟨h1, .inr h2⟩
    unfold lcp
    by_cases e : z = x
    · have e2 : z = y := by omega
      rw [if_pos e, if_pos e2]
      have hab : a < b ∨ a = b := by
        rcases h' with h' | h'
        · omega
        · exact h'.2
      have hbc : b < c := by
        rcases k with k | k
        · omega
        · exact k.2
      exact Nat.succ_le_succ (lcp_mid_lo a b c hab hbc)
    · rw [if_neg e]; exact Nat.zero_le _
theorem lcp_mid_hi : ∀ a b c : List Nat, (b < a ∨ b = a) → c < b → lcp c a ≤ lcp c b
  | [], b, c, _, _ => by rw [lcp_nil_right]; exact Nat.zero_le _
  | x :: a, b, [], _, _ => by simp [lcp]
  | x :: a, [], z :: c, _, h => by simp at h
  | x :: a, y :: b, z :: c, h, k => by
    rw [List.cons_lt_cons_iff] at k
    have h' : y < x ∨ y = x ∧ (b < a ∨ b = a) := by
      rcases h with h | h
      · rw [List.cons_lt_cons_iff] at h
        rcases h with h | ⟨h1, h2⟩
        · exact .inl h
        · exact .inr ⟨h1, .inl h2⟩
      · injection h with h1 h2
        exact .inr ⟨h1, .inr h2⟩
    unfold lcp
    by_cases e : z = x
    · have e2 : z = y := by omega
      rw [if_pos e, if_pos e2]
      have hab : b < a ∨ b = a := by
        rcases h' with h' | h'
        · omega
        · exact h'.2
      have hbc : c < b := by
        rcases k with k | k
        · omega
        · exact k.2
      exact Nat.succ_le_succ (lcp_mid_hi a b c hab hbc)
    · rw [if_neg e]; exact Nat.zero_le _

section rows
variable (w : List Nat)
def sfx (i : Nat) : List Nat := w.drop i
def spotOf (R : List Nat) (p : Nat) : Nat := R.findIdx fun j => !decide (sfx w j < sfx w p)
def insR (R : List Nat) (p : Nat) : List Nat := R.take (spotOf w R p) ++ p :: R.drop (spotOf w R p)
noncomputable def rowN : Nat → List Nat
  | 0 => []
  | k + 1 => insR w (rowN k) k
noncomputable def stepN (p : Nat) (acc : Nat × Nat) (near : Nat) : Nat × Nat := if acc.1 < lcp (sfx w p) (sfx w near) then (lcp (sfx w p) (sfx w near), near) else acc
noncomputable def nearsN (p : Nat) : List Nat := ((rowN w p).drop (spotOf w (rowN w p) p - 1)).take (spotOf w (rowN w p) p + 1 - (spotOf w (rowN w p) p - 1))
noncomputable def toldN (p : Nat) : Nat × Nat := (nearsN w p).foldl (stepN w p) (0, 0)
end rows

variable {w : List Nat}
def SortedR (w R : List Nat) : Prop := R.Pairwise fun a b => sfx w a < sfx w b
theorem sfx_ne {i j : Nat} (hi : i < w.length) (hj : j ≤ w.length) (h : i ≠ j) : sfx w i ≠ sfx w j := by
  intro e
  have := congrArg List.length e
  simp [sfx] at this
  omega
theorem sfx_tri (i j : Nat) : sfx w i < sfx w j ∨ sfx w i = sfx w j ∨ sfx w j < sfx w i := by
  by_cases h : sfx w i < sfx w j
  · exact .inl h
  · by_cases h2 : sfx w j < sfx w i
    · exact .inr (.inr h2)
    · exact .inr (.inl (List.le_antisymm h2 h))
theorem spotOf_le (R : List Nat) (p : Nat) : spotOf w R p ≤ R.length := List.findIdx_le_length
theorem spot_iff {R : List Nat} (hs : SortedR w R) (p : Nat) : ∀ i (h : i < R.length), sfx w R[i] < sfx w p ↔ i < spotOf w R p := by
  intro i h
  constructor
  · intro hlt
    refine Nat.lt_of_not_le fun hle => ?_
    have hsl : spotOf w R p < R.length := Nat.lt_of_le_of_lt hle h
    have h1 := List.findIdx_getElem (xs := R) (p := fun j => !decide (sfx w j < sfx w p)) (w := hsl)
    have h2 : ¬ sfx w R[spotOf w R p] < sfx w p := by simp only [Bool.not_eq_true', decide_eq_false_iff_not] at h1; exact h1
    rcases Nat.lt_or_eq_of_le hle with hl | he
    · have h3 := (List.pairwise_iff_getElem.mp hs) _ _ hsl h hl
      exact h2 (List.lt_trans h3 hlt)
    · subst he
      exact h2 hlt
  · intro hlt
    have := List.not_of_lt_findIdx (xs := R) (p := fun j => !decide (sfx w j < sfx w p)) (i := i) hlt
    simpa using this
theorem insR_mem {R : List Nat} {p j : Nat} : j ∈ insR w R p ↔ j = p ∨ j ∈ R := by
  unfold insR
  conv => rhs; rw [← List.take_append_drop (spotOf w R p) R]
  simp only [List.mem_append, List.mem_cons]
  constructor
  · rintro (h | h | h)
    · exact .inr (.inl h)
    · exact .inl h
    · exact .inr (.inr h)
  · rintro (h | h | h)
    · exact .inr (.inl h)
    · exact .inl h
    · exact .inr (.inr h)
theorem take_lt {R : List Nat} (hs : SortedR w R) {p : Nat} : ∀ a ∈ R.take (spotOf w R p), sfx w a < sfx w p := by
  have hsp := spot_iff hs p
  intro a ha
  obtain ⟨i, hi, rfl⟩ := List.mem_iff_getElem.mp ha
  simp at hi
  rw [List.getElem_take]
  exact (hsp i (by omega)).mpr (by omega)
theorem drop_gt {R : List Nat} (hs : SortedR w R) {p : Nat} (hp : p < w.length) (hR : ∀ j ∈ R, j < p) : ∀ b ∈ R.drop (spotOf w R p), sfx w p < sfx w b := by
  have hsp := spot_iff hs p
  intro b hb
  have hbR := List.mem_of_mem_drop hb
  obtain ⟨i, hi, rfl⟩ := List.mem_iff_getElem.mp hb
  simp at hi
  rw [List.getElem_drop]
  have h1 : ¬ sfx w R[spotOf w R p + i] < sfx w p := fun h => by
    have := (hsp _ (by omega)).mp h
    omega
  have h2 := hR _ hbR
  rw [List.getElem_drop] at h2
  rcases sfx_tri (w := w) p R[spotOf w R p + i] with h | h | h
  · exact h
  · exact absurd h (sfx_ne hp (by omega) (by omega))
  · exact absurd h h1
theorem insR_sorted {R : List Nat} (hs : SortedR w R) {p : Nat} (hp : p < w.length) (hR : ∀ j ∈ R, j < p) : SortedR w (insR w R p) := by
  unfold insR SortedR
  rw [List.pairwise_append, List.pairwise_cons]
  have hlo := take_lt (p := p) hs
  have hhi := drop_gt hs hp hR
  refine ⟨hs.sublist (List.take_sublist _ _), ⟨hhi, hs.sublist (List.drop_sublist _ _)⟩, fun a ha b hb => ?_⟩
  rcases List.mem_cons.mp hb with rfl | hb
  · exact hlo a ha
  · exact List.lt_trans (hlo a ha) (hhi b hb)
theorem rowN_mem {k j : Nat} : j ∈ rowN w k ↔ j < k := by
  induction k with
  | zero => simp [rowN]
  | succ k ih =>
    rw [rowN, insR_mem, ih]; omega
theorem rowN_length (k : Nat) : (rowN w k).length = k := by
  induction k with
  | zero => rfl
  | succ k ih =>
    have := spotOf_le (w := w) (rowN w k) k
    rw [rowN, insR, List.length_append, List.length_cons, List.length_take, List.length_drop]
    omega
theorem rowN_sorted : ∀ {k : Nat}, k ≤ w.length → SortedR w (rowN w k)
  | 0, _ => by simp [rowN, SortedR]
  | k + 1, h => insR_sorted (rowN_sorted (by omega)) (by omega) fun j hj => rowN_mem.mp hj

/-- the best of a list -/
theorem fold_best (p : Nat) : ∀ (N : List Nat) (acc : Nat × Nat), acc.1 ≤ (N.foldl (stepN w p) acc).1 ∧ (∀ j ∈ N, lcp (sfx w p) (sfx w j) ≤ (N.foldl (stepN w p) acc).1) ∧
    ((N.foldl (stepN w p) acc = acc) ∨ ((N.foldl (stepN w p) acc).2 ∈ N ∧ (N.foldl (stepN w p) acc).1 = lcp (sfx w p) (sfx w (N.foldl (stepN w p) acc).2)))
  | [], acc => ⟨Nat.le_refl _, (fun _ h => by simp at h), Or.inl rfl⟩
  | x :: N, acc => by
    obtain ⟨h1, h2, h3⟩ := fold_best p N (stepN w p acc x)
    have hs : acc.1 ≤ (stepN w p acc x).1 ∧ lcp (sfx w p) (sfx w x) ≤ (stepN w p acc x).1 := by
      unfold stepN
      split
      · simp; omega
      · constructor
        · exact Nat.le_refl _
        · omega
    rw [List.foldl_cons]
    refine ⟨Nat.le_trans hs.1 h1, fun j hj => ?_, ?_⟩
    · rcases List.mem_cons.mp hj with rfl | hj
      · exact Nat.le_trans hs.2 h1
      · exact h2 j hj
    · rcases h3 with h3 | ⟨h3, h4⟩
      · rw [h3]
        unfold stepN
        split
        · exact .inr ⟨List.mem_cons_self, rfl⟩
        · exact .inl rfl
      · exact .inr ⟨List.mem_cons_of_mem _ h3, h4⟩

theorem nears_sub {p j : Nat} (h : j ∈ nearsN w p) : j < p := by
  have := List.mem_of_mem_drop (List.mem_of_mem_take h)
  exact rowN_mem.mp this
theorem nears_lo {p : Nat} (h : 0 < spotOf w (rowN w p) p) (hl : spotOf w (rowN w p) p - 1 < (rowN w p).length) : (rowN w p)[spotOf w (rowN w p) p - 1] ∈ nearsN w p := by
  unfold nearsN
  rw [List.mem_iff_getElem]
  refine ⟨0, by simp; omega, by simp⟩
theorem nears_hi {p : Nat} (hl : spotOf w (rowN w p) p < (rowN w p).length) : (rowN w p)[spotOf w (rowN w p) p] ∈ nearsN w p := by
  unfold nearsN
  rw [List.mem_iff_getElem]
  refine ⟨spotOf w (rowN w p) p - (spotOf w (rowN w p) p - 1), by simp; omega, ?_⟩
  rw [List.getElem_take, List.getElem_drop]
  congr 1
  omega

/-- the neighbours know the longest earlier match -/
theorem told_best {p : Nat} (hp : p < w.length) : ∀ j < p, lcp (sfx w p) (sfx w j) ≤ (toldN w p).1 := by
  intro j hj
  have hs := rowN_sorted (w := w) (k := p) (by omega)
  have hsp := spot_iff hs p
  have hbest := (fold_best (w := w) p (nearsN w p) (0, 0)).2.1
  obtain ⟨i, hi, rfl⟩ := List.mem_iff_getElem.mp ((rowN_mem (w := w)).mpr hj)
  by_cases hlt : i < spotOf w (rowN w p) p
  · have hl : spotOf w (rowN w p) p - 1 < (rowN w p).length := by have := spotOf_le (w := w) (rowN w p) p; omega
    refine Nat.le_trans (lcp_mid_lo _ (sfx w (rowN w p)[spotOf w (rowN w p) p - 1]) _ ?_ ?_) (hbest _ (nears_lo (by omega) hl))
    · rcases Nat.lt_or_eq_of_le (show i ≤ spotOf w (rowN w p) p - 1 by omega) with h | h
      · exact .inl ((List.pairwise_iff_getElem.mp hs) _ _ hi hl h)
      · subst h; exact .inr rfl
    · exact (hsp _ hl).mpr (by omega)
  · have hl : spotOf w (rowN w p) p < (rowN w p).length := by omega
    refine Nat.le_trans (lcp_mid_hi _ (sfx w (rowN w p)[spotOf w (rowN w p) p]) _ ?_ ?_) (hbest _ (nears_hi hl))
    · rcases Nat.lt_or_eq_of_le (show spotOf w (rowN w p) p ≤ i by omega) with h | h
      · exact .inl ((List.pairwise_iff_getElem.mp hs) _ _ hl hi h)
      · generalize spotOf w (rowN w p) p = q at *
        subst h; exact .inr rfl
    · have h1 : ¬ _ := fun h => Nat.lt_irrefl _ ((hsp _ hl).mp h)
      have h2 := rowN_mem.mp (List.getElem_mem hl)
      rcases sfx_tri (w := w) p (rowN w p)[spotOf w (rowN w p) p] with h | h | h
      · exact h
      · exact absurd h (sfx_ne hp (by omega) (by omega))
      · exact absurd h h1
/-- and a place that has it -/
theorem told_at {p : Nat} (hp : p < w.length) : (toldN w p).1 = 0 ∧ (toldN w p).2 = 0 ∨ (toldN w p).2 < p ∧ (toldN w p).1 = lcp (sfx w p) (sfx w (toldN w p).2) := by
  rcases (fold_best (w := w) p (nearsN w p) (0, 0)).2.2 with h | ⟨h1, h2⟩
  · left; unfold toldN; rw [h]; exact ⟨rfl, rfl⟩
  · exact .inr ⟨nears_sub h1, h2⟩
end Mine
end

section
open PySem PySem.W PySem.Calls PyProof.Rows
set_option Elab.async false
set_option maxRecDepth 100000
set_option linter.unusedVariables false
set_option linter.unusedSimpArgs false
namespace Mine
variable {C : Cx} {α β : Type} {m : Loc} {l : Led} {mg mb : Loc}

theorem clipAt_le (n : Nat) (i : Int) : clipAt n i ≤ n := by
  have := clipAt_cast n i
  omega
theorem slice_gen (x : List Nat) (lo hi : Option Int) : Txt.slice (ofL x) lo hi = ofL ((x.drop (lo.elim 0 (clipAt x.length))).take (hi.elim x.length (clipAt x.length) - lo.elim 0 (clipAt x.length))) := by
  have hlen : (ofL x).length = x.length := by simp [ofL, Str.length]
  have e : Builtin.Str.strSliceIndices lo hi 1 (ofL x).length = (List.range (hi.elim x.length (clipAt x.length) - lo.elim 0 (clipAt x.length))).map (lo.elim 0 (clipAt x.length) + ·) := by
    rw [hlen, ← sliceRange_one]
    unfold Builtin.Str.strSliceIndices
    cases lo <;> cases hi <;> simp [clipAt_cast]
  unfold Txt.slice
  rw [e]
  split
  · rename_i hc
    simp [hlen] at hc
    have hb : hi.elim x.length (clipAt x.length) ≤ x.length := by cases hi with | none => exact Nat.le_refl _ | some i => exact clipAt_le _ _
    have ha : x.length = 0 ∨ lo.elim 0 (clipAt x.length) = 0 := by omega
    rcases ha with ha | ha
    · obtain rfl := List.length_eq_zero_iff.mp ha
      rw [List.drop_nil, List.take_nil]
    · rw [ha] at hc ⊢
      rw [Nat.sub_zero] at hc ⊢
      rw [hc, List.drop_zero, List.take_length]
  · rw [pick_run]
theorem slice_from (x : List Nat) {p : Nat} (hp : p ≤ x.length) : Txt.slice (ofL x) (some (p : Int)) none = ofL (x.drop p) := by
  rw [slice_gen]
  simp only [Option.elim, clipAt_nat]
  rw [Nat.min_eq_left hp, List.take_of_length_le (by simp)]
theorem slice_back (x : List Nat) {p : Nat} (hp : p < x.length) : Txt.slice (ofL x) (some ((p : Int) - x.length)) none = ofL (x.drop p) := by
  rw [slice_gen]
  have e : clipAt x.length ((p : Int) - x.length) = p := by
    have := clipAt_cast x.length ((p : Int) - x.length)
    omega
  simp only [Option.elim, e]
  rw [List.take_of_length_le (by simp)]
theorem slice_run (x : List Nat) (a b : Nat) : Txt.slice (ofL x) (some (a : Int)) (some (b : Int)) = ofL ((x.drop a).take (b - a)) := by
  rw [slice_gen]
  simp only [Option.elim, clipAt_nat]
  congr 1
  rcases Nat.le_total a x.length with h | h
  · rw [Nat.min_eq_left h]
    rcases Nat.le_total b x.length with h2 | h2
    · rw [Nat.min_eq_left h2]
    · rw [Nat.min_eq_right h2, List.take_of_length_le (by simp), List.take_of_length_le (by simp; omega)]
  · rw [Nat.min_eq_right h, List.drop_of_length_le (Nat.le_refl _), List.drop_of_length_le h]; simp
theorem slice_upto (x : List Nat) (b : Nat) : Txt.slice (ofL x) none (some (b : Int)) = ofL (x.take b) := by
  rw [slice_gen]
  simp only [Option.elim, clipAt_nat, List.drop_zero, Nat.sub_zero]
  congr 1
  rcases Nat.le_total b x.length with h2 | h2
  · rw [Nat.min_eq_left h2]
  · rw [Nat.min_eq_right h2, List.take_of_length_le (Nat.le_refl _), List.take_of_length_le h2]

/-- a table of code: what stands in it stands in the ledger -/
def TabOk (qual : Str) (ps : Array Value) (R : Led) : Prop := TriplesOk ps.toList ∧ ∀ pos v, codeAmong pos ps.toList = some v → ∃ c' oc, v = .ref c' ∧ (c', oc) ∈ R ∧ RecO c' qual oc
theorem TabOk.mono {qual : Str} {ps : Array Value} {R R' : Led} (h : TabOk qual ps R) (k : ∀ p ∈ R, p ∈ R') : TabOk qual ps R' :=
  ⟨h.1, fun pos v e => let ⟨c', oc, a, b, d⟩ := h.2 pos v e; ⟨c', oc, a, k _ b, d⟩⟩
theorem TabOk.nil (qual : Str) (R : Led) : TabOk qual #[] R := ⟨trivial, fun pos v e => by cases e⟩
theorem TabOk.snoc {qual : Str} {ps : Array Value} {R : Led} (h : TabOk qual ps R) {pos : Pos} {c' : Addr} {oc : Obj} (hr : RecO c' qual oc) : TabOk qual (ps ++ #[rawInt pos.line, rawInt pos.col, .ref c']) ((c', oc) :: R) := by
  refine ⟨by rw [Array.toList_append]; exact TriplesOk_snoc _ _ _ _ h.1, fun pos' v e => ?_⟩
  rw [Array.toList_append] at e
  have main : ∀ l : List Value, TriplesOk l → codeAmong pos' (l ++ [rawInt pos.line, rawInt pos.col, .ref c']) = some v → codeAmong pos' l = some v ∨ v = .ref c' := by
    intro l hl
    fun_induction TriplesOk l with
    | case1 =>
      intro e
      simp only [List.nil_append, codeAmong, rawInt] at e
      split at e
      · exact .inr (Option.some.inj e).symm
      · cases e
    | case2 a t b u x rest ih =>
      intro e
      simp only [List.cons_append, codeAmong] at e ⊢
      split at e
      · rename_i hc; rw [if_pos hc]; exact .inl e
      · rename_i hc; rw [if_neg hc]; exact ih hl e
    | case3 l h1 h2 => exact hl.elim
  rcases main _ h.1 e with h' | rfl
  · obtain ⟨c2, oc2, a, b, d⟩ := h.2 _ _ h'
    exact ⟨c2, oc2, a, List.mem_cons_of_mem _ b, d⟩
  · exact ⟨c', oc, rfl, List.mem_cons_self, hr⟩

theorem Rep.pre {l : Led} {a : Addr} {o : Obj} : ∀ (A : Led), Rep (A ++ (a, o) :: l) a o fun o' => A ++ (a, o') :: l
  | [] => Rep.here
  | p :: A => Rep.there (Rep.pre A)

/-- a list of objects has grown in front -/
def Suf (R R' : Led) : Prop := ∃ T, R' = T ++ R
theorem Suf.refl (R : Led) : Suf R R := ⟨[], rfl⟩
theorem Suf.drop {R R' : Led} {p : Addr × Obj} (h : Suf R R') : Suf R (p :: R') := let ⟨T, e⟩ := h; ⟨p :: T, by rw [e]; rfl⟩
theorem Suf.trans {R R' R'' : Led} (h : Suf R R') (k : Suf R' R'') : Suf R R'' := let ⟨T, e⟩ := h; let ⟨T', e'⟩ := k; ⟨T' ++ T, by rw [e', e, List.append_assoc]⟩
theorem Suf.mem {R R' : Led} (h : Suf R R') {p : Addr × Obj} (hp : p ∈ R) : p ∈ R' := let ⟨T, e⟩ := h; e ▸ List.mem_append_right _ hp

/-- a lambda is made: its code is new, or stands in the table -/
theorem T_lamAny {cn : Str} {cs : Scope} {a c P : Addr} {cl clos : List (Str × Addr)} {params : Arguments} {body : Expr} {scope : Scope} {ps : Array Value} {pos : Pos} {Q : Value → Loc → Led → Prop} {A B R : Led}
    (S : Stat mg mb C.h₀) (CH : CodeHd C.h₀ c P) (ht : TabOk ((envX cn cs C.L a (.ref c) cl).qual ++ "<lambda>") ps R) (hdef : defaultsOf params (envX cn cs C.L a (.ref c) cl) = ([], []))
    (hcl : closureFor scope (envX cn cs C.L a (.ref c) cl) = pure clos)
    (h : ∀ f c' oc ctv ps' R', TabOk ((envX cn cs C.L a (.ref c) cl).qual ++ "<lambda>") ps' R' → (c', oc) ∈ R' → RecO c' ((envX cn cs C.L a (.ref c) cl).qual ++ "<lambda>") oc → Suf R R' →
      Q (.ref f) m ((f, kla_obj "<lambda>" ((envX cn cs C.L a (.ref c) cl).qual ++ "<lambda>") params body scope clos ((mg "__name__").getD .none) c' ctv) :: (A ++ (P, tabObj ps') :: (B ++ R')))) :
    T C (eval (.Lambda params body scope pos) (envX cn cs C.L a (.ref c) cl)) m (A ++ (P, tabObj ps) :: (B ++ R)) Q := by
  cases e : codeAmong pos ps.toList with
  | none =>
    refine T.post (T_lamNew (Q := fun v m' l' => ∃ f c' oc ctv, v = .ref f ∧ m' = m ∧ RecO c' ((envX cn cs C.L a (.ref c) cl).qual ++ "<lambda>") oc ∧
      l' = (f, kla_obj "<lambda>" ((envX cn cs C.L a (.ref c) cl).qual ++ "<lambda>") params body scope clos ((mg "__name__").getD .none) c' ctv) :: (c', oc) :: (A ++ (P, tabObj (ps ++ #[rawInt pos.line, rawInt pos.col, .ref c'])) :: (B ++ R)))
      S CH (Rep.pre A) ht.1 e hdef hcl fun f c' oc ctv hr => ⟨f, c', oc, ctv, rfl, rfl, hr, rfl⟩) ?_
    rintro _ _ _ ⟨f, c', oc, ctv, rfl, rfl, hr, rfl⟩
    refine ⟨_, Sub.ofPerm ?_, h f c' oc ctv _ ((c', oc) :: R) (ht.snoc (pos := pos) hr) List.mem_cons_self hr (.drop (.refl _))⟩
    refine List.Perm.cons _ ?_
    have e1 : A ++ (P, tabObj (ps ++ #[rawInt pos.line, rawInt pos.col, .ref c'])) :: (B ++ (c', oc) :: R) = (A ++ (P, tabObj (ps ++ #[rawInt pos.line, rawInt pos.col, .ref c'])) :: B) ++ (c', oc) :: R := by simp
    have e2 : A ++ (P, tabObj (ps ++ #[rawInt pos.line, rawInt pos.col, .ref c'])) :: (B ++ R) = (A ++ (P, tabObj (ps ++ #[rawInt pos.line, rawInt pos.col, .ref c'])) :: B) ++ R := by simp
    rw [e1, e2]
    exact List.perm_middle
  | some v =>
    obtain ⟨c', oc, rfl, hm, hr⟩ := ht.2 _ _ e
    exact T_lamHit (clos := clos) S CH (by simp) ht.1 e hdef hcl fun f ctv => h f c' oc ctv ps R ht hm hr (.refl _)
end Mine
end

section
open PySem PySem.W PySem.Calls PyProof.Rows
set_option Elab.async false
set_option maxRecDepth 100000
set_option linter.unusedVariables false
set_option linter.unusedSimpArgs false
namespace Mine
variable {C : Cx} {α β : Type} {m : Loc} {l : Led} {mg mb : Loc}

theorem T_lamE (mg mb : Loc) {cn : Str} {cs : Scope} {a c : Addr} (P : Addr) {cl : List (Str × Addr)} (clos : List (Str × Addr)) {params : Arguments} {body : Expr} {scope : Scope} (ps : Array Value) {pos : Pos} {Q : Value → Loc → Led → Prop} (A B R : Led)
    (S : Stat mg mb C.h₀) (CH : CodeHd C.h₀ c P) (ht : TabOk (cn ++ ".<locals>." ++ "<lambda>") ps R) (hA : l = A ++ (P, tabObj ps) :: (B ++ R)) (hdef : defaultsOf params (envX cn cs C.L a (.ref c) cl) = ([], []))
    (hcl : closureFor scope (envX cn cs C.L a (.ref c) cl) = pure clos)
    (h : ∀ f c' oc ctv ps' R' l', l' = A ++ (P, tabObj ps') :: (B ++ R') → TabOk (cn ++ ".<locals>." ++ "<lambda>") ps' R' → (c', oc) ∈ R' → RecO c' (cn ++ ".<locals>." ++ "<lambda>") oc → Suf R R' →
      Q (.ref f) m ((f, kla_obj "<lambda>" (cn ++ ".<locals>." ++ "<lambda>") params body scope clos ((mg "__name__").getD .none) c' ctv) :: l')) :
    T C (eval (.Lambda params body scope pos) (envX cn cs C.L a (.ref c) cl)) m l Q := by
  subst hA
  exact T_lamAny (cn := cn) (cs := cs) (a := a) (cl := cl) S CH ht hdef hcl fun f c' oc ctv ps' R' h1 h2 h3 h4 => h f c' oc ctv ps' R' _ rfl h1 h2 h3 h4

theorem Sub.trans {a b c : Led} (h : Sub a b) (k : Sub b c) : Sub a c := by
  obtain ⟨b1, p1, s1⟩ := h
  obtain ⟨c1, p2, s2⟩ := k
  obtain ⟨c2, p3, s3⟩ := List.exists_perm_sublist s1 p2.symm
  exact ⟨c2, p3.trans p1, s3.trans s2⟩
structure TabD {h : Heap} {i : Nat} {name : Str} {dV kV : Value} (d : Def h mg i name dV kV) where
  c : Addr
  P : Addr
  hc : d.cdv = .ref c
  head : CodeHd h c P

abbrev lamP (x : Str) (p0 : Pos) : Arguments := { posonlyargs := [], args := [{ arg := x, annotation := none, pos := p0 }], vararg := none, kwonlyargs := [], kw_defaults := [], kwarg := none, defaults := [] }
abbrev lamS : Scope := { kind := ScopeKind.function, names := [("other", NameKind.local), ("word", NameKind.free)], isGenerator := false, isCoroutine := false }
abbrev lamB (p1 p2 p3 p4 : Pos) : Expr := .Subscript (.Name "word" p1) (.Slice (some (.Name "other" p2)) none none p3) p4

/-- the key that gives a place's rest of the text -/
theorem keySfx {f c' cw : Addr} {oc ow : Obj} {qual : Str} {p0 p1 p2 p3 p4 : Pos} {pm ctv : Value} {word : List Nat} {tw : Tok} {n r : Nat} {item : Nat → Value → Prop} {d : Nat → List Nat} (S : Stat mg mb C.h₀) (hw : word.length ≤ 100)
    (hf : (f, kla_obj "<lambda>" qual (lamP "other" p0) (lamB p1 p2 p3 p4) lamS [("word", cw)] pm c' ctv) ∈ l) (hoc : (c', oc) ∈ l) (hr : RecO c' qual oc) (how : (cw, ow) ∈ l) (hwd : ow.data = .cell (some (.str (ofL word) tw)))
    (hit : ∀ i v, i < n → item i v → ∃ z t, v = .int z t ∧ Txt.slice (ofL word) (some z) none = ofL (d i)) :
    KeyOk C l f (kla_obj "<lambda>" qual (lamP "other" p0) (lamB p1 p2 p3 p4) lamS [("word", cw)] pm c' ctv) (kla_fn "<lambda>" qual (lamP "other" p0) (lamB p1 p2 p3 p4) lamS [("word", cw)] pm (.ref c') ctv) n item (fun i v => ∃ t, v = .str (ofL (d i)) t) (r + 1) where
  seen := Seen.led hf
  data := rfl
  call := by
    intro C' env outer m Q i v L' A hi hv h
    obtain ⟨z, t, rfl, hz⟩ := hit i v hi hv
    refine T_call_lam (binds := [("other", .int z t)]) A (S.keeps L'.keep) hf hoc hr rfl ?_ (fun g L'' kg Sg Kg => ?_) ?_
    · intro y hy
      simp only [List.mem_cons, List.not_mem_nil, or_false] at hy
      rcases hy with rfl
      rfl
    · refine T.gen fun m0 hm0 => ?_
      have h0 : m0 "other" = some (.int z t) := by rw [hm0]; rfl
      clear hm0
      with_reducible refine T_slice_sn ?_ ?ht
      case ht => intro _ _; rfl
      repeat walk_at "t"
      refine ⟨_, _, _, _, rfl, rfl, by show (ofL word).length ≤ _; simp [ofL, Str.length]; omega, fun ts => ?_⟩
      exact h _ ⟨ts, by rw [hz]⟩
    · decide

theorem len_ofL (x : List Nat) : (ofL x).length = x.length := by simp [ofL, Str.length]
theorem cps_ofL (x : List Nat) : (ofL x).cps.toList = x := by simp [ofL]
abbrev lamQ (cn : Str) : Str := cn ++ ".<locals>." ++ "<lambda>"

theorem both {env : Env} {outer : List Env} {r : Nat} (K : Act C env outer (r + 3)) (B : Lib C.prog C.w C.h₀ mg mb) (D : TabD B.d21) {ps : Array Value} {R A : Led} (ht : TabOk (lamQ "_law_both") ps R)
    {word tail : List Nat} {tw tt : Tok} (hw : word.length ≤ 100) {ra : Addr} {rv : List Value} {nr : Nat} {zs : List Int} (hra : (ra, lo rv nr) ∈ A) (hrv : IntsAre rv zs) (hrl : rv.length ≤ 1000) {d : Nat → List Nat}
    (hd : ∀ i z, zs[i]? = some z → Txt.slice (ofL word) (some z) none = ofL (d i)) {j1 j2 : Nat} (hj1 : ∀ i < rv.length, d i < tail ↔ i < j1) (hj2 : ∀ i < rv.length, tail < d i ↔ j2 ≤ i) (hj1l : j1 ≤ rv.length) (hj2l : j2 ≤ rv.length) {Q : Value → Loc → Led → Prop}
    (h : ∀ da t1 t2 n ps' R', TabOk (lamQ "_law_both") ps' R' → Suf R R' → Q (.ref da) m ((da, lo [.int j1 t1, .int j2 t2] n) :: (A ++ (D.P, tabObj ps') :: R'))) :
    T C (call (.ref B.d21.f) [.ref ra, .str (ofL tail) tt, .str (ofL word) tw]) m (A ++ (D.P, tabObj ps) :: R) Q := by
  have hit : ∀ i v, i < rv.length → rv[i]? = some v → ∃ z t, v = .int z t ∧ Txt.slice (ofL word) (some z) none = ofL (d i) := by
    intro i v hi hv
    have hzl : i < zs.length := by rw [← hrv.length]; exact hi
    obtain ⟨t, ht⟩ := hrv.get i zs[i] (by simp [hzl])
    rw [ht] at hv
    exact ⟨zs[i], t, (Option.some.inj hv).symm, hd i _ (by simp [hzl])⟩
  refine T_call_cellsX (binds := [("row", .ref ra), ("tail", .str (ofL tail) tt), ("word", .str (ofL word) tw)]) K B.S B.d21.get B.d21.data B.d21.code (fun s k => BindsTo.of_eq rfl) ?_ ?_ (fun g L' cl cells kg Sg hcl Kg Y => ?_) rfl rfl rfl
  · rfl
  · decide
  · obtain rfl : cl = [(("word" : Str), L' + 1)] := by rw [hcl]; rfl
    clear hcl
    generalize L' + 1 = cw at *
    obtain ⟨ow, rfl, how⟩ := Y.one
    have how : ow.data = .cell (some (.str (ofL word) tw)) := how
    refine T.gen fun m0 hm0 => ?_
    have h0 : m0 "row" = some (.ref ra) := by rw [hm0]; rfl
    have h1 : m0 "tail" = some (.str (ofL tail) tt) := by rw [hm0]; rfl
    clear hm0 Y
    have hgL := B.dL.d.g
    have hgR := B.dR.d.g
    rw [D.hc] at Kg ⊢
    with_reducible refine T.dropE ?_
    rw [List.cons_append, List.nil_append]
    refine T_cons ?_
    repeat walk_at "t"
    with_reducible refine T_callWith_def_kw1 B.dL.d.data ?_ ?he
    case he => rfl
    repeat walk_at "t"
    with_reducible refine T_lamE mg mb D.P [("word", cw)] ps ((cw, ow) :: A) [] R ?S1 ?ch ?ht1 ?hA1 ?hdef ?hclo ?_
    case S1 => exact Sg
    case ht1 => exact ht
    case ch => exact D.head.keeps kg
    case hA1 => rfl
    case hdef => rfl
    case hclo => rfl
    intro f1 c1 oc1 ctv1 ps1 R1 l1 hl1 ht1 hc1 hr1 hs1
    have hra1 : (ra, lo rv nr) ∈ l1 := by rw [hl1]; simp [hra]
    have hcw1 : (cw, ow) ∈ l1 := by rw [hl1]; simp
    have hcl1 : (c1, oc1) ∈ l1 := by rw [hl1]; simp [hc1]
    refine ⟨Seen.base (kg _ _ B.dL.d.get), ?_⟩
    with_reducible refine bisect_left_key (item := fun i v => rv[i]? = some v) (j := j1) Kg Sg (B.dL.d.keeps kg) B.N (kg _ _ B.dL.hT) (n := rv.length) (by omega) (SeqOk.list (Seen.led (List.mem_cons_of_mem _ hra1)) (by omega)) (keySfx (d := d) Sg hw List.mem_cons_self (List.mem_cons_of_mem _ hcl1) hr1 (List.mem_cons_of_mem _ hcw1) how hit) ?hcmp hj1l ?_
    case hcmp =>
      rintro C' m Q i v hi ⟨t, rfl⟩ hq
      refine T_lt_str ?_
      rw [cps_ofL, cps_ofL, show decide (d i < tail) = decide (i < j1) from decide_eq_decide.mpr (hj1 i hi)]
      exact hq
    intro t1
    repeat walk_at "t"
    with_reducible refine T_callWith_def_kw1 B.dR.d.data ?_ ?he2
    case he2 => rfl
    repeat walk_at "t"
    generalize hko1 : (f1, kla_obj _ _ _ _ _ _ _ _ _) = ko1
    with_reducible refine T_lamE mg mb D.P [("word", cw)] ps1 (ko1 :: (cw, ow) :: A) [] R1 ?S2 ?ch2 ?ht2 ?hA2 ?hdef2 ?hclo2 ?_
    case S2 => exact Sg
    case ht2 => exact ht1
    case ch2 => exact D.head.keeps kg
    case hA2 => rw [hl1]; rfl
    case hdef2 => rfl
    case hclo2 => rfl
    intro f2 c2 oc2 ctv2 ps2 R2 l2 hl2 ht2 hc2 hr2 hs2
    have hra2 : (ra, lo rv nr) ∈ l2 := by rw [hl2]; simp [hra]
    have hcw2 : (cw, ow) ∈ l2 := by rw [hl2]; simp
    have hcl2 : (c2, oc2) ∈ l2 := by rw [hl2]; simp [hc2]
    refine ⟨Seen.base (kg _ _ B.dR.d.get), ?_⟩
    with_reducible refine bisect_right_key (item := fun i v => rv[i]? = some v) (j := j2) Kg Sg (B.dR.d.keeps kg) B.N (kg _ _ B.dR.hT) (n := rv.length) (by omega) (SeqOk.list (Seen.led (List.mem_cons_of_mem _ hra2)) (by omega)) (keySfx (d := d) Sg hw List.mem_cons_self (List.mem_cons_of_mem _ hcl2) hr2 (List.mem_cons_of_mem _ hcw2) how hit) ?hcmp2 hj2l ?_
    case hcmp2 =>
      rintro C' m Q i v hi ⟨t, rfl⟩ hq
      refine T_lt_str ?_
      rw [cps_ofL, cps_ofL, show decide (tail < d i) = decide (j2 ≤ i) from decide_eq_decide.mpr (hj2 i hi)]
      exact hq
    intro t2
    repeat walk_at "t"
    refine T_newList (by rw [sizeLine_eq]; simp) fun da => ?_
    repeat walk_at "t"
    refine ⟨(da, lo [.int j1 t1, .int j2 t2]) :: (A ++ (D.P, tabObj ps2) :: R2), ?_, h da t1 t2 0 ps2 R2 ht2 (hs1.trans hs2)⟩
    rw [hl2]
    exact .consP (.drop (.drop (.drop (.refl _))))
end Mine
end

section
open PySem PySem.W PySem.Calls PyProof.Rows
set_option Elab.async false
set_option maxRecDepth 100000
set_option linter.unusedVariables false
set_option linter.unusedSimpArgs false
namespace Mine
variable {C : Cx} {α β : Type} {m : Loc} {l : Led} {mg mb : Loc}

theorem T_Assign_swap2 {env : Env} {elts : List Expr} {k : Nat} {tpos pos : Pos} {value : Expr} {x y : Str} {Q : Flow → Loc → Led → Prop} (hh : C.A.handled = none)
    (h : T C (eval value env) m l fun v m1 l1 => ∃ d a b, v = .ref d ∧ Seen C l1 d (tup [a, b]) ∧ T C (storeName env y b) m1 l1 fun _ m2 l2 => T C (storeName env x a) m2 l2 fun _ => Q .next)
    (hs : swapsWithSole [.Tuple elts k tpos] value pos.line env = pure false) (hw : swappedStores [.Tuple elts k tpos] value env = pure (some [x, y])) :
    T C (exec (.Assign [.Tuple elts k tpos] value pos) env) m l Q := by
  intro s P E O c
  refine Assign_Tuple_swapped (h s _ E O fun v h1 tk1 m1 l1 k1 O1 => ?_) hs hw
  obtain ⟨d, a, b, rfl, hd, k2⟩ := k1
  refine unpackItems_tuple (items := #[a, b]) hh ⟨_, hd.get O1, rfl, 0, rfl⟩ fun h' he => ?_
  have O' : Okk C.h₀ C.L h' m1 l1 := O1.grown fun b o e => he b o (Nat.ne_of_lt (Heap.lt_size e)) e
  refine assignInOrder_cons (T_bindName k2 _ _ E O' fun _ h2 tk2 m2 l2 k3 O2 => assignInOrder_cons (T_bindName k3 _ _ E O2 fun _ h3 tk3 m3 l3 k4 O3 => assignInOrder_nil (c _ h3 tk3 m3 l3 k4 O3)))
theorem T_Assign_swap3 {env : Env} {elts : List Expr} {k : Nat} {tpos pos : Pos} {value : Expr} {x y z : Str} {Q : Flow → Loc → Led → Prop} (hh : C.A.handled = none)
    (h : T C (eval value env) m l fun v m1 l1 => ∃ d a b e, v = .ref d ∧ Seen C l1 d (tup [a, b, e]) ∧ T C (storeName env z e) m1 l1 fun _ m2 l2 => T C (storeName env y b) m2 l2 fun _ m3 l3 => T C (storeName env x a) m3 l3 fun _ => Q .next)
    (hs : swapsWithSole [.Tuple elts k tpos] value pos.line env = pure false) (hw : swappedStores [.Tuple elts k tpos] value env = pure (some [x, y, z])) :
    T C (exec (.Assign [.Tuple elts k tpos] value pos) env) m l Q := by
  intro s P E O c
  refine Assign_Tuple_swapped (h s _ E O fun v h1 tk1 m1 l1 k1 O1 => ?_) hs hw
  obtain ⟨d, a, b, e, rfl, hd, k2⟩ := k1
  refine unpackItems_tuple (items := #[a, b, e]) hh ⟨_, hd.get O1, rfl, 0, rfl⟩ fun h' he => ?_
  have O' : Okk C.h₀ C.L h' m1 l1 := O1.grown fun b o e => he b o (Nat.ne_of_lt (Heap.lt_size e)) e
  refine assignInOrder_cons (T_bindName k2 _ _ E O' fun _ h2 tk2 m2 l2 k3 O2 => assignInOrder_cons (T_bindName k3 _ _ E O2 fun _ h3 tk3 m3 l3 k4 O3 => assignInOrder_cons (T_bindName k4 _ _ E O3 fun _ h4 tk4 m4 l4 k5 O4 => assignInOrder_nil (c _ h4 tk4 m4 l4 k5 O4))))

section bools
variable {env : Env} {x : Expr} {rest : List Expr} {pos : Pos} {whole : Sem Value} {Q : Bool → Loc → Led → Prop}
def orT (C : Cx) (rest : List Expr) (pos : Pos) (env : Env) (whole : Sem Value) (Q : Bool → Loc → Led → Prop) : Bool → Loc → Led → Prop
  | true => Q true
  | false => fun m l => T C (isTrue (.BoolOp .Or rest pos) env whole) m l Q
def andT (C : Cx) (rest : List Expr) (pos : Pos) (env : Env) (whole : Sem Value) (Q : Bool → Loc → Led → Prop) : Bool → Loc → Led → Prop
  | false => Q false
  | true => fun m l => T C (isTrue (.BoolOp .And rest pos) env whole) m l Q
theorem T_isTrue_or (h : T C (isTrue x env (eval x env)) m l (orT C rest pos env whole Q)) : T C (isTrue (.BoolOp .Or (x :: rest) pos) env whole) m l Q := by
  intro s P E O c
  refine isTrue_or (h s _ E O fun b h1 tk1 m1 l1 k1 O1 => ?_)
  cases b with
  | false => rw [if_neg Bool.false_ne_true]; exact k1 _ P E O1 c
  | true => rw [if_pos rfl]; exact c true h1 tk1 m1 l1 k1 O1
theorem T_isTrue_or_nil (h : Q false m l) : T C (isTrue (.BoolOp .Or [] pos) env whole) m l Q := fun s P E O c => isTrue_or_nil (c false s.heap s.toks m l h O)
/-- the value of `a and b`, both bools -/
theorem T_and2 {e1 e2 : Expr} {Q : Value → Loc → Led → Prop} (h : T C (eval e1 env) m l fun v m1 l1 => v = .bool true ∧ T C (eval e2 env) m1 l1 Q) : T C (eval (.BoolOp .And [e1, e2] pos) env) m l Q := by
  intro s P E O c
  refine BoolOp_and (h s _ E O fun v h1 tk1 m1 l1 k1 O1 => ?_)
  obtain ⟨rfl, k2⟩ := k1
  refine wpAny_truthy_bool ?_
  rw [if_pos rfl]
  exact BoolOp_one (k2 _ P E O1 c)
end bools

theorem T_ne_ints {env : Env} {outer : List Env} {r : Nat} (K : Act C env outer r) {a b : Addr} {vs us : List Value} {n k : Nat} {ns ms : List Int} {Q : Value → Loc → Led → Prop} (ha : Seen C l a (lo vs n)) (hb : Seen C l b (lo us k)) (hi : IntsAre vs ns) (hj : IntsAre us ms)
    (h : Q (.bool (!decide (ns = ms))) m l) : T C (compareOp .NotEq (.ref a) (.ref b)) m l Q :=
  fun s P E O c => ke_ne_ints (ha.isList O) (hb.isList O) hi hj (room_act K) (c _ s.heap s.toks m l h O)
theorem T_eq_ints {env : Env} {outer : List Env} {r : Nat} (K : Act C env outer r) {a b : Addr} {vs us : List Value} {n k : Nat} {ns ms : List Int} {Q : Value → Loc → Led → Prop} (ha : Seen C l a (lo vs n)) (hb : Seen C l b (lo us k)) (hi : IntsAre vs ns) (hj : IntsAre us ms)
    (h : Q (.bool (decide (ns = ms))) m l) : T C (compareOp .Eq (.ref a) (.ref b)) m l Q :=
  fun s P E O c => ke_eq_ints (ha.isList O) (hb.isList O) hi hj (room_act K) (c _ s.heap s.toks m l h O)

/-- the rest of a text from a place that may be counted from the end -/
def gW (w : List Nat) (z : Int) : List Nat := w.drop (clipAt w.length z)
theorem slice_gW (w : List Nat) (z : Int) : Txt.slice (ofL w) (some z) none = ofL (gW w z) := by
  rw [slice_gen]
  simp only [Option.elim, gW]
  rw [List.take_of_length_le (by simp)]
theorem gW_nat {w : List Nat} {p : Nat} (hp : p ≤ w.length) : gW w (p : Int) = sfx w p := by
  unfold gW sfx
  rw [clipAt_nat, Nat.min_eq_left hp]
theorem gW_back {w : List Nat} {p : Nat} (hp : p < w.length) : gW w ((p : Int) - w.length) = sfx w p := by
  unfold gW sfx
  have e : clipAt w.length ((p : Int) - w.length) = p := by
    have := clipAt_cast w.length ((p : Int) - w.length)
    omega
  rw [e]
theorem tri3 {g : Int → List Nat} {t : List Nat} {A B D : List Int} (h1 : ∀ z ∈ A, g z < t) (h2 : ∀ z ∈ B, g z = t) (h3 : ∀ z ∈ D, t < g z) :
    ∀ i z, (A ++ (B ++ D))[i]? = some z → (g z < t ↔ i < A.length) ∧ (t < g z ↔ A.length + B.length ≤ i) := by
  intro i z hz
  by_cases ha : i < A.length
  · rw [List.getElem?_append_left ha] at hz
    have := h1 z (List.mem_of_getElem? hz)
    exact ⟨⟨fun _ => ha, fun _ => this⟩, ⟨fun h => absurd (List.lt_trans h this) (List.lt_irrefl _), fun h => by omega⟩⟩
  · rw [List.getElem?_append_right (by omega)] at hz
    by_cases hb : i - A.length < B.length
    · rw [List.getElem?_append_left hb] at hz
      have := h2 z (List.mem_of_getElem? hz)
      rw [this]
      exact ⟨⟨fun h => absurd h (List.lt_irrefl _), fun h => by omega⟩, ⟨fun h => absurd h (List.lt_irrefl _), fun h => by omega⟩⟩
    · rw [List.getElem?_append_right (by omega)] at hz
      have := h3 z (List.mem_of_getElem? hz)
      exact ⟨⟨fun h => absurd (List.lt_trans h this) (List.lt_irrefl _), fun h => by omega⟩, ⟨fun _ => by omega, fun _ => this⟩⟩

/-- what a row's key gives, for a row of places -/
theorem row_item {w : List Nat} {rv : List Value} {zs : List Int} (hrv : IntsAre rv zs) : ∀ i v, i < rv.length → rv[i]? = some v → ∃ z t, v = .int z t ∧ Txt.slice (ofL w) (some z) none = ofL (gW w (zs.getD i 0)) := by
  intro i v hi hv
  have hzl : i < zs.length := by rw [← hrv.length]; exact hi
  obtain ⟨t, ht⟩ := hrv.get i zs[i] (by simp [hzl])
  rw [ht] at hv
  refine ⟨zs[i], t, (Option.some.inj hv).symm, ?_⟩
  rw [slice_gW, List.getD_eq_getElem?_getD, List.getElem?_eq_getElem hzl]
  rfl

abbrev lamSk : Scope := { kind := ScopeKind.function, names := [("k", NameKind.local), ("near", NameKind.free), ("tail", NameKind.free), ("word", NameKind.free)], isGenerator := false, isCoroutine := false }
abbrev lamBk (p1 p2 p3 p4 p5 p6 p7 q1 q2 q3 q4 q5 q6 q7 q8 q9 : Pos) (n1 n2 : Nat) : Expr :=
  .Compare (.Subscript (.Name "tail" p1) (.Slice none (some (.BinOp (.Name "k" p2) .Add (.Constant (.int 1) n1 p3) p4)) none p5) p6) [.NotEq]
    [.Subscript (.Name "word" q1) (.Slice (some (.Name "near" q2)) (some (.BinOp (.BinOp (.Name "near" q3) .Add (.Name "k" q4) q5) .Add (.Constant (.int 1) n2 q6) q7)) none q8) q9] p7

/-- the key that says whether two texts differ by place k -/
theorem keyLcp {f c' cw ct cn : Addr} {oc ow ot on : Obj} {qual : Str} {p0 p1 p2 p3 p4 p5 p6 p7 q1 q2 q3 q4 q5 q6 q7 q8 q9 : Pos} {n1 n2 : Nat} {pm ctv : Value} {word : List Nat} {p near : Nat} {tw tt tn : Tok} {r : Nat} (S : Stat mg mb C.h₀) (hw : word.length ≤ 100)
    (hf : (f, kla_obj "<lambda>" qual (lamP "k" p0) (lamBk p1 p2 p3 p4 p5 p6 p7 q1 q2 q3 q4 q5 q6 q7 q8 q9 n1 n2) lamSk [("word", cw), ("tail", ct), ("near", cn)] pm c' ctv) ∈ l) (hoc : (c', oc) ∈ l) (hr : RecO c' qual oc)
    (how : (cw, ow) ∈ l) (hwd : ow.data = .cell (some (.str (ofL word) tw))) (hot : (ct, ot) ∈ l) (htd : ot.data = .cell (some (.str (ofL (sfx word p)) tt))) (hon : (cn, on) ∈ l) (hnd : on.data = .cell (some (.int near tn))) :
    KeyOk C l f (kla_obj "<lambda>" qual (lamP "k" p0) (lamBk p1 p2 p3 p4 p5 p6 p7 q1 q2 q3 q4 q5 q6 q7 q8 q9 n1 n2) lamSk [("word", cw), ("tail", ct), ("near", cn)] pm c' ctv)
      (kla_fn "<lambda>" qual (lamP "k" p0) (lamBk p1 p2 p3 p4 p5 p6 p7 q1 q2 q3 q4 q5 q6 q7 q8 q9 n1 n2) lamSk [("word", cw), ("tail", ct), ("near", cn)] pm (.ref c') ctv) (sfx word p).length
      (fun i v => ∃ t, v = .int i t) (fun i v => v = .bool (!decide (i < lcp (sfx word p) (sfx word near)))) (r + 1) where
  seen := Seen.led hf
  data := rfl
  call := by
    rintro C' env outer m Q i v L' A hi ⟨t, rfl⟩ h
    refine T_call_lam (binds := [("k", .int i t)]) A (S.keeps L'.keep) hf hoc hr rfl ?_ (fun g L'' kg Sg Kg => ?_) ?_
    · intro y hy
      simp only [List.mem_cons, List.not_mem_nil, or_false] at hy
      rcases hy with rfl
      rfl
    · refine T.gen fun m0 hm0 => ?_
      have h0 : m0 "k" = some (.int i t) := by rw [hm0]; rfl
      clear hm0
      have hsl : (sfx word p).length ≤ 100 := by simp [sfx]; omega
      repeat walk_at "t"
      with_reducible refine T_slice_ns ?_ ?ht
      case ht => intro _ _; rfl
      repeat walk_at "t"
      refine ⟨_, _, _, _, rfl, rfl, by rw [len_ofL]; omega, fun ts => ?_⟩
      repeat walk_at "t"
      with_reducible refine T_slice_ss ?_ ?ht2
      case ht2 => intro _ _; rfl
      repeat walk_at "t"
      refine ⟨_, _, _, _, _, _, rfl, rfl, rfl, by rw [len_ofL]; omega, fun ts2 => ?_⟩
      refine T_ne_str ?_
      refine h _ ?_
      have e1 : ((i : Int) + 1) = ((i + 1 : Nat) : Int) := by push_cast; rfl
      have e2 : ((near : Int) + (i : Int) + 1) = ((near + (i + 1) : Nat) : Int) := by push_cast; omega
      rw [e1, e2, slice_upto, slice_run, show near + (i + 1) - near = i + 1 by omega]
      show Value.bool _ = Value.bool _
      congr 1
      have hk := lcp_take (sfx word p) (sfx word near) (i + 1)
      have hne : (ofL ((sfx word p).take (i + 1)) != ofL ((word.drop near).take (i + 1))) = !decide ((sfx word p).take (i + 1) = (sfx word near).take (i + 1)) := by
        unfold sfx
        by_cases he : (word.drop p).take (i + 1) = (word.drop near).take (i + 1)
        · rw [he, decide_eq_true rfl]; simp
        · rw [decide_eq_false he]
          have : ofL ((word.drop p).take (i + 1)) ≠ ofL ((word.drop near).take (i + 1)) := fun q => he (by
            have := congrArg (fun x : Str => x.cps.toList) q
            simpa [ofL] using this)
          simpa using this
      rw [hne]
      congr 1
      exact decide_eq_decide.mpr ⟨fun h => hk.mp ⟨h, by omega⟩, fun h => (hk.mpr h).1⟩
    · decide
end Mine
end

section
open PySem PySem.W PySem.Calls PyProof.Rows
set_option Elab.async false
set_option maxRecDepth 100000
set_option linter.unusedVariables false
set_option linter.unusedSimpArgs false
namespace Mine
variable {C : Cx} {α β : Type} {m : Loc} {l : Led} {mg mb : Loc}

def ToldM (R : Led) (tv : List Value) (sz src : Nat → Nat) : Prop := ∀ i < tv.length, ∃ ti t1 t2, tv[i]? = some (.ref ti) ∧ (ti, tup [.int (sz i) t1, .int (src i) t2]) ∈ R
theorem ToldM.mono {R R' : Led} {tv : List Value} {sz src : Nat → Nat} (h : ToldM R tv sz src) (k : ∀ p ∈ R, p ∈ R') : ToldM R' tv sz src := fun i hi => let ⟨a, b, c, d, e⟩ := h i hi; ⟨a, b, c, d, k _ e⟩
theorem ToldM.snoc {R : Led} {tv : List Value} {sz src : Nat → Nat} (h : ToldM R tv sz src) {ti : Addr} {t1 t2 : Tok} (hn : (ti, tup [.int (sz tv.length) t1, .int (src tv.length) t2]) ∈ R) : ToldM R (tv ++ [.ref ti]) sz src := by
  intro i hi
  rw [List.length_append, List.length_singleton] at hi
  by_cases hlt : i < tv.length
  · obtain ⟨a, b, c, d, e⟩ := h i hlt
    exact ⟨a, b, c, by rw [List.getElem?_append_left hlt]; exact d, e⟩
  · obtain rfl : i = tv.length := by omega
    exact ⟨ti, t1, t2, by simp, hn⟩

/-- the told pairs stand in front of what was there -/
def ToldT (R R' : Led) (tv : List Value) (sz src : Nat → Nat) : Prop := ∃ T, R' = T ++ R ∧ ToldM T tv sz src
theorem ToldT.mono {R R' R'' : Led} {tv : List Value} {sz src : Nat → Nat} (h : ToldT R R' tv sz src) (k : Suf R' R'') : ToldT R R'' tv sz src := by
  obtain ⟨T, rfl, h⟩ := h
  obtain ⟨T', rfl⟩ := k
  exact ⟨T' ++ T, by rw [List.append_assoc], h.mono fun p hp => List.mem_append_right _ hp⟩
theorem ToldT.snoc {R R' : Led} {tv : List Value} {sz src : Nat → Nat} (h : ToldT R R' tv sz src) {ti : Addr} {a b : Nat} {t1 t2 : Tok} (ha : a = sz tv.length) (hb : b = src tv.length) : ToldT R ((ti, tup [.int a t1, .int b t2]) :: R') (tv ++ [.ref ti]) sz src := by
  obtain ⟨T, rfl, h⟩ := h
  subst ha hb
  exact ⟨(ti, _) :: T, rfl, (h.mono fun p hp => List.mem_cons_of_mem _ hp).snoc List.mem_cons_self⟩

structure RowAt (w t : List Nat) (S : Nat) (A D : List Int) : Prop where
  len : A.length = S
  lt : ∀ z ∈ A, gW w z < t
  gt : ∀ z ∈ D, t < gW w z
theorem RowAt.cmp {w t : List Nat} {S : Nat} {A D B : List Int} (h : RowAt w t S A D) (hb : ∀ z ∈ B, gW w z = t) {i : Nat} (hi : i < (A ++ (B ++ D)).length) :
    (gW w ((A ++ (B ++ D)).getD i 0) < t ↔ i < S) ∧ (t < gW w ((A ++ (B ++ D)).getD i 0) ↔ S + B.length ≤ i) := by
  have h1 := tri3 (g := gW w) (t := t) h.lt hb h.gt i ((A ++ (B ++ D)).getD i 0) (by rw [List.getD_eq_getElem?_getD, List.getElem?_eq_getElem hi]; rfl)
  rw [h.len] at h1
  exact h1
theorem rowAt {w : List Nat} {k : Nat} (hk : k < w.length) : RowAt w (sfx w k) (spotOf w (rowN w k) k) (((rowN w k).take (spotOf w (rowN w k) k)).map Int.ofNat) (((rowN w k).drop (spotOf w (rowN w k) k)).map Int.ofNat) where
  len := by
    have := spotOf_le (w := w) (rowN w k) k
    rw [List.length_map, List.length_take, Nat.min_eq_left this]
  lt := by
    intro z hz
    obtain ⟨a, ha, rfl⟩ := List.mem_map.mp hz
    have := rowN_mem.mp (List.mem_of_mem_take ha)
    rw [show Int.ofNat a = (a : Int) from rfl, gW_nat (by omega)]
    exact take_lt (rowN_sorted (Nat.le_of_lt hk)) a ha
  gt := by
    intro z hz
    obtain ⟨a, ha, rfl⟩ := List.mem_map.mp hz
    have := rowN_mem.mp (List.mem_of_mem_drop ha)
    rw [show Int.ofNat a = (a : Int) from rfl, gW_nat (by omega)]
    exact drop_gt (rowN_sorted (Nat.le_of_lt hk)) hk (fun j hj => rowN_mem.mp hj) a ha

theorem nears_ints {w : List Nat} {k : Nat} {rv : List Value} (hrv : IntsAre rv ((rowN w k).map Int.ofNat)) {S : Nat} (hS : spotOf w (rowN w k) k = S) :
    IntsAre (slicePick rv.toArray (some (max 0 ((S : Int) - 1))) (some ((S : Int) + 1)) none).toList ((nearsN w k).map Int.ofNat) := by
  have hSl : S ≤ (rowN w k).length := by rw [← hS]; exact spotOf_le _ _
  have hrl : rv.length = (rowN w k).length := by have := hrv.length; rwa [List.length_map] at this
  have e1 : max 0 ((S : Int) - 1) = ((S - 1 : Nat) : Int) := by omega
  have e2 : (S : Int) + 1 = ((S + 1 : Nat) : Int) := by omega
  rw [e1, e2, slicePick_plain]
  simp only [Option.elim, clipAt_nat, List.size_toArray]
  have e3 : nearsN w k = ((rowN w k).drop (min (S - 1) rv.length)).take (min (S + 1) rv.length - min (S - 1) rv.length) := by
    unfold nearsN
    rw [hS, hrl, Nat.min_eq_left (show S - 1 ≤ (rowN w k).length by omega), List.take_eq_take_iff, List.length_drop]
    rcases Nat.le_total (S + 1) (rowN w k).length with h | h
    · rw [Nat.min_eq_left h]
    · rw [Nat.min_eq_right h, Nat.min_self, Nat.min_eq_right (Nat.sub_le_sub_right h _)]
  rw [e3, List.map_take, List.map_drop]
  exact (hrv.drop _).take _

abbrev TabD.keeps' {h h' : Heap} {i : Nat} {name : Str} {dV kV : Value} {d : Def h mg i name dV kV} {d' : Def h' mg i name dV kV} (D : TabD d) (e : d'.cdv = d.cdv) (k : ∀ b o, h.get? b = some o → h'.get? b = some o) : TabD d' :=
  ⟨D.c, D.P, e.trans D.hc, D.head.keeps k⟩
theorem erase_mid {α : Type} (xs : List α) (y : α) {S : Nat} (h : S ≤ xs.length) : (xs.take S ++ y :: xs.drop S).eraseIdx S = xs := by
  have hl : (xs.take S).length = S := by rw [List.length_take, Nat.min_eq_left h]
  rw [List.eraseIdx_append_of_length_le (by omega), hl, Nat.sub_self, List.eraseIdx_cons_zero, List.take_append_drop]
theorem get_mid {α : Type} (xs : List α) (y : α) {S : Nat} (h : S ≤ xs.length) : (xs.take S ++ y :: xs.drop S)[S]? = some y := by
  have hl : (xs.take S).length = S := by rw [List.length_take, Nat.min_eq_left h]
  rw [List.getElem?_append_right (by omega), hl, Nat.sub_self]; rfl

theorem insortSfx {env : Env} {outer : List Env} {r : Nat} (K : Act C env outer (r + 3)) (B : Lib C.prog C.w C.h₀ mg mb) {word t : List Nat} {tw tz : Tok} (hw : word.length ≤ 100) {row f c' cw : Addr} {rv : List Value} {nr S : Nat} {g : Obj → Led} (rp : Rep l row (lo rv nr) g)
    {oc ow : Obj} {qual : Str} {p0 p1 p2 p3 p4 : Pos} {pm ctv : Value} {A D M : List Int} {z : Int}
    (hf : (f, kla_obj "<lambda>" qual (lamP "other" p0) (lamB p1 p2 p3 p4) lamS [("word", cw)] pm c' ctv) ∈ l) (hoc : (c', oc) ∈ l) (hr : RecO c' qual oc) (how : (cw, ow) ∈ l) (hwd : ow.data = .cell (some (.str (ofL word) tw)))
    (hrv : IntsAre rv (A ++ (M ++ D))) (hrow : RowAt word t S A D) (hM : ∀ z ∈ M, gW word z = t) (hz : gW word z = t) (hl : rv.length ≤ 1000) {Q : Value → Loc → Led → Prop} (h : Q .none m (g (lo (rv.take S ++ .int z tz :: rv.drop S) (nr + 1)))) :
    T C (call (.ref B.dI.d.f) [.ref row, .int z tz] [("key", .ref f)]) m l Q := by
  have hS : S ≤ rv.length := by rw [hrv.length, List.length_append, hrow.len]; omega
  have kx := keySfx (r := r + 1) (n := 1) (item := fun _ v => v = .int z tz) (d := fun _ => t) B.S hw hf hoc hr how hwd (fun i v _ hv => ⟨z, tz, hv, by rw [slice_gW, hz]⟩)
  with_reducible refine insort_left_key (res := fun i v => ∃ u, v = .str (ofL (gW word ((A ++ (M ++ D)).getD i 0))) u) (resx := fun v => ∃ u, v = .str (ofL t) u) (j := S) K B.S B.dL.d B.dI.d B.N B.dL.hT B.dI.hT rp (by omega) (keySfx B.S hw hf hoc hr how hwd (row_item hrv)) ?kx ?hc hS h
  case kx =>
    intro C' env outer m Q L A' hq
    exact kx.call C' env outer m Q 0 _ L A' (by omega) rfl hq
  case hc =>
    rintro C' m Q i v xv hi ⟨u, rfl⟩ ⟨u', rfl⟩ hq
    refine T_lt_str ?_
    rw [cps_ofL, cps_ofL, show decide (gW word ((A ++ (M ++ D)).getD i 0) < t) = decide (i < S) from decide_eq_decide.mpr (hrow.cmp hM (by rw [← hrv.length]; exact hi)).1]
    exact hq

theorem ints_mid {rv : List Value} {A M D : List Int} {S : Nat} (h : IntsAre rv (A ++ (M ++ D))) (hl : A.length = S) (z : Int) (t : Tok) : IntsAre (rv.take S ++ .int z t :: rv.drop S) (A ++ ((z :: M) ++ D)) := by
  have h1 := h.take S
  have h2 := h.drop S
  rw [List.take_left' hl] at h1
  rw [List.drop_left' hl] at h2
  exact h1.append (.cons z t h2)

theorem bothE {env : Env} {outer : List Env} {r : Nat} (K : Act C env outer (r + 3)) (B : Lib C.prog C.w C.h₀ mg mb) (D : TabD B.d21) {ps : Array Value} {R : Led} (A : Led) (hl : l = A ++ (D.P, tabObj ps) :: R) (ht : TabOk (lamQ "_law_both") ps R)
    {word tail : List Nat} {tw tt : Tok} (hw : word.length ≤ 100) {ra : Addr} {rv : List Value} {nr S : Nat} {X Y M : List Int} (hra : (ra, lo rv nr) ∈ A) (hrv : IntsAre rv (X ++ (M ++ Y))) (hrl : rv.length ≤ 1000) (hrow : RowAt word tail S X Y) (hM : ∀ z ∈ M, gW word z = tail) (hM2 : M.length = 2) {Q : Value → Loc → Led → Prop}
    (h : ∀ da t1 t2 n ps' R' l', l' = A ++ (D.P, tabObj ps') :: R' → TabOk (lamQ "_law_both") ps' R' → Suf R R' → Q (.ref da) m ((da, lo [.int S t1, .int ((S + 2 : Nat) : Int) t2] n) :: l')) :
    T C (call (.ref B.d21.f) [.ref ra, .str (ofL tail) tt, .str (ofL word) tw]) m l Q := by
  subst hl
  have hlen := hrv.length
  have hX := hrow.len
  rw [List.length_append, List.length_append] at hlen
  refine both (d := fun i => gW word ((X ++ (M ++ Y)).getD i 0)) (j1 := S) (j2 := S + 2) K B D ht hw hra hrv hrl ?_ ?_ ?_ (by omega) (by omega) fun da t1 t2 n ps' R' h1 h2 => h da t1 t2 n ps' R' _ rfl h1 h2
  · intro i z hz
    rw [slice_gW, List.getD_eq_getElem?_getD, hz]
    rfl
  · intro i hi
    exact (hrow.cmp hM (by rw [← hrv.length]; exact hi)).1
  · intro i hi
    have := (hrow.cmp hM (i := i) (by rw [← hrv.length]; exact hi)).2
    rw [hM2] at this
    exact this

section goor
variable {env : Env} {rest : List Expr} {pos : Pos} {whole : Sem Value} {Q : Bool → Loc → Led → Prop}
theorem go_or (h : T C (isTrue (.BoolOp .Or rest pos) env whole) m l Q) : orT C rest pos env whole Q false m l := h
theorem go_or_true (h : Q true m l) : orT C rest pos env whole Q true m l := h
end goor

def InvN (word : List Nat) (R : Led) (rr dQ dT dR ct cn cw P1 P2 : Addr) (orr ow : Obj) (k : Nat) (m' : Loc) (l' : Led) : Prop :=
  ∃ rv tv qv nr nt nq ot on ps1 ps2 R', m' "row" = some (.ref dR) ∧ m' "told" = some (.ref dT) ∧ m' "quiet" = some (.ref dQ) ∧ IntsAre rv ((rowN word k).map Int.ofNat) ∧
    ToldT R R' tv (fun i => (toldN word i).1) (fun i => (toldN word i).2) ∧ tv.length = k ∧ qv = List.replicate (2 * k) Value.none ∧ TabOk (lamQ "_law_both") ps1 R' ∧ TabOk (lamQ "_law_neighbours") ps2 R' ∧ Suf R R' ∧ (∃ v, ot.data = .cell v) ∧ (∃ v, on.data = .cell v) ∧
    l' = (rr, orr) :: (dQ, lo qv nq) :: (dT, lo tv nt) :: (dR, lo rv nr) :: (ct, ot) :: (cn, on) :: (cw, ow) :: (P2, tabObj ps2) :: (P1, tabObj ps1) :: R'

set_option maxHeartbeats 2000000 in
theorem neighboursBody {outer : List Env} {r : Nat} {f c P2 : Addr} {ct cn cw : Addr} (Kg : Act C (envX "_law_neighbours" (fScope 22) C.L f (.ref c) [(("tail" : Str), ct), (("near" : Str), cn), (("word" : Str), cw)]) outer (r + 3)) (B : Lib C.prog C.w C.h₀ mg mb) (D1 : TabD B.d21) (CH : CodeHd C.h₀ c P2) {ps1 ps2 : Array Value} {R : Led}
    (ht1 : TabOk (lamQ "_law_both") ps1 R) (ht2 : TabOk (lamQ "_law_neighbours") ps2 R) {word : List Nat} {tw : Tok} (hw : word.length ≤ 100) {ot on ow : Obj} {vt vn : Option Value} (hot : ot.data = .cell vt) (hon : on.data = .cell vn) (hwd : ow.data = .cell (some (.str (ofL word) tw))) {Q : Value → Loc → Led → Prop} {m0 : Loc}
    (h : ∀ d dt dq tv nt nq ps1' ps2' R', TabOk (lamQ "_law_both") ps1' R' → TabOk (lamQ "_law_neighbours") ps2' R' → Suf R R' → ToldT R R' tv (fun i => (toldN word i).1) (fun i => (toldN word i).2) → tv.length = word.length →
      Q (.ref d) m ((d, tup [.ref dt, .ref dq]) :: (dt, lo tv nt) :: (dq, lo (List.replicate (2 * word.length) Value.none) nq) :: (P2, tabObj ps2') :: (D1.P, tabObj ps1') :: R')) :
    T C (execs (fBody 22) (envX "_law_neighbours" (fScope 22) C.L f (.ref c) [(("tail" : Str), ct), (("near" : Str), cn), (("word" : Str), cw)])) m0 ((ct, ot) :: (cn, on) :: (cw, ow) :: (P2, tabObj ps2) :: (D1.P, tabObj ps1) :: R) (fun fl _ l1 => Q (retOf fl) m l1) := by
    have hN := B.N
    have Sg := B.S
    have hgL := B.dL.d.g
    have hgI := B.dI.d.g
    have hgB := B.d21.g
    with_reducible refine T.dropE ?_
    refine T_cons ?_
    with_reducible refine T_Assign_swap3 (x := "row") (y := "told") (z := "quiet") Kg.hand ?_ ?hs ?hw
    case hs => rfl
    case hw => rfl
    repeat walk_at "t"
    refine T_newList (by rw [sizeLine_eq]; simp) fun dR => ?_
    repeat walk_at "t"
    refine T_newList (by rw [sizeLine_eq]; simp) fun dT => ?_
    repeat walk_at "t"
    refine T_newList (by rw [sizeLine_eq]; simp) fun dQ => ?_
    repeat walk_at "t"
    refine T_newTuple (by rw [sizeLine_eq]; simp) fun dp => ?_
    refine ⟨_, _, _, _, rfl, Seen.led List.mem_cons_self, ?_⟩
    with_reducible refine T.less ?_ (Sub.drop (Sub.refl _))
    repeat walk_at "t"
    with_reducible refine T_For ?_ ?hs ?ht
    case hs => intro _; rfl
    case ht => intro _ _; rfl
    repeat walk_at "t"
    refine T_len_str (by omega) fun t1 => ?_
    repeat walk_at "t"
    refine T_range1 fun rr u1 u3 => ?_
    have hrs := range_small (a := 0) (b := (word.length : Int)) (by omega) (by omega) (by omega) (by omega)
    refine T_iter_range (Seen.led List.mem_cons_self) hrs.1 (fun I2 o2 hst2 => ?_) hrs.2
    have hzn : ((word.length : Int) - 0).toNat = word.length := by omega
    rw [hzn] at hst2
    generalize rng 0 _ 1 _ _ u3 = orr
    refine ⟨I2, _, _, _, _, o2, _, InvN word R rr dQ dT dR ct cn cw D1.P P2 orr ow, rfl, Iter.range Kg.hand I2 0 word.length, hst2, rfl, ?_, fun _ _ _ _ => trivial, ?_, ?_⟩
    · exact ⟨[], [], [], 0, 0, 0, ot, on, ps1, ps2, R, by walk_at "loc", by walk_at "loc", by walk_at "loc", .nil, ⟨[], rfl, fun i hi => by simp at hi⟩, rfl, rfl, ht1, ht2, .refl _, ⟨_, hot⟩, ⟨_, hon⟩, rfl⟩
    · clear ht1 ht2 hot hon
      rintro k v o' m' l' hk ⟨tv0, rfl⟩ ⟨rv, tv, qv, nr, nt, nq, ot, on, ps1, ps2, R1, hmr, hmt, hmq, hrv, htm, htl, hqv, ht1, ht2, hsub, ⟨vt, hot⟩, ⟨vn, hon⟩, rfl⟩
      rw [Int.zero_add]
      have hrvl : rv.length = k := by have := hrv.length; rw [List.length_map, rowN_length] at this; exact this
      with_reducible refine T_assign_Name ?_
      repeat walk_at "t"
      with_reducible refine T_slice_sn ?_ ?ht
      case ht => intro _ _; rfl
      repeat walk_at "t"
      refine ⟨_, _, _, _, rfl, rfl, by rw [len_ofL]; omega, fun ts => ?_⟩
      rw [slice_from word (Nat.le_of_lt hk), show word.drop k = sfx word k from rfl]
      with_reducible refine T_storeC (d := ct) ?hc1 (Rep.there (Rep.there (Rep.there (Rep.there (Rep.there Rep.here))))) hot ?_ ?hk1 ?hx1
      case hc1 => rfl
      case hk1 => rfl
      case hx1 => rfl
      intro ot' hot'
      repeat walk_at "t"
      refine T_len_str (by omega) fun t2 => ?_
      repeat walk_at "t"
      rename_i ttw
      with_reducible refine T_callWith_def_kw1 B.dL.d.data ?_ ?he
      case he => rfl
      repeat walk_at "t"
      have tab1 := ht1
      have tab2 := ht2
      have hrow := rowAt hk
      have hsplit : (rowN word k).map Int.ofNat = ((rowN word k).take (spotOf word (rowN word k) k)).map Int.ofNat ++ ([] ++ ((rowN word k).drop (spotOf word (rowN word k) k)).map Int.ofNat) := by
        rw [List.nil_append, ← List.map_append, List.take_append_drop]
      have hrv0 := hrv
      rw [hsplit] at hrv
      have hS : spotOf word (rowN word k) k ≤ k := by have := spotOf_le (w := word) (rowN word k) k; rw [rowN_length] at this; exact this
      generalize hspot : spotOf word (rowN word k) k = S at *
      generalize hlo : ((rowN word k).take S).map Int.ofNat = Alo at *
      generalize hhi : ((rowN word k).drop S).map Int.ofNat = Ahi at *
      have cmp0 : ∀ i, i < rv.length → decide (gW word ((Alo ++ ([] ++ Ahi)).getD i 0) < sfx word k) = decide (i < S) := fun i hi => decide_eq_decide.mpr (hrow.cmp (B := []) (fun z hz => absurd hz List.not_mem_nil) (by rw [← hrv.length]; exact hi)).1
      with_reducible refine T_lamE mg mb P2 [("word", cw)] ps2 [(I2, o'), (rr, orr), (dQ, lo qv nq), (dT, lo tv nt), (dR, lo rv nr), (ct, ot'), (cn, on), (cw, ow)] [(D1.P, tabObj ps1)] R1 ?S1 ?ch1 ?ht1 ?hA1 ?hdef1 ?hclo1 ?_
      case S1 => exact Sg
      case ht1 => exact tab2
      case ch1 => exact CH
      case hA1 => rfl
      case hdef1 => rfl
      case hclo1 => rfl
      intro f1 c1 oc1 ctv1 ps3 R2 l1 hl1 tab3 hc1 hr1 hs1
      have m1 : (dR, lo rv nr) ∈ l1 := by rw [hl1]; simp
      have m2 : (cw, ow) ∈ l1 := by rw [hl1]; simp
      have m3 : (c1, oc1) ∈ l1 := by rw [hl1]; simp [hc1]
      refine ⟨Seen.base B.dL.d.get, ?_⟩
      with_reducible refine bisect_left_key (item := fun i v => rv[i]? = some v) (j := S) Kg Sg B.dL.d B.N B.dL.hT (n := rv.length) (by omega) (SeqOk.list (Seen.led (List.mem_cons_of_mem _ m1)) (by omega)) (keySfx Sg hw List.mem_cons_self (List.mem_cons_of_mem _ m3) hr1 (List.mem_cons_of_mem _ m2) hwd (row_item hrv)) ?hcmp1 (by omega) ?_
      case hcmp1 =>
        rintro C' m Q i v hi ⟨t, rfl⟩ hq
        refine T_lt_str ?_
        rw [cps_ofL, cps_ofL, cmp0 i hi]
        exact hq
      intro t3
      with_reducible refine T.less ?_ (Sub.drop (Sub.refl _))
      rw [List.cons_append, List.cons_append, List.cons_append, List.cons_append, List.cons_append, List.cons_append, List.cons_append, List.cons_append, List.nil_append, List.cons_append, List.nil_append] at hl1
      subst hl1
      repeat walk_at "t"
      refine T_newTuple (by rw [sizeLine_eq]; simp) fun dz => ?_
      with_reducible refine T_assign_tuple2 Kg.hand (Seen.led List.mem_cons_self) ?_ ?he3
      case he3 => rfl
      with_reducible refine T.less ?_ (Sub.drop (Sub.refl _))
      with_reducible refine T_assign_Name ?_
      repeat walk_at "t"
      with_reducible refine T_assign_Name ?_
      repeat walk_at "t"
      with_reducible refine T_For ?_ ?hs4 ?ht4
      case hs4 => intro _; rfl
      case ht4 => intro _ _; rfl
      with_reducible refine T_slice_list ?_ ?ht5
      case ht5 => intro _ _; rfl
      repeat walk_at "t"
      refine T_max2 Kg.hand fun t4 => ?_
      repeat walk_at "t"
      refine ⟨dR, rv, nr, _, _, _, _, rfl, Seen.led (by walk_at "mem"), rfl, rfl, by omega, fun dN => ?_⟩
      have hnv := nears_ints hrv0 hspot
      generalize (slicePick rv.toArray (some (max 0 ((S : Int) - 1))) (some ((S : Int) + 1)) none).toList = nv at *
      have hnl : nv.length = (nearsN word k).length := by have := hnv.length; rwa [List.length_map] at this
      refine T_iter_list (Seen.led List.mem_cons_self) fun I3 o3 hst3 => ?_
      obtain ⟨Inv, hInv⟩ : ∃ I : Nat → Loc → Led → Prop, I = (fun j m3 l3 => ∃ on ps R' tsz tsr, m3 "row" = some (.ref dR) ∧ m3 "told" = some (.ref dT) ∧ m3 "quiet" = some (.ref dQ) ∧ m3 "place" = some (.int k tv0) ∧ m3 "twin" = some (.int ((k : Int) - (word.length : Int)) ttw) ∧ m3 "spot" = some (.int S t3) ∧
          m3 "size" = some (.int (((nearsN word k).take j).foldl (stepN word k) (0, 0)).1 tsz) ∧ m3 "source" = some (.int (((nearsN word k).take j).foldl (stepN word k) (0, 0)).2 tsr) ∧ TabOk (lamQ "_law_neighbours") ps R' ∧ Suf R2 R' ∧ (∃ v, on.data = .cell v) ∧
          l3 = (dN, lo nv) :: (I2, o') :: (rr, orr) :: (dQ, lo qv nq) :: (dT, lo tv nt) :: (dR, lo rv nr) :: (ct, ot') :: (cn, on) :: (cw, ow) :: (P2, tabObj ps) :: (D1.P, tabObj ps1) :: R') := ⟨_, rfl⟩
      refine ⟨I3, nv.length, _, _, _, o3, _, Inv, rfl, Iter.list Kg.hand I3 dN nv 0, hst3, rfl, ?_, ?_, ?_, ?_⟩
      · rw [hInv]
        exact ⟨on, ps3, R2, _, _, by walk_at "loc", by walk_at "loc", by walk_at "loc", by walk_at "loc", by walk_at "loc", by walk_at "loc", by walk_at "loc", by walk_at "loc", tab3, .refl _, ⟨_, hon⟩, rfl⟩
      · intro j m3 l3 hI
        rw [hInv] at hI
        obtain ⟨_, _, _, _, _, _, _, _, _, _, _, _, _, _, _, _, rfl⟩ := hI
        exact Seen.led List.mem_cons_self
      · clear hon tab2 tab3 hst3 m1 m2 m3
        intro j v o4 m3 l3 hj hv hI
        rw [hInv] at hI
        obtain ⟨on, ps4, R3, tsz, tsr, h1, h2, h3, h4, h5, h6, h7, h8, tab3, hs2, ⟨vn, hon⟩, rfl⟩ := hI
        have hjn : j < (nearsN word k).length := by omega
        obtain ⟨tn, htn⟩ := ints_get hnv (i := j) (n := (nearsN word k)[j]) (by simp [hjn])
        rw [htn] at hv
        obtain rfl := Option.some.inj hv
        have hnear : (nearsN word k)[j] < k := nears_sub (List.getElem_mem hjn)
        have hfold : ((nearsN word k).take (j + 1)).foldl (stepN word k) (0, 0) = stepN word k (((nearsN word k).take j).foldl (stepN word k) (0, 0)) (nearsN word k)[j] := by
          rw [List.take_add_one, List.getElem?_eq_getElem hjn, List.foldl_append]; rfl
        generalize hne : (nearsN word k)[j] = near at *
        generalize ((nearsN word k).take j).foldl (stepN word k) (0, 0) = acc at *
        with_reducible refine T_assign_Name ?_
        with_reducible refine T_storeC (d := cn) ?hc6 (Rep.there (Rep.there (Rep.there (Rep.there (Rep.there (Rep.there (Rep.there (Rep.there Rep.here)))))))) hon ?_ ?hk6 ?hx6
        case hc6 => rfl
        case hk6 => rfl
        case hx6 => rfl
        intro on' hon'
        refine T_cons ?_
        repeat walk_at "t"
        with_reducible refine T_callWith_def_kw1 B.dL.d.data ?_ ?he6
        case he6 => rfl
        repeat walk_at "t"
        have hsl : (sfx word k).length ≤ 100 := by simp [sfx]; omega
        refine T_len_str (by omega) fun t7 => ?_
        repeat walk_at "t"
        refine T_range1 fun rg u7 u8 => ?_
        repeat walk_at "t"
        have htl6 : lcp (sfx word k) (sfx word near) ≤ (sfx word k).length := lcp_le_left _ _
        with_reducible refine T_lamE mg mb P2 [("word", cw), ("tail", ct), ("near", cn)] ps4 [(rg, rng 0 ((sfx word k).length : Int) 1 u7 t7 u8), (I3, o4), (dN, lo nv), (I2, o'), (rr, orr), (dQ, lo qv nq), (dT, lo tv nt), (dR, lo rv nr), (ct, ot'), (cn, on'), (cw, ow)] [(D1.P, tabObj ps1)] R3 ?S7 ?ch7 ?ht7 ?hA7 ?hdef7 ?hclo7 ?_
        case S7 => exact Sg
        case ht7 => exact tab3
        case ch7 => exact CH
        case hA7 => rfl
        case hdef7 => rfl
        case hclo7 => rfl
        intro f7 c7 oc7 ctv7 ps5 R4 l7 hl7 tab4 hc7 hr7 hs7
        have m1 : (rg, rng 0 ((sfx word k).length : Int) 1 u7 t7 u8) ∈ l7 := by rw [hl7]; simp
        have m2 : (cw, ow) ∈ l7 := by rw [hl7]; simp
        have m3' : (ct, ot') ∈ l7 := by rw [hl7]; simp
        have m4 : (cn, on') ∈ l7 := by rw [hl7]; simp
        have m5 : (c7, oc7) ∈ l7 := by rw [hl7]; simp [hc7]
        refine ⟨Seen.base B.dL.d.get, ?_⟩
        with_reducible refine bisect_left_key (item := fun i v => ∃ t, v = .int i t) (res := fun i v => v = .bool (!decide (i < lcp (sfx word k) (sfx word near)))) (j := lcp (sfx word k) (sfx word near)) Kg Sg B.dL.d B.N B.dL.hT (n := (sfx word k).length) (by omega) (SeqOk.range (Seen.led (List.mem_cons_of_mem _ m1)) (by omega)) (keyLcp Sg hw List.mem_cons_self (List.mem_cons_of_mem _ m5) hr7 (List.mem_cons_of_mem _ m2) hwd (List.mem_cons_of_mem _ m3') hot' (List.mem_cons_of_mem _ m4) hon') ?hcmp7 htl6 ?_
        case hcmp7 =>
          rintro C' m Q i v hi rfl hq
          refine T_lt_bool ?_
          have e : decide (b2i (!decide (i < lcp (sfx word k) (sfx word near))) < b2i true) = decide (i < lcp (sfx word k) (sfx word near)) := by
            by_cases hlt : i < lcp (sfx word k) (sfx word near)
            · rw [decide_eq_true hlt]; decide
            · rw [decide_eq_false hlt]; decide
          rw [e]
          exact hq
        intro t8
        with_reducible refine T.less ?_ (Sub.drop (Sub.refl _))
        rw [List.cons_append, List.cons_append, List.cons_append, List.cons_append, List.cons_append, List.cons_append, List.cons_append, List.cons_append, List.cons_append, List.cons_append, List.cons_append, List.nil_append, List.cons_append, List.nil_append] at hl7
        subst hl7
        repeat walk_at "t"
        by_cases hgt : acc.1 < lcp (sfx word k) (sfx word near)
        · refine go_true (by simpa using hgt) ?_
          refine T_cons ?_
          with_reducible refine T_Assign_swap2 (x := "size") (y := "source") Kg.hand ?_ ?hs8 ?hw8
          case hs8 => rfl
          case hw8 => rfl
          repeat walk_at "t"
          refine T_newTuple (by rw [sizeLine_eq]; simp) fun dp8 => ?_
          refine ⟨_, _, _, rfl, Seen.led List.mem_cons_self, ?_⟩
          with_reducible refine T.less ?_ (Sub.drop (Sub.refl _))
          repeat walk_at "t"
          have es : stepN word k acc near = (lcp (sfx word k) (sfx word near), near) := by unfold stepN; rw [if_pos hgt]
          refine go_for ⟨_, .drop (.refl _), ?_⟩
          rw [hInv]
          exact ⟨on', ps5, R4, _, _, by walk_at "loc", by walk_at "loc", by walk_at "loc", by walk_at "loc", by walk_at "loc", by walk_at "loc", by rw [hfold, es]; walk_at "loc", by rw [hfold, es]; walk_at "loc", tab4, hs2.trans hs7, ⟨_, hon'⟩, rfl⟩
        · refine go_false (by simpa using hgt) ?_
          repeat walk_at "t"
          have es : stepN word k acc near = acc := by unfold stepN; rw [if_neg hgt]
          refine go_for ⟨_, .drop (.refl _), ?_⟩
          rw [hInv]
          exact ⟨on', ps5, R4, _, _, by walk_at "loc", by walk_at "loc", by walk_at "loc", by walk_at "loc", by walk_at "loc", by walk_at "loc", by rw [hfold, es]; walk_at "loc", by rw [hfold, es]; walk_at "loc", tab4, hs2.trans hs7, ⟨_, hon'⟩, rfl⟩
      · clear hon tab2 tab3 hst3 m1 m2 m3
        intro m3 l3 hI
        rw [hInv] at hI
        obtain ⟨on, ps4, R3, tsz, tsr, h1, h2, h3, h4, h5, h6, h7, h8, tab3, hs2, ⟨vn, hon⟩, rfl⟩ := hI
        clear hInv
        have hnt : List.foldl (stepN word k) (0, 0) (List.take nv.length (nearsN word k)) = toldN word k := by rw [hnl, List.take_length]; rfl
        rw [hnt] at h7 h8
        repeat walk_at "t"
        with_reducible refine T_method_list slot_list_append ?hta (Seen.led (by walk_at "mem")) ?_
        case hta => rfl
        repeat walk_at "t"
        refine T_newTuple (by rw [sizeLine_eq]; simp) fun dt9 => ?_
        repeat walk_at "t"
        refine T_append (vs := tv) (n := nt) (Rep.there (Rep.there (Rep.there (Rep.there (Rep.there Rep.here))))) (by rw [sizeLine_eq]; omega) ⟨rfl, ?_⟩
        have R5h : ∃ R5, R5 = (dt9, tup [.int (toldN word k).1 tsz, .int (toldN word k).2 tsr]) :: R3 := ⟨_, rfl⟩
        obtain ⟨R5, hR5⟩ := R5h
        have sub5 : Suf R3 R5 := by rw [hR5]; exact .drop (.refl _)
        have htm5 : ToldT R R5 (tv ++ [.ref dt9]) (fun i => (toldN word i).1) (fun i => (toldN word i).2) := by
          rw [hR5]
          refine ToldT.snoc (htm.mono (hs1.trans hs2)) ?_ ?_
          · rw [htl]
          · rw [htl]
        have tab5 : TabOk (lamQ "_law_neighbours") ps4 R5 := tab3.mono fun p hp => sub5.mem hp
        have tab15 : TabOk (lamQ "_law_both") ps1 R5 := tab1.mono fun p hp => sub5.mem (hs2.mem (hs1.mem hp))
        have sub05 : Suf R R5 := hsub.trans (hs1.trans (hs2.trans sub5))
        with_reducible refine go_next ?_
        with_reducible refine T.less (l' := (I2, o') :: (rr, orr) :: (dQ, lo qv nq) :: (dT, lo (tv ++ [.ref dt9]) (nt + 1)) :: (dR, lo rv nr) :: (ct, ot') :: (cn, on) :: (cw, ow) :: (P2, tabObj ps4) :: (D1.P, tabObj ps1) :: R5) ?_ ?hsub5
        case hsub5 =>
          rw [hR5]
          walk_at "sub"
        clear tab3 hs2 sub5 hR5 hnv hrs hzn htm tab1
        repeat walk_at "t"
        with_reducible refine T_method_list slot_list_append ?htb (Seen.led (by walk_at "mem")) ?_
        case htb => rfl
        repeat walk_at "t"
        with_reducible refine T_callWith_def_kw1 B.dI.d.data ?_ ?heb
        case heb => rfl
        repeat walk_at "t"
        with_reducible refine T_lamE mg mb P2 [("word", cw)] ps4 [(I2, o'), (rr, orr), (dQ, lo qv nq), (dT, lo (tv ++ [.ref dt9]) (nt + 1)), (dR, lo rv nr), (ct, ot'), (cn, on), (cw, ow)] [(D1.P, tabObj ps1)] R5 ?S9 ?ch9 ?ht9 ?hA9 ?hdef9 ?hclo9 ?_
        case S9 => exact Sg
        case ht9 => exact tab5
        case ch9 => exact CH
        case hA9 => rfl
        case hdef9 => rfl
        case hclo9 => rfl
        intro f9 c9 oc9 ctv9 ps6 R6 l9 hl9 tab6 hc9 hr9 hs9
        rw [List.cons_append, List.cons_append, List.cons_append, List.cons_append, List.cons_append, List.cons_append, List.cons_append, List.cons_append, List.nil_append, List.cons_append, List.nil_append] at hl9
        subst hl9
        refine ⟨Seen.base B.dI.d.get, ?_⟩
        have hgk : gW word ((k : Nat) : Int) = sfx word k := gW_nat (Nat.le_of_lt hk)
        have hgt : gW word ((k : Int) - (word.length : Int)) = sfx word k := gW_back hk
        with_reducible refine insortSfx (M := []) Kg B hw (Rep.there (Rep.there (Rep.there (Rep.there (Rep.there Rep.here))))) (by walk_at "mem") ?hoc9 hr9 (by walk_at "mem") hwd hrv hrow ?hM9 hgk (by omega) ?_
        case hoc9 => simp [hc9]
        case hM9 => exact fun z hz => absurd hz List.not_mem_nil
        have hrv1 := ints_mid hrv hrow.len k tv0
        have hrvS : S ≤ rv.length := by omega
        have hrv1l : (rv.take S ++ .int k tv0 :: rv.drop S).length = k + 1 := by rw [List.length_append, List.length_cons, List.length_take, List.length_drop]; omega
        generalize hrv1e : rv.take S ++ .int k tv0 :: rv.drop S = rv1 at *
        repeat walk_at "t"
        refine T_append (vs := qv) (n := nq) (Rep.there (Rep.there (Rep.there Rep.here))) (by rw [sizeLine_eq, hqv, List.length_replicate]; omega) ⟨rfl, ?_⟩
        with_reducible refine go_next ?_
        with_reducible refine T.less ?_ (Sub.drop (Sub.refl _))
        repeat walk_at "t"
        with_reducible refine T_method_list slot_list_append ?htc (Seen.led (by walk_at "mem")) ?_
        case htc => rfl
        repeat walk_at "t"
        with_reducible refine T_callWith_def_kw1 B.dI.d.data ?_ ?hec
        case hec => rfl
        repeat walk_at "t"
        with_reducible refine T_lamE mg mb P2 [("word", cw)] ps6 [(I2, o'), (rr, orr), (dQ, lo (qv ++ [Value.none]) (nq + 1)), (dT, lo (tv ++ [.ref dt9]) (nt + 1)), (dR, lo rv1 (nr + 1)), (ct, ot'), (cn, on), (cw, ow)] [(D1.P, tabObj ps1)] R6 ?S10 ?ch10 ?ht10 ?hA10 ?hdef10 ?hclo10 ?_
        case S10 => exact Sg
        case ht10 => exact tab6
        case ch10 => exact CH
        case hA10 => rfl
        case hdef10 => rfl
        case hclo10 => rfl
        intro f10 c10 oc10 ctv10 ps7 R7 l10 hl10 tab7 hc10 hr10 hs10
        rw [List.cons_append, List.cons_append, List.cons_append, List.cons_append, List.cons_append, List.cons_append, List.cons_append, List.cons_append, List.nil_append, List.cons_append, List.nil_append] at hl10
        subst hl10
        refine ⟨Seen.base B.dI.d.get, ?_⟩
        with_reducible refine insortSfx (M := [(k : Int)]) Kg B hw (Rep.there (Rep.there (Rep.there (Rep.there (Rep.there Rep.here))))) (by walk_at "mem") ?hoc10 hr10 (by walk_at "mem") hwd hrv1 hrow ?hM10 hgt (by omega) ?_
        case hoc10 => simp [hc10]
        case hM10 =>
          intro z hz
          rw [List.mem_singleton] at hz
          rw [hz]; exact hgk
        have hrv2 := ints_mid hrv1 hrow.len ((k : Int) - (word.length : Int)) ttw
        have her := erase_mid rv1 (Value.int ((k : Int) - (word.length : Int)) ttw) (S := S) (by omega)
        have hgm := get_mid rv1 (Value.int ((k : Int) - (word.length : Int)) ttw) (S := S) (by omega)
        have hrv2l : (rv1.take S ++ .int ((k : Int) - (word.length : Int)) ttw :: rv1.drop S).length = k + 2 := by rw [List.length_append, List.length_cons, List.length_take, List.length_drop]; omega
        generalize hrv2e : rv1.take S ++ .int ((k : Int) - (word.length : Int)) ttw :: rv1.drop S = rv2 at *
        repeat walk_at "t"
        refine T_append (vs := qv ++ [Value.none]) (n := nq + 1) (Rep.there (Rep.there (Rep.there Rep.here))) (by rw [sizeLine_eq, hqv, List.length_append, List.length_replicate]; simp; omega) ⟨rfl, ?_⟩
        with_reducible refine go_next ?_
        with_reducible refine T.less ?_ (Sub.drop (Sub.refl _))
        with_reducible refine T_cons ?_
        with_reducible refine T_If ?_
        with_reducible refine T_isTrue_or ?_
        repeat walk_at "t"
        with_reducible refine T_callWith_def B.d21.data ?_ ?hed
        case hed => rfl
        repeat walk_at "t"
        refine ⟨Seen.base B.d21.get, ?_⟩
        with_reducible refine bothE (ps := ps1) (R := R7) (M := [(k : Int) - (word.length : Int), (k : Int)]) Kg B D1 [(I2, o'), (rr, orr), (dQ, lo (qv ++ [Value.none] ++ [Value.none]) (nq + 1 + 1)), (dT, lo (tv ++ [Value.ref dt9]) (nt + 1)), (dR, lo rv2 (nr + 1 + 1)), (ct, ot'), (cn, on), (cw, ow), (P2, tabObj ps7)] ?hA11 ?ht11 hw (by walk_at "mem") hrv2 (by omega) hrow ?hM11 rfl ?_
        case hA11 => rfl
        case ht11 => exact tab15.mono fun p hp => hs10.mem (hs9.mem hp)
        case hM11 =>
          intro z hz
          simp only [List.mem_cons, List.not_mem_nil, or_false] at hz
          rcases hz with rfl | rfl
          · exact hgt
          · exact hgk
        intro da t12 t13 n13 ps8 R8 l11 hl11 tab8 hs11
        rw [List.cons_append, List.cons_append, List.cons_append, List.cons_append, List.cons_append, List.cons_append, List.cons_append, List.cons_append, List.cons_append, List.nil_append] at hl11
        subst hl11
        repeat walk_at "t"
        refine T_newList (by rw [sizeLine_eq]; simp) fun db => ?_
        with_reducible refine T_ne_ints Kg (Seen.led (by walk_at "mem")) (Seen.led (by walk_at "mem")) (.cons _ _ (.cons _ _ .nil)) (.cons _ _ (.cons _ _ .nil)) ?_
        have e13 : (!decide (([((S : Nat) : Int), ((S + 2 : Nat) : Int)] : List Int) = [((S : Nat) : Int), ((S : Nat) : Int) + 2])) = false := by
          rw [show (((S + 2 : Nat) : Int)) = ((S : Nat) : Int) + 2 by push_cast; rfl]
          simp
        rw [e13]
        repeat walk_at "t"
        with_reducible refine go_or ?_
        with_reducible refine T_isTrue_or ?_
        repeat walk_at "t"
        with_reducible refine T_method_list F.slot_list_pop ?htd (Seen.led (by walk_at "mem")) ?_
        case htd => rfl
        repeat walk_at "t"
        refine T_pop (vs := rv2) (n := nr + 1 + 1) (i := S) (Rep.there (Rep.there (Rep.there (Rep.there (Rep.there (Rep.there Rep.here)))))) hgm (by omega) ?_
        rw [her]
        repeat walk_at "t"
        refine T_ne_int ?_
        rw [show (((k : Int) - (word.length : Int)) != ((k : Int) - (word.length : Int))) = false by simp]
        repeat walk_at "t"
        with_reducible refine go_or ?_
        with_reducible refine T_isTrue_or_nil ?_
        repeat walk_at "t"
        have sub38 : Suf R5 R8 := hs9.trans (hs10.trans hs11)
        refine go_for ⟨(rr, orr) :: (dQ, lo (qv ++ [Value.none] ++ [Value.none]) (nq + 1 + 1)) :: (dT, lo (tv ++ [.ref dt9]) (nt + 1)) :: (dR, lo rv1 (nr + 1 + 1 + 1)) :: (ct, ot') :: (cn, on) :: (cw, ow) :: (P2, tabObj ps7) :: (D1.P, tabObj ps8) :: R8, by walk_at "sub",
          rv1, tv ++ [.ref dt9], qv ++ [Value.none] ++ [Value.none], nr + 1 + 1 + 1, nt + 1, nq + 1 + 1, ot', on, ps8, ps7, R8, by walk_at "loc", by walk_at "loc", by walk_at "loc", ?_, ?_, ?_, ?_, tab8, ?_, ?_, ⟨_, hot'⟩, ⟨_, hon⟩, rfl⟩
        · have e : (rowN word (k + 1)).map Int.ofNat = Alo ++ ([(k : Int)] ++ Ahi) := by
            rw [rowN, insR, hspot, List.map_append, List.map_cons, hlo, hhi]; rfl
          rw [e]
          exact hrv1
        · exact htm5.mono sub38
        · rw [List.length_append, htl]; rfl
        · rw [hqv, List.append_assoc, show 2 * (k + 1) = 2 * k + 2 by omega]
          exact (List.replicate_append_replicate (n := 2 * k) (m := 2) (a := Value.none))
        · exact tab7.mono fun p hp => hs11.mem hp
        · exact sub05.trans sub38
    · rintro m' l' ⟨rv, tv, qv, nr, nt, nq, ot, on, ps1, ps2, R1, hmr, hmt, hmq, hrv, htm, htl, hqv, ht1, ht2, hsub, _, _, rfl⟩
      repeat walk_at "t"
      refine T_newTuple (by rw [sizeLine_eq]; simp) fun dp => ?_
      repeat walk_at "t"
      subst hqv
      exact ⟨(dp, tup [.ref dT, .ref dQ]) :: (dT, lo tv nt) :: (dQ, lo (List.replicate (2 * word.length) Value.none) nq) :: (P2, tabObj ps2) :: (D1.P, tabObj ps1) :: R1, by walk_at "sub", h dp dT dQ tv nt nq ps1 ps2 R1 ht1 ht2 hsub htm htl⟩

theorem neighbours {env : Env} {outer : List Env} {r : Nat} (K : Act C env outer (r + 4)) (B : Lib C.prog C.w C.h₀ mg mb) (D1 : TabD B.d21) (D2 : TabD B.d22) {ps1 ps2 : Array Value} {R : Led} (ht1 : TabOk (lamQ "_law_both") ps1 R) (ht2 : TabOk (lamQ "_law_neighbours") ps2 R)
    {word : List Nat} {tw : Tok} (hw : word.length ≤ 100) (hl : l = (D2.P, tabObj ps2) :: (D1.P, tabObj ps1) :: R) {Q : Value → Loc → Led → Prop}
    (h : ∀ d dt dq tv nt nq ps1' ps2' R', TabOk (lamQ "_law_both") ps1' R' → TabOk (lamQ "_law_neighbours") ps2' R' → Suf R R' → ToldT R R' tv (fun i => (toldN word i).1) (fun i => (toldN word i).2) → tv.length = word.length →
      Q (.ref d) m ((d, tup [.ref dt, .ref dq]) :: (dt, lo tv nt) :: (dq, lo (List.replicate (2 * word.length) Value.none) nq) :: (D2.P, tabObj ps2') :: (D1.P, tabObj ps1') :: R')) : T C (call (.ref B.d22.f) [.str (ofL word) tw]) m l Q := by
  subst hl
  refine T_call_cellsX (binds := [("word", .str (ofL word) tw)]) K B.S B.d22.get B.d22.data B.d22.code (fun s k => BindsTo.of_eq rfl) ?_ ?_ (fun g L' cl cells kg Sg hcl Kg Y => ?_) rfl rfl rfl
  · rfl
  · decide
  · obtain rfl : cl = [(("tail" : Str), L' + 1 + 1 + 1), (("near" : Str), L' + 1 + 1), (("word" : Str), L' + 1)] := by rw [hcl]; rfl
    clear hcl
    generalize L' + 1 + 1 + 1 = ct at *
    generalize L' + 1 + 1 = cn at *
    generalize L' + 1 = cw at *
    obtain ⟨ot, on, ow, rfl, hot, hon, how⟩ := CellsAre.three Y
    rw [D2.hc] at Kg ⊢
    exact neighboursBody (C := C.deep (envX "_law_neighbours" (fScope 22) L' B.d22.f (.ref D2.c) [(("tail" : Str), ct), (("near" : Str), cn), (("word" : Str), cw)]) g L') Kg (B.keeps kg Sg) (D1.keeps' rfl kg) (D2.head.keeps kg) ht1 ht2 hw hot hon how h
end Mine
end

section
open PySem PySem.W PySem.Calls PyProof.Rows
set_option Elab.async false
set_option maxRecDepth 100000
set_option linter.unusedVariables false
set_option linter.unusedSimpArgs false
namespace Mine
variable {C : Cx} {α β : Type} {m : Loc} {l : Led} {mg mb : Loc}

abbrev sk (prog : Program) (w : World) := PySem.strKind prog w
noncomputable def litS : List (Option Expr) → List Expr → Option (List (Str × Str))
  | [], vs => match vs with | [] => some [] | _ :: _ => none
  | k :: ks, vs => match k, vs with
    | some k, v :: vs => (strLit k).bind fun i => (strLit v).bind fun x => (litS ks vs).map ((i, x) :: ·)
    | _, _ => none
inductive FitsS : List (Str × Value) → List (Str × Str) → Prop
  | nil : FitsS [] []
  | cons {k x t kvs qs} : FitsS kvs qs → FitsS ((k, .str x t) :: kvs) ((k, x) :: qs)
theorem FitsS.keys {a : List (Str × Value)} {p : List (Str × Str)} (h : FitsS a p) : a.map (·.1) = p.map (·.1) := by
  induction h with
  | nil => rfl
  | cons _ ih => simp [ih]
def lookS (D : List (Str × Str)) (k : Str) : Str := match D.find? (fun q => decide (q.1 = k)) with | some q => q.2 | none => k
theorem FitsS.value {a : List (Str × Value)} {p : List (Str × Str)} (h : FitsS a p) (k : Str) (t : Tok) : ∃ t', (valueAt a k).getD (.str k t) = .str (lookS p k) t' := by
  induction h with
  | nil => exact ⟨t, rfl⟩
  | @cons k' x t1 kvs qs _ ih =>
    unfold valueAt lookS at ih ⊢
    simp only [List.find?_cons]
    by_cases e : k' = k
    · simp [e]
    · simpa [e] using ih

section lits
variable {prog : Program} {w : World} {A : Around} {E : Value → Shared → Prop}
inductive LitsS (prog : Program) (w : World) (A : Around) : List (Sem Value × Sem Value) → List (Str × Str) → Prop
  | nil : LitsS prog w A [] []
  | cons {p : Sem Value × Sem Value} {q : Str × Str} {ps qs} (key : ∀ (s : Shared) (Q : Value → Shared → Prop) (E : Value → Shared → Prop), (∀ tk t, Q (.str q.1 t) { s with toks := tk }) → wpAny (model prog w) A p.1 Q E s)
      (val : ∀ (s : Shared) (Q : Value → Shared → Prop) (E : Value → Shared → Prop), (∀ tk t, Q (.str q.2 t) { s with toks := tk }) → wpAny (model prog w) A p.2 Q E s) : LitsS prog w A ps qs → LitsS prog w A (p :: ps) (q :: qs)
theorem LitsS.length {ps : List (Sem Value × Sem Value)} {qs : List (Str × Str)} (h : LitsS prog w A ps qs) : ps.length = qs.length := by
  induction h with
  | nil => rfl
  | cons _ _ _ ih => simp [ih]
theorem evalPairs_S : ∀ (ps : List (Sem Value × Sem Value)) (qs : List (Str × Str)) (s : Shared) (Q : List (Value × Value) → Shared → Prop), LitsS prog w A ps qs →
    (∀ vs kvs tk, Carries (sk prog w) vs kvs → FitsS kvs qs → Q vs { s with toks := tk }) → wpAny (model prog w) A (evalPairs ps) Q E s
  | _, _, s, Q, .nil, h => evalPairs_nil (h [] [] s.toks trivial .nil)
  | _, _, s, Q, .cons (p := p) (q := q) (ps := ps) (qs := qs) ak av r, h => by
    refine evalPairs_cons (ak _ _ _ fun tk t => av _ _ _ fun tk' t' => ?_)
    refine evalPairs_S ps qs _ _ r fun vs kvs tk'' hc hf => ?_
    exact h _ ((q.1, .str q.2 t') :: kvs) tk'' ⟨by simp [sk, PySem.strKind, Value.isStrOf], rfl, hc⟩ (.cons hf)
theorem litsS_of {env : Env} {pos : Pos} : ∀ (keys : List (Option Expr)) (values : List Expr) (D : List (Str × Str)), litS keys values = some D →
    ∃ items : List (Sem Value × Sem Value), (evalEachOpt keys env).zip ((evalEach values env).map fun v => do let x ← v; standAt pos; pure x) = items.map (fun p => (some p.1, p.2)) ∧ LitsS prog w A items D := by
  intro keys
  induction keys with
  | nil =>
    intro values D h
    cases values with
    | nil =>
      obtain rfl : [] = D := Option.some.inj h
      exact ⟨[], rfl, .nil⟩
    | cons v vs => cases h
  | cons k ks ih =>
    intro values D h
    cases k with
    | none => cases h
    | some k =>
      cases values with
      | nil => cases h
      | cons v vs =>
        have h : ((strLit k).bind fun i => (strLit v).bind fun x => (litS ks vs).map ((i, x) :: ·)) = some D := h
        obtain ⟨i, hk, h⟩ := Option.bind_eq_some_iff.mp h
        obtain ⟨x, hv, h⟩ := Option.bind_eq_some_iff.mp h
        obtain ⟨D', h', rfl⟩ := Option.map_eq_some_iff.mp h
        obtain ⟨a, b, rfl⟩ := strLit_eq hk
        obtain ⟨a', b', rfl⟩ := strLit_eq hv
        obtain ⟨items, e, hl⟩ := ih vs D' h'
        refine ⟨(eval (.Constant (.str i) a b) env, do let x ← eval (.Constant (.str x) a' b') env; standAt pos; pure x) :: items, ?_, .cons (fun s Q E h => wpAny_mkText (h _ _)) (fun s Q E h => ?_) hl⟩
        · rw [evalEachOpt, evalEach, List.map_cons, List.map_cons, List.zip_cons_cons, e]
          rfl
        · exact wpAny_bind (wpAny_mkText (wpAny_bind (wpAny_standAt (wpAny_pure (h _ _)))))
theorem stored_freshS {kvs : List (Str × Value)} {k : Str} {v : Value} (h : k ∉ kvs.map (·.1)) : stored kvs k v = kvs ++ [(k, v)] := by
  unfold stored
  rw [if_neg]
  rw [List.any_eq_true]
  rintro ⟨kv, hkv, he⟩
  exact h (List.mem_map.mpr ⟨kv, hkv, of_decide_eq_true he⟩)
end lits

def DictS (prog : Program) (w : World) (o : Obj) (kvs : List (Str × Value)) : Prop := ∀ (h : Heap) a, h.get? a = some o → h.DictOf (sk prog w) a kvs
theorem T_DictS {env : Env} {keys : List (Option Expr)} {values : List Expr} {pos : Pos} (D : List (Str × Str)) {Q : Value → Loc → Led → Prop} (hsys : ∃ o, C.h₀.get? sysModules = some o) (hD : litS keys values = some D) (hn : (D.map (·.1)).Nodup) (hne : D ≠ []) (hz : D.length ≤ 15)
    (h : ∀ d o kvs, (d == sysModules) = false → FitsS kvs D → DictS C.prog C.w o kvs → Q (.ref d) m ((d, o) :: l)) : T C (eval (.Dict keys values pos) env) m l Q := by
  intro s P E O c
  obtain ⟨items, e, hl⟩ := litsS_of (prog := C.prog) (w := C.w) (A := C.A) (env := env) (pos := pos) keys values D hD
  refine wpAny_Dict_pairs (knd := sk C.prog C.w) e (by rintro rfl; cases hl; exact hne rfl) (by rw [hl.length]; exact hz) ?_
  refine evalPairs_S items D _ _ hl fun vs kvs tk hc hf => ?_
  refine ⟨kvs, hc, Heap.DictOf.new _, fun h' hd hs => ?_⟩
  rw [merged_nil_of_nodup _ (by rw [hf.keys]; exact hn)] at hd
  obtain ⟨o, es, ep, ho, r⟩ := hd
  have O1 := (O.push { cls := .type "dict", data := .dict #[] }).same Rep.here hs.extBut ho
  refine c _ h' _ m _ (h _ o kvs ?_ hf fun h'' a e => ⟨o, es, ep, e, r⟩) O1
  obtain ⟨os, hos⟩ := hsys
  have := Heap.lt_size (O.fr.keep _ _ hos)
  exact beq_eq_false_iff_ne.mpr (Nat.ne_of_gt this)
theorem T_dictS_get3 {d : Addr} {o : Obj} {kvs : List (Str × Value)} {D : List (Str × Str)} {k : Str} {t t' : Tok} {Q : Value → Loc → Led → Prop} (ho : Seen C l d o) (hd : (d == sysModules) = false) (hk : DictS C.prog C.w o kvs) (hf : FitsS kvs D) (h : ∀ t, Q (.str (lookS D k) t) m l) :
    T C (call (.builtin "dict.get") [.ref d, .str k t, .str k t']) m l Q := by
  intro s P E O c
  have hm := (hk s.heap d (ho.get O)).mapOf
  have hkey : (sk C.prog C.w).is k (.str k t) = true := by simp [sk, PySem.strKind, Value.isStrOf]
  have hM : MeetsIn C.prog C.w (Builtin.«dict.get» ⟨[.ref d, .str k t, .str k t'], []⟩) (fun _ R s => ∃ f, s.heap.MapOf (sk C.prog C.w) d f ∧ R (.ok (.ret ((f k).getD (.str k t')))) { s with toks := s.toks + 1 }) := by with_reducible exact meets_dict_get_default _ _ hkey hd _
  with_reducible refine call_meetsIn F.slot_dict_get hm.typeIs F.entry_dict_get (F.args_dict_get_3 _ _ _) hM ?_
  obtain ⟨t2, e⟩ := hf.value k t'
  refine ⟨_, hm, ?_⟩
  rw [e]
  exact c _ s.heap _ m l (h t2) O
theorem T_method_dictS {name : Str} {id : String} {pl : Sem Bool} {d : Addr} {o : Obj} {kvs : List (Str × Value)} {Q : Value × List Value → Loc → Led → Prop} (hs : Slot "dict" name id) (ht : typeOf (.builtin id) = pure (.type "method_descriptor"))
    (ho : Seen C l d o) (hk : DictS C.prog C.w o kvs) (h : Q (.builtin id, [.ref d]) m l) : T C (getMethod (.ref d) name pl) m l Q := by
  intro s P E O c
  have hm := (hk s.heap d (ho.get O)).mapOf
  exact getMethod_builtin hm.typeIs F.plainAttrs_dict hs ht hm.noDict (c _ s.heap s.toks m l h O)
end Mine
end

section
open PySem PySem.W PySem.Calls PyProof.Rows
set_option Elab.async false
set_option maxRecDepth 100000
set_option linter.unusedVariables false
set_option linter.unusedSimpArgs false
namespace Mine
variable {C : Cx} {α β : Type} {m : Loc} {l : Led} {mg mb : Loc}

def spExprs : List (List (Option Expr) × List Expr) := match fBody 20 with
  | .Assign _ (.List es _) _ :: _ => es.map fun e => match e with | .Dict k v _ => (k, v) | _ => ([], [])
  | _ => []
noncomputable def spD (i : Nat) : List (Str × Str) := match spExprs[i]? with | some (k, v) => (litS k v).getD [] | none => []
theorem sp_keys : ∀ i < 5, ∀ q ∈ spD i, ∃ k ∈ [38, 60, 62, 34, 13, 10, 9], q.1 = ofL [k] := by decide +kernel
theorem sp_same : ∀ i < 5, ∀ k ∈ [38, 60, 62, 34, 13, 10, 9], lookS (spD i) (ofL [k]) = esc1 i k := by decide +kernel
theorem sp_look {i : Nat} (hi : i < 5) (c : Nat) : lookS (spD i) (ofL [c]) = esc1 i c := by
  by_cases hc : c ∈ [38, 60, 62, 34, 13, 10, 9]
  · exact sp_same i hi c hc
  · have h1 : lookS (spD i) (ofL [c]) = ofL [c] := by
      unfold lookS
      have : (spD i).find? (fun q => decide (q.1 = ofL [c])) = none := by
        rw [List.find?_eq_none]
        intro q hq e
        obtain ⟨k, hk, e2⟩ := sp_keys i hi q hq
        have e := of_decide_eq_true e
        rw [e2] at e
        have := congrArg (fun x : Str => x.cps.toList) e
        simp [ofL] at this
        subst this
        exact hc hk
      rw [this]
    rw [h1, esc1, escP_other]
    intro p hp e
    exact hc (e ▸ esc_keys i hi p hp)

set_option maxHeartbeats 2000000 in
theorem spelled {env : Env} {outer : List Env} {r : Nat} (K : Act C env outer (r + 1)) (B : Lib C.prog C.w C.h₀ mg mb) (hsys : ∃ o, C.h₀.get? sysModules = some o) {hand : Nat} (hh : hand < 5) {word : List Nat} {tw th : Tok} (hw : word.length ≤ 100) {Q : Value → Loc → Led → Prop}
    (h : ∀ d ys k, StrsAre ys (word.map (esc1 hand)) → Q (.ref d) m ((d, lo ys k) :: l)) : T C (call (.ref B.d20.f) [.int hand th, .str (ofL word) tw]) m l Q := by
  refine T_call_cellsX (binds := [("hand", .int hand th), ("word", .str (ofL word) tw)]) K B.S B.d20.get B.d20.data B.d20.code (fun s k => BindsTo.of_eq rfl) ?_ ?_ (fun g L' cl cells kg Sg hcl Kg Y => ?_) rfl rfl rfl
  · rfl
  · decide
  · obtain rfl : cl = [(("tables" : Str), L' + 1 + 1), (("hand" : Str), L' + 1)] := by rw [hcl]; rfl
    clear hcl
    with_reducible refine T.gen fun m0 hm0 => ?_
    have h0 : m0 "word" = some (.str (ofL word) tw) := by rw [hm0]; kernel_rfl
    clear hm0
    generalize L' + 1 + 1 = ct at *
    generalize L' + 1 = ch at *
    obtain ⟨ot, oh, rfl, hot, hoh⟩ := Y.two
    have hoh : oh.data = .cell (some (.int hand th)) := hoh
    have hsys' : ∃ o, g.get? sysModules = some o := hsys.imp fun o e => kg _ _ e
    with_reducible refine T.dropE ?_
    rw [List.cons_append, List.cons_append, List.nil_append]
    conv in fBody 20 => whnf
    with_reducible refine T_cons ?_
    repeat walk_at "t"
    with_reducible refine T_DictS (spD 0) hsys' ?hD0 ?hn0 ?hne0 ?hz0 ?_
    case hD0 => kernel_rfl
    case hn0 => decide +kernel
    case hne0 => decide +kernel
    case hz0 => decide +kernel
    intro d0 o0 k0 n0 f0 s0
    repeat walk_at "t"
    with_reducible refine T_DictS (spD 1) hsys' ?hD1 ?hn1 ?hne1 ?hz1 ?_
    case hD1 => kernel_rfl
    case hn1 => decide +kernel
    case hne1 => decide +kernel
    case hz1 => decide +kernel
    intro d1 o1 k1 n1 f1 s1
    repeat walk_at "t"
    with_reducible refine T_DictS (spD 2) hsys' ?hD2 ?hn2 ?hne2 ?hz2 ?_
    case hD2 => kernel_rfl
    case hn2 => decide +kernel
    case hne2 => decide +kernel
    case hz2 => decide +kernel
    intro d2 o2 k2 n2 f2 s2
    repeat walk_at "t"
    with_reducible refine T_DictS (spD 3) hsys' ?hD3 ?hn3 ?hne3 ?hz3 ?_
    case hD3 => kernel_rfl
    case hn3 => decide +kernel
    case hne3 => decide +kernel
    case hz3 => decide +kernel
    intro d3 o3 k3 n3 f3 s3
    repeat walk_at "t"
    with_reducible refine T_DictS (spD 4) hsys' ?hD4 ?hn4 ?hne4 ?hz4 ?_
    case hD4 => kernel_rfl
    case hn4 => decide +kernel
    case hne4 => decide +kernel
    case hz4 => decide +kernel
    intro d4 o4 k4 n4 f4 s4
    repeat walk_at "t"
    refine T_newList (by rw [sizeLine_eq]; simp) fun dt => ?_
    with_reducible refine T_storeC (d := ct) ?hc1 (Rep.there (Rep.there (Rep.there (Rep.there (Rep.there (Rep.there Rep.here)))))) hot ?_ ?hk1 ?hx1
    case hc1 => rfl
    case hk1 => rfl
    case hx1 => rfl
    intro ot' hot'
    repeat walk_at "t"
    with_reducible refine T_ListComp (cl := [("tables", ct), ("hand", ch)]) ?hclos ?hcell ?hkind ?hnames ?_ ?hs
    case hclos => rfl
    case hcell => decide
    case hkind => rfl
    case hnames => decide
    case hs => intro _; rfl
    repeat walk_at "t"
    refine T_iter_str fun I2 oI hst2 => ?_
    generalize hvs : [Value.ref d0, Value.ref d1, Value.ref d2, Value.ref d3, Value.ref d4] = dv
    generalize hl0 : (dt, lo dv) :: _ = l0
    have mt : (dt, lo dv) ∈ l0 := by rw [← hl0]; walk_at "mem"
    have mc : (ct, ot') ∈ l0 := by rw [← hl0]; walk_at "mem"
    have mh : (ch, oh) ∈ l0 := by rw [← hl0]; walk_at "mem"
    have sb : Sub l l0 := by rw [← hl0]; walk_at "subd"
    have hd : ∃ d o kvs, dv[hand]? = some (.ref d) ∧ (d, o) ∈ l0 ∧ (d == sysModules) = false ∧ FitsS kvs (spD hand) ∧ DictS C.prog C.w o kvs := by
      rw [← hvs]
      obtain rfl | rfl | rfl | rfl | rfl : hand = 0 ∨ hand = 1 ∨ hand = 2 ∨ hand = 3 ∨ hand = 4 := by omega
      · exact ⟨d0, o0, k0, rfl, by rw [← hl0]; walk_at "mem", n0, f0, s0⟩
      · exact ⟨d1, o1, k1, rfl, by rw [← hl0]; walk_at "mem", n1, f1, s1⟩
      · exact ⟨d2, o2, k2, rfl, by rw [← hl0]; walk_at "mem", n2, f2, s2⟩
      · exact ⟨d3, o3, k3, rfl, by rw [← hl0]; walk_at "mem", n3, f3, s3⟩
      · exact ⟨d4, o4, k4, rfl, by rw [← hl0]; walk_at "mem", n4, f4, s4⟩
    obtain ⟨dd, od, kvs, hdv, md, hnd, hfd, hsd⟩ := hd
    have hsz : (ofL word).cps.size = word.length := by simp [ofL]
    refine ⟨I2, _, _, _, _, oI, _, fun j ys m3 l3 => m3 = m0 ∧ StrsAre ys ((word.take j).map (esc1 hand)) ∧ ys.length ≤ j ∧ l3 = l0, rfl, Iter.str Kg.hand I2 _ _, hst2, rfl, ⟨rfl, .nil, Nat.zero_le _, rfl⟩, fun j ys m l h => ⟨trivial, h.2.2.1⟩, by rw [hsz]; omega, ?_, ?_⟩
    · rintro j v o3 D oD mD acc na ys m3 l3 hj ⟨c, u, hc, rfl⟩ ⟨rfl, hyi, hyl, rfl⟩ hD hst3
      have hxc : word[j]? = some c := by simpa [ofL] using hc
      with_reducible refine T_go_name ?_
      with_reducible refine T_assign_Name ?_
      with_reducible refine T_compStore Rep.here hD ?_ ?hk4 ?hx4
      case hk4 => rfl
      case hx4 => rfl
      intro oD' hD'
      with_reducible refine T_tests_nil ?_
      repeat walk_at "t"
      refine T_item_list (x := .ref dd) (vs := dv) (n := 0) (Seen.led (by walk_at "mem")) (by omega) (by omega) (by simpa using hdv) ?_
      with_reducible refine T_method_dictS F.slot_dict_get F.type_dict_get (Seen.led (by walk_at "mem")) hsd ?_
      repeat walk_at "t"
      show T _ (call (.builtin "dict.get") [.ref dd, .str (ofL [c]) u, .str (ofL [c]) u]) _ _ _
      with_reducible refine T_dictS_get3 (Seen.led (by walk_at "mem")) hnd hsd hfd ?_
      intro t9
      refine ⟨oD', _, l3, hD', .refl _, rfl, ?_, by simp; omega, rfl⟩
      rw [List.take_add_one, hxc, List.map_append]
      have e9 : lookS (spD hand) (ofL [c]) = esc1 hand c := sp_look hh c
      have e8 : (⟨#[c]⟩ : Str) = ofL [c] := rfl
      refine strs_append hyi ?_
      first | rw [e9] | rw [e8, e9] | skip
      exact .cons _ _ .nil
    · rintro ys m3 l3 ⟨rfl, hyi, hyl, rfl⟩ acc na
      repeat walk_at "t"
      rw [hsz, List.take_length] at hyi
      exact ⟨(acc, lo ys na) :: l, .consP sb, h acc ys na hyi⟩
end Mine
end

section
open PySem PySem.W PySem.Calls PyProof.Rows
set_option Elab.async false
set_option maxRecDepth 100000
set_option linter.unusedVariables false
set_option linter.unusedSimpArgs false
namespace Mine
variable {C : Cx} {α β : Type} {m : Loc} {l : Led} {mg mb : Loc}

theorem T_newListI {vs : List Value} (ns : List Int) (hi : IntsAre vs ns) (hs : ns.length ≤ 1000) {Q : Value → Loc → Led → Prop} (h : ∀ d vs', IntsAre vs' ns → Q (.ref d) m ((d, lo vs') :: l)) : T C (newList vs) m l Q :=
  T_newList (by rw [hi.length, sizeLine_eq]; omega) fun d => h d vs hi
noncomputable def intsLit : List Expr → Option (List Int)
  | [] => some []
  | e :: r => (intLit e).bind fun i => (intsLit r).map (i :: ·)
theorem T_intArgs {env : Env} {pos : Pos} : ∀ (elts : List Expr) (ns : List Int), intsLit elts = some ns → ∀ {Q : List Value → Loc → Led → Prop}, (∀ vs, IntsAre vs ns → Q vs m l) → T C (spliced (backTo pos (starEach elts env))) m l Q := by
  intro elts
  induction elts with
  | nil =>
    intro ns h Q k
    obtain rfl : [] = ns := Option.some.inj h
    exact T_args_nil (k [] .nil)
  | cons e r ih =>
    intro ns h Q k
    obtain ⟨i, he, h⟩ := Option.bind_eq_some_iff.mp (show ((intLit e).bind fun i => (intsLit r).map (i :: ·)) = some ns from h)
    obtain ⟨ns', h', rfl⟩ := Option.map_eq_some_iff.mp h
    obtain ⟨a, b, rfl⟩ := intLit_eq he
    exact T_args_cons (T_int fun t => ih ns' h' fun vs hv => k _ (.cons i t hv)) rfl
theorem T_intList {env : Env} {elts : List Expr} {pos : Pos} (ns : List Int) (h : intsLit elts = some ns) (hs : ns.length ≤ 1000) {Q : Value → Loc → Led → Prop} (k : ∀ d vs, IntsAre vs ns → Q (.ref d) m ((d, lo vs) :: l)) : T C (eval (.List elts pos) env) m l Q := by
  with_reducible refine T_List ?_
  exact T_intArgs elts ns h fun vs hv => T_newListI ns hv hs fun d vs' hv' => k d vs' hv'
theorem fmod_nat (a b : Nat) : Int.fmod (a : Int) (b : Int) = ((a % b : Nat) : Int) := by
  rw [Int.fmod_eq_emod_of_nonneg _ (by omega)]; rfl
theorem fdiv_nat (a b : Nat) : Int.fdiv (a : Int) (b : Int) = ((a / b : Nat) : Int) := by
  rw [Int.fdiv_eq_ediv_of_nonneg _ (by omega)]; rfl
theorem ints_getI {vs : List Value} {ns : List Int} (h : IntsAre vs ns) {i : Nat} {n : Int} (e : ns[i]? = some n) : ∃ t, vs[i]? = some (.int n t) := h.get i n e

def capL : List Nat := [119808, 119860, 119912, 120016, 120172, 120224, 120276, 120328, 120380, 120432]
def unsI : List Int := [173, 847, 6150, 6155, 6156, 6157, 8203, 8204, 8205, 8288, 65279] ++ rangeInts 65024 1 16
def othL : List Nat := [172, 174, 846, 848, 6149, 6151, 6154, 6158, 8202, 8206, 8287, 8289, 65023, 65040, 65278, 65280, 39, 7838, 8124]
def kmL : List Nat := [107, 109]
def KML : List Nat := [75, 77]
def formsL (x : Nat) : List Nat := [kmL.getD x 0, KML.getD x 0] ++ capL.map (fun c => c + 10 + 2 * x)
def preL : List Nat := [38, 60, 62, 34, 9, 10, 13]
def signW (way which : Nat) : Nat := if way = 0 then 13261 else if way = 1 then 13262 else if way = 2 then (formsL (which % 2)).getD (which / 2 % 12) 0 else (preL ++ [othL.getD (which / 8) 0]).getD (which % 8) 0
def letD : List (Str × Str) := [(ofL [7838], ofL [223]), (ofL [8124], ofL [945, 953])]
def lettersW (way which : Nat) : List Nat := if way = 0 then [107, 107] else if way = 1 then [107, 109] else if way = 2 then [kmL.getD (which % 2) 0] else (lookS letD (ofL [signW way which])).cps.toList
def unsN (c : Nat) : Nat := (unsI.getD (c / 608 % 27) 0).toNat
def typedN (c : Nat) : List Nat := [signW (c % 4) (c / 4 % 152), unsN c]
def lettersN (c : Nat) : List Nat := lettersW (c % 4) (c / 4 % 152)
def typedL (cells : List Nat) : List Nat := cells.flatMap typedN
def meantL (cells : List Nat) : List Nat := cells.flatMap lettersN

theorem let_len : ∀ a < 4, ∀ b < 152, 1 ≤ (lettersW a b).length ∧ (lettersW a b).length ≤ 2 := by decide +kernel
theorem typedL_len (x : List Nat) : (typedL x).length = 2 * x.length := by
  induction x with
  | nil => rfl
  | cons c r ih =>
    have : typedL (c :: r) = typedN c ++ typedL r := by simp [typedL]
    rw [this, List.length_append, ih, List.length_cons]
    simp [typedN]; omega
theorem meantL_len (x : List Nat) : x.length ≤ (meantL x).length ∧ (meantL x).length ≤ 2 * x.length := by
  induction x with
  | nil => simp [meantL]
  | cons c r ih =>
    have : meantL (c :: r) = lettersN c ++ meantL r := by simp [meantL]
    have h1 := let_len (c % 4) (Nat.mod_lt _ (by decide)) (c / 4 % 152) (Nat.mod_lt _ (by decide))
    rw [this, List.length_append, List.length_cons]
    unfold lettersN
    omega
theorem oth_ok : ∀ b < 152, ∃ n, othL[b / 8]? = some n ∧ n ≤ 1114111 ∧ othL.getD (b / 8) 0 = n := by
  intro b hb
  have hl : b / 8 < othL.length := by show b / 8 < 19; omega
  refine ⟨othL[b / 8], by simp [hl], ?_, by rw [List.getD_eq_getElem?_getD, List.getElem?_eq_getElem hl]; rfl⟩
  have : ∀ n ∈ othL, n ≤ 1114111 := by decide
  exact this _ (List.getElem_mem hl)
theorem uns_ok (i : Nat) (hi : i < 27) : ∃ z : Int, unsI[i]? = some z ∧ 0 ≤ z ∧ z ≤ 1114111 ∧ unsI.getD i 0 = z := by
  have hl : i < unsI.length := by have : unsI.length = 27 := by decide +kernel
                                  omega
  refine ⟨unsI[i], by simp [hl], ?_, ?_, by rw [List.getD_eq_getElem?_getD, List.getElem?_eq_getElem hl]; rfl⟩
  · have : ∀ z ∈ unsI, 0 ≤ z := by decide +kernel
    exact this _ (List.getElem_mem hl)
  · have : ∀ z ∈ unsI, z ≤ 1114111 := by decide +kernel
    exact this _ (List.getElem_mem hl)

set_option maxHeartbeats 1000000 in
theorem typedT {env : Env} {outer : List Env} {r : Nat} (K : Act C env outer (r + 1)) (B : Lib C.prog C.w C.h₀ mg mb) (hsys : ∃ o, C.h₀.get? sysModules = some o) {cells : List Nat} (hc : ∀ c ∈ cells, c < 1000000) (hlen : cells.length ≤ 7) {ca : Addr} {cv : List Value} {nc : Nat} (hca : Seen C l ca (lo cv nc)) (hi : IntsAre cv (cells.map Int.ofNat))
    {Q : Value → Loc → Led → Prop} (h : ∀ d t1 t2, Q (.ref d) m ((d, tup [.str (ofL (typedL cells)) t1, .str (ofL (meantL cells)) t2]) :: l)) : T C (call (.ref B.d17.f) [.ref ca]) m l Q := by
  have hb1 : ∀ s : Shared, BindsTo s (fnX "_law_typed" "_law_typed" (fParams 17) (fBody 17) (fScope 17) [] .none .none B.d17.doc B.d17.pm B.d17.an B.d17.cdv B.d17.ct) ⟨[.ref ca], []⟩ [("cells", .ref ca)] := fun s => BindsTo.of_eq (by kernel_rfl)
  have hb2 : (fScope 17).isCoroutine = false := by kernel_rfl
  have hb3 : (fScope 17).isGenerator = false := by kernel_rfl
  have hb4 : (fScope 17).kind = .function := by kernel_rfl
  with_reducible refine T_call_cellsX (binds := [("cells", .ref ca)]) K B.S B.d17.get B.d17.data B.d17.code (fun s k => hb1 s) ?hkk ?hnn ?hh hb2 hb3 hb4
  case hkk => kernel_rfl
  case hnn => decide +kernel
  case hh =>
    intro g L' cl cells' kg Sg hcl Kg Y
    obtain rfl : cl = [(("which" : Str), L' + 1)] := by rw [hcl]; kernel_rfl
    clear hcl
    with_reducible refine T.gen fun m0 hm0 => ?_
    have h0 : m0 "cells" = some (.ref ca) := by rw [hm0]; kernel_rfl
    clear hm0
    generalize L' + 1 = cw at *
    obtain ⟨ow, rfl, how⟩ := Y.one
    clear Y
    have hN := B.N
    have hsys' : ∃ o, g.get? sysModules = some o := hsys.imp fun o e => kg _ _ e
    have sca := hca.deep (C' := C.deep (envX "_law_typed" (fScope 17) L' B.d17.f B.d17.cdv [(("which" : Str), cw)]) g L') kg
    with_reducible refine T.dropE ?_
    rw [List.cons_append, List.nil_append]
    conv in fBody 17 => whnf
    with_reducible refine T_cons ?_
    walk_at "t"
    with_reducible refine T_intList [119808, 119860, 119912, 120016, 120172, 120224, 120276, 120328, 120380, 120432] ?hl1 (by decide) fun dc vc hvc => ?_
    case hl1 => rfl
    walk_at "t"
    walk_at "t"
    walk_at "t"
    walk_at "t"
    walk_at "t"
    with_reducible refine T_intList [173, 847, 6150, 6155, 6156, 6157, 8203, 8204, 8205, 8288, 65279] ?hl2 (by decide) fun du vu hvu => ?_
    case hl2 => rfl
    repeat walk_at "t"
    refine T_range2 fun rr t3 => ?_
    repeat walk_at "t"
    have hrs := range_small (a := 65024) (b := 65040) (by omega) (by omega) (by omega) (by omega)
    refine T_list_range (n := 16) Kg.hand (Seen.led List.mem_cons_self) hrs.1 hrs.2 (by decide) fun dl vl kl hvl => ?_
    repeat walk_at "t"
    refine T_add_list (Seen.led (by walk_at "mem")) (Seen.led (by walk_at "mem")) (by rw [hvu.length, hvl.length, sizeLine_eq]; simp [rangeInts]) fun dv => ?_
    have hvv := hvu.append hvl
    generalize vu ++ vl = vv at *
    with_reducible refine T.less (l' := (dv, lo vv) :: (dc, lo vc) :: (cw, ow) :: l) ?_ ?hsub
    case hsub => walk_at "sub"
    walk_at "t"
    walk_at "t"
    walk_at "t"
    walk_at "t"
    with_reducible refine T_intList [172, 174, 846, 848, 6149, 6151, 6154, 6158, 8202, 8206, 8287, 8289, 65023, 65040, 65278, 65280, 39, 7838, 8124] ?hl3 (by decide) fun dO vo hvo => ?_
    case hl3 => rfl
    repeat walk_at "t"
    refine T_newTuple (by rw [sizeLine_eq]; simp) fun dz => ?_
    with_reducible refine T_assign_tuple2 Kg.hand (Seen.led List.mem_cons_self) ?_ ?he3
    case he3 => rfl
    with_reducible refine T.less ?_ (Sub.drop (Sub.refl _))
    with_reducible refine T_assign_Name ?_
    repeat walk_at "t"
    with_reducible refine T_assign_Name ?_
    repeat walk_at "t"
    with_reducible refine T_For ?_ ?hs4 ?ht4
    case hs4 => intro _; rfl
    case ht4 => intro _ _; rfl
    repeat walk_at "t"
    refine T_iter_list (sca.cons.cons.cons.cons) fun I3 o3 hst3 => ?_
    have hcvl : cv.length = cells.length := by have := hi.length; simpa using this
    obtain ⟨Inv, hInv⟩ : ∃ I : Nat → Loc → Led → Prop, I = (fun j m3 l3 => ∃ ow tt tm, m3 "capitals" = some (.ref dc) ∧ m3 "unseen" = some (.ref dv) ∧ m3 "others" = some (.ref dO) ∧ m3 "typed" = some (.str (ofL (typedL (cells.take j))) tt) ∧ m3 "meant" = some (.str (ofL (meantL (cells.take j))) tm) ∧ (∃ v, ow.data = .cell v) ∧
        l3 = (dO, lo vo) :: (dv, lo vv) :: (dc, lo vc) :: (cw, ow) :: l) := ⟨_, rfl⟩
    refine ⟨I3, cv.length, _, _, _, o3, _, Inv, rfl, Iter.list Kg.hand I3 ca cv nc, hst3, rfl, ?_, ?_, ?_, ?_⟩
    · rw [hInv]
      exact ⟨ow, _, _, by walk_at "loc", by walk_at "loc", by walk_at "loc", by walk_at "loc", by walk_at "loc", ⟨_, how⟩, rfl⟩
    · intro j m3 l3 hI
      rw [hInv] at hI
      obtain ⟨_, _, _, _, _, _, _, _, _, rfl⟩ := hI
      exact sca.cons.cons.cons.cons
    · clear how
      intro j v o4 m3 l3 hj hv hI
      rw [hInv] at hI
      obtain ⟨ow, tt, tm, h1, h2, h3, h4, h5, ⟨vw, how⟩, rfl⟩ := hI
      have hjn : j < cells.length := by omega
      obtain ⟨tn, htn⟩ := ints_get hi (i := j) (n := cells[j]) (by simp [hjn])
      rw [htn] at hv
      obtain rfl := Option.some.inj hv
      have hcm : cells[j] < 1000000 := hc _ (List.getElem_mem hjn)
      have hjt : cells.take (j + 1) = cells.take j ++ [cells[j]] := by rw [List.take_add_one, List.getElem?_eq_getElem hjn]; rfl
      generalize cells[j] = c at *
      with_reducible refine T_assign_Name ?_
      repeat walk_at "t"
      have ew1 : Int.fmod (c : Int) 4 = ((c % 4 : Nat) : Int) := fmod_nat c 4
      have ew2 : Int.fmod (Int.fdiv (c : Int) 4) 152 = ((c / 4 % 152 : Nat) : Int) := by
        have := fdiv_nat c 4
        have e : Int.fdiv (c : Int) 4 = ((c / 4 : Nat) : Int) := this
        rw [e]; exact fmod_nat (c / 4) 152
      rw [ew1, ew2]
      have hwl : c % 4 < 4 := Nat.mod_lt _ (by decide)
      have hhl : c / 4 % 152 < 152 := Nat.mod_lt _ (by decide)
      have hty : typedN c = [signW (c % 4) (c / 4 % 152), unsN c] := rfl
      have hle : lettersN c = lettersW (c % 4) (c / 4 % 152) := rfl
      generalize c % 4 = way at *
      generalize c / 4 % 152 = which at *
      with_reducible refine T_storeC (d := cw) ?hc6 (Rep.there (Rep.there (Rep.there (Rep.there Rep.here)))) how ?_ ?hk6 ?hx6
      case hc6 => rfl
      case hk6 => rfl
      case hx6 => rfl
      intro ow' how'
      repeat walk_at "t"
      obtain ⟨Mid, hMid⟩ : ∃ M : Loc → Led → Prop, M = (fun m5 l5 => ∃ ts tl, m5 "capitals" = some (.ref dc) ∧ m5 "unseen" = some (.ref dv) ∧ m5 "others" = some (.ref dO) ∧ m5 "typed" = some (.str (ofL (typedL (cells.take j))) tt) ∧ m5 "meant" = some (.str (ofL (meantL (cells.take j))) tm) ∧ m5 "cell" = some (.int c tn) ∧
        m5 "sign" = some (.str (ofL [signW way which]) ts) ∧ m5 "letters" = some (.str (ofL (lettersW way which)) tl) ∧ Sub ((I3, o4) :: (dO, lo vo) :: (dv, lo vv) :: (dc, lo vc) :: (cw, ow') :: l) l5) := ⟨_, rfl⟩
      refine ite_mid Mid ?_ ?_
      · obtain rfl | hw1 : way = 0 ∨ 1 ≤ way := by omega
        · refine go_true rfl ?_
          refine T_cons ?_
          repeat walk_at "t"
          refine T_newTuple (by rw [sizeLine_eq]; simp) fun dp => ?_
          with_reducible refine T_assign_tuple2 Kg.hand (Seen.led List.mem_cons_self) ?_ ?he7
          case he7 => rfl
          with_reducible refine T.less ?_ (Sub.drop (Sub.refl _))
          with_reducible refine T_assign_Name ?_
          repeat walk_at "t"
          with_reducible refine T_assign_Name ?_
          repeat walk_at "t"
          have es : ofL [signW 0 which] = ("㏍" : Str) := by show ofL [13261] = _; decide +kernel
          have el : ofL (lettersW 0 which) = ("kk" : Str) := by show ofL [107, 107] = _; decide +kernel
          refine ⟨rfl, ?_⟩
          rw [hMid]
          dsimp only
          rw [es, el]
          exact ⟨_, _, by walk_at "loc", by walk_at "loc", by walk_at "loc", by walk_at "loc", by walk_at "loc", by walk_at "loc", by walk_at "loc", by walk_at "loc", .refl _⟩
        refine go_false (by simp; omega) ?_
        repeat walk_at "t"
        obtain rfl | hw2 : way = 1 ∨ 2 ≤ way := by omega
        · refine go_true rfl ?_
          refine T_cons ?_
          repeat walk_at "t"
          refine T_newTuple (by rw [sizeLine_eq]; simp) fun dp => ?_
          with_reducible refine T_assign_tuple2 Kg.hand (Seen.led List.mem_cons_self) ?_ ?he8
          case he8 => rfl
          with_reducible refine T.less ?_ (Sub.drop (Sub.refl _))
          with_reducible refine T_assign_Name ?_
          repeat walk_at "t"
          with_reducible refine T_assign_Name ?_
          repeat walk_at "t"
          have es : ofL [signW 1 which] = ("㏎" : Str) := by show ofL [13262] = _; decide +kernel
          have el : ofL (lettersW 1 which) = ("km" : Str) := by show ofL [107, 109] = _; decide +kernel
          refine ⟨rfl, ?_⟩
          rw [hMid]
          dsimp only
          rw [es, el]
          exact ⟨_, _, by walk_at "loc", by walk_at "loc", by walk_at "loc", by walk_at "loc", by walk_at "loc", by walk_at "loc", by walk_at "loc", by walk_at "loc", .refl _⟩
        refine go_false (by simp; omega) ?_
        repeat walk_at "t"
        obtain rfl | rfl : way = 2 ∨ way = 3 := by omega
        · refine go_true rfl ?_
          refine T_cons ?_
          rw [show ("km" : Str) = ofL kmL from by decide +kernel, show ("KM" : Str) = ofL KML from by decide +kernel]
          repeat walk_at "t"
          have ew3 : Int.fmod (which : Int) 2 = ((which % 2 : Nat) : Int) := fmod_nat which 2
          have ew4 : Int.fmod (Int.fdiv (which : Int) 2) 12 = ((which / 2 % 12 : Nat) : Int) := by
            have e : Int.fdiv (which : Int) 2 = ((which / 2 : Nat) : Int) := fdiv_nat which 2
            rw [e]; exact fmod_nat (which / 2) 12
          have hx2 : which % 2 < 2 := Nat.mod_lt _ (by decide)
          have hx12 : which / 2 % 12 < 12 := Nat.mod_lt _ (by decide)
          have hsg : signW 2 which = (formsL (which % 2)).getD (which / 2 % 12) 0 := rfl
          have hlg : lettersW 2 which = [kmL.getD (which % 2) 0] := rfl
          have hkm : kmL[which % 2]? = some (kmL.getD (which % 2) 0) := by
            obtain e | e : which % 2 = 0 ∨ which % 2 = 1 := by omega
            · rw [e]; rfl
            · rw [e]; rfl
          have hKM : KML[which % 2]? = some (KML.getD (which % 2) 0) := by
            obtain e | e : which % 2 = 0 ∨ which % 2 = 1 := by omega
            · rw [e]; rfl
            · rw [e]; rfl
          rw [ew3]
          generalize which % 2 = x at *
          generalize which / 2 % 12 = y at *
          refine T_item_str hkm (by decide) fun tk1 => ?_
          repeat walk_at "t"
          rw [ew3]
          refine T_item_str hkm (by decide) fun tk2 => ?_
          repeat walk_at "t"
          rw [ew3]
          refine T_item_str hKM (by decide) fun tk3 => ?_
          repeat walk_at "t"
          refine T_newList (by rw [sizeLine_eq]; simp) fun df => ?_
          with_reducible refine T.gen fun m6 hm6 => ?_
          have g1 : m6 "capitals" = some (.ref dc) := by rw [hm6]; walk_at "loc"
          have g2 : m6 "unseen" = some (.ref dv) := by rw [hm6]; walk_at "loc"
          have g3 : m6 "others" = some (.ref dO) := by rw [hm6]; walk_at "loc"
          have g4 : m6 "typed" = some (.str (ofL (typedL (cells.take j))) tt) := by rw [hm6]; walk_at "loc"
          have g5 : m6 "meant" = some (.str (ofL (meantL (cells.take j))) tm) := by rw [hm6]; walk_at "loc"
          have g6 : m6 "cell" = some (.int c tn) := by rw [hm6]; walk_at "loc"
          have g7 : m6 "letters" = some (.str (ofL [kmL.getD x 0]) tk1) := by rw [hm6]; walk_at "loc"
          clear hm6
          with_reducible refine T_ListComp (cl := [("which", cw)]) ?hclos ?hcell ?hkind ?hnames ?_ ?hs9
          case hclos => rfl
          case hcell => decide
          case hkind => rfl
          case hnames => decide
          case hs9 => intro _; rfl
          repeat walk_at "t"
          refine T_iter_list (Seen.led (show (dc, lo vc) ∈ _ by walk_at "mem")) fun I4 o4' hst4 => ?_
          have hvcl : vc.length = 10 := hvc.length
          generalize hl0 : (df, lo _) :: (I3, o4) :: _ = l0
          have mc0 : (dc, lo vc) ∈ l0 := by rw [← hl0]; walk_at "mem"
          have mw0 : (cw, ow') ∈ l0 := by rw [← hl0]; walk_at "mem"
          have mf0 : (df, lo [.str (ofL [kmL.getD x 0]) tk2, .str (ofL [KML.getD x 0]) tk3]) ∈ l0 := by rw [← hl0]; walk_at "mem"
          have sb0 : Sub ((I3, o4) :: (dO, lo vo) :: (dv, lo vv) :: (dc, lo vc) :: (cw, ow') :: l) l0 := by rw [← hl0]; walk_at "subd"
          refine ⟨I4, vc.length, _, _, _, o4', _, fun i ys m7 l7 => m7 = m6 ∧ StrsAre ys ((capL.take i).map fun c => ofL [c + 10 + 2 * x]) ∧ ys.length ≤ i ∧ l7 = l0, rfl, Iter.list Kg.hand I4 dc vc 0, hst4, rfl, ⟨rfl, .nil, Nat.zero_le _, rfl⟩, ?_, by omega, ?_, ?_⟩
          · rintro i ys m7 l7 ⟨rfl, _, hl, rfl⟩
            exact ⟨Seen.led mc0, hl⟩
          · rintro i v o5 D oD mD acc na ys m7 l7 hi7 hv ⟨rfl, hyi, hyl, rfl⟩ hD hst7
            have hi10 : i < capL.length := by show i < 10; omega
            obtain ⟨tq, htq⟩ := ints_getI hvc (i := i) (n := ((capL[i] : Nat) : Int)) (by
              have : (([119808, 119860, 119912, 120016, 120172, 120224, 120276, 120328, 120380, 120432] : List Int)) = capL.map (fun (n : Nat) => (n : Int)) := by decide
              rw [this, List.getElem?_map, List.getElem?_eq_getElem hi10]; rfl)
            rw [htq] at hv
            obtain rfl := Option.some.inj hv
            have hcb : capL[i] ≤ 120432 := by
              have : ∀ n ∈ capL, n ≤ 120432 := by decide
              exact this _ (List.getElem_mem hi10)
            have hct : capL.take (i + 1) = capL.take i ++ [capL[i]] := by rw [List.take_add_one, List.getElem?_eq_getElem hi10]; rfl
            generalize capL[i] = q at *
            with_reducible refine T_go_name ?_
            with_reducible refine T_assign_Name ?_
            with_reducible refine T_compStore Rep.here hD ?_ ?hkq ?hxq
            case hkq => rfl
            case hxq => rfl
            intro oD' hD'
            with_reducible refine T_tests_nil ?_
            repeat walk_at "t"
            with_reducible refine T_compBuiltin Sg hN.chr.1 hN.chr.2 rfl rfl ?_ ?hkr ?hxr ?hdr
            case hkr => rfl
            case hxr => rfl
            case hdr => decide
            repeat walk_at "t"
            rw [ew3]
            refine T_mul_int (fun tq2 => ?_) (IntMulOk.of_left (by decide))
            repeat walk_at "t"
            have eq9 : (q : Int) + 10 + 2 * ((x : Nat) : Int) = ((q + 10 + 2 * x : Nat) : Int) := by push_cast; rfl
            rw [eq9]
            refine T_chr (by omega) (by omega) fun tq3 => ?_
            rw [Int.toNat_natCast]
            refine ⟨oD', _, l7, hD', .refl _, rfl, ?_, by simp; omega, rfl⟩
            rw [hct, List.map_append]
            exact strs_append hyi (.cons _ _ .nil)
          · rintro ys m7 l7 ⟨rfl, hyi, hyl, rfl⟩ acc na
            rw [hvcl, show capL.take 10 = capL from rfl] at hyi
            refine T_add_list (Seen.led (List.mem_cons_of_mem _ mf0)) (Seen.led List.mem_cons_self) (by rw [sizeLine_eq]; simp; omega) fun dg => ?_
            repeat walk_at "t"
            rw [ew4]
            have hfs : StrsAre ([Value.str (ofL [kmL.getD x 0]) tk2, Value.str (ofL [KML.getD x 0]) tk3] ++ ys) ((formsL x).map fun n => ofL [n]) := by
              have e : (formsL x).map (fun n => ofL [n]) = [ofL [kmL.getD x 0], ofL [KML.getD x 0]] ++ capL.map (fun c => ofL [c + 10 + 2 * x]) := by
                unfold formsL; rw [List.map_append, List.map_map]; rfl
              rw [e]
              exact strs_append (.cons _ _ (.cons _ _ .nil)) hyi
            have hfl : y < (formsL x).length := by
              have : (formsL x).length = 12 := by simp [formsL, capL]
              omega
            obtain ⟨tf, htf⟩ := strs_get hfs y (ofL [(formsL x).getD y 0]) (by rw [List.getElem?_map, List.getD_eq_getElem?_getD, List.getElem?_eq_getElem hfl]; rfl)
            refine T_item_list (x := .str (ofL [(formsL x).getD y 0]) tf) (n := 0) (Seen.led List.mem_cons_self) (by omega) (by omega) (by simpa using htf) ?_
            repeat walk_at "t"
            refine ⟨rfl, ?_⟩
            rw [hMid]
            dsimp only
            rw [hsg, hlg]
            exact ⟨_, _, by walk_at "loc", by walk_at "loc", by walk_at "loc", by walk_at "loc", by walk_at "loc", by walk_at "loc", by walk_at "loc", by walk_at "loc", by walk_at "subd"⟩
        · refine go_false rfl ?_
          have ew8 : Int.fdiv (which : Int) 8 = ((which / 8 : Nat) : Int) := fdiv_nat which 8
          have ew9 : Int.fmod (which : Int) 8 = ((which % 8 : Nat) : Int) := fmod_nat which 8
          obtain ⟨on, ho1, ho2, ho3⟩ := oth_ok which hhl
          obtain ⟨tq, htq⟩ := ints_getI hvo (i := which / 8) (n := ((on : Nat) : Int)) (by
            have : (([172, 174, 846, 848, 6149, 6151, 6154, 6158, 8202, 8206, 8287, 8289, 65023, 65040, 65278, 65280, 39, 7838, 8124] : List Int)) = othL.map (fun (n : Nat) => (n : Int)) := by decide
            rw [this, List.getElem?_map, ho1]; rfl)
          have hsg : signW 3 which = (preL ++ [on]).getD (which % 8) 0 := by show (preL ++ [othL.getD (which / 8) 0]).getD (which % 8) 0 = _; rw [ho3]
          have hlg : lettersW 3 which = (lookS letD (ofL [signW 3 which])).cps.toList := rfl
          have hp8 : (preL ++ [on])[which % 8]? = some (signW 3 which) := by
            have hl8 : which % 8 < (preL ++ [on]).length := by show which % 8 < 8; exact Nat.mod_lt _ (by decide)
            rw [hsg, List.getD_eq_getElem?_getD, List.getElem?_eq_getElem hl8]; rfl
          have hpre : ("&<>\"\t\n\r" : Str) = ofL preL := by decide +kernel
          rw [hpre]
          repeat walk_at "t"
          rw [ew8]
          refine T_item_list (x := .int (on : Nat) tq) (vs := vo) (n := 0) (Seen.led (by walk_at "mem")) (by omega) (by omega) (by rw [Int.toNat_natCast]; exact htq) ?_
          repeat walk_at "t"
          refine T_chr (by omega) (by omega) fun tc1 => ?_
          rw [Int.toNat_natCast]
          refine T_add_str (by rw [len_ofL, len_ofL, sizeLine_eq]; show 7 + 1 ≤ 16777216; omega) fun tc2 => ?_
          rw [ofL_append]
          repeat walk_at "t"
          rw [ew9]
          have hpl : (preL ++ [on]).length = 8 := rfl
          generalize hPL : preL ++ [on] = PL at *
          with_reducible refine T_item_str hp8 ?hl7 ?_ ?hs7 ?ht7
          case hl7 => omega
          case hs7 => with_unfolding_all rfl
          case ht7 => intro _; with_unfolding_all rfl
          intro tc3
          walk_at "t"
          walk_at "t"
          walk_at "t"
          walk_at "t"
          with_reducible refine' T_MethodCall ?_ ?hemc
          case hemc => rfl
          with_reducible refine T_DictS letD hsys' ?hD0 ?hn0 ?hne0 ?hz0 ?_
          case hD0 => decide +kernel
          case hn0 => decide +kernel
          case hne0 => decide +kernel
          case hz0 => decide +kernel
          intro d0 o0 k0 n0 f0 s0
          with_reducible refine T_method_dictS F.slot_dict_get F.type_dict_get (Seen.led List.mem_cons_self) s0 ?_
          repeat walk_at "t"
          show T _ (call (.builtin "dict.get") [.ref d0, .str (ofL [signW 3 which]) tc3, .str (ofL [signW 3 which]) tc3]) _ _ _
          with_reducible refine T_dictS_get3 (Seen.led List.mem_cons_self) n0 s0 f0 ?_
          intro t9
          repeat walk_at "t"
          have e9 : ofL (lettersW 3 which) = lookS letD (ofL [signW 3 which]) := by rw [hlg]
          refine ⟨rfl, ?_⟩
          rw [hMid]
          dsimp only
          rw [e9]
          exact ⟨_, _, by walk_at "loc", by walk_at "loc", by walk_at "loc", by walk_at "loc", by walk_at "loc", by walk_at "loc", by walk_at "loc", by walk_at "loc", .drop (.refl _)⟩
      · intro m5 l5 hM
        rw [hMid] at hM
        obtain ⟨ts, tl, g1, g2, g3, g4, g5, g6, g7, g8, hsub5⟩ := hM
        clear hMid
        with_reducible refine T.less ?_ hsub5
        refine T_cons ?_
        repeat walk_at "t"
        have hl1 := typedL_len (cells.take j)
        have hl2 := (meantL_len (cells.take j)).2
        have hlj : (cells.take j).length ≤ 7 := by rw [List.length_take]; omega
        refine T_add_str (by rw [len_ofL, len_ofL, sizeLine_eq, hl1]; simp; omega) fun ta1 => ?_
        rw [ofL_append]
        repeat walk_at "t"
        have ew608 : Int.fmod (Int.fdiv (c : Int) 608) 27 = ((c / 608 % 27 : Nat) : Int) := by
          have e : Int.fdiv (c : Int) 608 = ((c / 608 : Nat) : Int) := fdiv_nat c 608
          rw [e]; exact fmod_nat (c / 608) 27
        rw [ew608]
        obtain ⟨z, hz1, hz2, hz3, hz4⟩ := uns_ok (c / 608 % 27) (Nat.mod_lt _ (by decide))
        obtain ⟨tz, htz⟩ := ints_getI hvv (i := c / 608 % 27) (n := z) hz1
        refine T_item_list (x := .int z tz) (vs := vv) (n := 0) (Seen.led (by walk_at "mem")) (by omega) (by omega) (by rw [Int.toNat_natCast]; exact htz) ?_
        repeat walk_at "t"
        refine T_chr hz2 hz3 fun ta2 => ?_
        refine T_add_str (by rw [len_ofL, len_ofL, sizeLine_eq, List.length_append, hl1]; simp; omega) fun ta3 => ?_
        rw [ofL_append]
        repeat walk_at "t"
        have hl3 := let_len way hwl which hhl
        refine T_add_str (by rw [len_ofL, len_ofL, sizeLine_eq]; omega) fun ta4 => ?_
        rw [ofL_append]
        repeat walk_at "t"
        have hun : unsN c = z.toNat := by unfold unsN; rw [hz4]
        refine go_for ⟨(dO, lo vo) :: (dv, lo vv) :: (dc, lo vc) :: (cw, ow') :: l, .refl _, ?_⟩
        rw [hInv]
        refine ⟨ow', ta3, ta4, by walk_at "loc", by walk_at "loc", by walk_at "loc", ?_, ?_, ⟨_, how'⟩, rfl⟩
        · rw [hjt, show typedL (cells.take j ++ [c]) = typedL (cells.take j) ++ [signW way which] ++ [z.toNat] by
            unfold typedL
            rw [List.flatMap_append, List.append_assoc]
            congr 1
            simp only [List.flatMap_cons, List.flatMap_nil, List.append_nil]
            rw [hty, hun]; rfl]
          walk_at "loc"
        · rw [hjt, show meantL (cells.take j ++ [c]) = meantL (cells.take j) ++ lettersW way which by
            unfold meantL
            rw [List.flatMap_append]
            congr 1
            simp only [List.flatMap_cons, List.flatMap_nil, List.append_nil]
            rw [hle]]
          walk_at "loc"
    · intro m3 l3 hI
      rw [hInv] at hI
      obtain ⟨ow, tt, tm, h1, h2, h3, h4, h5, _, rfl⟩ := hI
      repeat walk_at "t"
      refine T_newTuple (by rw [sizeLine_eq]; simp) fun dp => ?_
      repeat walk_at "t"
      rw [hcvl, List.take_length]
      exact ⟨_, .consP (.drop (.drop (.drop (.drop (.refl _))))), h dp tt tm⟩
end Mine
end

section
set_option Elab.async false
set_option linter.unusedVariables false
namespace Mine
variable {w : List Nat}

noncomputable def szN (w : List Nat) (p : Nat) : Nat := (toldN w p).1
noncomputable def srcN (w : List Nat) (p : Nat) : Nat := (toldN w p).2
noncomputable def reachN (w : List Nat) (p : Nat) : Nat := p + max 1 (szN w p)
theorem sz_le {p : Nat} (hp : p < w.length) : p + szN w p ≤ w.length := by
  unfold szN
  rcases told_at hp with ⟨h, _⟩ | ⟨h1, h2⟩
  · rw [h]; omega
  · rw [h2]
    have := lcp_le_left (sfx w p) (sfx w (toldN w p).2)
    have e : (sfx w p).length = w.length - p := by simp [sfx]
    omega
theorem reach_le {p : Nat} (hp : p < w.length) : reachN w p ≤ w.length := by
  have := sz_le hp
  unfold reachN
  omega
theorem reach_gt (p : Nat) : p + 1 ≤ reachN w p := by unfold reachN; omega
theorem lcp_tail {a b : List Nat} : lcp a b ≤ lcp a.tail b.tail + 1 := by
  cases a with
  | nil => simp [lcp]
  | cons x a =>
    cases b with
    | nil => simp [lcp]
    | cons y b =>
      show (if x = y then lcp a b + 1 else 0) ≤ lcp a b + 1
      split <;> omega
theorem reach_succ {p : Nat} (hp : p + 1 < w.length) : reachN w p ≤ reachN w (p + 1) := by
  rcases told_at (w := w) (p := p) (by omega) with ⟨h, _⟩ | ⟨h1, h2⟩
  · unfold reachN szN
    rw [h]
    omega
  · have hb := told_best hp ((toldN w p).2 + 1) (by omega)
    have ht : lcp (sfx w p) (sfx w (toldN w p).2) ≤ lcp (sfx w (p + 1)) (sfx w ((toldN w p).2 + 1)) + 1 := by
      have := lcp_tail (a := sfx w p) (b := sfx w (toldN w p).2)
      have e1 : (sfx w p).tail = sfx w (p + 1) := by simp [sfx]
      have e2 : (sfx w (toldN w p).2).tail = sfx w ((toldN w p).2 + 1) := by simp [sfx]
      rw [e1, e2] at this
      exact this
    unfold reachN szN
    omega
theorem reach_mono : ∀ {d p : Nat}, p + d < w.length → reachN w p ≤ reachN w (p + d)
  | 0, p, _ => Nat.le_refl _
  | d + 1, p, h => Nat.le_trans (reach_mono (d := d) (by omega)) (reach_succ (p := p + d) (by omega))

/-! the law of the reaches, in plain lists -/
structure ReachOk (rs : List Nat) : Prop where
  gt : ∀ i < rs.length, i + 1 ≤ rs.getD i 0
  le : ∀ i < rs.length, rs.getD i 0 ≤ rs.length
  mono : ∀ i j, i ≤ j → j < rs.length → rs.getD i 0 ≤ rs.getD j 0
def fIdx (rs : List Nat) (e : Nat) : Nat := rs.findIdx fun r => decide (e ≤ r)
theorem fIdx_iff {rs : List Nat} (h : ReachOk rs) (e : Nat) : ∀ i < rs.length, fIdx rs e ≤ i ↔ e ≤ rs.getD i 0 := by
  intro i hi
  have gd : ∀ j (hj : j < rs.length), rs.getD j 0 = rs[j] := fun j hj => by rw [List.getD_eq_getElem?_getD, List.getElem?_eq_getElem hj]; rfl
  constructor
  · intro hle
    have hl : fIdx rs e < rs.length := by omega
    have h1 := List.findIdx_getElem (xs := rs) (p := fun r => decide (e ≤ r)) (w := hl)
    have h2 : e ≤ rs.getD (fIdx rs e) 0 := by rw [gd _ hl]; exact of_decide_eq_true h1
    exact Nat.le_trans h2 (h.mono _ _ hle hi)
  · intro hle
    refine Nat.le_of_not_lt fun hlt => ?_
    have := List.not_of_lt_findIdx (xs := rs) (p := fun r => decide (e ≤ r)) (i := i) hlt
    rw [gd i hi] at hle
    simp at this
    omega
theorem fIdx_lt {rs : List Nat} (h : ReachOk rs) {e : Nat} (h1 : 1 ≤ e) (h2 : e ≤ rs.length) : fIdx rs e ≤ e - 1 :=
  (fIdx_iff h e (e - 1) (by omega)).mpr (by have := h.gt (e - 1) (by omega); omega)

structure FewRec (rs fs : List Nat) (n : Nat) : Prop where
  len : fs.length = n + 1
  zero : fs.getD 0 0 = 0
  step : ∀ e, 1 ≤ e → e ≤ n → fs.getD e 0 = 1 + fs.getD (fIdx rs e) 0
theorem getD_app {a : List Nat} {x i : Nat} (h : i < a.length) : (a ++ [x]).getD i 0 = a.getD i 0 := by
  rw [List.getD_eq_getElem?_getD, List.getD_eq_getElem?_getD, List.getElem?_append_left h]
theorem FewRec.snoc {rs fs : List Nat} {n : Nat} (hr : ReachOk rs) (h : FewRec rs fs n) (hn : n < rs.length) : FewRec rs (fs ++ [1 + fs.getD (fIdx rs (n + 1)) 0]) (n + 1) where
  len := by rw [List.length_append, h.len]; rfl
  zero := by rw [getD_app (by rw [h.len]; omega)]; exact h.zero
  step := by
    intro e h1 h2
    have hlt := fIdx_lt hr h1 (by omega)
    have hl := h.len
    rw [getD_app (i := fIdx rs e) (by omega)]
    by_cases he : e ≤ n
    · rw [getD_app (by omega)]; exact h.step e h1 he
    · obtain rfl : e = n + 1 := by omega
      rw [List.getD_eq_getElem?_getD, List.getElem?_append_right (by omega), hl, Nat.sub_self]; rfl
theorem few_mono {rs fs : List Nat} (hr : ReachOk rs) (h : FewRec rs fs rs.length) : ∀ e' ≤ rs.length, ∀ e ≤ e', fs.getD e 0 ≤ fs.getD e' 0 := by
  intro e'
  induction e' using Nat.strongRecOn with
  | _ e' ih =>
    intro h1 e h2
    by_cases h0 : e = 0
    · subst h0; rw [h.zero]; exact Nat.zero_le _
    · rw [h.step e (by omega) (by omega), h.step e' (by omega) h1]
      have a := fIdx_lt hr (e := e) (by omega) (by omega)
      have b := fIdx_lt hr (e := e') (by omega) h1
      have c : fIdx rs e ≤ fIdx rs e' := by
        refine (fIdx_iff hr e _ (by omega)).mpr ?_
        have := (fIdx_iff hr e' (fIdx rs e') (by omega)).mp (Nat.le_refl _)
        omega
      have := ih (fIdx rs e') (by omega) (by omega) (fIdx rs e) c
      omega

/-- the greedy places -/
structure GreedyOk (rs : List Nat) (S : List Nat) : Prop where
  ne : 2 ≤ S.length
  zero : S.getD 0 0 = 0
  step : ∀ k, k + 1 < S.length → S.getD k 0 < rs.length ∧ S.getD (k + 1) 0 = rs.getD (S.getD k 0) 0
theorem greedy_iff {rs fs S : List Nat} (hr : ReachOk rs) (h : FewRec rs fs rs.length) (g : GreedyOk rs S) : ∀ k < S.length, ∀ e ≤ rs.length, fs.getD e 0 ≤ k ↔ e ≤ S.getD k 0 := by
  intro k
  induction k with
  | zero =>
    intro _ e he
    rw [g.zero]
    by_cases h0 : e = 0
    · subst h0; rw [h.zero]
    · rw [h.step e (by omega) he]; omega
  | succ k ih =>
    intro hk e he
    obtain ⟨g1, g2⟩ := g.step k hk
    by_cases h0 : e = 0
    · subst h0; rw [h.zero]; simp
    · have hlt := fIdx_lt hr (e := e) (by omega) he
      rw [h.step e (by omega) he, g2, ← fIdx_iff hr e _ g1]
      have := ih (by omega) (fIdx rs e) (by omega)
      omega

/-- the least of all is the first -/
theorem few_unique {rs fs gs : List Nat} (hr : ReachOk rs) (h : FewRec rs fs rs.length) (hl : gs.length = rs.length + 1) (h0 : gs[0]? = some 0)
    (hg : ∀ e v, 1 ≤ e → gs[e]? = some v → (∃ i u, i < e ∧ e ≤ rs.getD i 0 ∧ gs[i]? = some u ∧ v = 1 + u) ∧ ∀ i u, i < e → e ≤ rs.getD i 0 → gs[i]? = some u → v ≤ 1 + u) : gs = fs := by
  have main : ∀ e, e ≤ rs.length → gs[e]? = some (fs.getD e 0) := by
    intro e
    induction e using Nat.strongRecOn with
    | _ e ih =>
      intro he
      by_cases h1 : e = 0
      · subst h1; rw [h0, h.zero]
      · have hlt : e < gs.length := by omega
        have hv : gs[e]? = some gs[e] := by simp [hlt]
        obtain ⟨⟨i, u, a1, a2, a3, a4⟩, b⟩ := hg e gs[e] (by omega) hv
        have hf := fIdx_lt hr (e := e) (by omega) he
        have hff := (fIdx_iff hr e (fIdx rs e) (by omega)).mp (Nat.le_refl _)
        have b1 := b (fIdx rs e) (fs.getD (fIdx rs e) 0) (by omega) hff (ih _ (by omega) (by omega))
        rw [ih i a1 (by omega)] at a3
        have a3 := Option.some.inj a3
        have hi : fIdx rs e ≤ i := (fIdx_iff hr e i (by omega)).mpr a2
        have hm := few_mono hr h i (by omega) _ hi
        rw [hv, h.step e (by omega) he]
        congr 1
        omega
  apply List.ext_getElem?
  intro i
  by_cases hi : i ≤ rs.length
  · rw [main i hi, List.getD_eq_getElem?_getD, List.getElem?_eq_getElem (by rw [h.len]; omega)]; rfl
  · rw [List.getElem?_eq_none (by omega), List.getElem?_eq_none (by rw [h.len]; omega)]

noncomputable def reachesN (w : List Nat) : List Nat := (List.range w.length).map (reachN w)
theorem reachesN_len : (reachesN w).length = w.length := by simp [reachesN]
theorem reachesN_get {i : Nat} (h : i < w.length) : (reachesN w).getD i 0 = reachN w i := by
  rw [List.getD_eq_getElem?_getD]; simp [reachesN, h]
theorem reachesN_ok : ReachOk (reachesN w) where
  gt := by intro i hi; rw [reachesN_len] at hi; rw [reachesN_get hi]; exact reach_gt i
  le := by intro i hi; rw [reachesN_len] at hi ⊢; rw [reachesN_get hi]; exact reach_le hi
  mono := by
    intro i j hij hj
    rw [reachesN_len] at hj
    rw [reachesN_get hj, reachesN_get (by omega)]
    have := reach_mono (w := w) (p := i) (d := j - i) (by omega)
    rwa [show i + (j - i) = j by omega] at this
end Mine
end

section
open PySem PySem.W PySem.Calls PyProof.Rows
set_option Elab.async false
set_option maxRecDepth 100000
set_option linter.unusedVariables false
set_option linter.unusedSimpArgs false
namespace Mine

theorem prepL_app (a b : List Nat) : prepL (a ++ b) = prepL a ++ prepL b := by simp [prepL]
theorem prep_uns : ∀ i < 27, prepL [(unsI.getD i 0).toNat] = [] := by decide +kernel
theorem prep_two : ∀ x < 2, ∀ y < 12, prepL [(formsL x).getD y 0] = [kmL.getD x 0] := by decide +kernel
theorem prep_three : ∀ c ∈ preL ++ othL, prepL [c] = (lookS letD (ofL [c])).cps.toList := by decide +kernel
theorem prep_one : prepL [13261] = [107, 107] ∧ prepL [13262] = [107, 109] := by decide +kernel
theorem sign_three {b : Nat} (hb : b < 152) : signW 3 b ∈ preL ++ othL := by
  show (preL ++ [othL.getD (b / 8) 0]).getD (b % 8) 0 ∈ preL ++ othL
  have hl : b % 8 < (preL ++ [othL.getD (b / 8) 0]).length := by show b % 8 < 8; exact Nat.mod_lt _ (by decide)
  have ho : b / 8 < othL.length := by show b / 8 < 19; omega
  rw [List.getD_eq_getElem?_getD, List.getElem?_eq_getElem hl, Option.getD_some]
  have hm := List.getElem_mem hl
  rcases List.mem_append.mp hm with h | h
  · exact List.mem_append_left _ h
  · rw [List.mem_singleton] at h
    rw [h, List.getD_eq_getElem?_getD, List.getElem?_eq_getElem ho, Option.getD_some]
    exact List.mem_append_right _ (List.getElem_mem ho)
theorem prep_sign : ∀ a < 4, ∀ b < 152, prepL [signW a b] = lettersW a b := by
  intro a ha b hb
  obtain rfl | rfl | rfl | rfl : a = 0 ∨ a = 1 ∨ a = 2 ∨ a = 3 := by omega
  · exact prep_one.1
  · exact prep_one.2
  · exact prep_two (b % 2) (Nat.mod_lt _ (by decide)) (b / 2 % 12) (Nat.mod_lt _ (by decide))
  · exact prep_three _ (sign_three hb)
theorem prep_typed (cells : List Nat) : prepL (typedL cells) = meantL cells := by
  induction cells with
  | nil => rfl
  | cons c r ih =>
    have e1 : typedL (c :: r) = [signW (c % 4) (c / 4 % 152)] ++ ([unsN c] ++ typedL r) := by simp [typedL, typedN]
    have e2 : meantL (c :: r) = lettersN c ++ meantL r := by simp [meantL]
    rw [e1, e2, prepL_app, prepL_app, ih, prep_sign _ (Nat.mod_lt _ (by decide)) _ (Nat.mod_lt _ (by decide))]
    have h3 : prepL [unsN c] = [] := prep_uns (c / 608 % 27) (Nat.mod_lt _ (by decide))
    rw [h3]
    rfl
end Mine
end

section
open PySem PySem.W PySem.Calls PyProof.Rows
set_option Elab.async false
set_option maxRecDepth 100000
set_option linter.unusedVariables false
set_option linter.unusedSimpArgs false
namespace Mine
variable {C : Cx} {α β : Type} {m : Loc} {l : Led} {mg mb : Loc}

def LstO (o : Obj) (vs : List Value) : Prop := o.cls = .type "list" ∧ ∃ n, o.data = .seq vs.toArray n
theorem T_mul_none {a : Addr} {n k : Nat} {u : Tok} {Q : Value → Loc → Led → Prop} (ha : Seen C l a (lo [.none] n)) (hk : k ≤ 1000) (h : ∀ d o, LstO o (List.replicate k .none) → Q (.ref d) m ((d, o) :: l)) : T C (binaryOp .Mult (.ref a) (.int k u)) m l Q := by
  intro s P E O c
  refine mul_list_is (ds := [.none]) O.fr O.nw (ha.isList O) (.cons .none .nil) (by omega) (by omega) (by simp; omega) fun h' F N hd hl _ => ?_
  obtain ⟨o, ho, hc, n', hdt⟩ := hl
  rw [Int.toNat_natCast, List.flatten_replicate_singleton] at hdt
  refine c _ h' s.toks m _ (h _ o ⟨hc, n', hdt⟩) ⟨F, fun p hp => ?_, ?_⟩
  · rcases List.mem_cons.mp hp with rfl | hp
    · exact ⟨ho, Nat.ne_of_gt O.fr.ns.lt, hd⟩
    · exact N p hp
  · simp only [List.map_cons, List.nodup_cons]
    refine ⟨fun hm => ?_, O.nd⟩
    obtain ⟨p, hp, e⟩ := List.mem_map.mp hm
    exact Nat.lt_irrefl _ (e ▸ Heap.lt_size (O.nw p hp).1)

theorem canLay_nones : ∀ n : Nat, PyData.canLayAll0 (List.replicate n PyData.none) = true
  | 0 => by simp [PyData.canLayAll0]
  | n + 1 => by rw [List.replicate_succ]; simp [PyData.canLayAll0, PyData.canLay0, canLay_nones n]
theorem depth_nones : ∀ n : Nat, PyData.depthAll (List.replicate n PyData.none) ≤ 1
  | 0 => by simp [PyData.depthAll]
  | n + 1 => by
    have := depth_nones n
    rw [List.replicate_succ]
    simp only [PyData.depthAll, PyData.depth]
    omega
theorem shaped_nones (n : Nat) : SeqAt.shaped (.list (List.replicate n PyData.none)) = true := by
  have h1 := depth_nones n
  have h2 : PyData.depth (.list (List.replicate n PyData.none)) ≤ 64 := by simp only [PyData.depth]; omega
  show (PyData.canLay0 (.list (List.replicate n PyData.none)) && decide (PyData.depth (.list (List.replicate n PyData.none)) ≤ 64)) = true
  rw [Bool.and_eq_true]
  exact ⟨by simp only [PyData.canLay0]; exact canLay_nones n, decide_eq_true h2⟩
theorem canLay_strs : ∀ ss : List Str, (∀ s ∈ ss, PyData.strOk s = true) → PyData.canLayAll0 (ss.map PyData.str) = true
  | [], _ => by simp [PyData.canLayAll0]
  | n :: r, h => by simp [PyData.canLayAll0, PyData.canLay0, canLay_strs r fun s hs => h s (List.mem_cons_of_mem _ hs), h n List.mem_cons_self]
theorem depth_strs : ∀ ss : List Str, PyData.depthAll (ss.map PyData.str) ≤ 1
  | [] => by simp [PyData.depthAll]
  | n :: r => by
    have := depth_strs r
    simp only [List.map_cons, PyData.depthAll, PyData.depth]
    omega
theorem shaped_strs (ss : List Str) (hok : ∀ s ∈ ss, PyData.strOk s = true) : SeqAt.shaped (.list (ss.map PyData.str)) = true := by
  have h1 := depth_strs ss
  have h2 : PyData.depth (.list (ss.map PyData.str)) ≤ 64 := by simp only [PyData.depth]; omega
  show (PyData.canLay0 (.list (ss.map PyData.str)) && decide (PyData.depth (.list (ss.map PyData.str)) ≤ 64)) = true
  rw [Bool.and_eq_true]
  exact ⟨by simp only [PyData.canLay0]; exact canLay_strs ss hok, decide_eq_true h2⟩
theorem carried_nones : ∀ n : Nat, CarriedAll (List.replicate n Value.none) (List.replicate n PyData.none)
  | 0 => .nil
  | n + 1 => by rw [List.replicate_succ, List.replicate_succ]; exact .cons .none (carried_nones n)
theorem T_ne_nones {env : Env} {outer : List Env} {r : Nat} (K : Act C env outer r) {a b : Addr} {n k : Nat} {o : Obj} {Q : Value → Loc → Led → Prop} (ha : Seen C l a (lo (List.replicate k .none) n)) (hb : Seen C l b o) (ho : LstO o (List.replicate k .none)) (h : Q (.bool false) m l) : T C (compareOp .NotEq (.ref a) (.ref b)) m l Q := by
  intro s P E O c
  have e := eqv_self (shaped_nones k)
  exact ne_dataH (reads_newData (ha.isList O) (carried_nones k)) (reads_newData ⟨o, hb.get O, ho⟩ (carried_nones k)) (shaped_nones k) (shaped_nones k) (room_act K) (by rw [e]; exact c _ s.heap s.toks m l h O)
theorem T_ne_strs {env : Env} {outer : List Env} {r : Nat} (K : Act C env outer r) {a b : Addr} {vs us : List Value} {n k : Nat} {ss : List Str} {Q : Value → Loc → Led → Prop} (ha : Seen C l a (lo vs n)) (hb : Seen C l b (lo us k)) (hi : StrsAre vs ss) (hj : StrsAre us ss) (hok : ∀ s ∈ ss, PyData.strOk s = true) (h : Q (.bool false) m l) :
    T C (compareOp .NotEq (.ref a) (.ref b)) m l Q := by
  refine T_ne_data K ha hb (lm_carried_strs hi) (lm_carried_strs hj) (shaped_strs ss hok) (shaped_strs ss hok) ?_
  rw [eqv_self (shaped_strs ss hok)]
  exact h
theorem T_item_last {value slice : Expr} {a : Addr} {vs : List Value} {n : Nat} {ns : List Int} {u : Tok} {Q : Value → Loc → Led → Prop} (hl : Seen C l a (lo vs n)) (hi : IntsAre vs ns) (hne : 0 < ns.length) (h : ∀ t, Q (.int (ns.getD (ns.length - 1) 0) t) m l)
    (hs : subscripted slice false (.ref a) (.int (-1) u) = operate [.ref a, .int (-1) u] (getItem (.ref a) (.int (-1) u)) := by with_unfolding_all rfl) (ht : ∀ r, letTemporaryGo value (.ref a) r = pure () := by intro _; with_unfolding_all rfl) : T C (subscriptTail value slice (.ref a) (.int (-1) u)) m l Q := by
  intro s P E O c
  refine item_list_ints_neg (hl.isList O) hi (by decide) (by omega) (by decide) (fun t => ?_) hs ht
  have e : ((-1 : Int) + (ns.length : Int)).toNat = ns.length - 1 := by omega
  rw [e]
  exact c _ s.heap s.toks m l (h t) O
theorem let_ok : ∀ a < 4, ∀ b < 152, ∀ c ∈ lettersW a b, c < 1114112 := by decide +kernel
theorem meant_ok (cells : List Nat) : ∀ c ∈ meantL cells, c < 1114112 := by
  intro c hc
  obtain ⟨x, hx, hcx⟩ := List.mem_flatMap.mp hc
  exact let_ok _ (Nat.mod_lt _ (by decide)) _ (Nat.mod_lt _ (by decide)) c hcx
theorem esc_ok7 : ∀ i < 5, ∀ k ∈ [38, 60, 62, 34, 13, 10, 9], PyData.strOk (esc1 i k) = true := by decide +kernel
theorem esc1_ok {i : Nat} (hi : i < 5) {c : Nat} (hc : c < 1114112) : PyData.strOk (esc1 i c) = true := by
  by_cases h : c ∈ [38, 60, 62, 34, 13, 10, 9]
  · exact esc_ok7 i hi c h
  · have hh : ∀ p ∈ escT i, p.1 ≠ c := fun p hp e => h (e ▸ esc_keys i hi p hp)
    rw [esc1, escP_other _ _ hh]
    simp [PyData.strOk, ofL, hc]
theorem CellsAre.five {cm : Str → Option Value} {n1 n2 n3 n4 n5 : Str} {c1 c2 c3 c4 c5 : Addr} {cells : List (Addr × Obj)} (x : CellsAre cm [(n1, c1), (n2, c2), (n3, c3), (n4, c4), (n5, c5)] cells) :
    ∃ o1 o2 o3 o4 o5, cells = [(c1, o1), (c2, o2), (c3, o3), (c4, o4), (c5, o5)] ∧ o1.data = .cell (cm n1) ∧ o2.data = .cell (cm n2) ∧ o3.data = .cell (cm n3) ∧ o4.data = .cell (cm n4) ∧ o5.data = .cell (cm n5) := by
  cases x with | cons h r => 
  cases r with | cons h2 r =>
    obtain ⟨o3, o4, o5, rfl, h3, h4, h5⟩ := CellsAre.three r
    exact ⟨_, _, o3, o4, o5, rfl, h, h2, h3, h4, h5⟩
theorem Sub.front (X A T R : Led) : Sub (X ++ (A ++ (T ++ R))) (A ++ (T ++ (X ++ R))) := by
  refine Sub.ofPerm ?_
  have h1 : A ++ (T ++ (X ++ R)) = (A ++ T) ++ (X ++ R) := by simp
  have h2 : X ++ (A ++ (T ++ R)) = X ++ ((A ++ T) ++ R) := by simp
  rw [h1, h2]
  exact List.perm_append_comm_assoc ..
end Mine
end

section
open PySem PySem.W PySem.Calls PyProof.Rows
set_option Elab.async false
set_option maxRecDepth 100000
set_option linter.unusedVariables false
set_option linter.unusedSimpArgs false
namespace Mine
variable {C : Cx} {α β : Type} {m : Loc} {l : Led} {mg mb : Loc}

abbrev lawCl (cfw clg cwd cfi csc : Addr) : List (Str × Addr) := [(("fewest" : Str), cfw), (("longest" : Str), clg), (("word" : Str), cwd), (("firsts" : Str), cfi), (("script" : Str), csc)]
theorem sjoin_lists : ∀ ls : List (List Nat), Str.join "" (ls.map ofL) = ofL ls.flatten
  | [] => rfl
  | [x] => by
    show ofL x = ofL (x ++ [])
    rw [List.append_nil]
  | x :: y :: r => by
    have ih := sjoin_lists (y :: r)
    show ofL x ++ ("" : Str) ++ Str.join "" ((y :: r).map ofL) = ofL (x ++ (y :: r).flatten)
    rw [ih, ← ofL_append]
    congr 1
theorem join_lists (ls : List (List Nat)) : Txt.join "" (ls.map ofL) = ofL ls.flatten := by
  rw [← sjoin_lists]
  exact StrLaws.glued_eq_join _ _
theorem join_esc (hand : Nat) (w : List Nat) : Txt.join "" (w.map (esc1 hand)) = ofL (escP (escT hand) w) := by
  have h := join_lists (w.map fun c => escP (escT hand) [c])
  rw [List.map_map] at h
  rw [escP_flat, List.flatMap_def]
  exact h
theorem join_len {hand : Nat} (hh : hand < 5) {w : List Nat} (hw : w.length ≤ 14) : ((w.map (esc1 hand)).map (·.length)).sum + (w.map (esc1 hand)).length ≤ 1048576 := by
  have main : ∀ w : List Nat, ((w.map (esc1 hand)).map (·.length)).sum ≤ 6 * w.length := by
    intro w
    induction w with
    | nil => simp
    | cons c r ih =>
      have h1 := esc_len hand 7 hh (Nat.le_refl _) [c]
      have h2 : (escT hand).take 7 = escT hand := by
        obtain rfl | rfl | rfl | rfl | rfl : hand = 0 ∨ hand = 1 ∨ hand = 2 ∨ hand = 3 ∨ hand = 4 := by omega
        all_goals rfl
      rw [h2] at h1
      have h3 : (esc1 hand c).length = (escP (escT hand) [c]).length := by rw [esc1, len_ofL]
      simp only [List.map_cons, List.sum_cons, List.length_cons] at ih ⊢
      simp only [List.length_cons, List.length_nil] at h1
      omega
  have := main w
  rw [List.length_map]
  omega
theorem told_deep {R tv} {sz src : Nat → Nat} (h : ToldM R tv sz src) (k : ∀ p ∈ R, p ∈ l) : ToldAt C l tv sz src := fun i hi => let ⟨a, b, c, d, e⟩ := h i hi; ⟨a, b, c, d, Seen.led (k _ e)⟩

set_option maxHeartbeats 1000000 in
theorem lawC {outer : List Env} {r : Nat} {f : Addr} {cdv : Value} {cfw clg cwd cfi csc : Addr} (Kg : Act C (envX "law" (fScope 26) C.L f cdv (lawCl cfw clg cwd cfi csc)) outer (r + 4)) (B : Lib C.prog C.w C.h₀ mg mb) (hsys : ∃ o, C.h₀.get? sysModules = some o)
    {word : List Nat} {tw tz t0 : Tok} (hw : word.length ≤ 14) (hw0 : 0 < word.length) (hwc : ∀ c ∈ word, c < 1114112) {owd ofw : Obj} {dt dS dR dfw : Addr} {tv sv rv : List Value} {nt nS nR nf : Nat} {starts : List Nat} {l0 R0 : Led}
    (hl : l = (dfw, lo [.int 0 t0] nf) :: l0) (mwd : (cwd, owd) ∈ l0) (hwd : owd.data = .cell (some (.str (ofL word) tw))) (mfw : (cfw, ofw) ∈ l0) (hfw : ofw.data = .cell (some (.ref dfw)))
    (mt : (dt, lo tv nt) ∈ l0) (htl : tv.length = word.length) (htm : ToldM l0 tv (szN word) (srcN word)) (mS : (dS, lo sv nS) ∈ l0) (hS : IntsAre sv (starts.map Int.ofNat)) (hSl : starts.length ≤ 14) (mR : (dR, lo rv nR) ∈ l0) (hR : IntsAre rv ((reachesN word).map Int.ofNat))
    (hp : PiecesOk word (szN word) (srcN word) starts) (hg : GreedyOk (reachesN word) (starts ++ [word.length]))
    (h1 : m "size" = some (.int word.length tz)) (h2 : m "told" = some (.ref dt)) (h3 : m "starts" = some (.ref dS)) (h4 : m "reaches" = some (.ref dR)) (hsub : Sub R0 l0) {Q : Value → Loc → Led → Prop} {mq : Loc} (h : Q (.bool true) mq R0) :
    T C (execs ((fBody 26).drop 12) (envX "law" (fScope 26) C.L f cdv (lawCl cfw clg cwd cfi csc))) m l (fun fl _ l1 => ∃ lq, Sub lq l1 ∧ Q (retOf fl) mq lq) := by
  subst hl
  have hN := B.N
  have Sg := B.S
  have g25 := B.d25.g
  have g20 := B.d20.g
  have g19 := B.d19.g
  have gL := B.dL.d.g
  have gR := B.dR.d.g
  have g24 := B.d24.g
  conv in (fBody 26).drop 12 => whnf
  with_reducible refine T_cons ?_
  with_reducible refine T_For ?_ ?hs ?ht
  case hs => intro _; rfl
  case ht => intro _ _; rfl
  repeat walk_at "t"
  refine T_range1 fun rr u1 u3 => ?_
  have hrs := range_small (a := 0) (b := 5) (by omega) (by omega) (by omega) (by omega)
  refine T_iter_range (Seen.led List.mem_cons_self) hrs.1 (fun I2 o2 hst2 => ?_) hrs.2
  generalize rng 0 _ 1 _ _ u3 = orr
  obtain ⟨Inv, hInv⟩ : ∃ I : Nat → Loc → Led → Prop, I = (fun k m3 l3 => m3 "size" = some (.int word.length tz) ∧ m3 "told" = some (.ref dt) ∧ m3 "starts" = some (.ref dS) ∧ m3 "reaches" = some (.ref dR) ∧ l3 = (rr, orr) :: (dfw, lo [.int 0 t0] nf) :: l0) := ⟨_, rfl⟩
  refine ⟨I2, _, _, _, _, o2, _, Inv, rfl, Iter.range Kg.hand I2 0 5, hst2, rfl, by rw [hInv]; exact ⟨h1, h2, h3, h4, rfl⟩, fun _ _ _ _ => trivial, ?_, ?_⟩
  · clear h1 h2 h3 h4
    rintro hand v o' m3 l3 hk ⟨tv0, rfl⟩ hI
    rw [hInv] at hI
    obtain ⟨h1, h2, h3, h4, rfl⟩ := hI
    rw [Int.zero_add]
    with_reducible refine T_assign_Name ?_
    repeat walk_at "t"
    with_reducible refine T_callWith_def B.d25.data ?_ ?hea
    case hea => rfl
    repeat walk_at "t"
    refine ⟨Seen.base B.d25.get, ?_⟩
    with_reducible refine pieces (tv := tv) (sv := sv) (nt := nt) (ns := nS) (sz := szN word) (src := srcN word) (starts := starts) Kg B (by omega) (Seen.led (by walk_at "mem")) htl ?htold (Seen.led (by walk_at "mem")) hS hp hk ?_
    case htold => exact told_deep htm fun p hp => List.mem_cons_of_mem _ (List.mem_cons_of_mem _ (List.mem_cons_of_mem _ hp))
    intro ds ys ks hys
    repeat walk_at "t"
    with_reducible refine T_isTrue_or ?_
    repeat walk_at "t"
    with_reducible refine T_callWith_def B.d20.data ?_ ?heb
    case heb => rfl
    repeat walk_at "t"
    refine ⟨Seen.base B.d20.get, ?_⟩
    with_reducible refine spelled Kg B hsys hk (by omega) ?_
    intro ds2 ys2 ks2 hys2
    with_reducible refine T_ne_strs (vs := ys) (n := ks) (us := ys2) (k := ks2) Kg (Seen.led (by walk_at "mem")) (Seen.led (by walk_at "mem")) hys hys2 ?hok ?_
    case hok =>
      intro s hs
      obtain ⟨c, hc, rfl⟩ := List.mem_map.mp hs
      exact esc1_ok hk (hwc c hc)
    repeat walk_at "t"
    with_reducible refine go_or ?_
    with_reducible refine T_isTrue_or ?_
    repeat walk_at "t"
    with_reducible refine T_method_str' F.slot_str_join F.type_str_join ?_
    repeat walk_at "t"
    show T _ (call (.builtin "str.join") [.str ("" : Str) _, .ref ds]) _ _ _
    with_reducible refine T_join (ys := word.map (esc1 hand)) (vs := ys) (n := ks) (Seen.led (by walk_at "mem")) hys ?hsep ?hjw ?_
    case hsep => decide
    case hjw => exact join_len hk hw
    intro tj
    rw [join_esc]
    repeat walk_at "t"
    with_reducible refine T_callWith_def B.d19.data ?_ ?hec
    case hec => rfl
    repeat walk_at "t"
    refine ⟨Seen.base B.d19.get, ?_⟩
    with_reducible refine written Kg B hk (by omega) ?_
    intro tj2
    refine T_ne_str ?_
    rw [show (ofL (escP (escT hand) word) != ofL (escP (escT hand) word)) = false by simp]
    repeat walk_at "t"
    with_reducible refine go_or ?_
    with_reducible refine T_isTrue_or_nil ?_
    repeat walk_at "t"
    refine go_for ⟨(rr, orr) :: (dfw, lo [.int 0 t0] nf) :: l0, by walk_at "subd", ?_⟩
    rw [hInv]
    exact ⟨by walk_at "loc", by walk_at "loc", by walk_at "loc", by walk_at "loc", rfl⟩
  · clear h1 h2 h3 h4
    intro m3 l3 hI
    rw [hInv] at hI
    obtain ⟨h1, h2, h3, h4, rfl⟩ := hI
    clear hInv Inv
    with_reducible refine go_next ?_
    with_reducible refine T.less ?_ (Sub.drop (Sub.refl _))
    repeat walk_at "t"
    with_reducible refine T_For ?_ ?hs2 ?ht2
    case hs2 => intro _; rfl
    case ht2 => intro _ _; rfl
    repeat walk_at "t"
    refine T_range2 fun rr2 t3 => ?_
    have hrs2 := range_small (a := 1) (b := (word.length : Int) + 1) (by omega) (by omega) (by omega) (by omega)
    refine T_iter_range (Seen.led List.mem_cons_self) hrs2.1 (fun I3 o3 hst3 => ?_) hrs2.2
    have hzn : ((word.length : Int) + 1 - 1).toNat = word.length := by omega
    rw [hzn] at hst3
    generalize rng 1 _ 1 _ _ t3 = orr2
    have hrok := reachesN_ok (w := word)
    have hrl : (reachesN word).length = word.length := reachesN_len
    have hrvl : rv.length = word.length := by have := hR.length; rw [List.length_map, hrl] at this; exact this
    obtain ⟨Inv, hInv⟩ : ∃ I : Nat → Loc → Led → Prop, I = (fun k m4 l4 => m4 "size" = some (.int word.length tz) ∧ m4 "starts" = some (.ref dS) ∧ m4 "reaches" = some (.ref dR) ∧ ∃ fv fs nf, IntsAre fv (fs.map Int.ofNat) ∧ FewRec (reachesN word) fs k ∧ l4 = (rr2, orr2) :: (dfw, lo fv nf) :: l0) := ⟨_, rfl⟩
    refine ⟨I3, _, _, _, _, o3, _, Inv, rfl, Iter.range Kg.hand I3 1 word.length, hst3, rfl, by rw [hInv]; exact ⟨h1, h3, h4, _, [0], nf, .cons 0 _ .nil, ⟨rfl, rfl, fun e a b => by omega⟩, rfl⟩, fun _ _ _ _ => trivial, ?_, ?_⟩
    · clear h1 h2 h3 h4
      rintro k v o' m4 l4 hk ⟨tv1, rfl⟩ hI
      rw [hInv] at hI
      obtain ⟨h1, h3, h4, fv, fs, nf, hfv, hfr, rfl⟩ := hI
      have hfl := hfr.len
      have hfvl : fv.length = fs.length := by have := hfv.length; rwa [List.length_map] at this
      with_reducible refine T_assign_Name ?_
      repeat walk_at "t"
      with_reducible refine T_method_list slot_list_append ?htd (Seen.led (by walk_at "mem")) ?_
      case htd => rfl
      repeat walk_at "t"
      with_reducible refine T_callWith_def B.dL.d.data ?_ ?hee
      case hee => rfl
      repeat walk_at "t"
      refine ⟨Seen.base B.dL.d.get, ?_⟩
      have hfle := fIdx_lt hrok (e := k + 1) (by omega) (by omega)
      with_reducible refine bisect_left_plain (item := fun i v => rv[i]? = some v) (j := fIdx (reachesN word) (k + 1)) Kg Sg B.dL.d B.N B.dL.hT B.dL.hK B.dL.hk (n := rv.length) (by omega) (SeqOk.list (n := nR) (Seen.led (by walk_at "mem")) (by omega)) ?hcmp (by omega) ?_
      case hcmp =>
        intro C' m Q i v hi hv hq
        obtain ⟨tr, htr⟩ := ints_get hR (i := i) (n := (reachesN word)[i]'(by omega)) (by rw [List.getElem?_eq_getElem])
        rw [htr] at hv
        obtain rfl := Option.some.inj hv
        refine T_lt_int ?_
        have hif := fIdx_iff hrok (k + 1) i (by omega)
        rw [List.getD_eq_getElem?_getD, List.getElem?_eq_getElem (by omega), Option.getD_some] at hif
        rw [show decide ((((reachesN word)[i]'(by omega) : Nat) : Int) < 1 + (k : Int)) = decide (i < fIdx (reachesN word) (k + 1)) from decide_eq_decide.mpr (by omega)]
        exact hq
      intro tj3
      repeat walk_at "t"
      have hfi : fs[fIdx (reachesN word) (k + 1)]? = some (fs.getD (fIdx (reachesN word) (k + 1)) 0) := by rw [List.getD_eq_getElem?_getD, List.getElem?_eq_getElem (by omega)]; rfl
      obtain ⟨tf, htf⟩ := ints_get hfv hfi
      refine T_item_list (x := .int (fs.getD (fIdx (reachesN word) (k + 1)) 0 : Nat) tf) (vs := fv) (n := nf) (Seen.led (by walk_at "mem")) (by omega) (by omega) (by rw [Int.toNat_natCast]; exact htf) ?_
      repeat walk_at "t"
      rename_i tad
      refine T_append (vs := fv) (n := nf) (Rep.there (Rep.there Rep.here)) (by rw [sizeLine_eq]; omega) ⟨rfl, ?_⟩
      repeat walk_at "t"
      refine go_for ⟨(rr2, orr2) :: (dfw, lo (fv ++ [.int (1 + ((fs.getD (fIdx (reachesN word) (k + 1)) 0 : Nat) : Int)) tad]) (nf + 1)) :: l0, .refl _, ?_⟩
      rw [hInv]
      refine ⟨by walk_at "loc", by walk_at "loc", by walk_at "loc", _, fs ++ [1 + fs.getD (fIdx (reachesN word) (k + 1)) 0], _, ?_, hfr.snoc hrok (by omega), rfl⟩
      rw [List.map_append]
      refine hfv.append ?_
      have e1 : (1 : Int) + ((fs.getD (fIdx (reachesN word) (k + 1)) 0 : Nat) : Int) = Int.ofNat (1 + fs.getD (fIdx (reachesN word) (k + 1)) 0) := by show _ = ((1 + fs.getD (fIdx (reachesN word) (k + 1)) 0 : Nat) : Int); omega
      rw [e1]
      exact .cons _ _ .nil
    · clear h1 h2 h3 h4
      intro m4 l4 hI
      rw [hInv] at hI
      obtain ⟨h1, h3, h4, fv, fs, nf, hfv, hfr, rfl⟩ := hI
      clear hInv Inv
      with_reducible refine go_next ?_
      with_reducible refine T.less ?_ (Sub.drop (Sub.refl _))
      repeat walk_at "t"
      have hfl := hfr.len
      have hfvl : fv.length = fs.length := by have := hfv.length; rwa [List.length_map] at this
      have hgl : (starts ++ [word.length]).length = starts.length + 1 := by simp
      have hsvl : sv.length = starts.length := by have := hS.length; rwa [List.length_map] at this
      with_reducible refine T_Assign_comp (cl := [("fewest", cfw)]) ?hsw ?hclos ?hcell ?hkind ?hnames ?hy ?hL ?hp ?_ ?hs5
      case hsw => rfl
      case hclos => rfl
      case hcell => decide
      case hkind => rfl
      case hnames => decide
      case hy => rfl
      case hL => rfl
      case hp => rfl
      case hs5 => intro _; rfl
      repeat walk_at "t"
      refine T_len_list (n := nS) (vs := sv) (Seen.led (by walk_at "mem")) (by omega) fun t5 => ?_
      rw [hsvl]
      repeat walk_at "t"
      refine T_range1 fun r5 u5 u6 => ?_
      have hrs5 := range_small (a := 0) (b := (starts.length : Int) + 1) (by omega) (by omega) (by omega) (by omega)
      refine T_iter_range (Seen.led List.mem_cons_self) hrs5.1 (fun I5 o5 hst5 => ?_) hrs5.2
      have hzn5 : ((starts.length : Int) + 1 - 0).toNat = starts.length + 1 := by omega
      rw [hzn5] at hst5
      generalize rng 0 _ 1 _ _ u6 = orr5
      generalize hl5 : (r5, orr5) :: _ = l5
      have mf5 : (dfw, lo fv nf) ∈ l5 := by rw [← hl5]; walk_at "mem"
      have mc5 : (cfw, ofw) ∈ l5 := by rw [← hl5]; walk_at "mem"
      have sub5 : Sub ((dfw, lo fv nf) :: l0) l5 := by rw [← hl5]; walk_at "subd"
      refine ⟨I5, _, _, _, _, o5, _, fun j ys m6 l6 => m6 = m4 ∧ IntsAre ys (((starts ++ [word.length]).take j).map Int.ofNat) ∧ ys.length ≤ j ∧ l6 = l5, rfl, Iter.range Kg.hand I5 0 (starts.length + 1), hst5, rfl, ⟨rfl, .nil, Nat.zero_le _, rfl⟩, fun j ys m l h => ⟨trivial, h.2.2.1⟩, by omega, ?_, ?_⟩
      · rintro j v o6 D oD mD acc na ys m6 l6 hj ⟨tj, rfl⟩ ⟨rfl, hyi, hyl, rfl⟩ hD hst6
        rw [Int.zero_add]
        with_reducible refine T_go_name ?_
        with_reducible refine T_assign_Name ?_
        with_reducible refine T_compStore Rep.here hD ?_ ?hk6 ?hx6
        case hk6 => rfl
        case hx6 => rfl
        intro oD' hD'
        with_reducible refine T_tests_nil ?_
        repeat walk_at "t"
        with_reducible refine T_compGlobal Sg gR rfl ?_ ?hk7 ?hx7 ?hd7
        case hk7 => rfl
        case hx7 => rfl
        case hd7 => decide
        repeat walk_at "t"
        with_reducible refine T_callWith_def B.dR.d.data ?_ ?hef
        case hef => rfl
        repeat walk_at "t"
        refine ⟨Seen.base B.dR.d.get, ?_⟩
        have hgk := greedy_iff hrok (by rw [hrl]; exact hfr) hg j (by omega)
        have hSj : (starts ++ [word.length]).getD j 0 ≤ word.length := by
          rcases Nat.lt_or_ge j starts.length with hlt | hge
          · have := (hp.step j starts[j] (by simp [hlt])).1
            rw [List.getD_eq_getElem?_getD, List.getElem?_append_left hlt, List.getElem?_eq_getElem hlt, Option.getD_some]; omega
          · have : j = starts.length := by omega
            subst this
            rw [List.getD_eq_getElem?_getD, List.getElem?_append_right (Nat.le_refl _), Nat.sub_self]; simp
        with_reducible refine bisect_right_plain (item := fun i v => fv[i]? = some v) (j := (starts ++ [word.length]).getD j 0 + 1) Kg Sg B.dR.d B.N B.dR.hT B.dR.hK B.dR.hk (n := fv.length) (by omega) (SeqOk.list (n := nf) (Seen.led (by walk_at "mem")) (by omega)) ?hcmp5 (by omega) ?_
        case hcmp5 =>
          intro C' m Q i v hi hv hq
          have hif : i < fs.length := by omega
          obtain ⟨tr, htr⟩ := ints_get hfv (i := i) (n := fs[i]) (by simp [hif])
          rw [htr] at hv
          obtain rfl := Option.some.inj hv
          refine T_lt_int ?_
          have hgi := hgk i (by omega)
          rw [List.getD_eq_getElem?_getD, List.getElem?_eq_getElem hif, Option.getD_some] at hgi
          rw [show decide ((j : Int) < ((fs[i] : Nat) : Int)) = decide ((starts ++ [word.length]).getD j 0 + 1 ≤ i) from decide_eq_decide.mpr (by omega)]
          exact hq
        intro tj5
        repeat walk_at "t"
        refine ⟨oD', _, l6, hD', .refl _, rfl, ?_, by simp; omega, rfl⟩
        have htk : (starts ++ [word.length]).take (j + 1) = (starts ++ [word.length]).take j ++ [(starts ++ [word.length]).getD j 0] := by
          rw [List.take_add_one, List.getD_eq_getElem?_getD, List.getElem?_eq_getElem (by omega)]; rfl
        rw [htk, List.map_append]
        refine hyi.append ?_
        have e1 : (((starts ++ [word.length]).getD j 0 + 1 : Nat) : Int) - 1 = Int.ofNat ((starts ++ [word.length]).getD j 0) := by show _ = (((starts ++ [word.length]).getD j 0 : Nat) : Int); omega
        rw [e1]
        exact .cons _ _ .nil
      · rintro ys m6 l6 ⟨rfl, hyi, hyl, rfl⟩ acc na
        rw [show (starts ++ [word.length]).take (starts.length + 1) = starts ++ [word.length] from List.take_of_length_le (by simp)] at hyi
        with_reducible refine go_next ?_
        with_reducible refine T.less ?_ (Sub.consP sub5)
        repeat walk_at "t"
        with_reducible refine T_and2 ?_
        repeat walk_at "t"
        with_reducible refine T_callWith_def B.d24.data ?_ ?heg
        case heg => rfl
        repeat walk_at "t"
        refine ⟨Seen.base B.d24.get, ?_⟩
        with_reducible refine fewestT (rs := reachesN word) (rv := rv) (nr := nR) Kg B (Seen.led (by walk_at "mem")) hR (by omega) hrok.gt ?_
        intro d9 fv9 fs9 k9 hfv9 hfl9 hfo9
        have hfe : fs9 = fs := few_unique hrok (by rw [hrl]; exact hfr) hfl9 hfo9.1 hfo9.2
        subst hfe
        with_reducible refine T_eq_ints (vs := fv) (n := nf) (us := fv9) (k := k9) Kg (Seen.led (by walk_at "mem")) (Seen.led (by walk_at "mem")) hfv hfv9 ?_
        refine ⟨by rw [decide_eq_true rfl], ?_⟩
        repeat walk_at "t"
        refine T_newList (by rw [sizeLine_eq]; simp) fun d10 => ?_
        refine T_add_list (vs := sv) (n := nS) (Seen.led (by walk_at "mem")) (Seen.led (by walk_at "mem")) (by rw [sizeLine_eq]; simp; omega) fun d11 => ?_
        have hfar : IntsAre (sv ++ [Value.int (word.length : Nat) tz]) ((starts ++ [word.length]).map Int.ofNat) := by
          rw [List.map_append]
          exact hS.append (.cons _ _ .nil)
        with_reducible refine T_eq_ints (vs := ys) (n := na) (k := 0) Kg (Seen.led (by walk_at "mem")) (Seen.led (by walk_at "mem")) hyi hfar ?_
        rw [decide_eq_true rfl]
        with_reducible refine go_ret ?_
        exact ⟨R0, .drop (.drop (.drop (.drop (.drop hsub)))), h⟩
end Mine
end

section
open PySem PySem.W PySem.Calls PyProof.Rows
set_option Elab.async false
set_option maxRecDepth 100000
set_option linter.unusedVariables false
set_option linter.unusedSimpArgs false
namespace Mine

structure Chain (w : List Nat) (st : List Nat) : Prop where
  ne : 0 < st.length
  zero : st.getD 0 0 = 0
  lt : ∀ i < st.length, st.getD i 0 < w.length
  step : ∀ i, i + 1 < st.length → st.getD (i + 1) 0 = reachN w (st.getD i 0)
theorem Chain.ge {w st : List Nat} (h : Chain w st) : ∀ i < st.length, i ≤ st.getD i 0 := by
  intro i
  induction i with
  | zero => intro _; exact Nat.zero_le _
  | succ i ih =>
    intro hi
    have := ih (by omega)
    rw [h.step i hi]
    have := reach_gt (w := w) (st.getD i 0)
    omega
theorem Chain.len {w st : List Nat} (h : Chain w st) : st.length ≤ w.length := by
  have h0 := h.ne
  have h1 := h.ge (st.length - 1) (by omega)
  have h2 := h.lt (st.length - 1) (by omega)
  omega
theorem getD_end {a : List Nat} {x : Nat} : (a ++ [x]).getD a.length 0 = x := by
  rw [List.getD_eq_getElem?_getD, List.getElem?_append_right (Nat.le_refl _), Nat.sub_self]; rfl
theorem Chain.snoc {w st : List Nat} (h : Chain w st) (hl : reachN w (st.getD (st.length - 1) 0) < w.length) : Chain w (st ++ [reachN w (st.getD (st.length - 1) 0)]) := by
  have h0 := h.ne
  refine ⟨by simp, by rw [getD_app h0]; exact h.zero, fun i hi => ?_, fun i hi => ?_⟩
  · rw [List.length_append, List.length_singleton] at hi
    by_cases hlt : i < st.length
    · rw [getD_app hlt]; exact h.lt i hlt
    · obtain rfl : i = st.length := by omega
      rw [getD_end]; exact hl
  · rw [List.length_append, List.length_singleton] at hi
    rw [getD_app (i := i) (by omega)]
    by_cases hlt : i + 1 < st.length
    · rw [getD_app hlt]; exact h.step i hlt
    · have e : i + 1 = st.length := by omega
      rw [e, getD_end]
      congr 2
      omega
theorem copy_ok {w : List Nat} {s : Nat} (hs : s < w.length) : ∀ k < szN w s, srcN w s + k < s + k ∧ w[srcN w s + k]? = w[s + k]? ∧ s + k < w.length := by
  intro k hk
  unfold szN at hk
  rcases told_at hs with ⟨h, _⟩ | ⟨h1, h2⟩
  · omega
  · rw [h2] at hk
    obtain ⟨a, b, c⟩ := lcp_get _ _ k hk
    unfold srcN
    simp only [sfx, List.getElem?_drop, List.length_drop] at a b c
    exact ⟨by omega, a.symm, by omega⟩
theorem Chain.pieces {w st : List Nat} (h : Chain w st) (he : w.length ≤ reachN w (st.getD (st.length - 1) 0)) : PiecesOk w (szN w) (srcN w) st := by
  have h0 := h.ne
  have gd : ∀ {i s}, st[i]? = some s → st.getD i 0 = s := fun e => by rw [List.getD_eq_getElem?_getD, e]; rfl
  refine ⟨fun s hs => (gd hs).symm.trans h.zero, fun e => by rw [e] at h0; exact absurd h0 (by decide), fun i s hs => ?_⟩
  have hi : i < st.length := (List.getElem?_eq_some_iff.mp hs).1
  have hlt := h.lt i hi
  rw [gd hs] at hlt
  refine ⟨hlt, ?_, copy_ok hlt⟩
  by_cases hn : i + 1 < st.length
  · have := h.step i hn
    rw [gd hs] at this
    rw [List.getD_eq_getElem?_getD, List.getElem?_eq_getElem hn, Option.getD_some]
    rw [List.getD_eq_getElem?_getD, List.getElem?_eq_getElem hn, Option.getD_some] at this
    rw [this]; rfl
  · have e : i = st.length - 1 := by omega
    rw [← e, gd hs] at he
    have := reach_le hlt
    rw [List.getD_eq_getElem?_getD, List.getElem?_eq_none (by omega)]
    show reachN w s = w.length
    omega
theorem Chain.greedy {w st : List Nat} (h : Chain w st) (he : w.length ≤ reachN w (st.getD (st.length - 1) 0)) : GreedyOk (reachesN w) (st ++ [w.length]) := by
  have h0 := h.ne
  refine ⟨by simp; omega, by rw [getD_app h0]; exact h.zero, fun k hk => ?_⟩
  rw [List.length_append, List.length_singleton] at hk
  have hlt := h.lt k (by omega)
  rw [getD_app (i := k) (by omega), reachesN_len, reachesN_get hlt]
  refine ⟨hlt, ?_⟩
  by_cases hn : k + 1 < st.length
  · rw [getD_app hn]; exact h.step k hn
  · have e : k + 1 = st.length := by omega
    rw [e, getD_end]
    have e2 : k = st.length - 1 := by omega
    rw [← e2] at he
    have := reach_le hlt
    omega

/-- the longest earlier match that find shows is the one that the neighbours told -/
theorem find_ok {w : List Nat} {p k : Nat} (hp : p < w.length) (hk : 1 ≤ k) (hpk : p + k ≤ w.length) : FindOk w p k ↔ k ≤ szN w p := by
  have hsl : Txt.slice (ofL w) (some (p : Int)) (some ((p : Int) + k)) = ofL ((sfx w p).take k) := by
    have : ((p : Int) + (k : Int)) = ((p + k : Nat) : Int) := by push_cast; rfl
    rw [this, slice_run, show p + k - p = k by omega]; rfl
  have hAt : ∀ i, StrLaws.At (ofL w) (ofL ((sfx w p).take k)) (ofL w).length i ↔ i + k ≤ w.length ∧ (sfx w i).take k = (sfx w p).take k := by
    intro i
    have hl : ((sfx w p).take k).length = k := by simp [sfx]; omega
    unfold StrLaws.At
    rw [StrLaws.subAt_eq, len_ofL, len_ofL, hl, cps_ofL, cps_ofL]
    simp [sfx]
  unfold FindOk
  rw [hsl]
  have hpA := (hAt p).mpr ⟨hpk, rfl⟩
  rcases find_whole (ofL w) (ofL ((sfx w p).take k)) with ⟨h1, h2⟩ | ⟨i, h1, h2, h3⟩
  · exact absurd hpA (h2 p)
  · rw [h1]
    have h4 := (hAt i).mp h2
    constructor
    · intro hlt
      have hip : i < p := by omega
      have := (lcp_take (sfx w p) (sfx w i) k).mp ⟨h4.2.symm, by simp [sfx]; omega⟩
      exact Nat.le_trans this (told_best hp i hip)
    · intro hle
      unfold szN at hle
      rcases told_at hp with ⟨h, _⟩ | ⟨g1, g2⟩
      · omega
      · rw [g2] at hle
        obtain ⟨a, b⟩ := (lcp_take (sfx w p) (sfx w (toldN w p).2) k).mpr hle
        have hsrc := (hAt (toldN w p).2).mpr ⟨by omega, a.symm⟩
        have : i ≤ (toldN w p).2 := Nat.le_of_not_lt fun hlt => h3 _ hlt hsrc
        omega
theorem long_eq {w : List Nat} {p n : Nat} (hp : p < w.length) (h : IsLong w p n) : n = szN w p := by
  obtain ⟨h1, h2⟩ := h
  have hsz := sz_le hp
  apply Nat.le_antisymm
  · rcases h1 with rfl | ⟨a, b, c⟩
    · exact Nat.zero_le _
    · exact (find_ok hp a b).mp c
  · by_cases h0 : szN w p = 0
    · omega
    · exact h2 _ (by omega) hsz ((find_ok hp (by omega) hsz).mpr (Nat.le_refl _))
end Mine
end

section
open PySem PySem.W PySem.Calls PyProof.Rows
set_option Elab.async false
set_option maxRecDepth 100000
set_option linter.unusedVariables false
set_option linter.unusedSimpArgs false
namespace Mine
variable {C : Cx} {α β : Type} {m : Loc} {l : Led} {mg mb : Loc}

theorem T_neg {env : Env} {x : Expr} {pos : Pos} {Q : Value → Loc → Led → Prop} (h : T C (eval x env) m l fun v m1 l1 => ∃ a t, v = .int a t ∧ ∀ t', Q (.int (-a) t') m1 l1) : T C (eval (.UnaryOp .USub x pos) env) m l Q := by
  intro s P E O c
  refine UnaryOp_ (h s _ E O fun v h1 tk1 m1 l1 k1 O1 => ?_)
  obtain ⟨a, t, rfl, hq⟩ := k1
  exact PyProof.Rows.neg_int (c _ h1 _ m1 l1 (hq _) O1)

set_option maxHeartbeats 1000000 in
theorem lawB {outer : List Env} {r : Nat} {f : Addr} {cdv : Value} {cfw clg cwd cfi csc : Addr} (Kg : Act C (envX "law" (fScope 26) C.L f cdv (lawCl cfw clg cwd cfi csc)) outer (r + 4)) (B : Lib C.prog C.w C.h₀ mg mb) (hsys : ∃ o, C.h₀.get? sysModules = some o)
    {word : List Nat} {tw tz : Tok} (hw : word.length ≤ 14) (hw0 : 0 < word.length) (hwc : ∀ c ∈ word, c < 1114112) {owd ofw olg : Obj} {dt dq : Addr} {tv : List Value} {nt nq : Nat} {l0 R0 : Led} {vf vl : Option Value}
    (hl : l = (cfw, ofw) :: (clg, olg) :: l0) (hof : ofw.data = .cell vf) (hol : olg.data = .cell vl) (mwd : (cwd, owd) ∈ l0) (hwd : owd.data = .cell (some (.str (ofL word) tw)))
    (mt : (dt, lo tv nt) ∈ l0) (htl : tv.length = word.length) (htm : ToldM l0 tv (szN word) (srcN word)) (mqt : (dq, lo (List.replicate (2 * word.length) Value.none) nq) ∈ l0)
    (h1 : m "size" = some (.int word.length tz)) (h2 : m "told" = some (.ref dt)) (h3 : m "quiet" = some (.ref dq)) (hsub : Sub R0 l0) {Q : Value → Loc → Led → Prop} {mq : Loc} (h : Q (.bool true) mq R0) :
    T C (execs ((fBody 26).drop 7) (envX "law" (fScope 26) C.L f cdv (lawCl cfw clg cwd cfi csc))) m l (fun fl _ l1 => ∃ lq, Sub lq l1 ∧ Q (retOf fl) mq lq) := by
  subst hl
  have hN := B.N
  have Sg := B.S
  have g23 := B.d23.g
  conv in (fBody 26).drop 7 => whnf
  with_reducible refine T_cons ?_
  repeat walk_at "t"
  with_reducible refine T_ListComp (cl := [("word", cwd)]) ?hclos ?hcell ?hkind ?hnames ?_ ?hs
  case hclos => rfl
  case hcell => decide
  case hkind => rfl
  case hnames => decide
  case hs => intro _; rfl
  repeat walk_at "t"
  refine T_range1 fun r5 u5 u6 => ?_
  have hrs5 := range_small (a := 0) (b := (word.length : Int)) (by omega) (by omega) (by omega) (by omega)
  refine T_iter_range (Seen.led List.mem_cons_self) hrs5.1 (fun I5 o5 hst5 => ?_) hrs5.2
  have hzn5 : ((word.length : Int) - 0).toNat = word.length := by omega
  rw [hzn5] at hst5
  generalize rng 0 _ 1 _ _ u6 = orr5
  generalize hl5 : (r5, orr5) :: _ = l5
  have mc5 : (cwd, owd) ∈ l5 := by rw [← hl5]; walk_at "mem"
  have sub5 : Sub ((cfw, ofw) :: (clg, olg) :: l0) l5 := by rw [← hl5]; walk_at "subd"
  refine ⟨I5, _, _, _, _, o5, _, fun j ys m6 l6 => m6 = m ∧ IntsAre ys (((List.range j).map (szN word)).map Int.ofNat) ∧ ys.length ≤ j ∧ l6 = l5, rfl, Iter.range Kg.hand I5 0 word.length, hst5, rfl, ⟨rfl, .nil, Nat.zero_le _, rfl⟩, fun j ys m l h => ⟨trivial, h.2.2.1⟩, by omega, ?_, ?_⟩
  · rintro j v o6 D oD mD acc na ys m6 l6 hj ⟨tj, rfl⟩ ⟨rfl, hyi, hyl, rfl⟩ hD hst6
    rw [Int.zero_add]
    with_reducible refine T_go_name ?_
    with_reducible refine T_assign_Name ?_
    with_reducible refine T_compStore Rep.here hD ?_ ?hk6 ?hx6
    case hk6 => rfl
    case hx6 => rfl
    intro oD' hD'
    with_reducible refine T_tests_nil ?_
    repeat walk_at "t"
    with_reducible refine T_compGlobal Sg g23 rfl ?_ ?hk7 ?hx7 ?hd7
    case hk7 => rfl
    case hx7 => rfl
    case hd7 => decide
    repeat walk_at "t"
    with_reducible refine T_callWith_def B.d23.data ?_ ?hef
    case hef => rfl
    repeat walk_at "t"
    refine ⟨Seen.base B.d23.get, ?_⟩
    with_reducible refine longest Kg B (by omega) (by omega) ?_
    intro n tn hn
    obtain rfl := long_eq hj hn
    refine ⟨oD', _, l6, hD', .refl _, rfl, ?_, by simp; omega, rfl⟩
    rw [List.range_succ, List.map_append, List.map_append]
    exact hyi.append (.cons _ _ .nil)
  · rintro lv m6 l6 ⟨rfl, hlv, _, rfl⟩ dLg nLg
    with_reducible refine T.less ?_ (Sub.consP sub5)
    with_reducible refine T_storeC (d := clg) ?hc1 (Rep.there (Rep.there Rep.here)) hol ?_ ?hk1 ?hx1
    case hc1 => rfl
    case hk1 => rfl
    case hx1 => rfl
    intro olg' holg'
    have hlvl : lv.length = word.length := by have := hlv.length; simpa using this
    repeat walk_at "t"
    with_reducible refine T_isTrue_or ?_
    repeat walk_at "t"
    refine T_newList (by rw [sizeLine_eq]; simp) fun dn => ?_
    repeat walk_at "t"
    refine T_mul_int (fun t2 => ?_) (IntMulOk.of_left (by decide))
    rw [show (2 : Int) * (word.length : Int) = ((2 * word.length : Nat) : Int) by push_cast; rfl]
    refine T_mul_none (Seen.led List.mem_cons_self) (by omega) fun dm om hom => ?_
    with_reducible refine T_ne_nones (k := 2 * word.length) (n := nq) Kg (Seen.led (by walk_at "mem")) (Seen.led List.mem_cons_self) hom ?_
    repeat walk_at "t"
    with_reducible refine go_or ?_
    with_reducible refine T_isTrue_or ?_
    with_reducible refine T.less ?_ (Sub.drop (Sub.drop (Sub.refl _)))
    repeat walk_at "t"
    with_reducible refine T_ListComp (cl := []) ?hclos2 ?hcell2 ?hkind2 ?hnames2 ?_ ?hs2
    case hclos2 => rfl
    case hcell2 => decide
    case hkind2 => rfl
    case hnames2 => decide
    case hs2 => intro _; rfl
    repeat walk_at "t"
    refine T_iter_list (n := nt) (vs := tv) (Seen.led (by walk_at "mem")) fun I7 o7 hst7 => ?_
    generalize hl7 : (dLg, lo lv nLg) :: _ = l7
    have mt7 : (dt, lo tv nt) ∈ l7 := by rw [← hl7]; walk_at "mem"
    have ms7 : ∀ p ∈ l0, p ∈ l7 := by intro p hp; rw [← hl7]; simp [hp]
    refine ⟨I7, tv.length, _, _, _, o7, _, fun j ys m8 l8 => m8 = m6 ∧ IntsAre ys (((List.range j).map (szN word)).map Int.ofNat) ∧ ys.length ≤ j ∧ l8 = l7, rfl, Iter.list Kg.hand I7 dt tv nt, hst7, rfl, ⟨rfl, .nil, Nat.zero_le _, rfl⟩, ?_, by omega, ?_, ?_⟩
    · rintro j ys m8 l8 ⟨rfl, _, hl, rfl⟩
      exact ⟨Seen.led mt7, hl⟩
    · rintro j v o8 D oD mD acc na ys m8 l8 hj hv ⟨rfl, hyi, hyl, rfl⟩ hD hst8
      obtain ⟨ti, t1, t2, hti, hmi⟩ := htm j hj
      rw [hti] at hv
      obtain rfl := Option.some.inj hv
      with_reducible refine T_go_list (by walk_at "mem") hst8 ?_
      with_reducible refine T_assign_tuple2 Kg.hand (Seen.led (List.mem_cons_of_mem _ (List.mem_cons_of_mem _ (List.mem_cons_of_mem _ (ms7 _ hmi))))) ?_ ?he9
      case he9 => rfl
      with_reducible refine T_assign_Name ?_
      with_reducible refine T_compStore Rep.here hD ?_ ?hk9 ?hx9
      case hk9 => rfl
      case hx9 => rfl
      intro oD1 hD1
      with_reducible refine T_assign_Name ?_
      with_reducible refine T_compStore Rep.here hD1 ?_ ?hk10 ?hx10
      case hk10 => rfl
      case hx10 => rfl
      intro oD2 hD2
      with_reducible refine T_tests_nil ?_
      repeat walk_at "t"
      refine ⟨oD2, _, l8, hD2, .refl _, rfl, ?_, by simp; omega, rfl⟩
      rw [List.range_succ, List.map_append, List.map_append]
      exact hyi.append (.cons _ _ .nil)
    · rintro ys m8 l8 ⟨rfl, hyi, _, rfl⟩ dA nA
      rw [htl] at hyi
      rw [← hl7]
      repeat walk_at "t"
      with_reducible refine T_ne_ints (vs := ys) (n := nA) (us := lv) (k := nLg) Kg (Seen.led (by walk_at "mem")) (Seen.led (by walk_at "mem")) hyi hlv ?_
      rw [decide_eq_true rfl, Bool.not_true]
      repeat walk_at "t"
      with_reducible refine go_or ?_
      with_reducible refine T_isTrue_or_nil ?_
      repeat walk_at "t"
      with_reducible refine T.less (l' := (dLg, lo lv nLg) :: (cfw, ofw) :: (clg, olg') :: l0) ?_ (Sub.drop (Sub.refl _))
      with_reducible refine T_Assign_comp (cl := [("longest", clg)]) ?hsw ?hclos3 ?hcell3 ?hkind3 ?hnames3 ?hy ?hL ?hp ?_ ?hs3
      case hsw => rfl
      case hclos3 => rfl
      case hcell3 => decide
      case hkind3 => rfl
      case hnames3 => decide
      case hy => rfl
      case hL => rfl
      case hp => rfl
      case hs3 => intro _; rfl
      repeat walk_at "t"
      refine T_range1 fun r9 u9 u10 => ?_
      refine T_iter_range (Seen.led List.mem_cons_self) hrs5.1 (fun I9 o9 hst9 => ?_) hrs5.2
      rw [hzn5] at hst9
      generalize rng 0 _ 1 _ _ u10 = orr9
      generalize hl9 : (r9, orr9) :: _ = l9
      have mg9 : (clg, olg') ∈ l9 := by rw [← hl9]; walk_at "mem"
      have md9 : (dLg, lo lv nLg) ∈ l9 := by rw [← hl9]; walk_at "mem"
      have sub9 : Sub ((dLg, lo lv nLg) :: (cfw, ofw) :: (clg, olg') :: l0) l9 := by rw [← hl9]; walk_at "subd"
      refine ⟨I9, _, _, _, _, o9, _, fun j ys m10 l10 => m10 = m8 ∧ IntsAre ys (((List.range j).map (reachN word)).map Int.ofNat) ∧ ys.length ≤ j ∧ l10 = l9, rfl, Iter.range Kg.hand I9 0 word.length, hst9, rfl, ⟨rfl, .nil, Nat.zero_le _, rfl⟩, fun j ys m l h => ⟨trivial, h.2.2.1⟩, by omega, ?_, ?_⟩
      · rintro j v o10 D oD mD acc na ys m10 l10 hj ⟨tj, rfl⟩ ⟨rfl, hyi, hyl, rfl⟩ hD hst10
        rw [Int.zero_add]
        with_reducible refine T_go_name ?_
        with_reducible refine T_assign_Name ?_
        with_reducible refine T_compStore Rep.here hD ?_ ?hk11 ?hx11
        case hk11 => rfl
        case hx11 => rfl
        intro oD' hD'
        with_reducible refine T_tests_nil ?_
        repeat walk_at "t"
        with_reducible refine T_compBuiltin Sg hN.max.1 hN.max.2 rfl rfl ?_ ?hkr ?hxr ?hdr
        case hkr => rfl
        case hxr => rfl
        case hdr => decide
        repeat walk_at "t"
        obtain ⟨tl9, htl9⟩ := hlv.get j ((szN word j : Nat) : Int) (by simp [hj])
        refine T_item_list (x := .int (szN word j : Nat) tl9) (vs := lv) (n := nLg) (Seen.led (by walk_at "mem")) (by omega) (by omega) (by rw [Int.toNat_natCast]; exact htl9) ?_
        repeat walk_at "t"
        refine T_max2 Kg.hand fun tm9 => ?_
        repeat walk_at "t"
        refine ⟨oD', _, l10, hD', .refl _, rfl, ?_, by simp; omega, rfl⟩
        rw [List.range_succ, List.map_append, List.map_append]
        refine hyi.append ?_
        have e1 : ((j : Int) + max 1 ((szN word j : Nat) : Int)) = Int.ofNat (reachN word j) := by unfold reachN; show _ = ((j + max 1 (szN word j) : Nat) : Int); omega
        rw [e1]
        exact .cons _ _ .nil
      · rintro rv m10 l10 ⟨rfl, hrv, _, rfl⟩ dR nR
        have hR : IntsAre rv ((reachesN word).map Int.ofNat) := hrv
        have hrvl : rv.length = word.length := by have := hrv.length; simpa using this
        with_reducible refine go_next ?_
        with_reducible refine T.less ?_ (Sub.consP sub9)
        repeat walk_at "t"
        refine T_newList (by rw [sizeLine_eq]; simp) fun dF => ?_
        repeat walk_at "t"
        refine T_newList (by rw [sizeLine_eq]; simp) fun dS => ?_
        repeat walk_at "t"
        refine T_newTuple (by rw [sizeLine_eq]; simp) fun dz => ?_
        with_reducible refine T_assign_tuple2 Kg.hand (Seen.led List.mem_cons_self) ?_ ?he12
        case he12 => rfl
        with_reducible refine T.less ?_ (Sub.drop (Sub.refl _))
        with_reducible refine T_assign_Name ?_
        with_reducible refine T_storeC (d := cfw) ?hc13 (Rep.there (Rep.there (Rep.there (Rep.there Rep.here)))) hof ?_ ?hk13 ?hx13
        case hc13 => rfl
        case hk13 => rfl
        case hx13 => rfl
        intro ofw' hofw'
        with_reducible refine T_assign_Name ?_
        repeat walk_at "t"
        rename_i tF tS
        obtain ⟨Inv, hInv⟩ : ∃ I : Nat → Loc → Led → Prop, I = (fun k m l => ∃ st sv nS, m "size" = some (.int word.length tz) ∧ m "told" = some (.ref dt) ∧ m "starts" = some (.ref dS) ∧ m "reaches" = some (.ref dR) ∧ IntsAre sv (st.map Int.ofNat) ∧ Chain word st ∧ k = word.length - st.getD (st.length - 1) 0 ∧
          l = (dS, lo sv nS) :: (dF, lo [.int 0 tF]) :: (dR, lo rv nR) :: (dLg, lo lv nLg) :: (cfw, ofw') :: (clg, olg') :: l0) := ⟨_, rfl⟩
        with_reducible refine T_While Inv ?step word.length ?hstart
        case hstart =>
          rw [hInv]
          exact ⟨[0], _, _, by walk_at "loc", by walk_at "loc", by walk_at "loc", by walk_at "loc", .cons 0 _ .nil, ⟨by decide, rfl, fun i hi => by
          have : i = 0 := by simp at hi; exact hi
          subst this; exact hw0, fun i hi => by simp at hi⟩, rfl, rfl⟩
        case step =>
          clear h1 h2 h3
          intro k m13 l13 hI
          rw [hInv] at hI
          obtain ⟨st, sv, nS, h1, h2, h3, h4, hsv, hch, hk, rfl⟩ := hI
          have hst0 := hch.ne
          have hlast := hch.lt (st.length - 1) (by omega)
          have hchl := hch.len
          have hsvl : sv.length = st.length := by have := hsv.length; rwa [List.length_map] at this
          have hgd : ∀ i, (st.map Int.ofNat).getD i 0 = ((st.getD i 0 : Nat) : Int) := by
            intro i
            rw [List.getD_eq_getElem?_getD, List.getD_eq_getElem?_getD, List.getElem?_map]
            cases st[i]? <;> rfl
          have hrg : (reachesN word)[st.getD (st.length - 1) 0]? = some (reachN word (st.getD (st.length - 1) 0)) := by
            unfold reachesN
            rw [List.getElem?_map, List.getElem?_range hlast]; rfl
          obtain ⟨tr, htr⟩ := ints_get hR hrg
          repeat walk_at "t"
          with_reducible refine T_neg ?_
          repeat walk_at "t"
          refine ⟨_, _, rfl, fun tn1 => ?_⟩
          refine T_item_last (vs := sv) (n := nS) (Seen.led (by walk_at "mem")) hsv (by simpa using hst0) fun tn2 => ?_
          rw [List.length_map, hgd]
          refine T_item_list (x := .int (reachN word (st.getD (st.length - 1) 0) : Nat) tr) (vs := rv) (n := nR) (Seen.led (by walk_at "mem")) (by omega) (by omega) (by rw [Int.toNat_natCast]; exact htr) ?_
          repeat walk_at "t"
          by_cases hlt : reachN word (st.getD (st.length - 1) 0) < word.length
          · rw [decide_eq_true (by omega : ((reachN word (st.getD (st.length - 1) 0) : Nat) : Int) < (word.length : Int))]
            dsimp only
            repeat walk_at "t"
            with_reducible refine T_method_list slot_list_append ?htd (Seen.led (by walk_at "mem")) ?_
            case htd => rfl
            repeat walk_at "t"
            with_reducible refine T_neg ?_
            repeat walk_at "t"
            refine ⟨_, _, rfl, fun tn3 => ?_⟩
            refine T_item_last (vs := sv) (n := nS) (Seen.led (by walk_at "mem")) hsv (by simpa using hst0) fun tn4 => ?_
            rw [List.length_map, hgd]
            refine T_item_list (x := .int (reachN word (st.getD (st.length - 1) 0) : Nat) tr) (vs := rv) (n := nR) (Seen.led (by walk_at "mem")) (by omega) (by omega) (by rw [Int.toNat_natCast]; exact htr) ?_
            repeat walk_at "t"
            refine T_append (vs := sv) (n := nS) Rep.here (by rw [sizeLine_eq]; omega) ⟨rfl, ?_⟩
            repeat walk_at "t"
            have hgt := reach_gt (w := word) (st.getD (st.length - 1) 0)
            refine go_turn ⟨word.length - (st ++ [reachN word (st.getD (st.length - 1) 0)]).getD ((st ++ [reachN word (st.getD (st.length - 1) 0)]).length - 1) 0, ?_, _, .refl _, ?_⟩
            · rw [List.length_append, List.length_singleton, Nat.add_sub_cancel, getD_end]
              omega
            · rw [hInv]
              refine ⟨st ++ [reachN word (st.getD (st.length - 1) 0)], _, _, h1, h2, h3, h4, ?_, hch.snoc hlt, rfl, rfl⟩
              rw [List.map_append]
              exact hsv.append (.cons _ _ .nil)
          · rw [decide_eq_false (by omega : ¬ ((reachN word (st.getD (st.length - 1) 0) : Nat) : Int) < (word.length : Int))]
            dsimp only
            with_reducible refine go_next ?_
            have key : ∀ rest, rest = (fBody 26).drop 12 → T C (execs rest (envX "law" (fScope 26) C.L f cdv (lawCl cfw clg cwd cfi csc))) m13 ((dF, lo [.int 0 tF]) :: (dS, lo sv nS) :: (dR, lo rv nR) :: (cfw, ofw') :: (clg, olg') :: l0) (fun fl _ l1 => ∃ lq, Sub lq l1 ∧ Q (retOf fl) mq lq) := by
              intro rest e
              subst e
              have kp : ∀ p ∈ l0, p ∈ (dS, lo sv nS) :: (dR, lo rv nR) :: (cfw, ofw') :: (clg, olg') :: l0 := fun p hp => by simp [hp]
              exact lawC Kg B hsys hw hw0 hwc (dfw := dF) (dt := dt) (dS := dS) (dR := dR) (starts := st) rfl (kp _ mwd) hwd (by walk_at "mem") hofw' (kp _ mt) htl (fun i hi => let ⟨a, b, c, d, e⟩ := htm i hi; ⟨a, b, c, d, kp _ e⟩) (by walk_at "mem") hsv (by omega) (by walk_at "mem") hR (hch.pieces (by omega)) (hch.greedy (by omega)) h1 h2 h3 h4 (.drop (.drop (.drop (.drop hsub)))) h
            with_reducible refine T.less (l' := (dF, lo [.int 0 tF]) :: (dS, lo sv nS) :: (dR, lo rv nR) :: (cfw, ofw') :: (clg, olg') :: l0) ?_ ?hsubL
            case hsubL => walk_at "sub"
            with_reducible refine key _ ?_
            kernel_rfl
end Mine
end

section
open PySem PySem.W PySem.Calls PyProof.Rows
set_option Elab.async false
set_option maxRecDepth 100000
set_option linter.unusedVariables false
set_option linter.unusedSimpArgs false
namespace Mine
variable {C : Cx} {α β : Type} {m : Loc} {l : Led} {mg mb : Loc}

set_option maxHeartbeats 1000000 in
theorem lawBody {outer : List Env} {r : Nat} {f : Addr} {cdv : Value} {cl : List (Str × Addr)} (hcl : cl = cellsFrom (C.L + 1) (fScope 26).names []) (Kg : Act C (envX "law" (fScope 26) C.L f cdv cl) outer (r + 4)) (B : Lib C.prog C.w C.h₀ mg mb) (D1 : TabD B.d21) (D2 : TabD B.d22) (hsys' : ∃ o, C.h₀.get? sysModules = some o)
    {sa : Addr} {sv : List Value} {ns : Nat} {zs : List Int} {R : Led} (ssa : Seen C ((D2.P, tabObj #[]) :: (D1.P, tabObj #[]) :: R) sa (lo sv ns)) (hi : IntsAre sv zs) (hzl : zs.length ≤ 63) {cells' : Led} (Y : CellsAre (bindC (fun x => (fScope 26).names.lookup x) [("script", .ref sa)] fun _ => none) cl cells')
    {Q : Value → Loc → Led → Prop} (h : ∀ ps1 ps2 R', Q (.bool true) m ((D2.P, tabObj ps2) :: (D1.P, tabObj ps1) :: R')) {m1 : Loc} :
    T C (execs (fBody 26) (envX "law" (fScope 26) C.L f cdv cl)) m1 (cells' ++ (D2.P, tabObj #[]) :: (D1.P, tabObj #[]) :: R) (fun fl _ l1 => Q (retOf fl) m l1) := by
    obtain rfl : cl = [(("fewest" : Str), C.L + 1 + 1 + 1 + 1 + 1), (("longest" : Str), C.L + 1 + 1 + 1 + 1), (("word" : Str), C.L + 1 + 1 + 1), (("firsts" : Str), C.L + 1 + 1), (("script" : Str), C.L + 1)] := by rw [hcl]; kernel_rfl
    clear hcl
    with_reducible refine T.gen fun m0 hm0 => ?_
    clear hm0
    generalize C.L + 1 + 1 + 1 + 1 + 1 = cfw at *
    generalize C.L + 1 + 1 + 1 + 1 = clg at *
    generalize C.L + 1 + 1 + 1 = cwd at *
    generalize C.L + 1 + 1 = cfi at *
    generalize C.L + 1 = csc at *
    have kg : ∀ b o, C.h₀.get? b = some o → C.h₀.get? b = some o := fun _ _ e => e
    have Sg := B.S
    obtain ⟨ofw, olg, owd, ofi, osc, rfl, hofw, holg, howd, hofi, hosc⟩ := CellsAre.five Y
    have hosc : osc.data = .cell (some (.ref sa)) := by rw [hosc]; kernel_rfl
    clear Y
    have hN := B.N
    have g17 := B.d17.g
    have g18 := B.d18.g
    have g22 := B.d22.g
    with_reducible refine T.dropE ?_
    rw [List.cons_append, List.cons_append, List.cons_append, List.cons_append, List.cons_append, List.nil_append]
    conv in fBody 26 => whnf
    with_reducible refine T_cons ?_
    walk_at "t"
    with_reducible refine T_intList [1537, 3, 5121, 10243, 3584, 13319, 7694] ?hlf (by decide) fun dF vF hvF => ?_
    case hlf => rfl
    with_reducible refine T_storeC (d := cfi) ?hc1 (Rep.there (Rep.there (Rep.there (Rep.there Rep.here)))) hofi ?_ ?hk1 ?hx1
    case hc1 => rfl
    case hk1 => rfl
    case hx1 => rfl
    intro ofi' hofi'
    repeat walk_at "t"
    with_reducible refine T_Assign_comp (cl := [("script", csc), ("firsts", cfi)]) ?hsw ?hclos ?hcell ?hkind ?hnames ?hy ?hL ?hp ?_ ?hs3
    case hsw => rfl
    case hclos => rfl
    case hcell => decide
    case hkind => rfl
    case hnames => decide
    case hy => rfl
    case hL => rfl
    case hp => rfl
    case hs3 => intro _; rfl
    repeat walk_at "t"
    refine T_range1 fun r5 u5 u6 => ?_
    have hrs5 := range_small (a := 0) (b := 7) (by omega) (by omega) (by omega) (by omega)
    refine T_iter_range (Seen.led List.mem_cons_self) hrs5.1 (fun I5 o5 hst5 => ?_) hrs5.2
    generalize rng 0 _ 1 _ _ u6 = orr5
    have sub5 : Sub ((cfw, ofw) :: (clg, olg) :: (cwd, owd) :: (D2.P, tabObj #[]) :: (D1.P, tabObj #[]) :: R) ((r5, orr5) :: (dF, lo vF) :: (cfw, ofw) :: (clg, olg) :: (cwd, owd) :: (cfi, ofi') :: (csc, osc) :: (D2.P, tabObj #[]) :: (D1.P, tabObj #[]) :: R) := by walk_at "sub"
    have ssa5 := ssa.cons (p := (csc, osc)) |>.cons (p := (cfi, ofi')) |>.cons (p := (cwd, owd)) |>.cons (p := (clg, olg)) |>.cons (p := (cfw, ofw)) |>.cons (p := (dF, lo vF)) |>.cons (p := (r5, orr5))
    generalize hl5 : (r5, orr5) :: _ = l5 at *
    have mc5 : (cfi, ofi') ∈ l5 := by rw [← hl5]; walk_at "mem"
    have ms5 : (csc, osc) ∈ l5 := by rw [← hl5]; walk_at "mem"
    have mF5 : (dF, lo vF) ∈ l5 := by rw [← hl5]; walk_at "mem"
    refine ⟨I5, _, _, _, _, o5, _, fun j ys m6 l6 => m6 = m0 ∧ (∃ cs : List Nat, IntsAre ys (cs.map Int.ofNat) ∧ cs.length = j ∧ ∀ c ∈ cs, c < 1000000) ∧ ys.length ≤ j ∧ l6 = l5, rfl, Iter.range Kg.hand I5 0 7, hst5, rfl, ⟨rfl, ⟨[], .nil, rfl, fun c hc => by cases hc⟩, Nat.zero_le _, rfl⟩, fun j ys m l h => ⟨trivial, h.2.2.1⟩, by omega, ?_, ?_⟩
    · rintro j v o6 D oD mD acc na ys m6 l6 hj ⟨tj, rfl⟩ ⟨rfl, ⟨cs, hcs, hcl, hcb⟩, hyl, rfl⟩ hD hst6
      rw [Int.zero_add]
      with_reducible refine T_go_name ?_
      with_reducible refine T_assign_Name ?_
      with_reducible refine T_compStore Rep.here hD ?_ ?hk6 ?hx6
      case hk6 => rfl
      case hx6 => rfl
      intro oD' hD'
      with_reducible refine T_tests_nil ?_
      repeat walk_at "t"
      obtain ⟨zf, hzf⟩ : ∃ z, ([1537, 3, 5121, 10243, 3584, 13319, 7694] : List Int)[j]? = some z := ⟨_, List.getElem?_eq_getElem (show j < 7 from hj)⟩
      obtain ⟨tf, htf⟩ := ints_getI hvF hzf
      refine T_item_list (x := .int zf tf) (vs := vF) (n := 0) (Seen.led (by walk_at "mem")) (by omega) (by omega) (by rw [Int.toNat_natCast]; exact htf) ?_
      repeat walk_at "t"
      with_reducible refine T_compBuiltin Sg hN.sum.1 hN.sum.2 rfl rfl ?_ ?hkr ?hxr ?hdr
      case hkr => rfl
      case hxr => rfl
      case hdr => decide
      repeat walk_at "t"
      with_reducible refine T_slice_step ?_ ?htg ?hsb
      case htg => intro _ _; rfl
      case hsb => intro _ _; rfl
      repeat walk_at "t"
      refine ⟨sa, sv, ns, _, _, _, _, rfl, ssa5.cons.cons.cons, rfl, rfl, by decide, by rw [hi.length]; omega, fun dsl => ?_⟩
      repeat walk_at "t"
      refine T_sumL Kg.hand (Seen.led List.mem_cons_self) (hi.pick (some (j : Int)) none (some 7)) fun tsm => ?_
      repeat walk_at "t"
      have hm0 : 0 ≤ Int.fmod (zf + (pickNums zs (some (j : Int)) none (some 7)).sum) 1000000 := by rw [Int.fmod_eq_emod_of_nonneg _ (by decide)]; exact Int.emod_nonneg _ (by decide)
      have hm1 : Int.fmod (zf + (pickNums zs (some (j : Int)) none (some 7)).sum) 1000000 < 1000000 := by rw [Int.fmod_eq_emod_of_nonneg _ (by decide)]; exact Int.emod_lt_of_pos _ (by decide)
      generalize Int.fmod (zf + (pickNums zs (some (j : Int)) none (some 7)).sum) 1000000 = z at *
      refine ⟨oD', _, l6, hD', .drop (.refl _), rfl, ⟨cs ++ [z.toNat], ?_, by rw [List.length_append, hcl]; rfl, ?_⟩, by simp; omega, rfl⟩
      · rw [List.map_append]
        refine hcs.append ?_
        have : z = Int.ofNat z.toNat := (Int.toNat_of_nonneg hm0).symm
        rw [List.map_cons, ← this]
        exact .cons _ _ .nil
      · intro c hc
        rcases List.mem_append.mp hc with hc | hc
        · exact hcb c hc
        · rw [List.mem_singleton] at hc; omega
    · rintro cv m6 l6 ⟨rfl, ⟨cs, hcs, hcl, hcb⟩, _, rfl⟩ dC nC
      with_reducible refine go_next ?_
      with_reducible refine T.less ?_ (Sub.consP sub5)
      repeat walk_at "t"
      with_reducible refine T_callWith_def B.d17.data ?_ ?hef
      case hef => rfl
      repeat walk_at "t"
      refine ⟨Seen.base B.d17.get, ?_⟩
      with_reducible refine typedT (cells := cs) (cv := cv) (nc := nC) Kg B hsys' hcb ?h7 (Seen.led List.mem_cons_self) hcs ?_
      case h7 => omega
      intro dty t1 t2
      with_reducible refine T_assign_tuple2 Kg.hand (Seen.led List.mem_cons_self) ?_ ?he3
      case he3 => rfl
      with_reducible refine T.less ?_ (Sub.drop (Sub.drop (Sub.refl _)))
      with_reducible refine T_assign_Name ?_
      repeat walk_at "t"
      with_reducible refine T_assign_Name ?_
      repeat walk_at "t"
      with_reducible refine T_callWith_def B.d18.data ?_ ?heg
      case heg => rfl
      repeat walk_at "t"
      refine ⟨Seen.base B.d18.get, ?_⟩
      have hml := meantL_len cs
      have htyl := typedL_len cs
      have hwc := meant_ok cs
      with_reducible refine prepared (x := typedL cs) Kg B ?hx100 ?_
      case hx100 => omega
      intro tw
      rw [prep_typed]
      generalize meantL cs = word at *
      with_reducible refine T_storeC (d := cwd) ?hc2 (Rep.there (Rep.there Rep.here)) howd ?_ ?hk2 ?hx2
      case hc2 => rfl
      case hk2 => rfl
      case hx2 => rfl
      intro owd' howd'
      repeat walk_at "t"
      refine T_ne_str ?_
      rw [show (ofL word != ofL word) = false by simp]
      repeat walk_at "t"
      refine T_len_str (by omega) fun tz => ?_
      repeat walk_at "t"
      with_reducible refine T_callWith_def B.d22.data ?_ ?heh
      case heh => rfl
      repeat walk_at "t"
      refine ⟨Seen.base B.d22.get, ?_⟩
      with_reducible refine T.less (l' := (D2.P, tabObj #[]) :: (D1.P, tabObj #[]) :: (cfw, ofw) :: (clg, olg) :: (cwd, owd') :: R) ?_ ?hsb2
      case hsb2 => walk_at "sub"
      with_reducible refine neighbours (ps1 := #[]) (ps2 := #[]) (R := (cfw, ofw) :: (clg, olg) :: (cwd, owd') :: R) Kg B D1 D2 (TabOk.nil _ _) (TabOk.nil _ _) (by omega) rfl ?_
      intro d dt dq tv nt nq ps1' ps2' R' _ _ _ htold htl
      obtain ⟨Tt, rfl, htm⟩ := htold
      with_reducible refine T_assign_tuple2 Kg.hand (Seen.led List.mem_cons_self) ?_ ?he4
      case he4 => rfl
      with_reducible refine T_assign_Name ?_
      repeat walk_at "t"
      with_reducible refine T_assign_Name ?_
      walk_at "t"
      with_reducible refine go_next ?_
      with_reducible refine T.gen fun m7 hm7 => ?_
      have q1 : m7 "size" = some (.int word.length tz) := by rw [hm7]; walk_at "loc"
      have q2 : m7 "told" = some (.ref dt) := by rw [hm7]; walk_at "loc"
      have q3 : m7 "quiet" = some (.ref dq) := by rw [hm7]; walk_at "loc"
      clear hm7
      have key : ∀ rest, rest = (fBody 26).drop 7 → Mine.T C (execs rest (envX "law" (fScope 26) C.L f cdv (lawCl cfw clg cwd cfi csc))) m7
          ((cfw, ofw) :: (clg, olg) :: (cwd, owd') :: (d, tup [.ref dt, .ref dq]) :: (dt, lo tv nt) :: (dq, lo (List.replicate (2 * word.length) Value.none) nq) :: (D2.P, tabObj ps2') :: (D1.P, tabObj ps1') :: (Tt ++ R)) (fun fl _ l1 => ∃ lq, Sub lq l1 ∧ Q (retOf fl) m lq) := by
        intro rest e
        subst e
        exact lawB (C := C) (R0 := (D2.P, tabObj ps2') :: (D1.P, tabObj ps1') :: (Tt ++ R)) Kg B hsys' (by omega) (by omega) hwc rfl hofw holg (by walk_at "mem") howd' (by walk_at "mem") htl
          (fun i hi => let ⟨a, b, c, d, e⟩ := htm i hi; ⟨a, b, c, d, List.mem_cons_of_mem _ (List.mem_cons_of_mem _ (List.mem_cons_of_mem _ (List.mem_cons_of_mem _ (List.mem_cons_of_mem _ (List.mem_cons_of_mem _ (List.mem_append_left _ e))))))⟩) (by walk_at "mem") q1 q2 q3 (.drop (.drop (.drop (.drop (.refl _))))) (h ps1' ps2' (Tt ++ R))
      have hfr : Sub ((cfw, ofw) :: (clg, olg) :: (cwd, owd') :: (d, tup [.ref dt, .ref dq]) :: (dt, lo tv nt) :: (dq, lo (List.replicate (2 * word.length) Value.none) nq) :: (D2.P, tabObj ps2') :: (D1.P, tabObj ps1') :: (Tt ++ R))
          ((d, tup [.ref dt, .ref dq]) :: (dt, lo tv nt) :: (dq, lo (List.replicate (2 * word.length) Value.none) nq) :: (D2.P, tabObj ps2') :: (D1.P, tabObj ps1') :: (Tt ++ (cfw, ofw) :: (clg, olg) :: (cwd, owd') :: R)) :=
        Sub.front [(cfw, ofw), (clg, olg), (cwd, owd')] [(d, tup [.ref dt, .ref dq]), (dt, lo tv nt), (dq, lo (List.replicate (2 * word.length) Value.none) nq), (D2.P, tabObj ps2'), (D1.P, tabObj ps1')] Tt R
      with_reducible refine T.less ?_ hfr
      with_reducible refine key _ ?_
      kernel_rfl
end Mine
end

section
open PySem PySem.W PySem.Calls PyProof.Rows
set_option Elab.async false
set_option maxRecDepth 100000
set_option linter.unusedVariables false
set_option linter.unusedSimpArgs false
namespace Mine
variable {mg mb : Loc}

/-- a function of the text, out of what the top left -/
def FnAt (m : Loc) (l : Led) (i : Nat) (a : Addr) (fo : Obj) (c' : Addr) (oc' : Obj) (P' : Addr) (oP' : Obj) (doc pm : Value) : Prop :=
  m (sName i) = some (.ref a) ∧ (a, fo) ∈ l ∧ fo = { cls := .type "function", data := .func (fnX (sName i) (sName i) (fParams i) (fBody i) (fScope i) [] .none .none doc pm none (.ref c') .none) } ∧
    (c', oc') ∈ l ∧ RecO c' (sName i) oc' ∧ (P', oP') ∈ l ∧ CodeO c' P' #[] oc' oP' ∧ TabO c' P' #[] oc' oP'
theorem fnAt_of {m : Loc} {l : Led} {i : Nat} (h : FnAny m l i noD) : ∃ a fo c' oc' P' oP' doc pm, FnAt m l i a fo c' oc' P' oP' doc pm := by
  obtain ⟨a, fo, c', oc', P', oP', doc, pm, dV, kV, h1, h2, h3, h4, h5, h6, h7, h8, rfl, rfl⟩ := h
  exact ⟨a, fo, c', oc', P', oP', doc, pm, h1, h2, h3, h4, h5, h6, h7, h8⟩
theorem fnAt_tab {H : Heap} {m : Loc} {l : Led} {i : Nat} {a : Addr} {fo : Obj} {c' : Addr} {oc' : Obj} {P' : Addr} {oP' : Obj} {doc pm : Value} (h : FnAt m l i a fo c' oc' P' oP' doc pm) (hH : ∀ p ∈ l, H.get? p.1 = some p.2) : H.get? P' = some (tabObj #[]) ∧ isCodeTable H P' := by
  obtain ⟨h1, h2, h3, h4, h5, h6, h7, h8⟩ := h
  have gc : H.get? c' = some oc' := hH _ h4
  have gP : H.get? P' = some oP' := hH _ h6
  have tab := h8 H gc gP
  exact ⟨tab.2, tab.isCodeTable⟩
theorem def_mk {g H : Heap} {m : Loc} {l : Led} {i : Nat} {name : Str} (hnm : sName i = name) {a : Addr} {fo : Obj} {c' : Addr} {oc' : Obj} {P' : Addr} {oP' : Obj} {doc pm : Value} (h : FnAt m l i a fo c' oc' P' oP' doc pm) (hH : ∀ p ∈ l, H.get? p.1 = some p.2) (hg : ∀ b o, H.get? b = some o → o ≠ tabObj #[] → g.get? b = some o) :
    ∃ (d : Def g m i name .none .none), d.f = a ∧ d.fo = fo ∧ d.cdv = .ref c' ∧ CodeHd g c' P' := by
  subst hnm
  obtain ⟨h1, h2, h3, h4, h5, h6, h7, h8⟩ := h
  have gc : H.get? c' = some oc' := hH _ h4
  have gP : H.get? P' = some oP' := hH _ h6
  have ga : H.get? a = some fo := hH _ h2
  have tab := h8 H gc gP
  obtain ⟨o, vs, file, tf, flags, tg, inF, text, tt, e1, e2, r⟩ := CodeHd.of (h7 H gc gP) tab
  have ec : oc' = o := Option.some.inj (gc.symm.trans e1)
  subst ec
  have gc' := hg _ _ gc (fun e => by rw [e] at e2; cases e2)
  exact ⟨{ f := a, fo := fo, doc := doc, pm := pm, an := none, cdv := .ref c', ct := .none, g := h1, get := hg _ _ ga (fun e => by rw [h3] at e; cases e), data := by rw [h3], code := h5 g gc' }, rfl, rfl, rfl,
    ⟨oc', vs, file, tf, flags, tg, inF, text, tt, gc', e2, r⟩⟩
theorem def_of {g H : Heap} {m : Loc} {l : Led} {i : Nat} {name : Str} (hnm : sName i = name) (h : FnAny m l i noD) (hH : ∀ p ∈ l, H.get? p.1 = some p.2) (hg : ∀ b o, H.get? b = some o → o ≠ tabObj #[] → g.get? b = some o) :
    Nonempty (Def g m i name .none .none) := by
  obtain ⟨a, fo, c', oc', P', oP', doc, pm, h⟩ := fnAt_of h
  obtain ⟨d, _⟩ := def_mk hnm h hH hg
  exact ⟨d⟩
theorem defK_of {g H : Heap} {m : Loc} {l : Led} {i : Nat} {name : Str} (hnm : sName i = name) (h : FnAny m l i keyD) (hH : ∀ p ∈ l, H.get? p.1 = some p.2) (hg : ∀ b o, H.get? b = some o → o ≠ tabObj #[] → g.get? b = some o) : Nonempty (DefK g m i name) := by
  subst hnm
  obtain ⟨a, fo, c', oc', P', oP', doc, pm, dV, kV, h1, h2, h3, h4, h5, h6, h7, h8, T1, t0, K1, oK, mk, rfl, rfl, k1, k2, k3, k4⟩ := h
  have gc : H.get? c' = some oc' := hH _ h4
  have gP : H.get? P' = some oP' := hH _ h6
  have ga : H.get? a = some fo := hH _ h2
  have tab := h8 H gc gP
  obtain ⟨o, vs, file, tf, flags, tg, inF, text, tt, e1, e2, r⟩ := CodeHd.of (h7 H gc gP) tab
  have ec : oc' = o := Option.some.inj (gc.symm.trans e1)
  subst ec
  have gc' := hg _ _ gc (fun e => by rw [e] at e2; cases e2)
  have gT : H.get? T1 = some _ := hH _ k1
  have gK : H.get? K1 = some oK := hH _ k2
  refine ⟨⟨T1, K1, t0, mk, { f := a, fo := fo, doc := doc, pm := pm, an := none, cdv := .ref c', ct := .none, g := h1, get := hg _ _ ga (fun e => by rw [h3] at e; cases e), data := by rw [h3], code := h5 g gc' }, hg _ _ gT (fun e => by cases e), k3.ns (hg _ _ gK (fun e => ?_)), k4⟩⟩
  obtain ⟨es, ep, hd, _⟩ := k3
  rw [e] at hd; cases hd
theorem fact_key {prog : Program} {w : World} {m : Loc} {l : Led} {i : Nat} (h : Fact prog w m l i) (hi : (!nameStm i && !(i == 5) && !(i == 7) && decide (i ≤ 3)) = true) : FnAny m l i keyD := by
  unfold Fact at h
  simp only [Bool.and_eq_true, Bool.not_eq_true', beq_eq_false_iff_ne, decide_eq_true_eq] at hi
  rw [if_neg (by rw [hi.1.1.1]; exact Bool.false_ne_true), if_neg hi.1.1.2, if_neg hi.1.2, if_pos hi.2] at h
  exact h
theorem not_names : ∀ x ∈ (["len", "range", "max", "min", "sum", "chr", "ord", "list"] : List Str), ∀ i < 27, x ≠ sName i := by decide +kernel
theorem m00_len (P : Params) : m00 P "len" = none := by kernel_rfl
theorem m00_max (P : Params) : m00 P "max" = none := by kernel_rfl
theorem m00_min (P : Params) : m00 P "min" = none := by kernel_rfl
theorem m00_sum (P : Params) : m00 P "sum" = none := by kernel_rfl
theorem m00_chr (P : Params) : m00 P "chr" = none := by kernel_rfl
theorem m00_ord (P : Params) : m00 P "ord" = none := by kernel_rfl
theorem mb0_len (P : Params) : mb0 P "len" = some (.builtin "len") := by kernel_rfl
theorem mb0_max (P : Params) : mb0 P "max" = some (.builtin "max") := by kernel_rfl
theorem mb0_min (P : Params) : mb0 P "min" = some (.builtin "min") := by kernel_rfl
theorem mb0_sum (P : Params) : mb0 P "sum" = some (.builtin "sum") := by kernel_rfl
theorem mb0_chr (P : Params) : mb0 P "chr" = some (.builtin "chr") := by kernel_rfl
theorem mb0_ord (P : Params) : mb0 P "ord" = some (.builtin "ord") := by kernel_rfl
theorem isNs2 (P : Params) : (base0 P).isNs cStatics = true := by kernel_rfl
theorem noLimit0 (P : Params) : (base0 P).NoLimit := ⟨_, Heap.Ns.of_isNs (isNs2 P), by kernel_rfl⟩
theorem sys0 (P : Params) : ∃ o, (base0 P).get? sysModules = some o := ⟨_, rfl⟩
end Mine
end

section
open PySem PySem.W PySem.Calls PyProof.Rows
set_option Elab.async false
set_option maxRecDepth 100000
set_option linter.unusedVariables false
namespace Mine
abbrev row := PySem.Challenge.rw_uk0022_01.row

theorem lay_ints {R : WRecords} {cl : Str → Option Addr} {P : Params} {ord : List DictEntry → List DictEntry} : ∀ (zs : List Int) (s : Shared), ∃ ivs tk, layAllW R cl P ord (zs.map WData.int) s = some (ivs, { s with toks := tk }) ∧ IntsAre ivs zs
  | [], s => ⟨[], s.toks, by simp [layAllW], .nil⟩
  | z :: r, s => by
    obtain ⟨ivs, tk, h1, h2⟩ := lay_ints (R := R) (cl := cl) (P := P) (ord := ord) r { s with toks := s.toks + 1 }
    exact ⟨.int z s.toks :: ivs, tk, by simp [layAllW, layW, h1], .cons _ _ h2⟩
theorem lay_list {R : WRecords} {cl : Str → Option Addr} {P : Params} {ord : List DictEntry → List DictEntry} (zs : List Int) (s : Shared) :
    ∃ ivs tk, layAllW R cl P ord [.list (zs.map WData.int)] s = some ([.ref s.heap.objs.size], { s with heap := s.heap.push { cls := .type "list", data := .seq ivs.toArray }, toks := tk }) ∧ IntsAre ivs zs := by
  obtain ⟨ivs, tk, h1, h2⟩ := lay_ints (R := R) (cl := cl) (P := P) (ord := ord) zs s
  exact ⟨ivs, tk, by simp [layAllW, layW, h1], h2⟩

theorem has_int {R : WRecords} {d : WData} (h : WShape.has R d .int = true) : ∃ i, d = .int i := by
  cases d <;> simp [WShape.has, WShape.arms] at h
  exact ⟨_, rfl⟩
theorem has_items {R : WRecords} : ∀ {xs : List WData}, WShape.hasItems R xs .int = true → ∃ zs : List Int, xs = zs.map WData.int
  | [], _ => ⟨[], rfl⟩
  | x :: r, h => by
    simp only [WShape.hasItems, Bool.and_eq_true] at h
    obtain ⟨i, rfl⟩ := has_int h.1
    obtain ⟨zs, rfl⟩ := has_items h.2
    exact ⟨i :: zs, rfl⟩
theorem has_list {R : WRecords} {d : WData} (h : WShape.has R d (.list .int) = true) : ∃ zs : List Int, d = .list (zs.map WData.int) := by
  cases d <;> simp [WShape.has, WShape.arms] at h
  obtain ⟨zs, rfl⟩ := has_items h
  exact ⟨zs, rfl⟩
theorem pre_of {args : List WData} (h : row.toRowW.claim.pre args = true) : ∃ zs : List Int, args = [.list (zs.map WData.int)] ∧ zs.length ≤ 63 := by
  obtain ⟨h1, h2⟩ := pre_splitW h
  obtain ⟨d, r, rfl, h3, h4⟩ := hasAllW_cons (e := .list .int) (es := []) h1
  obtain ⟨zs, rfl⟩ := has_list h3
  have : r = [] := by
    cases r with
    | nil => rfl
    | cons x y => simp [WShape.hasAll] at h4
  subst this
  refine ⟨zs, rfl, ?_⟩
  show zs.length ≤ 63
  refine Nat.le_of_not_lt fun hlt => ?_
  have h5 : WTm.holds row.records row.pre { args := [.list (zs.map WData.int)] } = true := h2
  unfold WTm.holds at h5
  have hp : row.pre = .and (.not (.lt (.lit (.int 63)) (.len (.arg 0)))) (.lit (.bool true)) := rfl
  rw [hp] at h5
  have hi : ((63 : Int) < ((zs.map WData.int).length : Int)) := by rw [List.length_map]; omega
  simp [WTm.value] at h5
  have hl : less? (.int 63) (.int (zs.length : Int)) = some true := by
    show some (decide ((63 : Int) < (zs.length : Int))) = some true
    rw [decide_eq_true (by omega)]
  rw [hl] at h5
  simp at h5
theorem promisedX : row.toRowW.promised := by
  refine ⟨[.list []], ?_⟩
  decide +kernel
theorem bareX : PySem.Challenge.pw_uk0022_01.bare := ⟨rfl, rfl, rfl, rfl, rfl, by decide +kernel⟩
theorem opensX : opensWell PySem.Challenge.pw_uk0022_01 = true := by decide +kernel
end Mine
end

section
open PySem PySem.W PySem.Calls PyProof.Rows
set_option Elab.async false
set_option maxRecDepth 100000
set_option linter.unusedVariables false
set_option linter.unusedSimpArgs false
namespace Mine
variable {mg mb : Loc}

/-- the caller's call of a function of the text, some objects of the heap being known to change -/
theorem topCall {w : World} {s : Shared} {news : Led} (hn : ∀ p ∈ news, s.heap.get? p.1 = some p.2) (hnd : (news.map (·.1)).Nodup) (hlim : s.heap.NoLimit) {f : Addr} {fo : Obj} {name qual : Str} {params : Arguments} {body : List Stmt} {scope : Scope} {dV kV doc pm cdv ct : Value} {an : Option Addr}
    (ho : s.heap.get? f = some fo) (hd : fo.data = .func (fnX name qual params body scope [] dV kV doc pm an cdv ct)) (hcd : s.heap.CodeRec cdv qual) {pos : List Value} {binds : List (Str × Value)} (hbind : BindsTo s (fnX name qual params body scope [] dV kV doc pm an cdv ct) ⟨pos, []⟩ binds)
    (hkind : (binds.all fun y => scope.names.lookup y.1 == some .local || scope.names.lookup y.1 == some .cell) = true) (hnd2 : ((cellsFrom 0 scope.names []).map (·.1)).Nodup) {Q : Value → Loc → Led → Prop} {P : Value → Shared → Prop} {E : Value → Shared → Prop}
    (h : ∀ L' cl cells, cl = cellsFrom (L' + 1) scope.names [] → Act ⟨pw, w, callerA.deeper (envX qual scope L' f cdv cl), hideAll s.heap (news.map (·.1)), L'⟩ (envX qual scope L' f cdv cl) [] 100 → CellsAre (bindC (fun x => scope.names.lookup x) binds fun _ => none) cl cells →
      T ⟨pw, w, callerA.deeper (envX qual scope L' f cdv cl), hideAll s.heap (news.map (·.1)), L'⟩ (execs body (envX qual scope L' f cdv cl)) (bindL (fun x => scope.names.lookup x) binds fun _ => none) (cells ++ news) (fun fl _ l1 => Q (retOf fl) (fun _ => none) l1))
    (hP : ∀ v h' tk l', Q v (fun _ => none) l' → (∀ b o, (hideAll s.heap (news.map (·.1))).get? b = some o → h'.get? b = some o) → (∀ p ∈ l', h'.get? p.1 = some p.2) → P v { s with heap := h', toks := tk })
    (hco : scope.isCoroutine = false) (hgen : scope.isGenerator = false) (hk : scope.kind = .function) : wpAny (model pw w) callerA (call (.ref f) pos) P E s := by
  refine wpAny_call ?_
  refine codeAny_call_function (by show 301 < _; decide) ho hd hco hgen rfl hcd (hbind _ _ _ _ ?_)
  refine wpAny_newFunctionEnv_cells hk (kindsX hkind _) fun env' he s' x => ?_
  subst he
  refine ⟨hlim.keeps x.toInCall.keep, codeAny_func ?_⟩
  obtain ⟨h₁, tk, rfl, _⟩ := x.done
  have hk₁ := x.toInCall.keep
  obtain ⟨cells, NC, Y⟩ := Cl.news (h₀ := s.heap) (Nat.le_refl _) fun n c hm => ⟨x.cell n c (lookup_of_mem_nodup (cellsFrom_names scope.names 0 (s.heap.objs.size + 1) [] [] rfl ▸ hnd2) hm), x.above n c hm⟩
  have K : Act ⟨pw, w, callerA.deeper (envX qual scope s.heap.objs.size f cdv (cellsFrom (s.heap.objs.size + 1) scope.names [])), hideAll s.heap (news.map (·.1)), s.heap.objs.size⟩ (envX qual scope s.heap.objs.size f cdv (cellsFrom (s.heap.objs.size + 1) scope.names [])) [] 100 :=
    ⟨⟨callerA, _, below_caller _⟩, rfl, rfl, hk, rfl, by show 302 + 100 ≤ 900; decide, by show 7 + 3 * 100 ≤ 5000; decide⟩
  have ns := x.toInCall.ns
  refine h s.heap.objs.size _ cells rfl K Y { s with heap := h₁, toks := tk } _ _ ⟨⟨ns, fun b o e => hk₁ b o (of_hideAll _ e), Nat.le_of_eq (hideAll_size _ _)⟩, fun p hp => ?_, ?_⟩ ?_
  · rcases List.mem_append.mp hp with hp | hp
    · refine ⟨(NC p hp).1, (NC p hp).2.1, ?_⟩
      cases q : (hideAll s.heap (news.map (·.1))).get? p.1 with
      | none => rfl
      | some o => have := of_hideAll _ q; rw [(NC p hp).2.2] at this; cases this
    · exact ⟨hk₁ _ _ (hn p hp), Nat.ne_of_lt (Heap.lt_size (hn p hp)), hideAll_none _ (List.mem_map_of_mem hp)⟩
  · have ca := cellsFrom_addrs scope.names (s.heap.objs.size + 1) [] List.nodup_nil (fun _ h => nomatch h)
    rw [List.map_append, cells_map Y]
    refine List.nodup_append.mpr ⟨ca.1, hnd, fun a ha b hb e => ?_⟩
    obtain ⟨p, hp, rfl⟩ := List.mem_map.mp ha
    obtain ⟨q, hq, rfl⟩ := List.mem_map.mp hb
    have h1 := (ca.2 p hp).resolve_left List.not_mem_nil
    have h2 := Heap.lt_size (hn q hq)
    have e' : p.2 = q.1 := e
    rw [← e'] at h2
    exact absurd (Nat.lt_of_lt_of_le h2 (Nat.le_of_succ_le h1)) (Nat.lt_irrefl _)
  · intro fl h' tk' m' l' q O'
    exact hP _ h' tk' l' q O'.fr.keep (fun p hp => (O'.nw p hp).1)
end Mine
end

section
open PySem PySem.W PySem.Calls PyProof.Rows
set_option Elab.async false
set_option maxRecDepth 100000
set_option linter.unusedVariables false
set_option linter.unusedSimpArgs false
namespace Mine

theorem FnAt.mono {m : Loc} {l l' : Led} {i : Nat} {a : Addr} {fo : Obj} {c' : Addr} {oc' : Obj} {P' : Addr} {oP' : Obj} {doc pm : Value} (h : FnAt m l i a fo c' oc' P' oP' doc pm) (k : ∀ p ∈ l, p ∈ l') : FnAt m l' i a fo c' oc' P' oP' doc pm := by
  obtain ⟨h1, h2, h3, h4, h5, h6, h7, h8⟩ := h
  exact ⟨h1, k _ h2, h3, k _ h4, h5, k _ h6, h7, h8⟩
theorem get_dict {g H : Heap} {a : Addr} {m : Loc} (hg : ∀ b o, H.get? b = some o → o ≠ tabObj #[] → g.get? b = some o) (x : H.Ns a m) : g.Ns a m := by
  obtain ⟨o, es, ep, e, hd, r⟩ := x
  exact ⟨o, es, ep, hg _ _ e (fun q => by rw [q] at hd; cases hd), hd, r⟩

theorem libOf {w : World} {H : Heap} {m : Loc} {l : Led} (O : Okk (base0 w.params) mainGlobals H m l) (facts : ∀ i < 27, Fact pw w m l i) (hbm : BmO ⟨pw, w, callerA, base0 w.params, mainGlobals⟩ m l) (hn : ∀ x, (∀ i < 27, x ≠ sName i) → m x = m00 w.params x)
    (sep : ∃ X Y, l = X ++ Y ∧ FnAny m Y 21 noD ∧ FnAny m X 22 noD) :
    ∃ P1 P2, P2 ≠ P1 ∧ H.get? P1 = some (tabObj #[]) ∧ H.get? P2 = some (tabObj #[]) ∧ isCodeTable H P1 ∧ isCodeTable H P2 ∧ (∃ o, (hideAll H [P2, P1]).get? sysModules = some o) ∧
      ∃ (B : Lib pw w (hideAll H [P2, P1]) m (mb0 w.params)) (D1 : TabD B.d21) (D2 : TabD B.d22), D1.P = P1 ∧ D2.P = P2 := by
  have hH : ∀ p ∈ l, H.get? p.1 = some p.2 := fun p hp => (O.nw p hp).1
  obtain ⟨X, Y, hXY, f21, f22⟩ := sep
  obtain ⟨a1, fo1, c1, oc1, P1, oP1, doc1, pm1, F1⟩ := fnAt_of f21
  obtain ⟨a2, fo2, c2, oc2, P2, oP2, doc2, pm2, F2⟩ := fnAt_of f22
  have hne : P2 ≠ P1 := by
    intro e
    have nd := O.nd
    rw [hXY, List.map_append, List.nodup_append] at nd
    exact nd.2.2 P2 (List.mem_map.mpr ⟨_, F2.2.2.2.2.2.1, rfl⟩) P1 (List.mem_map.mpr ⟨_, F1.2.2.2.2.2.1, rfl⟩) e
  have F1 := F1.mono (l' := l) fun p hp => by rw [hXY]; exact List.mem_append_right _ hp
  have F2 := F2.mono (l' := l) fun p hp => by rw [hXY]; exact List.mem_append_left _ hp
  obtain ⟨g1, t1⟩ := fnAt_tab F1 hH
  obtain ⟨g2, t2⟩ := fnAt_tab F2 hH
  have hg : ∀ b o, H.get? b = some o → o ≠ tabObj #[] → (hideAll H [P2, P1]).get? b = some o := by
    intro b o e ho
    refine hideAll_get _ e fun hm => ?_
    simp only [List.mem_cons, List.not_mem_nil, or_false] at hm
    rcases hm with rfl | rfl
    · exact ho (Option.some.inj (e.symm.trans g2))
    · exact ho (Option.some.inj (e.symm.trans g1))
  refine ⟨P1, P2, hne, g1, g2, t1, t2, ?_, ?_⟩
  · obtain ⟨o, ho⟩ := sys0 w.params
    refine ⟨o, hg _ _ (O.fr.keep _ _ ho) ?_⟩
    have : o = boot_o_1 w.params := (Option.some.inj ho).symm
    rw [this]
    intro e
    cases e
  · have nm : ∀ x ∈ (["len", "range", "max", "min", "sum", "chr", "ord", "list"] : List Str), m x = m00 w.params x := fun x hx => hn x (not_names x hx)
    obtain ⟨bm, ob, b1, b2, b3, b4, b5, b6⟩ := hbm
    have gbm : H.get? bm = some ob := hH _ b3
    have ns0 : (hideAll H [P2, P1]).Ns builtinsNs (mb0 w.params) := get_dict hg ((Heap.Ns.of_isNs (isNs0 w.params)).keeps O.fr.keep)
    have ns3 : (hideAll H [P2, P1]).Ns mainGlobals m := get_dict hg O.fr.ns
    have hbg : bm ≠ mainGlobals := (O.nw _ b3).2.1
    have S : Stat m (mb0 w.params) (hideAll H [P2, P1]) := by
      refine ⟨ns3, ns0, ?_, ⟨bm, ob, b1, b2, hbg, hg _ _ gbm (fun e => by rw [e] at b4; cases b4), b4, b5, b6⟩⟩
      obtain ⟨mc, hc1, hc2⟩ := noLimit0 w.params
      exact ⟨mc, get_dict hg (hc1.keeps O.fr.keep), hc2⟩
    have N : Nms m (mb0 w.params) := ⟨⟨(nm _ (by decide)).trans (m00_len _), mb0_len _⟩, ⟨(nm _ (by decide)).trans (m00_range _), mb0_range _⟩, ⟨(nm _ (by decide)).trans (m00_max _), mb0_max _⟩, ⟨(nm _ (by decide)).trans (m00_min _), mb0_min _⟩,
      ⟨(nm _ (by decide)).trans (m00_sum _), mb0_sum _⟩, ⟨(nm _ (by decide)).trans (m00_chr _), mb0_chr _⟩, ⟨(nm _ (by decide)).trans (m00_ord _), mb0_ord _⟩, ⟨(nm _ (by decide)).trans (m00_list _), mb0_list _⟩⟩
    have fn : ∀ i < 27, (nameStm i || i == 5 || i == 7 || decide (i ≤ 3)) = false → FnAny m l i noD := fun i hi h => fact_fn (facts i hi) h
    obtain ⟨dR⟩ := defK_of (name := "bisect_right") rfl (fact_key (facts 1 (by decide)) (by decide)) hH hg
    obtain ⟨dI⟩ := defK_of (name := "insort_left") rfl (fact_key (facts 2 (by decide)) (by decide)) hH hg
    obtain ⟨dL⟩ := defK_of (name := "bisect_left") rfl (fact_key (facts 3 (by decide)) (by decide)) hH hg
    obtain ⟨d6⟩ := def_of (name := "in_table_b1") rfl (fn 6 (by decide) (by decide)) hH hg
    obtain ⟨d8⟩ := def_of (name := "map_table_b3") rfl (fn 8 (by decide) (by decide)) hH hg
    obtain ⟨d11⟩ := def_of (name := "_escape_cdata") rfl (fn 11 (by decide) (by decide)) hH hg
    obtain ⟨d12⟩ := def_of (name := "_escape_attrib") rfl (fn 12 (by decide) (by decide)) hH hg
    obtain ⟨d13⟩ := def_of (name := "_escape_attrib_html") rfl (fn 13 (by decide) (by decide)) hH hg
    obtain ⟨d14⟩ := def_of (name := "_escape_cdata_c14n") rfl (fn 14 (by decide) (by decide)) hH hg
    obtain ⟨d15⟩ := def_of (name := "_escape_attrib_c14n") rfl (fn 15 (by decide) (by decide)) hH hg
    obtain ⟨d17⟩ := def_of (name := "_law_typed") rfl (fn 17 (by decide) (by decide)) hH hg
    obtain ⟨d18⟩ := def_of (name := "_law_prepared") rfl (fn 18 (by decide) (by decide)) hH hg
    obtain ⟨d19⟩ := def_of (name := "_law_written") rfl (fn 19 (by decide) (by decide)) hH hg
    obtain ⟨d20⟩ := def_of (name := "_law_spelled") rfl (fn 20 (by decide) (by decide)) hH hg
    obtain ⟨d21, _, _, e21, h21⟩ := def_mk (name := "_law_both") rfl F1 hH hg
    obtain ⟨d22, _, _, e22, h22⟩ := def_mk (name := "_law_neighbours") rfl F2 hH hg
    obtain ⟨d23⟩ := def_of (name := "_law_longest") rfl (fn 23 (by decide) (by decide)) hH hg
    obtain ⟨d24⟩ := def_of (name := "_law_fewest") rfl (fn 24 (by decide) (by decide)) hH hg
    obtain ⟨d25⟩ := def_of (name := "_law_pieces") rfl (fn 25 (by decide) (by decide)) hH hg
    obtain ⟨d26⟩ := def_of (name := "law") rfl (fn 26 (by decide) (by decide)) hH hg
    have B1 : SetB pw w (hideAll H [P2, P1]) m := by
      have h := facts 5 (by decide)
      unfold Fact at h
      rw [if_neg (by decide), if_pos rfl] at h
      obtain ⟨d, o, n, x1, x2, x3, x4⟩ := h
      have gd : H.get? d = some o := hH _ x2
      exact ⟨d, o, n, x1, hg _ _ gd (fun e => by rw [e] at x4; obtain ⟨_, es, ep, t, hd, _⟩ := x4; cases hd), x3, x4⟩
    have B3 : DictB pw w (hideAll H [P2, P1]) m := by
      have h := facts 7 (by decide)
      unfold Fact at h
      rw [if_neg (by decide), if_neg (by decide), if_pos rfl] at h
      obtain ⟨d, o, kvs, x1, x2, x3, x4⟩ := h
      have gd : H.get? d = some o := hH _ x2
      have hsy : (d == sysModules) = false := by
        refine beq_eq_false_iff_ne.mpr fun e => ?_
        have h0 := (O.nw _ x2).2.2
        obtain ⟨os, hos⟩ := sys0 w.params
        have h0' : (base0 w.params).get? d = none := h0
        rw [e, hos] at h0'; cases h0'
      exact ⟨d, o, kvs, x1, hg _ _ gd (fun e => by
        obtain ⟨o', es, ep, e', hex, hd, _⟩ := x4 H d gd
        rw [gd] at e'
        rw [← Option.some.inj e', e] at hd; cases hd), hsy, x3, x4⟩
    exact ⟨{ S := S, N := N, dR := dR, dI := dI, dL := dL, d6 := d6, d8 := d8, d11 := d11, d12 := d12, d13 := d13, d14 := d14, d15 := d15, d17 := d17, d18 := d18, d19 := d19, d20 := d20, d21 := d21, d22 := d22, d23 := d23, d24 := d24, d25 := d25, d26 := d26, B1 := B1, B3 := B3 },
      ⟨c1, P1, e21, h21⟩, ⟨c2, P2, e22, h22⟩, rfl, rfl⟩
end Mine
end

section
open PySem PySem.W PySem.Calls PyProof.Rows
set_option Elab.async false
set_option maxRecDepth 100000
set_option linter.unusedVariables false
set_option linter.unusedSimpArgs false
namespace Mine

theorem theDefX : PySem.Challenge.pw_uk0022_01.theDef "law" = some (fParams 26, fBody 26, fScope 26) := by kernel_rfl
theorem noDefaults : (fParams 26).defaults = [] := by kernel_rfl
theorem noKw : kwWritten? (fParams 26).kwonlyargs (fParams 26).kw_defaults = some [] := by kernel_rfl
theorem postX (args ds : List WData) : row.toRowW.claim.post args (.bool true) ds = true := by
  have h1 : WShape.has row.records (.bool true) row.returns = true := by decide +kernel
  have h2 : WTm.holds row.records row.post { args := args, res := some (.bool true), after := ds } = true := by
    have hp : row.post = .eq .res (.lit (.bool true)) := rfl
    have hs : same (.bool true) (.bool true) = true := by decide +kernel
    rw [hp]
    unfold WTm.holds
    simp [WTm.value, hs]
  exact Bool.and_eq_true_iff.mpr ⟨h1, h2⟩

theorem pinX {w : World} {s₀ s₁ : Shared} (L : Left w s₀ s₁) : ∀ n ∈ (if row.pinned then [row.name] else []), isTheDefsW row.toRowW.claim.prog s₁.heap n := by
  intro n hn
  obtain rfl : n = ("law" : Str) := List.mem_singleton.mp hn
  obtain ⟨m, l, O, facts, hb, hbm, hnm, hbd, sep⟩ := L.st
  obtain ⟨a, fo, c', oc', P', oP', doc, pm, h1, h2, h3, _⟩ := fnAt_of (fact_fn (facts 26 (by decide)) (by decide))
  have g : globalOf s₁.heap "law" = some (.ref a) := (PySem.Claim2Try.globalOf_of_ns O.fr.ns _).trans h1
  have ga : s₁.heap.get? a = some fo := (O.nw _ h2).1
  exact ⟨a, fo, _, fParams 26, fBody 26, fScope 26, g, ga, by rw [h3], theDefX, rfl, rfl, rfl, rfl, rfl, rfl, rfl, rfl, .inl ⟨noDefaults, rfl⟩, [], noKw, .inl ⟨rfl, rfl⟩⟩

theorem callX {w : World} {s₀ s₁ : Shared} {free : Addr → Prop} {gens : Prop} {kept : Heap → Prop} (hk : ∀ h, kept h) (hz : s₁.asleep) (hgens : s₁.gens = #[]) (L : Left w s₀ s₁) : row.toRowW.claim.CallFrom (callStub row.name) w free gens kept s₁ := by
  obtain ⟨m, l, O, facts, hb, hbm, hnm, hbd, sep⟩ := L.st
  refine ClaimW.callFrom_of_specG (c := row.toRowW.claim) (tree := fun vs => do match ← nsGet mainNs row.name with
      | some f => do ret (← call f vs)
      | none => unsupported "claim.caller:no-such-global") hz hgens fun args hpre hlay ord hord => ?_
  obtain ⟨zs, rfl, hzl⟩ := pre_of hpre
  obtain ⟨ivs, tk, hlaid, hiv⟩ := lay_list (R := row.toRowW.claim.records) (cl := classAt s₁.heap) (P := w.params) (ord := ord) zs s₁
  refine ⟨_, _, hlaid, ?_⟩
  have keeps := layAllW_keeps _ _ _ hlaid
  have hal := layAllW_rest _ _ _ hlaid
  obtain ⟨as, hrd, hin, hold⟩ := reads_layAllW hord _ _ _ hlaid hlay _ (fun _ _ e => e)
  have LD : Laid row.toRowW.claim.records w s₁ _ _ _ as := ⟨⟨ord, hord, hlaid⟩, hrd, hin, hold, keeps, hal.1.trans hgens, hal.2.2.1⟩
  have O2 : Okk (base0 w.params) mainGlobals (s₁.heap.push { cls := .type "list", data := .seq ivs.toArray }) m l := O.grown keeps
  obtain ⟨P1, P2, hne, g1, g2, t1, t2, hsys, B, D1, D2, e1, e2⟩ := libOf O2 facts hbm hnm sep
  generalize hs2 : ({ s₁ with heap := s₁.heap.push { cls := .type "list", data := .seq ivs.toArray }, toks := tk } : Shared) = s2 at *
  have eH : s2.heap = s₁.heap.push { cls := .type "list", data := .seq ivs.toArray } := by rw [← hs2]
  rw [← eH] at O2 g1 g2 t1 t2
  have gl : s2.heap.get? s₁.heap.objs.size = some (lo ivs 0) := by rw [eH]; exact ((O.push (lo ivs)).nw _ List.mem_cons_self).1
  have gg : ∀ b o, (hideAll s2.heap [P2, P1]).get? b = some o → s2.heap.get? b = some o := fun b o e => of_hideAll _ e
  have BG : ∀ b o, (hideAll (s₁.heap.push { cls := .type "list", data := .seq ivs.toArray }) [P2, P1]).get? b = some o → s2.heap.get? b = some o := by rw [← eH]; exact gg
  have hlaw : m row.name = some (.ref B.d26.f) := B.d26.g
  subst hs2
  refine wpAny_bind (wpAny_nsGet (a := mainGlobals) O2.fr.ns ?_)
  rw [hlaw]
  refine wpAny_bind ?_
  have hP1 : P1 ≠ s₁.heap.objs.size := fun e => by
    rw [← e] at gl
    have := Option.some.inj (gl.symm.trans g1); cases this
  have hP2 : P2 ≠ s₁.heap.objs.size := fun e => by
    rw [← e] at gl
    have := Option.some.inj (gl.symm.trans g2); cases this
  have hb1 : ∀ s : Shared, BindsTo s (fnX "law" "law" (fParams 26) (fBody 26) (fScope 26) [] .none .none B.d26.doc B.d26.pm B.d26.an B.d26.cdv B.d26.ct) ⟨[.ref s₁.heap.objs.size], []⟩ [("script", .ref s₁.heap.objs.size)] := fun s => BindsTo.of_eq (by kernel_rfl)
  have hlim : (s₁.heap.push { cls := .type "list", data := .seq ivs.toArray }).NoLimit := by
    obtain ⟨mc, hc1, hc2⟩ := noLimit0 w.params
    exact ⟨mc, hc1.keeps O2.fr.keep, hc2⟩
  show wpAny (model pw w) callerA (call (.ref B.d26.f) [.ref s₁.heap.objs.size]) _ _ _
  with_reducible refine topCall (news := [(P2, tabObj #[]), (P1, tabObj #[])]) (Q := fun v _ l' => v = .bool true ∧ ∃ ps1 ps2 R', l' = (P2, tabObj ps2) :: (P1, tabObj ps1) :: R') ?hn ?hnd hlim (BG _ _ B.d26.get) B.d26.data (B.d26.code.keeps BG) (hb1 _) ?hkind ?hnd2 ?hbody ?hP ?hco ?hgen ?hkk
  case hn =>
    intro p hp
    simp only [List.mem_cons, List.not_mem_nil, or_false] at hp
    rcases hp with rfl | rfl
    · exact g2
    · exact g1
  case hnd => simpa using hne
  case hkind => kernel_rfl
  case hnd2 => decide +kernel
  case hco => kernel_rfl
  case hgen => kernel_rfl
  case hkk => kernel_rfl
  case hbody =>
    intro L' cl cells hcl K Y
    have hsa : (hideAll (s₁.heap.push { cls := .type "list", data := .seq ivs.toArray }) [P2, P1]).get? s₁.heap.objs.size = some (lo ivs 0) := by
      refine hideAll_get _ gl ?_
      simp only [List.mem_cons, List.not_mem_nil, or_false, not_or]
      exact ⟨Ne.symm hP2, Ne.symm hP1⟩
    have main := lawBody (C := ⟨pw, w, callerA.deeper (envX "law" (fScope 26) L' B.d26.f B.d26.cdv cl), hideAll (s₁.heap.push { cls := .type "list", data := .seq ivs.toArray }) [P2, P1], L'⟩) (r := 96) (R := []) (m := fun _ => none) (m1 := bindL (fun x => (fScope 26).names.lookup x) [("script", .ref s₁.heap.objs.size)] fun _ => none)
      (Q := fun v _ l' => v = .bool true ∧ ∃ ps1 ps2 R', l' = (P2, tabObj ps2) :: (P1, tabObj ps1) :: R') hcl K B D1 D2 hsys (Seen.base hsa) hiv hzl Y fun ps1 ps2 R' => ⟨rfl, ps1, ps2, R', by rw [e1, e2]⟩
    rw [e1, e2] at main
    exact main
  case hP =>
    rintro v h' tk' l' ⟨rfl, ps1, ps2, R', rfl⟩ kp mem
    refine wpAny_pure ⟨.ret (.bool true), rfl, ?_⟩
    have m2 : h'.get? P2 = some (tabObj ps2) := mem (P2, tabObj ps2) List.mem_cons_self
    have m1 : h'.get? P1 = some (tabObj ps1) := mem (P1, tabObj ps1) (List.mem_cons_of_mem _ List.mem_cons_self)
    have old : OldK (s₁.heap.push { cls := .type "list", data := .seq ivs.toArray }) h' := by
      refine ⟨fun b o e => ?_, fun b o e => ?_⟩
      · by_cases h2 : b = P2
        · subst h2
          obtain rfl := Option.some.inj (e.symm.trans g2)
          exact .inr (.inl ⟨t2, rfl, #[], ps2, rfl, by rw [m2]; simp⟩)
        · by_cases h1 : b = P1
          · subst h1
            obtain rfl := Option.some.inj (e.symm.trans g1)
            exact .inr (.inl ⟨t1, rfl, #[], ps1, rfl, by rw [m1]; simp⟩)
          · exact .inl (kp b o (hideAll_get _ e (by simp [h1, h2])))
      · by_cases h2 : b = P2
        · exact ⟨_, h2 ▸ m2⟩
        · by_cases h1 : b = P1
          · exact ⟨_, h1 ▸ m1⟩
          · exact ⟨o, kp b o (hideAll_get _ e (by simp [h1, h2]))⟩
    have G : GoodWG row.toRowW.claim (classAt s₁.heap) (ExcName.means s₁.heap) [.list (zs.map WData.int)] { s₁ with heap := s₁.heap.push { cls := .type "list", data := .seq ivs.toArray }, toks := tk } (.ok (.ret (.bool true)))
        { s₁ with heap := h', toks := tk' } :=
      ⟨.inl ⟨.bool true, .bool true, [], rfl, fun cls => rfl, ReadsW.bool _, postX _ _, fun _ => ⟨List.nodup_nil, fun a h => nomatch h⟩⟩, old, rfl, .of_eq hgens⟩
    have z := G.laid (c := row.toRowW.claim) rfl rfl (ident_freeW rfl rfl rfl) LD
    exact ⟨z.1, z.2.1, z.2.2, hk _⟩
end Mine
end

section
open PySem PySem.W PySem.Calls PyProof.Rows
set_option Elab.async false
set_option maxRecDepth 100000
set_option linter.unusedVariables false
set_option linter.unusedSimpArgs false
namespace Mine

/-! the looks at the text, in pieces -/
theorem looksX : looksOpen PySem.Challenge.rw_uk0022_01.row.prog = true := by
  unfold looksOpen
  repeat' with_reducible refine look_both ?_ ?_
  all_goals decide +kernel
theorem rowSaidX : PySem.Challenge.rw_uk0022_01.row.wellSaid = true := by
  unfold OpenRow.wellSaid OpenRow.partSaid
  repeat' with_reducible refine look_both ?_ ?_
  · exact looksX
  all_goals decide +kernel
theorem saidX : PySem.Challenge.rw_uk0022_01.wellSaid = true := by
  unfold OpenLaw.wellSaid
  repeat' with_reducible refine look_both ?_ ?_
  · exact rowSaidX
  all_goals decide +kernel

theorem rowHolds (said : row.wellSaid = true) : row.Holds := by
  refine ⟨said, promisedX, ⟨bareX, opensX, rfl⟩, promisedX.witness, fun w => ⟨(head w).1, fun s hs => ?_⟩⟩
  obtain ⟨s₀, h5, hg0, hh, z, s₁, s₂, hrun, hl, hf, hL⟩ := (head w).2 s hs
  obtain ⟨TR, L⟩ := topRan hh hg0 hrun hl hf hL
  refine ⟨s₀, h5, hg0, s₁, TR, pinX L, fun x hx => ?_, fun x hx => ?_, ?_⟩
  · exact absurd hx (by show x ∉ []; exact List.not_mem_nil)
  · exact absurd hx (by show x ∉ []; exact List.not_mem_nil)
  · exact callX (fun h q => absurd q (by decide)) (Shared.asleep_of_life hl z) (L.gens.trans hg0) L
end Mine
end
end

open PySem PySem.W PyProof.Rows
set_option maxRecDepth 100000 in
set_option maxHeartbeats 8000000 in
theorem PySem.Challenge.cw_uk0022_01_holds : PySem.Challenge.rw_uk0022_01.Holds :=
  ⟨Mine.saidX, Mine.rowHolds Mine.rowSaidX⟩
